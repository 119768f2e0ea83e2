import PyProof.Rows.All
import Wide.All
import OpenK.KSplit
import OpenK.KNot
import OpenK.KApp
import KE.KPop
import KE.KListMore
import KE.RegKMod
import KE.KDictOf
import KE.KDictMeth
import KE.KEqSeq
import KE.KSlice
import KE.GnPush
import KE.KSorted
import KE.KJoinElse
import KE.RegTryLedger
import KE.KTops
import KE.RegKSuper
import KE.KSort
import KE.KDictLoop
import KE.RegLcTurns
import KE.RegLcAnyAll
import KE.KCat
import KE.KTemps
import KE.KTup
import KE.KxMul
import KE.KxSplit
import KE.KxIndex
import KE.KxText
import KE.KCells
import KE.KPassesOwn
import KE.RegKIsNot
import KE.KTempsTwo
import KE.KSetInts
import KE.KSortedL
import KE.KxBytes
import KE.KClos
import KE.KNestStore
import KE.KOwnIter
import KE.KStopIter
import KE.RegKBase
import KE.KDictOne
import KE.RegKMathG
import KE.KDictAny
import KE.RegKCallOwn
import KE.KSliceW
import KE.KxDecode
import KE.RegKMathGB
import KE.KLam
import KE.KDictBranch
import KE.KTree
import KE.KTreeB
import KE.KNestM
import KE.KDflt
import KE.KOwnIterCall
import KE.KSortedM
import KE.KTurns
import KE.KEqText
import KE.KxLen
import KE.RegKMathGC
import KE.KIsClose
import KE.KEqDict
import KE.KDisp
import KE.KDictAnyGet
import KE.KDictObj
import KE.KSetIn
import KE.KRevSl
import KE.KEqDeep
import KE.KAnyBase
import KE.KBoundM
import KE.KWhile
import KE.KRevIter
import KE.KCount
import KE.KTreeR
import KE.KxStill
import KE.KFinally
import KE.KTopLam
import KE.KWithOwn
import KE.KCases
import KE.KOpsOwn
import KE.KDictNew
import KE.KDictList
import KE.KDictIter
import KE.RegKUnpackStar
import KE.KSortAsk
import KE.KWhileD
import KE.KLcTest
import KE.KSumEnd
import KE.KPopAny
import KE.KGrown
import KE.KItemAt
import KE.KTextLit
import KE.KTupDict
import KE.KFmtOwn
import KE.KUnrMore
import KE.KMinKey
import KE.KTurnsDict
import KE.KExtendNil
import KE.KMethU
import KE.BytesMul
import KE.KCompFold
import KE.KDictSum
import KE.KDictName
import KE.KDictSym
import KE.KTurnsAny
import KE.KDictAnyTail
import KE.RegKStar
import KE.RegKParD
import KE.RegKTupTruth
import KE.RegKTupSum
import KE.KCallJoin
import KE.KMethJoin
import KE.KPathRangeEnd
import KE.KStateW
import KE.RegKParC
import KE.KxWritten
import KE.KxAdd
import KE.KxAffix
import KE.KxField
import KE.RegKIsAll
import KE.RegKMatchCls
import KE.KLcPair
import KE.RegKTryDeep
import KE.KJoinL
import KE.RegKNeg
import KE.KxPercentT
import KE.KBytesCut
import KE.KCellOne
import KE.KCompIf
import KE.KMenu
import KE.KxFormat
import KE.KTypeName
import KE.KCompText
import KE.BytesMulAny
import KE.KDictSymLen
import KE.KSortTup
import KE.KPairAssign
import KE.KTypeOf
import KE.KFinEnd
import KE.KMulAny
import KE.KBytesMenu
import KE.KTextDict
import KE.KPathShort
import KE.KSplitRange
import KE.KKinds
import KE.KxPart
import KE.KRangeItem
import KE.KDictLetter
import KE.KRangeNest
import KE.KSetAt
import KE.KWords
import KE.KxTruthy
import KE.KPairRows
import KE.KBytesMore
import KE.RegKStateDown
import KE.KItemsList
import KE.KRangePlain
import KE.KStateGiven
import KE.KBitsMul
import KE.KTextTable
import KE.KForList
import KE.KIdxIf
import KE.KAssignIn
import KE.KFirstTurn
import KE.KOwnRange
import KE.KLooksOwn
import KE.KDictWord
import KE.KStrOpen
import KE.KTurnsGround
import KE.KListEnd
import KE.KSearch
import KE.KFinFacts
import KE.RegKTryOn
import KE.KCenter
import KE.KStrWords
import KE.KStateTextK
import KE.KBools
import KE.KStateWGiven
import KE.KData
import KE.KCallTup
import KE.KTreeD
import KE.KTreeF
import KE.KEndWord
import KE.KStateBytes
import KE.KRangeEnd
import KE.KOf
import KE.KRepItem
import KE.KListLetter
import KE.KSliceSign
import KE.KCallBy
import KE.KToBytes
import KE.KPathText
import KE.KMinBuiltin
import KE.KFromBytes
import KE.KEqDat
import KE.KBytesUnr
import KE.KIsBytes
import KE.KCallRec
import KE.KEndW
import KE.RegLGe
import KE.RegLGeC
import Wide.FinOn
import PyProof.FactsAll.range_1
import PyProof.SeqInW
import PySem.Challenge.RW_sc0094_01
set_option Elab.async false
noncomputable section
open PySem PySem.W PyProof.Rows
namespace Mine
noncomputable def hdTree : List Obj → Nat → BT → Option BT
  | [], _, t => some t
  | o :: l, n, t => match ((t.ins n o).get n).isSome with
    | true => hdTree l (n + 1) (t.ins n o)
    | false => none
theorem hdTree_abs {life : Life} : ∀ (l : List Obj) (n : Nat) (t t' : BT), hdTree l n t = some t' → absHeap t' (n + l.length) life = ⟨((absHeap t n life).objs.toList ++ l).toArray, life⟩
  | [], n, t, t', h => by
    cases h
    simp [absHeap]
  | o :: l, n, t, t', h => by
    unfold hdTree at h
    cases g : ((t.ins n o).get n).isSome with
    | false => rw [g] at h; cases h
    | true =>
      rw [g] at h
      have e := hdTree_abs (life := life) l (n + 1) (t.ins n o) t' h
      rw [absHeap_ins g] at e
      rw [List.length_cons, show n + (l.length + 1) = n + 1 + l.length by omega, e]
      simp [Heap.push]
noncomputable def hdRunT (tb : String → Option Builtin) (p : Program) (w : World) (n₀ : Nat) (ann : Option Value) : Nat → SharedT → Thread → Option SharedT
  | 0, _, _ => none
  | n + 1, s, t => match through t with
    | true => some s
    | false => match stepOk n₀ ann t with
      | false => none
      | true => match stepT (denote tb) p w s t with
        | some (s', t') => hdRunT tb p w n₀ ann n s' t'
        | none => none
theorem hdRun_of {tb : String → Option Builtin} {p : Program} {w : World} {n₀ : Nat} {ann : Option Value} : ∀ {n : Nat} {s s' : SharedT} {t : Thread}, hdRunT tb p w n₀ ann n s t = some s' → topRun tb p w n₀ ann n s.abs t = some s'.abs
  | 0, _, _, _, h => by cases h
  | n + 1, s, s', t, h => by
    unfold hdRunT at h
    unfold topRun
    cases he : through t with
    | true => rw [he] at h; cases h; rfl
    | false =>
      rw [he] at h
      cases hk : stepOk n₀ ann t with
      | false => rw [hk] at h; cases h
      | true =>
        rw [hk] at h
        cases hs : stepT (denote tb) p w s t with
        | none => rw [hs] at h; cases h
        | some r => obtain ⟨s₂, t₂⟩ := r; rw [hs] at h; rw [stepT_spec hs]; exact hdRun_of h
noncomputable def hdFast (tb : String → Option Builtin) (p : Program) (w : World) (N : Nat) (s : Shared) : Option Shared :=
  match s.heap.isNs mainGlobals && s.gens.size == 0 with
  | true => (hdTree s.heap.objs.toList 0 .nil).bind fun T =>
      (hdRunT tb p w s.heap.objs.size (s.heap.nsMap mainGlobals "__annotations__") N ⟨T, s.heap.objs.size, s.heap.life, s.gens, s.drawn, s.toks, s.os⟩ (topStub p)).bind fun T₁ =>
        match staticsOk (importedModules p.main.body) s.heap T₁.abs.heap && namesBound p T₁.abs.heap && gensDone T₁.abs && laidKept s.heap T₁.abs.heap with
        | true => some T₁.abs
        | false => none
  | false => none
theorem hdFast_of {tb : String → Option Builtin} {p : Program} {w : World} {N : Nat} {s s₁ : Shared} (h : hdFast tb p w N s = some s₁) : topFrom tb p w N s = some s₁ := by
  unfold hdFast at h
  unfold topFrom
  cases g : (s.heap.isNs mainGlobals && s.gens.size == 0) with
  | false => rw [g] at h; cases h
  | true =>
    rw [g] at h
    obtain ⟨T, e, h⟩ := Option.bind_eq_some_iff.mp h
    obtain ⟨T₁, e', h⟩ := Option.bind_eq_some_iff.mp h
    have ea : SharedT.abs ⟨T, s.heap.objs.size, s.heap.life, s.gens, s.drawn, s.toks, s.os⟩ = s := by
      have := hdTree_abs (life := s.heap.life) s.heap.objs.toList 0 .nil T e
      obtain ⟨⟨⟨l⟩, lf⟩, gs, d, k, os⟩ := s
      simp only [SharedT.abs]
      simp [absHeap, BT.list] at this ⊢
      exact this
    have r := hdRun_of e'
    rw [ea] at r
    show (topRun tb p w s.heap.objs.size (s.heap.nsMap mainGlobals "__annotations__") N s (topStub p)).bind _ = _
    rw [r]
    exact h
theorem hdLift {tb : String → Option Builtin} {p : Program} {w : World} {N : Nat} {α : Type} {f : Shared → α} {v : α} (h : ((fencedOpening tb p w N).bind (hdFast tb p w N)).map f = some v) : (openEnds tb p w N).map f = some v := by
  obtain ⟨s₁, h, e⟩ := Option.map_eq_some_iff.mp h
  obtain ⟨s, h1, h2⟩ := Option.bind_eq_some_iff.mp h
  unfold openEnds
  rw [h1, Option.bind_some, hdFast_of h2, Option.map_some, e]
noncomputable def hdQ : Program := view PySem.Challenge.pw_sc0094_01 [0, 1, 3, 4, 5, 6, 7, 8, 9, 11, 13, 14, 15, 16, 18, 20, 21, 22]
noncomputable abbrev hdL : List PySem.Str := [PySem.Str.ofString "_twin_re_1", PySem.Str.ofString "_twin_re_2", PySem.Str.ofString "Whitespace"]
set_option maxRecDepth 100000 in
theorem hdSaid : OpenLaw.wellSaid PySem.Challenge.rw_sc0094_01 = true := by decide +kernel
local macro_rules | `(tactic| o_head $H) => `(tactic| (assumption; exact $H))
set_option maxRecDepth 100000 in
set_option maxHeartbeats 0 in
noncomputable def hdK : PSigma (fun _ : Hook => PySem.Challenge.rw_sc0094_01.row.Holds → PySem.Challenge.rw_sc0094_01.row.Holds) := by
  w_on
  refine ⟨?H, fun h => ?z⟩
  rotate_left
  k_head
noncomputable abbrev hdA : List Addr := [2, 3, 32, 34, 35, 37, 38, 39, 41, 42, 44, 45, 46, 48, 49, 51, 52, 53, 55, 56, 58, 59, 60, 62, 63, 65, 66, 67, 69, 70, 72, 73, 74, 76, 77, 79, 80, 88, 90, 91, 93, 94, 95, 97, 98, 100, 101, 102, 104, 105, 107, 108, 109, 111, 112, 114, 115, 116, 117, 118, 119, 120, 126, 127, 131, 132, 133, 135, 136, 138, 139, 150, 152, 153, 155, 156, 157, 159, 160, 162, 163, 164, 166, 167, 169, 170, 171, 173, 174, 176, 177, 178, 180, 181, 183, 184, 185, 187, 188, 190, 191, 192, 194, 195, 197, 198, 199, 200, 201, 202, 203, 206, 208, 209, 211, 212, 213, 216, 217, 218, 221, 222]
theorem hdE : ∀ P, hdA = (hdK.heap_1 P).map (·.1) := fun _ => by kernel_rfl
theorem hdF : ∀ w : World, ((fencedOpening treeTable PySem.Challenge.pw_sc0094_01 (w.withFollow "special-get-raises" false) 2864).bind (hdFast treeTable PySem.Challenge.pw_sc0094_01 (w.withFollow "special-get-raises" false) 2864)).map (fun s => (openSeen hdQ hdL (importedModules PySem.Challenge.pw_sc0094_01.main.body) (fun s => xlAt hdQ [] s && recOk (RowW.records (OpenRow.toRowW PySem.Challenge.rw_sc0094_01.row)) s) true s, Hook.obs (kmHook hdK.heap_1 hdA hdE [207, 61, 54]) s)) = some (openGood hdQ hdL, Hook.val (kmHook hdK.heap_1 hdA hdE [207, 61, 54]) (w.withFollow "special-get-raises" false)) := by
  intro w
  kernel_rfl
theorem hdT : ∀ w : World, ((fencedOpening treeTable PySem.Challenge.pw_sc0094_01 (w.withFollow "special-get-raises" true) 2864).bind (hdFast treeTable PySem.Challenge.pw_sc0094_01 (w.withFollow "special-get-raises" true) 2864)).map (fun s => (openSeen hdQ hdL (importedModules PySem.Challenge.pw_sc0094_01.main.body) (fun s => xlAt hdQ [] s && recOk (RowW.records (OpenRow.toRowW PySem.Challenge.rw_sc0094_01.row)) s) true s, Hook.obs (kmHook hdK.heap_1 hdA hdE [207, 61, 54]) s)) = some (openGood hdQ hdL, Hook.val (kmHook hdK.heap_1 hdA hdE [207, 61, 54]) (w.withFollow "special-get-raises" true)) := by
  intro w
  kernel_rfl
theorem hdLeft : LeftO PySem.Challenge.pw_sc0094_01 hdQ hdL (fun s => xlAt hdQ [] s && recOk (RowW.records (OpenRow.toRowW PySem.Challenge.rw_sc0094_01.row)) s) (Hook.obs (kmHook hdK.heap_1 hdA hdE [207, 61, 54])) (Hook.val (kmHook hdK.heap_1 hdA hdE [207, 61, 54])) 2864 :=
  byRow2 "special-get-raises" (fun w => hdLift (hdF w)) (fun w => hdLift (hdT w))
set_option maxRecDepth 100000 in
set_option maxHeartbeats 0 in
noncomputable def hd := fun hc => (⟨hdSaid, holds_open (r := PySem.Challenge.rw_sc0094_01.row) (q := hdQ) (loose := hdL) (Xt := (fun s => xlAt hdQ [] s && recOk (RowW.records (OpenRow.toRowW PySem.Challenge.rw_sc0094_01.row)) s)) (XP := XL hdQ []) (Yf := Hook.obs (kmHook hdK.heap_1 hdA hdE [207, 61, 54])) (Ya := Hook.val (kmHook hdK.heap_1 hdA hdE [207, 61, 54])) (YP := Hook.says (kmHook hdK.heap_1 hdA hdE [207, 61, 54])) (N := 2864) hdLeft (Hook.of (kmHook hdK.heap_1 hdA hdE [207, 61, 54])) (Hook.keeps (kmHook hdK.heap_1 hdA hdE [207, 61, 54])) (fun s e => xl_of s (Bool.and_eq_true_iff.mp e).1) XL.keeps (by rfl) (by rfl) (by rfl) (fun s e => recFacts_of (Bool.and_eq_true_iff.mp e).2) (by rfl) (row_said hdSaid) (by decide +kernel) ⟨rfl, rfl, rfl, rfl, rfl, by decide +kernel⟩ (by w_witness2) hc⟩ : PySem.Challenge.rw_sc0094_01.Holds)
end Mine
end

local macro_rules | `(tactic| omega) => `(tactic| ((fail_if_success (fail_if_success omega +splitDisjunctions)); first | lia | omega +splitDisjunctions))

noncomputable section
open PySem PySem.W PySem.Calls PyProof.Rows
namespace Mine

noncomputable def dig (b : Nat) (x : Int) (j : Nat) : Int := x / 2 ^ (b * j) % 2 ^ b
noncomputable def Put (b : Nat) (x : Int) (L k : Nat) (ns ns' : List Int) : Prop := ns'.length = ns.length ∧ ∀ i, ns'[i]? = if L ≤ i ∧ i < L + k then some (dig b x (i - L)) else ns[i]?

theorem xor_low {x : Int} (hx : 0 ≤ x) (s : Nat) : Builtin.bitXor x (x.fdiv (2 ^ s) * 2 ^ s) = x % 2 ^ s := by
  have hp : (0 : Int) < 2 ^ s := Int.pow_pos (by decide)
  have e1 : x.fdiv (2 ^ s) = x / 2 ^ s := Int.fdiv_eq_ediv_of_nonneg _ (Int.le_of_lt hp)
  rw [e1]
  have hy : 0 ≤ x / 2 ^ s * 2 ^ s := Int.mul_nonneg (Int.ediv_nonneg hx (Int.le_of_lt hp)) (Int.le_of_lt hp)
  have ha : Builtin.bitAnd x (x / 2 ^ s * 2 ^ s) = x / 2 ^ s * 2 ^ s := by
    obtain ⟨n, rfl⟩ := Int.eq_ofNat_of_zero_le hx
    have hy2 : ((n : Int) / 2 ^ s * 2 ^ s) = ((n / 2 ^ s * 2 ^ s : Nat) : Int) := by simp
    rw [hy2, bitAnd_pp (by omega) (by omega)]
    have : (n : Int).toNat &&& ((n / 2 ^ s * 2 ^ s : Nat) : Int).toNat = n / 2 ^ s * 2 ^ s := by
      rw [Int.toNat_natCast, Int.toNat_natCast]
      apply Nat.eq_of_testBit_eq
      intro i
      rw [Nat.testBit_and, ← Nat.shiftLeft_eq, ← Nat.shiftRight_eq_div_pow, Nat.testBit_shiftLeft, Nat.testBit_shiftRight]
      by_cases h : s ≤ i
      · have : s + (i - s) = i := by omega
        simp [h, this]
      · simp [h]
    rw [this]
  rw [bitXor_and, ha]
  have := Int.emod_def x (2 ^ s)
  rw [this, Int.mul_comm (2 ^ s)]
  omega

theorem dd {x P Q : Int} (hP : 0 < P) : x / P / Q = x / (P * Q) := by
  rw [Int.ediv_ediv, if_neg (fun h => by omega), Int.sub_zero]

theorem half_sum (L k : Nat) : ((L : Int) + ((L + k : Nat) : Int)).fdiv (2 ^ (1 : Int).toNat) = ((L + k / 2 : Nat) : Int) := by
  have : (2 : Int) ^ (1 : Int).toNat = 2 := rfl
  rw [this, Int.fdiv_eq_ediv_of_nonneg _ (by decide)]
  omega

theorem put_one {b L : Nat} {x : Int} {ns : List Int} (hL : L < ns.length) (h0 : 0 ≤ x) (h1 : x < 2 ^ (b * 1)) : Put b x L 1 ns (ns.set L x) := by
  refine ⟨List.length_set .., fun i => ?_⟩
  rw [List.getElem?_set]
  by_cases h : L = i
  · subst h
    rw [if_pos rfl, if_pos hL, if_pos (by omega)]
    have : x % 2 ^ b = x := Int.emod_eq_of_lt h0 (by rwa [Nat.mul_one] at h1)
    simp [dig, this]
  · rw [if_neg h, if_neg (by omega)]

theorem dig_low {b m j : Nat} {x : Int} (hj : j < m) : dig b (x % 2 ^ (b * m)) j = dig b x j := by
  unfold dig
  have e : b * m = b * j + (b * (m - j - 1) + b) := by
    have : m = j + (m - j - 1 + 1) := by omega
    generalize m - j - 1 = r at this
    subst this
    rw [Nat.mul_add, Nat.mul_add, Nat.mul_one]
  rw [e, Int.pow_add]
  have hp : (0 : Int) < 2 ^ (b * j) := Int.pow_pos (by decide)
  generalize (2 : Int) ^ (b * j) = P at *
  rw [Int.pow_add]
  generalize (2 : Int) ^ (b * (m - j - 1)) = U
  generalize (2 : Int) ^ b = B
  have e1 : x % (P * (U * B)) / P = x / P % (U * B) := by
    rw [Int.emod_def, Int.emod_def, ← dd hp]
    have : x - P * (U * B) * (x / P / (U * B)) = x + P * (-(U * B * (x / P / (U * B)))) := by
      rw [Int.mul_neg, Int.mul_assoc]; omega
    rw [this, Int.add_mul_ediv_left _ _ (Int.ne_of_gt hp)]
    omega
  rw [e1, Int.mul_comm U B]
  exact Int.emod_emod_of_dvd _ ⟨U, rfl⟩
theorem dig_high {b m j : Nat} {x : Int} : dig b (x / 2 ^ (b * m)) j = dig b x (m + j) := by
  unfold dig
  rw [Nat.mul_add, Int.pow_add, dd (Int.pow_pos (by decide))]

theorem put_two {b L m k : Nat} {x : Int} {ns ns1 ns2 : List Int} (hm : m ≤ k) (h1 : Put b (x % 2 ^ (b * m)) L m ns ns1) (h2 : Put b (x / 2 ^ (b * m)) (L + m) (k - m) ns1 ns2) : Put b x L k ns ns2 := by
  refine ⟨h2.1.trans h1.1, fun i => ?_⟩
  rw [h2.2 i]
  by_cases h : L + m ≤ i ∧ i < L + m + (k - m)
  · rw [if_pos h, if_pos (by omega), dig_high]
    congr 2
    omega
  · rw [if_neg h, h1.2 i]
    by_cases q : L ≤ i ∧ i < L + m
    · rw [if_pos q, if_pos (by omega), dig_low (by omega)]
    · rw [if_neg q, if_neg (by omega)]
theorem pow_split {b m k : Nat} (hm : m ≤ k) : (2 : Int) ^ (b * k) = 2 ^ (b * m) * 2 ^ (b * (k - m)) := by
  rw [← Int.pow_add, ← Nat.mul_add]
  congr 2
  omega
theorem high_lt {b m k : Nat} {x : Int} (hm : m ≤ k) (h1 : x < 2 ^ (b * k)) : x / 2 ^ (b * m) < 2 ^ (b * (k - m)) := by
  rw [pow_split hm, Int.mul_comm] at h1
  exact Int.ediv_lt_of_lt_mul (Int.pow_pos (by decide)) h1
theorem bits_le_pow {x : Int} {M : Nat} (h0 : 0 ≤ x) (h : x < 2 ^ M) : Builtin.Int.intBits x ≤ M := by
  obtain ⟨n, rfl⟩ := Int.eq_ofNat_of_zero_le h0
  unfold Builtin.Int.intBits
  split
  · omega
  · rename_i hne
    have hn : n ≠ 0 := by
      intro e; subst e; simp at hne
    have h2 : n < 2 ^ M := by
      have : ((n : Int)) < ((2 ^ M : Nat) : Int) := by simpa using h
      exact Int.ofNat_lt.mp this
    have := (Nat.log2_lt hn).mpr h2
    show n.log2 + 1 ≤ M
    omega

noncomputable def val (b : Nat) : List Int → Int
  | [] => 0
  | d :: r => d + 2 ^ b * val b r
theorem val_append (b : Nat) (xs ys : List Int) : val b (xs ++ ys) = val b xs + 2 ^ (b * xs.length) * val b ys := by
  induction xs with
  | nil => simp [val]
  | cons d r ih =>
    show d + 2 ^ b * val b (r ++ ys) = d + 2 ^ b * val b r + 2 ^ (b * (r.length + 1)) * val b ys
    rw [ih, Nat.mul_add, Nat.mul_one, Nat.add_comm (b * r.length), Int.pow_add, Int.mul_add, Int.mul_assoc]
    omega
theorem val_bound {b : Nat} {xs : List Int} (h : ∀ d ∈ xs, 0 ≤ d ∧ d < 2 ^ b) : 0 ≤ val b xs ∧ val b xs < 2 ^ (b * xs.length) := by
  induction xs with
  | nil => simp [val]
  | cons d r ih =>
    obtain ⟨h1, h2⟩ := h d (.head _)
    obtain ⟨i1, i2⟩ := ih fun x hx => h x (.tail _ hx)
    have hp : (0 : Int) < 2 ^ b := Int.pow_pos (by decide)
    have e : (2 : Int) ^ (b * (d :: r).length) = 2 ^ b * 2 ^ (b * r.length) := by
      rw [List.length_cons, Nat.mul_add, Nat.mul_one, Nat.add_comm, Int.pow_add]
    rw [e]
    show 0 ≤ d + 2 ^ b * val b r ∧ d + 2 ^ b * val b r < _
    have h3 : 0 ≤ 2 ^ b * val b r := Int.mul_nonneg (Int.le_of_lt hp) i1
    have h4 : 2 ^ b * (val b r + 1) ≤ 2 ^ b * 2 ^ (b * r.length) := Int.mul_le_mul_of_nonneg_left i2 (Int.le_of_lt hp)
    rw [Int.mul_add, Int.mul_one] at h4
    omega
noncomputable def part (L k : Nat) (ns : List Int) : List Int := (ns.drop L).take k
theorem part_len {L k : Nat} {ns : List Int} (h : L + k ≤ ns.length) : (part L k ns).length = k := by
  unfold part
  rw [List.length_take, List.length_drop]
  omega
theorem part_mem {L k : Nat} {ns : List Int} {P : Int → Prop} (h : ∀ d ∈ ns, P d) : ∀ d ∈ part L k ns, P d := fun d hd => h d (List.mem_of_mem_drop (List.mem_of_mem_take hd))
theorem part_one {L : Nat} {ns : List Int} (h : L < ns.length) (b : Nat) : val b (part L 1 ns) = ns.getD L 0 := by
  have e : part L 1 ns = [ns[L]] := by
    unfold part
    rw [List.drop_eq_getElem_cons h]
    rfl
  rw [e]
  show ns[L] + 2 ^ b * 0 = _
  simp [h]
theorem part_two {L m k : Nat} {ns : List Int} (hm : m ≤ k) (h : L + k ≤ ns.length) (b : Nat) : val b (part L k ns) = val b (part (L + m) (k - m) ns) * 2 ^ (b * m) + val b (part L m ns) := by
  have e : part L k ns = part L m ns ++ part (L + m) (k - m) ns := by
    unfold part
    rw [← List.drop_drop, ← List.take_append_drop m ((ns.drop L).take k), List.take_take, Nat.min_eq_left hm, List.drop_take]
  rw [e, val_append, part_len (by omega), Int.mul_comm]
  omega
theorem part_all {ns : List Int} : part 0 ns.length ns = ns := by simp [part]

theorem lt_pow_bits {x : Int} (h0 : 0 ≤ x) : x < 2 ^ Builtin.Int.intBits x := by
  obtain ⟨n, rfl⟩ := Int.eq_ofNat_of_zero_le h0
  unfold Builtin.Int.intBits
  split
  · rename_i h
    have : (n : Int) = 0 := by simpa using h
    rw [this]; decide
  · have h2 : n < 2 ^ (n.log2 + 1) := Nat.lt_log2_self
    have h3 : ((n : Int)) < ((2 ^ (n.log2 + 1) : Nat) : Int) := Int.ofNat_lt.mpr h2
    simpa using h3
theorem bits_pos {x : Int} (h0 : 0 < x) : 1 ≤ Builtin.Int.intBits x := by
  unfold Builtin.Int.intBits
  split
  · rename_i h
    have : x = 0 := by simpa using h
    omega
  · omega
noncomputable def figs (a : Int) (B : Nat) : Nat := (Builtin.Int.intBits a + B - 1) / B
theorem figs_is {a : Int} {B : Nat} (hB : 1 ≤ B) : ((Builtin.Int.intBits a : Int) + (B : Int) - 1).fdiv (B : Int) = (figs a B : Int) := by
  rw [Int.fdiv_eq_ediv_of_nonneg _ (by omega)]
  unfold figs
  rw [show ((Builtin.Int.intBits a : Int) + (B : Int) - 1) = ((Builtin.Int.intBits a + B - 1 : Nat) : Int) by omega]
  rfl
theorem figs_lt {a : Int} {B : Nat} (ha : 0 ≤ a) (hB : 1 ≤ B) : a < 2 ^ (B * figs a B) := by
  refine Int.lt_of_lt_of_le (lt_pow_bits ha) ?_
  have : Builtin.Int.intBits a ≤ B * figs a B := by
    unfold figs
    have := Nat.div_add_mod (Builtin.Int.intBits a + B - 1) B
    have h2 := Nat.mod_lt (Builtin.Int.intBits a + B - 1) (show 0 < B by omega)
    omega
  have h3 : (2 : Nat) ^ Builtin.Int.intBits a ≤ 2 ^ (B * figs a B) := Nat.pow_le_pow_right (by decide) this
  have : ((2 ^ Builtin.Int.intBits a : Nat) : Int) ≤ ((2 ^ (B * figs a B) : Nat) : Int) := Int.ofNat_le.mpr h3
  simpa using this

theorem dig_bound (b : Nat) (x : Int) (j : Nat) : 0 ≤ dig b x j ∧ dig b x j < 2 ^ b :=
  ⟨Int.emod_nonneg _ (Int.ne_of_gt (Int.pow_pos (by decide))), Int.emod_lt_of_pos _ (Int.pow_pos (by decide))⟩
theorem top_step {B c i : Nat} {a : Int} (hi : i < c) : a / 2 ^ (B * (c - (i + 1))) = a / 2 ^ (B * (c - i)) * 2 ^ B + dig B a (c - 1 - i) := by
  have e : c - i = (c - (i + 1)) + 1 := by omega
  have e2 : c - 1 - i = c - (i + 1) := by omega
  rw [e, e2]
  generalize c - (i + 1) = j
  unfold dig
  rw [Nat.mul_add, Nat.mul_one, Int.pow_add, ← dd (Int.pow_pos (by decide))]
  have := Int.mul_ediv_add_emod (a / 2 ^ (B * j)) (2 ^ B)
  rw [Int.mul_comm]
  omega
theorem long_step {A b d r : Int} {B : Nat} (hb : 0 < b) (hr : A % b = r) : (A * 2 ^ B + d) / b = (r * 2 ^ B + d) / b + 2 ^ B * (A / b) ∧ (A * 2 ^ B + d) % b = (r * 2 ^ B + d) % b := by
  have hA := Int.mul_ediv_add_emod A b
  rw [hr] at hA
  generalize A / b = q at *
  have e : A * 2 ^ B + d = (r * 2 ^ B + d) + b * (2 ^ B * q) := by
    rw [← hA, Int.add_mul, Int.mul_assoc, Int.mul_comm q]
    omega
  rw [e, Int.add_mul_ediv_left _ _ (Int.ne_of_gt hb), Int.add_mul_emod_self_left]
  exact ⟨rfl, rfl⟩
theorem long_bound {r d b : Int} {B : Nat} (hb : 0 < b) (hr0 : 0 ≤ r) (hr : r < b) (hd0 : 0 ≤ d) (hd : d < 2 ^ B) : 0 ≤ (r * 2 ^ B + d) / b ∧ (r * 2 ^ B + d) / b < 2 ^ B := by
  have hp : (0 : Int) < 2 ^ B := Int.pow_pos (by decide)
  have h1 : 0 ≤ r * 2 ^ B := Int.mul_nonneg hr0 (Int.le_of_lt hp)
  refine ⟨Int.ediv_nonneg (by omega) (Int.le_of_lt hb), Int.ediv_lt_of_lt_mul hb ?_⟩
  have h2 : (r + 1) * 2 ^ B ≤ b * 2 ^ B := Int.mul_le_mul_of_nonneg_right hr (Int.le_of_lt hp)
  rw [Int.add_mul, Int.one_mul] at h2
  rw [Int.mul_comm (2 ^ B)]
  omega
end Mine
end

noncomputable section
namespace Mine
noncomputable def ws (c : Nat) : Bool := c == 10 || c == 9 || c == 13 || c == 32
noncomputable def nls (l : List Nat) : Int := (l.count 10 : Nat)
noncomputable def quoted (acc : List Nat) : List Nat → List Nat × List Nat
  | [] => (acc, [])
  | c :: r => if c = 34 then (acc, r) else if c = 92 then (match r with | [] => (acc, []) | d :: r' => quoted (acc ++ [d]) r') else quoted (acc ++ [c]) r
noncomputable def bare (acc : List Nat) : List Nat → List Nat × List Nat
  | [] => (acc, [])
  | c :: r => if ws c then (acc, r) else if c = 92 then (match r with | [] => (acc, []) | d :: r' => bare (acc ++ [d]) r') else bare (acc ++ [c]) r
noncomputable def word : List Nat → List Nat × List Nat
  | [] => ([], [])
  | c :: r => if ws c then word r else if c = 34 then quoted [] r else if c = 92 then (match r with | [] => ([], []) | d :: r' => bare [d] r') else bare [c] r
theorem nls_cons (c : Nat) (r : List Nat) : nls (c :: r) = nls r + (if c = 10 then 1 else 0) := by
  unfold nls
  rw [List.count_cons]
  by_cases h : c = 10 <;> simp [h]
end Mine
end

noncomputable section
open PySem PySem.W PySem.Calls PyProof.Rows
namespace Mine
theorem sub_one_dvd (x : Int) (n : Nat) : (x - 1) ∣ (x ^ n - 1) := by
  induction n with
  | zero => exact ⟨0, by simp⟩
  | succ n ih =>
    obtain ⟨c, hc⟩ := ih
    refine ⟨x * c + 1, ?_⟩
    have e : x ^ (n + 1) - 1 = x * (x ^ n - 1) + (x - 1) := by
      rw [Int.pow_succ, Int.mul_sub, Int.mul_comm x (x ^ n)]; omega
    rw [e, hc, Int.mul_add, Int.mul_one, Int.mul_left_comm]
noncomputable abbrev fulls (wd z : Nat) : Int := 2 ^ (z * wd) - 1
theorem pow_gt (n : Nat) : (0 : Int) < 2 ^ n := Int.pow_pos (by decide)
theorem fulls_nonneg (wd z : Nat) : 0 ≤ fulls wd z := by
  have := pow_gt (z * wd)
  unfold fulls; omega
theorem fulls_pos {wd z : Nat} (hw : 2 ≤ wd) (hz : 2 ≤ z) : 0 < fulls wd z := by
  have h : 2 ^ 4 ≤ 2 ^ (z * wd) := Nat.pow_le_pow_right (by decide) (Nat.mul_le_mul hz hw)
  have h2 : ((2 ^ 4 : Nat) : Int) ≤ ((2 ^ (z * wd) : Nat) : Int) := by omega
  rw [Int.natCast_pow, Int.natCast_pow] at h2
  unfold fulls
  have : ((2 : Nat) : Int) = 2 := rfl
  rw [this] at h2
  omega
theorem fulls_mod {wd z : Nat} (hz : z ∣ 24) : fulls wd 24 % fulls wd z = 0 := by
  obtain ⟨c, hc⟩ := hz
  unfold fulls
  rw [hc, Nat.mul_right_comm, Int.pow_mul]
  exact Int.emod_eq_zero_of_dvd (sub_one_dvd _ _)
theorem fulls_bits (wd z : Nat) : z * wd ≤ Builtin.Int.intBits (fulls wd z) ∧ Builtin.Int.intBits (fulls wd z) ≤ z * wd := by
  have h0 := fulls_nonneg wd z
  constructor
  · have h := lt_pow_bits h0
    refine Nat.le_of_not_lt fun hlt => ?_
    have : (2 : Int) ^ (Builtin.Int.intBits (fulls wd z) + 1) ≤ 2 ^ (z * wd) := by
      have := Nat.pow_le_pow_right (n := 2) (by decide) hlt
      have h2 : ((2 ^ (Builtin.Int.intBits (fulls wd z) + 1) : Nat) : Int) ≤ ((2 ^ (z * wd) : Nat) : Int) := by exact_mod_cast this
      rw [Int.natCast_pow, Int.natCast_pow] at h2
      exact h2
    rw [Int.pow_succ] at this
    have e : fulls wd z = 2 ^ (z * wd) - 1 := rfl
    have hp := pow_gt (Builtin.Int.intBits (fulls wd z))
    omega
  · refine bits_le_pow h0 ?_
    unfold fulls; omega
theorem fulls_figs {wd z : Nat} (hw : 2 ≤ wd) (hz : 2 ≤ z) : figs (fulls wd 24) (Builtin.Int.intBits (fulls wd z)) ≤ 100 := by
  unfold figs
  have h1 := (fulls_bits wd 24).2
  have h2 := (fulls_bits wd z).1
  have h3 : 2 * wd ≤ z * wd := Nat.mul_le_mul_right wd hz
  generalize Builtin.Int.intBits (fulls wd z) = B at *
  generalize Builtin.Int.intBits (fulls wd 24) = C at *
  have : (C + B - 1) / B < 13 := Nat.div_lt_of_lt_mul (by omega)
  omega
theorem small_figs {d z : Nat} (hd : d ≤ 127) (hz : 2 ≤ z) : figs (d : Int) (Builtin.Int.intBits (z : Int)) ≤ 100 := by
  unfold figs
  have h1 : Builtin.Int.intBits (d : Int) ≤ 7 := bits_le_pow (by omega) (by omega)
  have h2 : 1 ≤ Builtin.Int.intBits (z : Int) := bits_pos (by omega)
  generalize Builtin.Int.intBits (z : Int) = B at *
  generalize Builtin.Int.intBits (d : Int) = C at *
  have : (C + B - 1) / B < 8 := Nat.div_lt_of_lt_mul (by omega)
  omega
noncomputable def totalOf (wd : Nat) (zs ds : List Nat) (k : Nat) : Int := ((List.range k).map fun i => (fulls wd 24 / fulls wd (zs.getD i 0)) * 2 ^ (wd * ((-1 - (ds.getD i 0 : Int)) % (zs.getD i 0 : Int)).toNat)).sum
theorem totalOf_succ (wd : Nat) (zs ds : List Nat) (k : Nat) : totalOf wd zs ds (k + 1) = totalOf wd zs ds k + (fulls wd 24 / fulls wd (zs.getD k 0)) * 2 ^ (wd * ((-1 - (ds.getD k 0 : Int)) % (zs.getD k 0 : Int)).toNat) := by
  unfold totalOf
  rw [List.range_succ, List.map_append, List.sum_append]
  simp
end Mine
end

noncomputable section
open PySem PySem.W PySem.Calls PyProof.Rows
set_option maxRecDepth 100000
namespace Mine
theorem dig_val {b : Nat} {xs : List Int} (h : ∀ d ∈ xs, 0 ≤ d ∧ d < 2 ^ b) {j : Nat} (hj : j < xs.length) : dig b (val b xs) j = xs[j] := by
  have e : xs = xs.take j ++ (xs[j] :: xs.drop (j + 1)) := by
    rw [← List.drop_eq_getElem_cons hj, List.take_append_drop]
  have hl : (xs.take j).length = j := by rw [List.length_take]; omega
  have hv : val b xs = val b (xs.take j) + 2 ^ (b * j) * (xs[j] + 2 ^ b * val b (xs.drop (j + 1))) := by
    have := congrArg (val b) e
    rw [val_append, hl] at this
    exact this
  have hb := val_bound (b := b) (xs := xs.take j) fun d hd => h d (List.mem_of_mem_take hd)
  rw [hl] at hb
  unfold dig
  rw [hv, Int.add_mul_ediv_left _ _ (Int.ne_of_gt (pow_gt _)), Int.ediv_eq_zero_of_lt hb.1 hb.2, Int.zero_add, Int.add_mul_emod_self_left]
  exact Int.emod_eq_of_lt (h _ (List.getElem_mem hj)).1 (h _ (List.getElem_mem hj)).2
theorem digits_val {b : Nat} {xs : List Int} (h : ∀ d ∈ xs, 0 ≤ d ∧ d < 2 ^ b) : (List.range xs.length).map (dig b (val b xs)) = xs := by
  refine List.ext_getElem (by simp) fun j h1 h2 => ?_
  rw [List.getElem_map, List.getElem_range]
  exact dig_val h h2
theorem figs_val {b : Nat} {xs : List Int} {d : Int} (hb : 1 ≤ b) (h : ∀ x ∈ xs ++ [d], 0 ≤ x ∧ x < 2 ^ b) (hd : 0 < d) : figs (val b (xs ++ [d])) b = xs.length + 1 := by
  have h1 := val_bound h
  have h2 := val_bound (b := b) (xs := xs) fun x hx => h x (List.mem_append_left _ hx)
  have e : val b (xs ++ [d]) = val b xs + 2 ^ (b * xs.length) * d := by
    rw [val_append]
    show _ + _ * (d + 2 ^ b * 0) = _
    rw [Int.mul_zero, Int.add_zero]
  have h3 : 2 ^ (b * xs.length) ≤ val b (xs ++ [d]) := by
    rw [e]
    have := Int.mul_le_mul_of_nonneg_left (show 1 ≤ d by omega) (Int.le_of_lt (pow_gt (b * xs.length)))
    omega
  have h4 : Builtin.Int.intBits (val b (xs ++ [d])) ≤ b * (xs.length + 1) := by
    refine bits_le_pow h1.1 ?_
    have := h1.2
    rw [List.length_append, List.length_singleton] at this
    exact this
  have h5 : b * xs.length + 1 ≤ Builtin.Int.intBits (val b (xs ++ [d])) := by
    refine Nat.le_of_not_lt fun hlt => ?_
    have l1 := lt_pow_bits h1.1
    have l2 : (2 : Int) ^ Builtin.Int.intBits (val b (xs ++ [d])) ≤ 2 ^ (b * xs.length) := by
      have := Nat.pow_le_pow_right (n := 2) (by decide) (show Builtin.Int.intBits (val b (xs ++ [d])) ≤ b * xs.length by omega)
      have h2 : ((2 ^ (Builtin.Int.intBits (val b (xs ++ [d]))) : Nat) : Int) ≤ ((2 ^ (b * xs.length) : Nat) : Int) := by exact_mod_cast this
      rw [Int.natCast_pow, Int.natCast_pow] at h2
      exact h2
    omega
  unfold figs
  generalize Builtin.Int.intBits (val b (xs ++ [d])) = B at *
  rw [Nat.mul_add, Nat.mul_one] at h4
  refine (Nat.div_eq_iff (by omega)).mpr ?_
  rw [Nat.add_mul, Nat.mul_comm xs.length b]
  omega
theorem val_zeros (b m : Nat) : val b (List.replicate m 0) = 0 := by
  induction m with
  | zero => rfl
  | succ m ih =>
    rw [List.replicate_succ]
    show 0 + 2 ^ b * val b (List.replicate m 0) = 0
    rw [ih]; simp
theorem val_add (b : Nat) (f g : Nat → Int) (l : List Nat) : val b (l.map fun i => f i + g i) = val b (l.map f) + val b (l.map g) := by
  induction l with
  | nil => rfl
  | cons i l ih =>
    show (f i + g i) + 2 ^ b * val b (l.map fun i => f i + g i) = (f i + 2 ^ b * val b (l.map f)) + (g i + 2 ^ b * val b (l.map g))
    rw [ih, Int.mul_add]; omega
noncomputable def ind (z d i : Nat) : Int := if (d + (i + 1)) % z = 0 then 1 else 0
theorem ind_mod (z d i : Nat) : ind z (d % z) i = ind z d i := by
  unfold ind
  rw [Nat.mod_add_mod]
noncomputable def sizesL : List Nat := [2, 3, 4, 6, 8]
set_option maxRecDepth 100000 in
theorem quot_all : ([2, 3, 4, 5, 6, 7].all fun wd => sizesL.all fun z => (List.range z).all fun r => (fulls wd 24 / fulls wd z) * 2 ^ (wd * ((-1 - (r : Int)) % (z : Int)).toNat) == val wd ((List.range 24).map (ind z r))) = true := by decide +kernel
theorem quot_val {wd z d : Nat} (hw1 : 2 ≤ wd) (hw2 : wd ≤ 7) (hz : z ∈ sizesL) : (fulls wd 24 / fulls wd z) * 2 ^ (wd * ((-1 - (d : Int)) % (z : Int)).toNat) = val wd ((List.range 24).map (ind z d)) := by
  have hz0 : 0 < z := by
    simp only [sizesL, List.mem_cons, List.not_mem_nil, or_false] at hz
    omega
  have h := quot_all
  rw [List.all_eq_true] at h
  have h := h wd (by simp only [List.mem_cons, List.not_mem_nil, or_false]; omega)
  rw [List.all_eq_true] at h
  have h := h z hz
  rw [List.all_eq_true] at h
  have h := h (d % z) (List.mem_range.mpr (Nat.mod_lt _ hz0))
  have h := eq_of_beq h
  have e1 : (-1 - ((d % z : Nat) : Int)) % (z : Int) = (-1 - (d : Int)) % (z : Int) := by
    rw [Int.natCast_emod, Int.sub_emod, Int.emod_emod_of_dvd _ (Int.dvd_refl _), ← Int.sub_emod]
  have e2 : (List.range 24).map (ind z (d % z)) = (List.range 24).map (ind z d) := List.map_congr_left fun i _ => ind_mod z d i
  rw [e1, e2] at h
  exact h
end Mine
end

noncomputable section
open PySem PySem.W PySem.Calls PyProof.Rows
set_option maxRecDepth 100000
namespace Mine
noncomputable def cntOf (zs ds : List Nat) (k i : Nat) : Int := ((List.range k).map fun j => ind (zs.getD j 0) (ds.getD j 0) i).sum
theorem cntOf_succ (zs ds : List Nat) (k i : Nat) : cntOf zs ds (k + 1) i = cntOf zs ds k i + ind (zs.getD k 0) (ds.getD k 0) i := by
  unfold cntOf
  rw [List.range_succ, List.map_append, List.sum_append]
  simp
theorem ind_range (z d i : Nat) : ind z d i = 0 ∨ ind z d i = 1 := by unfold ind; split <;> simp
theorem cntOf_range (zs ds : List Nat) (k i : Nat) : 0 ≤ cntOf zs ds k i ∧ cntOf zs ds k i ≤ k := by
  induction k with
  | zero => exact ⟨Int.le_refl _, Int.le_refl _⟩
  | succ k ih =>
    rw [cntOf_succ]
    have := ind_range (zs.getD k 0) (ds.getD k 0) i
    omega
noncomputable def csOf (zs ds : List Nat) (k : Nat) : List Int := (List.range 24).map (cntOf zs ds k)
theorem total_val {wd : Nat} {zs ds : List Nat} (hw1 : 2 ≤ wd) (hw2 : wd ≤ 7) (k : Nat) (hz : ∀ j, j < k → zs.getD j 0 ∈ sizesL) : totalOf wd zs ds k = val wd (csOf zs ds k) := by
  induction k with
  | zero =>
    have e : csOf zs ds 0 = List.replicate 24 0 := rfl
    rw [e, val_zeros]; rfl
  | succ k ih =>
    rw [totalOf_succ, ih fun j hj => hz j (by omega), quot_val hw1 hw2 (hz k (by omega))]
    unfold csOf
    rw [← val_add]
    congr 1
    exact List.map_congr_left fun i _ => (cntOf_succ zs ds k i).symm
theorem row_all : (sizesL.all fun z => (List.range z).all fun r => ((List.range 24).map (ind z r)).sum == ((24 / z : Nat) : Int) && ind z r (23 - r) == 1 && (List.range 24).all fun i => decide (i ≤ 23 - r) || ind z r i == 0) = true := by decide +kernel
theorem row_at {z d : Nat} (hz : z ∈ sizesL) : ((List.range 24).map (ind z d)).sum = ((24 / z : Nat) : Int) ∧ ind z d (23 - d % z) = 1 ∧ ∀ i, i < 24 → 23 - d % z < i → ind z d i = 0 := by
  have hz0 : 0 < z := by
    simp only [sizesL, List.mem_cons, List.not_mem_nil, or_false] at hz
    omega
  have h := row_all
  rw [List.all_eq_true] at h
  have h := h z hz
  rw [List.all_eq_true] at h
  have h := h (d % z) (List.mem_range.mpr (Nat.mod_lt _ hz0))
  rw [Bool.and_eq_true, Bool.and_eq_true, List.all_eq_true] at h
  obtain ⟨⟨h1, h2⟩, h3⟩ := h
  have e2 : (List.range 24).map (ind z (d % z)) = (List.range 24).map (ind z d) := List.map_congr_left fun i _ => ind_mod z d i
  rw [e2] at h1
  refine ⟨eq_of_beq h1, by have := eq_of_beq h2; rw [ind_mod] at this; exact this, fun i hi hlt => ?_⟩
  have := h3 i (List.mem_range.mpr hi)
  rw [Bool.or_eq_true] at this
  rcases this with h | h
  · have := of_decide_eq_true h; omega
  · have := eq_of_beq h; rw [ind_mod] at this; exact this
theorem sum_add' (f g : Nat → Int) (l : List Nat) : (l.map fun i => f i + g i).sum = (l.map f).sum + (l.map g).sum := by
  induction l with
  | nil => rfl
  | cons i l ih => simp only [List.map_cons, List.sum_cons, ih]; omega
theorem cs_sum {zs ds : List Nat} (k : Nat) (hz : ∀ j, j < k → zs.getD j 0 ∈ sizesL) : (csOf zs ds k).sum = (((List.range k).map fun j => 24 / zs.getD j 0).sum : Nat) := by
  induction k with
  | zero => rfl
  | succ k ih =>
    have e : csOf zs ds (k + 1) = (List.range 24).map fun i => cntOf zs ds k i + ind (zs.getD k 0) (ds.getD k 0) i := List.map_congr_left fun i _ => cntOf_succ zs ds k i
    rw [e, sum_add', show ((List.range 24).map fun i => cntOf zs ds k i).sum = (csOf zs ds k).sum from rfl, ih fun j hj => hz j (by omega)]
    rw [show ((List.range 24).map fun i => ind (zs.getD k 0) (ds.getD k 0) i).sum = _ from (row_at (hz k (by omega))).1]
    rw [List.range_succ, List.map_append, List.sum_append]
    simp
theorem cnt_pos {zs ds : List Nat} {k i : Nat} : 0 < cntOf zs ds k i ↔ ∃ j, j < k ∧ (ds.getD j 0 + (i + 1)) % zs.getD j 0 = 0 := by
  induction k with
  | zero => exact ⟨fun h => absurd h (Int.lt_irrefl 0), fun ⟨j, hj, _⟩ => absurd hj (by omega)⟩
  | succ k ih =>
    rw [cntOf_succ]
    have h1 := (cntOf_range zs ds k i).1
    have h2 : ind (zs.getD k 0) (ds.getD k 0) i = 1 ↔ (ds.getD k 0 + (i + 1)) % zs.getD k 0 = 0 := by
      unfold ind
      split
      · exact ⟨fun _ => by assumption, fun _ => rfl⟩
      · exact ⟨fun e => absurd e (by decide), fun e => absurd e (by assumption)⟩
    have h3 := ind_range (zs.getD k 0) (ds.getD k 0) i
    constructor
    · intro h
      rcases h3 with h3 | h3
      · rw [h3, Int.add_zero] at h
        obtain ⟨j, hj, e⟩ := ih.mp h
        exact ⟨j, by omega, e⟩
      · exact ⟨k, by omega, h2.mp h3⟩
    · rintro ⟨j, hj, e⟩
      by_cases hjk : j = k
      · subst hjk
        rw [h2.mpr e]; omega
      · have := ih.mpr ⟨j, by omega, e⟩
        omega

theorem cs_shape {zs ds : List Nat} {k : Nat} (hk : 0 < k) (hz : ∀ j, j < k → zs.getD j 0 ∈ sizesL) {M : Nat} (hM : ∃ j, j < k ∧ ds.getD j 0 % zs.getD j 0 = M) (hmin : ∀ j, j < k → M ≤ ds.getD j 0 % zs.getD j 0) :
    M ≤ 7 ∧ csOf zs ds k = ((List.range (23 - M)).map (cntOf zs ds k) ++ [cntOf zs ds k (23 - M)]) ++ List.replicate M 0 ∧ 0 < cntOf zs ds k (23 - M) := by
  obtain ⟨j, hj, hjM⟩ := hM
  have hzj := hz j hj
  have hM7 : M ≤ 7 := by
    have hz8 : 0 < zs.getD j 0 ∧ zs.getD j 0 ≤ 8 := by
      generalize zs.getD j 0 = z at *
      simp only [sizesL, List.mem_cons, List.not_mem_nil, or_false] at hzj
      omega
    have := Nat.mod_lt (ds.getD j 0) hz8.1
    omega
  have hpos : 0 < cntOf zs ds k (23 - M) := cnt_pos.mpr ⟨j, hj, by
    have := (row_at (d := ds.getD j 0) hzj).2.1
    rw [hjM] at this
    unfold ind at this
    split at this
    · assumption
    · cases this⟩
  refine ⟨hM7, ?_, hpos⟩
  have hzero : ∀ i, i < 24 → 23 - M < i → cntOf zs ds k i = 0 := fun i hi hlt => by
    have h0 := (cntOf_range zs ds k i).1
    refine Int.le_antisymm (Int.not_lt.mp fun hp => ?_) h0
    obtain ⟨q, hq, e⟩ := cnt_pos.mp hp
    have h1 := (row_at (d := ds.getD q 0) (hz q hq)).2.2 i hi (by have := hmin q hq; omega)
    unfold ind at h1
    rw [if_pos e] at h1
    cases h1
  have e24 : List.range 24 = List.range (23 - M + 1) ++ (List.range M).map (fun i => 23 - M + 1 + i) := by
    rw [← List.range_add]
    congr 1
    omega
  unfold csOf
  rw [e24, List.map_append, List.range_succ, List.map_append, List.map_map]
  congr 1
  refine List.eq_replicate_iff.mpr ⟨by simp, fun x hx => ?_⟩
  obtain ⟨i, hi, rfl⟩ := List.mem_map.mp hx
  have := List.mem_range.mp hi
  show cntOf zs ds k (23 - M + 1 + i) = 0
  exact hzero _ (by omega) (by omega)
theorem told_is {wd : Nat} {zs ds : List Nat} {k : Nat} (hw1 : 2 ≤ wd) (hw2 : wd ≤ 7) (hk : 0 < k) (hk3 : k ≤ 3) (hz : ∀ j, j < k → zs.getD j 0 ∈ sizesL) {M : Nat} (hM : ∃ j, j < k ∧ ds.getD j 0 % zs.getD j 0 = M) (hmin : ∀ j, j < k → M ≤ ds.getD j 0 % zs.getD j 0) :
    figs (totalOf wd zs ds k) wd = 24 - M ∧ (List.range (24 - M)).map (dig wd (totalOf wd zs ds k)) = (csOf zs ds k).take (24 - M) ∧ (csOf zs ds k).take (24 - M) ++ List.replicate (24 - (24 - M)) 0 = csOf zs ds k := by
  obtain ⟨h7, hc, hp⟩ := cs_shape hk hz hM hmin
  have h4 : (4 : Int) ≤ 2 ^ wd := by
    have : 2 ^ 2 ≤ 2 ^ wd := Nat.pow_le_pow_right (by decide) hw1
    have h2 : ((2 ^ 2 : Nat) : Int) ≤ ((2 ^ wd : Nat) : Int) := by exact_mod_cast this
    rw [Int.natCast_pow, Int.natCast_pow] at h2
    exact h2
  have hl : ((List.range (23 - M)).map (cntOf zs ds k) ++ [cntOf zs ds k (23 - M)]).length = 24 - M := by
    rw [List.length_append, List.length_map, List.length_range, List.length_singleton]; omega
  have hb : ∀ x ∈ (List.range (23 - M)).map (cntOf zs ds k) ++ [cntOf zs ds k (23 - M)], 0 ≤ x ∧ x < 2 ^ wd := by
    have hr : ∀ i, 0 ≤ cntOf zs ds k i ∧ cntOf zs ds k i < 2 ^ wd := fun i => by
      have := cntOf_range zs ds k i
      omega
    intro x hx
    rcases List.mem_append.mp hx with hx | hx
    · obtain ⟨i, _, rfl⟩ := List.mem_map.mp hx
      exact hr i
    · rw [List.mem_singleton.mp hx]; exact hr _
  have hv : totalOf wd zs ds k = val wd ((List.range (23 - M)).map (cntOf zs ds k) ++ [cntOf zs ds k (23 - M)]) := by
    rw [total_val hw1 hw2 k hz, hc, val_append, val_zeros, Int.mul_zero, Int.add_zero]
  have ht : (csOf zs ds k).take (24 - M) = (List.range (23 - M)).map (cntOf zs ds k) ++ [cntOf zs ds k (23 - M)] := by
    rw [hc, List.take_left' hl]
  refine ⟨?_, ?_, ?_⟩
  · rw [hv, figs_val (by omega) hb hp, List.length_map, List.length_range]; omega
  · rw [ht, hv]
    have := digits_val hb
    rw [hl] at this
    exact this
  · rw [ht, show 24 - (24 - M) = M by omega]; exact hc.symm
end Mine
end

noncomputable section
open PySem PySem.W PySem.Calls PyProof.Rows
set_option maxRecDepth 100000
namespace Mine
noncomputable def mov (z r i : Nat) : Bool := Nat.beq ((r + (i + 1)) % z) 0
noncomputable def full2 (z1 r1 z2 r2 n : Nat) : Bool := (List.range n).all fun i => mov z1 r1 i || mov z2 r2 i
noncomputable def full3 (z1 r1 z2 r2 z3 r3 n : Nat) : Bool := (List.range n).all fun i => mov z1 r1 i || (mov z2 r2 i || mov z3 r3 i)
theorem ring2 : (sizesL.all fun z1 => (List.range z1).all fun r1 => sizesL.all fun z2 => (List.range z2).all fun r2 => !full2 z1 r1 z2 r2 4 || full2 z1 r1 z2 r2 24) = true := by decide +kernel
theorem ring3 : (sizesL.all fun z1 => (List.range z1).all fun r1 => sizesL.all fun z2 => (List.range z2).all fun r2 => sizesL.all fun z3 => (List.range z3).all fun r3 => !full3 z1 r1 z2 r2 z3 r3 8 || full3 z1 r1 z2 r2 z3 r3 24) = true := by decide +kernel
theorem size_cases {z : Nat} (h : z ∈ sizesL) : z = 2 ∨ z = 3 ∨ z = 4 ∨ z = 6 ∨ z = 8 := by
  simpa only [sizesL, List.mem_cons, List.not_mem_nil, or_false] using h
theorem mod24 {z d n m : Nat} (h : z ∈ sizesL) (e : n % 24 = m % 24) : (d + (n + 1)) % z = 0 ↔ (d + (m + 1)) % z = 0 := by
  have hz : z ∣ 24 := by rcases size_cases h with rfl | rfl | rfl | rfl | rfl <;> decide
  have e2 : n % z = m % z := by rw [← Nat.mod_mod_of_dvd n hz, ← Nat.mod_mod_of_dvd m hz, e]
  have e3 : ∀ k, (d + (k + 1)) % z = (d + (k % z + 1)) % z := fun k => by
    rw [show d + (k + 1) = k + (d + 1) by omega, show d + (k % z + 1) = k % z + (d + 1) by omega, Nat.mod_add_mod]
  rw [e3 n, e3 m, e2]
theorem mov_iff {z d f i : Nat} (h : z ∈ sizesL) : mov z ((d + f) % z) i = true ↔ (d + (f + i + 1)) % z = 0 := by
  unfold mov
  rw [Nat.mod_add_mod, show d + f + (i + 1) = d + (f + i + 1) by omega]
  exact ⟨Nat.eq_of_beq_eq_true, fun h => by rw [h]; rfl⟩
theorem size_pos {z : Nat} (h : z ∈ sizesL) : 0 < z := by
  rcases size_cases h with rfl | rfl | rfl | rfl | rfl <;> decide
theorem cover2 {z1 z2 d1 d2 f : Nat} (h1 : z1 ∈ sizesL) (h2 : z2 ∈ sizesL) (h : ∀ i, i < 4 → (d1 + (f + i + 1)) % z1 = 0 ∨ (d2 + (f + i + 1)) % z2 = 0) :
    ∀ i, i < 24 → (d1 + (f + i + 1)) % z1 = 0 ∨ (d2 + (f + i + 1)) % z2 = 0 := by
  have R := ring2
  rw [List.all_eq_true] at R
  have R := R z1 h1
  rw [List.all_eq_true] at R
  have R := R ((d1 + f) % z1) (List.mem_range.mpr (Nat.mod_lt _ (size_pos h1)))
  rw [List.all_eq_true] at R
  have R := R z2 h2
  rw [List.all_eq_true] at R
  have R := R ((d2 + f) % z2) (List.mem_range.mpr (Nat.mod_lt _ (size_pos h2)))
  have key : ∀ n, full2 z1 ((d1 + f) % z1) z2 ((d2 + f) % z2) n = true ↔ ∀ i, i < n → (d1 + (f + i + 1)) % z1 = 0 ∨ (d2 + (f + i + 1)) % z2 = 0 := fun n => by
    unfold full2
    rw [List.all_eq_true]
    constructor
    · intro h i hi
      have := h i (List.mem_range.mpr hi)
      rw [Bool.or_eq_true, mov_iff h1, mov_iff h2] at this
      exact this
    · intro h i hi
      rw [Bool.or_eq_true, mov_iff h1, mov_iff h2]
      exact h i (List.mem_range.mp hi)
  rw [(key 4).mpr h] at R
  exact (key 24).mp (by simpa using R)
theorem cover3 {z1 z2 z3 d1 d2 d3 f : Nat} (h1 : z1 ∈ sizesL) (h2 : z2 ∈ sizesL) (h3 : z3 ∈ sizesL) (h : ∀ i, i < 8 → (d1 + (f + i + 1)) % z1 = 0 ∨ (d2 + (f + i + 1)) % z2 = 0 ∨ (d3 + (f + i + 1)) % z3 = 0) :
    ∀ i, i < 24 → (d1 + (f + i + 1)) % z1 = 0 ∨ (d2 + (f + i + 1)) % z2 = 0 ∨ (d3 + (f + i + 1)) % z3 = 0 := by
  have R := ring3
  rw [List.all_eq_true] at R
  have R := R z1 h1
  rw [List.all_eq_true] at R
  have R := R ((d1 + f) % z1) (List.mem_range.mpr (Nat.mod_lt _ (size_pos h1)))
  rw [List.all_eq_true] at R
  have R := R z2 h2
  rw [List.all_eq_true] at R
  have R := R ((d2 + f) % z2) (List.mem_range.mpr (Nat.mod_lt _ (size_pos h2)))
  rw [List.all_eq_true] at R
  have R := R z3 h3
  rw [List.all_eq_true] at R
  have R := R ((d3 + f) % z3) (List.mem_range.mpr (Nat.mod_lt _ (size_pos h3)))
  have key : ∀ n, full3 z1 ((d1 + f) % z1) z2 ((d2 + f) % z2) z3 ((d3 + f) % z3) n = true ↔ ∀ i, i < n → (d1 + (f + i + 1)) % z1 = 0 ∨ (d2 + (f + i + 1)) % z2 = 0 ∨ (d3 + (f + i + 1)) % z3 = 0 := fun n => by
    unfold full3
    rw [List.all_eq_true]
    constructor
    · intro h i hi
      have := h i (List.mem_range.mpr hi)
      rw [Bool.or_eq_true, Bool.or_eq_true, mov_iff h1, mov_iff h2, mov_iff h3] at this
      exact this
    · intro h i hi
      rw [Bool.or_eq_true, Bool.or_eq_true, mov_iff h1, mov_iff h2, mov_iff h3]
      exact h i (List.mem_range.mp hi)
  rw [(key 8).mpr h] at R
  exact (key 24).mp (by simpa using R)
theorem cs_get {zs ds : List Nat} {k n : Nat} (hn : n < 48) : (csOf zs ds k ++ csOf zs ds k)[n]? = some (cntOf zs ds k (n % 24)) := by
  have hl : (csOf zs ds k).length = 24 := by simp [csOf]
  by_cases h : n < 24
  · rw [List.getElem?_append_left (by omega), Nat.mod_eq_of_lt h]
    unfold csOf
    rw [List.getElem?_map, List.getElem?_range h]; rfl
  · rw [List.getElem?_append_right (by omega), hl, show n % 24 = n - 24 by omega]
    unfold csOf
    rw [List.getElem?_map, List.getElem?_range (by omega)]; rfl
theorem ring_law {zs ds : List Nat} {k S : Nat} (hk : (k = 2 ∧ S = 4) ∨ (k = 3 ∧ S = 8)) (hz : ∀ j, j < k → zs.getD j 0 ∈ sizesL) :
    ∀ f, f < 24 → (∀ x ∈ ((csOf zs ds k ++ csOf zs ds k).drop f).take S, 0 < x) → ∀ x ∈ csOf zs ds k, x ≠ 0 := by
  intro f hf hx
  have hS : S ≤ 8 := by omega
  have h1 : ∀ i, i < S → ∃ j, j < k ∧ (ds.getD j 0 + (f + i + 1)) % zs.getD j 0 = 0 := fun i hi => by
    have hm : cntOf zs ds k ((f + i) % 24) ∈ ((csOf zs ds k ++ csOf zs ds k).drop f).take S := by
      refine List.mem_of_getElem? (i := i) ?_
      rw [List.getElem?_take_of_lt hi, List.getElem?_drop]
      exact cs_get (by omega)
    obtain ⟨j, hj, e⟩ := cnt_pos.mp (hx _ hm)
    exact ⟨j, hj, (mod24 (hz j hj) (by rw [Nat.mod_mod])).mp e⟩
  have h2 : ∀ i, i < 24 → ∃ j, j < k ∧ (ds.getD j 0 + (f + i + 1)) % zs.getD j 0 = 0 := by
    rcases hk with ⟨rfl, rfl⟩ | ⟨rfl, rfl⟩
    · have two : ∀ i, (∃ j, j < 2 ∧ (ds.getD j 0 + (f + i + 1)) % zs.getD j 0 = 0) ↔ ((ds.getD 0 0 + (f + i + 1)) % zs.getD 0 0 = 0 ∨ (ds.getD 1 0 + (f + i + 1)) % zs.getD 1 0 = 0) := fun i =>
        ⟨fun ⟨j, hj, e⟩ => by
          rcases j with _ | _ | j
          · exact .inl e
          · exact .inr e
          · omega, fun h => h.elim (fun e => ⟨0, by omega, e⟩) fun e => ⟨1, by omega, e⟩⟩
      intro i hi
      exact (two i).mpr (cover2 (hz 0 (by omega)) (hz 1 (by omega)) (fun i hi => (two i).mp (h1 i hi)) i hi)
    · have three : ∀ i, (∃ j, j < 3 ∧ (ds.getD j 0 + (f + i + 1)) % zs.getD j 0 = 0) ↔ ((ds.getD 0 0 + (f + i + 1)) % zs.getD 0 0 = 0 ∨ (ds.getD 1 0 + (f + i + 1)) % zs.getD 1 0 = 0 ∨ (ds.getD 2 0 + (f + i + 1)) % zs.getD 2 0 = 0) := fun i =>
        ⟨fun ⟨j, hj, e⟩ => by
          rcases j with _ | _ | _ | j
          · exact .inl e
          · exact .inr (.inl e)
          · exact .inr (.inr e)
          · omega, fun h => h.elim (fun e => ⟨0, by omega, e⟩) fun h => h.elim (fun e => ⟨1, by omega, e⟩) fun e => ⟨2, by omega, e⟩⟩
      intro i hi
      exact (three i).mpr (cover3 (hz 0 (by omega)) (hz 1 (by omega)) (hz 2 (by omega)) (fun i hi => (three i).mp (h1 i hi)) i hi)
  intro x hx
  obtain ⟨n, hn, rfl⟩ := List.mem_map.mp hx
  have hn := List.mem_range.mp hn
  obtain ⟨j, hj, e⟩ := h2 ((n + 24 - f) % 24) (Nat.mod_lt _ (by decide))
  exact Int.ne_of_gt (cnt_pos.mpr ⟨j, hj, (mod24 (hz j hj) (by omega)).mp e⟩)
end Mine
end

noncomputable section
open PySem PySem.W PySem.Calls PyProof.Rows
namespace Mine

structure Wo (g h : Heap) (l : List (Addr × Obj)) : Prop where
  keep : ∀ b o, g.get? b = some o → h.get? b = some o
  size : g.objs.size ≤ h.objs.size
  led : ∀ p ∈ l, h.get? p.1 = some p.2 ∧ g.get? p.1 = none

theorem Wo.of_fr {h₀ h : Heap} {L : Addr} {m : Str → Option Value} {l : List (Addr × Obj)} (F : Fr h₀ L h m) (N : News h₀ L h l) : Wo h₀ h l :=
  ⟨F.keep, Nat.le_of_lt (Nat.lt_of_le_of_lt F.above F.ns.lt), fun p hp => ⟨(N p hp).1, (N p hp).2.2⟩⟩

theorem Wo.call {h₀ h : Heap} {L : Addr} {m : Str → Option Value} {fp rest : List (Addr × Obj)} (F : Fr h₀ L h m) (N : News h₀ L h (fp ++ rest))
    (nd : ∀ p ∈ fp, ∀ q ∈ rest, p.1 ≠ q.1) :
    Wo (hideAll h (fp.map (·.1))) h fp ∧ Fr h₀ L (hideAll h (fp.map (·.1))) m ∧ h₀.StaysIn (hideAll h (fp.map (·.1))) ∧
    ∀ h' l', Wo (hideAll h (fp.map (·.1))) h' l' → Fr h₀ L h' m ∧ News h₀ L h' (l' ++ rest) ∧ ∀ p ∈ l', ∀ q ∈ rest, p.1 ≠ q.1 := by
  have hf : ∀ p ∈ fp, h₀.get? p.1 = none ∧ p.1 ≠ L := fun p hp => let q := N p (List.mem_append_left _ hp); ⟨q.2.2, q.2.1⟩
  have st : ∀ b o, h₀.get? b = some o → (hideAll h (fp.map (·.1))).get? b = some o := fun b o e => hideAll_get _ (F.keep b o e) fun hb => by
    obtain ⟨p, hp, rfl⟩ := List.mem_map.mp hb
    rw [(hf p hp).1] at e; cases e
  obtain ⟨oL, es, ep, eL, r⟩ := F.ns
  have eL' : (hideAll h (fp.map (·.1))).get? L = some oL := hideAll_get _ eL fun hb => by
    obtain ⟨p, hp, e⟩ := List.mem_map.mp hb
    exact (hf p hp).2 e
  refine ⟨⟨fun b o e => of_hideAll _ e, Nat.le_of_eq (hideAll_size _ _), fun p hp => ⟨(N p (List.mem_append_left _ hp)).1, hideAll_none _ (List.mem_map_of_mem hp)⟩⟩,
    ⟨⟨oL, es, ep, eL', r⟩, st, F.above⟩, st, fun h' l' W => ?_⟩
  have hr : ∀ q ∈ rest, (hideAll h (fp.map (·.1))).get? q.1 = some q.2 := fun q hq => hideAll_get _ (N q (List.mem_append_right _ hq)).1 fun hb => by
    obtain ⟨p', hp', e⟩ := List.mem_map.mp hb
    exact nd p' hp' q hq e
  refine ⟨⟨⟨oL, es, ep, W.keep _ _ eL', r⟩, fun b o e => W.keep _ _ (st b o e), F.above⟩, fun p hp => ?_, fun p hp q hq e => ?_⟩
  rotate_left
  · have := (W.led p hp).2
    rw [e, hr q hq] at this; cases this
  rcases List.mem_append.mp hp with hp | hp
  · refine ⟨(W.led p hp).1, fun e => ?_, ?_⟩
    · have := (W.led p hp).2
      rw [e, eL'] at this; cases this
    · cases q : h₀.get? p.1 with
      | none => rfl
      | some o => have := (W.led p hp).2; rw [st _ _ q] at this; cases this
  · have q := N p (List.mem_append_right _ hp)
    exact ⟨W.keep _ _ (hideAll_get _ q.1 fun hb => by
      obtain ⟨p', hp', e⟩ := List.mem_map.mp hb
      exact nd p' hp' p hp e), q.2⟩

section
variable {prog : Program} {w : World} {A : Around} {s : Shared} {g : Heap} {K : Frag} {news : List (Addr × Obj)}
  {R : Result → Shared → Prop} {name qual : Str} {params : Arguments} {body : List Stmt} {scope : Scope} {cl : List (Str × Addr)} {dV kV doc pm cdv ct oc : Value} {an od : Option Addr} {osl : Array (Option Value)} {f : Addr} {args : Args} {binds : List (Str × Value)}

noncomputable def Meets (prog : Program) (w : World) (K : Frag) (c : Code) (fp : List (Addr × Obj)) (d u : Nat) (P : Nat → Value → List (Addr × Obj) → Prop) : Prop :=
  ∀ (A : Around) (s : Shared) (g : Heap) (p : Program) (loose : List Str) (mean : ExcName → Option Value) (mg mb : Str → Option Value),
    A.handled = none → A.depth + d < recursionLimit → A.units + u < cLine → Wo g s.heap fp → K.In g → Top p loose mean mg mb g →
    ∀ R : Result → Shared → Prop, (∀ v l h' tk, P s.heap.objs.size v l → Wo g h' l → R (.ok (.ret v)) { s with heap := h', toks := tk }) → codeAny (model prog w) A c R s

theorem Meets.use {K : Frag} {prog : Program} {w : World} {f : Value} {args : List Value} {fp rest : List (Addr × Obj)} {d u : Nat} {P : Nat → Value → List (Addr × Obj) → Prop}
    {A : Around} {s : Shared} {E : Value → Shared → Prop} {Q : Value → Shared → Prop} {h₀ : Heap} {L : Addr} {m : Str → Option Value} {p : Program} {loose : List Str} {mean : ExcName → Option Value} {mg mb : Str → Option Value}
    (S : Meets prog w K (.call f ⟨args, []⟩) fp d u P) (F : Fr h₀ L s.heap m) (N : News h₀ L s.heap (fp ++ rest)) (X : K.In h₀) (T : Top p loose mean mg mb h₀)
    (nd : ∀ p ∈ fp, ∀ q ∈ rest, p.1 ≠ q.1) (hh : A.handled = none) (hd : A.depth + d < recursionLimit) (hu : A.units + u < cLine)
    (h : ∀ n₀ v l h' tk, P n₀ v l → Fr h₀ L h' m → News h₀ L h' (l ++ rest) → L < n₀ → (∀ p ∈ fp, p.1 < n₀) → (∀ p ∈ rest, p.1 < n₀) → (∀ p ∈ l, ∀ q ∈ rest, p.1 ≠ q.1) → Q v { s with heap := h', toks := tk }) :
    wpAny (model prog w) A (call f args) Q E s := by
  obtain ⟨W, F', st, back⟩ := Wo.call F N nd
  refine wpAny_call (codeAny_mono (S A s _ p loose mean mg mb hh hd hu W (X.keeps st) (T.keeps st) (fun r s' => match r with | .ok (.ret v) => Q v s' | _ => False) fun v l h' tk hp W' => ?_) fun r s' z => ?_)
  · obtain ⟨F2, N2, nd2⟩ := back h' l W'
    exact h _ v l h' tk hp F2 N2 F.ns.lt (fun p hp => Heap.lt_size (N p (List.mem_append_left _ hp)).1) (fun p hp => Heap.lt_size (N p (List.mem_append_right _ hp)).1) nd2
  · rcases r with e | (v | _ | _ | _) <;> first | exact z | exact z.elim

noncomputable def retVal : Flow → Value
  | .ret v => v
  | _ => .none
theorem meets_def {K : Frag} {prog : Program} {w : World} {fp : List (Addr × Obj)} {d u : Nat} {P : Nat → Value → List (Addr × Obj) → Prop}
    {name qual : Str} {params : Arguments} {body : List Stmt} {scope : Scope} {cl : List (Str × Addr)} {dV kV doc pm cdv ct oc : Value} {an od : Option Addr} {osl : Array (Option Value)} {f : Addr} {args : List Value} {binds : List (Str × Value)}
    (ho : K.lookup f = some ⟨oc, od, .func (fnX name qual params body scope cl dV kV doc pm an cdv ct), osl⟩) (hcd : codeIn K cdv qual = true)
    (hbind : ∀ s, BindsTo s (fnX name qual params body scope cl dV kV doc pm an cdv ct) ⟨args, []⟩ binds) (hloc : ∀ y ∈ binds, scope.names.lookup y.1 = some .local)
    (hcell : ∀ x ∈ scope.names, x.2 ≠ .cell)
    (h : ∀ (A : Around) (s : Shared) (g : Heap) (p : Program) (loose : List Str) (mean : ExcName → Option Value) (mg mb : Str → Option Value) (n₀ : Nat) (L : Nat) (h₁ : Heap) (tk : Nat) (k : Flow → Shared → Prop),
      A.handled = none → A.depth + d < recursionLimit + 1 → A.units + u < cLine + 3 → K.In g → Top p loose mean mg mb g → n₀ ≤ L → (∀ p ∈ fp, p.1 < n₀) → Fr g L h₁ (fun y => binds.reverse.lookup y) → News g L h₁ fp →
      (∀ fl l h' tk m', P n₀ (retVal fl) l → Fr g L h' m' → News g L h' l → k fl { s with heap := h', toks := tk }) →
      wpAny (model prog w) A (execs body (envX qual scope L f cdv cl)) k (fun _ _ => False) { s with heap := h₁, toks := tk })
    (hd : 0 < d := by decide) (hco : scope.isCoroutine = false := by rfl) (hgen : scope.isGenerator = false := by rfl) (hk : scope.kind = .function := by rfl) :
    Meets prog w K (.call (.ref f) ⟨args, []⟩) fp d u P := by
  intro A s g p loose mean mg mb hh hdep hu W X T R hR
  have X' : K.In s.heap := X.keeps W.keep
  refine codeAny_call_def (fd := fnX name qual params body scope cl dV kV doc pm an cdv ct) (body := body) (binds := binds) (by omega) (X' _ _ ho) rfl (T.nolimit.keeps W.keep) (codeRec_of X' hcd) rfl (hbind s) hcell hloc (fun h₁ hns hk₁ => ?_) hco hgen hk
  refine wpAny_mono (h (A.deeper (envX qual scope s.heap.objs.size f cdv cl)) s g p loose mean mg mb s.heap.objs.size s.heap.objs.size h₁ _ (fun fl s' => R (.ok (.ret (retVal fl))) s') hh ?_ ?_ X T (Nat.le_refl _) (fun p hp => Heap.lt_size (W.led p hp).1)
    ⟨hns, fun b o e => hk₁ b o (W.keep _ _ e), W.size⟩
    (fun p hp => ⟨hk₁ _ _ (W.led p hp).1, Nat.ne_of_lt (Heap.lt_size (W.led p hp).1), (W.led p hp).2⟩) fun fl l h' tk m' hp F N => hR (retVal fl) l h' tk hp (Wo.of_fr F N)) (fun fl _ x => by cases fl <;> exact x) (fun _ _ x => x.elim)
  · show A.depth + 1 + d < recursionLimit + 1; omega
  · show A.units + 3 + u < cLine + 3; omega

theorem meets_defC {K : Frag} {prog : Program} {w : World} {fp : List (Addr × Obj)} {d u : Nat} {P : Nat → Value → List (Addr × Obj) → Prop}
    {name qual : Str} {params : Arguments} {body : List Stmt} {scope : Scope} {dV kV doc pm cdv ct oc : Value} {an od : Option Addr} {osl : Array (Option Value)} {f : Addr} {args : List Value} {binds : List (Str × Value)}
    (ho : K.lookup f = some ⟨oc, od, .func (fnX name qual params body scope [] dV kV doc pm an cdv ct), osl⟩) (hcd : codeIn K cdv qual = true)
    (hbind : ∀ s, BindsTo s (fnX name qual params body scope [] dV kV doc pm an cdv ct) ⟨args, []⟩ binds)
    (hkind : (binds.all fun y => scope.names.lookup y.1 == some .local || scope.names.lookup y.1 == some .cell) = true) (hnd : ((cellsFrom 0 scope.names []).map (·.1)).Nodup)
    (h : ∀ (A : Around) (s : Shared) (g : Heap) (p : Program) (loose : List Str) (mean : ExcName → Option Value) (mg mb : Str → Option Value) (n₀ : Nat) (L : Nat) (h₁ : Heap) (tk : Nat) (cells : List (Addr × Obj)) (k : Flow → Shared → Prop),
      A.handled = none → A.depth + d < recursionLimit + 1 → A.units + u < cLine + 3 → K.In g → Top p loose mean mg mb g → n₀ ≤ L → (∀ p ∈ fp, p.1 < n₀) → (∀ p ∈ fp, p.1 < L) →
      Fr g L h₁ (bindL (envOfC qual scope L f cdv).kindOf binds fun _ => none) → News g L h₁ (cells ++ fp) → CellsAre (bindC (envOfC qual scope L f cdv).kindOf binds fun _ => none) (cellsFrom (L + 1) scope.names []) cells →
      (∀ fl l h' tk m', P n₀ (retVal fl) l → Fr g L h' m' → News g L h' l → k fl { s with heap := h', toks := tk }) →
      wpAny (model prog w) A (execs body (envOfC qual scope L f cdv)) k (fun _ _ => False) { s with heap := h₁, toks := tk })
    (hd : 0 < d := by decide) (hco : scope.isCoroutine = false := by rfl) (hgen : scope.isGenerator = false := by rfl) (hk : scope.kind = .function := by rfl) :
    Meets prog w K (.call (.ref f) ⟨args, []⟩) fp d u P := by
  intro A s g p loose mean mg mb hh hdep hu W X T R hR
  have X' : K.In s.heap := X.keeps W.keep
  refine codeAny_call_function (by omega) (X' _ _ ho) rfl hco hgen rfl (codeRec_of X' hcd) (hbind s _ _ _ _ ?_)
  refine wpAny_newFunctionEnv_cells hk (kindsX hkind _) fun env' he s' x => ?_
  subst he
  refine ⟨(T.nolimit.keeps W.keep).keeps x.toInCall.keep, codeAny_func ?_⟩
  obtain ⟨h₁, tk, rfl, _⟩ := x.done
  have hk₁ := x.toInCall.keep
  obtain ⟨cells, NC, Y⟩ := Cl.news (h₀ := s.heap) (Nat.le_refl _) fun n c hm => ⟨x.cell n c (lookup_of_mem_nodup (cellsFrom_names scope.names 0 (s.heap.objs.size + 1) [] [] rfl ▸ hnd) hm), x.above n c hm⟩
  refine wpAny_mono (h (A.deeper (envOfC qual scope s.heap.objs.size f cdv)) s g p loose mean mg mb s.heap.objs.size s.heap.objs.size h₁ tk cells (fun fl s' => R (.ok (.ret (retVal fl))) s') hh ?_ ?_ X T (Nat.le_refl _)
    (fun p hp => Heap.lt_size (W.led p hp).1) (fun p hp => Heap.lt_size (W.led p hp).1)
    ⟨x.toInCall.ns, fun b o e => hk₁ b o (W.keep _ _ e), W.size⟩ (fun p hp => ?_) Y fun fl l h' tk m' hp F N => hR (retVal fl) l h' tk hp (Wo.of_fr F N)) (fun fl _ x => by cases fl <;> exact x) (fun _ _ x => x.elim)
  · show A.depth + 1 + d < recursionLimit + 1; omega
  · show A.units + 3 + u < cLine + 3; omega
  · rcases List.mem_append.mp hp with hp | hp
    · refine ⟨(NC p hp).1, (NC p hp).2.1, ?_⟩
      cases q : g.get? p.1 with
      | none => rfl
      | some o => have := (NC p hp).2.2; rw [W.keep _ _ q] at this; cases this
    · exact ⟨hk₁ _ _ (W.led p hp).1, Nat.ne_of_lt (Heap.lt_size (W.led p hp).1), (W.led p hp).2⟩

theorem meets_nest {K : Frag} {prog : Program} {w : World} {fp : List (Addr × Obj)} {d u : Nat} {P : Nat → Value → List (Addr × Obj) → Prop}
    {name qual : Str} {params : Arguments} {body : List Stmt} {scope : Scope} {cl : List (Str × Addr)} {doc pm ctv : Value} {c' : Addr} {oc : Obj} {vs : Array Value} {t : Tok} {f : Addr} {args : List Value} {binds : List (Str × Value)}
    (ho : (f, fnMade name qual params body scope cl doc pm c' ctv) ∈ fp) (hc : (c', oc) ∈ fp) (hcd : oc.data = .fields vs) (hcv : vs[1]? = some (.str qual t))
    (hbind : ∀ s, BindsTo s (fnX name qual params body scope cl .none .none doc pm none (.ref c') ctv) ⟨args, []⟩ binds) (hloc : ∀ y ∈ binds, scope.names.lookup y.1 = some .local)
    (hcell : ∀ x ∈ scope.names, x.2 ≠ .cell)
    (h : ∀ (A : Around) (s : Shared) (g : Heap) (p : Program) (loose : List Str) (mean : ExcName → Option Value) (mg mb : Str → Option Value) (n₀ : Nat) (L : Nat) (h₁ : Heap) (tk : Nat) (k : Flow → Shared → Prop),
      A.handled = none → A.depth + d < recursionLimit + 1 → A.units + u < cLine + 3 → K.In g → Top p loose mean mg mb g → n₀ ≤ L → (∀ p ∈ fp, p.1 < n₀) → Fr g L h₁ (fun y => binds.reverse.lookup y) → News g L h₁ fp →
      (∀ fl l h' tk m', P n₀ (retVal fl) l → Fr g L h' m' → News g L h' l → k fl { s with heap := h', toks := tk }) →
      wpAny (model prog w) A (execs body (envX qual scope L f (.ref c') cl)) k (fun _ _ => False) { s with heap := h₁, toks := tk })
    (hd : 0 < d) (hco : scope.isCoroutine = false := by rfl) (hgen : scope.isGenerator = false := by rfl) (hk : scope.kind = .function := by rfl) :
    Meets prog w K (.call (.ref f) ⟨args, []⟩) fp d u P := by
  intro A s g p loose mean mg mb hh hdep hu W X T R hR
  refine codeAny_call_def (fd := fnX name qual params body scope cl .none .none doc pm none (.ref c') ctv) (body := body) (binds := binds) (by omega) (W.led _ ho).1 rfl (T.nolimit.keeps W.keep) ⟨c', oc, vs, t, rfl, (W.led _ hc).1, hcd, hcv⟩ rfl (hbind s) hcell hloc (fun h₁ hns hk₁ => ?_) hco hgen hk
  refine wpAny_mono (h (A.deeper (envX qual scope s.heap.objs.size f (.ref c') cl)) s g p loose mean mg mb s.heap.objs.size s.heap.objs.size h₁ _ (fun fl s' => R (.ok (.ret (retVal fl))) s') hh ?_ ?_ X T (Nat.le_refl _) (fun p hp => Heap.lt_size (W.led p hp).1)
    ⟨hns, fun b o e => hk₁ b o (W.keep _ _ e), W.size⟩
    (fun p hp => ⟨hk₁ _ _ (W.led p hp).1, Nat.ne_of_lt (Heap.lt_size (W.led p hp).1), (W.led p hp).2⟩) fun fl l h' tk m' hp F N => hR (retVal fl) l h' tk hp (Wo.of_fr F N)) (fun fl _ x => by cases fl <;> exact x) (fun _ _ x => x.elim)
  · show A.depth + 1 + d < recursionLimit + 1; omega
  · show A.units + 3 + u < cLine + 3; omega

theorem Meets.call {K : Frag} {prog : Program} {w : World} {f : Value} {args : List Value} {fp news : List (Addr × Obj)} {d u : Nat} {P : Nat → Value → List (Addr × Obj) → Prop} (rest : List (Addr × Obj))
    {A : Around} {s : Shared} {E : Value → Shared → Prop} {Q : Value → Shared → Prop} {h₀ : Heap} {L : Addr} {m : Str → Option Value} {p : Program} {loose : List Str} {mean : ExcName → Option Value} {mg mb : Str → Option Value}
    (S : Meets prog w K (.call f ⟨args, []⟩) fp d u P) (F : Fr h₀ L s.heap m) (N : News h₀ L s.heap news) (X : K.In h₀) (T : Top p loose mean mg mb h₀)
    (hf : ∀ p ∈ fp, p ∈ news) (hr : ∀ p ∈ rest, p ∈ news) (nd : ∀ q ∈ rest, ∀ p ∈ fp, p.1 ≠ q.1) (hh : A.handled = none) (hd : A.depth + d < recursionLimit) (hu : A.units + u < cLine)
    (h : ∀ (n₀ : Nat) v l h' tk, P n₀ v l → Fr h₀ L h' m → News h₀ L h' (l ++ rest) → @LT.lt Nat _ L n₀ → AllLt n₀ fp → AllLt n₀ rest → (∀ q ∈ rest, ∀ p ∈ l, p.1 ≠ q.1) → Q v { s with heap := h', toks := tk }) :
    wpAny (model prog w) A (PySem.call f args) Q E s :=
  S.use F (rest := rest) (fun p hp => N p ((List.mem_append.mp hp).elim (hf p) (hr p))) X T (fun p hp q hq => nd q hq p hp) hh hd hu fun n₀ v l h' tk hp F' N' h1 h2 h3 h4 => h n₀ v l h' tk hp F' N' h1 (allLt_of h2) (allLt_of h3) fun q hq p hp => h4 p hp q hq

noncomputable def defAt (o : Obj) (i : Nat) : Option (Arguments × List Stmt × Scope) := match o.data with
  | .func fd => (match fd.body with
    | .stmts b => (match b[i]? with
      | some (.FunctionDef _ params body _ _ _ scope _ _ _) => some (params, body, scope)
      | _ => none)
    | _ => none)
  | _ => none

noncomputable def TabOk (P : Addr) (line col : Nat) (qual : Str) (t : List (Addr × Obj)) : Prop :=
  t = [(P, tabObj #[])] ∨ ∃ c' oc vs tq, t = [(P, tabObj #[rawInt line, rawInt col, .ref c']), (c', oc)] ∧ oc.data = .fields vs ∧ vs[1]? = some (.str qual tq)
noncomputable def Low (n : Nat) (l : List (Addr × Obj)) : Prop := ∀ p ∈ l, p.1 < n
theorem Low.ne {n d : Nat} {l : List (Addr × Obj)} (h : Low n l) (hd : n ≤ d) : ∀ p ∈ l, p.1 ≠ d := fun p hp => Nat.ne_of_lt (Nat.lt_of_lt_of_le (h p hp) hd)
noncomputable def Made (P : Addr) (line col : Nat) (qual : Str) (c' : Addr) (t : List (Addr × Obj)) : Prop :=
  ∃ oc vs tq, t = [(P, tabObj #[rawInt line, rawInt col, .ref c']), (c', oc)] ∧ oc.data = .fields vs ∧ vs[1]? = some (.str qual tq)
theorem Made.ok {P : Addr} {line col : Nat} {qual : Str} {c' : Addr} {t : List (Addr × Obj)} (h : Made P line col qual c' t) : TabOk P line col qual t := let ⟨oc, vs, tq, r⟩ := h; .inr ⟨c', oc, vs, tq, r⟩
theorem Made.rec' {P : Addr} {line col : Nat} {qual : Str} {c' : Addr} {t : List (Addr × Obj)} (h : Made P line col qual c' t) : ∃ oc vs tq, (c', oc) ∈ t ∧ oc.data = .fields vs ∧ vs[1]? = some (.str qual tq) :=
  let ⟨oc, vs, tq, e, a, b⟩ := h; ⟨oc, vs, tq, e ▸ .tail _ (.head _), a, b⟩

theorem newMade {hs h' h₀ : Heap} {L P c' : Nat} {m : Str → Option Value} {own pre post : List (Addr × Obj)} {line col : Nat} {oc fo : Obj} {Q : Prop}
    (F : Fr h₀ L hs m) (N : News h₀ L hs (own ++ (pre ++ ([(P, tabObj #[])] ++ post)))) (hown : ∀ q ∈ own, q.1 ≠ P) (nd : ((pre ++ ([(P, tabObj #[])] ++ post)).map (·.1)).Nodup)
    (hx : Heap.ExtBut P hs h') (hge : hs.objs.size ≤ c') (hlt : c' < h'.objs.size) (hoc : h'.get? c' = some oc) (htb : h'.get? P = some (tabObj #[rawInt line, rawInt col, .ref c']))
    (hfo : fo.isFreed = false) (h : Fr h₀ L (h'.push fo) m → News h₀ L (h'.push fo) ((h'.objs.size, fo) :: (own ++ (pre ++ ([(P, tabObj #[rawInt line, rawInt col, .ref c']), (c', oc)] ++ post)))) →
      ((pre ++ ([(P, tabObj #[rawInt line, rawInt col, .ref c']), (c', oc)] ++ post)).map (·.1)).Nodup → (∀ q ∈ own, (∀ r ∈ [(P, tabObj #[])], q.1 ≠ r.1) → ∀ r ∈ [(P, tabObj #[rawInt line, rawInt col, .ref c']), (c', oc)], q.1 ≠ r.1) → AllLt h'.objs.size (own ++ (pre ++ ([(P, tabObj #[rawInt line, rawInt col, .ref c']), (c', oc)] ++ post))) → @LT.lt Nat _ L h'.objs.size → Q) : Q := by
  have hP := N (P, tabObj #[]) (List.mem_append_right _ (List.mem_append_right _ (.head _)))
  rw [List.map_append, List.map_append] at nd
  have nd1 := List.nodup_append.mp nd
  have nd2 := List.nodup_append.mp nd1.2.1
  have hpre : ∀ q ∈ pre, q.1 ≠ P := fun q hq => nd1.2.2 _ (List.mem_map_of_mem hq) _ (.head _)
  have hpost : ∀ q ∈ post, q.1 ≠ P := fun q hq e => nd2.2.2 _ (.head _) _ (List.mem_map_of_mem hq) e.symm
  have hLs : L < hs.objs.size := F.ns.lt
  have hLc : L < c' := Nat.lt_of_lt_of_le hLs hge
  have old : ∀ b o, h₀.get? b = some o → h'.get? b = some o := fun b o e => hx b o (fun q => by rw [q, hP.2.2] at e; cases e) (F.keep b o e)
  have fresh : ∀ b, L < b → h₀.get? b = none := fun b hb => Heap.get?_none_of_le (Nat.le_trans F.above (Nat.le_of_lt hb))
  have hlow : ∀ q ∈ own ++ (pre ++ ([(P, tabObj #[])] ++ post)), q.1 < c' := fun q hq => Nat.lt_of_lt_of_le (Heap.lt_size (N q hq).1) hge
  have hPc : P < c' := hlow _ (List.mem_append_right _ (List.mem_append_right _ (.head _)))
  have hlow' : ∀ q ∈ own ++ (pre ++ ([(P, tabObj #[rawInt line, rawInt col, .ref c']), (c', oc)] ++ post)), q.1 < h'.objs.size := fun q hq => by
    rcases List.mem_append.mp hq with hq | hq
    · exact Nat.lt_trans (hlow q (List.mem_append_left _ hq)) hlt
    · rcases List.mem_append.mp hq with hq | hq
      · exact Nat.lt_trans (hlow q (List.mem_append_right _ (List.mem_append_left _ hq))) hlt
      · rcases List.mem_cons.mp hq with rfl | hq
        · exact Nat.lt_trans hPc hlt
        · rcases List.mem_cons.mp hq with rfl | hq
          · exact hlt
          · exact Nat.lt_trans (hlow q (List.mem_append_right _ (List.mem_append_right _ (.tail _ hq)))) hlt
  refine h ⟨(F.ns.extBut hx hP.2.1.symm).push _, fun b o e => Heap.get?_push_of_some _ (old b o e), F.above⟩ (fun q hq => ?_) ?_ ?_ (allLt_of hlow') (Nat.lt_trans hLc hlt)
  · have other : ∀ q ∈ own ++ (pre ++ ([(P, tabObj #[])] ++ post)), q.1 ≠ P → (h'.push fo).get? q.1 = some q.2 ∧ q.1 ≠ L ∧ h₀.get? q.1 = none := fun q hq hne =>
      ⟨Heap.get?_push_of_some _ (hx _ _ hne (N q hq).1), (N q hq).2⟩
    rcases List.mem_cons.mp hq with rfl | hq
    · exact ⟨Heap.get?_push_size _ hfo, Nat.ne_of_gt (Nat.lt_trans hLc hlt), fresh _ (Nat.lt_trans hLc hlt)⟩
    · rcases List.mem_append.mp hq with hq | hq
      · exact other q (List.mem_append_left _ hq) (hown q hq)
      · rcases List.mem_append.mp hq with hq | hq
        · exact other q (List.mem_append_right _ (List.mem_append_left _ hq)) (hpre q hq)
        · rcases List.mem_cons.mp hq with rfl | hq
          · exact ⟨Heap.get?_push_of_some _ htb, hP.2⟩
          · rcases List.mem_cons.mp hq with rfl | hq
            · exact ⟨Heap.get?_push_of_some _ hoc, Nat.ne_of_gt hLc, fresh _ hLc⟩
            · exact other q (List.mem_append_right _ (List.mem_append_right _ (.tail _ hq))) (hpost q hq)
  · rw [List.map_append, List.map_append]
    have hcn : ∀ q ∈ pre ++ ([(P, tabObj #[])] ++ post), q.1 ≠ c' := fun q hq => Nat.ne_of_lt (hlow q (List.mem_append_right _ hq))
    refine List.nodup_append.mpr ⟨nd1.1, ?_, ?_⟩
    · show (P :: c' :: post.map (·.1)).Nodup
      have ndP : (P :: post.map (·.1)).Nodup := nd1.2.1
      refine List.nodup_cons.mpr ⟨fun hm => ?_, List.nodup_cons.mpr ⟨fun hm => ?_, (List.nodup_cons.mp ndP).2⟩⟩
      · rcases List.mem_cons.mp hm with e | hm
        · exact Nat.ne_of_lt hPc e
        · exact (List.nodup_cons.mp ndP).1 hm
      · obtain ⟨q, hq, e⟩ := List.mem_map.mp hm
        exact hcn q (List.mem_append_right _ (.tail _ hq)) e
    · intro x hx y hy e
      obtain ⟨q, hq, rfl⟩ := List.mem_map.mp hx
      subst e
      rcases List.mem_cons.mp hy with e | hy
      · exact hpre q hq e
      · rcases List.mem_cons.mp hy with e | hy
        · exact hcn q (List.mem_append_left _ hq) e
        · exact nd1.2.2 _ (List.mem_map_of_mem hq) _ (List.mem_append_right _ hy) rfl
  · intro q hq _ r hr
    rcases List.mem_cons.mp hr with rfl | hr
    · exact hown q hq
    · have := List.mem_singleton.mp hr
      subst this
      exact Nat.ne_of_lt (hlow q (List.mem_append_left _ hq))
theorem makeAny {M : Model} {A : Around} {E : Value → Shared → Prop} {s : Shared} {h₀ : Heap} {L a c P : Nat} {m mg mb : Str → Option Value} {cn : Str} {cs : Scope} {ccd : Value} {cl : List (Str × Addr)} {own pre post t : List (Addr × Obj)}
    {p : Program} {loose : List Str} {mean : ExcName → Option Value} {name qual : Str} {params : Arguments} {body : List Stmt} {scope : Scope} {pos : Pos} {firstLine : Nat} {clos : List (Str × Addr)} {Q : Value → Shared → Prop}
    (F : Fr h₀ L s.heap m) (N : News h₀ L s.heap (own ++ (pre ++ (t ++ post)))) (T : Top p loose mean mg mb h₀) (C : CodeHd h₀ c P) (hcd : ccd = .ref c) (ht : TabOk P pos.line pos.col qual t)
    (hown : ∀ q ∈ own, q.1 ≠ P) (nd : ((pre ++ (t ++ post)).map (·.1)).Nodup)
    (hcl : closureFor scope (envX cn cs L a ccd cl) = pure clos)
    (h : ∀ (f c' : Nat) t' ctv doc h' tk, Made P pos.line pos.col qual c' t' → Fr h₀ L h' m → News h₀ L h' ((f, fnMade name qual params body scope clos doc ((mg "__name__").getD .none) c' ctv) :: (own ++ (pre ++ (t' ++ post)))) →
      ((pre ++ (t' ++ post)).map (·.1)).Nodup → (∀ q ∈ own, (∀ r ∈ t, q.1 ≠ r.1) → ∀ r ∈ t', q.1 ≠ r.1) → AllLt f (own ++ (pre ++ (t' ++ post))) → @LT.lt Nat _ L f → Q (.ref f) { s with heap := h', toks := tk }) :
    wpAny M A (makeFunction name qual params (.stmts body) scope (envX cn cs L a ccd cl) [] [] [] pos firstLine) Q E s := by
  have hgs := T.g.keeps F.keep
  obtain ⟨bm, ob, b1, b2, b3, b4, b5, b6⟩ := T.bmain
  have hbG : bm ≠ mainGlobals := fun q => by
    obtain ⟨o, es, ep, e, hd, _⟩ := T.g
    rw [q, e] at b3; cases b3; rw [hd] at b6; cases b6
  have hPin : ∃ ps, (P, tabObj ps) ∈ t := by
    rcases ht with rfl | ⟨c', oc, vs, tq, rfl, _, _⟩
    · exact ⟨_, .head _⟩
    · exact ⟨_, .head _⟩
  obtain ⟨ps0, hPm⟩ := hPin
  have hmP := N (P, tabObj ps0) (List.mem_append_right _ (List.mem_append_right _ (List.mem_append_left _ hPm)))
  have hgP : mainGlobals ≠ P := fun q => by
    obtain ⟨o, es, ep, e, hd, _⟩ := hgs
    rw [q, hmP.1] at e; cases e; cases hd
  have hbP : bm ≠ P := fun q => by
    have e := F.keep _ _ b3
    rw [q, hmP.1] at e; cases e; cases b4
  have nd0 := nd
  rw [List.map_append, List.map_append] at nd
  have nd1 := List.nodup_append.mp nd
  have nd2 := List.nodup_append.mp nd1.2.1
  have hpre : ∀ q ∈ pre, q.1 ≠ P := fun q hq => nd1.2.2 _ (List.mem_map_of_mem hq) _ (List.mem_append_left _ (List.mem_map_of_mem (f := (·.1)) hPm))
  have hpost : ∀ q ∈ post, q.1 ≠ P := fun q hq e => nd2.2.2 _ (List.mem_map_of_mem (f := (·.1)) hPm) _ (List.mem_map_of_mem hq) e.symm
  have hLs : L < s.heap.objs.size := F.ns.lt
  rcases ht with rfl | ⟨c', oc, vs, tq, rfl, hod, hov⟩
  · have e0 : ps0 = #[] := by
      have := List.mem_singleton.mp hPm
      cases this; rfl
    subst e0
    refine makeFunction_K (mg := mg) hcl rfl hgs hcd (C.keeps F.keep) hmP.1 True.intro rfl hgP ⟨bm, ob, b1, b2, hbG, hbP, F.keep _ _ b3, b4, b5, b6⟩ fun c' ctv doc h' tk hx hge hlt hrec htb => ?_
    obtain ⟨c₂, oc, vs, t, e2, hoc, hd, hv⟩ := hrec
    cases e2
    exact newMade F N hown nd0 hx hge hlt hoc htb rfl fun F' N' nd' ap' lt' L' => h h'.objs.size c' _ ctv doc _ tk ⟨oc, vs, t, rfl, hd, hv⟩ F' N' nd' ap' lt' L'
  · have e0 : ps0 = #[rawInt pos.line, rawInt pos.col, .ref c'] := by
      rcases List.mem_cons.mp hPm with e | hm
      · cases e; rfl
      · have := List.mem_singleton.mp hm
        have e1 : P = c' := congrArg Prod.fst this
        exact absurd (nd2.1) (by
          show ¬ ([P, c'] : List Addr).Nodup
          rw [e1]; simp)
    subst e0
    refine makeFunction_hit (mg := mg) (cv := .ref c') hcl rfl hgs hcd (C.keeps F.keep) hmP.1 (by simp [TriplesOk, rawInt]) (by simp [codeAmong, rawInt]) ⟨bm, ob, b1, b2, hbG, hbP, F.keep _ _ b3, b4, b5, b6⟩ fun ctv doc h' tk hk hsz => ?_
    have hLs' : L < h'.objs.size := Nat.lt_of_lt_of_le hLs hsz
    have fresh : ∀ b, L < b → h₀.get? b = none := fun b hb => Heap.get?_none_of_le (Nat.le_trans F.above (Nat.le_of_lt hb))
    refine h h'.objs.size c' _ ctv doc _ tk ⟨oc, vs, tq, rfl, hod, hov⟩ ⟨(F.ns.keeps hk).push _, fun b o e => Heap.get?_push_of_some _ (hk b o (F.keep b o e)), F.above⟩ (fun q hq => ?_) (by rw [List.map_append, List.map_append]; exact nd) (fun q _ k => k)
      (allLt_of fun q hq => Nat.lt_of_lt_of_le (Heap.lt_size (N q hq).1) hsz) hLs'
    rcases List.mem_cons.mp hq with rfl | hq
    · exact ⟨Heap.get?_push_size _ rfl, Nat.ne_of_gt hLs', fresh _ hLs'⟩
    · exact ⟨Heap.get?_push_of_some _ (hk _ _ (N q hq).1), (N q hq).2⟩

theorem TabOk.mem {P : Addr} {line col : Nat} {qual : Str} {t : List (Addr × Obj)} (h : TabOk P line col qual t) : ∃ o, (P, o) ∈ t := by
  rcases h with rfl | ⟨c', oc, vs, tq, rfl, _, _⟩
  · exact ⟨_, .head _⟩
  · exact ⟨_, .head _⟩
theorem makeTab {M : Model} {A : Around} {E : Value → Shared → Prop} {s : Shared} {h₀ : Heap} {L a c P : Nat} {m mg mb : Str → Option Value} {cn : Str} {cs : Scope} {ccd : Value} {cl : List (Str × Addr)} {own pre post t : List (Addr × Obj)}
    {p : Program} {loose : List Str} {mean : ExcName → Option Value} {name qual : Str} {params : Arguments} {body : List Stmt} {scope : Scope} {pos : Pos} {firstLine : Nat} {clos : List (Str × Addr)} {Q : Value → Shared → Prop}
    (F : Fr h₀ L s.heap m) (N : News h₀ L s.heap (own ++ (pre ++ (t ++ post)))) (T : Top p loose mean mg mb h₀) (C : CodeHd h₀ c P) (hcd : ccd = .ref c) (ht : TabOk P pos.line pos.col qual t)
    (hown : ∀ q ∈ own, ∀ p ∈ pre ++ (t ++ post), p.1 ≠ q.1) (nd : ((pre ++ (t ++ post)).map (·.1)).Nodup)
    (hcl : closureFor scope (envX cn cs L a ccd cl) = pure clos)
    (h : ∀ (f c' : Nat) t' ctv doc h' tk, Made P pos.line pos.col qual c' t' → Fr h₀ L h' m → News h₀ L h' ((f, fnMade name qual params body scope clos doc ((mg "__name__").getD .none) c' ctv) :: (own ++ (pre ++ (t' ++ post)))) →
      ((pre ++ (t' ++ post)).map (·.1)).Nodup → (∀ q ∈ own, ∀ p ∈ pre ++ (t' ++ post), p.1 ≠ q.1) → AllLt f own → Low f (pre ++ (t' ++ post)) → @LT.lt Nat _ L f → Q (.ref f) { s with heap := h', toks := tk }) :
    wpAny M A (makeFunction name qual params (.stmts body) scope (envX cn cs L a ccd cl) [] [] [] pos firstLine) Q E s := by
  obtain ⟨oP, hP⟩ := ht.mem
  refine makeAny F N T C hcd ht (fun q hq => (hown q hq _ (List.mem_append_right _ (List.mem_append_left _ hP))).symm) nd hcl fun f c' t' ctv doc h' tk hM F' N' nd' hap hlt hLf => ?_
  have hf : ∀ p ∈ own ++ (pre ++ (t' ++ post)), p.1 < f := by
    have key : ∀ {l : List (Addr × Obj)}, AllLt f l → ∀ p ∈ l, p.1 < f := fun {l} => by
      induction l with
      | nil => intro _ p hp; cases hp
      | cons x r ih =>
        intro z p hp
        rcases List.mem_cons.mp hp with rfl | hp
        · exact z.1
        · exact ih z.2 p hp
    exact key hlt
  refine h f c' t' ctv doc h' tk hM F' N' nd' (fun q hq p hp => ?_) (allLt_of fun p hp => hf p (List.mem_append_left _ hp)) (fun p hp => hf p (List.mem_append_right _ hp)) hLf
  rcases List.mem_append.mp hp with hp | hp
  · exact hown q hq p (List.mem_append_left _ hp)
  · rcases List.mem_append.mp hp with hp | hp
    · exact (hap q hq (fun r hr => (hown q hq r (List.mem_append_right _ (List.mem_append_left _ hr))).symm) p hp).symm
    · exact hown q hq p (List.mem_append_right _ (List.mem_append_right _ hp))

noncomputable def Says (m : Str → Option Value) (l : List (Str × Value)) : Prop := ∀ p ∈ l, m p.1 = some p.2
theorem Fr.said {h₀ h : Heap} {L : Addr} {m : Str → Option Value} {l : List (Str × Value)} (F : Fr h₀ L h m) (hl : Says m l) : Fr h₀ L h (kstB m l) := by
  have e : kstB m l = m := by
    funext z
    exact kstB_eq hl fun _ => rfl
  rw [e]; exact F
theorem Fr.saidIf {h₀ h : Heap} {L : Addr} {m : Str → Option Value} {x : Str} {v : Value} {l : List (Str × Value)} (F : Fr h₀ L h (fun y => if y = x then some v else m y)) (hl : Says m l) : Fr h₀ L h (fun y => if y = x then some v else kstB m l y) := by
  have e : kstB m l = m := by
    funext z
    exact kstB_eq hl fun _ => rfl
  rw [e]; exact F

theorem loopAt {prog : Program} {w : World} {A : Around} {E : Value → Shared → Prop} {s : Shared} {env : Env} {h₀ : Heap} {x : Str} {body : List Stmt} {Q : Flow → Shared → Prop}
    {I : Addr} {fp : List Addr} {n : Nat} {P : Nat → Value → Prop} {St : Nat → Heap → Prop} {m₀ : Str → Option Value} {news : List (Addr × Obj)}
    (W : Walks prog w A I fp [I] n P St) (hE : ∀ i h, St i h → ∀ b ∈ fp, ∃ o, h.get? b = some o) (hLf : env.locals ∉ fp) (hwr : h₀.get? I = none) (hfp : ∀ q ∈ news, q.1 ∉ fp)
    (hst : St 0 s.heap) (F : Fr h₀ env.locals s.heap m₀) (N : News h₀ env.locals s.heap news)
    (J : Nat → (Str → Option Value) → List (Addr × Obj) → Prop) (hj : J 0 m₀ news)
    (turn : ∀ i v m₁ news₁ h tk own (kn : Shared → Prop), i < n → P i v → J i m₁ news₁ → Fr h₀ env.locals h (fun y => if y = x then some v else m₁ y) → News h₀ env.locals h (news₁ ++ own) → (∀ q ∈ news₁, ∀ p ∈ own, p.1 ≠ q.1) →
      (∀ h' tk' m' news', Fr h₀ env.locals h' m' → News h₀ env.locals h' (news' ++ own) → (∀ q ∈ news', ∀ p ∈ own, p.1 ≠ q.1) → J (i + 1) m' news' → kn { s with heap := h', toks := tk' }) →
      wpAny (model prog w) A (execs body env) (fun f s₂ => match f with | .ret v => Q (.ret v) s₂ | .brk => Q .next s₂ | _ => kn s₂) E { s with heap := h, toks := tk })
    (done : ∀ h tk m₁ news₁, J n m₁ news₁ → Fr h₀ env.locals h m₁ → News h₀ env.locals h news₁ → Q .next { s with heap := h, toks := tk }) :
    LoopAtV prog w A h₀ env x body Q E (.ref I) s := by
  have hIf : I ∈ fp := W.sub _ (.head _)
  refine ⟨I, fp, [I], n, P, St, m₀, news, fun i m₁ news₁ => (∀ q ∈ news₁, q.1 ∉ fp) ∧ J i m₁ news₁, rfl, W, hLf, fun b hb => by rw [List.mem_singleton.mp hb]; exact hwr, fun q hq hI => hfp q hq (by rw [List.mem_singleton.mp hI]; exact hIf), hst, F, N, ⟨hfp, hj⟩, ?_, ?_⟩
  · rintro i v m₁ news₁ s₁ own ⟨hh', tk', rfl⟩ hin hP ⟨hnf, hJ⟩ hoff hown hog hoin hst1 F₁ N₁
    have N₂ : News h₀ env.locals hh' (news₁ ++ own) := fun p hp => N₁ p ((List.mem_append.mp hp).elim (fun h => List.mem_append.mpr (.inr h)) fun h => List.mem_append.mpr (.inl h))
    refine wpAny_mono (turn i v m₁ news₁ hh' tk' own (LoopStepU h₀ env.locals [I] own (fun m₁ news₁ => (∀ q ∈ news₁, q.1 ∉ fp) ∧ J (i + 1) m₁ news₁) { s with heap := hh', toks := tk' } .next) hin hP hJ F₁ N₂ (fun q hq p hp e => hnf q hq (by rw [← e]; exact hown p hp)) ?_) (fun f s₂ p => ?_) fun _ _ e => e
    · intro h' tk m' news' F' N' hsep hJ'
      have hnf' : ∀ q ∈ news', q.1 ∉ fp := fun q hq hb => by
        cases e0 : h₀.get? q.1 with
        | some o => have := (N' q (List.mem_append_left _ hq)).2.2; rw [e0] at this; cases this
        | none =>
          obtain ⟨o, ho⟩ := hE _ _ hst1 q.1 hb
          exact hsep q hq _ (hoin q.1 hb e0 o ho) rfl
      exact ⟨rfl, h', tk, m', news', rfl, F', fun p hp => N' p ((List.mem_append.mp hp).elim (fun h => List.mem_append_right _ h) fun h => List.mem_append_left _ h), fun p hp hq => hnf' p hp (by rw [List.mem_singleton.mp hq]; exact hIf), hnf', hJ'⟩
    · cases f with
      | ret v => exact .ret p
      | brk => exact .brk p
      | next => exact .next p
      | cont => exact .cont p
  · rintro h' tk m' news' F' N' _ ⟨_, hJ⟩
    exact done h' tk m' news' hJ F' N'
end
theorem gen_K {M : Model} {A : Around} {α : Type} {c : Sem α} {K : α → Shared → Prop} {E : Value → Shared → Prop} {s : Shared} (h : ∀ K' : α → Shared → Prop, (∀ f s, K f s → K' f s) → wpAny M A c K' E s) : wpAny M A c K E s := h K fun _ _ h => h
end Mine
end

noncomputable section
open PySem PySem.W PySem.Calls PyProof.Rows
namespace Mine
theorem says_nil {m : Str → Option Value} : Says m [] := fun p hp => by cases hp
theorem says_cons {m : Str → Option Value} {x : Str} {v : Value} {l : List (Str × Value)} (h : m x = some v) (hl : Says m l) : Says m ((x, v) :: l) := fun p hp => by
  rcases List.mem_cons.mp hp with rfl | hp
  · exact h
  · exact hl p hp
theorem lowAll {n : Addr} : ∀ {l : List (Addr × Obj)}, AllLt n l → Low n l := fun {l} => by
  induction l with
  | nil => intro _ p hp; cases hp
  | cons x r ih =>
    intro z p hp
    rcases List.mem_cons.mp hp with rfl | hp
    · exact z.1
    · exact ih z.2 p hp
theorem ints_at : ∀ {vs : List Value} {ns : List Int} {j : Nat} {v : Value}, IntsAre vs ns → vs[j]? = some v → ∃ t, v = .int (ns.getD j 0) t := by
  intro vs ns j v h
  induction h generalizing j with
  | nil => intro e; simp at e
  | cons n t h ih =>
    intro e
    cases j with
    | zero => exact ⟨t, by simpa using e.symm⟩
    | succ j => simpa using ih (by simpa using e)
theorem ints_snoc {vs : List Value} {ns : List Int} {x : Int} {t : Tok} (h : IntsAre vs ns) : IntsAre (vs ++ [.int x t]) (ns ++ [x]) := by
  induction h with
  | nil => exact .cons x t .nil
  | cons n u h ih => exact .cons n u ih
theorem ints_rev {vs : List Value} {ns : List Int} (h : IntsAre vs ns) : IntsAre vs.reverse ns.reverse := by
  induction h with
  | nil => exact .nil
  | cons n u h ih => simpa using ints_snoc ih
end Mine
end

noncomputable section
open PySem PySem.W PySem.Calls PyProof.Rows
namespace Mine
noncomputable abbrev txt (l : List Nat) : Str := ⟨l.toArray⟩
inductive SignsAre : List Value → List Nat → Prop
  | nil : SignsAre [] []
  | cons (c : Nat) (t : Tok) {vs cs} : SignsAre vs cs → SignsAre (.str (txt [c]) t :: vs) (c :: cs)
theorem SignsAre.length {vs : List Value} {cs : List Nat} (h : SignsAre vs cs) : vs.length = cs.length := by
  induction h with
  | nil => rfl
  | cons c t h ih => simp [ih]
theorem signs_of : ∀ {vs : List Value} {l : List Nat}, vs.length = l.length → (∀ (j : Nat) (v : Value), vs[j]? = some v → ∃ c u, l[j]? = some c ∧ v = .str (txt [c]) u) → SignsAre vs l
  | [], [], _, _ => .nil
  | [], _ :: _, e, _ => by simp at e
  | _ :: _, [], e, _ => by simp at e
  | v :: vs, c :: l, e, h => by
    obtain ⟨c', u, h1, h2⟩ := h 0 v rfl
    simp at h1
    subst h1 h2
    exact .cons _ _ (signs_of (by simpa using e) fun j v hj => h (j + 1) v hj)
section
variable {prog : Program} {w : World} {A : Around} {E : Value → Shared → Prop} {s : Shared} {h₀ : Heap} {L : Addr} {m : Str → Option Value} {news : List (Addr × Obj)} {Q : Value → Shared → Prop}
theorem list_txt {l : List Nat} {t : Tok} (hh : A.handled = none) (F : Fr h₀ L s.heap m) (N : News h₀ L s.heap news) (hz : l.length ≤ sizeLine)
    (h : ∀ D vs c h' tk, Fr h₀ L h' m → News h₀ L h' ((D, listOf (List.toArray vs) c) :: news) → (∀ p ∈ news, p.1 < D) → SignsAre vs l → Q (.ref D) { s with heap := h', toks := tk }) :
    wpAny (model prog w) A (call (.type "list") [.str (txt l) t]) Q E s := by
  refine call_list_str hh (txt l) t (fun h' tk acc c hk hD hI => ?_) (by simpa using hz)
  have hD' : h'.get? s.heap.objs.size = some (listOf (List.toArray acc.toList) c) := by
    rw [Array.toArray_toList]
    exact hD
  refine h _ acc.toList c h' tk (F.keeps hk) (news_pushed F N hk hD' rfl) (fun p hp => Heap.lt_size (N p hp).1) (signs_of ?_ fun j v hj => ?_)
  · have := hI.1
    simpa using this
  · obtain ⟨c, u, h1, h2⟩ := hI.2 j v (by rw [← hj, Array.getElem?_toList])
    exact ⟨c, u, by simpa using h1, h2⟩
end
end Mine
end

noncomputable section
open PySem PySem.W PySem.Calls PyProof.Rows
namespace Mine
theorem Wo.push {g h : Heap} {l : List (Addr × Obj)} (W : Wo g h l) (o : Obj) (ho : o.isFreed = false := by rfl) : Wo g (h.push o) ((h.objs.size, o) :: l) := by
  refine ⟨fun b x e => Heap.get?_push_of_some _ (W.keep b x e), Nat.le_trans W.size (by rw [Heap.size_push]; omega), fun p hp => ?_⟩
  rcases List.mem_cons.mp hp with rfl | hp
  · refine ⟨Heap.get?_push_size _ ho, ?_⟩
    cases q : g.get? h.objs.size with
    | none => rfl
    | some x => exact absurd (Heap.lt_size (W.keep _ _ q)) (Nat.lt_irrefl _)
  · exact ⟨Heap.get?_push_of_some _ (W.led p hp).1, (W.led p hp).2⟩
theorem Meets.make {prog : Program} {w : World} {K : Frag} {C fI : Addr} {args : List Value} {fp : List (Addr × Obj)} {d u : Nat} {P : Nat → Nat → Nat → List (Addr × Obj) → Prop}
    (hm : makesIn K C = true) (hi : findIn K (.ref C) "__init__" = some (some (.ref fI))) (hf : isFn K (.ref fI) = true)
    (S : ∀ x dx, dx < x → Meets prog w K (.call (.ref fI) ⟨.ref x :: args, []⟩) ((x, instObj C dx) :: (dx, dictOf [] 0) :: fp) d u (fun n₀ v l => v = .none ∧ P n₀ x dx l)) :
    Meets prog w K (.call (.ref C) ⟨args, []⟩) fp (d + 1) (u + 1) (fun n₀ v l => ∃ x dx, n₀ ≤ dx ∧ dx < x ∧ v = .ref x ∧ P (x + 1) x dx l) := by
  intro A s g p loose mean mg mb hh hdep hu W X T R hR
  obtain ⟨h, gg, dd, t, os⟩ := s
  have X' : K.In h := X.keeps W.keep
  refine make_core (makes_of X' hm) (looks_findIn X' hi) (fun self => bind_fn X' self (beq_iff_eq.mp hf)) (.inl rfl) ?_
  have W2 := (W.push emptyDict).push (instObj C h.objs.size)
  rw [Heap.size_push] at W2
  refine S (h.objs.size + 1) h.objs.size (Nat.lt_succ_self _) (A.under (.builtin "type.__call__" ⟨.ref C :: args, []⟩)) ⟨(h.push emptyDict).push (instObj C h.objs.size), gg, dd, t, os⟩ g p loose mean mg mb hh ?_ ?_ W2 X T _ fun v l h' tk hp W' => ?_
  · show A.depth + 1 + d < recursionLimit; omega
  · show (A.under (.builtin "type.__call__" ⟨.ref C :: args, []⟩)).units + u < cLine
    have : (A.under (.builtin "type.__call__" ⟨.ref C :: args, []⟩)).units = A.units + 1 := units_under_make _ _ _
    omega
  · obtain ⟨rfl, hp⟩ := hp
    refine ⟨rfl, hR _ _ _ _ ⟨h.objs.size + 1, h.objs.size, Nat.le_refl _, Nat.lt_succ_self _, rfl, ?_⟩ W'⟩
    have e : ((h.push emptyDict).push (instObj C h.objs.size)).objs.size = h.objs.size + 1 + 1 := by rw [Heap.size_push, Heap.size_push]
    rw [← e]; exact hp
end Mine
end

noncomputable section
open PySem PySem.W PySem.Calls PyProof.Rows
namespace Mine
section
theorem makeAnyE {M : Model} {A : Around} {E : Value → Shared → Prop} {s : Shared} {h₀ : Heap} {L a c P : Nat} {m mg mb : Str → Option Value} {cn : Str} {cs : Scope} {ccd : Value} {cl : List (Str × Addr)} {own pre post t : List (Addr × Obj)}
    {p : Program} {loose : List Str} {mean : ExcName → Option Value} {name qual : Str} {params : Arguments} {body : PySem.Expr} {scope : Scope} {pos : Pos} {firstLine : Nat} {clos : List (Str × Addr)} {Q : Value → Shared → Prop}
    (F : Fr h₀ L s.heap m) (N : News h₀ L s.heap (own ++ (pre ++ (t ++ post)))) (T : Top p loose mean mg mb h₀) (C : CodeHd h₀ c P) (hcd : ccd = .ref c) (ht : TabOk P pos.line pos.col qual t)
    (hown : ∀ q ∈ own, q.1 ≠ P) (nd : ((pre ++ (t ++ post)).map (·.1)).Nodup)
    (hcl : closureFor scope (envX cn cs L a ccd cl) = pure clos)
    (h : ∀ (f c' : Nat) t' ctv h' tk, Made P pos.line pos.col qual c' t' → (∀ c₀, Made P pos.line pos.col qual c₀ t → t' = t ∧ c' = c₀) → Fr h₀ L h' m → News h₀ L h' ((f, kla_obj name qual params body scope clos ((mg "__name__").getD .none) c' ctv) :: (own ++ (pre ++ (t' ++ post)))) →
      ((pre ++ (t' ++ post)).map (·.1)).Nodup → (∀ q ∈ own, (∀ r ∈ t, q.1 ≠ r.1) → ∀ r ∈ t', q.1 ≠ r.1) → AllLt f (own ++ (pre ++ (t' ++ post))) → @LT.lt Nat _ L f → Q (.ref f) { s with heap := h', toks := tk }) :
    wpAny M A (makeFunction name qual params (.expr body) scope (envX cn cs L a ccd cl) [] [] [] pos firstLine) Q E s := by
  have hgs := T.g.keeps F.keep
  obtain ⟨bm, ob, b1, b2, b3, b4, b5, b6⟩ := T.bmain
  have hbG : bm ≠ mainGlobals := fun q => by
    obtain ⟨o, es, ep, e, hd, _⟩ := T.g
    rw [q, e] at b3; cases b3; rw [hd] at b6; cases b6
  have hPin : ∃ ps, (P, tabObj ps) ∈ t := by
    rcases ht with rfl | ⟨c', oc, vs, tq, rfl, _, _⟩
    · exact ⟨_, .head _⟩
    · exact ⟨_, .head _⟩
  obtain ⟨ps0, hPm⟩ := hPin
  have hmP := N (P, tabObj ps0) (List.mem_append_right _ (List.mem_append_right _ (List.mem_append_left _ hPm)))
  have hgP : mainGlobals ≠ P := fun q => by
    obtain ⟨o, es, ep, e, hd, _⟩ := hgs
    rw [q, hmP.1] at e; cases e; cases hd
  have hbP : bm ≠ P := fun q => by
    have e := F.keep _ _ b3
    rw [q, hmP.1] at e; cases e; cases b4
  have nd0 := nd
  rw [List.map_append, List.map_append] at nd
  have nd1 := List.nodup_append.mp nd
  have nd2 := List.nodup_append.mp nd1.2.1
  have hpre : ∀ q ∈ pre, q.1 ≠ P := fun q hq => nd1.2.2 _ (List.mem_map_of_mem hq) _ (List.mem_append_left _ (List.mem_map_of_mem (f := (·.1)) hPm))
  have hpost : ∀ q ∈ post, q.1 ≠ P := fun q hq e => nd2.2.2 _ (List.mem_map_of_mem (f := (·.1)) hPm) _ (List.mem_map_of_mem hq) e.symm
  have hLs : L < s.heap.objs.size := F.ns.lt
  rcases ht with rfl | ⟨c', oc, vs, tq, rfl, hod, hov⟩
  · have e0 : ps0 = #[] := by
      have := List.mem_singleton.mp hPm
      cases this; rfl
    subst e0
    refine kla_makeFunction (mg := mg) hcl rfl hgs hcd (C.keeps F.keep) hmP.1 True.intro rfl hgP ⟨bm, ob, b1, b2, hbG, hbP, F.keep _ _ b3, b4, b5, b6⟩ fun c' ctv h' tk hx hge hlt hrec htb => ?_
    obtain ⟨c₂, oc, vs, t, e2, hoc, hd, hv⟩ := hrec
    cases e2
    exact newMade F N hown nd0 hx hge hlt hoc htb rfl fun F' N' nd' ap' lt' L' => h h'.objs.size c' _ ctv _ tk ⟨oc, vs, t, rfl, hd, hv⟩ (fun c₀ ⟨_, _, _, e, _⟩ => by simp at e) F' N' nd' ap' lt' L'
  · have e0 : ps0 = #[rawInt pos.line, rawInt pos.col, .ref c'] := by
      rcases List.mem_cons.mp hPm with e | hm
      · cases e; rfl
      · have := List.mem_singleton.mp hm
        have e1 : P = c' := congrArg Prod.fst this
        exact absurd (nd2.1) (by
          show ¬ ([P, c'] : List Addr).Nodup
          rw [e1]; simp)
    subst e0
    refine kla_makeFunctionHit (mg := mg) (cv := .ref c') hcl rfl hgs hcd (C.keeps F.keep) hmP.1 (by simp [TriplesOk, rawInt]) (by simp [codeAmong, rawInt]) ⟨bm, ob, b1, b2, hbG, hbP, F.keep _ _ b3, b4, b5, b6⟩ fun ctv h' tk hk hsz => ?_
    have hLs' : L < h'.objs.size := Nat.lt_of_lt_of_le hLs hsz
    have fresh : ∀ b, L < b → h₀.get? b = none := fun b hb => Heap.get?_none_of_le (Nat.le_trans F.above (Nat.le_of_lt hb))
    refine h h'.objs.size c' _ ctv _ tk ⟨oc, vs, tq, rfl, hod, hov⟩ (fun c₀ ⟨_, _, _, e, _⟩ => ⟨rfl, congrArg Prod.fst (List.cons.inj (List.cons.inj e).2).1⟩) ⟨(F.ns.keeps hk).push _, fun b o e => Heap.get?_push_of_some _ (hk b o (F.keep b o e)), F.above⟩ (fun q hq => ?_) (by rw [List.map_append, List.map_append]; exact nd) (fun q _ k => k)
      (allLt_of fun q hq => Nat.lt_of_lt_of_le (Heap.lt_size (N q hq).1) hsz) hLs'
    rcases List.mem_cons.mp hq with rfl | hq
    · exact ⟨Heap.get?_push_size _ rfl, Nat.ne_of_gt hLs', fresh _ hLs'⟩
    · exact ⟨Heap.get?_push_of_some _ (hk _ _ (N q hq).1), (N q hq).2⟩

theorem makeTabE {M : Model} {A : Around} {E : Value → Shared → Prop} {s : Shared} {h₀ : Heap} {L a c P : Nat} {m mg mb : Str → Option Value} {cn : Str} {cs : Scope} {ccd : Value} {cl : List (Str × Addr)} {own pre post t : List (Addr × Obj)}
    {p : Program} {loose : List Str} {mean : ExcName → Option Value} {name qual : Str} {params : Arguments} {body : PySem.Expr} {scope : Scope} {pos : Pos} {firstLine : Nat} {clos : List (Str × Addr)} {Q : Value → Shared → Prop}
    (F : Fr h₀ L s.heap m) (N : News h₀ L s.heap (own ++ (pre ++ (t ++ post)))) (T : Top p loose mean mg mb h₀) (C : CodeHd h₀ c P) (hcd : ccd = .ref c) (ht : TabOk P pos.line pos.col qual t)
    (hown : ∀ q ∈ own, ∀ p ∈ pre ++ (t ++ post), p.1 ≠ q.1) (nd : ((pre ++ (t ++ post)).map (·.1)).Nodup)
    (hcl : closureFor scope (envX cn cs L a ccd cl) = pure clos)
    (h : ∀ (f c' : Nat) t' ctv h' tk, Made P pos.line pos.col qual c' t' → (∀ c₀, Made P pos.line pos.col qual c₀ t → t' = t ∧ c' = c₀) → Fr h₀ L h' m → News h₀ L h' ((f, kla_obj name qual params body scope clos ((mg "__name__").getD .none) c' ctv) :: (own ++ (pre ++ (t' ++ post)))) →
      ((pre ++ (t' ++ post)).map (·.1)).Nodup → (∀ q ∈ own, ∀ p ∈ pre ++ (t' ++ post), p.1 ≠ q.1) → AllLt f own → Low f (pre ++ (t' ++ post)) → @LT.lt Nat _ L f → Q (.ref f) { s with heap := h', toks := tk }) :
    wpAny M A (makeFunction name qual params (.expr body) scope (envX cn cs L a ccd cl) [] [] [] pos firstLine) Q E s := by
  obtain ⟨oP, hP⟩ := ht.mem
  refine makeAnyE F N T C hcd ht (fun q hq => (hown q hq _ (List.mem_append_right _ (List.mem_append_left _ hP))).symm) nd hcl fun f c' t' ctv h' tk hM hsame F' N' nd' hap hlt hLf => ?_
  have hf : ∀ p ∈ own ++ (pre ++ (t' ++ post)), p.1 < f := by
    have key : ∀ {l : List (Addr × Obj)}, AllLt f l → ∀ p ∈ l, p.1 < f := fun {l} => by
      induction l with
      | nil => intro _ p hp; cases hp
      | cons x r ih =>
        intro z p hp
        rcases List.mem_cons.mp hp with rfl | hp
        · exact z.1
        · exact ih z.2 p hp
    exact key hlt
  refine h f c' t' ctv h' tk hM hsame F' N' nd' (fun q hq p hp => ?_) (allLt_of fun p hp => hf p (List.mem_append_left _ hp)) (fun p hp => hf p (List.mem_append_right _ hp)) hLf
  rcases List.mem_append.mp hp with hp | hp
  · exact hown q hq p (List.mem_append_left _ hp)
  · rcases List.mem_append.mp hp with hp | hp
    · exact (hap q hq (fun r hr => (hown q hq r (List.mem_append_right _ (List.mem_append_left _ hr))).symm) p hp).symm
    · exact hown q hq p (List.mem_append_right _ (List.mem_append_right _ hp))


theorem makeLam {M : Model} {A : Around} {E : Value → Shared → Prop} {s : Shared} {h₀ : Heap} {L a c P : Nat} {m mg mb : Str → Option Value} {cn : Str} {cs : Scope} {ccd : Value} {cl : List (Str × Addr)} {own t : List (Addr × Obj)}
    {p : Program} {loose : List Str} {mean : ExcName → Option Value} {name qual : Str} {params : Arguments} {body : PySem.Expr} {scope : Scope} {pos : Pos} {firstLine : Nat} {clos : List (Str × Addr)} {Q : Value → Shared → Prop}
    (F : Fr h₀ L s.heap m) (N : News h₀ L s.heap (own ++ t)) (T : Top p loose mean mg mb h₀) (C : CodeHd h₀ c P) (hcd : ccd = .ref c) (ht : TabOk P pos.line pos.col qual t)
    (hown : ∀ q ∈ own, ∀ p ∈ t, p.1 ≠ q.1) (nd : (t.map (·.1)).Nodup)
    (hcl : closureFor scope (envX cn cs L a ccd cl) = pure clos)
    (h : ∀ (f c' : Nat) t' ctv h' tk, Made P pos.line pos.col qual c' t' → (∀ c₀, Made P pos.line pos.col qual c₀ t → t' = t ∧ c' = c₀) → Fr h₀ L h' m → News h₀ L h' ((f, kla_obj name qual params body scope clos ((mg "__name__").getD .none) c' ctv) :: (own ++ t')) →
      (t'.map (·.1)).Nodup → (∀ q ∈ own, ∀ p ∈ t', p.1 ≠ q.1) → AllLt f own → Low f t' → @LT.lt Nat _ L f → Q (.ref f) { s with heap := h', toks := tk }) :
    wpAny M A (makeFunction name qual params (.expr body) scope (envX cn cs L a ccd cl) [] [] [] pos firstLine) Q E s := by
  refine makeTabE (pre := []) (t := t) (post := []) F (by simpa using N) T C hcd ht (by simpa using hown) (by simpa using nd) hcl fun f c' t' ctv h' tk hM hs F' N' nd' hap hlt hlo hLf => ?_
  simp only [List.nil_append, List.append_nil] at N' nd' hap hlo
  exact h f c' t' ctv h' tk hM hs F' N' nd' hap hlt hlo hLf
noncomputable def lamAt (o : Obj) (i : Nat) : Option (Arguments × PySem.Expr × Scope) := match o.data with
  | .func fd => match fd.body with
    | .stmts b => match b[i]? with
      | some (.Assign _ (.Lambda ps e sc _) _) => some (ps, e, sc)
      | _ => none
    | _ => none
  | _ => none
end
end Mine
end

noncomputable section
open PySem PySem.W PySem.Calls PyProof.Rows
namespace Mine
theorem meets_lam {K : Frag} {prog : Program} {w : World} {fp : List (Addr × Obj)} {d u : Nat} {P : Nat → Value → List (Addr × Obj) → Prop}
    {name qual : Str} {params : Arguments} {body : PySem.Expr} {scope : Scope} {cl : List (Str × Addr)} {pm ctv : Value} {c' : Addr} {oc : Obj} {vs : Array Value} {t : Tok} {f : Addr} {args : List Value} {binds : List (Str × Value)}
    (ho : (f, kla_obj name qual params body scope cl pm c' ctv) ∈ fp) (hc : (c', oc) ∈ fp) (hcd : oc.data = .fields vs) (hcv : vs[1]? = some (.str qual t))
    (hbind : bindArgs (kla_fn name qual params body scope cl pm (.ref c') ctv) ⟨args, []⟩ = pure binds) (hloc : ∀ y ∈ binds, scope.names.lookup y.1 = some .local)
    (hcell : ∀ x ∈ scope.names, x.2 ≠ .cell)
    (h : ∀ (A : Around) (s : Shared) (g : Heap) (p : Program) (loose : List Str) (mean : ExcName → Option Value) (mg mb : Str → Option Value) (n₀ : Nat) (L : Nat) (h₁ : Heap) (tk : Nat) (k : Value → Shared → Prop),
      A.handled = none → A.depth + d < recursionLimit + 1 → A.units + u < cLine + 3 → K.In g → Top p loose mean mg mb g → n₀ ≤ L → (∀ p ∈ fp, p.1 < n₀) → Fr g L h₁ (fun y => binds.reverse.lookup y) → News g L h₁ fp →
      (∀ v l h' tk m', P n₀ v l → Fr g L h' m' → News g L h' l → k v { s with heap := h', toks := tk }) →
      wpAny (model prog w) A (eval body (envX qual scope L f (.ref c') cl)) (fun v s' => k v s') (fun _ _ => False) { s with heap := h₁, toks := tk })
    (hd : 0 < d := by decide) (hco : scope.isCoroutine = false := by rfl) (hgen : scope.isGenerator = false := by rfl) (hk : scope.kind = .function := by rfl) :
    Meets prog w K (.call (.ref f) ⟨args, []⟩) fp d u P := by
  intro A s g p loose mean mg mb hh hdep hu W X T R hR
  refine kla_callFunE (by omega) (W.led _ ho).1 rfl hco hgen rfl ⟨c', oc, vs, t, rfl, (W.led _ hc).1, hcd, hcv⟩ ?_
  rw [hbind]
  refine wpAny_pure (wpAny_newFunctionEnv hcell hloc (fun h₁ hns hsb => ⟨(T.nolimit.keeps W.keep).fresh _ hsb, ?_⟩) hk)
  show codeAny _ _ (.expr body (envX qual scope s.heap.objs.size f (.ref c') cl)) _ _
  have hk₁ : ∀ b o, s.heap.get? b = some o → h₁.get? b = some o := fun b o e => hsb.extBut b o (Nat.ne_of_lt (Heap.lt_size e)) (Heap.get?_push_of_some _ e)
  refine kla_codeExpr (wpAny_mono (h (A.deeper (envX qual scope s.heap.objs.size f (.ref c') cl)) s g p loose mean mg mb s.heap.objs.size s.heap.objs.size h₁ _ (fun v s' => R (.ok (.ret v)) s') hh ?_ ?_ X T (Nat.le_refl _) (fun p hp => Heap.lt_size (W.led p hp).1)
    ⟨hns, fun b o e => hk₁ b o (W.keep _ _ e), W.size⟩
    (fun p hp => ⟨hk₁ _ _ (W.led p hp).1, Nat.ne_of_lt (Heap.lt_size (W.led p hp).1), (W.led p hp).2⟩) fun v l h' tk m' hp F N => hR v l h' tk hp (Wo.of_fr F N)) (fun _ _ x => x) (fun _ _ x => x.elim))
  · show A.depth + 1 + d < recursionLimit + 1; omega
  · show A.units + 3 + u < cLine + 3; omega
end Mine
end

noncomputable section
open PySem PySem.W PySem.Calls PyProof.Rows PySem.SeqAt
namespace Mine
noncomputable abbrev okStr (x : Str) : Bool := x.cps.all (· < 0x110000)
theorem canLayAll0_strs : ∀ ns : List Str, (∀ x ∈ ns, okStr x = true) → PyData.canLayAll0 (ns.map PyData.str) = true
  | [], _ => by simp [PyData.canLayAll0]
  | n :: r, h => by
    have h1 : PyData.strOk n = true := h n (.head _)
    simp [PyData.canLayAll0, PyData.canLay0, canLayAll0_strs r fun x hx => h x (.tail _ hx), h1]
theorem depthAll_strs : ∀ ns : List Str, PyData.depthAll (ns.map PyData.str) ≤ 1
  | [] => by simp [PyData.depthAll]
  | n :: r => by
    have := depthAll_strs r
    simp only [List.map_cons, PyData.depthAll, PyData.depth]
    omega
theorem shaped_strs (ns : List Str) (h : ∀ x ∈ ns, okStr x = true) : shaped (.list (ns.map PyData.str)) = true := by
  have h1 := depthAll_strs ns
  have h2 : PyData.depth (.list (ns.map PyData.str)) ≤ 64 := by simp only [PyData.depth]; omega
  show (PyData.canLay0 (.list (ns.map PyData.str)) && decide (PyData.depth (.list (ns.map PyData.str)) ≤ 64)) = true
  rw [Bool.and_eq_true]
  exact ⟨by simp only [PyData.canLay0]; exact canLayAll0_strs ns h, decide_eq_true h2⟩
theorem noMix_strs : ∀ ns ms : List Str, noMixAll (ns.map PyData.str) (ms.map PyData.str) = true
  | [], [] => by simp [noMixAll]
  | [], _ :: _ => by simp [noMixAll]
  | _ :: _, [] => by simp [noMixAll]
  | _ :: r, _ :: q => by simp [noMixAll, noMix, noMix_strs r q]
theorem same_strs : ∀ ns ms : List Str, PySem.Spec.sameAll (ns.map PyData.str) (ms.map PyData.str) = decide (ns = ms)
  | [], [] => by simp [PySem.Spec.sameAll]
  | [], _ :: _ => by simp [PySem.Spec.sameAll]
  | _ :: _, [] => by simp [PySem.Spec.sameAll]
  | n :: r, k :: q => by
    simp only [List.map_cons, PySem.Spec.sameAll, PySem.Spec.same, same_strs r q]
    by_cases h : n = k <;> simp [h]
theorem readsAll_of_strs {h : Heap} : ∀ {vs : List Value} {ns : List Str}, StrsAre vs ns → ReadsAll h vs (ns.map PyData.str) []
  | _, _, .nil => .nil
  | _, _, .cons k t r => by
    have := ReadsAll.cons (Reads.str (h := h) k t) (readsAll_of_strs (h := h) r)
    simpa using this
theorem reads_of_strs {h : Heap} {a : Addr} {vs : List Value} {ns : List Str} (hl : h.IsList a vs.toArray) (hi : StrsAre vs ns) : Reads h (.ref a) (.list (ns.map PyData.str)) [a] := by
  obtain ⟨o, ho, hc, n, hd⟩ := hl
  exact Reads.list ho hc hd (by simpa using readsAll_of_strs hi)
section
variable {prog : Program} {w : World} {A : Around} {E : Value → Shared → Prop} {s : Shared}
theorem ne_strs {a b : Addr} {vs us : List Value} {ns ms : List Str} {Q : Value → Shared → Prop} (hl : s.heap.IsList a vs.toArray) (hi : StrsAre vs ns) (hl' : s.heap.IsList b us.toArray) (hi' : StrsAre us ms) (o1 : ∀ x ∈ ns, okStr x = true) (o2 : ∀ x ∈ ms, okStr x = true) (hu : A.units + 64 < cLine)
    (h : Q (.bool (!decide (ns = ms))) s) : wpAny (model prog w) A (compareOp .NotEq (.ref a) (.ref b)) Q E s :=
  ne_dataH_same (reads_of_strs hl hi) (reads_of_strs hl' hi') (shaped_strs ns o1) (shaped_strs ms o2) hu (by simp only [noMix]; exact noMix_strs ns ms) (by simp only [PySem.Spec.same]; rw [same_strs]; exact h)
end
theorem SignsAre.strs {vs : List Value} {cs : List Nat} (h : SignsAre vs cs) : StrsAre vs (cs.map fun c => txt [c]) := by
  induction h with
  | nil => exact .nil
  | cons c t h ih => exact .cons _ t ih
noncomputable def Asc (l : List Nat) : Prop := ∀ c ∈ l, c < 128
theorem Asc.ok {l : List Nat} (h : Asc l) : okStr (txt l) = true := by
  have e : okStr (txt l) = l.all (· < 0x110000) := by simp [okStr]
  rw [e, List.all_eq_true]
  intro c hc
  have := h c hc
  exact decide_eq_true (by omega)
theorem Asc.signs {l : List Nat} (h : Asc l) : ∀ x ∈ l.map (fun c => txt [c]), okStr x = true := fun x hx => by
  obtain ⟨c, hc, rfl⟩ := List.mem_map.mp hx
  exact Asc.ok fun d hd => by rw [List.mem_singleton.mp hd]; exact h c hc
end Mine
end

noncomputable section
open PySem PySem.W PySem.Calls PyProof.Rows
set_option maxRecDepth 100000
namespace Mine
theorem slot_method_call : Slot "method" "__call__" "method.__call__" :=
  .of (owner := "method") (n := "__call__") (by rw [typeLookup_type, builtinLookup_eq_fast]; kernel_rfl) (by decide +kernel) (by decide +kernel) (by decide +kernel)
    (by first | exact .inl (by decide +kernel) | exact .inr (by decide +kernel)) (by rw [isSubtype_type]; kernel_rfl)
theorem args_iter2 (a b : Value) : argsOk "iter" ⟨[a, b], []⟩ := by unfold argsOk; kernel_rfl
noncomputable abbrev ciObj (f e : Value) : Obj := { cls := .type "callable_iterator", data := .fields #[f, e, .bool false] }
noncomputable abbrev ciEnd : Obj := { cls := .type "callable_iterator", data := .fields #[.none, .none, .bool true] }
section
variable {prog : Program} {w : World} {A : Around} {E : Value → Shared → Prop} {s : Shared}
theorem wpAny_callBorrowed {f : Value} {pos : List Value} {Q : Value → Shared → Prop}
    (hc : codeAny (model prog w) A (.call f ⟨pos, []⟩) (fun r s' => match r with | .ok (.ret v) => Q v s' | .ok _ => False | .error e => E e s') s) :
    wpAny (model prog w) A (callBorrowed f pos) Q E s := by
  intro Γ p hΓ
  have h := wpAny_runValue hc Γ p hΓ
  rw [Sem.wp_runValue] at h
  unfold callBorrowed
  rw [Sem.wp_call]
  refine wpCode_mono (fun r s' z => ?_) h
  rcases r with e | (v | _ | _ | _) <;> exact z
theorem call_iter2 {q : Addr} {f self e : Value} {Q : Value → Shared → Prop} (ho : s.heap.get? q = some (methodObj f self))
    (h : Q (.ref s.heap.objs.size) { s with heap := s.heap.push (ciObj (.ref q) e) }) : wpAny (model prog w) A (call (.builtin "iter") [.ref q, e]) Q E s := by
  have hT : s.TypeIs (.ref q) "method" := ⟨_, ho, rfl⟩
  refine call_function_entry (by decide +kernel) (by decide +kernel) kdk_entry_iter (args_iter2 _ _) ?_
  unfold Builtin.«iter»
  refine wpAny_bind (m := someArgs "iter" 1 2 _) (wpAny_of_eq (a := [Value.ref q, e]) (by first | rfl | kernel_rfl!) ?_)
  dsimp only
  refine wpAny_bind (wpAny_specialOf hT slot_method_call.lookup ?_)
  dsimp only [Option.isNone]
  rw [if_neg (by decide)]
  refine wpAny_bind (wpAny_rule ?_)
  refine wpAny_bind (wpAny_newObj_type (wpAny_pure ⟨_, rfl, h⟩))

theorem owner_ci : Manifest.owners.lookup (String.ofList ['r', 'o', 't', 'a', 'r', 'e', 't', 'i', '_', 'e', 'l', 'b', 'a', 'l', 'l', 'a', 'c'].reverse) = some Manifest.sig_callable_iterator := by kernel_rfl
theorem slot_ci_next : Slot "callable_iterator" "__next__" "callable_iterator.__next__" :=
  .of (owner := "callable_iterator") (n := "__next__") (by rw [typeLookup_type, builtinLookup_eq_fast]; kernel_rfl) (by decide +kernel) (by decide +kernel) (by decide +kernel)
    (by first | exact .inl (by decide +kernel) | exact .inr (by decide +kernel)) (by rw [isSubtype_type]; kernel_rfl)
theorem slot_ci_iter : Slot "callable_iterator" "__iter__" "callable_iterator.__iter__" :=
  .of (owner := "callable_iterator") (n := "__iter__") (by rw [typeLookup_type, builtinLookup_eq_fast]; kernel_rfl) (by decide +kernel) (by decide +kernel) (by decide +kernel)
    (by first | exact .inl (by decide +kernel) | exact .inr (by decide +kernel)) (by rw [isSubtype_type]; kernel_rfl)
theorem entry_ci_next : entryFor table "callable_iterator.__next__" = some Builtin.«callable_iterator.__next__» := entryFor_of_tree (by kernel_rfl)
theorem entry_ci_iter : entryFor table "callable_iterator.__iter__" = some Builtin.«dict_keyiterator.__iter__» :=
  entryFor_alias (id' := "dict_keyiterator.__iter__") (by kernel_rfl) (by first | rfl | decide +kernel | (unfold String.splitOn; simp +decide [String.splitOnAux])) (by decide +kernel) (by kernel_rfl)
theorem args_ci_next (a : Value) : argsOk "callable_iterator.__next__" ⟨[a], []⟩ := by
  unfold argsOk; rw [signature?_of (id := "callable_iterator.__next__") (n := ['_', '_', 't', 'x', 'e', 'n', '_', '_']) (o := ['r', 'o', 't', 'a', 'r', 'e', 't', 'i', '_', 'e', 'l', 'b', 'a', 'l', 'l', 'a', 'c']) (by kernel_rfl) owner_ci]; kernel_rfl
theorem args_ci_iter (a : Value) : argsOk "callable_iterator.__iter__" ⟨[a], []⟩ := by
  unfold argsOk; rw [signature?_of (id := "callable_iterator.__iter__") (n := ['_', '_', 'r', 'e', 't', 'i', '_', '_']) (o := ['r', 'o', 't', 'a', 'r', 'e', 't', 'i', '_', 'e', 'l', 'b', 'a', 'l', 'l', 'a', 'c']) (by kernel_rfl) owner_ci]; kernel_rfl
theorem iter_ci {I : Addr} {f e : Value} {Q : Value → Shared → Prop} (ho : s.heap.get? I = some (ciObj f e)) (h : Q (.ref I) s) : wpAny (model prog w) A (pyIter (.ref I)) Q E s := by
  have hT : s.TypeIs (.ref I) "callable_iterator" := ⟨_, ho, rfl⟩
  refine wpAny_pyIter_slot hT slot_ci_iter (wpAny_call_entry slot_ci_iter hT entry_ci_iter ?_ (args_ci_iter _))
  show wpAny _ _ (ret (.ref I)) _ _ s
  exact wpAny_pure ⟨_, rfl, "callable_iterator", _, hT, slot_ci_next.lookup, h⟩

theorem borrows_method {q f : Addr} {self : Value} {fo : Obj} {fd : FuncData} {Q : Bool → Shared → Prop} (hq : s.heap.get? q = some (methodObj (.ref f) self)) (hf : s.heap.get? f = some fo) (hd : fo.data = .func fd)
    (h : Q true s) : wpAny (model prog w) A (borrowsExactly (.ref q)) Q E s := by
  unfold borrowsExactly
  dsimp only
  refine wpAny_bind (wpAny_load hq ?_)
  dsimp only
  rw [if_pos (by decide)]
  show wpAny _ _ (load f >>= _) _ _ s
  refine wpAny_bind (wpAny_load hf ?_)
  rw [hd]
  exact wpAny_pure h
theorem next_ci {I q f : Addr} {self : Value} {e : Str} {te : Tok} {Q : Option Value → Shared → Prop} (hh : A.handled = none) (hI : s.heap.get? I = some (ciObj (.ref q) (.str e te))) (hq : s.heap.get? q = some (methodObj (.ref f) self))
    (hf : ∃ fo fd, s.heap.get? f = some fo ∧ fo.data = .func fd)
    (hc : codeAny (model prog w) A.in1 (.call (.ref q) ⟨[], []⟩) (fun r s' => ∃ y t, r = .ok (.ret (.str y t)) ∧ s'.heap.get? I = some (ciObj (.ref q) (.str e te)) ∧ s'.heap.get? q = some (methodObj (.ref f) self) ∧ (∃ fo fd, s'.heap.get? f = some fo ∧ fo.data = .func fd) ∧
      (y ≠ e → Q (some (.str y t)) s') ∧ (y = e → ∀ h', h'.get? I = some ciEnd → Heap.ExtBut I s'.heap h' → Q none { s' with heap := h' })) s) :
    wpAny (model prog w) A (pyNext (.ref I)) Q E s := by
  have hT : s.TypeIs (.ref I) "callable_iterator" := ⟨_, hI, rfl⟩
  obtain ⟨fo, fd, hf1, hf2⟩ := hf
  unfold pyNext
  refine wpAny_bind (wpAny_attempt (wpAny_callSpecial?_slot (name := Str.ofString "__next__") hT slot_ci_next
    (wpAny_call_entry slot_ci_next hT entry_ci_next ?_ (args_ci_next _))))
  unfold Builtin.«callable_iterator.__next__»
  refine wpAny_bind (wpAny_of_eq (a := (Value.ref I, [])) rfl ?_)
  try dsimp only
  refine wpAny_bind (wpAny_field hI rfl (x := .bool false) rfl ?_)
  rw [if_neg (by decide)]
  refine wpAny_bind (wpAny_field hI rfl (x := .ref q) rfl ?_)
  unfold callOutOfASlot
  refine wpAny_bind (wpAny_attempt (wpAny_bind (borrows_method hq hf1 hf2 ?_)))
  rw [if_pos rfl]
  refine wpAny_callBorrowed (codeAny_mono hc fun r s' z => ?_)
  obtain ⟨y, t, rfl, zI, zq, ⟨fo', fd', zf1, zf2⟩, zs, ze⟩ := z
  dsimp only
  refine wpAny_bind (wpAny_field zI rfl (x := .bool false) rfl ?_)
  rw [if_neg (by decide)]
  refine wpAny_bind (wpAny_field zI rfl (x := .str e te) rfl ?_)
  refine wpAny_bind (wpAny_holding (wpAny_eqBool_str ?_))
  by_cases hey : e = y
  · subst hey
    simp only [decide_true, Bool.not_true, Bool.false_eq_true, if_false]
    refine wpAny_bind (wpAny_rule ?_)
    refine wpAny_bind (m := (field (.ref I) 0 >>= fun v => slotLetsGo "callable_iterator.__next__" v _ >>= fun _ => setField (.ref I) 0 .none >>= fun _ => setField (.ref I) 1 .none >>= fun _ => setField (.ref I) 2 (.bool true))) ?_
    refine wpAny_bind (wpAny_field zI rfl (x := .ref q) rfl ?_)
    unfold slotLetsGo
    dsimp only
    refine wpAny_bind (wpAny_bind (borrows_method zq zf1 zf2 ?_))
    rw [if_pos rfl]
    refine wpAny_pure ?_
    refine wpAny_bind (wpAny_setField_rec (vs := #[.ref q, .str e te, .bool false]) zI (by simp) fun h1 g1 b1 => ?_)
    refine wpAny_bind (wpAny_setField_rec g1 (by simp) fun h2 g2 b2 => ?_)
    refine wpAny_setField_rec g2 (by simp) fun h3 g3 b3 => ?_
    have hend : h3.get? I = some ciEnd := g3
    have hext : Heap.ExtBut I s'.heap h3 := fun b o hb eo => b3.extBut b o hb (b2.extBut b o hb (b1.extBut b o hb eo))
    first
    | show wpAny _ _ (newExc (.type "StopIteration") [] >>= _) _ _ _
    | (refine wpAny_bind ?_; show wpAny _ _ (newExc (.type "StopIteration") [] >>= _) _ _ _)
    refine wpAny_bind ?_
    simp only [newExc, newTuple]
    refine wpAny_bind (wpAny_newObj_type ?_ (by size_fits))
    refine wpAny_bind (m := firstArgMember _ _) (wpAny_of_eq (a := Value.none) (by first | rfl | (simp only [firstArgMember]; rfl)) ?_)
    refine wpAny_newObj_type ?_ (by size_fits)
    simp only [raiseNew]
    refine wpAny_bind (wpAny_handled ?_)
    first | rw [show A.in1.handled = none from hh] | rw [hh]
    refine wpAny_bind (wpAny_pure (wpAny_throw ?_))
    refine wpAny_bind (wpAny_isInstance (T := "StopIteration") (b := true) ⟨_, Heap.get?_push_size _ rfl, rfl⟩ isSubtype_stop ?_)
    exact wpAny_pure (ze rfl _ (Heap.get?_push_of_some _ (Heap.get?_push_of_some _ hend)) (Heap.ExtBut.push (Heap.ExtBut.push hext _) _))
  · rw [decide_eq_false hey]
    simp only [Bool.not_false, if_true]
    exact wpAny_pure ⟨_, rfl, wpAny_pure (zs fun h => hey h.symm)⟩
end
end Mine
end

noncomputable section
open PySem PySem.W PySem.Calls PyProof.Rows
set_option maxRecDepth 100000
namespace Mine
section
variable {prog : Program} {w : World} {A : Around} {E : Value → Shared → Prop} {s : Shared}
theorem next_ci_end {I : Addr} {Q : Option Value → Shared → Prop} (hh : A.handled = none) (hI : s.heap.get? I = some ciEnd)
    (hQ : ∀ h', h'.get? I = some ciEnd → Heap.ExtBut I s.heap h' → Q none { s with heap := h' }) : wpAny (model prog w) A (pyNext (.ref I)) Q E s := by
  have hT : s.TypeIs (.ref I) "callable_iterator" := ⟨_, hI, rfl⟩
  unfold pyNext
  refine wpAny_bind (wpAny_attempt (wpAny_callSpecial?_slot (name := Str.ofString "__next__") hT slot_ci_next
    (wpAny_call_entry slot_ci_next hT entry_ci_next ?_ (args_ci_next _))))
  unfold Builtin.«callable_iterator.__next__»
  refine wpAny_bind (wpAny_of_eq (a := (Value.ref I, [])) rfl ?_)
  try dsimp only
  refine wpAny_bind (wpAny_field hI rfl (x := .bool true) rfl ?_)
  rw [if_pos (by decide)]
  refine wpAny_bind (wpAny_rule ?_)
  first
  | show wpAny _ _ (newExc (.type "StopIteration") [] >>= _) _ _ _
  | (refine wpAny_bind ?_; show wpAny _ _ (newExc (.type "StopIteration") [] >>= _) _ _ _)
  refine wpAny_bind ?_
  simp only [newExc, newTuple]
  refine wpAny_bind (wpAny_newObj_type ?_ (by size_fits))
  refine wpAny_bind (m := firstArgMember _ _) (wpAny_of_eq (a := Value.none) (by first | rfl | (simp only [firstArgMember]; rfl)) ?_)
  refine wpAny_newObj_type ?_ (by size_fits)
  simp only [raiseNew]
  refine wpAny_bind (wpAny_handled ?_)
  first | rw [show A.in1.handled = none from hh] | rw [hh]
  refine wpAny_bind (wpAny_pure (wpAny_throw ?_))
  refine wpAny_bind (wpAny_isInstance (T := "StopIteration") (b := true) ⟨_, Heap.get?_push_size _ rfl, rfl⟩ isSubtype_stop ?_)
  exact wpAny_pure (hQ _ (Heap.get?_push_of_some _ (Heap.get?_push_of_some _ hI)) (((Heap.ExtBut.refl _ _).push _).push _))

theorem forOwn {env : Env} {h₀ : Heap} {R : Result → Shared → Prop} {x : Str} {px : Pos} {body : List Stmt} {it : Value} {m : Str → Option Value} {news : List (Addr × Obj)} {k : Nat}
    (hx : env.kindOf x = some .local) (hp : (env.scope.kind == .class || (env.scope.kind == .module && env.locals != env.globals)) = false)
    (F : Fr h₀ env.locals s.heap m) (N : News h₀ env.locals s.heap news)
    (J : Nat → (Str → Option Value) → List (Addr × Obj) → Prop) (hj : J k m news)
    (turn : ∀ k m₁ news₁ h tk (kn : Shared → Prop), J k m₁ news₁ → Fr h₀ env.locals h m₁ → News h₀ env.locals h news₁ →
      (∀ k' h' tk' m' news', k' < k → Fr h₀ env.locals h' m' → News h₀ env.locals h' news' → J k' m' news' → kn { s with heap := h', toks := tk' }) →
      wpAny (model prog w) A (pyNext it) (fun r s₁ => match r with
        | none => R (.ok .next) s₁
        | some v => ∃ h' tk' news₂, s₁ = { s with heap := h', toks := tk' } ∧ Fr h₀ env.locals h' m₁ ∧ News h₀ env.locals h' news₂ ∧
          ∀ h₂ tk₂, Fr h₀ env.locals h₂ (fun y => if y = x then some v else m₁ y) → News h₀ env.locals h₂ news₂ →
            wpAny (model prog w) A (execs body env) (fun f s₃ => match f with | .ret v => R (.ok (.ret v)) s₃ | .brk => R (.ok .next) s₃ | _ => kn s₃) (fun _ _ => False) { s with heap := h₂, toks := tk₂ }) (fun _ _ => False) { s with heap := h, toks := tk }) :
    codeAny (model prog w) A (.forLoop (.Name x px) it body [] env) R s := by
  refine codeAny_forLoop (fun k s' => ∃ h' tk m' news', s' = { s with heap := h', toks := tk } ∧ Fr h₀ env.locals h' m' ∧ News h₀ env.locals h' news' ∧ J k m' news') ?_ k ⟨s.heap, s.toks, m, news, rfl, F, N, hj⟩
  rintro k s' ⟨h', tk, m', news', rfl, F', N', hJ⟩
  refine wpAny_mono (turn k m' news' h' tk (fun s₃ => ∃ m, m < k ∧ ∃ h' tk m' news', s₃ = { s with heap := h', toks := tk } ∧ Fr h₀ env.locals h' m' ∧ News h₀ env.locals h' news' ∧ J m m' news') hJ F' N' fun k' h' tk' m' news' hk F' N' hJ => ⟨k', hk, h', tk', m', news', rfl, F', N', hJ⟩) (fun r s₁ z => ?_) fun _ _ z => False.elim z
  cases r with
  | none => exact wpAny_execs_nil z
  | some v =>
    obtain ⟨h₁, tk₁, news₂, rfl, F₁, N₁, hb⟩ := z
    refine wpAny_assign_Name (wpAny_storeName_local hx F₁.ns (fun h₂ hn₂ hs₂ => ?_) hp)
    refine wpAny_mono (hb h₂ _ (F₁.set hn₂ hs₂) (N₁.set hs₂)) (fun f s₃ z => ?_) fun _ _ z => False.elim z
    cases f <;> exact z
theorem For_own {env : Env} {x : Str} {px pos : Pos} {iter : PySem.Expr} {body : List Stmt} {Q : Flow → Shared → Prop}
    (h : wpAny (model prog w) A (eval iter env) (fun xv s₁ => wpAny (model prog w) A (pyIter xv) (fun it s₂ =>
      codeAny (model prog w) A (.forLoop (.Name x px) it body [] env) (fun r s' => match r with | .ok f => Q f s' | .error _ => False) s₂) (fun _ _ => False) s₁) (fun _ _ => False) s)
    (hs : ∀ x, foldedSetIterable iter env x = pure x := by intro _; rfl) :
    wpAny (model prog w) A (exec (.For (.Name x px) iter body [] pos) env) Q (fun _ _ => False) s := by
  refine wpAny_For (wpAny_mono h (fun xv s₁ h₁ => wpAny_mono h₁ (fun it s₂ h₂ => codeAny_mono h₂ fun r s' z => ?_) fun _ _ e => e) fun _ _ e => e) hs
  cases r with
  | ok f => exact z
  | error e => exact z.elim
theorem iter2_K {h₀ : Heap} {L : Addr} {m : Str → Option Value} {news : List (Addr × Obj)} {q : Addr} {f self e : Value} {Q : Value → Shared → Prop} (F : Fr h₀ L s.heap m) (N : News h₀ L s.heap news) (hq : (q, methodObj f self) ∈ news)
    (h : ∀ D h', Fr h₀ L h' m → News h₀ L h' ((D, ciObj (.ref q) e) :: news) → (∀ p ∈ news, p.1 < D) → Q (.ref D) { s with heap := h' }) : wpAny (model prog w) A (call (.builtin "iter") [.ref q, e]) Q E s :=
  call_iter2 (N _ hq).1 (h _ _ (F.push _) (News.push F N _ rfl) fun p hp => Heap.lt_size (N p hp).1)
end
end Mine
end

noncomputable section
open PySem PySem.W PySem.Calls PyProof.Rows
namespace Mine
open PySem.Sre

noncomputable def codeDot : Array Nat := #[14, 4, 0, 1, 1, 6, 1, 16, 46, 1]
noncomputable def codeEnd : Array Nat := #[14, 9, 4, 1, 2, 16, 10, 16, 13, 0, 7, 7, 16, 13, 16, 10, 15, 18, 5, 16, 10, 15, 13, 11, 16, 13, 5, 5, 0, 16, 10, 1, 15, 2, 0, 1]

theorem runFor_done {n : Nat} {m : M} (h : m.outcome.isSome = true) : m.runFor n = m := by
  cases n with
  | zero => rfl
  | succ n => simp [M.runFor, h]
theorem runFor_add (a b : Nat) (m : M) : m.runFor (a + b) = (m.runFor a).runFor b := by
  induction a generalizing m with
  | zero => simp [M.runFor]
  | succ a ih =>
    rw [Nat.add_right_comm]
    cases h : m.outcome.isSome with
    | true => rw [runFor_done h, runFor_done h, runFor_done h]
    | false => simp [M.runFor, h, ih]
theorem runFor_succ {n : Nat} {m : M} (h : m.outcome = none) : m.runFor (n + 1) = m.step.runFor n := by simp [M.runFor, h]

noncomputable def Ends (m m' : M) (n : Nat) : Prop := m.runFor n = m' ∧ m'.outcome.isSome = true
theorem Ends.step {m m' : M} {n : Nat} (h0 : m.outcome = none) (h : Ends m.step m' n) : Ends m m' (n + 1) := ⟨by rw [runFor_succ h0]; exact h.1, h.2⟩
theorem Ends.steps {m m' m2 : M} {a n : Nat} (h0 : m.runFor a = m2) (h : Ends m2 m' n) : Ends m m' (a + n) := ⟨by rw [runFor_add, h0]; exact h.1, h.2⟩

section
variable {prog : Program} {w : World} {A : Around} {E : Value → Shared → Prop} {s : Shared}
theorem drive_ends {m m' : M} {Q : M → Shared → Prop} (hq : Q m' s) : ∀ (k n : Nat), Ends m m' n → n ≤ 4 * k → wpAny (model prog w) A (Builtin.Re.reDrive (k + 1) m) Q E s := by
  intro k
  induction k generalizing m with
  | zero =>
    intro n h hn
    unfold Builtin.Re.reDrive
    have : n = 0 := by omega
    subst this
    have e : m = m' := h.1
    subst e
    dsimp only
    rw [runFor_done h.2, if_pos h.2]
    exact wpAny_pure hq
  | succ k ih =>
    intro n h hn
    unfold Builtin.Re.reDrive
    dsimp only
    by_cases hs : (m.runFor Builtin.Re.reTurnSteps).outcome.isSome = true
    · have e : m.runFor Builtin.Re.reTurnSteps = m' := by
        by_cases hn4 : n ≤ Builtin.Re.reTurnSteps
        · obtain ⟨d, hd⟩ := Nat.exists_eq_add_of_le hn4
          rw [hd, runFor_add, h.1, runFor_done h.2]
        · obtain ⟨d, hd⟩ := Nat.exists_eq_add_of_le (Nat.le_of_not_le hn4)
          have := h.1
          rw [hd, runFor_add, runFor_done hs] at this
          exact this
      rw [if_pos hs, e]
      exact wpAny_pure hq
    · rw [if_neg hs]
      refine wpAny_bind (wpAny_rule ?_)
      have h4 : Builtin.Re.reTurnSteps = 4 := rfl
      rw [h4] at hs ⊢
      by_cases hn4 : n ≤ 4
      · exfalso
        obtain ⟨d, hd⟩ := Nat.exists_eq_add_of_le hn4
        apply hs
        rw [hd, runFor_add, h.1, runFor_done h.2]
        exact h.2
      · obtain ⟨d, hd⟩ := Nat.exists_eq_add_of_le (Nat.le_of_not_le hn4)
        refine ih d ⟨?_, h.2⟩ (by omega)
        have := h.1
        rw [hd, runFor_add] at this
        exact this
theorem to_end {m m' : M} {n : Nat} {Q : Option M → Shared → Prop} (h : Ends m m' n) (hn : n ≤ 1000000) (hy : m'.outcome = some .matched → Q (some m') s) (hf : m'.outcome = some .failed → Q none s)
    (ho : m'.outcome = some .matched ∨ m'.outcome = some .failed) : wpAny (model prog w) A (Builtin.Re.reRunToEnd m) Q E s := by
  unfold Builtin.Re.reRunToEnd
  have e : (2 : Nat) ^ 64 = (2 ^ 64 - 1) + 1 := by decide
  rw [e]
  refine wpAny_bind (drive_ends ?_ (2 ^ 64 - 1) n h (Nat.le_trans hn (by decide)))
  refine wpAny_bind (wpAny_forIn_list _ (fun _ _ s' => s' = s) _ (fun x rest b s' hs => ?_) (fun b s' hs => ?_) _ _ rfl)
  · subst hs
    split
    · refine wpAny_bind (wpAny_rule ?_)
      exact wpAny_pure rfl
    · exact wpAny_pure rfl
  · subst hs
    rcases ho with ho | ho
    · rw [ho]; exact wpAny_pure (hy ho)
    · rw [ho]; exact wpAny_pure (hf ho)
end
end Mine
end

noncomputable section
open PySem PySem.W PySem.Calls PyProof.Rows
namespace Mine
open PySem.Sre
noncomputable def dotAt (text : Array Nat) (lim s : Nat) (first : Bool) (seen : Sre.Seen) : M :=
  { code := codeDot, text, lim, start := s, lastStart := lim, pc := 5, pos := s, handed := s, outermost := first, marks := #[], frames := [{ wait := .nextStart, pc := 5, pos := s, outermost := first }], weight := 1, seen := seen }
theorem dot_s1 (text : Array Nat) (lim s : Nat) (first : Bool) (seen : Sre.Seen) :
    (dotAt text lim s first seen).step = if (s == 0 || text.getD (s - 1) 0 == 10) = true then { dotAt text lim s first ((seen.add 6).add 44) with pc := 7 } else { dotAt text lim s first ((seen.add 6).add 44) with answer := some false } := rfl
theorem dot_s2 (text : Array Nat) (lim s : Nat) (first : Bool) (seen : Sre.Seen) :
    M.step { dotAt text lim s first seen with pc := 7 } = if s ≥ lim then { dotAt text lim s first (seen.add 16) with pc := 7, answer := some false } else
      (if (text.getD s 0 == 46) = true then { dotAt text lim s first (seen.add 16) with pc := 9, pos := s + 1 } else { dotAt text lim s first (seen.add 16) with pc := 7, answer := some false }) := by
  show (if s ≥ lim then _ else _) = _
  split
  · rfl
  · show (match (Except.ok (text.getD s 0 == 46, seen.add 16) : Except String (Bool × Sre.Seen)) with | .error why => _ | .ok (false, seen) => _ | .ok (true, seen) => _) = _
    cases text.getD s 0 == 46 <;> rfl
theorem dot_s3 (text : Array Nat) (lim s p : Nat) (first : Bool) (seen : Sre.Seen) :
    M.step { dotAt text lim s first seen with pc := p, answer := some false } = if s < lim then dotAt text lim (s + 1) false seen else { dotAt text lim s first seen with frames := [], weight := 0, answer := some false } := by
  show (if s < lim then _ else _) = _
  split <;> rfl
theorem dot_s4 (text : Array Nat) (lim s : Nat) (first : Bool) (seen : Sre.Seen) :
    M.runFor 4 { dotAt text lim s first seen with pc := 9, pos := s + 1 } = { dotAt text lim s first (seen.add 1) with frames := [], weight := 0, answer := some true, handed := s + 1, outcome := some .matched } := by
  cases first <;> rfl
theorem dot_s5 (text : Array Nat) (lim s : Nat) (first : Bool) (seen : Sre.Seen) :
    M.step { dotAt text lim s first seen with frames := [], weight := 0, answer := some false } = { dotAt text lim s first seen with frames := [], weight := 0, answer := some false, outcome := some .failed } := rfl
end Mine
end

noncomputable section
open PySem PySem.W PySem.Calls PyProof.Rows
namespace Mine
open PySem.Sre
noncomputable def DotP (text : Array Nat) (p : Nat) : Prop := (p = 0 ∨ text.getD (p - 1) 0 = 10) ∧ text.getD p 0 = 46
theorem dot_next {text : Array Nat} {lim s : Nat} {first : Bool} {seen : Sre.Seen} (hs : s < lim) (h : ¬ DotP text s) : ∃ n ≤ 3, ∃ seen', (dotAt text lim s first seen).runFor n = dotAt text lim (s + 1) false seen' := by
  by_cases hA : (s == 0 || text.getD (s - 1) 0 == 10) = true
  · have hL : ¬ (text.getD s 0 == 46) = true := fun e => h ⟨by simpa using hA, by simpa using e⟩
    refine ⟨3, by omega, ((seen.add 6).add 44).add 16, ?_⟩
    rw [runFor_succ rfl, dot_s1, if_pos hA, runFor_succ rfl, dot_s2, if_neg (by omega), if_neg hL, runFor_succ rfl, dot_s3, if_pos hs]
    rfl
  · refine ⟨2, by omega, (seen.add 6).add 44, ?_⟩
    rw [runFor_succ rfl, dot_s1, if_neg hA, runFor_succ rfl]
    show M.runFor 0 (M.step { dotAt text lim s first ((seen.add 6).add 44) with pc := 5, answer := some false }) = _
    rw [dot_s3, if_pos hs]
    rfl
theorem dot_hit {text : Array Nat} {lim s : Nat} {first : Bool} {seen : Sre.Seen} (hs : s < lim) (h : DotP text s) : ∃ m', Ends (dotAt text lim s first seen) m' 6 ∧ m'.outcome = some .matched ∧ m'.start = s ∧ m'.handed = s + 1 := by
  have hA : (s == 0 || text.getD (s - 1) 0 == 10) = true := by simpa using h.1
  have hL : (text.getD s 0 == 46) = true := by simpa using h.2
  have e : (dotAt text lim s first seen).runFor 6 = { dotAt text lim s first ((((seen.add 6).add 44).add 16).add 1) with frames := [], weight := 0, answer := some true, handed := s + 1, outcome := some .matched } := by
    rw [runFor_succ rfl, dot_s1, if_pos hA, runFor_succ rfl, dot_s2, if_neg (by omega), if_pos hL, dot_s4]
  exact ⟨_, ⟨e, rfl⟩, rfl, rfl, rfl⟩
theorem dot_over {text : Array Nat} {s : Nat} {first : Bool} {seen : Sre.Seen} : ∃ m' n, n ≤ 4 ∧ Ends (dotAt text s s first seen) m' n ∧ m'.outcome = some .failed := by
  by_cases hA : (s == 0 || text.getD (s - 1) 0 == 10) = true
  · have e : (dotAt text s s first seen).runFor 4 = { dotAt text s s first (((seen.add 6).add 44).add 16) with frames := [], weight := 0, answer := some false, outcome := some .failed } := by
      rw [runFor_succ rfl, dot_s1, if_pos hA, runFor_succ rfl, dot_s2, if_pos (Nat.le_refl _), runFor_succ rfl, dot_s3, if_neg (Nat.lt_irrefl _), runFor_succ rfl, dot_s5]
      rfl
    exact ⟨_, 4, by omega, ⟨e, rfl⟩, rfl⟩
  · have e : (dotAt text s s first seen).runFor 3 = { dotAt text s s first ((seen.add 6).add 44) with frames := [], weight := 0, answer := some false, outcome := some .failed } := by
      rw [runFor_succ rfl, dot_s1, if_neg hA, runFor_succ rfl]
      have e : ({ dotAt text s s first ((seen.add 6).add 44) with answer := some false } : M) = { dotAt text s s first ((seen.add 6).add 44) with pc := 5, answer := some false } := rfl
      rw [e, dot_s3, if_neg (Nat.lt_irrefl _), runFor_succ rfl, dot_s5]
      rfl
    exact ⟨_, 3, by omega, ⟨e, rfl⟩, rfl⟩
theorem dot_find {text : Array Nat} {lim : Nat} : ∀ (k s : Nat) (first : Bool) (seen : Sre.Seen), s + k = lim → ∃ m' n, n ≤ 3 * k + 6 ∧ Ends (dotAt text lim s first seen) m' n ∧
    ((m'.outcome = some .failed ∧ ∀ q, s ≤ q → q < lim → ¬ DotP text q) ∨ (m'.outcome = some .matched ∧ ∃ p, s ≤ p ∧ p < lim ∧ DotP text p ∧ (∀ q, s ≤ q → q < p → ¬ DotP text q) ∧ m'.start = p ∧ m'.handed = p + 1)) := by
  intro k
  induction k with
  | zero =>
    intro s first seen e
    obtain rfl : s = lim := e
    obtain ⟨m', n, hn, h, ho⟩ := dot_over (text := text) (s := s) (first := first) (seen := seen)
    exact ⟨m', n, by omega, h, .inl ⟨ho, fun q h1 h2 => absurd h2 (Nat.not_lt.mpr h1)⟩⟩
  | succ k ih =>
    intro s first seen e
    by_cases hd : DotP text s
    · obtain ⟨m', h, ho, h1, h2⟩ := dot_hit (first := first) (seen := seen) (show s < lim by omega) hd
      exact ⟨m', 6, by omega, h, .inr ⟨ho, s, Nat.le_refl _, by omega, hd, fun q a b => absurd b (Nat.not_lt.mpr a), h1, h2⟩⟩
    · obtain ⟨a, ha, seen', hstep⟩ := dot_next (first := first) (seen := seen) (show s < lim by omega) hd
      obtain ⟨m', n, hn, h, ho⟩ := ih (s + 1) false seen' (by omega)
      refine ⟨m', a + n, by omega, Ends.steps hstep h, ?_⟩
      have step : ∀ q, s ≤ q → ¬ s + 1 ≤ q → ¬ DotP text q := fun q h1 h2 => by
        have : q = s := by omega
        rw [this]; exact hd
      rcases ho with ⟨ho, hq⟩ | ⟨ho, p, p1, p2, p3, p4, p5, p6⟩
      · exact .inl ⟨ho, fun q h1 h2 => if h3 : s + 1 ≤ q then hq q h3 h2 else step q h1 h3⟩
      · exact .inr ⟨ho, p, by omega, p2, p3, fun q h1 h2 => if h3 : s + 1 ≤ q then p4 q h3 h2 else step q h1 h3, p5, p6⟩
theorem dot_search {text : Array Nat} {s : Nat} (hs : s ≤ text.size) : ∃ m' n, n ≤ 3 * text.size + 7 ∧ Ends (forSearch codeDot text 0 s text.size false) m' n ∧
    ((m'.outcome = some .failed ∧ ∀ q, s ≤ q → q < text.size → ¬ DotP text q) ∨ (m'.outcome = some .matched ∧ ∃ p, s ≤ p ∧ p < text.size ∧ DotP text p ∧ (∀ q, s ≤ q → q < p → ¬ DotP text q) ∧ m'.start = p ∧ m'.handed = p + 1)) := by
  by_cases he : s = text.size
  · subst he
    have hm : forSearch codeDot text 0 text.size text.size false = { code := codeDot, text, lim := text.size, start := text.size, pc := 5, pos := text.size, handed := text.size, marks := #[], seen := ({} : Sre.Seen).add 14, answer := some false } := by
      show (if (decide (text.size > text.size) || decide (text.size - text.size < 1)) = true then _ else _) = _
      rw [if_pos (by simp)]
      rfl
    have e : (forSearch codeDot text 0 text.size text.size false).runFor 1 = { code := codeDot, text, lim := text.size, start := text.size, pc := 5, pos := text.size, handed := text.size, marks := #[], seen := ({} : Sre.Seen).add 14, answer := some false, outcome := some .failed } := by
      rw [hm]; rfl
    exact ⟨_, 1, by omega, ⟨e, rfl⟩, .inl ⟨rfl, fun q h1 h2 => absurd h2 (Nat.not_lt.mpr h1)⟩⟩
  · have hm : forSearch codeDot text 0 s text.size false = dotAt text text.size s true (({} : Sre.Seen).add 14) := by
      show (if (decide (s > text.size) || decide (text.size - s < 1)) = true then _ else _) = _
      rw [if_neg (by simp; omega)]
      rfl
    obtain ⟨m', n, hn, h⟩ := dot_find (text := text) (lim := text.size) (text.size - s) s true (({} : Sre.Seen).add 14) (by omega)
    rw [hm]
    exact ⟨m', n, by omega, h⟩
end Mine
end

noncomputable section
open PySem PySem.W PySem.Calls PyProof.Rows
namespace Mine
open PySem.Sre
noncomputable def eM (text : Array Nat) (lim p pc pos handed : Nat) (om : Bool) (fr : List Sre.Frame) (wt : Nat) (ans : Option Bool) (seen : Sre.Seen) : M :=
  { code := codeEnd, text, lim, start := p, lastStart := lim, pc, pos, handed, outermost := om, marks := #[], frames := fr, weight := wt, answer := ans, seen := seen }
noncomputable abbrev fS (p : Nat) : Sre.Frame := { wait := .nextStart, pc := 10, pos := p, outermost := true }
noncomputable abbrev fB (p i : Nat) : Sre.Frame := { wait := .nextBranch, pc := i, pos := p, outermost := true, kept := { lastmark := -1, lastindex := -1, whole := false, marks := #[] } }
noncomputable abbrev fN (q : Nat) : Sre.Frame := { wait := .lookNot, pc := 26, pos := q, outermost := true, kept := { lastmark := -1, lastindex := -1, whole := false, marks := #[] } }
section
variable (text : Array Nat) (lim p pos handed : Nat) (om : Bool) (fr : List Sre.Frame) (wt : Nat) (seen : Sre.Seen)
theorem e_l12 : (eM text lim p 12 pos handed om fr wt none seen).step = if pos ≥ lim then eM text lim p 12 pos handed om fr wt (some false) (seen.add 16) else
      if (text.getD pos 0 == 13) = true then eM text lim p 14 (pos + 1) handed om fr wt none (seen.add 16) else eM text lim p 12 pos handed om fr wt (some false) (seen.add 16) := by
  show (if pos ≥ lim then _ else _) = _
  split
  · rfl
  · show (match (Except.ok (text.getD pos 0 == 13, seen.add 16) : Except String (Bool × Sre.Seen)) with | .error why => _ | .ok (false, seen) => _ | .ok (true, seen) => _) = _
    cases text.getD pos 0 == 13 <;> rfl
theorem e_l14 : (eM text lim p 14 pos handed om fr wt none seen).step = if pos ≥ lim then eM text lim p 14 pos handed om fr wt (some false) (seen.add 16) else
      if (text.getD pos 0 == 10) = true then eM text lim p 16 (pos + 1) handed om fr wt none (seen.add 16) else eM text lim p 14 pos handed om fr wt (some false) (seen.add 16) := by
  show (if pos ≥ lim then _ else _) = _
  split
  · rfl
  · show (match (Except.ok (text.getD pos 0 == 10, seen.add 16) : Except String (Bool × Sre.Seen)) with | .error why => _ | .ok (false, seen) => _ | .ok (true, seen) => _) = _
    cases text.getD pos 0 == 10 <;> rfl
theorem e_l19 : (eM text lim p 19 pos handed om fr wt none seen).step = if pos ≥ lim then eM text lim p 19 pos handed om fr wt (some false) (seen.add 16) else
      if (text.getD pos 0 == 10) = true then eM text lim p 21 (pos + 1) handed om fr wt none (seen.add 16) else eM text lim p 19 pos handed om fr wt (some false) (seen.add 16) := by
  show (if pos ≥ lim then _ else _) = _
  split
  · rfl
  · show (match (Except.ok (text.getD pos 0 == 10, seen.add 16) : Except String (Bool × Sre.Seen)) with | .error why => _ | .ok (false, seen) => _ | .ok (true, seen) => _) = _
    cases text.getD pos 0 == 10 <;> rfl
theorem e_l24 : (eM text lim p 24 pos handed om fr wt none seen).step = if pos ≥ lim then eM text lim p 24 pos handed om fr wt (some false) (seen.add 16) else
      if (text.getD pos 0 == 13) = true then eM text lim p 26 (pos + 1) handed om fr wt none (seen.add 16) else eM text lim p 24 pos handed om fr wt (some false) (seen.add 16) := by
  show (if pos ≥ lim then _ else _) = _
  split
  · rfl
  · show (match (Except.ok (text.getD pos 0 == 13, seen.add 16) : Except String (Bool × Sre.Seen)) with | .error why => _ | .ok (false, seen) => _ | .ok (true, seen) => _) = _
    cases text.getD pos 0 == 13 <;> rfl
theorem e_l29 : (eM text lim p 29 pos handed om fr wt none seen).step = if pos ≥ lim then eM text lim p 29 pos handed om fr wt (some false) (seen.add 16) else
      if (text.getD pos 0 == 10) = true then eM text lim p 31 (pos + 1) handed om fr wt none (seen.add 16) else eM text lim p 29 pos handed om fr wt (some false) (seen.add 16) := by
  show (if pos ≥ lim then _ else _) = _
  split
  · rfl
  · show (match (Except.ok (text.getD pos 0 == 10, seen.add 16) : Except String (Bool × Sre.Seen)) with | .error why => _ | .ok (false, seen) => _ | .ok (true, seen) => _) = _
    cases text.getD pos 0 == 10 <;> rfl
theorem e_br : (eM text lim p 10 p p true [fS p] 1 none seen).step = eM text lim p 12 p p true [fB p 11, fS p] 2 none (seen.add 7) := rfl
theorem e_no1 (pc : Nat) : (eM text lim p pc pos handed om [fB p 11, fS p] 2 (some false) seen).step = eM text lim p 19 p p true [fB p 18, fS p] 2 none seen := rfl
theorem e_no2 (pc : Nat) : (eM text lim p pc pos handed om [fB p 18, fS p] 2 (some false) seen).step = eM text lim p 24 p p true [fB p 23, fS p] 2 none seen := rfl
theorem e_out (i q : Nat) : (eM text lim p 35 q handed true [fB p i, fS p] 2 none seen).runFor 4 = { eM text lim p 10 p q true [] 0 (some true) (seen.add 1) with outcome := some .matched } := rfl
theorem e_j1 : (eM text lim p 16 pos handed om fr wt none seen).step = eM text lim p 35 pos handed om fr wt none (seen.add 15) := rfl
theorem e_j2 : (eM text lim p 21 pos handed om fr wt none seen).step = eM text lim p 35 pos handed om fr wt none (seen.add 15) := rfl
theorem e_j3 : (eM text lim p 32 pos handed om fr wt none seen).step = eM text lim p 35 pos handed om fr wt none (seen.add 15) := rfl
theorem e_as (q : Nat) : (eM text lim p 26 q handed true [fB p 23, fS p] 2 none seen).step = eM text lim p 29 q q false [fN q, fB p 23, fS p] 3 none (seen.add 5) := rfl
theorem e_ln (q pc : Nat) : (eM text lim p pc pos handed om [fN q, fB p 23, fS p] 3 (some false) seen).step = eM text lim p 32 q handed true [fB p 23, fS p] 2 none seen := rfl
end
theorem end_lf {text : Array Nat} {lim p : Nat} {seen : Sre.Seen} (hp : p < lim) (h : text.getD p 0 = 10) : ∃ m', Ends (eM text lim p 10 p p true [fS p] 1 none seen) m' 9 ∧ m'.outcome = some .matched ∧ m'.start = p ∧ m'.handed = p + 1 := by
  refine ⟨_, ⟨(?e : _ = { eM text lim p 10 p (p + 1) true [] 0 (some true) (((((seen.add 7).add 16).add 16).add 15).add 1) with outcome := some .matched }), rfl⟩, rfl, rfl, rfl⟩
  rw [runFor_succ rfl, e_br, runFor_succ rfl, e_l12, if_neg (by omega), if_neg (by rw [h]; decide), runFor_succ rfl, e_no1, runFor_succ rfl, e_l19,
    if_neg (by omega), if_pos (by rw [h]; decide), runFor_succ rfl, e_j2, e_out]
theorem end_crlf {text : Array Nat} {lim p : Nat} {seen : Sre.Seen} (hp : p + 1 < lim) (h : text.getD p 0 = 13) (h2 : text.getD (p + 1) 0 = 10) : ∃ m', Ends (eM text lim p 10 p p true [fS p] 1 none seen) m' 8 ∧ m'.outcome = some .matched ∧ m'.start = p ∧ m'.handed = p + 2 := by
  refine ⟨_, ⟨(?e : _ = { eM text lim p 10 p (p + 2) true [] 0 (some true) (((((seen.add 7).add 16).add 16).add 15).add 1) with outcome := some .matched }), rfl⟩, rfl, rfl, rfl⟩
  rw [runFor_succ rfl, e_br, runFor_succ rfl, e_l12, if_neg (by omega), if_pos (by rw [h]; decide), runFor_succ rfl, e_l14, if_neg (by omega), if_pos (by rw [h2]; decide),
    runFor_succ rfl, e_j1, e_out]
theorem end_cr {text : Array Nat} {lim p : Nat} {seen : Sre.Seen} (hp : p < lim) (h : text.getD p 0 = 13) (h2 : ¬ (p + 1 < lim ∧ text.getD (p + 1) 0 = 10)) : ∃ m', Ends (eM text lim p 10 p p true [fS p] 1 none seen) m' 15 ∧ m'.outcome = some .matched ∧ m'.start = p ∧ m'.handed = p + 1 := by
  have key14 : ∀ (hd : Nat) (om : Bool) (fr : List Sre.Frame) (wt : Nat) (seen : Sre.Seen), (eM text lim p 14 (p + 1) hd om fr wt none seen).step = eM text lim p 14 (p + 1) hd om fr wt (some false) (seen.add 16) := by
    intro hd om fr wt seen
    rw [e_l14]
    by_cases hl : p + 1 ≥ lim
    · rw [if_pos hl]
    · rw [if_neg hl, if_neg fun e => h2 ⟨by omega, by simpa using e⟩]
  have key29 : ∀ (hd : Nat) (om : Bool) (fr : List Sre.Frame) (wt : Nat) (seen : Sre.Seen), (eM text lim p 29 (p + 1) hd om fr wt none seen).step = eM text lim p 29 (p + 1) hd om fr wt (some false) (seen.add 16) := by
    intro hd om fr wt seen
    rw [e_l29]
    by_cases hl : p + 1 ≥ lim
    · rw [if_pos hl]
    · rw [if_neg hl, if_neg fun e => h2 ⟨by omega, by simpa using e⟩]
  refine ⟨_, ⟨(?e : _ = { eM text lim p 10 p (p + 1) true [] 0 (some true) (((((((((seen.add 7).add 16).add 16).add 16).add 16).add 5).add 16).add 15).add 1) with outcome := some .matched }), rfl⟩, rfl, rfl, rfl⟩
  rw [runFor_succ rfl, e_br, runFor_succ rfl, e_l12, if_neg (by omega), if_pos (by rw [h]; decide), runFor_succ rfl, key14, runFor_succ rfl, e_no1,
    runFor_succ rfl, e_l19, if_neg (by omega), if_neg (by rw [h]; decide), runFor_succ rfl, e_no2,
    runFor_succ rfl, e_l24, if_neg (by omega), if_pos (by rw [h]; decide), runFor_succ rfl, e_as, runFor_succ rfl, key29, runFor_succ rfl, e_ln,
    runFor_succ rfl, e_j3, e_out]
end Mine
end

noncomputable section
open PySem PySem.W PySem.Calls PyProof.Rows
namespace Mine
open PySem.Sre
noncomputable def EndP (text : Array Nat) (p : Nat) : Prop := text.getD p 0 = 10 ∨ text.getD p 0 = 13
noncomputable def endTo (text : Array Nat) (p : Nat) : Nat := if text.getD p 0 = 13 ∧ p + 1 < text.size ∧ text.getD (p + 1) 0 = 10 then p + 2 else p + 1
theorem end_set (c : Nat) (seen : Sre.Seen) : ∃ seen', inSet codeEnd c codeEnd.size 5 true seen = .ok (c == 10 || c == 13, seen') := by
  have e : inSet codeEnd c codeEnd.size 5 true seen = if (c == 10) = true then .ok (true, seen.add 16) else if (c == 13) = true then .ok (true, (seen.add 16).add 16) else .ok (false, ((seen.add 16).add 16).add 0) := rfl
  rw [e]
  cases c == 10 <;> cases c == 13 <;> exact ⟨_, rfl⟩
theorem end_hit {text : Array Nat} {p : Nat} {seen : Sre.Seen} (hp : p < text.size) (h : EndP text p) : ∃ m' n, n ≤ 15 ∧ Ends (eM text text.size p 10 p p true [fS p] 1 none seen) m' n ∧ m'.outcome = some .matched ∧ m'.start = p ∧ m'.handed = endTo text p := by
  by_cases h1 : text.getD p 0 = 10
  · obtain ⟨m', a, b, c, d⟩ := end_lf (seen := seen) hp h1
    exact ⟨m', 9, by omega, a, b, c, by rw [d, endTo, if_neg (by omega)]⟩
  · have h2 : text.getD p 0 = 13 := by rcases h with h | h; exact absurd h h1; exact h
    by_cases h3 : p + 1 < text.size ∧ text.getD (p + 1) 0 = 10
    · obtain ⟨m', a, b, c, d⟩ := end_crlf (seen := seen) h3.1 h2 h3.2
      exact ⟨m', 8, by omega, a, b, c, by rw [d, endTo, if_pos ⟨h2, h3⟩]⟩
    · obtain ⟨m', a, b, c, d⟩ := end_cr (seen := seen) hp h2 h3
      exact ⟨m', 15, by omega, a, b, c, by rw [d, endTo, if_neg (fun e => h3 e.2)]⟩
theorem end_adm {text : Array Nat} {m : M} (hm : m.code = codeEnd) (ht : m.text = text) (hl : m.lim = text.size) : ∀ (k s : Nat) (seen : Sre.Seen), s + k = text.size → ∃ seen',
    (M.admitted m (k + 1) s seen = .ok (none, seen') ∧ ∀ q, s ≤ q → q < text.size → ¬ EndP text q) ∨ (∃ p, M.admitted m (k + 1) s seen = .ok (some p, seen') ∧ s ≤ p ∧ p < text.size ∧ EndP text p ∧ ∀ q, s ≤ q → q < p → ¬ EndP text q) := by
  intro k
  induction k with
  | zero =>
    intro s seen e
    refine ⟨seen, .inl ⟨?_, fun q h1 h2 => absurd h2 (by omega)⟩⟩
    unfold M.admitted
    rw [if_pos (by omega)]
  | succ k ih =>
    intro s seen e
    obtain ⟨seen1, h1⟩ := end_set (text.getD s 0) seen
    unfold M.admitted
    rw [if_neg (by omega), hm, ht, h1]
    by_cases hE : EndP text s
    · have : (text.getD s 0 == 10 || text.getD s 0 == 13) = true := by
        rcases hE with h | h <;> simp only [h] <;> decide
      rw [this]
      exact ⟨seen1, .inr ⟨s, rfl, Nat.le_refl _, by omega, hE, fun q a b => absurd b (Nat.not_lt.mpr a)⟩⟩
    · have : (text.getD s 0 == 10 || text.getD s 0 == 13) = false := by
        rw [Bool.or_eq_false_iff]
        exact ⟨by simpa using fun h => hE (.inl h), by simpa using fun h => hE (.inr h)⟩
      rw [this]
      have step : ∀ q, s ≤ q → ¬ s + 1 ≤ q → ¬ EndP text q := fun q h1 h2 => by
        have : q = s := by omega
        rw [this]; exact hE
      obtain ⟨seen', h⟩ := ih (s + 1) seen1 (by omega)
      refine ⟨seen', ?_⟩
      rcases h with ⟨a, b⟩ | ⟨p, a, p1, p2, p3, p4⟩
      · exact .inl ⟨a, fun q h1 h2 => if h3 : s + 1 ≤ q then b q h3 h2 else step q h1 h3⟩
      · exact .inr ⟨p, a, by omega, p2, p3, fun q h1 h2 => if h3 : s + 1 ≤ q then p4 q h3 h2 else step q h1 h3⟩
theorem end_search {text : Array Nat} {s : Nat} (hs : s ≤ text.size) : ∃ m' n, n ≤ 20 ∧ Ends (forSearch codeEnd text 0 s text.size false) m' n ∧
    ((m'.outcome = some .failed ∧ ∀ q, s ≤ q → q < text.size → ¬ EndP text q) ∨ (m'.outcome = some .matched ∧ ∃ p, s ≤ p ∧ p < text.size ∧ EndP text p ∧ (∀ q, s ≤ q → q < p → ¬ EndP text q) ∧ m'.start = p ∧ m'.handed = endTo text p)) := by
  by_cases he : s = text.size
  · subst he
    have hm : forSearch codeEnd text 0 text.size text.size false = { code := codeEnd, text, lim := text.size, start := text.size, pc := 10, pos := text.size, handed := text.size, marks := #[], seen := ({} : Sre.Seen).add 14, answer := some false } := by
      show (if (decide (text.size > text.size) || decide (text.size - text.size < 1)) = true then _ else _) = _
      rw [if_pos (by simp)]
      rfl
    have e : (forSearch codeEnd text 0 text.size text.size false).runFor 1 = { code := codeEnd, text, lim := text.size, start := text.size, pc := 10, pos := text.size, handed := text.size, marks := #[], seen := ({} : Sre.Seen).add 14, answer := some false, outcome := some .failed } := by
      rw [hm]; rfl
    exact ⟨_, 1, by omega, ⟨e, rfl⟩, .inl ⟨rfl, fun q h1 h2 => absurd h2 (Nat.not_lt.mpr h1)⟩⟩
  · have hm : forSearch codeEnd text 0 s text.size false = M.attemptFrom { code := codeEnd, text, lim := text.size, start := s, lastStart := text.size, pc := 10, pos := s, handed := s, marks := #[], seen := ({} : Sre.Seen).add 14 } s true := by
      show (if (decide (s > text.size) || decide (text.size - s < 1)) = true then _ else _) = _
      rw [if_neg (by simp; omega)]
      rfl
    rw [hm]
    obtain ⟨seen', h⟩ := end_adm (text := text) (m := { code := codeEnd, text, lim := text.size, start := s, lastStart := text.size, pc := 10, pos := s, handed := s, marks := #[], seen := ({} : Sre.Seen).add 14 }) rfl rfl rfl (text.size - s) s (({} : Sre.Seen).add 14) (by omega)
    unfold M.attemptFrom
    rw [if_neg (by exact (by decide : ¬ (false = true)))]
    have ek : text.size + 1 - s = text.size - s + 1 := by omega
    dsimp only
    rw [ek]
    rcases h with ⟨a, b⟩ | ⟨p, a, p1, p2, p3, p4⟩
    · rw [a]
      refine ⟨_, 1, by omega, ⟨(?e : _ = { code := codeEnd, text, lim := text.size, start := s, lastStart := text.size, pc := 10, pos := s, handed := s, marks := #[], seen := seen', answer := some false, outcome := some .failed }), rfl⟩, .inl ⟨rfl, b⟩⟩
      rfl
    · rw [a]
      obtain ⟨m', n, hn, h⟩ := end_hit (seen := seen') p2 p3
      refine ⟨m', n, by omega, h.1, .inr ⟨h.2.1, p, p1, p2, p3, p4, h.2.2⟩⟩
end Mine
end

noncomputable section
open PySem PySem.W PySem.Calls PyProof.Rows
namespace Mine
open PySem.Sre
theorem entry_subloop : entryFor table "re.Pattern.sub.loop" = some Builtin.«re.Pattern.sub.loop» := entryFor_of_tree (by kernel_rfl)
theorem entry_sub : entryFor table "re.Pattern.sub" = some Builtin.«re.Pattern.sub» := entryFor_of_tree (by kernel_rfl)
theorem slot_re_sub : Slot "re.Pattern" "sub" "re.Pattern.sub" :=
  .of (owner := "re.Pattern") (n := "sub") (by rw [typeLookup_type, builtinLookup_eq_fast]; kernel_rfl) (by decide +kernel) (by decide +kernel) (by decide +kernel)
    (by first | exact .inl (by decide +kernel) | exact .inr (by decide +kernel)) (by rw [isSubtype_type]; kernel_rfl)
section
variable {prog : Program} {w : World} {A : Around} {s : Shared}
structure PatAt (h : Heap) (P : Addr) (code : Array Nat) : Prop where
  ex : ∃ o fs c oc its n, h.get? P = some o ∧ o.data = .fields fs ∧ fs.getD 6 .none = rawInt 0 ∧ fs.getD 2 .none = rawInt 0 ∧ fs.getD 5 .none = .ref c ∧ h.get? c = some oc ∧ oc.data = .seq its n ∧ (its.map Builtin.Re.reRawOf).map (·.toNat) = code
theorem whole_target {P : Addr} {code : Array Nat} {x : Str} {t : Tok} {E : Value → Shared → Prop} {Q : Builtin.Re.ReTarget → Shared → Prop} (hp : PatAt s.heap P code)
    (h : Q ⟨.ref P, .str x t, code, x.cps, 0, 0, 0, x.cps.size⟩ s) : wpAny (model prog w) A (Builtin.Re.reWholeTarget (.ref P) (.str x t)) Q E s := by
  obtain ⟨o, fs, c, oc, its, n, h1, h2, h3, h4, h5, h6, h7, h8⟩ := hp
  unfold Builtin.Re.reWholeTarget
  refine wpAny_bind (wpAny_fieldsOf h1 h2 ?_)
  unfold Builtin.Re.reTextOf
  simp only [asStr?, pure_bind]
  refine wpAny_bind (wpAny_pure ?_)
  dsimp only
  rw [h3, h4, h5]
  refine (show wpAny _ _ (Builtin.Re.reNoCollectionInside (.str x t) 0 >>= fun _ => Builtin.Re.reRawItems (.ref c) >>= fun r => pure (⟨.ref P, .str x t, r.map (·.toNat), x.cps, 0, 0, 0, x.cps.size⟩ : Builtin.Re.ReTarget)) Q E s from ?_)
  refine wpAny_bind ?_
  unfold Builtin.Re.reNoCollectionInside
  rw [if_neg (by decide)]
  refine wpAny_pure (wpAny_bind ?_)
  unfold Builtin.Re.reRawItems
  refine wpAny_bind (wpAny_seqItems h6 h7 (wpAny_pure (wpAny_pure ?_)))
  rw [← h8] at h
  exact h
theorem re_slice {text : Array Nat} {b e : Nat} {E : Value → Shared → Prop} {Q : Value → Shared → Prop} (h : Q (.str ⟨text.extract b e⟩ s.toks) { s with toks := s.toks + 1 }) (hx : text.size ≤ 1000000) :
    wpAny (model prog w) A (Builtin.Re.reSlice text 0 b e) Q E s := by
  unfold Builtin.Re.reSlice
  rw [if_pos (by decide)]
  refine wpAny_mkStr h ?_
  show (text.extract b e).size ≤ sizeLine
  have : (text.extract b e).size ≤ text.size := by simp; omega
  have : (1000000 : Nat) ≤ sizeLine := by decide
  omega
theorem strs_snoc {vs : List Value} {ys : List Str} {x : Str} {t : Tok} (h : StrsAre vs ys) : StrsAre (vs ++ [.str x t]) (ys ++ [x]) := by
  induction h with
  | nil => exact .cons x t .nil
  | cons y u h ih => exact .cons y u ih
noncomputable def flat (ys : List Str) : List Nat := ys.flatMap (·.cps.toList)
theorem strjoin_empty : ∀ ys : List Str, (Str.join (Str.ofString "") ys).cps = (flat ys).toArray
  | [] => rfl
  | [x] => by simp [Str.join, flat]
  | x :: y :: r => by
    have ih := strjoin_empty (y :: r)
    show x.cps ++ (Str.ofString "").cps ++ (Str.join (Str.ofString "") (y :: r)).cps = _
    rw [ih]
    have e : (Str.ofString "").cps = #[] := rfl
    rw [e]
    simp [flat]
theorem join_empty (ys : List Str) : Txt.join (Str.ofString "") ys = txt (flat ys) := by
  have h := strjoin_empty ys
  unfold Txt.join
  rw [StrLaws.glued_eq_join]
  cases hj : Str.join (Str.ofString "") ys with
  | mk c => rw [hj] at h; dsimp only at h; rw [h]
theorem flat_snoc (ys : List Str) (x : Str) : flat (ys ++ [x]) = flat ys ++ x.cps.toList := by simp [flat]
theorem flat_len (ys : List Str) : (ys.map (·.length)).sum = (flat ys).length := by
  induction ys with
  | nil => rfl
  | cons y r ih =>
    have e : flat (y :: r) = y.cps.toList ++ flat r := by simp [flat]
    rw [List.map_cons, List.sum_cons, ih, e, List.length_append]
    rfl
noncomputable def Finds (code text : Array Nat) (rep : List Nat) (out : Nat → List Nat) : Prop := ∀ k, k ≤ text.size → ∃ m' n, n ≤ 1000000 ∧ Ends (forSearch code text 0 k text.size false) m' n ∧
  ((m'.outcome = some .failed ∧ out k = (text.extract k text.size).toList) ∨ (m'.outcome = some .matched ∧ k ≤ m'.start ∧ m'.start < m'.handed ∧ m'.handed ≤ text.size ∧ out k = (text.extract k m'.start).toList ++ rep ++ out m'.handed))
theorem extBut_mapSeq {h : Heap} {D : Addr} {o : Obj} {xs : Array Value} {n : Nat} (v : Value) (ho : h.get? D = some o) (hd : o = listOf xs n) : ∃ n', (h.update D (Obj.mapSeq (·.push v))).get? D = some (listOf (xs.push v) n') ∧ Heap.ExtBut D h (h.update D (Obj.mapSeq (·.push v))) := by
  subst hd
  refine ⟨_, Heap.get?_update_self _ ho rfl, fun b o hb e => ?_⟩
  rw [Heap.get?_update_other h _ (Ne.symm hb)]
  exact e
theorem mapSeq_push_get {xs : Array Value} {n : Nat} (v : Value) : ∃ n', Obj.mapSeq (·.push v) (listOf xs n) = listOf (xs.push v) n' := ⟨_, rfl⟩
theorem push_strs {D : Addr} {vs : List Value} {n : Nat} {v : Value} {E : Value → Shared → Prop} {Q : Unit → Shared → Prop} (ho : s.heap.get? D = some (listOf vs.toArray n)) (hz : vs.length ≤ 4000000)
    (h : ∀ h' n', h'.get? D = some (listOf (vs ++ [v]).toArray n') → Heap.ExtBut D s.heap h' → Q () { s with heap := h' }) : wpAny (model prog w) A (updateSeq D (·.push v)) Q E s := by
  have hl : (4000000 : Nat) + 1 ≤ sizeLine := by decide
  refine wpAny_updateSeq ho rfl ?_ (by simp; omega) (by simp; omega)
  obtain ⟨n', g, x⟩ := extBut_mapSeq v ho rfl
  refine h _ n' ?_ x
  rw [g]
  simp
theorem sub_loop {code : Array Nat} {x r : Str} {tx tr : Tok} {P D : Addr} {out : Nat → List Nat} {R : Result → Shared → Prop} (hf : Finds code x.cps r.cps.toList out) (hx : x.cps.size ≤ 100000) :
    ∀ (fuel k : Nat) (s : Shared) (vs : List Value) (ys : List Str) (n : Nat) (tk : Tok) (c n1 n2 : Int), x.cps.size - k < fuel → k ≤ x.cps.size → PatAt s.heap P code → s.heap.get? D = some (listOf vs.toArray n) → StrsAre vs ys → vs.length ≤ 2 * k → D ≠ P → (∀ h', Heap.ExtBut D s.heap h' → PatAt h' P code) →
      (flat ys ++ out k).length ≤ 1000000 → c = 0 →
      (∀ h' tk' t' vs' n', Heap.ExtBut D s.heap h' → h'.get? D = some (listOf vs' n') → R (.ok (.ret (.str (txt (flat ys ++ out k)) t'))) { s with heap := h', toks := tk' }) →
      codeAny (model prog w) A (.builtin "re.Pattern.sub.loop" ⟨[.ref P, .str x tx, .str r tr, rawInt 0, rawInt c, rawInt n1, rawInt k, rawInt k, .bool false, .ref D, .bool false], []⟩) R s := by
  intro fuel
  induction fuel with
  | zero => intro k s vs ys n tk c n1 n2 h; omega
  | succ fuel ih =>
    intro k s vs ys n tk c n1 n2 hfu hk hP hD hS hvl hne hPk hlen hc hR
    subst hc
    refine codeAny_builtin entry_subloop ?_
    unfold Builtin.«re.Pattern.sub.loop»
    dsimp only [rawInt]
    refine wpAny_bind (whole_target hP ?_)
    rw [if_pos (by decide)]
    refine wpAny_bind (m := Builtin.Re.reLiteralCannotBeTurned _) ?_
    unfold Builtin.Re.reLiteralCannotBeTurned
    simp only [asStr?, pure_bind, Option.isNone_some, Bool.false_eq_true, if_false]
    refine wpAny_pure ?_
    refine wpAny_bind ?_
    rw [if_neg (by simp)]
    rw [Int.toNat_natCast]
    obtain ⟨m', nn, hnn, hE, ho⟩ := hf k hk
    unfold Builtin.Re.reNextFound
    have hZ : (100000 : Nat) + 1 ≤ sizeLine := by decide
    have final : ∀ (s' : Shared) (vs' : List Value) (ys' : List Str) (nq : Nat), (∃ h' tk', s' = { s with heap := h', toks := tk' } ∧ Heap.ExtBut D s.heap h') → s'.heap.get? D = some (listOf vs'.toArray nq) → StrsAre vs' ys' → flat ys' = flat ys ++ out k → vs'.length ≤ 4000000 →
        wpAny (model prog w) (A.under (.builtin "re.Pattern.sub.loop" ⟨[.ref P, .str x tx, .str r tr, .int 0 0, .int 0 0, .int n1 0, .int k 0, .int k 0, .bool false, .ref D, .bool false], []⟩))
          (do
            let joiner ← Builtin.Re.reSlice x.cps 0 0 0
            let text ← if ((← seqItems? (.ref D)).getD #[]).isEmpty then pure joiner else call (.builtin (if (0 : Nat) == 0 then "str.join" else "bytes.join")) [joiner, .ref D]
            if false then ret (← holding [text] do newTuple [text, ← mkInt n1]) else ret text)
          (fun fin s' => match fin with | .done f => R (.ok f) s' | .again c' => c'.quiet = true ∧ codeAny (model prog w) A c' R s') (fun e s' => R (.error e) s') s' := by
      rintro s' vs' ys' nq ⟨h', tk', rfl, hx'⟩ hD' hS' hfl hl'
      refine wpAny_bind (re_slice ?_ (by omega))
      refine wpAny_bind (wpAny_seqItems hD' rfl ?_)
      have ej : (⟨x.cps.extract 0 0⟩ : Str) = Str.ofString "" := by
        have : x.cps.extract 0 0 = #[] := by simp
        rw [this]; rfl
      rw [ej]
      cases hS' with
      | nil =>
        refine wpAny_bind ?_
        simp only [Option.getD_some]
        show wpAny _ _ (pure (Value.str (Str.ofString "") tk')) _ _ _
        refine wpAny_pure ?_
        rw [if_neg (by decide)]
        refine wpAny_pure ?_
        have e0 : Str.ofString "" = txt (flat ys ++ out k) := by rw [← hfl]; rfl
        rw [e0]
        exact hR _ _ _ _ _ hx' hD'
      | cons y t hS' =>
        refine wpAny_bind ?_
        simp only [Option.getD_some]
        show wpAny _ _ (call (.builtin "str.join") [.str (Str.ofString "") tk', .ref D]) _ _ _
        refine join_list ⟨_, hD', rfl, _, rfl⟩ (by simpa using StrsAre.cons y t hS') ?_ (fun t' k' => ?_)
        · rw [flat_len, hfl]
          have : (Str.ofString "").length = 0 := rfl
          rw [this]
          omega
        · rw [if_neg (by decide), join_empty, hfl]
          exact wpAny_pure (hR _ _ _ _ _ hx' hD')
    have hvl' : vs.length + 2 ≤ 4000000 := by omega
    refine to_end hE hnn (fun hy => ?_) (fun hn => ?_) ?_
    · rcases ho with ⟨ho, _⟩ | ⟨_, h1, h2, h3, h4⟩
      · rw [ho] at hy; cases hy
      have eB : (m'.handed == m'.start) = false := by simpa using (Nat.ne_of_gt h2)
      dsimp only
      rw [eB]
      have fin : ∀ (s' : Shared) (vs' : List Value) (ys' : List Str) (nq : Nat), (∃ h' tk', s' = { s with heap := h', toks := tk' } ∧ Heap.ExtBut D s.heap h') → s'.heap.get? D = some (listOf vs'.toArray nq) → StrsAre vs' ys' → flat ys' = flat ys ++ (x.cps.extract k m'.start).toList → vs'.length ≤ vs.length + 1 →
        wpAny (model prog w) (A.under (.builtin "re.Pattern.sub.loop" ⟨[.ref P, .str x tx, .str r tr, .int 0 0, .int 0 0, .int n1 0, .int k 0, .int k 0, .bool false, .ref D, .bool false], []⟩))
          (do
            let item ← pure (Value.str r tr)
            if (item != Value.none) = true then do
              updateSeq D fun x => x.push item
              again (.builtin "re.Pattern.sub.loop" ⟨[.ref P, .str x tx, .str r tr, .int 0 0, .int 0 0, .int (n1 + 1) 0, .int m'.handed 0, .int m'.handed 0, .bool false, .ref D, .bool false], []⟩)
            else again (.builtin "re.Pattern.sub.loop" ⟨[.ref P, .str x tx, .str r tr, .int 0 0, .int 0 0, .int (n1 + 1) 0, .int m'.handed 0, .int m'.handed 0, .bool false, .ref D, .bool false], []⟩))
          (fun fin s' => match fin with | .done f => R (.ok f) s' | .again c' => c'.quiet = true ∧ codeAny (model prog w) A c' R s') (fun e s' => R (.error e) s') s' := by
        rintro s' vs' ys' nq ⟨h', tk', rfl, hx'⟩ hD' hS' hfl hl'
        refine wpAny_bind (wpAny_pure ?_)
        rw [if_pos (by rfl)]
        refine wpAny_bind (push_strs hD' (by omega) fun h'' n'' g' x'' => wpAny_pure ⟨Code.quiet_builtin _ (by decide +kernel), ?_⟩)
        have hfl2 : flat (ys' ++ [r]) ++ out m'.handed = flat ys ++ out k := by
          rw [flat_snoc, hfl, h4]
          simp
        refine ih m'.handed _ _ (ys' ++ [r]) n'' tx 0 (n1 + 1) n2 (by omega) h3 (hPk _ (fun b o hb e => x'' _ _ hb (hx' _ _ hb e))) g' (strs_snoc hS') (by simp; omega) hne (fun h3 hx3 => hPk _ (fun b o hb e => hx3 _ _ hb (x'' _ _ hb (hx' _ _ hb e)))) (by rw [hfl2]; exact hlen) rfl (fun h3 tk3 t3 vs3 n3 hx3 g3 => ?_)
        rw [hfl2]
        exact hR _ _ _ _ _ (fun b o hb e => hx3 _ _ hb (x'' _ _ hb (hx' _ _ hb e))) g3
      by_cases hks : k < m'.start
      · rw [if_pos hks]
        refine wpAny_bind (re_slice ?_ (by omega))
        refine wpAny_bind (push_strs hD (by omega) fun h' n' g' x' => ?_)
        exact fin _ (vs ++ [_]) (ys ++ [⟨x.cps.extract k m'.start⟩]) _ ⟨_, _, rfl, x'⟩ g' (strs_snoc hS) (by rw [flat_snoc]) (by simp)
      · rw [if_neg hks]
        have e0 : (x.cps.extract k m'.start).toList = [] := by
          have : k = m'.start := by omega
          rw [this]; simp
        exact fin _ vs ys _ ⟨_, _, rfl, fun b o _ e => e⟩ hD hS (by rw [e0]; simp) (by omega)
    · rcases ho with ⟨_, h1⟩ | ⟨ho, _⟩
      · dsimp only
        by_cases hkl : k < x.cps.size
        · rw [if_pos hkl]
          refine wpAny_bind (re_slice ?_ (by omega))
          refine wpAny_bind (push_strs hD (by omega) fun h' n' g' x' => ?_)
          exact final _ (vs ++ [_]) (ys ++ [⟨x.cps.extract k x.cps.size⟩]) _ ⟨_, _, rfl, x'⟩ g' (strs_snoc hS) (by rw [flat_snoc, h1]) (by simp; omega)
        · rw [if_neg hkl]
          have e0 : out k = [] := by
            rw [h1]
            have : k = x.cps.size := by omega
            rw [this]; simp
          exact final _ vs ys _ ⟨_, _, rfl, fun b o _ e => e⟩ hD hS (by rw [e0]; simp) (by omega)
      · rw [ho] at hn; cases hn
    · rcases ho with ⟨ho, _⟩ | ⟨ho, _⟩
      · exact .inr ho
      · exact .inl ho
end
end Mine
end

noncomputable section
open PySem PySem.W PySem.Calls PyProof.Rows
namespace Mine
open PySem.Sre
noncomputable def crlf : List Nat → List Nat
  | [] => []
  | 13 :: 10 :: r => 13 :: 10 :: crlf r
  | c :: r => if c = 10 ∨ c = 13 then 13 :: 10 :: crlf r else c :: crlf r
noncomputable def stuff (b : Bool) : List Nat → List Nat
  | [] => []
  | c :: r => (if b = true ∧ c = 46 then [46, 46] else [c]) ++ stuff (c == 10) r
theorem crlf_pair (r : List Nat) : crlf (13 :: 10 :: r) = 13 :: 10 :: crlf r := by simp [crlf]
theorem crlf_lf (r : List Nat) : crlf (10 :: r) = 13 :: 10 :: crlf r := by simp [crlf]
theorem crlf_cr {r : List Nat} (h : r.head? ≠ some 10) : crlf (13 :: r) = 13 :: 10 :: crlf r := by
  cases r with
  | nil => simp [crlf]
  | cons c r =>
    have : c ≠ 10 := fun e => h (by simp [e])
    rw [crlf]
    · simp
    · intro r' _ e; simp at e; exact this e.1
theorem crlf_other {c : Nat} {r : List Nat} (h : ¬ (c = 10 ∨ c = 13)) : crlf (c :: r) = c :: crlf r := by
  rw [crlf]
  · rw [if_neg h]
  · intro r' e _; exact h (.inr e)
theorem crlf_plain : ∀ (a r : List Nat), (∀ c ∈ a, ¬ (c = 10 ∨ c = 13)) → crlf (a ++ r) = a ++ crlf r
  | [], _, _ => rfl
  | c :: a, r, h => by
    rw [List.cons_append, crlf_other (h c (.head _)), crlf_plain a r fun d hd => h d (.tail _ hd)]
    rfl
theorem stuff_cons (b : Bool) (c : Nat) (r : List Nat) : stuff b (c :: r) = (if b = true ∧ c = 46 then [46, 46] else [c]) ++ stuff (c == 10) r := rfl
theorem stuff_plain : ∀ (a r : List Nat) (b : Bool), (∀ (i : Nat), i < a.length → ¬ ((if i = 0 then b = true else a.getD (i - 1) 0 = 10) ∧ a.getD i 0 = 46)) →
    stuff b (a ++ r) = a ++ stuff (if a = [] then b else (a.getLastD 0 == 10)) r
  | [], _, _, _ => rfl
  | c :: a, r, b, h => by
    have h0 := h 0 (by simp)
    simp only [if_true] at h0
    rw [List.cons_append, stuff_cons]
    rw [if_neg (by simpa using h0), stuff_plain a r (c == 10) (fun i hi => ?_)]
    · cases a with
      | nil => simp
      | cons d a => simp
    · have := h (i + 1) (by simpa using hi)
      cases i with
      | zero => simpa using this
      | succ i => simpa using this
theorem arr_getD (l : List Nat) (p : Nat) : l.toArray.getD p 0 = l.getD p 0 := by simp
theorem extract_to (l : List Nat) (a b : Nat) : (l.toArray.extract a b).toList = (l.drop a).take (b - a) := by simp [List.extract_eq_take_drop]
theorem drop_split (l : List Nat) {a b : Nat} (h : a ≤ b) : l.drop a = (l.drop a).take (b - a) ++ l.drop b := by
  have := List.take_append_drop (b - a) (l.drop a)
  rw [List.drop_drop] at this
  rw [show a + (b - a) = b by omega] at this
  exact this.symm
theorem drop_at {l : List Nat} {p : Nat} (h : p < l.length) : l.drop p = l.getD p 0 :: l.drop (p + 1) := by
  rw [List.drop_eq_getElem_cons h, List.getD_eq_getElem?_getD, List.getElem?_eq_getElem h]; rfl
theorem mem_part {l : List Nat} {a b c : Nat} (h : c ∈ (l.drop a).take (b - a)) : ∃ q, a ≤ q ∧ q < b ∧ q < l.length ∧ l.getD q 0 = c := by
  obtain ⟨i, hi, rfl⟩ := List.getElem_of_mem h
  simp at hi
  refine ⟨a + i, by omega, by omega, by omega, ?_⟩
  simp [List.getElem_take, List.getElem_drop, List.getD_eq_getElem?_getD, List.getElem?_eq_getElem (show a + i < l.length by omega)]
theorem endTo_bounds {text : Array Nat} {p : Nat} (h : p < text.size) : p < endTo text p ∧ endTo text p ≤ text.size := by
  by_cases hc : text.getD p 0 = 13 ∧ p + 1 < text.size ∧ text.getD (p + 1) 0 = 10
  · have e : endTo text p = p + 2 := if_pos hc
    rw [e]; have := hc.2.1; omega
  · have e : endTo text p = p + 1 := if_neg hc
    rw [e]; omega
theorem finds_end (l : List Nat) (hl : l.length ≤ 100000) : Finds codeEnd l.toArray [13, 10] (fun k => crlf (l.drop k)) := by
  intro k hk
  obtain ⟨m', n, hn, hE, ho⟩ := end_search hk
  refine ⟨m', n, by omega, hE, ?_⟩
  simp at hk
  rcases ho with ⟨ho, hq⟩ | ⟨ho, p, p1, p2, p3, p4, p5, p6⟩
  · refine .inl ⟨ho, ?_⟩
    dsimp only
    rw [extract_to]
    have e : (l.drop k).take (l.toArray.size - k) = l.drop k := List.take_of_length_le (by simp)
    rw [e]
    have := crlf_plain (l.drop k) [] fun c hc hcE => by
      obtain ⟨q, h1, h2, h3, h4⟩ := mem_part (l := l) (a := k) (b := l.length) (c := c) (by rw [List.take_of_length_le (by simp)]; exact hc)
      refine hq q h1 (by simpa using h2) ?_
      unfold EndP
      rw [arr_getD, h4]
      exact hcE
    simpa [crlf] using this
  · have p2' : p < l.length := by simpa using p2
    refine .inr ⟨ho, by rw [p5]; exact p1, ?_, ?_, ?_⟩
    · rw [p5, p6]; exact (endTo_bounds p2).1
    · rw [p6]; exact (endTo_bounds p2).2
    · dsimp only
      rw [p5, p6, extract_to, drop_split l p1, List.append_assoc]
      rw [crlf_plain ((l.drop k).take (p - k)) _ (fun c hc hcE => by
        obtain ⟨q, h1, h2, h3, h4⟩ := mem_part hc
        refine p4 q h1 h2 ?_
        unfold EndP
        rw [arr_getD, h4]
        exact hcE)]
      have ht : ((l.drop k).take (p - k) ++ l.drop p).take (p - k) = (l.drop k).take (p - k) := by
        rw [← drop_split l p1]
      rw [ht]
      congr 1
      rw [drop_at p2']
      unfold EndP at p3
      rw [arr_getD] at p3
      unfold endTo
      rw [arr_getD, arr_getD]
      by_cases hc : l.getD p 0 = 13
      · by_cases hd : p + 1 < l.length ∧ l.getD (p + 1) 0 = 10
        · rw [if_pos ⟨hc, by simpa using hd.1, hd.2⟩, hc, drop_at hd.1, hd.2, crlf_pair]
          rfl
        · rw [if_neg (fun e => hd ⟨by simpa using e.2.1, e.2.2⟩), hc, crlf_cr]
          · rfl
          · intro e
            apply hd
            by_cases h1 : p + 1 < l.length
            · rw [drop_at h1] at e
              exact ⟨h1, by simpa using e⟩
            · rw [List.drop_eq_nil_of_le (by omega)] at e; cases e
      · have h10 : l.getD p 0 = 10 := by rcases p3 with h | h; exact h; exact absurd h hc
        rw [if_neg (fun e => hc e.1), h10, crlf_lf]
        rfl

theorem stuff_first {c : Nat} {r : List Nat} {b : Bool} (hb : b = true) (hc : c = 46) : stuff b (c :: r) = [46, 46] ++ stuff false r := by
  subst hb hc
  rfl
theorem finds_dot (l : List Nat) (hl : l.length ≤ 100000) : Finds codeDot l.toArray [46, 46] (fun k => stuff (k == 0 || l.getD (k - 1) 0 == 10) (l.drop k)) := by
  intro k hk
  obtain ⟨m', n, hn, hE, ho⟩ := dot_search hk
  have hk' : k ≤ l.length := by simpa using hk
  have hsz : l.toArray.size = l.length := by simp
  refine ⟨m', n, by omega, hE, ?_⟩
  have plain : ∀ (p : Nat) (r : List Nat), k ≤ p → p ≤ l.length → (∀ q, k ≤ q → q < p → ¬ DotP l.toArray q) →
      stuff (k == 0 || l.getD (k - 1) 0 == 10) ((l.drop k).take (p - k) ++ r) = (l.drop k).take (p - k) ++ stuff (p == 0 || l.getD (p - 1) 0 == 10) r := by
    intro p r h1 h2 h3
    have hlen : ((l.drop k).take (p - k)).length = p - k := by simp; omega
    have hget : ∀ i, i < p - k → ((l.drop k).take (p - k)).getD i 0 = l.getD (k + i) 0 := fun i hi => by
      simp [List.getD_eq_getElem?_getD, List.getElem?_take, hi, List.getElem?_drop]
    rw [stuff_plain]
    · congr 2
      by_cases he : p = k
      · subst he; simp
      · have hne : (l.drop k).take (p - k) ≠ [] := fun e => by rw [e] at hlen; simp at hlen; omega
        rw [if_neg hne]
        have hp0 : (p == 0) = false := by simp; omega
        rw [hp0, Bool.false_or]
        have : ((l.drop k).take (p - k)).getLastD 0 = l.getD (p - 1) 0 := by
          rw [List.getLastD_eq_getLast?, List.getLast?_eq_getElem?, hlen, ← List.getD_eq_getElem?_getD, hget _ (by omega)]
          congr 1; omega
        rw [this]
    · intro i hi hx
      rw [hlen] at hi
      refine h3 (k + i) (by omega) (by omega) ?_
      unfold DotP
      rw [arr_getD, arr_getD]
      rw [hget i hi] at hx
      refine ⟨?_, hx.2⟩
      by_cases hi0 : i = 0
      · have := hx.1
        rw [if_pos hi0] at this
        subst hi0
        simpa using this
      · have := hx.1
        rw [if_neg hi0, hget _ (by omega)] at this
        right
        rw [← this]
        congr 1; omega
  rcases ho with ⟨ho, hq⟩ | ⟨ho, p, p1, p2, p3, p4, p5, p6⟩
  · refine .inl ⟨ho, ?_⟩
    dsimp only
    rw [extract_to, hsz]
    have := plain l.length [] hk' (Nat.le_refl _) (by rw [hsz] at hq; exact hq)
    have e : (l.drop k).take (l.length - k) = l.drop k := List.take_of_length_le (by simp)
    rw [e] at this ⊢
    simpa [stuff] using this
  · rw [hsz] at p2
    refine .inr ⟨ho, by rw [p5]; exact p1, by omega, by omega, ?_⟩
    dsimp only
    rw [p5, p6, extract_to]
    have h1 := plain p (l.drop p) p1 (by omega) p4
    rw [← drop_split l p1] at h1
    rw [h1, drop_at p2, List.append_assoc]
    congr 1
    unfold DotP at p3
    rw [arr_getD, arr_getD] at p3
    rw [stuff_first (by simpa using p3.1) p3.2]
    have : (p + 1 == 0 || l.getD (p + 1 - 1) 0 == 10) = false := by
      rw [Nat.add_sub_cancel, p3.2]; simp
    rw [this]
end Mine
end

noncomputable section
open PySem PySem.W PySem.Calls PyProof.Rows
namespace Mine
open PySem.Sre
set_option maxRecDepth 100000
theorem plainAttrs_pat : PlainAttrs "re.Pattern" :=
  ⟨⟨"object.__getattribute__", by rw [typeLookup_type, builtinLookup_eq_fast]; kernel_rfl, by decide +kernel⟩, by rw [typeLookup_type, builtinLookup_eq_fast]; kernel_rfl⟩
theorem type_re_sub : typeOf (.builtin "re.Pattern.sub") = pure (.type "method_descriptor") := by show builtinType _ = _; rw [builtinType_eq_fast]; kernel_rfl
theorem owner_pat : Manifest.owners.lookup (String.ofList ['n', 'r', 'e', 't', 't', 'a', 'P', '.', 'e', 'r'].reverse) = some Manifest.sig_re_Pattern := by kernel_rfl
theorem args_re_sub (a b c : Value) : argsOk "re.Pattern.sub" ⟨[a, b, c], []⟩ := by
  unfold argsOk; rw [signature?_of (id := "re.Pattern.sub") (n := ['b', 'u', 's']) (o := ['n', 'r', 'e', 't', 't', 'a', 'P', '.', 'e', 'r']) (by kernel_rfl) owner_pat]; kernel_rfl
theorem str_no_call : typeLookup (.type "str") "__call__" = pure none := by rw [typeLookup_type, builtinLookup_eq_fast]; kernel_rfl
section
variable {prog : Program} {w : World} {A : Around} {E : Value → Shared → Prop} {s : Shared}
theorem sub_call {P : Addr} {code : Array Nat} {x r : Str} {tx tr : Tok} {out : Nat → List Nat} {Q : Value → Shared → Prop} (hT : s.TypeIs (.ref P) "re.Pattern") (hf : Finds code x.cps r.cps.toList out) (hx : x.cps.size ≤ 100000)
    (hr : r.cps.contains 92 = false) (hP : PatAt s.heap P code) (hK : ∀ h', (∀ b o, s.heap.get? b = some o → h'.get? b = some o) → PatAt h' P code) (hlen : (out 0).length ≤ 1000000)
    (h : ∀ h' tk' t', (∀ b o, s.heap.get? b = some o → h'.get? b = some o) → Q (.str (txt (out 0)) t') { s with heap := h', toks := tk' }) :
    wpAny (model prog w) A (call (.builtin "re.Pattern.sub") [.ref P, .str r tr, .str x tx]) Q E s := by
  refine wpAny_call (codeAny_call_builtin slot_re_sub.plain entry_sub (slot_re_sub.check _ _ _ _ _ _ _ _ hT (args_re_sub _ _ _) ?_))
  unfold Builtin.«re.Pattern.sub» Builtin.Re.reSubstitute
  dsimp only
  refine wpAny_bind (wpAny_of_eq (a := [some (Value.str r tr), some (Value.str x tx), none]) (by first | rfl | kernel_rfl!) ?_)
  dsimp only
  refine wpAny_bind (wpAny_pure ?_)
  refine wpAny_bind (wpAny_specialOf (typeIs_str _ _ _) str_no_call ?_)
  rw [if_neg (by decide)]
  refine wpAny_bind (wpAny_pure ?_)
  dsimp only
  refine wpAny_bind (wpAny_pure ?_)
  rw [if_neg (by decide), if_pos (by rw [hr]; rfl)]
  refine wpAny_bind (wpAny_pure ?_)
  refine wpAny_bind (wpAny_holding (whole_target hP ?_))
  dsimp only
  rw [if_neg (by decide)]
  refine wpAny_bind (wpAny_newList ?_ (by decide))
  obtain ⟨oP, hoP, hcP⟩ := hT
  have hPlt := Heap.lt_size hoP
  have hpush : ∀ b o, s.heap.get? b = some o → (s.heap.push { cls := .type "list", data := .seq ([] : List Value).toArray }).get? b = some o := fun b o e => Heap.get?_push_of_some _ e
  have hsome : ∀ h' : Heap, Heap.ExtBut s.heap.objs.size (s.heap.push { cls := .type "list", data := .seq ([] : List Value).toArray }) h' → ∀ b o, s.heap.get? b = some o → h'.get? b = some o := fun h' hx b o e =>
    hx b o (Nat.ne_of_lt (Heap.lt_size e)) (hpush b o e)
  refine wpAny_pure ⟨Code.quiet_builtin _ (by decide +kernel), ?_⟩
  refine sub_loop hf hx (x.cps.size + 1) 0 _ [] [] _ tx 0 0 0 ?_ ?_ (hK _ hpush) (Heap.get?_push_size _ rfl) .nil ?_ ?_ ?_ ?_ ?_ ?_
  · omega
  · omega
  · simp
  · exact Nat.ne_of_gt hPlt
  · exact fun h' hx => hK _ (hsome h' hx)
  · simpa [flat] using hlen
  · rfl
  · intro h' tk' t' vs' n' hx hg
    have := h h' tk' t' (hsome h' hx)
    simpa [flat] using this
theorem sub_K {P : Addr} {code : Array Nat} {x r : Str} {tx tr : Tok} {out : Nat → List Nat} {Q : Value → Shared → Prop} {h₀ : Heap} {L : Addr} {m : Str → Option Value} {news : List (Addr × Obj)} (F : Fr h₀ L s.heap m) (N : News h₀ L s.heap news)
    (hT : ∃ o, h₀.get? P = some o ∧ o.cls = .type "re.Pattern") (hf : Finds code x.cps r.cps.toList out) (hx : x.cps.size ≤ 100000)
    (hr : r.cps.contains 92 = false) (hP : PatAt h₀ P code) (hlen : (out 0).length ≤ 1000000)
    (h : ∀ h' tk' t', Fr h₀ L h' m → News h₀ L h' news → Q (.str (txt (out 0)) t') { s with heap := h', toks := tk' }) :
    wpAny (model prog w) A (call (.builtin "re.Pattern.sub") [.ref P, .str r tr, .str x tx]) Q E s := by
  obtain ⟨o, ho, hc⟩ := hT
  have keep : ∀ h' : Heap, (∀ b o, h₀.get? b = some o → h'.get? b = some o) → PatAt h' P code := fun h' k => by
    obtain ⟨o, fs, c, oc, its, n, h1, h2, h3, h4, h5, h6, h7, h8⟩ := hP
    exact ⟨o, fs, c, oc, its, n, k _ _ h1, h2, h3, h4, h5, k _ _ h6, h7, h8⟩
  refine sub_call ⟨o, F.keep _ _ ho, hc⟩ hf hx hr (keep _ F.keep) (fun h' k => keep _ fun b o e => k _ _ (F.keep _ _ e)) hlen fun h' tk' t' k => ?_
  exact h h' tk' t' (F.keeps k) fun p hp => ⟨k _ _ (N p hp).1, (N p hp).2⟩
end
end Mine
end

noncomputable section
open PySem PySem.W PySem.Calls PyProof.Rows
set_option maxRecDepth 100000
namespace Mine
section
variable {prog : Program} {w : World} {A : Around} {E : Value → Shared → Prop} {s : Shared}
end
theorem in_ws_eq (c : Nat) : (!(Builtin.Str.occurrences (Str.ofString "\n\t\r ") (txt [c]) 0 (Str.ofString "\n\t\r ").length 1).isEmpty) = ws c := by
  have e := StrLaws.found_one (Str.ofString "\n\t\r ") c
  have e2 : (txt [c]) = ⟨#[c]⟩ := rfl
  rw [e2, e]
  show decide (c ∈ [10, 9, 13, 32]) = ws c
  unfold ws
  by_cases h1 : c = 10 <;> by_cases h2 : c = 9 <;> by_cases h3 : c = 13 <;> by_cases h4 : c = 32 <;> simp [h1, h2, h3, h4]
theorem nls_nil : nls [] = 0 := rfl
theorem SignsAre.tl {vs : List Value} {c : Nat} {r : List Nat} (h : SignsAre vs (c :: r)) : SignsAre vs.tail r := by
  cases h with
  | cons c t h => exact h
theorem txt_one_eq (c d : Nat) : (txt [c] == txt [d]) = (c == d) := by
  by_cases h : c = d
  · subst h; simp
  · have : txt [c] ≠ txt [d] := fun e => h (by simpa using congrArg (fun x : Str => x.cps.toList) e)
    rw [beq_false_of_ne this, beq_false_of_ne h]
theorem txt_append (a b : List Nat) : txt a ++ txt b = txt (a ++ b) := by
  show (⟨a.toArray ++ b.toArray⟩ : Str) = ⟨(a ++ b).toArray⟩
  simp
theorem word_ws {c : Nat} {r : List Nat} (h : ws c = true) : word (c :: r) = word r := by rw [word.eq_def]; simp [h]
theorem word_34 {r : List Nat} : word (34 :: r) = quoted [] r := by rw [word.eq_def]; rfl
theorem word_92 {r : List Nat} : word (92 :: r) = (match r with | [] => ([], []) | d :: r' => bare [d] r') := by rw [word.eq_def]; rfl
theorem word_c {c : Nat} {r : List Nat} (h : ws c = false) (h1 : c ≠ 34) (h2 : c ≠ 92) : word (c :: r) = bare [c] r := by rw [word.eq_def]; simp [h, h1, h2]
theorem quoted_34 {acc r : List Nat} : quoted acc (34 :: r) = (acc, r) := by rw [quoted.eq_def]; rfl
theorem quoted_92 {acc r : List Nat} : quoted acc (92 :: r) = (match r with | [] => (acc, []) | d :: r' => quoted (acc ++ [d]) r') := by rw [quoted.eq_def]; rfl
theorem quoted_c {c : Nat} {acc r : List Nat} (h1 : c ≠ 34) (h2 : c ≠ 92) : quoted acc (c :: r) = quoted (acc ++ [c]) r := by rw [quoted.eq_def]; simp [h1, h2]
theorem quoted_nil {acc : List Nat} : quoted acc [] = (acc, []) := by rw [quoted.eq_def]
theorem bare_ws {c : Nat} {acc r : List Nat} (h : ws c = true) : bare acc (c :: r) = (acc, r) := by rw [bare.eq_def]; simp [h]
theorem bare_92 {acc r : List Nat} : bare acc (92 :: r) = (match r with | [] => (acc, []) | d :: r' => bare (acc ++ [d]) r') := by rw [bare.eq_def]; rfl
theorem bare_c {c : Nat} {acc r : List Nat} (h : ws c = false) (h2 : c ≠ 92) : bare acc (c :: r) = bare (acc ++ [c]) r := by rw [bare.eq_def]; simp [h, h2]
theorem bare_nil {acc : List Nat} : bare acc [] = (acc, []) := by rw [bare.eq_def]
theorem word_nil : word [] = ([], []) := by rw [word.eq_def]
theorem quoted_esc {acc r : List Nat} : quoted acc (92 :: r) = quoted (acc ++ r.take 1) r.tail := by
  rw [quoted_92]
  cases r with
  | nil => rw [show ([] : List Nat).tail = [] from rfl, quoted_nil]; simp
  | cons d r => rfl
theorem bare_esc {acc r : List Nat} : bare acc (92 :: r) = bare (acc ++ r.take 1) r.tail := by
  rw [bare_92]
  cases r with
  | nil => rw [show ([] : List Nat).tail = [] from rfl, bare_nil]; simp
  | cons d r => rfl
theorem word_esc {r : List Nat} : word (92 :: r) = bare (r.take 1) r.tail := by
  rw [word_92]
  cases r with
  | nil => rw [show ([] : List Nat).tail = [] from rfl, bare_nil]; rfl
  | cons d r => rfl
theorem txt_is34 (c : Nat) : (txt [c] == Str.ofString "\"") = (c == 34) := txt_one_eq c 34
theorem txt_is92 (c : Nat) : (txt [c] == Str.ofString "\\") = (c == 92) := txt_one_eq c 92
end Mine
end

noncomputable section
open PySem PySem.W PySem.Calls PyProof.Rows
set_option maxRecDepth 100000
namespace Mine
section
variable {prog : Program} {w : World} {A : Around} {E : Value → Shared → Prop} {s : Shared}
theorem loopStr {env : Env} {h₀ : Heap} {x : Str} {body : List Stmt} {Q : Flow → Shared → Prop} {l : List Nat} {tx : Tok} {m₀ : Str → Option Value} {news : List (Addr × Obj)} (hh : A.handled = none)
    (F : Fr h₀ env.locals s.heap m₀) (N : News h₀ env.locals s.heap news)
    (J : Nat → (Str → Option Value) → List (Addr × Obj) → Prop) (hj : J 0 m₀ news)
    (turn : ∀ i c u m₁ news₁ h tk own (kn : Shared → Prop), l[i]? = some c → J i m₁ news₁ → Fr h₀ env.locals h (fun y => if y = x then some (.str (txt [c]) u) else m₁ y) → News h₀ env.locals h (news₁ ++ own) → (∀ q ∈ news₁, ∀ p ∈ own, p.1 ≠ q.1) →
      (∀ h' tk' m' news', Fr h₀ env.locals h' m' → News h₀ env.locals h' (news' ++ own) → (∀ q ∈ news', ∀ p ∈ own, p.1 ≠ q.1) → J (i + 1) m' news' → kn { s with heap := h', toks := tk' }) →
      wpAny (model prog w) A (execs body env) (fun f s₂ => match f with | .ret v => Q (.ret v) s₂ | .brk => Q .next s₂ | _ => kn s₂) E { s with heap := h, toks := tk })
    (done : ∀ h tk m₁ news₁, J l.length m₁ news₁ → Fr h₀ env.locals h m₁ → News h₀ env.locals h news₁ → Q .next { s with heap := h, toks := tk }) :
    wpAny (model prog w) A (pyIter (.str (txt l) tx)) (fun it s₂ => LoopAtV prog w A h₀ env x body Q E it s₂) E s := by
  have key : ∀ (T : String) (o : Obj), Walks prog w A s.heap.objs.size [s.heap.objs.size] [s.heap.objs.size] (txt l).cps.size (SignAt (txt l)) (fun i h => h.IsStrIter s.heap.objs.size T (txt l) tx i) → (s.heap.push o).IsStrIter s.heap.objs.size T (txt l) tx 0 →
      LoopAtV prog w A h₀ env x body Q E (.ref s.heap.objs.size) { s with heap := s.heap.push o } := by
    intro T o W hst
    have hL := F.ns.lt
    have hfr : h₀.get? s.heap.objs.size = none := Heap.get?_none_of_le (Nat.le_trans F.above (Nat.le_of_lt hL))
    refine loopAt (news := news) (s := { s with heap := s.heap.push o }) W ?_ ?_ hfr ?_ hst (F.push _) (fun p hp => ⟨Heap.get?_push_of_some _ (N p hp).1, (N p hp).2⟩) J hj ?_ ?_
    · rintro i h ⟨o', ho', _⟩ b hb
      rw [List.mem_singleton.mp hb]; exact ⟨_, ho'⟩
    · intro hm
      exact absurd hL ((List.mem_singleton.mp hm) ▸ Nat.lt_irrefl _)
    · intro q hq hm
      exact absurd (Heap.lt_size (N q hq).1) ((List.mem_singleton.mp hm) ▸ Nat.lt_irrefl _)
    · rintro i v m₁ news₁ h tk own kn hin ⟨c, u, hc, rfl⟩ hJ F₁ N₁ hsep hkn
      exact turn i c u m₁ news₁ h tk own kn (by simpa using hc) hJ F₁ N₁ hsep hkn
    · intro h tk m₁ news₁ hJ F₁ N₁
      exact done h tk m₁ news₁ (by simpa using hJ) F₁ N₁
  cases ha : (txt l).cps.all (· < 128)
  · exact wpAny_pyIter_wide ha (key "str_iterator" _ (Walks.strWide hh _ (txt l) tx) ⟨_, Heap.get?_push_size _ rfl, rfl, rfl⟩)
  · exact wpAny_pyIter_ascii ha (key "str_ascii_iterator" _ (Walks.strAscii hh _ (txt l) tx) ⟨_, Heap.get?_push_size _ rfl, rfl, rfl⟩)
theorem loopRange {env : Env} {h₀ : Heap} {x : Str} {body : List Stmt} {Q : Flow → Shared → Prop} {r : Addr} {a b : Nat} {t u v : Tok} {m₀ : Str → Option Value} {news : List (Addr × Obj)} (hh : A.handled = none)
    (ha : a ≤ 1000000000) (hb : b ≤ 1000000000) (hr : IsRange s.heap r (a : Int) (b : Int) 1 t u v) (F : Fr h₀ env.locals s.heap m₀) (N : News h₀ env.locals s.heap news)
    (J : Nat → (Str → Option Value) → List (Addr × Obj) → Prop) (hj : J 0 m₀ news)
    (turn : ∀ i u m₁ news₁ h tk own (kn : Shared → Prop), i < b - a → J i m₁ news₁ → Fr h₀ env.locals h (fun y => if y = x then some (.int ((a + i : Nat) : Int) u) else m₁ y) → News h₀ env.locals h (news₁ ++ own) → (∀ q ∈ news₁, ∀ p ∈ own, p.1 ≠ q.1) →
      (∀ h' tk' m' news', Fr h₀ env.locals h' m' → News h₀ env.locals h' (news' ++ own) → (∀ q ∈ news', ∀ p ∈ own, p.1 ≠ q.1) → J (i + 1) m' news' → kn { s with heap := h', toks := tk' }) →
      wpAny (model prog w) A (execs body env) (fun f s₂ => match f with | .ret v => Q (.ret v) s₂ | .brk => Q .next s₂ | _ => kn s₂) E { s with heap := h, toks := tk })
    (done : ∀ h tk m₁ news₁, J (b - a) m₁ news₁ → Fr h₀ env.locals h m₁ → News h₀ env.locals h news₁ → Q .next { s with heap := h, toks := tk }) :
    wpAny (model prog w) A (pyIter (.ref r)) (fun it s₂ => LoopAtV prog w A h₀ env x body Q E it s₂) E s := by
  have hsz : Builtin.Range.rangeSize (a : Int) (b : Int) 1 = ((b - a : Nat) : Int) := by
    unfold Builtin.Range.rangeSize
    split <;> (try split) <;> omega
  refine wpAny_pyIter_range hr (small_one (by omega) (by omega) (by omega) (by omega)) ?_
  rw [hsz]
  have hL := F.ns.lt
  have hfr : h₀.get? s.heap.objs.size = none := Heap.get?_none_of_le (Nat.le_trans F.above (Nat.le_of_lt hL))
  refine loopAt (news := news) (s := { s with heap := s.heap.push _ }) (Walks.range hh s.heap.objs.size (a : Int) 1 (b - a)) ?_ ?_ hfr ?_ (by show IsRangeIter _ _ _ _ _; simpa using Heap.get?_push_size _ rfl) (F.push _) (fun p hp => ⟨Heap.get?_push_of_some _ (N p hp).1, (N p hp).2⟩) J hj ?_ ?_
  · rintro i h ho b hb
    rw [List.mem_singleton.mp hb]; exact ⟨_, ho⟩
  · intro hm
    exact absurd hL ((List.mem_singleton.mp hm) ▸ Nat.lt_irrefl _)
  · intro q hq hm
    exact absurd (Heap.lt_size (N q hq).1) ((List.mem_singleton.mp hm) ▸ Nat.lt_irrefl _)
  · rintro i v m₁ news₁ h tk own kn hin ⟨t, rfl⟩ hJ F₁ N₁ hsep hkn
    have e : (a : Int) + (i : Int) * 1 = ((a + i : Nat) : Int) := by omega
    rw [e] at F₁
    exact turn i t m₁ news₁ h tk own kn hin hJ F₁ N₁ hsep hkn
  · intro h tk m₁ news₁ hJ F₁ N₁
    exact done h tk m₁ news₁ hJ F₁ N₁
end
end Mine
end

noncomputable section
open PySem PySem.W PySem.Calls PyProof.Rows
namespace Mine
open LCg
section
variable {prog : Program} {w : World} {A : Around} {s : Shared} {h₀ : Heap} {L : Addr} {m : Str → Option Value} {env : Env}
theorem comp_inv {elt : PySem.Expr} {x : Str} {scope : Scope} {cl : List (Str × Addr)} {S : List (Addr × Obj) → Prop} {P : Nat → Value → Prop} {Fin : List Value → List (Addr × Obj) → Prop} {n : Nat}
    (J : Nat → List Value → List (Addr × Obj) → Prop)
    (turn : ∀ i ys news v I oI C oC D m₂ h tk (E' : Value → Shared → Prop), i < n → J i ys news → P i v → NsObj oC m₂ → m₂ x = some v → Fr h₀ L h m → News h₀ L h ((I, oI) :: (C, oC) :: (D, lst ys) :: news) → Off3 I C D news → ((@Ne Nat I C) ∧ (@Ne Nat I D) ∧ (@Ne Nat C D)) →
      wpAny (model prog w) A (eval elt (compEnvC scope cl C env)) (CompEnd h₀ L m { s with heap := h, toks := tk } I oI C oC D (lst ys) S (fun y news' => J (i + 1) (ys ++ [y]) news')) E' { s with heap := h, toks := tk })
    (done : ∀ ys news, J n ys news → Fin ys news) :
    ∀ (k i : Nat) (ys : List Value) (news : List (Addr × Obj)), i + k = n → J i ys news → CompRest prog w A h₀ L m env elt x scope cl s S P Fin k i ys news := by
  intro k
  induction k with
  | zero => intro i ys news e hj; obtain rfl : i = n := e; exact done ys news hj
  | succ k ih =>
    intro i ys news e hj v I oI C oC D m₂ h tk E' hP hC hx F N off hne
    refine wpAny_mono (turn i ys news v I oI C oC D m₂ h tk E' (by omega) hj hP hC hx F N off hne) (fun y s₂ z => ?_) fun _ _ z => z
    obtain ⟨h', tk', news', e1, F', N', off', hS, r⟩ := z
    exact ⟨h', tk', news', e1, F', N', off', hS, ih (i + 1) _ _ (by omega) r⟩
end
section
variable {prog : Program} {w : World} {A : Around} {E : Value → Shared → Prop} {s : Shared}
end
noncomputable def swapSign (c e : Nat) (l : List Nat) : List Nat := l.map fun k => if k = c then e else k
theorem swap_append (c e : Nat) (a b : List Nat) : swapSign c e (a ++ b) = swapSign c e a ++ swapSign c e b := List.map_append
theorem swap_free (c e : Nat) (l : List Nat) (h : c ∉ l) : swapSign c e l = l := by
  unfold swapSign
  conv => rhs; rw [← List.map_id l]
  exact List.map_congr_left fun k hk => if_neg fun (e : k = c) => h (e ▸ hk)
theorem swap_join (c e : Nat) : ∀ parts : List Str, (∀ p ∈ parts, c ∉ p.cps.toList) → swapSign c e (Str.join ⟨#[c]⟩ parts).cps.toList = (Str.join ⟨#[e]⟩ parts).cps.toList
  | [], _ => rfl
  | [p], h => swap_free c e _ (h p (List.mem_singleton.mpr rfl))
  | p :: q :: r, h => by
    have ih := swap_join c e (q :: r) fun a ha => h a (List.mem_cons_of_mem _ ha)
    show swapSign c e (p ++ ⟨#[c]⟩ ++ Str.join ⟨#[c]⟩ (q :: r)).cps.toList = (p ++ ⟨#[e]⟩ ++ Str.join ⟨#[e]⟩ (q :: r)).cps.toList
    simp only [Str.cps_append, Array.toList_append]
    rw [swap_append, swap_append, ih, swap_free c e _ (h p (List.mem_cons_self ..))]
    show p.cps.toList ++ swapSign c e [c] ++ _ = _
    have : swapSign c e [c] = [e] := by simp [swapSign]
    rw [this]
theorem replace_sign (x : Str) (c e : Nat) : Txt.replace x ⟨#[c]⟩ ⟨#[e]⟩ = txt (swapSign c e x.cps.toList) := by
  have h : (Txt.replace x ⟨#[c]⟩ ⟨#[e]⟩).cps.toList = swapSign c e x.cps.toList := by
    rw [StrLaws.replace_one, ← swap_join c e _ (StrLaws.split_free x c), StrLaws.join_split]
  cases hr : Txt.replace x ⟨#[c]⟩ ⟨#[e]⟩ with
  | mk a => rw [hr] at h; show (⟨a⟩ : Str) = ⟨(swapSign c e x.cps.toList).toArray⟩; rw [← h]
end Mine
end

noncomputable section
open PySem PySem.W PySem.Calls PyProof.Rows
namespace Mine
open LCg
section
variable {prog : Program} {w : World} {A : Around} {s : Shared} {h₀ : Heap} {L : Addr} {m : Str → Option Value} {env : Env} {E : Value → Shared → Prop}
noncomputable def CompTurn (prog : Program) (w : World) (A : Around) (h₀ : Heap) (L : Addr) (m : Str → Option Value) (env : Env) (elt : PySem.Expr) (x : Str) (scope : Scope) (cl : List (Str × Addr)) (s : Shared) (a : Int) (n : Nat) (J : Nat → List Value → List (Addr × Obj) → Prop) : Prop :=
  ∀ i ys news ti I oI C oC D m₂ h tk (E' : Value → Shared → Prop), i < n → J i ys news → NsObj oC m₂ → m₂ x = some (.int (a + (i : Int)) ti) → 0 < tk → Fr h₀ L h m → News h₀ L h ((I, oI) :: (C, oC) :: (D, lst ys) :: news) → Off3 I C D news → ((@Ne Nat I C) ∧ (@Ne Nat I D) ∧ (@Ne Nat C D)) →
    wpAny (model prog w) A (eval elt (compEnvC scope cl C env)) (CompEnd h₀ L m { s with heap := h, toks := tk } I oI C oC D (lst ys) (fun _ => True) (fun y news' => J (i + 1) (ys ++ [y]) news')) E' { s with heap := h, toks := tk }

inductive RangeAt (h₀ : Heap) (L : Addr) (m : Str → Option Value) (I C D : Addr) (a : Int) (n : Nat) (J : Nat → List Value → List (Addr × Obj) → Prop) (s : Shared) (k : Nat) : Shared → Prop
  | mk (h : Heap) (tk i : Nat) (ys : List Value) (m' : Str → Option Value) (news' : List (Addr × Obj)) (hk : i + k = n + 1) (hin : i ≤ n) (hyl : ys.length = i) (hI : IsRangeIter h I (a + (i : Int)) ((n : Int) - (i : Int)) 1) (F : Fr h₀ L h m) (hC : h.Ns C m') (N : News h₀ L h ((D, lst ys) :: news')) (off : Off3 I C D news') (hJ : J i ys news') : RangeAt h₀ L m I C D a n J s k { s with heap := h, toks := tk }
theorem comp_loop {elt iter : PySem.Expr} {x : Str} {px : Pos} {scope : Scope} {cl : List (Str × Addr)} {pos : Pos} {a : Int} {n : Nat} {J : Nat → List Value → List (Addr × Obj) → Prop} {I C D : Addr} {R : Result → Shared → Prop} {news : List (Addr × Obj)} {m₁ : Str → Option Value}
    (hh : A.handled = none) (hkind : scope.kind = .function) (hx : scope.names.lookup x = some .local) (hsz : n ≤ sizeLine)
    (hI : IsRangeIter s.heap I a (n : Int) 1) (F : Fr h₀ L s.heap m) (hC : s.heap.Ns C m₁) (N : News h₀ L s.heap ((D, lst []) :: news)) (off : Off3 I C D news)
    (hIC : I ≠ C) (hID : I ≠ D) (hCD : C ≠ D) (hIL : L ≠ I) (hCL : C ≠ L) (hI₀ : h₀.get? I = none) (hC₀ : h₀.get? C = none) (hJ : J 0 [] news)
    (turn : CompTurn prog w A h₀ L m env elt x scope cl s a n J)
    (done : ∀ h tk m' ys news', Fr h₀ L h m → News h₀ L h ((D, lst ys) :: news') → Off3 I C D news' → h.Ns C m' → J n ys news' → R (.ok .next) { s with heap := h, toks := tk }) :
    codeAny (model prog w) A (.compLoop (.ListComp elt [⟨.Name x px, iter, [], 0⟩] scope pos) 0 (.ref I) (.ref D) (compEnvC scope cl C env)) R s := by
  have hDL : D ≠ L := (N _ (.head _)).2.1
  have hD₀ : h₀.get? D = none := (N _ (.head _)).2.2
  refine codeAny_compLoop_tests (RangeAt h₀ L m I C D a n J s)
    ?_ (n + 1) (.mk s.heap s.toks 0 [] m₁ news (Nat.zero_add _) (Nat.zero_le _) rfl (by simpa using hI) F hC N off hJ)
  rintro k s' ⟨h, tk, i, ys, m', news', hk, hin, hyl, hI, F, hC, N, off, hJ⟩
  have o3 := off.mem
  rcases Nat.lt_or_ge i n with hlt | hge
  · refine wpAny_pyNext_range_item hI (by omega) fun h₂ hI₂ hs₂ => ?_
    have F₂ : Fr h₀ L h₂ m := F.change hs₂ (Ne.symm hIL) hI₀
    have N₂ : News h₀ L h₂ ((D, lst ys) :: news') := fun p hp => by
      refine ⟨hs₂.extBut _ _ ?_ (N p hp).1, (N p hp).2⟩
      rcases List.mem_cons.mp hp with rfl | hp
      · exact Ne.symm hID
      · exact (o3 p hp).1
    refine wpAny_assign_Name (wpAny_storeName_local (lookup_relabel_local hx) (hC.at' fun o e => hs₂.extBut C o (Ne.symm hIC) e) (fun h₃ hn₃ hs₃ => ?_) (by simp [compEnvC, relabel, hkind]))
    refine wpAny_tests_nil ?_
    rw [if_pos rfl]
    have hs₃' : Heap.SameBut C h₂ h₃ := hs₃
    have hn₃' : h₃.Ns C (fun y => if y = x then some (.int (a + (i : Int)) tk) else m' y) := hn₃
    have F₃ : Fr h₀ L h₃ m := F₂.change hs₃' hCL hC₀
    have I₃ : h₃.get? I = some _ := hs₃'.extBut I _ hIC hI₂
    obtain ⟨oC, heC, hoC⟩ := ns_obj hn₃'
    have N₃ : News h₀ L h₃ ((I, _) :: (C, oC) :: (D, lst ys) :: news') := fun p hp => by
      rcases List.mem_cons.mp hp with rfl | hp
      · exact ⟨I₃, Ne.symm hIL, hI₀⟩
      rcases List.mem_cons.mp hp with rfl | hp
      · exact ⟨heC, hCL, hC₀⟩
      refine ⟨hs₃'.extBut _ _ ?_ (N₂ p hp).1, (N₂ p hp).2⟩
      rcases List.mem_cons.mp hp with rfl | hp
      · exact Ne.symm hCD
      · exact (o3 p hp).2.1
    refine wpAny_mono (turn i ys news' tk I _ C oC D _ h₃ _ _ hlt hJ hoC (by simp) (Nat.succ_pos _) F₃ N₃ off ⟨hIC, hID, hCD⟩) (fun y s₄ z => ?_) fun _ _ e => e
    obtain ⟨h₄, tk₄, news₄, rfl, F₄, N₄, off₄, _, hJ₄⟩ := z
    have o4 := off₄.mem
    refine append_at (hsz := by show ys.toArray.size ≤ sizeLine; rw [List.size_toArray, hyl]; omega) (N₄ _ (.tail _ (.tail _ (.head _)))).1 fun h₅ hs₅ hD₅ => ?_
    have I₅ : h₅.get? I = some _ := hs₅.extBut I _ hID (N₄ _ (.head _)).1
    refine ⟨k - 1, by omega, .mk h₅ tk₄ (i + 1) (ys ++ [y]) _ news₄ (by omega) hlt (by simp [hyl]) ?_ (F₄.change hs₅ hDL hD₀) ((hoC.ns (N₄ _ (.tail _ (.head _))).1).sameBut hs₅ (Ne.symm (Ne.symm hCD))) (fun p hp => ?_) off₄ hJ₄⟩
    · have e1 : a + (i : Int) + 1 = a + ((i + 1 : Nat) : Int) := by omega
      have e2 : (n : Int) - (i : Int) - 1 = (n : Int) - ((i + 1 : Nat) : Int) := by omega
      show h₅.get? I = _
      rw [I₅, e1, e2]
    · rcases List.mem_cons.mp hp with rfl | hp
      · exact ⟨hD₅.trans (congrArg some (lst_snoc ys y)), hDL, hD₀⟩
      · have q := N₄ p (.tail _ (.tail _ (.tail _ hp)))
        exact ⟨hs₅.extBut _ _ (o4 p hp).2.2 q.1, q.2⟩
  · obtain rfl : i = n := Nat.le_antisymm hin hge
    refine wpAny_pyNext_range_end hh hI (by omega) fun h₂ hx₂ => ?_
    refine done h₂ tk m' ys news' ⟨F.ns.extBut hx₂ hIL, fun b o e => hx₂ b o (fun hb => by rw [hb, hI₀] at e; cases e) (F.keep b o e), F.above⟩ (fun p hp => ?_) off (hC.at' fun o e => hx₂ C o (Ne.symm hIC) e) hJ
    refine ⟨hx₂ _ _ ?_ (N p hp).1, (N p hp).2⟩
    rcases List.mem_cons.mp hp with rfl | hp
    · exact Ne.symm hID
    · exact (o3 p hp).1
noncomputable def RangeSrc (prog : Program) (w : World) (A : Around) (h₀ : Heap) (L : Addr) (m : Str → Option Value) (env : Env) (elt : PySem.Expr) (x : Str) (scope : Scope) (cl : List (Str × Addr)) (Fin : Shared → List Value → List (Addr × Obj) → Prop) (xv : Value) (s₁ : Shared) : Prop :=
  ∃ (r : Addr) (a b n : Nat) (t u v : Tok) (news : List (Addr × Obj)) (J : Nat → List Value → List (Addr × Obj) → Prop), xv = .ref r ∧ A.handled = none ∧ Fr h₀ L s₁.heap m ∧ News h₀ L s₁.heap news ∧ IsRange s₁.heap r (a : Int) (b : Int) 1 t u v ∧ b ≤ 1000000 ∧ a + n = b ∧ J 0 [] news ∧
    CompTurn prog w A h₀ L m env elt x scope cl s₁ a n J ∧ ∀ ys news', J n ys news' → Fin s₁ ys news'
theorem comp_range {elt iter : PySem.Expr} {x : Str} {px : Pos} {scope : Scope} {cl : List (Str × Addr)} {pos : Pos} {Q : Value → Shared → Prop} (_F : Fr h₀ L s.heap m)
    (hclos : closureFor scope env = pure cl) (hcell : ∀ y ∈ scope.names, y.2 ≠ .cell) (hkind : scope.kind = .function)
    (hnames : ∀ y ∈ scope.names, y.2 = .local → scope.names.lookup y.1 = some .local) (hx : scope.names.lookup x = some .local)
    (h : wpAny (model prog w) A (eval iter env) (RangeSrc prog w A h₀ L m env elt x scope cl (fun s₂ => FinE h₀ L m s₂ Q)) E s)
    (hs : ∀ x, foldedSetIterable iter env x = pure x := by intro _; rfl) :
    wpAny (model prog w) A (eval (.ListComp elt [⟨.Name x px, iter, [], 0⟩] scope pos) env) Q E s := by
  rw [eval_ListComp]
  refine wpAny_comprehension_free (use := none) rfl hs hclos hkind hnames (wpAny_mono h (fun xv s₁ h₁ => ?_) fun _ _ e => e)
  obtain ⟨r, a, b, n, t, u, v, news, J, rfl, hh, F, N, hr, hb, han, hJ, turn, fin⟩ := h₁
  have hrs : Builtin.Range.rangeSize (a : Int) (b : Int) 1 = (n : Int) := by
    rw [rangeSize_one]; split <;> omega
  refine wpAny_pyIter_range hr (small_one (by omega) (by omega) (by omega) (by omega)) ?_
  rw [hrs]
  generalize hH1 : s₁.heap.push { cls := .type "range_iterator", data := .fields #[rawInt (a : Int), rawInt (n : Int), rawInt 1] } = H1
  have g1 : H1.get? s₁.heap.objs.size = some { cls := .type "range_iterator", data := .fields #[rawInt (a : Int), rawInt (n : Int), rawInt 1] } := hH1 ▸ Heap.get?_push_size _ rfl
  have k1 : ∀ b o, s₁.heap.get? b = some o → H1.get? b = some o := fun b o e => hH1 ▸ Heap.get?_push_of_some _ e
  have z1 : H1.objs.size = s₁.heap.objs.size + 1 := by rw [← hH1, Heap.size_push]
  refine wpAny_newObj_type (wpAny_newFunctionEnv hcell (by intro y hy; simp at hy) (fun h₃ hns₃ hsb₃ => ?_) hkind)
  dsimp only at hns₃ hsb₃ ⊢
  generalize hH2 : H1.push { cls := .type "list", dict := none, data := .seq ([] : List Value).toArray } = H2 at hns₃ hsb₃ ⊢
  have g2 : H2.get? H1.objs.size = some (lst []) := hH2 ▸ Heap.get?_push_size _ rfl
  have k2 : ∀ b o, H1.get? b = some o → H2.get? b = some o := fun b o e => hH2 ▸ Heap.get?_push_of_some _ e
  have z2 : H2.objs.size = s₁.heap.objs.size + 2 := by rw [← hH2, Heap.size_push, z1]
  have k3 : ∀ b o, b < H2.objs.size → H2.get? b = some o → h₃.get? b = some o := fun b o hb e => hsb₃.extBut b o (Nat.ne_of_lt hb) (Heap.get?_push_of_some _ e)
  have keep : ∀ b o, s₁.heap.get? b = some o → h₃.get? b = some o := fun b o e => k3 b o (Nat.lt_of_lt_of_le (Heap.lt_size e) (by rw [z2]; exact Nat.le_add_right ..)) (k2 _ _ (k1 _ _ e))
  have hLs : @LT.lt Nat _ L s₁.heap.objs.size := F.ns.lt
  have fresh : ∀ b, s₁.heap.objs.size ≤ b → h₀.get? b = none := fun b hb => Heap.get?_none_of_le (Nat.le_trans F.above (Nat.le_trans (Nat.le_of_lt hLs) hb))
  have old : ∀ p ∈ news, @LT.lt Nat _ p.1 s₁.heap.objs.size := fun p hp => Heap.lt_size (N p hp).1
  have core : codeAny (model prog w) A (.compLoop (.ListComp elt [⟨.Name x px, iter, [], 0⟩] scope pos) 0 (.ref s₁.heap.objs.size) (.ref H1.objs.size) (compEnvC scope cl H2.objs.size env))
      (compPost (model prog w) A E none Q (.ref H1.objs.size) H2.objs.size) { s₁ with heap := h₃, toks := s₁.toks + ([] : List (Str × Value)).length } := by
    refine comp_loop (s := { s₁ with heap := h₃, toks := s₁.toks + ([] : List (Str × Value)).length }) (a := (a : Int)) (n := n) (J := J) (news := news) hh hkind hx (Nat.le_trans (show n ≤ 1000000 by omega) (by decide)) ?_ (F.keeps keep) hns₃ (fun p hp => ?_) (Off3.of fun p hp => ?_) ?_ ?_ ?_ ?_ ?_ ?_ ?_ hJ turn ?_
    · show h₃.get? _ = _
      exact k3 _ _ (by rw [z2]; omega) (k2 _ _ g1)
    · rcases List.mem_cons.mp hp with rfl | hp
      · exact ⟨k3 _ _ (by show H1.objs.size < _; rw [z1, z2]; omega) g2, by show H1.objs.size ≠ L; rw [z1]; omega, fresh _ (by show _ ≤ H1.objs.size; rw [z1]; omega)⟩
      · exact ⟨keep _ _ (N p hp).1, (N p hp).2⟩
    · have := old p hp
      exact ⟨Nat.ne_of_lt this, Nat.ne_of_lt (by rw [z2]; omega), Nat.ne_of_lt (by rw [z1]; omega)⟩
    · exact Nat.ne_of_lt (by rw [z2]; omega)
    · exact Nat.ne_of_lt (by rw [z1]; omega)
    · exact Nat.ne_of_gt (by rw [z1, z2]; omega)
    · exact Nat.ne_of_lt hLs
    · exact Nat.ne_of_gt (by rw [z2]; omega)
    · exact fresh _ (Nat.le_refl _)
    · exact fresh _ (by rw [z2]; omega)
    · intro h tk m' ys news' F' N' off hC hJn
      refine ⟨m', hC, fun h'' hs'' => fin ys news' hJn H1.objs.size h'' tk (F'.change hs'' (Nat.ne_of_gt (by rw [z2]; omega)) (fresh _ (by rw [z2]; omega))) (fun p hp => ?_) off.one⟩
      refine ⟨hs''.extBut _ _ ?_ (N' p hp).1, (N' p hp).2⟩
      rcases List.mem_cons.mp hp with rfl | hp
      · exact Nat.ne_of_lt (by show H1.objs.size < _; rw [z1, z2]; omega)
      · exact (off.mem p hp).2.1
  refine codeAny_compStart_list ?_ ?_
  · exact core
  · exact wpAny_pyIter_rangeiter (by show IsRangeIter _ _ _ _ _; exact k3 _ _ (by rw [z2]; omega) (k2 _ _ g1)) core
end
end Mine
end

noncomputable section
open PySem PySem.W PySem.Calls PyProof.Rows
namespace Mine
open LCg
theorem Off1.mem {D : Addr} : ∀ {l : List (Addr × Obj)}, Off1 D l → ∀ p ∈ l, p.1 ≠ D
  | [], _, _, h => nomatch h
  | _ :: _, x, p, h => by
    rcases List.mem_cons.mp h with rfl | h
    · exact x.1
    · exact Off1.mem x.2 p h
theorem Off1.of {D : Addr} : ∀ {l : List (Addr × Obj)}, (∀ p ∈ l, p.1 ≠ D) → Off1 D l
  | [], _ => trivial
  | _ :: _, h => ⟨h _ List.mem_cons_self, Off1.of fun p hp => h p (List.mem_cons_of_mem _ hp)⟩
section
variable {prog : Program} {w : World} {A : Around} {s : Shared} {h₀ : Heap} {L : Addr} {m : Str → Option Value} {env : Env} {E : Value → Shared → Prop}
noncomputable def EnumTurn (prog : Program) (w : World) (A : Around) (h₀ : Heap) (L : Addr) (m : Str → Option Value) (env : Env) (elt : PySem.Expr) (a b : Str) (scope : Scope) (cl : List (Str × Addr)) (s : Shared) (items : Array Value) (J : Nat → List Value → List (Addr × Obj) → Prop) : Prop :=
  ∀ i ys news ti x e oe it oi C oC D m₂ h tk (E' : Value → Shared → Prop), items[i]? = some x → J i ys news → NsObj oC m₂ → m₂ a = some (.int (i : Int) ti) → m₂ b = some x → Fr h₀ L h m → News h₀ L h ((e, oe) :: (C, oC) :: (D, lst ys) :: (it, oi) :: news) → Off3 e C D ((it, oi) :: news) → Off1 it news →
    ((@Ne Nat e C) ∧ (@Ne Nat e D) ∧ (@Ne Nat C D)) →
    wpAny (model prog w) A (eval elt (compEnvC scope cl C env)) (CompEnd h₀ L m { s with heap := h, toks := tk } e oe C oC D (lst ys) (fun _ => True) (fun y news' => ∃ news'', news' = (it, oi) :: news'' ∧ Off1 it news'' ∧ J (i + 1) (ys ++ [y]) news'')) E' { s with heap := h, toks := tk }
inductive EnumAt (h₀ : Heap) (L : Addr) (m : Str → Option Value) (e it l C D : Addr) (items : Array Value) (J : Nat → List Value → List (Addr × Obj) → Prop) (s : Shared) (k : Nat) : Shared → Prop
  | mk (h : Heap) (tk i : Nat) (ys : List Value) (m' : Str → Option Value) (news' : List (Addr × Obj)) (oi : Obj) (old : Value) (hk : i + k = items.size + 1) (hin : i ≤ items.size) (hyl : ys.length = i) (hE : IsEnum h e it (i : Int) old) (hit : h.IsListIter it l i) (F : Fr h₀ L h m) (hC : h.Ns C m') (N : News h₀ L h ((D, lst ys) :: (it, oi) :: news')) (off : Off3 e C D ((it, oi) :: news')) (oit : Off1 it news') (hJ : J i ys news') : EnumAt h₀ L m e it l C D items J s k { s with heap := h, toks := tk }
theorem enum_loop {elt iter : PySem.Expr} {a b : Str} {pa pb tp : Pos} {kk : Nat} {scope : Scope} {cl : List (Str × Addr)} {pos : Pos} {items : Array Value} {J : Nat → List Value → List (Addr × Obj) → Prop} {e it l C D : Addr} {R : Result → Shared → Prop} {news : List (Addr × Obj)} {m₁ : Str → Option Value} {oi : Obj}
    (hh : A.handled = none) (hkind : scope.kind = .function) (hxa : scope.names.lookup a = some .local) (hxb : scope.names.lookup b = some .local) (hab : ¬ a = b) (hsz : items.size ≤ sizeLine)
    (he : IsEnum s.heap e it 0 .none) (hit : s.heap.IsListIter it l 0) (F : Fr h₀ L s.heap m) (hC : s.heap.Ns C m₁) (N : News h₀ L s.heap ((D, lst []) :: (it, oi) :: news)) (off : Off3 e C D ((it, oi) :: news)) (oit : Off1 it news)
    (heC : e ≠ C) (heD : e ≠ D) (hCD : C ≠ D) (heL : L ≠ e) (hCL : C ≠ L) (he₀ : h₀.get? e = none) (hC₀ : h₀.get? C = none) (hJ : J 0 [] news)
    (hl : ∀ i ys news, J i ys news → ∃ ol, (l, ol) ∈ news ∧ ol.cls = .type "list" ∧ ∃ n, ol.data = .seq items n)
    (turn : EnumTurn prog w A h₀ L m env elt a b scope cl s items J)
    (done : ∀ h tk m' ys news', Fr h₀ L h m → News h₀ L h ((D, lst ys) :: news') → Off3 e C D news' → h.Ns C m' → J items.size ys news' → R (.ok .next) { s with heap := h, toks := tk }) :
    codeAny (model prog w) A (.compLoop (.ListComp elt [⟨.Tuple [.Name a pa, .Name b pb] kk tp, iter, [], 0⟩] scope pos) 0 (.ref e) (.ref D) (compEnvC scope cl C env)) R s := by
  have hDL : D ≠ L := (N _ (.head _)).2.1
  have hD₀ : h₀.get? D = none := (N _ (.head _)).2.2
  have hiL : it ≠ L := (N _ (.tail _ (.head _))).2.1
  have hi₀ : h₀.get? it = none := (N _ (.tail _ (.head _))).2.2
  have hte : it ≠ e := (off.mem _ (.head _)).1
  have htC : it ≠ C := (off.mem _ (.head _)).2.1
  have htD : it ≠ D := (off.mem _ (.head _)).2.2
  refine kcp_loop (EnumAt h₀ L m e it l C D items J s)
    ?_ (items.size + 1) (.mk s.heap s.toks 0 [] m₁ news oi _ (Nat.zero_add _) (Nat.zero_le _) rfl he hit F hC N off oit hJ)
  rintro k s' ⟨h, tk, i, ys, m', news', oi, old₀, hk, hin, hyl, hE, hit, F, hC, N, off, oit, hJ⟩
  obtain ⟨ol, hlm, hlc, nl, hld⟩ := hl _ _ _ hJ
  have o3 := off.mem
  have o1 := Off1.mem oit
  have hle : l ≠ e := (o3 _ (.tail _ hlm)).1
  have hli : l ≠ it := o1 _ hlm
  have hL : h.IsList l items := ⟨ol, (N _ (.tail _ (.tail _ hlm))).1, hlc, nl, hld⟩
  have W := WalksT.enumerate (prog := prog) (w := w) hh e it l (Ne.symm hte) hle hli items
  rcases Nat.lt_or_ge i items.size with hlt | hge
  · refine W.item i _ _ _ hlt ⟨⟨_, hE⟩, hit, hL⟩ fun T vals h₂ tk₂ hP hTn hT hMid hk₂ => ?_
    obtain ⟨ti, x, hx, rfl⟩ := hP
    have ap := W.apart _ _ _ hMid
    refine W.go _ _ _ i T _ _ _ hMid fun h₃ hst₃ hk₃ => ?_
    obtain ⟨⟨old, hE₃⟩, hit₃, _⟩ := hst₃
    have up : ∀ c o, c ≠ e → c ≠ it → h.get? c = some o → h₃.get? c = some o := fun c o h1 h2 q => hk₃ c o (by simp [h1, h2]) (hk₂ c o (by simp [h1, h2]) q)
    have hT₃ : h₃.IsTuple T #[.int (i : Int) ti, x] := by
      obtain ⟨o, q, r⟩ := hT
      exact ⟨o, hk₃ T o ap q, r⟩
    refine kcp_assign (env := compEnvC scope cl C env) hh hT₃ (lookup_relabel_local hxa) (lookup_relabel_local hxb) (by simp [compEnvC, relabel, hkind]) (hC.at' fun o q => up C o (Ne.symm heC) (Ne.symm htC) q) fun h₄ tk₄ hn₄ hs₄ => ?_
    have hs₄' : ∀ c o, c ≠ C → h₃.get? c = some o → h₄.get? c = some o := hs₄
    have hn₄' : h₄.Ns C (fun z => if z = b then some x else if z = a then some (.int (i : Int) ti) else m' z) := hn₄
    obtain ⟨oe, hge₄, hoe⟩ : ∃ oe : Obj, h₄.get? e = some oe ∧ ∀ h : Heap, h.get? e = some oe → ∃ old, IsEnum h e it ((i + 1 : Nat) : Int) old := ⟨_, hs₄' e _ heC hE₃, fun _ q => ⟨_, q⟩⟩
    obtain ⟨ot, hgt₄, hot⟩ : ∃ ot : Obj, h₄.get? it = some ot ∧ ∀ h : Heap, h.get? it = some ot → h.IsListIter it l (i + 1) := by
      obtain ⟨o, q, r⟩ := hit₃
      exact ⟨o, hs₄' it _ htC q, fun _ q' => ⟨o, q', r⟩⟩
    obtain ⟨oC, heC₄, hoC⟩ := ns_obj hn₄'
    have F₄ : Fr h₀ L h₄ m := ⟨F.ns.at' fun o q => hs₄' L o (Ne.symm hCL) (up L o heL (Ne.symm hiL) q), fun c o q => hs₄' c o (fun z => by rw [z, hC₀] at q; cases q) (up c o (fun z => by rw [z, he₀] at q; cases q) (fun z => by rw [z, hi₀] at q; cases q) (F.keep c o q)), F.above⟩
    have N₄ : News h₀ L h₄ ((e, oe) :: (C, oC) :: (D, lst ys) :: (it, ot) :: news') := fun p hp => by
      rcases List.mem_cons.mp hp with rfl | hp
      · exact ⟨hge₄, Ne.symm heL, he₀⟩
      rcases List.mem_cons.mp hp with rfl | hp
      · exact ⟨heC₄, hCL, hC₀⟩
      rcases List.mem_cons.mp hp with rfl | hp
      · exact ⟨hs₄' _ _ (Ne.symm hCD) (up _ _ (Ne.symm heD) (Ne.symm htD) (N _ (.head _)).1), hDL, hD₀⟩
      rcases List.mem_cons.mp hp with rfl | hp
      · exact ⟨hgt₄, hiL, hi₀⟩
      · have z := N p (.tail _ (.tail _ hp))
        exact ⟨hs₄' _ _ (o3 p (.tail _ hp)).2.1 (up _ _ (o3 p (.tail _ hp)).1 (o1 p hp) z.1), z.2⟩
    have off₄ : Off3 e C D ((it, ot) :: news') := ⟨off.1, off.2⟩
    refine wpAny_mono (turn i ys news' ti x e oe it ot C oC D _ h₄ _ _ hx hJ hoC (by simp [hab]) (by simp) F₄ N₄ off₄ oit ⟨heC, heD, hCD⟩) (fun y s₅ z => ?_) fun _ _ q => q
    obtain ⟨h₅, tk₅, news₅, rfl, F₅, N₅, off₅, _, news₆, rfl, oit₆, hJ₅⟩ := z
    have o5 := off₅.mem
    have zD := (N₅ _ (.tail _ (.tail _ (.head _)))).1
    refine append_at (hsz := by show ys.toArray.size ≤ sizeLine; rw [List.size_toArray, hyl]; exact Nat.le_trans hin hsz) zD fun h₆ hs₆ hD₆ => ?_
    obtain ⟨old₆, hE₆⟩ := hoe h₆ (hs₆.extBut e oe heD (N₅ _ (.head _)).1)
    refine ⟨k - 1, by omega, .mk h₆ tk₅ (i + 1) (ys ++ [y]) _ news₆ ot old₆ (by omega) hlt (by simp [hyl]) hE₆ (hot h₆ (hs₆.extBut it ot htD (N₅ _ (.tail _ (.tail _ (.tail _ (.head _))))).1)) (F₅.change hs₆ hDL hD₀)
      ((hoC.ns (N₅ _ (.tail _ (.head _))).1).sameBut hs₆ hCD) (fun p hp => ?_) off₅ oit₆ hJ₅⟩
    rcases List.mem_cons.mp hp with rfl | hp
    · exact ⟨hD₆.trans (congrArg some (lst_snoc ys y)), hDL, hD₀⟩
    · have q := N₅ p (.tail _ (.tail _ (.tail _ hp)))
      exact ⟨hs₆.extBut _ _ (o5 p hp).2.2 q.1, q.2⟩
  · obtain rfl : i = items.size := Nat.le_antisymm hin hge
    refine W.done _ _ _ ⟨⟨_, hE⟩, hit, hL⟩ fun h₂ tk₂ hk₂ => ?_
    have up : ∀ c o, c ≠ e → c ≠ it → h.get? c = some o → h₂.get? c = some o := fun c o h1 h2 q => hk₂ c o (by simp [h1, h2]) q
    refine done h₂ tk₂ m' ys news' ⟨F.ns.at' fun o q => up L o heL (Ne.symm hiL) q, fun c o q => up c o (fun z => by rw [z, he₀] at q; cases q) (fun z => by rw [z, hi₀] at q; cases q) (F.keep c o q), F.above⟩ (fun p hp => ?_) off.2 (hC.at' fun o q => up C o (Ne.symm heC) (Ne.symm htC) q) hJ
    rcases List.mem_cons.mp hp with rfl | hp
    · exact ⟨up _ _ (Ne.symm heD) (Ne.symm htD) (N _ (.head _)).1, hDL, hD₀⟩
    · have z := N p (.tail _ (.tail _ hp))
      exact ⟨up _ _ (o3 p (.tail _ hp)).1 (o1 p hp) z.1, z.2⟩
noncomputable def EnumSrc (prog : Program) (w : World) (A : Around) (h₀ : Heap) (L : Addr) (m : Str → Option Value) (env : Env) (elt : PySem.Expr) (a b : Str) (scope : Scope) (cl : List (Str × Addr)) (Fin : Shared → List Value → List (Addr × Obj) → Prop) (xv : Value) (s₁ : Shared) : Prop :=
  ∃ (e it l : Addr) (items : Array Value) (oi : Obj) (news : List (Addr × Obj)) (J : Nat → List Value → List (Addr × Obj) → Prop), xv = .ref e ∧ A.handled = none ∧ Fr h₀ L s₁.heap m ∧ News h₀ L s₁.heap ((it, oi) :: news) ∧ IsEnum s₁.heap e it 0 .none ∧ s₁.heap.IsListIter it l 0 ∧
    L ≠ e ∧ h₀.get? e = none ∧ Off1 e ((it, oi) :: news) ∧ Off1 it news ∧ items.size ≤ sizeLine ∧ J 0 [] news ∧ (∀ i ys news, J i ys news → ∃ ol, (l, ol) ∈ news ∧ ol.cls = .type "list" ∧ ∃ n, ol.data = .seq items n) ∧
    EnumTurn prog w A h₀ L m env elt a b scope cl s₁ items J ∧ ∀ ys news', J items.size ys news' → Fin s₁ ys news'
theorem comp_enum {elt iter : PySem.Expr} {a b : Str} {pa pb tp : Pos} {kk : Nat} {scope : Scope} {cl : List (Str × Addr)} {pos : Pos} {Q : Value → Shared → Prop} (_F : Fr h₀ L s.heap m)
    (hclos : closureFor scope env = pure cl) (hcell : ∀ y ∈ scope.names, y.2 ≠ .cell) (hkind : scope.kind = .function)
    (hnames : ∀ y ∈ scope.names, y.2 = .local → scope.names.lookup y.1 = some .local) (hxa : scope.names.lookup a = some .local) (hxb : scope.names.lookup b = some .local) (hab : ¬ a = b)
    (h : wpAny (model prog w) A (eval iter env) (EnumSrc prog w A h₀ L m env elt a b scope cl (fun s₂ => FinE h₀ L m s₂ Q)) E s)
    (hs : ∀ x, foldedSetIterable iter env x = pure x := by intro _; rfl) :
    wpAny (model prog w) A (eval (.ListComp elt [⟨.Tuple [.Name a pa, .Name b pb] kk tp, iter, [], 0⟩] scope pos) env) Q E s := by
  rw [eval_ListComp]
  refine wpAny_comprehension_free (use := none) rfl hs hclos hkind hnames (wpAny_mono h (fun xv s₁ h₁ => ?_) fun _ _ e => e)
  obtain ⟨e, it, l, items, oi, news, J, rfl, hh, F, N, he, hit, heL, he₀, oe, oit, hsz, hJ, hl, turn, fin⟩ := h₁
  refine wpAny_pyIter_enum he ?_
  refine wpAny_newObj_type (wpAny_newFunctionEnv hcell (by intro y hy; simp at hy) (fun h₃ hns₃ hsb₃ => ?_) hkind)
  dsimp only at hns₃ hsb₃ ⊢
  generalize hH2 : s₁.heap.push { cls := .type "list", dict := none, data := .seq ([] : List Value).toArray } = H2 at hns₃ hsb₃ ⊢
  have g2 : H2.get? s₁.heap.objs.size = some (lst []) := hH2 ▸ Heap.get?_push_size _ rfl
  have k2 : ∀ b o, s₁.heap.get? b = some o → H2.get? b = some o := fun b o e => hH2 ▸ Heap.get?_push_of_some _ e
  have z2 : H2.objs.size = s₁.heap.objs.size + 1 := by rw [← hH2, Heap.size_push]
  have k3 : ∀ b o, @LT.lt Nat _ b H2.objs.size → H2.get? b = some o → h₃.get? b = some o := fun b o hb e => hsb₃.extBut b o (Nat.ne_of_lt hb) (Heap.get?_push_of_some _ e)
  have keep : ∀ b o, s₁.heap.get? b = some o → h₃.get? b = some o := fun b o e => k3 b o (Nat.lt_of_lt_of_le (Heap.lt_size e) (by rw [z2]; exact Nat.le_add_right ..)) (k2 _ _ e)
  have hLs : @LT.lt Nat _ L s₁.heap.objs.size := F.ns.lt
  have hes : @LT.lt Nat _ e s₁.heap.objs.size := Heap.lt_size he
  have fresh : ∀ b, s₁.heap.objs.size ≤ b → h₀.get? b = none := fun b hb => Heap.get?_none_of_le (Nat.le_trans F.above (Nat.le_trans (Nat.le_of_lt hLs) hb))
  have old : ∀ p ∈ (it, oi) :: news, @LT.lt Nat _ p.1 s₁.heap.objs.size := fun p hp => Heap.lt_size (N p hp).1
  have oem := Off1.mem oe
  have core : codeAny (model prog w) A (.compLoop (.ListComp elt [⟨.Tuple [.Name a pa, .Name b pb] kk tp, iter, [], 0⟩] scope pos) 0 (.ref e) (.ref s₁.heap.objs.size) (compEnvC scope cl H2.objs.size env))
      (compPost (model prog w) A E none Q (.ref s₁.heap.objs.size) H2.objs.size) { s₁ with heap := h₃, toks := s₁.toks + ([] : List (Str × Value)).length } := by
    refine enum_loop (s := { s₁ with heap := h₃, toks := s₁.toks + ([] : List (Str × Value)).length }) (J := J) (news := news) (it := it) (l := l) (items := items) (oi := oi) hh hkind hxa hxb hab hsz (keep _ _ he) ?_ (F.keeps keep) hns₃ (fun p hp => ?_) (Off3.of fun p hp => ?_) oit ?_ ?_ ?_ heL ?_ he₀ ?_ hJ hl turn ?_
    · obtain ⟨o, q, r⟩ := hit
      exact ⟨o, keep _ _ q, r⟩
    · rcases List.mem_cons.mp hp with rfl | hp
      · exact ⟨k3 _ _ (by rw [z2]; exact Nat.lt_succ_self _) g2, Nat.ne_of_gt hLs, fresh _ (Nat.le_refl _)⟩
      · exact ⟨keep _ _ (N p hp).1, (N p hp).2⟩
    · have := old p hp
      exact ⟨oem p hp, Nat.ne_of_lt (by rw [z2]; omega), Nat.ne_of_lt this⟩
    · exact Nat.ne_of_lt (by rw [z2]; omega)
    · exact Nat.ne_of_lt hes
    · exact Nat.ne_of_gt (by rw [z2]; exact Nat.lt_succ_self _)
    · exact Nat.ne_of_gt (by rw [z2]; omega)
    · exact fresh _ (by rw [z2]; exact Nat.le_succ _)
    · intro h tk m' ys news' F' N' off hC hJn
      refine ⟨m', hC, fun h'' hs'' => fin ys news' hJn s₁.heap.objs.size h'' tk (F'.change hs'' (Nat.ne_of_gt (by rw [z2]; omega)) (fresh _ (by rw [z2]; exact Nat.le_succ _))) (fun p hp => ?_) off.one⟩
      refine ⟨hs''.extBut _ _ ?_ (N' p hp).1, (N' p hp).2⟩
      rcases List.mem_cons.mp hp with rfl | hp
      · exact Nat.ne_of_lt (by show s₁.heap.objs.size < _; rw [z2]; exact Nat.lt_succ_self _)
      · exact (off.mem p hp).2.1
  refine codeAny_compStart_list ?_ ?_
  · exact core
  · exact wpAny_pyIter_enum (keep _ _ he) core
theorem call_enumK {elt : PySem.Expr} {a b : Str} {scope : Scope} {cl : List (Str × Addr)} {l : Addr} {items : Array Value} {ol : Obj} {nl : Nat} {news : List (Addr × Obj)} {Q : Value → Shared → Prop} (hh : A.handled = none) (F : Fr h₀ L s.heap m) (N : News h₀ L s.heap news)
    (hm : (l, ol) ∈ news) (hc : ol.cls = .type "list") (hd : ol.data = .seq items nl) (hsz : items.size ≤ sizeLine) (J : Nat → List Value → List (Addr × Obj) → Prop) (hJ : J 0 [] news) (hJl : ∀ i ys news, J i ys news → (l, ol) ∈ news)
    (turn : EnumTurn prog w A h₀ L m env elt a b scope cl s items J) (fin : ∀ ys news', J items.size ys news' → FinE h₀ L m s Q ys news') :
    wpAny (model prog w) A (call (.type "enumerate") [.ref l]) (EnumSrc prog w A h₀ L m env elt a b scope cl (fun s₂ => FinE h₀ L m s₂ Q)) E s := by
  refine call_enumerate_list ⟨ol, (N _ hm).1, hc, nl, hd⟩ fun h' he hit hsz2 hk => ?_
  have hLs : @LT.lt Nat _ L s.heap.objs.size := F.ns.lt
  have fresh : ∀ b, s.heap.objs.size ≤ b → h₀.get? b = none := fun b hb => Heap.get?_none_of_le (Nat.le_trans F.above (Nat.le_trans (Nat.le_of_lt hLs) hb))
  have old : ∀ p ∈ news, @LT.lt Nat _ p.1 s.heap.objs.size := fun p hp => Heap.lt_size (N p hp).1
  obtain ⟨oi, hoi, ri⟩ := id hit
  refine ⟨s.heap.objs.size + 1, s.heap.objs.size, l, items, oi, news, J, rfl, hh, F.keeps hk, fun p hp => ?_, he, hit, ?_, fresh _ (Nat.le_succ _), Off1.of fun p hp => ?_, Off1.of fun p hp => Nat.ne_of_lt (old p hp), hsz, hJ, fun i ys news hj => ⟨ol, hJl _ _ _ hj, hc, nl, hd⟩, turn, fin⟩
  · rcases List.mem_cons.mp hp with rfl | hp
    · exact ⟨hoi, Nat.ne_of_gt hLs, fresh _ (Nat.le_refl _)⟩
    · exact ⟨hk _ _ (N p hp).1, (N p hp).2⟩
  · exact Nat.ne_of_lt (Nat.lt_succ_of_lt hLs)
  · rcases List.mem_cons.mp hp with rfl | hp
    · exact Nat.ne_of_lt (Nat.lt_succ_self _)
    · exact Nat.ne_of_lt (Nat.lt_succ_of_lt (old p hp))
end
end Mine
end

noncomputable section
open PySem PySem.W PySem.Calls PyProof.Rows
namespace Mine
theorem ints_of_all : ∀ {l : List Value}, (∀ v ∈ l, ∃ n t, v = .int n t) → ∃ ms, IntsAre l ms
  | [], _ => ⟨[], .nil⟩
  | v :: l, h => by
    obtain ⟨n, t, rfl⟩ := h v (.head _)
    obtain ⟨ms, r⟩ := ints_of_all fun v hv => h v (.tail _ hv)
    exact ⟨n :: ms, .cons n t r⟩
theorem pick_ints {vs : List Value} {ns : List Int} (h : IntsAre vs ns) (lo hi st : Option Int) : ∃ ms, IntsAre (slicePick vs.toArray lo hi st).toList ms ∧ ms.length ≤ ns.length := by
  obtain ⟨ms, r⟩ := ints_of_all (l := (slicePick vs.toArray lo hi st).toList) (fun v hv => by
    refine h.all v ?_
    unfold slicePick at hv
    simp only [List.mem_filterMap] at hv
    obtain ⟨i, _, e⟩ := hv
    exact List.mem_of_getElem? (by simpa using e))
  refine ⟨ms, r, ?_⟩
  have h1 := slicePick_size_le vs.toArray lo hi st
  rw [← r.length, ← h.length]
  simpa using h1
theorem nat_sum : ∀ {zs : List Nat}, (zs.map (fun z : Nat => (z : Int))).sum = ((zs.sum : Nat) : Int)
  | [] => rfl
  | z :: zs => by simp [nat_sum (zs := zs)]
theorem sum_le {b : Nat} : ∀ {zs : List Nat}, (∀ z ∈ zs, z ≤ b) → zs.sum ≤ b * zs.length
  | [], _ => by simp
  | z :: zs, h => by
    have h1 := h z (.head _)
    have h2 := sum_le (zs := zs) fun y hy => h y (.tail _ hy)
    rw [List.sum_cons, List.length_cons, Nat.mul_succ]
    omega
theorem snocI {vs : List Value} {ns : List Int} {x : Int} {t : Tok} (h : IntsAre vs ns) : IntsAre (vs ++ [.int x t]) (ns ++ [x]) := by
  induction h with
  | nil => exact .cons x t .nil
  | cons n u h ih => exact .cons n u ih
noncomputable abbrev asInts (zs : List Nat) : List Int := zs.map (fun z : Nat => (z : Int))
theorem ints_snocN {zv : List Value} {zs : List Nat} {v : Int} {t : Tok} (h : IntsAre zv (asInts zs)) (h0 : 0 ≤ v) : IntsAre (zv ++ [.int v t]) (asInts (zs ++ [v.toNat])) := by
  have e : asInts (zs ++ [v.toNat]) = asInts zs ++ [v] := by simp [Int.toNat_of_nonneg h0]
  rw [e]
  exact snocI h
theorem Fr.unsaid {h₀ h : Heap} {L : Addr} {m : Str → Option Value} {l : List (Str × Value)} (F : Fr h₀ L h (kstB m l)) (hl : Says m l) : Fr h₀ L h m := by
  have e : kstB m l = m := by
    funext z
    exact kstB_eq hl fun _ => rfl
  rw [e] at F; exact F
end Mine
end

noncomputable section
open PySem PySem.W PySem.Calls PyProof.Rows
namespace Mine
open LCg
section
variable {prog : Program} {w : World} {A : Around} {s : Shared} {h₀ : Heap} {L : Addr} {m : Str → Option Value} {env : Env} {E : Value → Shared → Prop}
noncomputable def StrSrc (prog : Program) (w : World) (A : Around) (h₀ : Heap) (L : Addr) (m : Str → Option Value) (env : Env) (elt : PySem.Expr) (x : Str) (scope : Scope) (cl : List (Str × Addr)) (Fin : Shared → List Value → List (Addr × Obj) → Prop) (xv : Value) (s₁ : Shared) : Prop :=
  ∃ (l : List Nat) (t : Tok) (news : List (Addr × Obj)), xv = .str (txt l) t ∧ A.handled = none ∧ Fr h₀ L s₁.heap m ∧ News h₀ L s₁.heap news ∧ l.length ≤ sizeLine ∧
    ∀ g : Heap, CompRest prog w A h₀ L m env elt x scope cl { s₁ with heap := g } (fun _ => True) (fun i v => ∃ c u, l[i]? = some c ∧ v = .str (txt [c]) u) (Fin { s₁ with heap := g }) l.length 0 [] news
theorem comp_str {elt iter : PySem.Expr} {x : Str} {px : Pos} {scope : Scope} {cl : List (Str × Addr)} {pos : Pos} {Q : Value → Shared → Prop} (_F : Fr h₀ L s.heap m)
    (hclos : closureFor scope env = pure cl) (hcell : ∀ y ∈ scope.names, y.2 ≠ .cell) (hkind : scope.kind = .function)
    (hnames : ∀ y ∈ scope.names, y.2 = .local → scope.names.lookup y.1 = some .local) (hx : scope.names.lookup x = some .local)
    (h : wpAny (model prog w) A (eval iter env) (StrSrc prog w A h₀ L m env elt x scope cl (fun s₂ => FinE h₀ L m s₂ Q)) E s)
    (hs : ∀ x, foldedSetIterable iter env x = pure x := by intro _; rfl) :
    wpAny (model prog w) A (eval (.ListComp elt [⟨.Name x px, iter, [], 0⟩] scope pos) env) Q E s := by
  rw [eval_ListComp]
  refine wpAny_comprehension_free (use := none) rfl hs hclos hkind hnames (wpAny_mono h (fun xv s₁ h₁ => ?_) fun _ _ e => e)
  obtain ⟨l, t, news, rfl, hh, F, N, hsz, R⟩ := h₁
  have core : ∀ (T : String) (o : Obj), Walks prog w A s₁.heap.objs.size [s₁.heap.objs.size] [s₁.heap.objs.size] (txt l).cps.size (SignAt (txt l)) (fun i h => h.IsStrIter s₁.heap.objs.size T (txt l) t i) → (s₁.heap.push o).IsStrIter s₁.heap.objs.size T (txt l) t 0 →
      wpAny (model prog w) A (newList []) (fun acc s₃ => wpAny (model prog w) A (newFunctionEnv scope env.globals cl [] env.qual none .none (some env)) (fun cenv s₄ =>
        codeAny (model prog w) A (.compStart (.ListComp elt [⟨.Name x px, iter, [], 0⟩] scope pos) 0 (.ref s₁.heap.objs.size) acc { cenv with scope := relabel scope env }) (compPost (model prog w) A E none Q acc cenv.locals) s₄) E s₃) E { s₁ with heap := s₁.heap.push o } := by
    intro T o W hst
    have W' : Walks prog w A s₁.heap.objs.size [s₁.heap.objs.size] [s₁.heap.objs.size] l.length (fun i v => ∃ c u, l[i]? = some c ∧ v = .str (txt [c]) u) (fun i h => h.IsStrIter s₁.heap.objs.size T (txt l) t i) := by
      have e : (txt l).cps.size = l.length := by simp
      rw [e] at W
      exact { sub := W.sub, frame := W.frame, done := W.done, self := W.self, item := fun i s Q E hi st hQ => W.item i s Q E hi st fun v h' tk hP => hQ v h' tk (by
        obtain ⟨c, u, hc, rfl⟩ := hP
        exact ⟨c, u, by simpa using hc, rfl⟩) }
    refine block_U (s₂ := { s₁ with heap := s₁.heap.push o }) (news := news) (S := fun _ => True) W' hsz (fun i h st => let ⟨o, e, _⟩ := st; ⟨o, e⟩) (fun i h h' o nw st e e' _ _ _ => ?_) hcell hkind hx hst (fun b hb => ?_)
      (F.keeps fun _ _ e => Heap.get?_push_of_some _ e) (N.grown fun _ _ e => Heap.get?_push_of_some _ e) (Nat.ne_of_lt F.ns.lt) (next_is_new F) (fun p hp => Nat.ne_of_lt (Heap.lt_size (N p hp).1)) True.intro (R _) ?_
    · obtain ⟨o', q, r⟩ := st
      rw [e] at q; cases q
      exact ⟨_, e', r⟩
    · rw [List.mem_singleton.mp hb]
      show s₁.heap.objs.size < (s₁.heap.push _).objs.size
      rw [Heap.size_push]; exact Nat.lt_succ_self _
    · intro D C h tk m' ys news' F' N' o1 hn hC₀ hD₀ hCL hDL hCD offC fin
      refine ⟨m', hn, fun h'' hs'' => fin D h'' tk (F'.change hs'' hCL hC₀) (fun p hp => ?_) o1⟩
      refine ⟨hs''.extBut _ _ ?_ (N' p hp).1, (N' p hp).2⟩
      rcases List.mem_cons.mp hp with rfl | hp
      · exact Ne.symm hCD
      · exact offC p hp
  cases ha : (txt l).cps.all (· < 128)
  · exact wpAny_pyIter_wide ha (core "str_iterator" _ (Walks.strWide hh _ (txt l) t) ⟨_, Heap.get?_push_size _ rfl, rfl, rfl⟩)
  · exact wpAny_pyIter_ascii ha (core "str_ascii_iterator" _ (Walks.strAscii hh _ (txt l) t) ⟨_, Heap.get?_push_size _ rfl, rfl, rfl⟩)
end
section
variable {prog : Program} {w : World} {A : Around} {E : Value → Shared → Prop} {s : Shared}
theorem txt_len (l : List Nat) : (txt l).length = l.length := by simp [Str.length]
theorem add_txt {a b : List Nat} {t u : Tok} {Q : Value → Shared → Prop} (hl : a.length + b.length ≤ 100000) (h : ∀ t' k, Q (.str (txt (a ++ b)) t') { s with toks := k }) :
    wpAny (model prog w) A (binaryOp .Add (.str (txt a) t) (.str (txt b) u)) Q E s := by
  refine SB.add (fun t' k => ?_) (by rw [txt_len, txt_len]; exact Nat.le_trans hl (by decide))
  rw [txt_append]
  exact h t' k
theorem join_rows {D : Addr} {vs : List Value} {f : Nat → List Nat} {l : List Nat} {b : Nat} {t : Tok} {Q : Value → Shared → Prop} (hD : s.heap.IsList D vs.toArray) (hS : StrsAre vs (l.map fun c => txt (f c))) (hf : ∀ c ∈ l, (f c).length ≤ b) (hb : b * l.length ≤ 1000000)
    (h : ∀ t' k, Q (.str (txt (l.flatMap f)) t') { s with toks := k }) : wpAny (model prog w) A (call (.builtin "str.join") [.str (Str.ofString "") t, .ref D]) Q E s := by
  have hsum := sum_le (b := b) (zs := (l.map fun c => txt (f c)).map (·.length)) (fun z hz => by
    simp only [List.mem_map] at hz
    obtain ⟨x, ⟨c, hc, rfl⟩, rfl⟩ := hz
    have := hf c hc
    rw [txt_len]; exact this)
  have hle : ((l.map fun c => txt (f c)).map (·.length)).length = l.length := by simp
  rw [hle] at hsum
  have h0 : (Str.ofString "").length = 0 := rfl
  refine join_list hD hS (by rw [h0, Nat.mul_zero]; omega) (fun t6 k6 => ?_)
  have fr : ∀ l : List Nat, flat (l.map fun c => txt (f c)) = l.flatMap f := by
    intro l
    induction l with
    | nil => rfl
    | cons c l ih =>
      show (txt (f c)).cps.toList ++ flat (l.map fun c => txt (f c)) = f c ++ l.flatMap f
      rw [ih]
  rw [join_empty, fr]
  exact h t6 k6
end
end Mine
end

noncomputable section
open PySem PySem.W PySem.Calls PyProof.Rows
namespace Mine
noncomputable abbrev rep (d : Nat) : List Nat := List.replicate d 46
noncomputable def IsEnd (e : List Nat) : Prop := e = [10] ∨ e = [13] ∨ e = [13, 10]
noncomputable def rowsOf (ps : List (Nat × List Nat)) : List Nat := ps.flatMap fun p => rep p.1 ++ p.2
noncomputable def mailOf (ds : List Nat) (t : Nat) : List Nat := ds.flatMap fun d => rep (d + t) ++ [13, 10]
theorem rowsOf_cons (p : Nat × List Nat) (ps : List (Nat × List Nat)) : rowsOf (p :: ps) = rep p.1 ++ (p.2 ++ rowsOf ps) := by simp [rowsOf]
theorem mailOf_cons (d : Nat) (ds : List Nat) (t : Nat) : mailOf (d :: ds) t = rep (d + t) ++ (13 :: 10 :: mailOf ds t) := by simp [mailOf]
theorem mail_rows (ds : List Nat) (t : Nat) : mailOf ds t = rowsOf (ds.map fun d => (d + t, [13, 10])) := by
  induction ds with
  | nil => rfl
  | cons d ds ih => rw [mailOf_cons, List.map_cons, rowsOf_cons, ih]; rfl
theorem crlf_dots (d : Nat) (r : List Nat) : crlf (rep d ++ r) = rep d ++ crlf r := by
  induction d with
  | zero => rfl
  | succ d ih =>
    rw [rep, List.replicate_succ, List.cons_append, List.cons_append]
    show crlf (46 :: (rep d ++ r)) = 46 :: (rep d ++ crlf r)
    rw [← ih]
    simp [crlf]
theorem crlf_rows : ∀ ps : List (Nat × List Nat), (∀ p ∈ ps, 1 ≤ p.1 ∧ IsEnd p.2) → crlf (rowsOf ps) = mailOf (ps.map (·.1)) 0
  | [], _ => rfl
  | p :: ps, h => by
    have ih := crlf_rows ps fun q hq => h q (List.mem_cons_of_mem _ hq)
    have hp := h p (List.mem_cons_self ..)
    have hhd : (rowsOf ps).head? ≠ some 10 := by
      cases ps with
      | nil => simp [rowsOf]
      | cons q ps =>
        have hq := h q (List.mem_cons_of_mem _ (List.mem_cons_self ..))
        rw [rowsOf_cons]
        obtain ⟨k, hk⟩ : ∃ k, q.1 = k + 1 := ⟨q.1 - 1, by omega⟩
        rw [hk, rep, List.replicate_succ]
        simp
    rw [rowsOf_cons, crlf_dots, List.map_cons, mailOf_cons, Nat.add_zero]
    congr 1
    rcases hp.2 with e | e | e <;> rw [e]
    · show crlf (10 :: rowsOf ps) = _
      rw [crlf_lf, ih]
    · show crlf (13 :: rowsOf ps) = _
      rw [crlf_cr hhd, ih]
    · show crlf (13 :: 10 :: rowsOf ps) = _
      rw [crlf_pair, ih]
theorem stuff_dots (d : Nat) (r : List Nat) : stuff false (rep d ++ r) = rep d ++ stuff false r := by
  induction d with
  | zero => rfl
  | succ d ih =>
    rw [rep, List.replicate_succ, List.cons_append, List.cons_append]
    show stuff false (46 :: (rep d ++ r)) = 46 :: (rep d ++ stuff false r)
    rw [← ih]
    simp [stuff]
theorem stuff_mail (t : Nat) : ∀ ds : List Nat, (∀ d ∈ ds, 1 ≤ d) → stuff true (mailOf ds t) = mailOf ds (t + 1)
  | [], _ => rfl
  | d :: ds, h => by
    have ih := stuff_mail t ds fun q hq => h q (List.mem_cons_of_mem _ hq)
    have hd := h d (List.mem_cons_self ..)
    obtain ⟨k, hk⟩ : ∃ k, d + t = k + 1 := ⟨d + t - 1, by omega⟩
    rw [mailOf_cons, mailOf_cons, ← ih, show d + (t + 1) = k + 1 + 1 by omega, hk, rep, rep, List.replicate_succ, List.replicate_succ, List.replicate_succ]
    show stuff true (46 :: (rep k ++ 13 :: 10 :: mailOf ds t)) = 46 :: 46 :: (rep k ++ 13 :: 10 :: stuff true (mailOf ds t))
    have e : stuff false (rep k ++ 13 :: 10 :: mailOf ds t) = rep k ++ 13 :: 10 :: stuff true (mailOf ds t) := by
      rw [stuff_dots]; simp [stuff]
    rw [← e]
    simp [stuff]
theorem quote_rows (ps : List (Nat × List Nat)) (h : ∀ p ∈ ps, 1 ≤ p.1 ∧ IsEnd p.2) : stuff true (crlf (rowsOf ps)) = mailOf (ps.map (·.1)) 1 := by
  rw [crlf_rows ps h]
  exact stuff_mail 0 _ fun d hd => by
    obtain ⟨p, hp, rfl⟩ := List.mem_map.mp hd
    exact (h p hp).1
theorem quote_mail (ds : List Nat) (t : Nat) (h : ∀ d ∈ ds, 1 ≤ d) : stuff true (crlf (mailOf ds t)) = mailOf ds (t + 1) := by
  rw [mail_rows, crlf_rows]
  · rw [← stuff_mail t ds h]
    congr 1
    rw [List.map_map]
    induction ds with
    | nil => rfl
    | cons d ds ih => rw [List.map_cons, mailOf_cons, mailOf_cons, ih fun q hq => h q (List.mem_cons_of_mem _ hq)]; rfl
  · intro p hp
    obtain ⟨d, hd, rfl⟩ := List.mem_map.mp hp
    exact ⟨Nat.le_trans (h d hd) (Nat.le_add_right ..), .inr (.inr rfl)⟩
theorem quoted_plain (l r acc : List Nat) (h : ∀ c ∈ l, c ≠ 34 ∧ c ≠ 92) : quoted acc (l ++ 34 :: r) = (acc ++ l, r) := by
  induction l generalizing acc with
  | nil => rw [List.nil_append, quoted_34, List.append_nil]
  | cons c l ih =>
    have hc := h c (List.mem_cons_self ..)
    rw [List.cons_append, quoted_c hc.1 hc.2, ih _ fun q hq => h q (List.mem_cons_of_mem _ hq)]
    simp
theorem bare_escs (l r acc : List Nat) : bare acc (l.flatMap (fun c => [92, c]) ++ 32 :: r) = (acc ++ l, r) := by
  induction l generalizing acc with
  | nil => rw [List.flatMap_nil, List.nil_append, bare_ws (by decide), List.append_nil]
  | cons c l ih =>
    rw [List.flatMap_cons]
    show bare acc (92 :: c :: (l.flatMap (fun c => [92, c]) ++ 32 :: r)) = _
    rw [bare_92]
    show bare (acc ++ [c]) _ = _
    rw [ih]; simp
theorem word_quoted (l r : List Nat) (h : ∀ c ∈ l, c ≠ 34 ∧ c ≠ 92) : word (34 :: (l ++ 34 :: r)) = (l, r) := by
  rw [word_34, quoted_plain l r [] h, List.nil_append]
theorem word_escs (l r : List Nat) (h : l ≠ []) : word (l.flatMap (fun c => [92, c]) ++ 32 :: r) = (l, r) := by
  cases l with
  | nil => exact absurd rfl h
  | cons c l =>
    rw [List.flatMap_cons]
    show word (92 :: c :: (l.flatMap (fun c => [92, c]) ++ 32 :: r)) = _
    rw [word_92]
    show bare [c] _ = _
    rw [bare_escs]; rfl
theorem count_escs (l : List Nat) : (l.flatMap fun c => [92, c]).count 10 = l.count 10 := by
  induction l with
  | nil => rfl
  | cons c l ih =>
    rw [List.flatMap_cons]
    show (92 :: c :: (l.flatMap fun c => [92, c])).count 10 = _
    rw [List.count_cons, List.count_cons, List.count_cons, ih]
    simp
theorem bare_dots (d : Nat) (r acc : List Nat) (c : Nat) (hc : ws c = true) : bare acc (rep d ++ c :: r) = (acc ++ rep d, r) := by
  induction d generalizing acc with
  | zero => show bare acc (c :: r) = _; rw [bare_ws hc]; simp
  | succ d ih =>
    rw [rep, List.replicate_succ]
    show bare acc (46 :: (rep d ++ c :: r)) = _
    rw [bare_c (by decide) (by decide), ih]; simp
theorem word_dots (d : Nat) (hd : 1 ≤ d) (r : List Nat) (c : Nat) (hc : ws c = true) : word (rep d ++ c :: r) = (rep d, r) := by
  obtain ⟨k, rfl⟩ : ∃ k, d = k + 1 := ⟨d - 1, by omega⟩
  rw [rep, List.replicate_succ]
  show word (46 :: (rep k ++ c :: r)) = _
  rw [word_c (by decide) (by decide) (by decide), bare_dots k r [46] c hc]; rfl
end Mine
end

noncomputable section
open PySem PySem.W PySem.Calls PyProof.Rows
open PySem.Builtin PySem.Builtin.Str
namespace Mine
open StrLaws
theorem txt_toList (x : Str) {l : List Nat} (h : x.cps.toList = l) : x = txt l := by
  cases x with
  | mk a => subst h; simp
theorem cnt_count (c : Nat) (l : List Nat) : cnt c l = (l.count c : Nat) := by
  induction l with
  | nil => rfl
  | cons d l ih =>
    rw [cnt_cons, ih, List.count_cons]
    by_cases h : d = c
    · simp [h]; omega
    · simp [h]
theorem count_txt (c : Nat) (l : List Nat) : Txt.count (txt l) ⟨#[c]⟩ = (l.count c : Nat) := by
  rw [count_is, ← cnt_count]
  rfl
noncomputable abbrev crlfS : Str := ⟨#[13, 10]⟩
theorem parts_rows (x : Str) : ∀ (ps : List (List Nat)) (a f : Nat) (cuts : List Nat), a ≤ x.length → x.cps.toList.drop a = ps.flatMap (fun p => p ++ [13, 10]) → (∀ p ∈ ps, 13 ∉ p) →
    ChainG x crlfS x.length a cuts f → (∀ k, f ≤ k → ¬ At x crlfS x.length k) → partsFrom x 2 a cuts = ps.map txt ++ [txt []] := by
  intro ps
  have hX : x.cps.toList.length = x.length := by simp [Str.length]
  have hAt : ∀ k, At x crlfS x.length k ↔ (k + 2 ≤ x.length ∧ (x.cps.toList.drop k).take 2 = [13, 10]) := fun k => by
    unfold At
    rw [subAt_eq]
    show (k + 2 ≤ _ ∧ ((x.cps.toList.drop k).take 2 == [13, 10]) = true) ↔ _
    rw [beq_iff_eq]
  induction ps with
  | nil =>
    intro a f cuts ha hd _ hC _
    have hlen : x.length ≤ a := by
      have := congrArg List.length hd
      simp only [List.length_drop, List.flatMap_nil, List.length_nil] at this
      omega
    cases cuts with
    | nil =>
      show [strSub x a x.length] = [txt []]
      rw [txt_toList (strSub x a x.length) (l := []) (by rw [strSub_toList, hd]; simp)]
    | cons c cs =>
      have h1 := hC.1
      have h2 := ((hAt c).mp hC.2.1).1
      omega
  | cons p ps ih =>
    intro a f cuts ha hd hp hC hn
    rw [List.flatMap_cons, List.append_assoc] at hd
    have hlen := congrArg List.length hd
    simp only [List.length_drop, List.length_append, List.length_cons, List.length_nil] at hlen
    have hdp : x.cps.toList.drop (a + p.length) = [13, 10] ++ ps.flatMap (fun p => p ++ [13, 10]) := by
      rw [← List.drop_drop, hd, List.drop_left]
    have hA : At x crlfS x.length (a + p.length) := (hAt _).mpr ⟨by omega, by rw [hdp]; rfl⟩
    cases cuts with
    | nil =>
      have e : f = a := hC
      exact absurd hA (hn _ (by omega))
    | cons c cs =>
      obtain ⟨h1, h2, h3, h4⟩ := hC
      have hc : c = a + p.length := by
        by_cases hlt : c < a + p.length
        · exfalso
          have h2' := ((hAt c).mp h2).2
          have e13 : x.cps.toList[c]? = some 13 := by
            have := congrArg (fun l : List Nat => l[0]?) h2'
            simpa [List.getElem?_take, List.getElem?_drop] using this
          have e14 : (x.cps.toList.drop a)[c - a]? = some 13 := by rw [List.getElem?_drop, show a + (c - a) = c by omega, e13]
          rw [hd, List.getElem?_append_left (by omega)] at e14
          exact hp p (List.mem_cons_self ..) (List.mem_of_getElem? e14)
        · by_cases hgt : a + p.length < c
          · exact absurd hA (h3 _ (by omega) hgt)
          · omega
      subst hc
      show strSub x a (a + p.length) :: partsFrom x 2 (a + p.length + 2) cs = txt p :: (ps.map txt ++ [txt []])
      rw [ih (a + p.length + 2) f cs (by omega) (by rw [← List.drop_drop, hdp]; rfl) (fun q hq => hp q (List.mem_cons_of_mem _ hq)) h4 hn]
      rw [txt_toList (strSub x a (a + p.length)) (l := p) (by rw [strSub_toList, hd, Nat.add_sub_cancel_left, List.take_left])]
theorem split_rows (ps : List (List Nat)) (hne : ps ≠ []) (hp : ∀ p ∈ ps, 13 ∉ p) : Txt.split (txt (ps.flatMap fun p => p ++ [13, 10])) crlfS = ps.map txt ++ [txt []] := by
  have hx : (txt (ps.flatMap fun p => p ++ [13, 10])).cps.toList = ps.flatMap fun p => p ++ [13, 10] := by simp
  have hl : 2 ≤ (txt (ps.flatMap fun p => p ++ [13, 10])).length := by
    rw [txt_len]
    cases ps with
    | nil => exact absurd rfl hne
    | cons p ps =>
      rw [List.flatMap_cons, List.length_append, List.length_append]
      show 2 ≤ p.length + 2 + _
      omega
  generalize txt (ps.flatMap fun p => p ++ [13, 10]) = x at *
  obtain ⟨f, hG, hn⟩ := occ_tight x crlfS (show 1 ≤ 2 by decide)
  have key := parts_rows x ps 0 f _ (Nat.zero_le _) (by rw [List.drop_zero, hx]) hp hG hn
  unfold Txt.split
  have hk : Str.strKind crlfS = 1 := by decide +kernel
  rw [if_neg, show (crlfS : Str).length = 2 from rfl, partsBetween_eq, key]
  · split
    · rename_i he
      rw [List.isEmpty_iff.mp he] at key
      rw [← key]
      show [x] = [strSub x 0 x.length]
      rw [sub_whole]
    · rfl
  · rw [hk, Bool.or_eq_true, decide_eq_true_eq, decide_eq_true_eq]
    intro h
    rcases h with h | h
    · have : x.length < 2 := h
      omega
    · unfold Str.strKind at h
      split at h
      · omega
      · split at h <;> omega
end Mine
end

noncomputable section
open PySem PySem.W PySem.Calls PyProof.Rows
set_option maxRecDepth 100000
namespace Mine
section
variable {prog : Program} {w : World} {A : Around} {E : Value → Shared → Prop} {s : Shared}
theorem loopRangeC {env : Env} {h₀ : Heap} {x : Str} {px : Pos} {body : List Stmt} {Q : Flow → Shared → Prop} {r : Addr} {a b : Nat} {t u v : Tok} {m₀ : Str → Option Value} {news : List (Addr × Obj)} (hh : A.handled = none)
    (ha : a ≤ 1000000000) (hb : b ≤ 1000000000) (hr : IsRange s.heap r (a : Int) (b : Int) 1 t u v) (F : Fr h₀ env.locals s.heap m₀) (N : News h₀ env.locals s.heap news)
    (J : Nat → (Str → Option Value) → List (Addr × Obj) → Prop) (hj : J 0 m₀ news)
    (turn : ∀ i u m₁ news₁ h tk own (kn : Shared → Prop), i < b - a → J i m₁ news₁ → Fr h₀ env.locals h m₁ → News h₀ env.locals h (news₁ ++ own) → (∀ q ∈ news₁, ∀ p ∈ own, p.1 ≠ q.1) →
      (∀ h' tk' m' news', Fr h₀ env.locals h' m' → News h₀ env.locals h' (news' ++ own) → (∀ q ∈ news', ∀ p ∈ own, p.1 ≠ q.1) → J (i + 1) m' news' → kn { s with heap := h', toks := tk' }) →
      wpAny (model prog w) A (assign (.Name x px) env (.int ((a + i : Nat) : Int) u)) (fun _ s₃ => wpAny (model prog w) A (execs body env) (fun f s₂ => match f with | .ret v => Q (.ret v) s₂ | .brk => Q .next s₂ | _ => kn s₂) E s₃) E { s with heap := h, toks := tk })
    (done : ∀ h tk m₁ news₁, J (b - a) m₁ news₁ → Fr h₀ env.locals h m₁ → News h₀ env.locals h news₁ → Q .next { s with heap := h, toks := tk }) :
    wpAny (model prog w) A (pyIter (.ref r)) (fun it s₂ => TurnsAt prog w A h₀ env (.Name x px) body Q E it s₂) E s := by
  have hsz : Builtin.Range.rangeSize (a : Int) (b : Int) 1 = ((b - a : Nat) : Int) := by
    unfold Builtin.Range.rangeSize
    split <;> (try split) <;> omega
  refine wpAny_pyIter_range hr (small_one (by omega) (by omega) (by omega) (by omega)) ?_
  rw [hsz]
  have hL := F.ns.lt
  have hfr : h₀.get? s.heap.objs.size = none := Heap.get?_none_of_le (Nat.le_trans F.above (Nat.le_of_lt hL))
  have W := Walks.range (prog := prog) (w := w) (A := A) hh s.heap.objs.size (a : Int) 1 (b - a)
  have hIf := W.sub _ (.head _)
  have hfp : ∀ q ∈ news, q.1 ∉ [s.heap.objs.size] := by
    intro q hq hm
    exact absurd (Heap.lt_size (N q hq).1) ((List.mem_singleton.mp hm) ▸ Nat.lt_irrefl _)
  refine ⟨s.heap.objs.size, [s.heap.objs.size], [s.heap.objs.size], b - a, _, _, _, m₀, news, fun i m₁ news₁ => (∀ q ∈ news₁, q.1 ∉ [s.heap.objs.size]) ∧ J i m₁ news₁, rfl,
    KTurns.ofWalks W (fun i v s Q E _ h => wpAny_pure h), ?_, ?_, hfp, (by show IsRangeIter _ _ _ _ _; simpa using Heap.get?_push_size _ rfl), F.push _, (fun p hp => ⟨Heap.get?_push_of_some _ (N p hp).1, (N p hp).2⟩), ⟨hfp, hj⟩, ?_, ?_⟩
  · intro hm
    exact absurd hL ((List.mem_singleton.mp hm) ▸ Nat.lt_irrefl _)
  · intro b hb
    rw [List.mem_singleton.mp hb]; exact hfr
  · rintro i v m₁ news₁ hh' tk' own hin ⟨t, rfl⟩ ⟨hnf, hJ⟩ hoff hown hog hoin hst1 F₁ N₁
    have N₂ : News h₀ env.locals hh' (news₁ ++ own) := fun p hp => N₁ p ((List.mem_append.mp hp).elim (fun h => List.mem_append.mpr (.inr h)) fun h => List.mem_append.mpr (.inl h))
    have e : (a : Int) + (i : Int) * 1 = ((a + i : Nat) : Int) := by omega
    rw [e]
    refine wpAny_mono (turn i t m₁ news₁ hh' tk' own (LoopStepU h₀ env.locals [s.heap.objs.size] own (fun m₁ news₁ => (∀ q ∈ news₁, q.1 ∉ [s.heap.objs.size]) ∧ J (i + 1) m₁ news₁) { s with heap := hh', toks := tk' } .next) hin hJ F₁ N₂ (fun q hq p hp e => hnf q hq (by rw [← e]; exact hown p hp)) ?_) (fun _ s₃ z => wpAny_mono z (fun f s₂ p => ?_) fun _ _ e => e) fun _ _ e => e
    · intro h' tk m' news' F' N' hsep hJ'
      have hnf' : ∀ q ∈ news', q.1 ∉ [s.heap.objs.size] := fun q hq hb => by
        cases e0 : h₀.get? q.1 with
        | some o => have := (N' q (List.mem_append_left _ hq)).2.2; rw [e0] at this; cases this
        | none =>
          obtain ⟨o, ho⟩ : ∃ o, hh'.get? q.1 = some o := by
            rw [List.mem_singleton.mp hb]; exact ⟨_, hst1⟩
          exact hsep q hq _ (hoin q.1 hb e0 o ho) rfl
      exact ⟨rfl, h', tk, m', news', rfl, F', fun p hp => N' p ((List.mem_append.mp hp).elim (fun h => List.mem_append_right _ h) fun h => List.mem_append_left _ h), fun p hp hq => hnf' p hp hq, hnf', hJ'⟩
    · cases f with
      | ret v => exact .ret p
      | brk => exact .brk p
      | next => exact .next p
      | cont => exact .cont p
  · rintro h' tk m' news' F' N' _ ⟨_, hJ⟩
    exact done h' tk m' news' hJ F' N'
end
end Mine
end

noncomputable section
namespace PySem.SeqInW
open MeetsSeq MeetsSeq2 SeqRoads2
theorem range_containsW (r : Addr) (a b x : Int) (t u v tx : Tok) :
    Meets (Builtin.«range.__contains__» ⟨[.ref r, .int x tx], []⟩)
      (fun _ R s => s.heap.get? r = some { cls := .type "range", dict := none, data := .fields #[.int a t, .int b u, .int 1 v], slots := #[] } ∧ R (.ok (.ret (.bool (Builtin.Range.rangePlace? a b 1 x).isSome))) s) := by
  intro prog w A R s h
  obtain ⟨hp, g, d, tk, os⟩ := s; obtain ⟨hl, h⟩ := h
  wp_walk
  exact h
end PySem.SeqInW

open PySem PySem.W PySem.Calls PyProof.Rows
namespace Mine
section
variable {prog : Program} {w : World} {A : Around} {E : Value → Shared → Prop} {s : Shared}
theorem notIn_range {r : Addr} {a b x : Int} {t u v tx : Tok} {Q : Value → Shared → Prop} (hr : IsRange s.heap r a b 1 t u v) (h1 : a ≤ x) (h2 : x < b) (h : Q (.bool false) s) :
    wpAny (model prog w) A (compareOp .NotIn (.int x tx) (.ref r)) Q E s := by
  refine PySem.SeqRoads2.notIn_meets ⟨_, hr, rfl⟩ F.slot_range_contains F.entry_range_contains (F.args_range_contains_2 _ _) (PySem.SeqInW.range_containsW r a b x t u v tx) ⟨hr, _, rfl, ?_⟩
  have e : Builtin.Range.rangePlace? a b 1 x = some ((x - a) / 1) := by
    unfold Builtin.Range.rangePlace?
    simp [h1, h2, Int.emod_one]
  rw [e]; exact h
end
end Mine
end

noncomputable section
open PySem PySem.W PySem.Calls PyProof.Rows
set_option maxRecDepth 100000
namespace Mine
noncomputable def remOf (ds : List Nat) (t k : Nat) : List Nat := if k = 0 then mailOf ds t else if k ≤ ds.length then 10 :: mailOf (ds.drop k) t else []
theorem word_skip (l : List Nat) : word (10 :: l) = word l := by
  show (if ws 10 then word l else _) = _
  rw [if_pos (by decide)]
theorem mail_drop (ds : List Nat) (t k : Nat) (hk : k < ds.length) : mailOf (ds.drop k) t = rep (ds[k] + t) ++ (13 :: 10 :: mailOf (ds.drop (k + 1)) t) := by
  rw [List.drop_eq_getElem_cons hk, mailOf_cons]
theorem word_rem (ds : List Nat) (t k : Nat) (hk : k < ds.length) (h : ∀ d ∈ ds, 1 ≤ d) : word (remOf ds t k) = (rep (ds[k] + t), remOf ds t (k + 1)) := by
  have h1 : 1 ≤ ds[k] + t := Nat.le_trans (h _ (List.getElem_mem hk)) (Nat.le_add_right ..)
  have e : remOf ds t (k + 1) = 10 :: mailOf (ds.drop (k + 1)) t := by
    unfold remOf
    rw [if_neg (by omega), if_pos (by omega)]
  rw [e]
  unfold remOf
  by_cases h0 : k = 0
  · subst h0
    rw [if_pos rfl]
    have := mail_drop ds t 0 hk
    rw [List.drop_zero] at this
    rw [this, word_dots _ h1 _ _ (by decide)]
  · rw [if_neg h0, if_pos (by omega), word_skip, mail_drop ds t k hk, word_dots _ h1 _ _ (by decide)]
theorem word_rem_last (ds : List Nat) (t : Nat) (h : ds ≠ []) : word (remOf ds t ds.length) = ([], []) := by
  have hl : 0 < ds.length := List.length_pos_iff.mpr h
  unfold remOf
  rw [if_neg (by omega), if_pos (Nat.le_refl _), List.drop_length, word_skip]; rfl
theorem rem_end (ds : List Nat) (t : Nat) : remOf ds t (ds.length + 1) = [] := by
  unfold remOf
  rw [if_neg (by omega), if_neg (by omega)]
theorem nls_mail (ds : List Nat) (t : Nat) : nls (mailOf ds t) = ds.length := by
  induction ds with
  | nil => rfl
  | cons d ds ih =>
    rw [mailOf_cons]
    have e : nls (rep (d + t) ++ 13 :: 10 :: mailOf ds t) = nls (13 :: 10 :: mailOf ds t) := by
      unfold nls
      rw [List.count_append, List.count_replicate]; simp
    rw [e, nls_cons, nls_cons, ih]
    simp
theorem mail_asc (ds : List Nat) (t : Nat) : ∀ c ∈ mailOf ds t, c < 128 := by
  intro c hc
  obtain ⟨d, _, hc⟩ := List.mem_flatMap.mp hc
  rcases List.mem_append.mp hc with hc | hc
  · rw [List.eq_of_mem_replicate hc]; decide
  · simp only [List.mem_cons, List.not_mem_nil, or_false] at hc
    rcases hc with rfl | rfl <;> decide
theorem rem_asc (ds : List Nat) (t k : Nat) : ∀ c ∈ remOf ds t k, c < 128 := by
  unfold remOf
  split
  · exact mail_asc ds t
  · split
    · intro c hc
      rcases List.mem_cons.mp hc with rfl | hc
      · decide
      · exact mail_asc _ t c hc
    · intro c hc; cases hc
theorem mail_len (ds : List Nat) (t : Nat) (hd1 : ∀ d ∈ ds, d ≤ 1000) (ht : t ≤ 100) : (mailOf ds t).length ≤ 1200 * ds.length := by
  induction ds with
  | nil => exact Nat.zero_le _
  | cons d ds ih =>
    have := ih fun q hq => hd1 q (List.mem_cons_of_mem _ hq)
    have := hd1 d (List.mem_cons_self ..)
    rw [mailOf_cons, List.length_append, List.length_replicate]
    simp only [List.length_cons]
    omega
theorem rem_len (ds : List Nat) (t k : Nat) (hd1 : ∀ d ∈ ds, d ≤ 1000) (ht : t ≤ 100) : (remOf ds t k).length ≤ 1200 * ds.length + 1 := by
  unfold remOf
  split
  · have := mail_len ds t hd1 ht; omega
  · split
    · have := mail_len (ds.drop k) t (fun d hd => hd1 d (List.mem_of_mem_drop hd)) ht
      rw [List.length_drop] at this
      rw [List.length_cons]
      have := Nat.mul_le_mul_left 1200 (Nat.sub_le ds.length k)
      omega
    · exact Nat.zero_le _
noncomputable def mailWords (ds : List Nat) (t : Nat) : List Str := (ds.map fun d => txt (rep (d + t))) ++ [txt []]
end Mine
end

noncomputable section
open PySem PySem.W PySem.Calls PyProof.Rows
namespace Mine
set_option maxRecDepth 100000
theorem dummy : PySem.Challenge.rw_sc0094_01 = PySem.Challenge.rw_sc0094_01 ∧ hdK.heap_1 = hdK.heap_1 := by
  k_fill
  exact ⟨rfl, rfl⟩
variable {w : World} {prog : Program}
-- an opaque tail of a ledger
local macro_rules | `(tactic| k_all) => `(tactic| first | with_reducible assumption | exact Low.ne (by with_reducible assumption) (by omega))
local macro_rules | `(tactic| walk_at "assign Tuple") => `(tactic| (k_here; (with_reducible show wpAny _ _ (assign (Expr.Tuple _ _ _) _ (Value.ref _)) _ _ _); k_dflt (refine' unpackN_ ?F ?N ?T ?k1 ?k2 ?k3 ?_; (case F | N => k_asm); (case T => (refine News.isTup (by k_asm) (by k_mem))); (case k1 => assumption); (case k2 | k3 => exact rfl); k_whole); intro h' F' N'; (try k_sweep)))
-- walk to the next test; walk on to a call; walk to a loop
local macro_rules | `(tactic| walk_at "unpackItems ref") => `(tactic| (k_here; k_dflt (refine' unpackItemsN_ ?k1 ?k2 ?k3 ?k4 ?k5 ?_; (case k1 | k2 => k_asm); (case k3 => (refine News.isTup (by k_asm) (by k_mem))); (case k4 => assumption); (case k5 => exact rfl); k_whole); intro h' F' N'; (try k_sweep)))
noncomputable section
theorem walkOff_C1 : True := by
  w_top off
  exact True.intro
noncomputable abbrev pairO (x y : Value) : Obj := { cls := .type "tuple", data := .seq #[x, y] }

set_option maxHeartbeats 2000000 in
theorem div2n1n {a b n : Int} {ta tb tn : Tok} (hb : 0 < b) (hbits : (Builtin.Int.intBits a : Int) - n ≤ 4000) (hpy : Builtin.divisionGoesByPylong a b = false) :
    Meets prog w (hdK.heap_1 w.params) (.call (.ref 45) ⟨[.int a ta, .int b tb, .int n tn], []⟩) [] 1 10 (fun n₀ v l => ∃ r t1 t2, n₀ ≤ r ∧ v = .ref r ∧ l = [(r, pairO (.int (a.fdiv b) t1) (.int (a.fmod b) t2))]) := by
  refine meets_def (by k_is) (by k_is) (fun s => BindsTo.of_eq rfl) (locs rfl) (by decide) (fun A s g p loose mean mg mb n₀ L h₁ tk k hh hdep hu X T hn hfp F N hk => ?_)
  try dsimp only
  repeat' (first | walk1 | (dsimp only; walk1))
  refine divmod_N F N (by omega) (fun h' F' N' => ?_) (.inl hpy)
  exact hk _ _ _ _ _ ⟨_, _, _, Nat.le_trans hn (Nat.le_of_lt F.ns.lt), rfl, rfl⟩ F' N'
end

noncomputable section
theorem walkOff_C2 : True := by
  w_top off
  exact True.intro
noncomputable def o59 (P : Params) : { o : Obj // (hdK.heap_1 P).lookup 59 = some o } := ⟨_, by k_is⟩
noncomputable def in59 (P : Params) : { x : Arguments × List Stmt × Scope // defAt (o59 P).1 1 = some x } := ⟨_, rfl⟩

noncomputable abbrev i2dFn (P : Params) (qual : Str) (doc pm : Value) (c' : Addr) (ctv : Value) (cN cI cA : Addr) : Obj :=
  fnMade (Str.ofString "inner") qual (in59 P).1.1 (in59 P).1.2.1 (in59 P).1.2.2 [(Str.ofString "n", cN), (Str.ofString "inner", cI), (Str.ofString "a_digits", cA)] doc pm c' ctv
set_option maxHeartbeats 8000000 in
theorem i2d_inner {qual : Str} {doc pm ctv : Value} {f c' cN cI cA l : Nat} {oc oN oI oA : Obj} {cvs : Array Value} {tq tn : Tok} {b : Nat} {tl : List (Addr × Obj)}
    (hmem : (c', oc) ∈ tl) (hcd : oc.data = .fields cvs) (hcv : cvs[1]? = some (.str qual tq)) (dN : oN.data = .cell (some (.int (b : Int) tn))) (dI : oI.data = .cell (some (.ref f))) (dA : oA.data = .cell (some (.ref l)))
    (hb : 1 ≤ b) (hb2 : b ≤ 1000) (hC : ∀ g, (hdK.heap_1 w.params).In g → CodeHd g 58 54) (n1 : l < f) (n3 : cN < l) (n4 : cI < l) (n5 : cA < l) (hoff : ∀ p ∈ tl, p.1 ≠ l) :
    ∀ (k : Nat) (L R : Nat) (x : Int) (tx tL tR : Tok) (ns : List Int) (vs : List Value) (nn : Nat), R = L + k → 0 < k → k ≤ 100 → R ≤ ns.length → ns.length ≤ 1000 → 0 ≤ x → x < 2 ^ (b * k) → IntsAre vs ns →
    Meets prog w (hdK.heap_1 w.params) (.call (.ref f) ⟨[.int x tx, .int (L : Int) tL, .int (R : Int) tR], []⟩)
      ((f, i2dFn w.params qual doc pm c' ctv cN cI cA) :: (cN, oN) :: (cI, oI) :: (cA, oA) :: (l, listOf vs.toArray nn) :: tl) (k + 1) (20 * k + 20)
      (fun n₀ v l' => v = .none ∧ ∃ vs' nn' ns', Put b x L k ns ns' ∧ IntsAre vs' ns' ∧ l' = (f, i2dFn w.params qual doc pm c' ctv cN cI cA) :: (cN, oN) :: (cI, oI) :: (cA, oA) :: (l, listOf vs'.toArray nn') :: tl) := by
  intro k
  induction k using Nat.strongRecOn with
  | ind k ih =>
  intro L R x tx tL tR ns vs nn hR hk0 hk1 hRl hRb hx0 hx1 hI
  refine meets_nest (List.Mem.head _) (List.mem_cons_of_mem _ (List.mem_cons_of_mem _ (List.mem_cons_of_mem _ (List.mem_cons_of_mem _ (List.mem_cons_of_mem _ hmem))))) hcd hcv (fun s => BindsTo.of_eq rfl) (locs rfl) (by dsimp only [in59]; decide) (fun A s g p loose mean mg mb n₀ Lf h₁ tk kk hh hdep hu X T hn hfp F N hk => ?_) (by omega)
  have hlen := hI.length
  clear hfp
  dsimp only [i2dFn, in59] at N ⊢
  have C : CodeHd g 58 54 := hC g X
  have hcLine : cLine = 9900 := rfl
  have hrec : recursionLimit = 1000 := rfl
  (repeat' (first | walk1 | (dsimp only; walk1)))
  · with_reducible rename Fr _ _ _ _ => F2
    with_reducible rename News _ _ _ _ => N2
    with_reducible rename IntsAre _ _ => hi2
    rw [Int.toNat_natCast] at N2 hi2
    have hk1' : k = 1 := by omega
    subst hk1'
    exact hk _ _ _ _ _ ⟨rfl, _, _, _, put_one (by omega) hx0 hx1, hi2, rfl⟩ F2 N2
  · with_reducible rename Fr _ _ _ _ => F2
    with_reducible rename News _ _ _ _ => N2
    subst hR
    rw [half_sum] at F2 ⊢
    have hsh : ((((L + k / 2 : Nat) : Int)) - (L : Int)) * (b : Int) = ((b * (k / 2) : Nat) : Int) := by
      rw [show (((L + k / 2 : Nat) : Int)) - (L : Int) = ((k / 2 : Nat) : Int) by omega, Int.natCast_mul, Int.mul_comm]
    rw [hsh] at F2 ⊢
    refine rshift_int (by omega) ?_
    rw [Int.toNat_natCast]
    (repeat' (first | walk1 | (dsimp only; walk1)))
    have hm1 : 1 ≤ k / 2 := by omega
    have hpow : (0 : Int) < 2 ^ (b * (k / 2)) := Int.pow_pos (by decide)
    have hup0 : 0 ≤ x / 2 ^ (b * (k / 2)) := Int.ediv_nonneg hx0 (Int.le_of_lt hpow)
    have hup1 := high_lt (m := k / 2) (by omega) hx1
    have hf : x.fdiv (2 ^ (b * (k / 2))) = x / 2 ^ (b * (k / 2)) := Int.fdiv_eq_ediv_of_nonneg _ (Int.le_of_lt hpow)
    have hbk : b * (k - k / 2) ≤ 100000 := Nat.le_trans (Nat.mul_le_mul hb2 (show k - k / 2 ≤ 100 by omega)) (by decide)
    have hbk2 : b * (k / 2) ≤ 100000 := Nat.le_trans (Nat.mul_le_mul hb2 (show k / 2 ≤ 100 by omega)) (by decide)
    refine lshift_int (by omega) ?_ ?_
    · have := bits_le_pow hup0 hup1
      rw [hf]
      omega
    rw [Int.toNat_natCast]
    refine xor_int ?_
    rw [xor_low hx0]
    (repeat' (first | walk1 | (dsimp only; walk1)))
    try clear F2 N2
    with_reducible rename Fr _ _ _ _ => F2
    with_reducible rename News _ _ _ _ => N2
    refine Meets.call [] (ih (k / 2) (by omega) L (L + k / 2) _ _ _ _ ns vs nn rfl (by omega) (by omega) (by omega) hRb (Int.emod_nonneg _ (Int.ne_of_gt hpow)) (Int.emod_lt_of_pos _ hpow) hI) F2 N2 X T
      (by (repeat' (first | exact List.forall_mem_nil _ | (refine List.forall_mem_cons.mpr ⟨?_, ?_⟩) | k_mem | (intro pS hS; repeat (first | exact hS | refine List.mem_cons_of_mem _ ?_ | refine List.mem_append_right _ ?_))))) (by (repeat' (first | exact List.forall_mem_nil _ | (refine List.forall_mem_cons.mpr ⟨?_, ?_⟩) | k_mem | (intro pS hS; repeat (first | exact hS | refine List.mem_cons_of_mem _ ?_ | refine List.mem_append_right _ ?_))))) (by (repeat' (first | exact List.forall_mem_nil _ | exact (fun _ _ _ h => absurd h List.not_mem_nil) | k_all | (refine List.forall_mem_cons.mpr ⟨?_, ?_⟩)))) hh (by omega) (by omega) ?_
    intro n₁ v l₁ h₂ tk₂ hp F3 N3 o1 o2 o3 o4
    obtain ⟨rfl, vs1, nn1, ns1, hput1, hi1, rfl⟩ := hp
    dsimp only [i2dFn, in59, List.append_nil, List.cons_append, List.nil_append] at N3
    clear F2 N2 o1 o2 o3 o4
    simp only [List.append_nil] at N3
    (repeat' (first | walk1 | (dsimp only; walk1)))
    rw [hf]
    refine Meets.call [] (ih (k - k / 2) (by omega) (L + k / 2) (L + k) _ _ _ _ ns1 vs1 nn1 (by omega) (by omega) (by omega) (by rw [hput1.1]; exact hRl) (by rw [hput1.1]; exact hRb) hup0 hup1 hi1) F3 N3 X T
      (by (repeat' (first | exact List.forall_mem_nil _ | (refine List.forall_mem_cons.mpr ⟨?_, ?_⟩) | k_mem | (intro pS hS; repeat (first | exact hS | refine List.mem_cons_of_mem _ ?_ | refine List.mem_append_right _ ?_))))) (by (repeat' (first | exact List.forall_mem_nil _ | (refine List.forall_mem_cons.mpr ⟨?_, ?_⟩) | k_mem | (intro pS hS; repeat (first | exact hS | refine List.mem_cons_of_mem _ ?_ | refine List.mem_append_right _ ?_))))) (by (repeat' (first | exact List.forall_mem_nil _ | exact (fun _ _ _ h => absurd h List.not_mem_nil) | k_all | (refine List.forall_mem_cons.mpr ⟨?_, ?_⟩)))) hh (by omega) (by omega) ?_
    intro n₁ v l₁ h₂ tk₂ hp F4 N4 o1 o2 o3 o4
    obtain ⟨rfl, vs2, nn2, ns2, hput2, hi2, rfl⟩ := hp
    dsimp only [i2dFn, in59, List.append_nil, List.cons_append, List.nil_append] at N4
    simp only [List.append_nil] at N4
    clear F3 N3 o1 o2 o3 o4
    (repeat' (first | walk1 | (dsimp only; walk1)))
    exact hk _ _ _ _ _ ⟨rfl, _, _, _, put_two (by omega) hput1 hput2, hi2, rfl⟩ F4 N4
end

noncomputable section
theorem walkOff_C3 : True := by
  w_top off
  exact True.intro
noncomputable def TabsOk (tl : List (Addr × Obj)) : Prop := ∃ t1 t2, tl = t1 ++ t2 ∧ TabOk 54 36 4 (Str.ofString "_int2digits.<locals>.inner") t1 ∧ TabOk 61 51 4 (Str.ofString "_digits2int.<locals>.inner") t2 ∧ (tl.map (·.1)).Nodup
section
variable {M : Model} {A : Around} {E : Value → Shared → Prop} {s : Shared} {h₀ : Heap} {L a c : Nat} {m mg mb : Str → Option Value} {cn : Str} {cs : Scope} {cl : List (Str × Addr)} {own tl : List (Addr × Obj)}
    {p : Program} {loose : List Str} {mean : ExcName → Option Value} {name : Str} {params : Arguments} {body : List Stmt} {scope : Scope} {pos : Pos} {firstLine : Nat} {clos : List (Str × Addr)} {Q : Value → Shared → Prop}
theorem make1 (F : Fr h₀ L s.heap m) (N : News h₀ L s.heap (own ++ tl)) (T : Top p loose mean mg mb h₀) (C : CodeHd h₀ c 54) (ht : TabsOk tl) (hown : ∀ q ∈ own, ∀ p ∈ tl, p.1 ≠ q.1)
    (hcl : closureFor scope (envX cn cs L a (.ref c) cl) = pure clos) (hl : pos.line = 36) (hc : pos.col = 4)
    (h : ∀ (f c' : Nat) tl' oc vs tq ctv doc h' tk, TabsOk tl' → (c', oc) ∈ tl' → oc.data = .fields vs → vs[1]? = some (.str (Str.ofString "_int2digits.<locals>.inner") tq) → Fr h₀ L h' m →
      News h₀ L h' ((f, fnMade name (Str.ofString "_int2digits.<locals>.inner") params body scope clos doc ((mg "__name__").getD .none) c' ctv) :: (own ++ tl')) →
      (∀ q ∈ own, ∀ p ∈ tl', p.1 ≠ q.1) → AllLt f own → Low f tl' → @LT.lt Nat _ L f → Q (.ref f) { s with heap := h', toks := tk }) :
    wpAny M A (makeFunction name (Str.ofString "_int2digits.<locals>.inner") params (.stmts body) scope (envX cn cs L a (.ref c) cl) [] [] [] pos firstLine) Q E s := by
  obtain ⟨t1, t2, rfl, h1, h2, hnd⟩ := ht
  refine makeTab (pre := []) (t := t1) (post := t2) F N T C rfl (by rw [hl, hc]; exact h1) hown hnd hcl fun f c' t' ctv doc h' tk hM F' N' nd' hap hlt hlo hLf => ?_
  rw [hl, hc] at hM
  obtain ⟨oc, vs, tq, hm, hd, hv⟩ := hM.rec'
  exact h f c' (t' ++ t2) oc vs tq ctv doc h' tk ⟨t', t2, rfl, hM.ok, h2, nd'⟩ (List.mem_append_left _ hm) hd hv F' N' hap hlt hlo hLf
theorem make2 (F : Fr h₀ L s.heap m) (N : News h₀ L s.heap (own ++ tl)) (T : Top p loose mean mg mb h₀) (C : CodeHd h₀ c 61) (ht : TabsOk tl) (hown : ∀ q ∈ own, ∀ p ∈ tl, p.1 ≠ q.1)
    (hcl : closureFor scope (envX cn cs L a (.ref c) cl) = pure clos) (hl : pos.line = 51) (hc : pos.col = 4)
    (h : ∀ (f c' : Nat) tl' oc vs tq ctv doc h' tk, TabsOk tl' → (c', oc) ∈ tl' → oc.data = .fields vs → vs[1]? = some (.str (Str.ofString "_digits2int.<locals>.inner") tq) → Fr h₀ L h' m →
      News h₀ L h' ((f, fnMade name (Str.ofString "_digits2int.<locals>.inner") params body scope clos doc ((mg "__name__").getD .none) c' ctv) :: (own ++ tl')) →
      (∀ q ∈ own, ∀ p ∈ tl', p.1 ≠ q.1) → AllLt f own → Low f tl' → @LT.lt Nat _ L f → Q (.ref f) { s with heap := h', toks := tk }) :
    wpAny M A (makeFunction name (Str.ofString "_digits2int.<locals>.inner") params (.stmts body) scope (envX cn cs L a (.ref c) cl) [] [] [] pos firstLine) Q E s := by
  obtain ⟨t1, t2, rfl, h1, h2, hnd⟩ := ht
  refine makeTab (pre := t1) (t := t2) (post := []) F (by simpa using N) T C rfl (by rw [hl, hc]; exact h2) (by simpa using hown) (by simpa using hnd) hcl fun f c' t' ctv doc h' tk hM F' N' nd' hap hlt hlo hLf => ?_
  rw [hl, hc] at hM
  obtain ⟨oc, vs, tq, hm, hd, hv⟩ := hM.rec'
  exact h f c' (t1 ++ t') oc vs tq ctv doc h' tk ⟨t1, t', rfl, h1, hM.ok, by simpa using nd'⟩ (List.mem_append_right _ hm) hd hv F' (by simpa using N') (by simpa using hap) hlt (by simpa using hlo) hLf
end
noncomputable def digs (b c : Nat) (x : Int) : List Int := (List.range c).map (dig b x)
theorem put_all {b c : Nat} {x : Int} {ns ns' : List Int} (hl : ns.length = c) (h : Put b x 0 c ns ns') : ns' = digs b c x := by
  apply List.ext_getElem?
  intro i
  rw [h.2 i]
  by_cases q : i < c
  · rw [if_pos (by omega)]
    simp [digs, q]
  · rw [if_neg (by omega)]
    simp [digs, q, hl]
set_option maxHeartbeats 8000000 in
theorem int2digits {a : Int} {ta tn : Tok} {b c : Nat} {tl : List (Addr × Obj)} (hb1 : 1 ≤ b) (hb2 : b ≤ 1000) (ha : 0 ≤ a) (hc : ((Builtin.Int.intBits a : Int) + (b : Int) - 1).fdiv (b : Int) = (c : Int)) (hc2 : c ≤ 100) (hlt0 : a < 2 ^ (b * c)) (ht : TabsOk tl) (hC : ∀ g, (hdK.heap_1 w.params).In g → CodeHd g 58 54) :
    Meets prog w (hdK.heap_1 w.params) (.call (.ref 59) ⟨[.int a ta, .int (b : Int) tn], []⟩) tl 110 2100 (fun n₀ v l => ∃ (D : Nat) (vs : List Value) (nn : Nat) (tl' : List (Addr × Obj)), v = .ref D ∧ IntsAre vs (digs b c a) ∧ n₀ < D ∧ TabsOk tl' ∧ (∀ p ∈ tl', p.1 ≠ D) ∧ l = (D, listOf vs.toArray nn) :: tl') := by
  refine meets_defC (by k_is) (by k_is) (fun s => BindsTo.of_eq rfl) rfl (by decide +kernel) (fun A s g p loose mean mg mb n₀ L h₁ tk cells k hh hdep hu X T hn hfp hfp2 F N Y hk => ?_)
  try dsimp only
  k_cells Y
  have C := hC g X
  try simp only [List.cons_append, List.nil_append] at N
  have hlow : Low n₀ tl := hfp
  clear hfp hfp2
  have hcLine : cLine = 9900 := rfl
  have hrec : recursionLimit = 1000 := rfl
  (repeat' (first | walk1 | (dsimp only; walk1)))
  with_reducible rename Fr _ _ _ _ => F2
  with_reducible rename News _ _ _ _ => N2
  rename_i D _ i1 n1 s1 e1 _ e3 _ _ oA dA
  refine nestDef_K rfl rfl rfl ?_
  refine make1 (own := [_, _, _, _, _]) F2 N2 T C ht (by (repeat' (first | exact List.forall_mem_nil _ | exact (fun _ _ _ h => absurd h List.not_mem_nil) | k_all | (refine List.forall_mem_cons.mpr ⟨?_, ?_⟩)))) rfl rfl rfl (fun f c' tl' oc vs tq ctv doc h' tk ht' hm hcd hcv F4 N4 hap hlt hlo hLf => ?_)
  simp only [List.cons_append, List.nil_append] at N4
  simp only [List.forall_mem_cons, List.forall_mem_nil, and_true] at hap
  obtain ⟨ha1, ha2, ha3, ha4, ha5⟩ := hap
  simp only [AllLt, and_true] at hlt
  clear ht hlow F2 N2
  have ec := e3 (by omega)
  rw [hc] at ec i1 s1 e1 N4
  clear e3
  (repeat' (first | walk1 | (dsimp only; walk1)))
  · with_reducible rename Fr _ _ _ _ => F2
    with_reducible rename News _ _ _ _ => N2
    have en : (List.replicate ((c : Int)).toNat [(0 : Int)]).flatten.length = c := by simp
    have hcpos : 0 < c := by
      rcases Nat.eq_zero_or_pos c with h0 | h0
      · subst h0
        rw [Nat.mul_zero] at hlt0
        have : a < 1 := hlt0
        omega
      · exact h0
    have hn1c := en.symm.trans e1
    subst hn1c
    have S := fun tx tL tR => i2d_inner (w := w) (prog := prog) (qual := Str.ofString "_int2digits.<locals>.inner") (doc := doc) (pm := (mg "__name__").getD .none) (ctv := ctv) (f := f) (l := D) (oA := oA) (cA := L + 1 + 1) (cI := L + 1 + 1 + 1) (cN := L + 1) hm hcd hcv (by assumption) (by assumption) (by assumption) hb1 hb2 hC (by omega) (by omega) (by omega) (by omega) (by assumption) c 0 c a tx tL tR _ _ 0 (by omega) hcpos hc2 (by omega) (by omega) ha hlt0 i1
    refine Meets.call [] (S _ _ _) F2 N2 X T (by (repeat' (first | exact List.forall_mem_nil _ | (refine List.forall_mem_cons.mpr ⟨?_, ?_⟩) | k_mem | (intro pS hS; repeat (first | exact hS | refine List.mem_cons_of_mem _ ?_ | refine List.mem_append_right _ ?_))))) (by (repeat' (first | exact List.forall_mem_nil _ | (refine List.forall_mem_cons.mpr ⟨?_, ?_⟩) | k_mem | (intro pS hS; repeat (first | exact hS | refine List.mem_cons_of_mem _ ?_ | refine List.mem_append_right _ ?_))))) (by (repeat' (first | exact List.forall_mem_nil _ | exact (fun _ _ _ h => absurd h List.not_mem_nil) | k_all | (refine List.forall_mem_cons.mpr ⟨?_, ?_⟩)))) hh (by omega) (by omega) ?_
    clear S
    intro n₁ v l₁ h₂ tk₂ hp F3 N3 o1 o2 o3 o4
    obtain ⟨rfl, vs1, nn1, ns1, hput1, hi1, rfl⟩ := hp
    dsimp only [i2dFn, in59, List.append_nil, List.cons_append, List.nil_append] at N3
    simp only [List.append_nil] at N3
    clear F2 N2 o1 o2 o3 o4
    (repeat' (first | walk1 | (dsimp only; walk1)))
    have e5 := put_all en hput1
    subst e5
    exact hk _ _ _ _ _ ⟨_, _, _, _, rfl, hi1, by omega, ht', by with_reducible assumption, rfl⟩ F3 (fun p hp => N3 p (by
      rcases List.mem_cons.mp hp with rfl | hp
      · k_mem
      · exact List.mem_cons_of_mem _ (List.mem_cons_of_mem _ (List.mem_cons_of_mem _ (List.mem_cons_of_mem _ (List.mem_cons_of_mem _ hp))))))
  · with_reducible rename Fr _ _ _ _ => F2
    with_reducible rename News _ _ _ _ => N2
    have h0 : a = 0 := by assumption
    subst h0
    have hc0 : c = 0 := by
      have : ((Builtin.Int.intBits 0 : Int) + (b : Int) - 1).fdiv (b : Int) = 0 := by
        show ((0 : Int) + (b : Int) - 1).fdiv (b : Int) = 0
        rw [Int.fdiv_eq_ediv_of_nonneg _ (by omega)]
        exact Int.ediv_eq_zero_of_lt (by omega) (by omega)
      omega
    subst hc0
    exact hk _ _ _ _ _ ⟨_, _, _, _, rfl, i1, by omega, ht', by with_reducible assumption, rfl⟩ F2 (fun p hp => N2 p (by
      rcases List.mem_cons.mp hp with rfl | hp
      · k_mem
      · exact List.mem_cons_of_mem _ (List.mem_cons_of_mem _ (List.mem_cons_of_mem _ (List.mem_cons_of_mem _ (List.mem_cons_of_mem _ (List.mem_cons_of_mem _ hp)))))))
end

noncomputable section
theorem walkOff_C4 : True := by
  w_top off
  exact True.intro
noncomputable def o66 (P : Params) : { o : Obj // (hdK.heap_1 P).lookup 66 = some o } := ⟨_, by k_is⟩
noncomputable def in66 (P : Params) : { x : Arguments × List Stmt × Scope // defAt (o66 P).1 0 = some x } := ⟨_, rfl⟩

noncomputable abbrev d2iFn (P : Params) (qual : Str) (doc pm : Value) (c' : Addr) (ctv : Value) (cN cI cD : Addr) : Obj :=
  fnMade (Str.ofString "inner") qual (in66 P).1.1 (in66 P).1.2.1 (in66 P).1.2.2 [(Str.ofString "n", cN), (Str.ofString "inner", cI), (Str.ofString "digits", cD)] doc pm c' ctv
set_option maxHeartbeats 8000000 in
theorem d2i_inner {qual : Str} {doc pm ctv : Value} {f c' cN cI cD l : Nat} {oc oN oI oD : Obj} {cvs : Array Value} {tq tn : Tok} {b : Nat} {tl : List (Addr × Obj)} {ns : List Int} {vs : List Value} {nn : Nat}
    (hmem : (c', oc) ∈ tl) (hcd : oc.data = .fields cvs) (hcv : cvs[1]? = some (.str qual tq)) (dN : oN.data = .cell (some (.int (b : Int) tn))) (dI : oI.data = .cell (some (.ref f))) (dD : oD.data = .cell (some (.ref l)))
    (hb : 1 ≤ b) (hb2 : b ≤ 1000) (hC : ∀ g, (hdK.heap_1 w.params).In g → CodeHd g 65 61) (hRb : ns.length ≤ 100) (hI : IntsAre vs ns) (hds : ∀ d ∈ ns, 0 ≤ d ∧ d < 2 ^ b) :
    ∀ (k : Nat) (L R : Nat) (tL tR : Tok), R = L + k → 0 < k → R ≤ ns.length →
    Meets prog w (hdK.heap_1 w.params) (.call (.ref f) ⟨[.int (L : Int) tL, .int (R : Int) tR], []⟩)
      ((f, d2iFn w.params qual doc pm c' ctv cN cI cD) :: (cN, oN) :: (cI, oI) :: (cD, oD) :: (l, listOf vs.toArray nn) :: tl) (k + 1) (20 * k + 20)
      (fun n₀ v l' => ∃ t, v = .int (val b (part L k ns)) t ∧ l' = (f, d2iFn w.params qual doc pm c' ctv cN cI cD) :: (cN, oN) :: (cI, oI) :: (cD, oD) :: (l, listOf vs.toArray nn) :: tl) := by
  intro k
  induction k using Nat.strongRecOn with
  | ind k ih =>
  intro L R tL tR hR hk0 hRl
  refine meets_nest (List.Mem.head _) (List.mem_cons_of_mem _ (List.mem_cons_of_mem _ (List.mem_cons_of_mem _ (List.mem_cons_of_mem _ (List.mem_cons_of_mem _ hmem))))) hcd hcv (fun s => BindsTo.of_eq rfl) (locs rfl) (by dsimp only [in66]; decide) (fun A s g p loose mean mg mb n₀ Lf h₁ tk kk hh hdep hu X T hn hfp F N hk => ?_) (by omega)
  have hlen := hI.length
  clear hfp
  dsimp only [d2iFn, in66] at N ⊢
  have C : CodeHd g 65 61 := hC g X
  have hcLine : cLine = 9900 := rfl
  have hrec : recursionLimit = 1000 := rfl
  (repeat' (first | walk1 | (dsimp only; walk1)))
  · with_reducible rename Fr _ _ _ _ => F2
    with_reducible rename News _ _ _ _ => N2
    rw [Int.toNat_natCast]
    have hk1' : k = 1 := by omega
    subst hk1'
    rw [← part_one (by omega) b]
    exact hk _ _ _ _ _ ⟨_, rfl, rfl⟩ F2 N2
  · with_reducible rename Fr _ _ _ _ => F2
    with_reducible rename News _ _ _ _ => N2
    subst hR
    rw [half_sum] at F2 ⊢
    have hsh : ((((L + k / 2 : Nat) : Int)) - (L : Int)) * (b : Int) = ((b * (k / 2) : Nat) : Int) := by
      rw [show (((L + k / 2 : Nat) : Int)) - (L : Int) = ((k / 2 : Nat) : Int) by omega, Int.natCast_mul, Int.mul_comm]
    rw [hsh] at F2
    have hbk : b * (k - k / 2) ≤ 100000 := Nat.le_trans (Nat.mul_le_mul hb2 (show k - k / 2 ≤ 100 by omega)) (by decide)
    have hbk2 : b * (k / 2) ≤ 100000 := Nat.le_trans (Nat.mul_le_mul hb2 (show k / 2 ≤ 100 by omega)) (by decide)
    have S := fun tL tR => ih (k - k / 2) (by omega) (L + k / 2) (L + k) tL tR (by omega) (by omega) (by omega)
    refine Meets.call [] (S _ _) F2 N2 X T (by (repeat' (first | exact List.forall_mem_nil _ | (refine List.forall_mem_cons.mpr ⟨?_, ?_⟩) | k_mem | (intro pS hS; repeat (first | exact hS | refine List.mem_cons_of_mem _ ?_ | refine List.mem_append_right _ ?_))))) (by (repeat' (first | exact List.forall_mem_nil _ | (refine List.forall_mem_cons.mpr ⟨?_, ?_⟩) | k_mem | (intro pS hS; repeat (first | exact hS | refine List.mem_cons_of_mem _ ?_ | refine List.mem_append_right _ ?_))))) (by (repeat' (first | exact List.forall_mem_nil _ | exact (fun _ _ _ h => absurd h List.not_mem_nil) | k_all | (refine List.forall_mem_cons.mpr ⟨?_, ?_⟩)))) hh (by omega) (by omega) ?_
    clear S
    intro n₁ v l₁ h₂ tk₂ hp F3 N3 o1 o2 o3 o4
    obtain ⟨t3, rfl, rfl⟩ := hp
    dsimp only [d2iFn, in66, List.append_nil, List.cons_append, List.nil_append] at N3
    simp only [List.append_nil] at N3
    clear F2 N2 o1 o2 o3 o4
    (repeat' (first | walk1 | (dsimp only; walk1)))
    have hv := val_bound (b := b) (xs := part (L + k / 2) (k - k / 2) ns) (part_mem hds)
    rw [part_len (by omega)] at hv
    refine lshift_int (by omega) ?_ ?_
    · have := bits_le_pow hv.1 hv.2
      omega
    rw [Int.toNat_natCast]
    (repeat' (first | walk1 | (dsimp only; walk1)))
    have S := fun tL tR => ih (k / 2) (by omega) L (L + k / 2) tL tR (by omega) (by omega) (by omega)
    refine Meets.call [] (S _ _) F3 N3 X T (by (repeat' (first | exact List.forall_mem_nil _ | (refine List.forall_mem_cons.mpr ⟨?_, ?_⟩) | k_mem | (intro pS hS; repeat (first | exact hS | refine List.mem_cons_of_mem _ ?_ | refine List.mem_append_right _ ?_))))) (by (repeat' (first | exact List.forall_mem_nil _ | (refine List.forall_mem_cons.mpr ⟨?_, ?_⟩) | k_mem | (intro pS hS; repeat (first | exact hS | refine List.mem_cons_of_mem _ ?_ | refine List.mem_append_right _ ?_))))) (by (repeat' (first | exact List.forall_mem_nil _ | exact (fun _ _ _ h => absurd h List.not_mem_nil) | k_all | (refine List.forall_mem_cons.mpr ⟨?_, ?_⟩)))) hh (by omega) (by omega) ?_
    clear S
    intro n₁ v l₁ h₂ tk₂ hp F4 N4 o1 o2 o3 o4
    obtain ⟨t4, rfl, rfl⟩ := hp
    dsimp only [d2iFn, in66, List.append_nil, List.cons_append, List.nil_append] at N4
    simp only [List.append_nil] at N4
    clear F3 N3 o1 o2 o3 o4
    (repeat' (first | walk1 | (dsimp only; walk1)))
    rw [← part_two (by omega) (by omega) b]
    exact hk _ _ _ _ _ ⟨_, rfl, rfl⟩ F4 N4
set_option maxHeartbeats 8000000 in
theorem digits2int {tn : Tok} {b l : Nat} {ns : List Int} {vs : List Value} {nn : Nat} {tl : List (Addr × Obj)} (hb1 : 1 ≤ b) (hb2 : b ≤ 1000) (hRb : ns.length ≤ 100) (hI : IntsAre vs ns) (hds : ∀ d ∈ ns, 0 ≤ d ∧ d < 2 ^ b) (ht : TabsOk tl) (hoff : ∀ p ∈ tl, p.1 ≠ l) (hC : ∀ g, (hdK.heap_1 w.params).In g → CodeHd g 65 61) :
    Meets prog w (hdK.heap_1 w.params) (.call (.ref 66) ⟨[.ref l, .int (b : Int) tn], []⟩) ((l, listOf vs.toArray nn) :: tl) 110 2100 (fun n₀ v l' => ∃ t tl', v = .int (val b ns) t ∧ TabsOk tl' ∧ l' = (l, listOf vs.toArray nn) :: tl') := by
  refine meets_defC (by k_is) (by k_is) (fun s => BindsTo.of_eq rfl) rfl (by decide +kernel) (fun A s g p loose mean mg mb n₀ L h₁ tk cells k hh hdep hu X T hn hfp hfp2 F N Y hk => ?_)
  try dsimp only
  k_cells Y
  have C := hC g X
  try simp only [List.cons_append, List.nil_append] at N
  have hlow : Low n₀ tl := fun p hp => hfp p (.tail _ hp)
  have hl0 : l < n₀ := hfp _ (.head _)
  clear hfp hfp2
  have hcLine : cLine = 9900 := rfl
  have hrec : recursionLimit = 1000 := rfl
  have hlen := hI.length
  (repeat' (first | walk1 | (dsimp only; walk1)))
  with_reducible rename Fr _ _ _ _ => F2
  with_reducible rename News _ _ _ _ => N2
  rename_i o1 o2 o3 d1 d2 d3
  refine nestDef_K rfl rfl rfl ?_
  refine make2 (own := [_, _, _, _]) F2 N2 T C ht (by (repeat' (first | exact List.forall_mem_nil _ | exact (fun _ _ _ h => absurd h List.not_mem_nil) | k_all | (refine List.forall_mem_cons.mpr ⟨?_, ?_⟩)))) rfl rfl rfl (fun f c' tl' oc cvs tq ctv doc h' tk ht' hm hcd hcv F4 N4 hap hlt hlo hLf => ?_)
  simp only [List.cons_append, List.nil_append] at N4
  simp only [List.forall_mem_cons] at hap
  obtain ⟨ha1, ha2, ha3, ha4, _⟩ := hap
  simp only [AllLt, and_true] at hlt
  clear ht hlow F2 N2
  (repeat' (first | walk1 | (dsimp only; walk1)))
  · with_reducible rename Fr _ _ _ _ => F2
    with_reducible rename News _ _ _ _ => N2
    have S := fun tL tR => d2i_inner (w := w) (prog := prog) (qual := Str.ofString "_digits2int.<locals>.inner") (doc := doc) (pm := (mg "__name__").getD .none) (ctv := ctv) (f := f) (l := l) (nn := nn) (oN := o2) (oD := o3) (cD := L + 1) (cI := L + 1 + 1 + 1) (cN := L + 1 + 1) hm hcd hcv d2 (by assumption) d3 hb1 hb2 hC hRb hI hds ns.length 0 ns.length tL tR (by omega) (by assumption) (by omega)
    refine Meets.call [] (S _ _) F2 N2 X T (by (repeat' (first | exact List.forall_mem_nil _ | (refine List.forall_mem_cons.mpr ⟨?_, ?_⟩) | k_mem | (intro pS hS; repeat (first | exact hS | refine List.mem_cons_of_mem _ ?_ | refine List.mem_append_right _ ?_))))) (by (repeat' (first | exact List.forall_mem_nil _ | (refine List.forall_mem_cons.mpr ⟨?_, ?_⟩) | k_mem | (intro pS hS; repeat (first | exact hS | refine List.mem_cons_of_mem _ ?_ | refine List.mem_append_right _ ?_))))) (by (repeat' (first | exact List.forall_mem_nil _ | exact (fun _ _ _ h => absurd h List.not_mem_nil) | k_all | (refine List.forall_mem_cons.mpr ⟨?_, ?_⟩)))) hh (by omega) (by omega) ?_
    clear S
    intro n₁ v l₁ h₂ tk₂ hp F3 N3 o1 o2 o3 o4
    obtain ⟨t3, rfl, rfl⟩ := hp
    rw [part_all]
    exact hk _ _ _ _ _ ⟨_, _, rfl, ht', rfl⟩ F3 (fun p hp => N3 p (by
      rw [List.append_nil]
      exact List.mem_cons_of_mem _ (List.mem_cons_of_mem _ (List.mem_cons_of_mem _ (List.mem_cons_of_mem _ hp)))))
  · with_reducible rename Fr _ _ _ _ => F2
    with_reducible rename News _ _ _ _ => N2
    have e0 : ns = [] := List.length_eq_zero_iff.mp (by omega)
    subst e0
    exact hk _ _ _ _ _ ⟨_, _, rfl, ht', rfl⟩ F2 (fun p hp => N2 p (List.mem_cons_of_mem _ (List.mem_cons_of_mem _ (List.mem_cons_of_mem _ (List.mem_cons_of_mem _ hp)))))
end

noncomputable section
theorem walkOff_C5 : True := by
  w_top off
  exact True.intro
theorem digs_at {b c j : Nat} {x : Int} (h : j < c) : (digs b c x).getD j 0 = dig b x j := by simp [digs, h]
theorem noPylong_of_bits {x y : Int} (h : Builtin.Int.intBits y ≤ 8000) : Builtin.divisionGoesByPylong x y = false := by
  apply PyProof.noPylong_of_log2
  unfold Builtin.Int.intBits at h
  split at h
  · rename_i q
    have : y = 0 := by simpa using q
    subst this; decide +kernel
  · omega
inductive DivJ (a b : Int) (B c : Nat) (l' : Nat) (tl' : List (Addr × Obj)) (i : Nat) (m : Str → Option Value) : List (Addr × Obj) → Prop
  | mk (r : Int) (tr t1 t2 : Tok) (vsq : List Value) (qs : List Int) (nq : Nat) (hsay : Says m [(Str.ofString "n", .int (B : Int) t1), (Str.ofString "b", .int b t2), (Str.ofString "r", .int r tr), (Str.ofString "q_digits", .ref l')]) (hIq : IntsAre vsq qs) (hql : qs.length = i) (hqd : ∀ d ∈ qs, 0 ≤ d ∧ d < 2 ^ B)
      (hr : r = a / 2 ^ (B * (c - i)) % b) (hv : val B qs.reverse = a / 2 ^ (B * (c - i)) / b) : DivJ a b B c l' tl' i m ((l', listOf vsq.toArray nq) :: tl')
set_option maxHeartbeats 8000000 in
theorem divmod_pos {a b : Int} {ta tb : Tok} {tl : List (Addr × Obj)} (ha : 0 ≤ a) (hb1 : 0 < b) (hbits : Builtin.Int.intBits b ≤ 1000) (hc : figs a (Builtin.Int.intBits b) ≤ 100) (hC1 : ∀ g, (hdK.heap_1 w.params).In g → CodeHd g 58 54) (hC2 : ∀ g, (hdK.heap_1 w.params).In g → CodeHd g 65 61) (ht : TabsOk tl) :
    Meets prog w (hdK.heap_1 w.params) (.call (.ref 73) ⟨[.int a ta, .int b tb], []⟩) tl 120 2200 (fun n₀ v l' => ∃ (r : Nat) (t1 t2 : Tok) (tl' : List (Addr × Obj)), n₀ ≤ r ∧ v = .ref r ∧ TabsOk tl' ∧ l' = (r, pairO (.int (a / b) t1) (.int (a % b) t2)) :: tl') := by
  refine meets_def (by k_is) (by k_is) (fun s => BindsTo.of_eq rfl) (locs rfl) (by decide) (fun A s g p loose mean mg mb n₀ L h₁ tk k hh hdep hu X T hn hfp F N hk => ?_)
  try dsimp only
  have hlow : Low n₀ tl := hfp
  clear hfp
  have hcLine : cLine = 9900 := rfl
  have hrec : recursionLimit = 1000 := rfl
  have hB := bits_pos hb1
  (repeat' (first | walk1 | (dsimp only; walk1)))
  with_reducible rename Fr _ _ _ _ => F2
  with_reducible rename News _ _ _ _ => N2
  have S := fun ta tn => int2digits (w := w) (prog := prog) (ta := ta) (tn := tn) hB hbits ha (figs_is hB) hc (figs_lt ha hB) ht hC1
  refine Meets.call [] (S _ _) F2 N2 X T (by (repeat' (first | exact List.forall_mem_nil _ | (refine List.forall_mem_cons.mpr ⟨?_, ?_⟩) | k_mem | (intro pS hS; repeat (first | exact hS | refine List.mem_cons_of_mem _ ?_ | refine List.mem_append_right _ ?_))))) (by (repeat' (first | exact List.forall_mem_nil _ | (refine List.forall_mem_cons.mpr ⟨?_, ?_⟩) | k_mem | (intro pS hS; repeat (first | exact hS | refine List.mem_cons_of_mem _ ?_ | refine List.mem_append_right _ ?_))))) (by (repeat' (first | exact List.forall_mem_nil _ | exact (fun _ _ _ h => absurd h List.not_mem_nil) | k_all | (refine List.forall_mem_cons.mpr ⟨?_, ?_⟩)))) hh (by omega) (by omega) ?_
  clear S
  intro n₁ v l₁ h₂ tk₂ hp F3 N3 o1 o2 o3 o4
  obtain ⟨D, vs, nn, tl', rfl, hI, hnD, ht', o5, rfl⟩ := hp
  simp only [List.append_nil] at N3
  try clear F2 N2
  clear o2 o3 o4
  (repeat' (first | walk1 | (dsimp only; walk1)))
  with_reducible rename Fr _ _ _ _ => F2
  with_reducible rename News _ _ _ _ => N2
  with_reducible rename _ < _ ∧ _ < _ ∧ AllLt _ _ => hlt2
  with_reducible rename _ < _ ∧ AllLt _ _ => hlt1
  rename_i l' _ _ I' _
  generalize hBB : Builtin.Int.intBits b = B at *
  generalize hcc : figs a B = c at *
  have hlen : vs.length = c := by rw [hI.length]; simp [digs]
  have hR := (N2 _ (List.mem_cons_self ..)).1
  refine wpAny_pyIter_revIter (it := I') (l := D) (i := (vs.length : Int) - 1) (by exact ⟨_, hR, rfl, rfl⟩) ?_
  have hne : D ≠ I' := Nat.ne_of_lt hlt2.2.1
  have hsz : vs.toArray.size = c := by simp [hlen]
  have hlow' : Low l' tl' := lowAll hlt1.2
  have hlow2 : Low I' tl' := lowAll hlt2.2.2
  refine loopAt (news := (l', listOf #[] 0) :: tl') (Walks.listRev hh I' D hne vs.toArray) ?_ ?_ ?_ ?_ ?_ F2 (fun p hp => N2 p (by
      rcases List.mem_cons.mp hp with rfl | hp
      · exact .tail _ (.head _)
      · exact .tail _ (.tail _ (.tail _ hp)))) (DivJ a b B c l' tl') ?_ ?_ ?_
  · rintro i h ⟨_, ⟨o, ho, _⟩, ⟨o2, ho2, _⟩⟩ b hb
    rcases List.mem_cons.mp hb with rfl | hb
    · exact ⟨_, ho⟩
    · rw [List.mem_singleton.mp hb]; exact ⟨_, ho2⟩
  · intro hb
    rcases List.mem_cons.mp hb with e | hb
    · exact (N2 _ (List.mem_cons_self ..)).2.1 e.symm
    · exact (N2 _ (.tail _ (.tail _ (.head _)))).2.1 (List.mem_singleton.mp hb).symm
  · exact (N2 _ (List.mem_cons_self ..)).2.2
  · intro q hq hb
    rcases List.mem_cons.mp hq with rfl | hq
    · rcases List.mem_cons.mp hb with e | hb
      · exact Nat.ne_of_lt hlt2.1 e
      · exact Nat.ne_of_gt hlt1.1 (List.mem_singleton.mp hb)
    · rcases List.mem_cons.mp hb with e | hb
      · exact Nat.ne_of_lt (hlow2 q hq) e
      · exact o5 q hq (List.mem_singleton.mp hb)
  · refine ⟨Nat.zero_le _, ⟨_, hR, rfl, by (show Data.fields #[_, rawInt _] = _; simp)⟩, ⟨_, (N2 _ (.tail _ (.tail _ (.head _)))).1, rfl, _, rfl⟩⟩
  · refine ⟨0, _, _, _, [], [], 0, says_cons (by rfl) (says_cons (by rfl) (says_cons (by rfl) (says_cons (by rfl) says_nil))), .nil, rfl, (fun d hd => by cases hd), ?_, ?_⟩
    · have e0 : a / 2 ^ (B * (c - 0)) = 0 := Int.ediv_eq_zero_of_lt ha (by rw [Nat.sub_zero, ← hcc, ← hBB]; exact figs_lt ha (by omega))
      rw [e0]; rfl
    · have e0 : a / 2 ^ (B * (c - 0)) = 0 := Int.ediv_eq_zero_of_lt ha (by rw [Nat.sub_zero, ← hcc, ← hBB]; exact figs_lt ha (by omega))
      rw [e0]; exact (Int.zero_ediv b).symm
  · intro i v m₁ news₁ h tk own kn hin hP hJ F3 N3 hsep hkn
    obtain ⟨r, tr, t1, t2, vsq, qs, nq, hsay, hIq, hql, hqd, hr, hv⟩ := hJ
    have F4 : Fr g L h _ := Mine.Fr.saidIf F3 hsay
    rw [hsz] at hin hP
    obtain ⟨tv, rfl⟩ := ints_at hI (show vs[c - 1 - i]? = some v by simpa using hP)
    rw [digs_at (by omega)] at F4
    clear F2 N2 F3
    refine gen_K fun KT hKT => ?_
    (repeat' (first | walk1 | (dsimp only; walk1)))
    have hr0 : 0 ≤ r := by rw [hr]; exact Int.emod_nonneg _ (by omega)
    have hrb : r < b := by rw [hr]; exact Int.emod_lt_of_pos _ hb1
    have hbB : b < 2 ^ B := by rw [← hBB]; exact lt_pow_bits (by omega)
    obtain ⟨hd0, hd1⟩ := dig_bound B a (c - 1 - i)
    have hstep := long_step (d := dig B a (c - 1 - i)) (B := B) hb1 hr.symm
    rw [← top_step hin, ← hv] at hstep
    obtain ⟨hq0, hq1⟩ := long_bound hb1 hr0 hrb hd0 hd1
    refine lshift_int (by omega) (by have := bits_le_pow hr0 (Int.lt_trans hrb hbB); omega) ?_
    rw [Int.toNat_natCast]
    generalize dig B a (c - 1 - i) = d at *
    have hbig : r * 2 ^ B + d < 2 ^ (B + B) := by
      rw [Int.pow_add]
      have h2 : (r + 1) * 2 ^ B ≤ 2 ^ B * 2 ^ B := Int.mul_le_mul_of_nonneg_right (by omega) (by omega)
      rw [Int.add_mul, Int.one_mul] at h2
      omega
    have hbit2 := bits_le_pow (x := r * 2 ^ B + d) (by have := Int.mul_nonneg hr0 (show (0 : Int) ≤ 2 ^ B by omega); omega) hbig
    (repeat' (first | walk1 | (dsimp only; walk1)))
    have S := fun ta tb tn => div2n1n (w := w) (prog := prog) (a := r * 2 ^ B + d) (b := b) (n := (B : Int)) (ta := ta) (tb := tb) (tn := tn) hb1 (by omega) (noPylong_of_bits (by omega))
    refine Meets.call ((l', listOf vsq.toArray nq) :: (tl' ++ own)) (S _ _ _) F4 N3 X T (by (repeat' (first | exact List.forall_mem_nil _ | (refine List.forall_mem_cons.mpr ⟨?_, ?_⟩) | k_mem | (intro pS hS; repeat (first | exact hS | refine List.mem_cons_of_mem _ ?_ | refine List.mem_append_right _ ?_))))) (by (repeat' (first | exact List.forall_mem_nil _ | (refine List.forall_mem_cons.mpr ⟨?_, ?_⟩) | k_mem | (intro pS hS; repeat (first | exact hS | refine List.mem_cons_of_mem _ ?_ | refine List.mem_append_right _ ?_))))) (by (repeat' (first | exact List.forall_mem_nil _ | exact (fun _ _ _ h => absurd h List.not_mem_nil) | k_all | (refine List.forall_mem_cons.mpr ⟨?_, ?_⟩)))) hh (by omega) (by omega) ?_
    clear S
    intro n₁ v l₁ h₂ tk₂ hp F5 N5 p1 p2 p3 p4
    obtain ⟨R, u1, u2, hRn, rfl, rfl⟩ := hp
    rw [Int.fdiv_eq_ediv_of_nonneg _ (by omega), Int.fmod_eq_emod_of_nonneg _ (by omega), ← hstep.2] at N5
    simp only [List.cons_append, List.nil_append, pairO] at N5
    have hl'n : @LT.lt Nat _ l' n₁ := p3.1
    have hap : ∀ q ∈ tl' ++ own, q.1 ≠ l' := fun q hq => (List.mem_append.mp hq).elim (fun hq => Nat.ne_of_gt (Nat.lt_of_le_of_lt (Nat.le_of_lt (hlow' q hq)) (Nat.lt_succ_self _)) |> fun _ => Nat.ne_of_lt (hlow' q hq)) (fun hq => hsep _ (.head _) q hq)
    have hneR : @Ne Nat l' R := by omega
    clear p1 p2 p3 p4 F4 N3
    (repeat' (first | walk1 | (dsimp only; walk1)))
    with_reducible rename Fr _ _ _ _ => F6
    with_reducible rename News _ _ _ _ => N6
    refine hKT _ _ (hkn _ _ _ ((l', listOf (vsq ++ [Value.int ((r * 2 ^ B + d) / b) u1]).toArray (nq + 1)) :: tl') F6 (fun p hp => N6 p ?_) ?_ ⟨_, _, _, _, vsq ++ [Value.int ((r * 2 ^ B + d) / b) u1], qs ++ [(r * 2 ^ B + d) / b], nq + 1, says_cons (by rfl) (says_cons (by rfl) (says_cons (by rfl) (says_cons (by rfl) says_nil))), ints_snoc hIq, by simp [hql], ?_, rfl, ?_⟩)
    · rcases List.mem_cons.mp hp with rfl | hp
      · simp
      · exact .tail _ (.tail _ hp)
    · intro q hq p hp
      rcases List.mem_cons.mp hq with rfl | hq
      · exact hsep _ (.head _) p hp
      · exact hsep q (.tail _ hq) p hp
    · intro x hx
      rcases List.mem_append.mp hx with hx | hx
      · exact hqd x hx
      · rw [List.mem_singleton.mp hx]; exact ⟨hq0, hq1⟩
    · rw [hstep.1, List.reverse_append, List.reverse_singleton, List.singleton_append]
      rfl
  · intro h tk m₁ news₁ hJ F3 N3
    obtain ⟨r, tr, t1, t2, vsq, qs, nq, hsay, hIq, hql, hqd, hr, hv⟩ := hJ
    have F4 : Fr g L h _ := Mine.Fr.said F3 hsay
    have hap : ∀ q ∈ tl', q.1 ≠ l' := fun q hq => Nat.ne_of_lt (hlow' q hq)
    rw [hsz] at hql hr hv
    have e0 : a / 2 ^ (B * (c - c)) = a := by simp
    rw [e0] at hr hv
    subst hr
    clear F2 N2 F3
    have hlq : vsq.length = c := hIq.length.trans hql
    have hsl : vsq.length ≤ sizeLine := Nat.le_trans (show vsq.length ≤ 100 by omega) (by decide)
    (repeat' (first | walk1 | (dsimp only; walk1)))
    refine kl_reverse (its := vsq.toArray) (l := vsq.reverse) F4 N3 rfl (by k_upd) hsl (fun h' F5 N5 => ?_)
    (repeat' (first | walk1 | (dsimp only; walk1)))
    have S := fun tn => digits2int (w := w) (prog := prog) (tn := tn) (b := B) (l := l') (ns := qs.reverse) (vs := vsq.reverse) (nn := nq) (by omega) (by omega) (by simp; omega) (ints_rev hIq) (fun d hd => hqd d (List.mem_reverse.mp hd)) ht' hap hC2
    refine Meets.call [] (S _) F5 N5 X T (by (repeat' (first | exact List.forall_mem_nil _ | (refine List.forall_mem_cons.mpr ⟨?_, ?_⟩) | k_mem | (intro pS hS; repeat (first | exact hS | refine List.mem_cons_of_mem _ ?_ | refine List.mem_append_right _ ?_))))) (by (repeat' (first | exact List.forall_mem_nil _ | (refine List.forall_mem_cons.mpr ⟨?_, ?_⟩) | k_mem | (intro pS hS; repeat (first | exact hS | refine List.mem_cons_of_mem _ ?_ | refine List.mem_append_right _ ?_))))) (by (repeat' (first | exact List.forall_mem_nil _ | exact (fun _ _ _ h => absurd h List.not_mem_nil) | k_all | (refine List.forall_mem_cons.mpr ⟨?_, ?_⟩)))) hh (by omega) (by omega) ?_
    clear S
    intro n₁ v l₁ h₂ tk₂ hp F6 N6 p1 p2 p3 p4
    obtain ⟨t3, tl2, rfl, ht2, rfl⟩ := hp
    rw [hv]
    clear F4 N3 F5 N5
    simp only [List.append_nil] at N6
    (repeat' (first | walk1 | (dsimp only; walk1)))
    with_reducible rename Fr _ _ _ _ => F7
    with_reducible rename News _ _ _ _ => N7
    with_reducible rename _ < _ ∧ AllLt _ tl2 => hlt3
    have q1 : @LT.lt Nat _ D l' := hlt1.1
    have q2 : @LT.lt Nat _ l' _ := hlt3.1
    exact hk _ _ _ _ _ ⟨_, _, _, _, Nat.le_of_lt (Nat.lt_trans (show n₀ < l' by omega) q2), rfl, ht2, rfl⟩ F7 (fun p hp => N7 p (by
      rcases List.mem_cons.mp hp with rfl | hp
      · exact .head _
      · exact .tail _ (.tail _ hp)))
end

noncomputable section
theorem walkOff_C6 : True := by
  w_top off
  exact True.intro
theorem neg_div {a b : Int} (hb : 0 < b) : (-1 - a) / b = -1 - a / b ∧ (-1 - a) % b = b - 1 - a % b := by
  have h1 := Int.mul_ediv_add_emod a b
  have h2 := Int.emod_nonneg a (Int.ne_of_gt hb)
  have h3 := Int.emod_lt_of_pos a hb
  have e : (-1 - a) = (b - 1 - a % b) + b * (-1 - a / b) := by
    rw [Int.mul_sub]
    omega
  constructor
  · rw [e, Int.add_mul_ediv_left _ _ (Int.ne_of_gt hb), Int.ediv_eq_zero_of_lt (by omega) (by omega)]
    omega
  · rw [e, Int.add_mul_emod_self_left, Int.emod_eq_of_lt (by omega) (by omega)]
set_option maxHeartbeats 8000000 in
theorem int_divmod {a b : Int} {ta tb : Tok} {tl : List (Addr × Obj)} (ha : 0 ≤ a) (hb1 : 0 < b) (hbits : Builtin.Int.intBits b ≤ 1000) (hc : figs a (Builtin.Int.intBits b) ≤ 100) (hC1 : ∀ g, (hdK.heap_1 w.params).In g → CodeHd g 58 54) (hC2 : ∀ g, (hdK.heap_1 w.params).In g → CodeHd g 65 61) (ht : TabsOk tl) :
    Meets prog w (hdK.heap_1 w.params) (.call (.ref 80) ⟨[.int a ta, .int b tb], []⟩) tl 130 2300 (fun n₀ v l' => ∃ (r : Nat) (t1 t2 : Tok) (tl' : List (Addr × Obj)), n₀ ≤ r ∧ v = .ref r ∧ TabsOk tl' ∧ l' = (r, pairO (.int (a / b) t1) (.int (a % b) t2)) :: tl') := by
  refine meets_def (by k_is) (by k_is) (fun s => BindsTo.of_eq rfl) (locs rfl) (by decide) (fun A s g p loose mean mg mb n₀ L h₁ tk k hh hdep hu X T hn hfp F N hk => ?_)
  try dsimp only
  have hlow : Low n₀ tl := hfp
  clear hfp
  have hcLine : cLine = 9900 := rfl
  have hrec : recursionLimit = 1000 := rfl
  (repeat' (first | walk1 | (dsimp only; walk1)))
  · exfalso; omega
  · with_reducible rename Fr _ _ _ _ => F2
    with_reducible rename News _ _ _ _ => N2
    have S := fun ta tb => divmod_pos (w := w) (prog := prog) (ta := ta) (tb := tb) ha hb1 hbits hc hC1 hC2 ht
    refine Meets.call [] (S _ _) F2 N2 X T (by (repeat' (first | exact List.forall_mem_nil _ | (refine List.forall_mem_cons.mpr ⟨?_, ?_⟩) | k_mem | (intro pS hS; repeat (first | exact hS | refine List.mem_cons_of_mem _ ?_ | refine List.mem_append_right _ ?_))))) (by (repeat' (first | exact List.forall_mem_nil _ | (refine List.forall_mem_cons.mpr ⟨?_, ?_⟩) | k_mem | (intro pS hS; repeat (first | exact hS | refine List.mem_cons_of_mem _ ?_ | refine List.mem_append_right _ ?_))))) (by (repeat' (first | exact List.forall_mem_nil _ | exact (fun _ _ _ h => absurd h List.not_mem_nil) | k_all | (refine List.forall_mem_cons.mpr ⟨?_, ?_⟩)))) hh (by omega) (by omega) ?_
    clear S
    intro n₁ v l₁ h₂ tk₂ hp F3 N3 o1 o2 o3 o4
    obtain ⟨r, t1, t2, tl', hr, rfl, ht', rfl⟩ := hp
    simp only [List.append_nil] at N3
    try clear F2 N2
    exact hk _ _ _ _ _ ⟨_, _, _, _, by omega, rfl, ht', rfl⟩ F3 N3
set_option maxHeartbeats 8000000 in
theorem int_divmod_neg {a b : Int} {ta tb : Tok} {tl : List (Addr × Obj)} (ha : a < 0) (hb1 : 0 < b) (hbits : Builtin.Int.intBits b ≤ 1000) (hc : figs (-1 - a) (Builtin.Int.intBits b) ≤ 100) (hC1 : ∀ g, (hdK.heap_1 w.params).In g → CodeHd g 58 54) (hC2 : ∀ g, (hdK.heap_1 w.params).In g → CodeHd g 65 61) (ht : TabsOk tl) :
    Meets prog w (hdK.heap_1 w.params) (.call (.ref 80) ⟨[.int a ta, .int b tb], []⟩) tl 140 2400 (fun n₀ v l' => ∃ (r : Nat) (t1 t2 : Tok) (tl' : List (Addr × Obj)), n₀ ≤ r ∧ v = .ref r ∧ TabsOk tl' ∧ l' = (r, pairO (.int (a / b) t1) (.int (a % b) t2)) :: tl') := by
  refine meets_def (by k_is) (by k_is) (fun s => BindsTo.of_eq rfl) (locs rfl) (by decide) (fun A s g p loose mean mg mb n₀ L h₁ tk k hh hdep hu X T hn hfp F N hk => ?_)
  try dsimp only
  have hlow : Low n₀ tl := hfp
  clear hfp
  have hcLine : cLine = 9900 := rfl
  have hrec : recursionLimit = 1000 := rfl
  (repeat' (first | walk1 | (dsimp only; walk1)))
  · exfalso; omega
  · with_reducible rename Fr _ _ _ _ => F2
    with_reducible rename News _ _ _ _ => N2
    have hbn : Builtin.bitNot a = -1 - a := by unfold Builtin.bitNot; omega
    rw [hbn]
    have S := fun ta tb => int_divmod (w := w) (prog := prog) (a := -1 - a) (ta := ta) (tb := tb) (by omega) hb1 hbits hc hC1 hC2 ht
    refine Meets.call [] (S _ _) F2 N2 X T (by (repeat' (first | exact List.forall_mem_nil _ | (refine List.forall_mem_cons.mpr ⟨?_, ?_⟩) | k_mem | (intro pS hS; repeat (first | exact hS | refine List.mem_cons_of_mem _ ?_ | refine List.mem_append_right _ ?_))))) (by (repeat' (first | exact List.forall_mem_nil _ | (refine List.forall_mem_cons.mpr ⟨?_, ?_⟩) | k_mem | (intro pS hS; repeat (first | exact hS | refine List.mem_cons_of_mem _ ?_ | refine List.mem_append_right _ ?_))))) (by (repeat' (first | exact List.forall_mem_nil _ | exact (fun _ _ _ h => absurd h List.not_mem_nil) | k_all | (refine List.forall_mem_cons.mpr ⟨?_, ?_⟩)))) hh (by omega) (by omega) ?_
    clear S
    intro n₁ v l₁ h₂ tk₂ hp F3 N3 o1 o2 o3 o4
    obtain ⟨r, t1, t2, tl', hr, rfl, ht', rfl⟩ := hp
    simp only [List.append_nil, pairO] at N3
    try clear F2 N2
    (repeat' (first | walk1 | (dsimp only; walk1)))
    with_reducible rename Fr _ _ _ _ => F7
    with_reducible rename News _ _ _ _ => N7
    with_reducible rename _ < _ ∧ AllLt _ tl' => hlt3
    have q2 : @LT.lt Nat _ r _ := hlt3.1
    obtain ⟨eq1, eq2⟩ := neg_div (a := a) hb1
    have e1 : Builtin.bitNot ((-1 - a) / b) = a / b := by unfold Builtin.bitNot; omega
    have e2 : b + Builtin.bitNot ((-1 - a) % b) = a % b := by unfold Builtin.bitNot; omega
    rw [e1, e2] at N7
    exact hk _ _ _ _ _ ⟨_, _, _, _, Nat.le_of_lt (Nat.lt_of_le_of_lt (show n₀ ≤ r by omega) q2), rfl, ht', rfl⟩ F7 (fun p hp => N7 p (by
      rcases List.mem_cons.mp hp with rfl | hp
      · exact .head _
      · exact .tail _ (.tail _ hp)))
end

noncomputable section
theorem walkOff_C7a : True := by
  w_top off
  exact True.intro
noncomputable def o212 (P : Params) : { o : Obj // (hdK.heap_1 P).lookup 212 = some o } := ⟨_, by k_is⟩
noncomputable def in212 (P : Params) : { x : Arguments × PySem.Expr × Scope // lamAt (o212 P).1 2 = some x } := ⟨_, rfl⟩
noncomputable abbrev ent (P : Params) (k : String) (t : Tok) (v : Value) : DictEntry := { hash := PyData.keyHash P (Str.ofString k), key := .str (Str.ofString k) t, val := v }
noncomputable abbrev lexD (P : Params) (n : Int) (src : Value) (pb : Nat) (t1 t2 t3 t4 t5 t6 : Tok) : Obj :=
  dictOf [ent P "lineno" t1 (.int n t2), ent P "instream" t3 src, ent P "whitespace" t4 (.str (Str.ofString "\n\t\r ") t5), ent P "pushback" t6 (.ref pb)] 4
noncomputable abbrev pageD (P : Params) (pb f : Nat) (t1 t2 t3 t4 t5 t6 t7 : Tok) : Obj :=
  dictOf [ent P "lineno" t1 (.int 1 t2), ent P "instream" t3 .none, ent P "whitespace" t4 (.str (Str.ofString "\n\t\r ") t5), ent P "pushback" t6 (.ref pb), ent P "read" t7 (.ref f)] 5
noncomputable abbrev lamFn (P : Params) (cS : Nat) (pm : Value) (c' : Nat) (ctv : Value) : Obj :=
  kla_obj (Str.ofString "<lambda>") (Str.ofString "_law_lexer.<locals>.<lambda>") (in212 P).1.1 (in212 P).1.2.1 (in212 P).1.2.2 [(Str.ofString "signs", cS)] pm c' ctv
set_option genInjectivity false in
set_option genSizeOfSpec false in
structure LexP where
  (cS S d1 x1 pb1 f d x pb c' : Nat)
  (ctv pm : Value)
  oS : Obj
  (t1 t3 t4 t5 t6 s1 s2 s3 s4 s5 s6 s7 : Tok)
noncomputable abbrev LexP.led (a : LexP) (P : Params) (vs : List Value) (nS : Nat) (n : Int) (tn : Tok) (ps : List Value) (np : Nat) : List (Addr × Obj) :=
  [(a.pb, listOf ps.toArray np), (a.x, instObj 118 a.d), (a.d, lexD P n (.ref a.x1) a.pb a.t1 tn a.t3 a.t4 a.t5 a.t6), (a.f, lamFn P a.cS a.pm a.c' a.ctv), (a.pb1, listOf #[] 0), (a.x1, instObj 118 a.d1), (a.d1, pageD P a.pb1 a.f a.s1 a.s2 a.s3 a.s4 a.s5 a.s6 a.s7), (a.S, listOf vs.toArray nS), (a.cS, a.oS)]
structure LexP.Ord (a : LexP) : Prop where
  e1 : a.cS < a.S
  e2 : a.S < a.d1
  e3 : a.d1 < a.x1
  e4 : a.x1 < a.pb1
  e5 : a.pb1 < a.f
  e6 : a.f < a.d
  e7 : a.d < a.x
  e8 : a.x < a.pb
structure LexP.Ap (a : LexP) (tl : List (Addr × Obj)) : Prop where
  e1 : ∀ p ∈ tl, p.1 ≠ a.cS
  e2 : ∀ p ∈ tl, p.1 ≠ a.S
  e3 : ∀ p ∈ tl, p.1 ≠ a.d1
  e4 : ∀ p ∈ tl, p.1 ≠ a.x1
  e5 : ∀ p ∈ tl, p.1 ≠ a.pb1
  e6 : ∀ p ∈ tl, p.1 ≠ a.f
  e7 : ∀ p ∈ tl, p.1 ≠ a.d
  e8 : ∀ p ∈ tl, p.1 ≠ a.x
  e9 : ∀ p ∈ tl, p.1 ≠ a.pb
noncomputable abbrev lamQ : Str := Str.ofString "_law_lexer.<locals>.<lambda>"
structure LexP.Ok (a : LexP) (tl : List (Addr × Obj)) : Prop where
  ord : a.Ord
  cell : a.oS.data = .cell (some (.ref a.S))
  made : Made 207 182 16 lamQ a.c' tl
  ap : a.Ap tl
set_option maxHeartbeats 8000000 in
theorem netrclex_init {x dx : Nat} {v : Value} (hxd : dx < x) :
    Meets prog w (hdK.heap_1 w.params) (.call (.ref 94) ⟨[.ref x, v], []⟩) [(x, instObj 118 dx), (dx, dictOf [] 0)] 2 10 (fun n₀ v' l => v' = .none ∧ ∃ pb t1 t2 t3 t4 t5 t6, x < pb ∧ l = [(pb, listOf #[] 0), (x, instObj 118 dx), (dx, lexD w.params 1 v pb t1 t2 t3 t4 t5 t6)]) := by
  refine meets_def (by k_is) (by k_is) (fun s => BindsTo.of_eq rfl) (locs rfl) (by decide) (fun A s g p loose mean mg mb n₀ L h₁ tk k hh hdep hu X T hn hfp F N hk => ?_)
  try dsimp only
  have hcLine : cLine = 9900 := rfl
  have hrec : recursionLimit = 1000 := rfl
  have hx1 := hfp _ (.head _)
  have hx2 := hfp _ (.tail _ (.head _))
  dsimp only at hx1 hx2
  have hne1 : @Ne Nat x dx := by omega
  have hne2 : @Ne Nat dx x := by omega
  (repeat' (first | walk1 | (dsimp only; walk1)))
  with_reducible rename Fr _ _ _ _ => F2
  with_reducible rename News _ _ _ _ => N2
  with_reducible rename _ < _ ∧ _ => hlt
  exact hk _ _ _ _ _ ⟨rfl, _, _, _, _, _, _, _, hlt.1, rfl⟩ F2 N2
end

noncomputable section
theorem walkOff_C7 : True := by
  w_top off
  exact True.intro
noncomputable abbrev lexNew (P : Params) (src : Value) (n₀ : Nat) (v : Value) (l : List (Addr × Obj)) : Prop := ∃ x dx, n₀ ≤ dx ∧ dx < x ∧ v = .ref x ∧ ∃ pb t1 t2 t3 t4 t5 t6, x < pb ∧ l = [(pb, listOf #[] 0), (x, instObj 118 dx), (dx, lexD P 1 src pb t1 t2 t3 t4 t5 t6)]
theorem netrclex {v : Value} : Meets prog w (hdK.heap_1 w.params) (.call (.ref 118) ⟨[v], []⟩) [] 3 11 (lexNew w.params v) := by
  intro A s g p loose mean mg mb hh hdep hu W X T R hR
  exact Meets.make (by k_is) (by k_is) (by k_is) (fun x dx hxd => netrclex_init hxd) A s g p loose mean mg mb hh hdep hu W X T R hR
inductive LexPost (P : Params) (x : List Nat) (tl : List (Addr × Obj)) (n₀ : Nat) : Value → List (Addr × Obj) → Prop
  | mk (a : LexP) (tl' : List (Addr × Obj)) (vs : List Value) (nS : Nat) (tn : Tok) (hok : a.Ok tl') (hnd : (tl'.map (·.1)).Nodup) (hsm : ∀ c₀, Made 207 182 16 lamQ c₀ tl → tl' = tl ∧ a.c' = c₀) (hcS : n₀ < a.cS) (hsg : SignsAre vs x) : LexPost P x tl n₀ (.ref a.x) (a.led P vs nS 1 tn [] 0 ++ tl')
set_option maxHeartbeats 8000000 in
theorem law_lexer {x : List Nat} {tx : Tok} {tl : List (Addr × Obj)} (hC1 : ∀ g, (hdK.heap_1 w.params).In g → CodeHd g 211 207) (ht : TabOk 207 182 16 lamQ tl) (hnd : (tl.map (·.1)).Nodup) (hx : x.length ≤ 10000) :
    Meets prog w (hdK.heap_1 w.params) (.call (.ref 212) ⟨[.str (txt x) tx], []⟩) tl 20 300 (fun n₀ v l' => LexPost w.params x tl n₀ v l') := by
  refine meets_defC (by k_is) (by k_is) (fun s => BindsTo.of_eq rfl) rfl (by decide +kernel) (fun A s g p loose mean mg mb n₀ L h₁ tk cells k hh hdep hu X T hn hfp hfp2 F N Y hk => ?_)
  try dsimp only
  k_cells Y
  have C := hC1 g X
  try simp only [List.cons_append, List.nil_append] at N
  have hlow : Low n₀ tl := hfp
  clear hfp hfp2
  have hcLine : cLine = 9900 := rfl
  have hrec : recursionLimit = 1000 := rfl
  (repeat' (first | walk1 | (dsimp only; walk1)))
  with_reducible rename Fr _ _ _ _ => F2
  with_reducible rename News _ _ _ _ => N2
  refine list_txt hh F2 N2 (Nat.le_trans hx (by decide)) (fun S vs nS h₂ tk₂ F3 N3 hlt1 hS => ?_)
  clear F2 N2
  k_lt hlt1
  (repeat' (first | walk1 | (dsimp only; walk1)))
  with_reducible rename Fr _ _ _ _ => F2
  with_reducible rename News _ _ _ _ => N2
  have S0 := netrclex (w := w) (prog := prog) (v := .none)
  refine Meets.call ((S, listOf vs.toArray nS) :: (L + 1, _) :: tl) S0 F2 N2 X T (by (repeat' (first | exact List.forall_mem_nil _ | (refine List.forall_mem_cons.mpr ⟨?_, ?_⟩) | k_mem | (intro pS hS; repeat (first | exact hS | refine List.mem_cons_of_mem _ ?_ | refine List.mem_append_right _ ?_))))) (by (repeat' (first | exact List.forall_mem_nil _ | (refine List.forall_mem_cons.mpr ⟨?_, ?_⟩) | k_mem | (intro pS hS; repeat (first | exact hS | refine List.mem_cons_of_mem _ ?_ | refine List.mem_append_right _ ?_))))) (by (repeat' (first | exact List.forall_mem_nil _ | exact (fun _ _ _ h => absurd h List.not_mem_nil) | k_all | (refine List.forall_mem_cons.mpr ⟨?_, ?_⟩)))) hh (by omega) (by omega) ?_
  clear S0
  intro n₁ v l₁ h₂ tk₂ hp F3 N3 o1 o2 o3 o4
  obtain ⟨x1, d1, hd1, hx1, rfl, pb1, t1, t2, t3, t4, t5, t6, hpb1, rfl⟩ := hp
  simp only [List.cons_append, List.nil_append] at N3
  simp only [AllLt] at o3
  clear F2 N2
  (repeat' (first | walk1 | (dsimp only; walk1)))
  with_reducible rename Fr _ _ _ _ => F4
  with_reducible rename News _ _ _ _ => N4
  rename_i oS dS _
  refine kla_eval rfl ?_
  refine makeLam (P := 207) (t := tl) (own := [_, _, _, _, _]) (qual := lamQ) F4 N4 T C rfl ht (by (repeat' (first | exact List.forall_mem_nil _ | exact (fun _ _ _ h => absurd h List.not_mem_nil) | k_all | (refine List.forall_mem_cons.mpr ⟨?_, ?_⟩)))) hnd rfl (fun f c' tl' ctv h' tk hM hsame F5 N5 hnd' hap hlt hlo hLf => ?_)
  simp only [List.cons_append, List.nil_append] at N5
  simp only [List.forall_mem_cons] at hap
  obtain ⟨ha1, ha2, ha3, ha4, ha5⟩ := hap
  simp only [AllLt] at hlt
  dsimp only [lexD, ent] at N5
  clear ht hlow F4 N4
  (repeat' (first | walk1 | (dsimp only; walk1)))
  with_reducible rename Fr _ _ _ _ => F6
  with_reducible rename News _ _ _ _ => N6
  have S0 := netrclex (w := w) (prog := prog) (v := .ref x1)
  refine Meets.call (_ :: _ :: _ :: _ :: _ :: _ :: tl') S0 F6 N6 X T (by (repeat' (first | exact List.forall_mem_nil _ | (refine List.forall_mem_cons.mpr ⟨?_, ?_⟩) | k_mem | (intro pS hS; repeat (first | exact hS | refine List.mem_cons_of_mem _ ?_ | refine List.mem_append_right _ ?_))))) (by (repeat' (first | exact List.forall_mem_nil _ | (refine List.forall_mem_cons.mpr ⟨?_, ?_⟩) | k_mem | (intro pS hS; repeat (first | exact hS | refine List.mem_cons_of_mem _ ?_ | refine List.mem_append_right _ ?_))))) (by (repeat' (first | exact List.forall_mem_nil _ | exact (fun _ _ _ h => absurd h List.not_mem_nil) | k_all | (refine List.forall_mem_cons.mpr ⟨?_, ?_⟩)))) hh (by omega) (by omega) ?_
  clear S0
  intro n₂ v l₁ h₂ tk₂ hp F7 N7 q1 q2 q3 q4
  obtain ⟨x2, d2, hd2, hx2, rfl, pb2, r1, r2, r3, r4, r5, r6, hpb2, rfl⟩ := hp
  simp only [List.cons_append, List.nil_append] at N7
  simp only [AllLt] at q3
  have lo : ∀ p ∈ tl', p.1 < f := hlo
  have g1 : @LT.lt Nat _ pb1 f := hlt.1
  have g2 : @LT.lt Nat _ f n₂ := q3.1
  have g3 : @LT.lt Nat _ S n₁ := o3.1
  have g4 : @LT.lt Nat _ (L + 1) S := hlt1.1
  refine hk _ _ _ _ _ ⟨⟨L + 1, S, d1, x1, pb1, f, d2, x2, pb2, c', ctv, _, _, _, _, _, _, _, _, _, _, _, _, _, _⟩, tl', vs, nS, _, ⟨⟨g4, ?_, hx1, hpb1, g1, ?_, hx2, hpb2⟩, oS, hM, ⟨ha5.1, ha4, ha3, ha2, ha1, fun p hp => Nat.ne_of_lt (lo p hp), fun p hp => Nat.ne_of_lt (Nat.lt_of_lt_of_le (lo p hp) ?_), fun p hp => Nat.ne_of_lt (Nat.lt_of_lt_of_le (lo p hp) ?_), fun p hp => Nat.ne_of_lt (Nat.lt_of_lt_of_le (lo p hp) ?_)⟩⟩, hnd', hsame, ?_, hS⟩ F7 N7
  · show S < d1; exact Nat.lt_of_lt_of_le g3 hd1
  · show f < d2; omega
  · show f ≤ d2; omega
  · show f ≤ x2; omega
  · show f ≤ pb2; omega
  · show n₀ < L + 1; omega
end

noncomputable section
theorem walkOff_C8 : True := by
  w_top off
  exact True.intro
set_option maxHeartbeats 400000 in
theorem lam_read {a : LexP} {tl : List (Addr × Obj)} {vs : List Value} {cs : List Nat} {nS np : Nat} {n : Int} {tn tz : Tok} {ps : List Value} (ha : a.Ok tl) (hS : SignsAre vs cs) (hcs : cs.length ≤ 10000) (hasc : Asc cs) :
    Meets prog w (hdK.heap_1 w.params) (.call (.ref a.f) ⟨[.int 1 tz], []⟩) (a.led w.params vs nS n tn ps np ++ tl) 2 100 (fun n₀ v l' => ∃ t nS', v = .str (txt (cs.take 1)) t ∧ l' = a.led w.params vs.tail nS' n tn ps np ++ tl) := by
  obtain ⟨⟨e1, e2, e3, e4, e5, e6, e7, e8⟩, hcell, ⟨oc, cvs, tq, htl, hcd, hcv⟩, ⟨p1, p2, p3, p4, p5, p6, p7, p8, p9⟩⟩ := ha
  obtain ⟨cS, S, d1, x1, pb1, f, d, x, pb, c', ctv, pm, oS, t1, t3, t4, t5, t6, s1, s2, s3, s4, s5, s6, s7⟩ := a
  dsimp only [LexP.led] at *
  refine meets_lam (.tail _ (.tail _ (.tail _ (.head _)))) (by rw [htl]; exact List.mem_append_right _ (.tail _ (.head _))) hcd hcv rfl (locs rfl) (by dsimp only [in212]; decide) (fun A s g p loose mean mg mb n₀ L h₁ tk k hh hdep hu X T hn hfp F N hk => ?_)
  try dsimp only [in212]
  dsimp only [in212, List.cons_append, List.nil_append] at N
  have hcLine : cLine = 9900 := rfl
  have hrec : recursionLimit = 1000 := rfl
  have hl1 : ∀ p ∈ tl, p.1 < n₀ := fun p hp => hfp p (List.mem_append_right _ hp)
  have hpb : pb < n₀ := hfp _ (.head _)
  clear hfp
  iterate 2 walk1
  refine nameX_F N rfl (.tail _ (.tail _ (.tail _ (.tail _ (.tail _ (.tail _ (.tail _ (.tail _ (.head _))))))))) hcell ?_ rfl rfl
  iterate 3 walk1
  refine ne_strs (News.isList (by k_asm) (by k_mem)) hS.strs (News.isList (by k_asm) (by k_mem)) .nil hasc.signs (fun x hx => by cases hx) (by omega) ?_
  cases hS with
  | nil =>
    simp only [List.map_nil, decide_true, Bool.not_true]
    (repeat' (first | walk1 | (dsimp only; walk1)))
    with_reducible rename Fr _ _ _ _ => F3
    with_reducible rename News _ _ _ _ => N3
    exact hk _ _ _ _ _ ⟨_, _, rfl, rfl⟩ F3 (fun p hp => N3 p (.tail _ hp))
  | cons c t hS =>
    simp only [List.map_cons, reduceCtorEq, decide_false, Bool.not_false]
    iterate 3 walk1
    refine nameX_F (by k_asm) rfl (by k_mem) hcell ?_ rfl rfl
    (repeat' (first | walk1 | (dsimp only; walk1)))
    refine kl_popAt (k := 0) (p := []) (y := .str (txt [c]) t) (q := _) (by k_asm) (by k_asm) rfl ?_ rfl (by k_upd) (by simpa using Nat.le_trans (show _ ≤ 10000 by have := hS.length; simp at hcs; omega) (by decide)) (fun h' F' N' => ?_)
    · simp [seqIndex?]
    · exact hk _ _ _ _ _ ⟨_, _, rfl, rfl⟩ F' (fun p hp => N' p (.tail _ hp))
end

noncomputable section
theorem walkOff_C9 : True := by
  w_top off
  exact True.intro
noncomputable def nl (cs : List Nat) : Int := if cs.head? = some 10 then 1 else 0
theorem str_nl : Str.ofString "\n" = txt [10] := by rfl
theorem nl_yes {cs : List Nat} (h : (txt (cs.take 1) == Str.ofString "\n") = true) : nl cs = 1 := by
  rw [str_nl, beq_iff_eq] at h
  have h2 : cs.take 1 = [10] := by simpa using congrArg (fun x => x.cps.toList) h
  cases cs with
  | nil => simp at h2
  | cons c r => simp at h2; simp [nl, h2]
theorem nl_no {cs : List Nat} (h : (txt (cs.take 1) == Str.ofString "\n") = false) : nl cs = 0 := by
  rw [str_nl] at h
  unfold nl
  rw [if_neg]
  intro e
  cases cs with
  | nil => simp at e
  | cons c r =>
    simp at e
    subst e
    simp at h
set_option maxHeartbeats 1000000 in
theorem read_char {a : LexP} {tl : List (Addr × Obj)} {vs : List Value} {cs : List Nat} {nS np : Nat} {n : Int} {tn : Tok} {ps : List Value} (ha : a.Ok tl) (hS : SignsAre vs cs) (hcs : cs.length ≤ 10000) (hasc : Asc cs) :
    Meets prog w (hdK.heap_1 w.params) (.call (.ref 101) ⟨[.ref a.x], []⟩) (a.led w.params vs nS n tn ps np ++ tl) 4 120 (fun n₀ v l' => ∃ t nS' tn', v = .str (txt (cs.take 1)) t ∧ l' = a.led w.params vs.tail nS' (n + nl cs) tn' ps np ++ tl) := by
  have S0 := fun tz => lam_read (w := w) (prog := prog) (nS := nS) (np := np) (n := n) (tn := tn) (tz := tz) (ps := ps) ha hS hcs hasc
  obtain ⟨⟨e1, e2, e3, e4, e5, e6, e7, e8⟩, hcell, hmade, ⟨p1, p2, p3, p4, p5, p6, p7, p8, p9⟩⟩ := ha
  obtain ⟨cS, S, d1, x1, pb1, f, d, x, pb, c', ctv, pm, oS, t1, t3, t4, t5, t6, s1, s2, s3, s4, s5, s6, s7⟩ := a
  dsimp only [LexP.led] at *
  refine meets_def (by k_is) (by k_is) (fun s => BindsTo.of_eq rfl) (locs rfl) (by decide) (fun A s g p loose mean mg mb n₀ L h₁ tk k hh hdep hu X T hn hfp F N hk => ?_)
  try dsimp only
  dsimp only [List.cons_append, List.nil_append] at N
  have hcLine : cLine = 9900 := rfl
  have hrec : recursionLimit = 1000 := rfl
  have hl1 : ∀ p ∈ tl, p.1 < n₀ := fun p hp => hfp p (List.mem_append_right _ hp)
  have hpb : pb < n₀ := hfp _ (.head _)
  clear hfp
  iterate 6 walk1
  refine' kmu_own ?k1 ?k2 ?k3 ?k4 ?k5 ?_
  case k1 => k_asm
  case k2 => k_asm
  case k3 => k_inst
  case k4 => k_is
  case k5 => k_is
  walk1
  dsimp only
  refine callWith_F (FnAt.of (by k_asm) (by k_mem)) ?_
  iterate 3 walk1
  refine ⟨FnAt.of (by k_asm) (by k_mem), ?_⟩
  refine Meets.call [] (S0 _) (by k_asm) (by k_asm) X T (fun p hp => hp) (fun p hp => absurd hp List.not_mem_nil) (fun q hq => absurd hq List.not_mem_nil) hh (by omega) (by omega) ?_
  intro n₁ v l₁ h₂ tk₂ hp F3 N3 o1 o2 o3 o4
  obtain ⟨t, nS', rfl, rfl⟩ := hp
  simp only [List.append_nil] at N3
  dsimp only [List.cons_append, List.nil_append] at N3
  clear o2 o3 o4 S0
  iterate 10 walk1
  · rename_i hc
    (repeat' (first | walk1 | (dsimp only; walk1)))
    with_reducible rename Fr _ _ _ _ => F5
    with_reducible rename News _ _ _ _ => N5
    have en := nl_yes hc
    exact hk _ _ _ _ _ ⟨_, _, _, rfl, by rw [en]; rfl⟩ F5 N5
  · rename_i hc
    (repeat' (first | walk1 | (dsimp only; walk1)))
    with_reducible rename Fr _ _ _ _ => F5
    with_reducible rename News _ _ _ _ => N5
    have en := nl_no hc
    exact hk _ _ _ _ _ ⟨_, _, tn, rfl, by rw [en, Int.add_zero]; rfl⟩ F5 N5
end

noncomputable section
theorem walkOff_C10a : True := by
  w_top off
  exact True.intro
noncomputable def o101 (P : Params) : { o : Obj // (hdK.heap_1 P).lookup 101 = some o } := ⟨_, by k_is⟩
theorem next_read {A : Around} {E : Value → Shared → Prop} {s : Shared} {h₀ : Heap} {L : Addr} {m : Str → Option Value} {p : Program} {loose : List Str} {mean : ExcName → Option Value} {mg mb : Str → Option Value} {news : List (Addr × Obj)}
    {a : LexP} {tl : List (Addr × Obj)} {vs : List Value} {cs : List Nat} {nS np I q : Nat} {n : Int} {tn te : Tok} {ps : List Value} {Q : Option Value → Shared → Prop}
    (ha : a.Ok tl) (hS : SignsAre vs cs) (hcs : cs.length ≤ 10000) (hasc : Asc cs)
    (hh : A.handled = none) (F : Fr h₀ L s.heap m) (N : News h₀ L s.heap ((I, ciObj (.ref q) (.str (Str.ofString "") te)) :: (q, methodObj (.ref 101) (.ref a.x)) :: (a.led w.params vs nS n tn ps np ++ tl)))
    (X : (hdK.heap_1 w.params).In h₀) (T : Top p loose mean mg mb h₀) (hd : A.depth + 10 < recursionLimit) (hu : A.units + 200 < cLine)
    (h1 : I ≠ q) (h2 : ∀ p ∈ a.led w.params vs nS n tn ps np ++ tl, p.1 ≠ I ∧ p.1 ≠ q)
    (hc : ∀ c r h' tk nS' tn' t, cs = c :: r → Fr h₀ L h' m → News h₀ L h' ((I, ciObj (.ref q) (.str (Str.ofString "") te)) :: (q, methodObj (.ref 101) (.ref a.x)) :: (a.led w.params vs.tail nS' (n + nl cs) tn' ps np ++ tl)) → Q (some (.str (txt [c]) t)) { s with heap := h', toks := tk })
    (he : ∀ h' tk nS' tn', cs = [] → Fr h₀ L h' m → News h₀ L h' ((I, ciEnd) :: (q, methodObj (.ref 101) (.ref a.x)) :: (a.led w.params [] nS' n tn' ps np ++ tl)) → Q none { s with heap := h', toks := tk }) :
    wpAny (model prog w) A (pyNext (.ref I)) Q E s := by
  have hI := (N _ (.head _)).1
  have hq := (N _ (.tail _ (.head _))).1
  have hfn : ∃ fo fd, h₀.get? 101 = some fo ∧ fo.data = Data.func fd := ⟨(o101 w.params).1, _, X _ _ (o101 w.params).2, rfl⟩
  have keepf : ∀ h' : Heap, (∀ b o, h₀.get? b = some o → h'.get? b = some o) → ∃ fo fd, h'.get? 101 = some fo ∧ fo.data = Data.func fd := fun h' k => let ⟨fo, fd, e, d⟩ := hfn; ⟨fo, fd, k _ _ e, d⟩
  refine next_ci hh hI hq (keepf _ F.keep) (method_call hq ?_)
  have N1 : News h₀ L s.heap ((a.led w.params vs nS n tn ps np ++ tl) ++ [(I, ciObj (.ref q) (.str (Str.ofString "") te)), (q, methodObj (.ref 101) (.ref a.x))]) := fun p hp => by
    rcases List.mem_append.mp hp with hp | hp
    · exact N p (.tail _ (.tail _ hp))
    · rcases List.mem_cons.mp hp with rfl | hp
      · exact N _ (.head _)
      · rw [List.mem_singleton.mp hp]; exact N _ (.tail _ (.head _))
  obtain ⟨W, F', st, back⟩ := Wo.call F N1 (fun p hp r hr => by
    rcases List.mem_cons.mp hr with rfl | hr
    · exact (h2 p hp).1
    · rw [List.mem_singleton.mp hr]; exact (h2 p hp).2)
  refine read_char (w := w) (prog := prog) (nS := nS) (np := np) (n := n) (tn := tn) (ps := ps) ha hS hcs hasc A.in1 s _ p loose mean mg mb hh ?_ ?_ W (X.keeps st) (T.keeps st) _ fun v l h' tk hp W' => ?_
  · show A.depth + 4 < recursionLimit; omega
  · show A.units + 1 + 120 < cLine; omega
  obtain ⟨F2, N2, nd2⟩ := back h' l W'
  obtain ⟨t, nS', tn', rfl, rfl⟩ := hp
  have gI := (N2 _ (List.mem_append_right _ (.head _)))
  have gq := (N2 _ (List.mem_append_right _ (.tail _ (.head _))))
  refine ⟨txt (cs.take 1), t, rfl, gI.1, gq.1, keepf _ F2.keep, fun hne => ?_, fun he2 => ?_⟩
  · cases cs with
    | nil => exact absurd rfl hne
    | cons c r =>
      refine hc c r h' tk nS' tn' t rfl F2 (fun p hp => N2 p ?_)
      rcases List.mem_cons.mp hp with rfl | hp
      · exact List.mem_append_right _ (.head _)
      · rcases List.mem_cons.mp hp with rfl | hp
        · exact List.mem_append_right _ (.tail _ (.head _))
        · exact List.mem_append_left _ hp
  · intro h'' g1 hx
    have e0 : cs = [] := by
      cases cs with
      | nil => rfl
      | cons c r => exact absurd he2 (by show ¬ txt [c] = txt []; simp)
    subst e0
    cases hS
    have en : n + nl [] = n := Int.add_zero n
    have F3 : Fr h₀ L h'' m := ⟨F2.ns.extBut hx gI.2.1.symm, fun b o e => hx b o (fun hb => by rw [hb, gI.2.2] at e; cases e) (F2.keep b o e), F2.above⟩
    refine he h'' tk nS' tn' rfl F3 (fun p hp => ?_)
    rcases List.mem_cons.mp hp with rfl | hp
    · exact ⟨g1, gI.2⟩
    · have z := N2 p (by
        rcases List.mem_cons.mp hp with rfl | hp
        · exact List.mem_append_right _ (.tail _ (.head _))
        · rw [en]; exact List.mem_append_left _ hp)
      refine ⟨hx _ _ ?_ z.1, z.2⟩
      rcases List.mem_cons.mp hp with rfl | hp
      · exact fun e => h1 e.symm
      · intro e
        have z2 := nd2 p (by rw [en]; exact hp) _ (.head _)
        exact z2 e
end

noncomputable section
theorem walkOff_C10b : True := by
  w_top off
  exact True.intro
set_option maxHeartbeats 1000000 in
theorem get_pushed {a : LexP} {tl : List (Addr × Obj)} {vs : List Value} {nS np : Nat} {n : Int} {tn : Tok} {v₀ : Value} {ps : List Value} (ha : a.Ok tl) (hps : ps.length ≤ 10000) :
    Meets prog w (hdK.heap_1 w.params) (.call (.ref 108) ⟨[.ref a.x], []⟩) (a.led w.params vs nS n tn (v₀ :: ps) np ++ tl) 4 120 (fun n₀ v l' => ∃ np', v = v₀ ∧ l' = a.led w.params vs nS n tn ps np' ++ tl) := by
  obtain ⟨⟨e1, e2, e3, e4, e5, e6, e7, e8⟩, hcell, hmade, ⟨p1, p2, p3, p4, p5, p6, p7, p8, p9⟩⟩ := ha
  obtain ⟨cS, S, d1, x1, pb1, f, d, x, pb, c', ctv, pm, oS, t1, t3, t4, t5, t6, s1, s2, s3, s4, s5, s6, s7⟩ := a
  dsimp only [LexP.led] at *
  refine meets_def (by k_is) (by k_is) (fun s => BindsTo.of_eq rfl) (locs rfl) (by decide) (fun A s g p loose mean mg mb n₀ L h₁ tk k hh hdep hu X T hn hfp F N hk => ?_)
  try dsimp only
  dsimp only [List.cons_append, List.nil_append] at N
  have hcLine : cLine = 9900 := rfl
  have hrec : recursionLimit = 1000 := rfl
  have hl1 : ∀ p ∈ tl, p.1 < n₀ := fun p hp => hfp p (List.mem_append_right _ hp)
  have hpb : pb < n₀ := hfp _ (.head _)
  clear hfp
  (repeat' (first | walk1 | (dsimp only; walk1)))
  refine kl_popAt (k := 0) (p := []) (y := v₀) (q := ps) (by k_asm) (by k_asm) rfl ?_ rfl (by k_upd) (by simpa using Nat.le_trans (show ps.length + 1 ≤ 10001 by omega) (by decide)) (fun h' F' N' => ?_)
  · simp [seqIndex?]
  · exact hk _ _ _ _ _ ⟨_, rfl, rfl⟩ F' N'
end

noncomputable section
theorem walkOff_C10c : True := by
  w_top off
  exact True.intro
set_option maxHeartbeats 1000000 in
theorem push_token {a : LexP} {tl : List (Addr × Obj)} {vs : List Value} {nS np : Nat} {n : Int} {tn : Tok} {v₀ : Value} {ps : List Value} (ha : a.Ok tl) (hps : ps.length ≤ 10000) :
    Meets prog w (hdK.heap_1 w.params) (.call (.ref 115) ⟨[.ref a.x, v₀], []⟩) (a.led w.params vs nS n tn ps np ++ tl) 4 120 (fun n₀ v l' => ∃ np', v = .none ∧ l' = a.led w.params vs nS n tn (ps ++ [v₀]) np' ++ tl) := by
  obtain ⟨⟨e1, e2, e3, e4, e5, e6, e7, e8⟩, hcell, hmade, ⟨p1, p2, p3, p4, p5, p6, p7, p8, p9⟩⟩ := ha
  obtain ⟨cS, S, d1, x1, pb1, f, d, x, pb, c', ctv, pm, oS, t1, t3, t4, t5, t6, s1, s2, s3, s4, s5, s6, s7⟩ := a
  dsimp only [LexP.led] at *
  refine meets_def (by k_is) (by k_is) (fun s => BindsTo.of_eq rfl) (locs rfl) (by decide) (fun A s g p loose mean mg mb n₀ L h₁ tk k hh hdep hu X T hn hfp F N hk => ?_)
  try dsimp only
  dsimp only [List.cons_append, List.nil_append] at N
  have hcLine : cLine = 9900 := rfl
  have hrec : recursionLimit = 1000 := rfl
  have hl1 : ∀ p ∈ tl, p.1 < n₀ := fun p hp => hfp p (List.mem_append_right _ hp)
  have hpb : pb < n₀ := hfp _ (.head _)
  clear hfp
  have hsl : ps.length ≤ sizeLine := Nat.le_trans hps (by decide)
  (repeat' (first | walk1 | (dsimp only; walk1)))
  with_reducible rename Fr _ _ _ _ => F5
  with_reducible rename News _ _ _ _ => N5
  have ep : ps.toArray.push v₀ = (ps ++ [v₀]).toArray := by simp
  rw [ep] at N5
  exact hk _ _ _ _ _ ⟨_, rfl, rfl⟩ F5 N5
end

noncomputable section
theorem walkOff_C10e : True := by
  w_top off
  exact True.intro
noncomputable def o108 (P : Params) : { o : Obj // (hdK.heap_1 P).lookup 108 = some o } := ⟨_, by k_is⟩
noncomputable def loopsOf (o : Obj) : Option (Scope × (Pos × List Stmt) × (Pos × List Stmt)) := match o.data with
  | .func fd => match fd.body with
    | .stmts b => match b[3]? with
      | some (Stmt.For _ _ lb _ _) => match lb[1]? with
        | some (Stmt.If _ tb eb _) => match tb[0]?, eb[2]? with
          | some (Stmt.For (PySem.Expr.Name _ p1) _ qb _ _), some (Stmt.For (PySem.Expr.Name _ p2) _ bb _ _) => some (fd.scope, (p1, qb), (p2, bb))
          | _, _ => none
        | _ => none
      | _ => none
    | _ => none
  | _ => none
noncomputable def loops108 (P : Params) : { x : Scope × (Pos × List Stmt) × (Pos × List Stmt) // loopsOf (o108 P).1 = some x } := ⟨_, rfl⟩
noncomputable abbrev env108 (P : Params) (L : Addr) : Env := envX (Str.ofString "_netrclex.get_token") (loops108 P).1.1 L 108 (.ref 107) []
noncomputable def LexP.Off (a : LexP) (tl : List (Addr × Obj)) (I q : Nat) : Prop := ∀ b ∈ [a.pb, a.x, a.d, a.f, a.pb1, a.x1, a.d1, a.S, a.cS] ++ tl.map (·.1), b ≠ I ∧ b ≠ q
theorem LexP.Off.led {a : LexP} {tl : List (Addr × Obj)} {I q : Nat} (h : a.Off tl I q) {P : Params} {vs ps : List Value} {nS np : Nat} {n : Int} {tn : Tok} : ∀ p ∈ a.led P vs nS n tn ps np ++ tl, p.1 ≠ I ∧ p.1 ≠ q := fun p hp => by
  refine h p.1 ?_
  have e : [a.pb, a.x, a.d, a.f, a.pb1, a.x1, a.d1, a.S, a.cS] ++ tl.map (·.1) = (a.led P vs nS n tn ps np ++ tl).map (·.1) := by
    rw [List.map_append]; rfl
  rw [e]
  exact List.mem_map_of_mem hp
noncomputable abbrev lexNews (P : Params) (a : LexP) (tl : List (Addr × Obj)) (I q : Nat) (te : Tok) (vs : List Value) (nS : Nat) (n : Int) (tn : Tok) (np : Nat) : List (Addr × Obj) :=
  (I, ciObj (.ref q) (.str (Str.ofString "") te)) :: (q, methodObj (.ref 101) (.ref a.x)) :: (a.led P vs nS n tn [] np ++ tl)
noncomputable abbrev lexOver (P : Params) (a : LexP) (tl : List (Addr × Obj)) (I q : Nat) (nS : Nat) (n : Int) (tn : Tok) (np : Nat) : List (Addr × Obj) :=
  (I, ciEnd) :: (q, methodObj (.ref 101) (.ref a.x)) :: (a.led P [] nS n tn [] np ++ tl)
noncomputable abbrev lexSay (a : LexP) (I : Nat) (acc : List Nat) (tt : Tok) : List (Str × Value) := [(Str.ofString "self", .ref a.x), (Str.ofString "fiter", .ref I), (Str.ofString "token", .str (txt acc) tt)]
theorem nl_step {n total : Int} {c : Nat} {r : List Nat} (h : n + nls (c :: r) = total) : n + nl (c :: r) + nls r = total := by
  rw [← h, nls_cons]; unfold nl; by_cases h10 : c = 10 <;> simp [h10] <;> omega
theorem nl_tail {n : Int} {r : List Nat} : n + nl r + nls r.tail = n + nls r := by
  cases r with
  | nil => simp [nl]
  | cons c r => rw [Int.add_assoc]; congr 1; show nl (c :: r) + nls r = _; rw [nls_cons]; unfold nl; by_cases h10 : c = 10 <;> simp [h10] <;> omega
theorem SignsAre.tl' {vs : List Value} {r : List Nat} (h : SignsAre vs r) : SignsAre vs.tail r.tail := by
  cases h with
  | nil => exact .nil
  | cons c t h => exact h
inductive LoopSt (P : Params) (a : LexP) (tl : List (Addr × Obj)) (I q : Nat) (te : Tok) (np : Nat) (target : List Nat × List Nat) (total : Int) (f : List Nat → List Nat → List Nat × List Nat) : Nat → (Str → Option Value) → List (Addr × Obj) → Prop
  | mk (acc cs vs nS n tn tt) {m : Str → Option Value} (hsay : Says m (lexSay a I acc tt)) (hS : SignsAre vs cs) (hlen : acc.length + cs.length ≤ 10000) (hasc : Asc cs) (htot : n + nls cs = total) (hf : f acc cs = target) : LoopSt P a tl I q te np target total f (cs.length + 1) m (lexNews P a tl I q te vs nS n tn np)
inductive LoopEnd (P : Params) (a : LexP) (tl : List (Addr × Obj)) (I q : Nat) (np : Nat) (target : List Nat × List Nat) (total : Int) : Nat → (Str → Option Value) → List (Addr × Obj) → Prop
  | mk (acc nS tn tt) {m : Str → Option Value} (hsay : Says m (lexSay a I acc tt)) (htar : target = (acc, [])) : LoopEnd P a tl I q np target total 0 m (lexOver P a tl I q nS total tn np)
section
variable {A : Around} {s : Shared} {g : Heap} {L : Addr} {m : Str → Option Value} {p : Program} {loose : List Str} {mean : ExcName → Option Value} {mg mb : Str → Option Value} {R : Result → Shared → Prop}
  {a : LexP} {tl : List (Addr × Obj)} {vs : List Value} {cs acc : List Nat} {nS np I q : Nat} {n : Int} {tn te tt : Tok}
set_option maxHeartbeats 1000000 in
theorem quoted_loop (hh : A.handled = none) (ha : a.Ok tl) (X : (hdK.heap_1 w.params).In g) (T : Top p loose mean mg mb g) (hdep : A.depth + 10 < recursionLimit) (hu : A.units + 200 < cLine) (hIq : I ≠ q) (hoff : a.Off tl I q)
    (F : Fr g L s.heap m) (hsay : Says m (lexSay a I acc tt)) (N : News g L s.heap (lexNews w.params a tl I q te vs nS n tn np)) (hS : SignsAre vs cs) (hlen : acc.length + cs.length ≤ 10000) (hasc : Asc cs)
    (hret : ∀ vs' nS' n' tn' t h' tk m', n' + nls (quoted acc cs).2 = n + nls cs → SignsAre vs' (quoted acc cs).2 → Fr g L h' m' → News g L h' (lexNews w.params a tl I q te vs' nS' n' tn' np) → R (.ok (.ret (.str (txt (quoted acc cs).1) t))) { s with heap := h', toks := tk })
    (hend : ∀ acc' nS' tn' tt' h' tk m', quoted acc cs = (acc', []) → Says m' (lexSay a I acc' tt') → Fr g L h' m' → News g L h' (lexOver w.params a tl I q nS' (n + nls cs) tn' np) → R (.ok .next) { s with heap := h', toks := tk }) :
    codeAny (model prog w) A (.forLoop (.Name (Str.ofString "ch") (loops108 w.params).1.2.1.1) (.ref I) (loops108 w.params).1.2.1.2 [] (env108 w.params L)) R s := by
  have hcLine : cLine = 9900 := rfl
  have hrec : recursionLimit = 1000 := rfl
  generalize htotal : n + nls cs = total at *
  generalize htarget : quoted acc cs = target at *
  refine forOwn (k := cs.length + 1) rfl rfl F N (fun k m news => LoopSt w.params a tl I q te np target total quoted k m news ∨ LoopEnd w.params a tl I q np target total k m news)
    (.inl ⟨acc, cs, vs, nS, n, tn, tt, hsay, hS, hlen, hasc, htotal, htarget⟩) ?_
  clear htotal htarget hS hlen hasc hsay F N
  intro k m₁ news₁ h tk kn hJ F N hkn
  rcases hJ with ⟨acc, cs, vs, nS, n, tn, tt, hsay, hS, hlen, hasc, htot, hf⟩ | ⟨acc, nS, tn, tt, hsay, htar⟩
  · refine next_read (news := []) ha hS (by omega) hasc hh F N X T (by omega) (by omega) hIq hoff.led (fun c r h2 tk2 nS2 tn2 t2 e F2 N2 => ?_) (fun h2 tk2 nS2 tn2 e F2 N2 => ?_)
    · refine ⟨_, _, _, rfl, F2, N2, fun h3 tk3 F3 N3 => ?_⟩
      have F4 := Mine.Fr.saidIf F3 hsay
      clear F2 N2 F3 F N
      subst e
      have hnl := nl_step htot
      have hasc2 : Asc r := fun d hd => hasc d (.tail _ hd)
      have hS2 := hS.tl
      dsimp only [lexNews, LexP.led, List.cons_append, List.nil_append] at N3
      dsimp only [env108, loops108, lexSay] at F4 ⊢
      refine gen_K fun KT hKT => ?_
      iterate 6 walk1
      rw [txt_is34]
      by_cases h34 : c = 34
      · subst h34
        iterate 6 walk1
        rw [quoted_34] at hf
        subst hf
        exact hKT _ _ (hret _ _ _ _ _ _ _ _ hnl hS2 F4 N3)
      · rw [beq_false_of_ne h34]
        iterate 9 walk1
        rw [txt_is92]
        by_cases h92 : c = 92
        · subst h92
          repeat walk1
          have S0 := read_char (w := w) (prog := prog) (nS := nS2) (np := np) (n := n + nl (92 :: r)) (tn := tn2) (ps := []) ha hS2 (by simp at hlen; omega) hasc2
          have N4 : News g L h3 (lexNews w.params a tl I q te vs.tail nS2 (n + nl (92 :: r)) tn2 np) := N3
          refine Meets.call [(I, ciObj (.ref q) (.str (Str.ofString "") te)), (q, methodObj (.ref 101) (.ref a.x))] S0 F4 N4 X T (fun p hp => .tail _ (.tail _ hp)) (fun p hp => ?_) (fun q' hq p hp => ?_) hh (by omega) (by omega) ?_
          · rcases List.mem_cons.mp hp with rfl | hp
            · exact .head _
            · rw [List.mem_singleton.mp hp]; exact .tail _ (.head _)
          · rcases List.mem_cons.mp hq with rfl | hq
            · exact (hoff.led p hp).1
            · rw [List.mem_singleton.mp hq]; exact (hoff.led p hp).2
          intro n₁ v l₁ h₂ tk₂ hp F5 N5 o1 o2 o3 o4
          obtain ⟨t3, nS3, tn3, rfl, rfl⟩ := hp
          have N6 : News g L h₂ (lexNews w.params a tl I q te vs.tail.tail nS3 (n + nl (92 :: r) + nl r) tn3 np) := fun p hp => N5 p (by
            rcases List.mem_cons.mp hp with rfl | hp
            · exact List.mem_append_right _ (.head _)
            · rcases List.mem_cons.mp hp with rfl | hp
              · exact List.mem_append_right _ (.tail _ (.head _))
              · exact List.mem_append_left _ hp)
          clear S0 N3 N4 N5 F4 o1 o2 o3 o4
          dsimp only [lexNews, LexP.led, List.cons_append, List.nil_append] at N6
          have hr1 : (r.take 1).length ≤ 1 := List.length_take_le ..
          iterate 8 walk1
          rw [txt_append]
          iterate 2 walk1
          with_reducible rename Fr _ _ _ _ => F7
          with_reducible rename News _ _ _ _ => N7
          refine hKT _ _ (hkn _ _ _ _ _ ?_ F7 N7 (.inl ⟨acc ++ r.take 1, r.tail, vs.tail.tail, nS3, n + nl (92 :: r) + nl r, tn3, _, says_cons (by rfl) (says_cons (by rfl) (says_cons (by rfl) says_nil)), hS2.tl', ?_, fun d hd => hasc2 d (List.mem_of_mem_tail hd), ?_, ?_⟩))
          · simp; omega
          · simp at hlen ⊢; omega
          · rw [← hnl]
            exact nl_tail
          · rw [← hf, quoted_esc]
        · rw [beq_false_of_ne h92]
          iterate 10 walk1
          rw [txt_append]
          iterate 2 walk1
          with_reducible rename Fr _ _ _ _ => F7
          with_reducible rename News _ _ _ _ => N7
          refine hKT _ _ (hkn _ _ _ _ _ (by simp) F7 N7 (.inl ⟨acc ++ [c], r, vs.tail, nS2, n + nl (c :: r), tn2, _, says_cons (by rfl) (says_cons (by rfl) (says_cons (by rfl) says_nil)), hS2, (by simp at hlen ⊢; omega), hasc2, hnl, ?_⟩))
          rw [← hf, quoted_c h34 h92]
    · subst e
      rw [quoted_nil] at hf
      subst hf
      have e0 : n = total := by rw [← htot]; exact (Int.add_zero n).symm
      subst e0
      exact hend _ _ _ _ _ _ _ rfl hsay F2 N2
  · refine next_ci_end hh (N _ (.head _)).1 (fun h' hI hx => ?_)
    subst htar
    have ha1 := (N _ (.head _)).2
    refine hend acc nS tn tt h' tk _ rfl hsay ⟨F.ns.extBut hx ha1.1.symm, fun b o e => hx b o (fun hb => by rw [hb, ha1.2] at e; cases e) (F.keep b o e), F.above⟩ (fun p hp => ?_)
    rcases List.mem_cons.mp hp with rfl | hp2
    · exact ⟨hI, ha1⟩
    · refine ⟨hx _ _ ?_ (N p hp).1, (N p hp).2⟩
      rcases List.mem_cons.mp hp2 with rfl | hp3
      · exact hIq.symm
      · exact (hoff.led p hp3).1
set_option maxHeartbeats 1000000 in
theorem bare_loop (hh : A.handled = none) (ha : a.Ok tl) (X : (hdK.heap_1 w.params).In g) (T : Top p loose mean mg mb g) (hdep : A.depth + 10 < recursionLimit) (hu : A.units + 200 < cLine) (hIq : I ≠ q) (hoff : a.Off tl I q)
    (F : Fr g L s.heap m) (hsay : Says m (lexSay a I acc tt)) (N : News g L s.heap (lexNews w.params a tl I q te vs nS n tn np)) (hS : SignsAre vs cs) (hlen : acc.length + cs.length ≤ 10000) (hasc : Asc cs)
    (hret : ∀ vs' nS' n' tn' t h' tk m', n' + nls (bare acc cs).2 = n + nls cs → SignsAre vs' (bare acc cs).2 → Fr g L h' m' → News g L h' (lexNews w.params a tl I q te vs' nS' n' tn' np) → R (.ok (.ret (.str (txt (bare acc cs).1) t))) { s with heap := h', toks := tk })
    (hend : ∀ acc' nS' tn' tt' h' tk m', bare acc cs = (acc', []) → Says m' (lexSay a I acc' tt') → Fr g L h' m' → News g L h' (lexOver w.params a tl I q nS' (n + nls cs) tn' np) → R (.ok .next) { s with heap := h', toks := tk }) :
    codeAny (model prog w) A (.forLoop (.Name (Str.ofString "ch") (loops108 w.params).1.2.2.1) (.ref I) (loops108 w.params).1.2.2.2 [] (env108 w.params L)) R s := by
  have hcLine : cLine = 9900 := rfl
  have hrec : recursionLimit = 1000 := rfl
  generalize htotal : n + nls cs = total at *
  generalize htarget : bare acc cs = target at *
  refine forOwn (k := cs.length + 1) rfl rfl F N (fun k m news => LoopSt w.params a tl I q te np target total bare k m news ∨ LoopEnd w.params a tl I q np target total k m news)
    (.inl ⟨acc, cs, vs, nS, n, tn, tt, hsay, hS, hlen, hasc, htotal, htarget⟩) ?_
  clear htotal htarget hS hlen hasc hsay F N
  intro k m₁ news₁ h tk kn hJ F N hkn
  rcases hJ with ⟨acc, cs, vs, nS, n, tn, tt, hsay, hS, hlen, hasc, htot, hf⟩ | ⟨acc, nS, tn, tt, hsay, htar⟩
  · refine next_read (news := []) ha hS (by omega) hasc hh F N X T (by omega) (by omega) hIq hoff.led (fun c r h2 tk2 nS2 tn2 t2 e F2 N2 => ?_) (fun h2 tk2 nS2 tn2 e F2 N2 => ?_)
    · refine ⟨_, _, _, rfl, F2, N2, fun h3 tk3 F3 N3 => ?_⟩
      have F4 := Mine.Fr.saidIf F3 hsay
      clear F2 N2 F3 F N
      subst e
      have hnl := nl_step htot
      have hasc2 : Asc r := fun d hd => hasc d (.tail _ hd)
      have hS2 := hS.tl
      dsimp only [lexNews, LexP.led, List.cons_append, List.nil_append] at N3
      dsimp only [env108, loops108, lexSay] at F4 ⊢
      refine gen_K fun KT hKT => ?_
      iterate 8 walk1
      rw [in_ws_eq]
      by_cases hw : ws c = true
      · rw [hw]
        iterate 6 walk1
        rw [bare_ws hw] at hf
        subst hf
        exact hKT _ _ (hret _ _ _ _ _ _ _ _ hnl hS2 F4 N3)
      · rw [Bool.not_eq_true] at hw
        rw [hw]
        iterate 9 walk1
        rw [txt_is92]
        by_cases h92 : c = 92
        · subst h92
          repeat walk1
          have S0 := read_char (w := w) (prog := prog) (nS := nS2) (np := np) (n := n + nl (92 :: r)) (tn := tn2) (ps := []) ha hS2 (by simp at hlen; omega) hasc2
          have N4 : News g L h3 (lexNews w.params a tl I q te vs.tail nS2 (n + nl (92 :: r)) tn2 np) := N3
          refine Meets.call [(I, ciObj (.ref q) (.str (Str.ofString "") te)), (q, methodObj (.ref 101) (.ref a.x))] S0 F4 N4 X T (fun p hp => .tail _ (.tail _ hp)) (fun p hp => ?_) (fun q' hq p hp => ?_) hh (by omega) (by omega) ?_
          · rcases List.mem_cons.mp hp with rfl | hp
            · exact .head _
            · rw [List.mem_singleton.mp hp]; exact .tail _ (.head _)
          · rcases List.mem_cons.mp hq with rfl | hq
            · exact (hoff.led p hp).1
            · rw [List.mem_singleton.mp hq]; exact (hoff.led p hp).2
          intro n₁ v l₁ h₂ tk₂ hp F5 N5 o1 o2 o3 o4
          obtain ⟨t3, nS3, tn3, rfl, rfl⟩ := hp
          have N6 : News g L h₂ (lexNews w.params a tl I q te vs.tail.tail nS3 (n + nl (92 :: r) + nl r) tn3 np) := fun p hp => N5 p (by
            rcases List.mem_cons.mp hp with rfl | hp
            · exact List.mem_append_right _ (.head _)
            · rcases List.mem_cons.mp hp with rfl | hp
              · exact List.mem_append_right _ (.tail _ (.head _))
              · exact List.mem_append_left _ hp)
          clear S0 N3 N4 N5 F4 o1 o2 o3 o4
          dsimp only [lexNews, LexP.led, List.cons_append, List.nil_append] at N6
          have hr1 : (r.take 1).length ≤ 1 := List.length_take_le ..
          iterate 8 walk1
          rw [txt_append]
          iterate 2 walk1
          with_reducible rename Fr _ _ _ _ => F7
          with_reducible rename News _ _ _ _ => N7
          refine hKT _ _ (hkn _ _ _ _ _ ?_ F7 N7 (.inl ⟨acc ++ r.take 1, r.tail, vs.tail.tail, nS3, n + nl (92 :: r) + nl r, tn3, _, says_cons (by rfl) (says_cons (by rfl) (says_cons (by rfl) says_nil)), hS2.tl', ?_, fun d hd => hasc2 d (List.mem_of_mem_tail hd), ?_, ?_⟩))
          · simp; omega
          · simp at hlen ⊢; omega
          · rw [← hnl]
            exact nl_tail
          · rw [← hf, bare_esc]
        · rw [beq_false_of_ne h92]
          iterate 10 walk1
          rw [txt_append]
          iterate 2 walk1
          with_reducible rename Fr _ _ _ _ => F7
          with_reducible rename News _ _ _ _ => N7
          refine hKT _ _ (hkn _ _ _ _ _ (by simp) F7 N7 (.inl ⟨acc ++ [c], r, vs.tail, nS2, n + nl (c :: r), tn2, _, says_cons (by rfl) (says_cons (by rfl) (says_cons (by rfl) says_nil)), hS2, (by simp at hlen ⊢; omega), hasc2, hnl, ?_⟩))
          rw [← hf, bare_c hw h92]
    · subst e
      rw [bare_nil] at hf
      subst hf
      have e0 : n = total := by rw [← htot]; exact (Int.add_zero n).symm
      subst e0
      exact hend _ _ _ _ _ _ _ rfl hsay F2 N2
  · refine next_ci_end hh (N _ (.head _)).1 (fun h' hI hx => ?_)
    subst htar
    have ha1 := (N _ (.head _)).2
    refine hend acc nS tn tt h' tk _ rfl hsay ⟨F.ns.extBut hx ha1.1.symm, fun b o e => hx b o (fun hb => by rw [hb, ha1.2] at e; cases e) (F.keep b o e), F.above⟩ (fun p hp => ?_)
    rcases List.mem_cons.mp hp with rfl | hp2
    · exact ⟨hI, ha1⟩
    · refine ⟨hx _ _ ?_ (N p hp).1, (N p hp).2⟩
      rcases List.mem_cons.mp hp2 with rfl | hp3
      · exact hIq.symm
      · exact (hoff.led p hp3).1
end
end

noncomputable section
theorem walkOff_C10 : True := by
  w_top off
  exact True.intro
inductive WordSt (P : Params) (a : LexP) (tl : List (Addr × Obj)) (I q : Nat) (te : Tok) (np : Nat) (target : List Nat × List Nat) (total : Int) : Nat → (Str → Option Value) → List (Addr × Obj) → Prop
  | mk (cs vs nS n tn tt) {m : Str → Option Value} (hsay : Says m (lexSay a I [] tt)) (hS : SignsAre vs cs) (hlen : cs.length ≤ 10000) (hasc : Asc cs) (htot : n + nls cs = total) (hf : word cs = target) : WordSt P a tl I q te np target total (cs.length + 1) m (lexNews P a tl I q te vs nS n tn np)
set_option maxHeartbeats 1000000 in
theorem get_word {a : LexP} {tl : List (Addr × Obj)} {vs : List Value} {cs : List Nat} {nS np : Nat} {n : Int} {tn : Tok} (ha : a.Ok tl) (hS : SignsAre vs cs) (hcs : cs.length ≤ 10000) (hasc : Asc cs) :
    Meets prog w (hdK.heap_1 w.params) (.call (.ref 108) ⟨[.ref a.x], []⟩) (a.led w.params vs nS n tn [] np ++ tl) 20 300 (fun n₀ v l' => ∃ vs' nS' tn' t, v = .str (txt (word cs).1) t ∧ SignsAre vs' (word cs).2 ∧ l' = a.led w.params vs' nS' (n + nls cs - nls (word cs).2) tn' [] np ++ tl) := by
  have ha' := ha
  obtain ⟨⟨e1, e2, e3, e4, e5, e6, e7, e8⟩, hcell, hmade, ⟨p1, p2, p3, p4, p5, p6, p7, p8, p9⟩⟩ := ha'
  refine meets_def (by k_is) (by k_is) (fun s => BindsTo.of_eq rfl) (locs rfl) (by decide) (fun A s g p loose mean mg mb n₀ L h₁ tk k hh hdep hu X T hn hfp F N hk => ?_)
  try dsimp only
  dsimp only [LexP.led, List.cons_append, List.nil_append] at N
  have hcLine : cLine = 9900 := rfl
  have hrec : recursionLimit = 1000 := rfl
  have hl1 : ∀ p ∈ tl, p.1 < n₀ := fun p hp => hfp p (List.mem_append_right _ hp)
  have hpb : a.pb < n₀ := hfp _ (.head _)
  clear hfp
  iterate 26 walk1
  with_reducible rename Fr _ _ _ _ => F2
  with_reducible rename News _ _ _ _ => N2
  with_reducible rename _ < _ ∧ _ => hlt
  rename Addr => q
  refine iter2_K F2 N2 (.head _) (fun I h₃ F3 N3 hI => ?_)
  k_lt hI
  clear F2 N2
  iterate 3 walk1
  refine For_own ?_
  iterate 1 walk1
  with_reducible rename Fr _ _ _ _ => F4
  with_reducible rename News _ _ _ _ => N4
  refine iter_ci (N4 _ (.head _)).1 ?_
  have hlowq : ∀ p ∈ tl, p.1 < q := lowAll hlt.2.2.2.2.2.2.2.2.2
  have hoff : a.Off tl I q := fun b hb => by
    have hpbq : a.pb < q := hlt.1
    have hqI : q < I := hI.1
    have hk : b < q := by
      rcases List.mem_append.mp hb with hb | hb
      · simp only [List.mem_cons, List.not_mem_nil, or_false] at hb
        have hle : b ≤ a.pb := by rcases hb with rfl | rfl | rfl | rfl | rfl | rfl | rfl | rfl | rfl <;> omega
        exact Nat.lt_of_le_of_lt hle hpbq
      · obtain ⟨p, hp, rfl⟩ := List.mem_map.mp hb
        exact hlowq p hp
    exact ⟨Nat.ne_of_lt (Nat.lt_trans hk hqI), Nat.ne_of_lt hk⟩
  have hIq : I ≠ q := Nat.ne_of_gt hI.1
  obtain ⟨te, hte⟩ : ∃ te : Tok, News g L _ (lexNews w.params a tl I q te vs nS n tn np) := ⟨_, N4⟩
  refine forOwn (k := cs.length + 1) rfl rfl F4 hte (fun k m news => WordSt w.params a tl I q te np (word cs) (n + nls cs) k m news ∨ LoopEnd w.params a tl I q np (word cs) (n + nls cs) k m news)
    (.inl ⟨cs, vs, nS, n, tn, _, says_cons (by rfl) (says_cons (by rfl) (says_cons (by rfl) says_nil)), hS, hcs, hasc, rfl, rfl⟩) ?_
  generalize htarget : word cs = target at *
  generalize htotal : n + nls cs = total at *
  clear htarget htotal hS hasc hcs F4 N4 hte hI hlt hl1
  have fin : ∀ vs' nS' n' tn' t h' tk m', n' + nls target.2 = total → SignsAre vs' target.2 → Fr g L h' m' → News g L h' (lexNews w.params a tl I q te vs' nS' n' tn' np) → k (.ret (.str (txt target.1) t)) { s with heap := h', toks := tk } := by
    intro vs' nS' n' tn' t h' tk m' e hS F N
    refine hk _ _ h' tk m' ⟨vs', nS', tn', t, rfl, hS, rfl⟩ F (fun p hp => N p (.tail _ (.tail _ ?_)))
    have e2 : total - nls target.2 = n' := by omega
    rw [e2] at hp
    exact hp
  have finO : ∀ acc nS tn t h' tk m', target = (acc, []) → Fr g L h' m' → News g L h' (lexOver w.params a tl I q nS total tn np) → k (.ret (.str (txt acc) t)) { s with heap := h', toks := tk } := by
    intro acc nS tn t h' tk m' e F N
    subst e
    refine hk _ _ h' tk m' ⟨[], nS, tn, t, rfl, .nil, rfl⟩ F (fun p hp => N p (.tail _ (.tail _ ?_)))
    have e2 : total - nls [] = total := by rw [nls_nil]; omega
    rw [e2] at hp
    exact hp
  intro k₁ m₁ news₁ h tk kn hJ F N hkn
  rcases hJ with ⟨cs, vs, nS, n, tn, tt, hsay, hS, hcs, hasc, htot, hf⟩ | ⟨acc, nS, tn, tt, hsay, htar⟩
  · refine next_read (news := []) ha hS hcs hasc hh F N X T (by omega) (by omega) hIq hoff.led (fun c r h2 tk2 nS2 tn2 t2 e F2 N2 => ?_) (fun h2 tk2 nS2 tn2 e F2 N2 => ?_)
    · refine ⟨_, _, _, rfl, F2, N2, fun h3 tk3 F3 N3 => ?_⟩
      have F4 := Mine.Fr.saidIf F3 hsay
      clear F2 N2 F3 F N
      subst e
      have hnl := nl_step htot
      have hasc2 : Asc r := fun d hd => hasc d (.tail _ hd)
      have hS2 := hS.tl
      dsimp only [lexNews, LexP.led, List.cons_append, List.nil_append] at N3
      dsimp only [lexSay] at F4 ⊢
      refine gen_K fun KT hKT => ?_
      iterate 8 walk1
      rw [in_ws_eq]
      by_cases hw : ws c = true
      · rw [hw]
        repeat walk1
        with_reducible rename Fr _ _ _ _ => F7
        with_reducible rename News _ _ _ _ => N7
        exact hKT _ _ (hkn _ _ _ _ _ (by simp) F7 N7 (.inl ⟨r, vs.tail, nS2, n + nl (c :: r), tn2, _, says_cons (by rfl) (says_cons (by rfl) (says_cons (by rfl) says_nil)), hS2, by simp at hcs; omega, hasc2, hnl, by rw [← hf, word_ws hw]⟩))
      · rw [Bool.not_eq_true] at hw
        rw [hw]
        iterate 10 walk1
        rw [txt_is34]
        by_cases h34 : c = 34
        · subst h34
          iterate 4 walk1
          refine For_own ?_
          iterate 1 walk1
          refine iter_ci (N3 _ (.head _)).1 ?_
          have hf2 : quoted [] r = target := by rw [← hf, word_34]
          refine quoted_loop (acc := []) (cs := r) hh ha X T (by omega) (by omega) hIq hoff F4 (says_cons (by rfl) (says_cons (by rfl) (says_cons (by rfl) says_nil))) N3 hS2 (by simp at hcs ⊢; omega) hasc2 ?_ ?_
          · intro vs' nS' n' tn' t h' tk m' hn' hS' F' N'
            rw [hf2] at hn' hS' ⊢
            exact hKT _ _ (fin _ _ _ _ _ _ _ _ (hn'.trans hnl) hS' F' N')
          · intro acc' nS' tn' tt' h' tk m' hq hsay' F' N'
            rw [hf2] at hq
            rw [hnl] at N'
            dsimp only
            iterate 2 walk1
            exact hKT _ _ (hkn _ _ _ _ _ (by simp) F' N' (.inr ⟨acc', nS', tn', tt', hsay', hq⟩))
        · rw [beq_false_of_ne h34]
          iterate 9 walk1
          rw [txt_is92]
          by_cases h92 : c = 92
          · subst h92
            repeat walk1
            have S0 := read_char (w := w) (prog := prog) (nS := nS2) (np := np) (n := n + nl (92 :: r)) (tn := tn2) (ps := []) ha hS2 (by simp at hcs; omega) hasc2
            have N4 : News g L h3 (lexNews w.params a tl I q te vs.tail nS2 (n + nl (92 :: r)) tn2 np) := N3
            refine Meets.call [(I, ciObj (.ref q) (.str (Str.ofString "") te)), (q, methodObj (.ref 101) (.ref a.x))] S0 F4 N4 X T (fun p hp => .tail _ (.tail _ hp)) (fun p hp => ?_) (fun q' hq p hp => ?_) hh (by omega) (by omega) ?_
            · rcases List.mem_cons.mp hp with rfl | hp
              · exact .head _
              · rw [List.mem_singleton.mp hp]; exact .tail _ (.head _)
            · rcases List.mem_cons.mp hq with rfl | hq
              · exact (hoff.led p hp).1
              · rw [List.mem_singleton.mp hq]; exact (hoff.led p hp).2
            intro n₁ v l₁ h₂ tk₂ hp F5 N5 o1 o2 o3 o4
            obtain ⟨t3, nS3, tn3, rfl, rfl⟩ := hp
            have N6 : News g L h₂ (lexNews w.params a tl I q te vs.tail.tail nS3 (n + nl (92 :: r) + nl r) tn3 np) := fun p hp => N5 p (by
              rcases List.mem_cons.mp hp with rfl | hp
              · exact List.mem_append_right _ (.head _)
              · rcases List.mem_cons.mp hp with rfl | hp
                · exact List.mem_append_right _ (.tail _ (.head _))
                · exact List.mem_append_left _ hp)
            clear S0 N3 N4 N5 F4 o1 o2 o3 o4
            dsimp only [lexNews, LexP.led, List.cons_append, List.nil_append] at N6
            have hr1 : (r.take 1).length ≤ 1 := List.length_take_le ..
            iterate 8 walk1
            dsimp only
            iterate 2 walk1
            with_reducible rename Fr _ _ _ _ => F5
            with_reducible rename News _ _ _ _ => N5
            simp only [txt_append, List.nil_append] at F5
            have hnl2 : n + nl (92 :: r) + nl r + nls r.tail = total := by rw [nl_tail]; exact hnl
            have hf2 : bare (r.take 1) r.tail = target := by rw [← hf, word_esc]
            refine For_own ?_
            iterate 1 walk1
            refine iter_ci (N5 _ (.head _)).1 ?_
            refine bare_loop (acc := r.take 1) (cs := r.tail) hh ha X T (by omega) (by omega) hIq hoff F5 (says_cons (by rfl) (says_cons (by rfl) (says_cons (by rfl) says_nil))) N5 hS2.tl' (by simp at hcs ⊢; omega) (fun d hd => hasc2 d (List.mem_of_mem_tail hd)) ?_ ?_
            · intro vs' nS' n' tn' t h' tk m' hn' hS' F' N'
              rw [hf2] at hn' hS' ⊢
              exact hKT _ _ (fin _ _ _ _ _ _ _ _ (hn'.trans hnl2) hS' F' N')
            · intro acc' nS' tn' tt' h' tk m' hq hsay' F' N'
              rw [hf2] at hq
              rw [hnl2] at N'
              dsimp only
              iterate 2 walk1
              exact hKT _ _ (hkn _ _ _ _ _ (by simp) F' N' (.inr ⟨acc', nS', tn', tt', hsay', hq⟩))
          · rw [beq_false_of_ne h92]
            iterate 11 walk1
            with_reducible rename Fr _ _ _ _ => F5
            with_reducible rename News _ _ _ _ => N5
            simp only [txt_append, List.nil_append] at F5
            have hnl2 := hnl
            have hf2 : bare [c] r = target := by rw [← hf, word_c hw h34 h92]
            refine For_own ?_
            iterate 1 walk1
            refine iter_ci (N5 _ (.head _)).1 ?_
            refine bare_loop (acc := [c]) (cs := r) hh ha X T (by omega) (by omega) hIq hoff F5 (says_cons (by rfl) (says_cons (by rfl) (says_cons (by rfl) says_nil))) N5 hS2 (by simp at hcs ⊢; omega) hasc2 ?_ ?_
            · intro vs' nS' n' tn' t h' tk m' hn' hS' F' N'
              rw [hf2] at hn' hS' ⊢
              exact hKT _ _ (fin _ _ _ _ _ _ _ _ (hn'.trans hnl2) hS' F' N')
            · intro acc' nS' tn' tt' h' tk m' hq hsay' F' N'
              rw [hf2] at hq
              rw [hnl2] at N'
              dsimp only
              iterate 2 walk1
              exact hKT _ _ (hkn _ _ _ _ _ (by simp) F' N' (.inr ⟨acc', nS', tn', tt', hsay', hq⟩))
    · subst e
      rw [word_nil] at hf
      have e0 : n = total := by rw [← htot]; exact (Int.add_zero n).symm
      subst e0
      have F4 := Mine.Fr.said F2 hsay
      dsimp only [lexSay] at F4
      dsimp only
      repeat walk1
      exact finO _ _ _ _ _ _ _ hf.symm F4 N2
  · refine next_ci_end hh (N _ (.head _)).1 (fun h' hI hx => ?_)
    have ha1 := (N _ (.head _)).2
    have F2 : Fr g L h' m₁ := ⟨F.ns.extBut hx ha1.1.symm, fun b o e => hx b o (fun hb => by rw [hb, ha1.2] at e; cases e) (F.keep b o e), F.above⟩
    have N2 : News g L h' (lexOver w.params a tl I q nS total tn np) := fun p hp => by
      rcases List.mem_cons.mp hp with rfl | hp2
      · exact ⟨hI, ha1⟩
      · refine ⟨hx _ _ ?_ (N p hp).1, (N p hp).2⟩
        rcases List.mem_cons.mp hp2 with rfl | hp3
        · exact hIq.symm
        · exact (hoff.led p hp3).1
    have F4 := Mine.Fr.said F2 hsay
    dsimp only [lexSay] at F4
    dsimp only
    repeat walk1
    exact finO _ _ _ _ _ _ _ htar F4 N2
end

noncomputable section
theorem walkOff_C11 : True := by
  w_top off
  exact True.intro
noncomputable def quote (l : List Nat) : List Nat := stuff true (crlf l)
theorem crlf_len : ∀ l : List Nat, (crlf l).length ≤ 2 * l.length := by
  intro l
  induction h : l.length using Nat.strongRecOn generalizing l with
  | _ n ih =>
    subst h
    cases l with
    | nil => simp [crlf]
    | cons c r =>
      by_cases hc : c = 10 ∨ c = 13
      · by_cases h2 : c = 13 ∧ r.head? = some 10
        · obtain ⟨rfl, h2⟩ := h2
          cases r with
          | nil => simp at h2
          | cons d r =>
            simp at h2
            subst h2
            have := ih r.length (by simp; omega) r rfl
            rw [crlf_pair]
            simp
            omega
        · have := ih r.length (by simp) r rfl
          rcases hc with rfl | rfl
          · rw [crlf_lf]; simp; omega
          · rw [crlf_cr (fun e => h2 ⟨rfl, e⟩)]; simp; omega
      · have := ih r.length (by simp) r rfl
        rw [crlf_other hc]; simp; omega
theorem stuff_len : ∀ (l : List Nat) (b : Bool), (stuff b l).length ≤ 2 * l.length
  | [], _ => by simp [stuff]
  | c :: r, b => by
    have := stuff_len r (c == 10)
    rw [stuff_cons]
    split <;> simp <;> omega
noncomputable def o127 (P : Params) : { o : Obj // (hdK.heap_1 P).lookup 127 = some o } := ⟨_, by k_is⟩
noncomputable def o132 (P : Params) : { o : Obj // (hdK.heap_1 P).lookup 132 = some o } := ⟨_, by k_is⟩
noncomputable def o126 (P : Params) : { o : Obj // (hdK.heap_1 P).lookup 126 = some o } := ⟨_, by k_is⟩
noncomputable def o131 (P : Params) : { o : Obj // (hdK.heap_1 P).lookup 131 = some o } := ⟨_, by k_is⟩
theorem pat127 {P : Params} {g : Heap} (X : (hdK.heap_1 P).In g) : PatAt g 127 codeDot :=
  ⟨(o127 P).1, _, 126, (o126 P).1, _, _, X _ _ (o127 P).2, rfl, rfl, rfl, rfl, X _ _ (o126 P).2, rfl, by simp [Builtin.Re.reRawOf, codeDot]⟩
theorem pat132 {P : Params} {g : Heap} (X : (hdK.heap_1 P).In g) : PatAt g 132 codeEnd :=
  ⟨(o132 P).1, _, 131, (o131 P).1, _, _, X _ _ (o132 P).2, rfl, rfl, rfl, rfl, X _ _ (o131 P).2, rfl, by simp [Builtin.Re.reRawOf, codeEnd]⟩
set_option maxHeartbeats 1000000 in
theorem quotedata {l : List Nat} {t : Tok} (hl : l.length ≤ 10000) :
    Meets prog w (hdK.heap_1 w.params) (.call (.ref 139) ⟨[.str (txt l) t], []⟩) [] 10 200 (fun n₀ v l' => ∃ t, v = .str (txt (quote l)) t ∧ l' = []) := by
  refine meets_def (by k_is) (by k_is) (fun s => BindsTo.of_eq rfl) (locs rfl) (by decide) (fun A s g p loose mean mg mb n₀ L h₁ tk k hh hdep hu X T hn hfp F N hk => ?_)
  try dsimp only
  have hcLine : cLine = 9900 := rfl
  have hrec : recursionLimit = 1000 := rfl
  (repeat' (first | walk1 | (dsimp only; walk1)))
  have T1 : ∀ h : Heap, (∀ b o, g.get? b = some o → h.get? b = some o) → ∃ o, h.get? 127 = some o ∧ o.cls = .type "re.Pattern" ∧ o.dict = none := fun h k => ⟨(o127 w.params).1, k _ _ (X _ _ (o127 w.params).2), rfl, rfl⟩
  have T2 : ∀ h : Heap, (∀ b o, g.get? b = some o → h.get? b = some o) → ∃ o, h.get? 132 = some o ∧ o.cls = .type "re.Pattern" ∧ o.dict = none := fun h k => ⟨(o132 w.params).1, k _ _ (X _ _ (o132 w.params).2), rfl, rfl⟩
  obtain ⟨oa, ha1, ha2, ha3⟩ := T1 _ F.keep
  refine getMethod_builtin ⟨oa, ha1, ha2⟩ plainAttrs_pat slot_re_sub type_re_sub (fun a e => by cases e; exact ⟨oa, ha1, ha3⟩) ?_
  dsimp only
  iterate 6 walk1
  obtain ⟨ob, hb1, hb2, hb3⟩ := T2 _ F.keep
  refine getMethod_builtin ⟨ob, hb1, hb2⟩ plainAttrs_pat slot_re_sub type_re_sub (fun a e => by cases e; exact ⟨ob, hb1, hb3⟩) ?_
  dsimp only
  iterate 6 walk1
  have hl2 : l.length ≤ 100000 := by omega
  have hc2 := crlf_len l
  have hst := stuff_len (crlf l) true
  refine sub_K (r := Str.ofString "\r\n") (x := txt l) F N ⟨_, X _ _ (o132 w.params).2, rfl⟩ (finds_end l hl2) (by simpa using hl2) (by decide +kernel) (pat132 X) (by simp; omega) (fun h2 tk2 t2 F2 N2 => ?_)
  rw [List.drop_zero]
  walk1
  refine sub_K (r := Str.ofString "..") (x := txt (crlf l)) F2 N2 ⟨_, X _ _ (o127 w.params).2, rfl⟩ (finds_dot (crlf l) (by omega)) (by simp; omega) (by decide +kernel) (pat127 X) ?_ (fun h3 tk3 t3 F3 N3 => ?_)
  · rw [List.drop_zero]
    have e : ((0 : Nat) == 0 || (crlf l).getD (0 - 1) 0 == 10) = true := rfl
    rw [e]; omega
  · exact hk _ _ _ _ _ ⟨_, rfl, rfl⟩ F3 N3
end

noncomputable section
theorem walkOff_C12 : True := by
  w_top off
  exact True.intro
structure WsSt where
  (count : List Int) (b n nt : Nat)
noncomputable def bump (count : List Int) (b : Nat) : List Int := (fun c : List Int => c.set b (c.getD b 0 + 1)) (if count.length ≤ b then count ++ List.replicate (b - count.length + 1) 0 else count)
noncomputable def wsStep (σ : WsSt) (c : Nat) : WsSt := if c = 32 then ⟨σ.count, σ.b + 1, σ.n + 1, σ.nt⟩ else ⟨bump σ.count σ.b, 0, σ.n + 1, σ.nt + 1⟩
noncomputable def wsOf (l : List Nat) : WsSt := l.foldl wsStep ⟨[], 0, 0, 0⟩
theorem bump_len (count : List Int) (b : Nat) : (bump count b).length = max count.length (b + 1) := by
  unfold bump
  dsimp only
  rw [List.length_set]
  split
  · simp; omega
  · omega
theorem wsOf_snoc (l : List Nat) (c : Nat) : wsOf (l ++ [c]) = wsStep (wsOf l) c := by simp [wsOf]
theorem wsFold_len : ∀ (l : List Nat) (σ : WsSt) (k : Nat), σ.count.length ≤ k → σ.b ≤ k → (l.foldl wsStep σ).count.length ≤ k + l.length ∧ (l.foldl wsStep σ).b ≤ k + l.length
  | [], σ, k, h1, h2 => ⟨h1, h2⟩
  | c :: l, σ, k, h1, h2 => by
    have ih := wsFold_len l (wsStep σ c) (k + 1) (by
      unfold wsStep
      split
      · show σ.count.length ≤ k + 1; omega
      · show (bump _ _).length ≤ _; rw [bump_len]; omega) (by
      unfold wsStep
      split
      · show σ.b + 1 ≤ k + 1; omega
      · show 0 ≤ _; omega)
    rw [List.foldl_cons, List.length_cons]
    omega
theorem wsOf_len (l : List Nat) : (wsOf l).count.length ≤ l.length ∧ (wsOf l).b ≤ l.length := by
  have := wsFold_len l ⟨[], 0, 0, 0⟩ 0 (Nat.le_refl _) (Nat.le_refl _)
  rw [Nat.zero_add] at this
  exact this
theorem flat_zeros (n : Nat) : (List.replicate n [(0 : Int)]).flatten = List.replicate n 0 := by
  induction n with
  | zero => rfl
  | succ n ih => rw [List.replicate_succ, List.flatten_cons, ih]; rfl
theorem bump_new {count : List Int} {b : Nat} (h : count.length ≤ b) : (fun c : List Int => c.set b (c.getD b 0 + 1)) (count ++ (List.replicate ((b : Int) - (count.length : Int) + 1).toNat [(0 : Int)]).flatten) = bump count b := by
  unfold bump
  rw [if_pos h, flat_zeros]
  have e : ((b : Int) - (count.length : Int) + 1).toNat = b - count.length + 1 := by omega
  rw [e]
theorem bump_old {count : List Int} {b : Nat} (h : b < count.length) : count.set b (count.getD b 0 + 1) = bump count b := by
  unfold bump
  rw [if_neg (by omega)]
theorem own_sep {own : List (Addr × Obj)} {D : Nat} {o : Obj} {r : List (Addr × Obj)} (h : AllLt D own) (hr : ∀ q ∈ r, ∀ p ∈ own, p.1 ≠ q.1) : ∀ q ∈ (D, o) :: r, ∀ p ∈ own, p.1 ≠ q.1 := fun q hq p hp => by
  rcases List.mem_cons.mp hq with rfl | hq
  · exact Nat.ne_of_lt (lowAll h p hp)
  · exact hr q hq p hp
theorem get_ne {h : Heap} {a b : Nat} {o o' : Obj} (h1 : h.get? a = some o) (h2 : h.get? b = some o') (h3 : o.cls ≠ o'.cls) : @Ne Nat a b := fun e => by
  rw [e, h2] at h1; exact h3 (congrArg Obj.cls (Option.some.inj h1)).symm
theorem sep_head {own : List (Addr × Obj)} {D : Addr} {o o' : Obj} {r : List (Addr × Obj)} (h : ∀ q ∈ (D, o) :: r, ∀ p ∈ own, p.1 ≠ q.1) : ∀ q ∈ (D, o') :: r, ∀ p ∈ own, p.1 ≠ q.1 := fun q hq p hp => by
  rcases List.mem_cons.mp hq with rfl | hq
  · exact h _ (.head _) p hp
  · exact h q (.tail _ hq) p hp
theorem news_skip {h₀ h : Heap} {L : Addr} {a b c : Addr × Obj} {r : List (Addr × Obj)} (N : News h₀ L h (a :: b :: c :: r)) : News h₀ L h (a :: b :: r) := fun p hp => N p (by
  rcases List.mem_cons.mp hp with rfl | hp
  · exact .head _
  · rcases List.mem_cons.mp hp with rfl | hp
    · exact .tail _ (.head _)
    · exact .tail _ (.tail _ (.tail _ hp)))
theorem news_drop3 {h₀ h : Heap} {L : Addr} {a b c d : Addr × Obj} {r : List (Addr × Obj)} (N : News h₀ L h (a :: b :: c :: d :: r)) : News h₀ L h (a :: r) := fun p hp => N p (by
  rcases List.mem_cons.mp hp with rfl | hp
  · exact .head _
  · exact .tail _ (.tail _ (.tail _ (.tail _ hp))))
noncomputable def Blank (l : List Nat) : Prop := ∀ c ∈ l, c = 32 ∨ c = 9
noncomputable abbrev wsSay (x D : Nat) (σ : WsSt) (tb tn tt : Tok) : List (Str × Value) := [(Str.ofString "self", .ref x), (Str.ofString "S", .str (Str.ofString " ") 515), (Str.ofString "T", .str (Str.ofString "\t") 516), (Str.ofString "count", .ref D), (Str.ofString "b", .int σ.b tb), (Str.ofString "n", .int σ.n tn), (Str.ofString "nt", .int σ.nt tt)]
noncomputable abbrev wsLed (P : Params) (x dx D : Nat) (l : List Nat) (t tr : Tok) (vs : List Value) (nC : Nat) : List (Addr × Obj) := [(D, listOf vs.toArray nC), (x, instObj 201 dx), (dx, dictOf [ent P "raw" tr (.str (txt l) t)] 1)]
inductive WsJ (P : Params) (x dx : Nat) (l : List Nat) (t tr : Tok) (i : Nat) (m : Str → Option Value) : List (Addr × Obj) → Prop
  | mk (D : Nat) (vs : List Value) (nC : Nat) (tb tn tt : Tok) (hsay : Says m (wsSay x D (wsOf (l.take i)) tb tn tt)) (hI : IntsAre vs (wsOf (l.take i)).count) (hD1 : x < D) (hD2 : dx < D) : WsJ P x dx l t tr i m (wsLed P x dx D l t tr vs nC)
theorem WsJ.next {P : Params} {x dx : Nat} {l : List Nat} {t tr : Tok} {i c : Nat} {σ : WsSt} (hst : wsOf (l.take (i + 1)) = wsStep σ c) {m : Str → Option Value} {D : Nat} {vs : List Value} {nC : Nat} {tb tn tt : Tok} (hsay : Says m (wsSay x D (wsStep σ c) tb tn tt)) (hI : IntsAre vs (wsStep σ c).count) (hD1 : x < D) (hD2 : dx < D) : WsJ P x dx l t tr (i + 1) m (wsLed P x dx D l t tr vs nC) :=
  .mk D vs nC tb tn tt (by rw [hst]; exact hsay) (by rw [hst]; exact hI) hD1 hD2
set_option genInjectivity false in
set_option genSizeOfSpec false in
structure WsP where
  (tN tC x dx : Nat)
  (t0 t1 t2 t3 t4 t5 t6 t7 t8 t9 : Tok)
  v : Value
noncomputable abbrev WsP.led (a : WsP) (P : Params) (l : List Nat) (σ : WsSt) (vs : List Value) : List (Addr × Obj) :=
  [(a.tN, { cls := .type "tuple", data := .seq #[.ref a.tC, .int σ.b a.t0] }), (a.tC, { cls := .type "tuple", data := .seq vs.toArray }), (a.x, instObj 201 a.dx),
    (a.dx, dictOf [ent P "raw" a.t1 (.str (txt l) a.t2), ent P "n" a.t3 (.int σ.n a.t4), ent P "nt" a.t5 (.int σ.nt a.t6), ent P "norm" a.t7 (.ref a.tN), ent P "is_simple" a.t8 a.v] 5)]
noncomputable def wsNew (P : Params) (x dx : Nat) (l : List Nat) (t : Tok) (l' : List (Addr × Obj)) : Prop := ∃ (a : WsP) (vs : List Value), a.x = x ∧ a.dx = dx ∧ x < a.tN ∧ dx < a.tN ∧ a.tC < a.tN ∧ @Ne Nat a.tC x ∧ @Ne Nat a.tC dx ∧ IntsAre vs (wsOf l).count ∧ l' = a.led P l (wsOf l) vs
theorem txt_is32 (c : Nat) : (txt [c] == Str.ofString " ") = (c == 32) := txt_one_eq c 32
theorem txt_is9 (c : Nat) : (txt [c] == Str.ofString "\t") = (c == 9) := txt_one_eq c 9
set_option maxHeartbeats 1000000 in
theorem ws_init {x dx : Nat} {l : List Nat} {t : Tok} (hxd : dx < x) (hl : l.length ≤ 10000) (hb : Blank l) :
    Meets prog w (hdK.heap_1 w.params) (.call (.ref 156) ⟨[.ref x, .str (txt l) t], []⟩) [(x, instObj 201 dx), (dx, dictOf [] 0)] 10 200 (fun n₀ v' l' => v' = .none ∧ wsNew w.params x dx l t l') := by
  refine meets_def (by k_is) (by k_is) (fun s => BindsTo.of_eq rfl) (locs rfl) (by decide) (fun A s g p loose mean mg mb n₀ L h₁ tk k hh hdep hu X T hn hfp F N hk => ?_)
  try dsimp only
  have hcLine : cLine = 9900 := rfl
  have hrec : recursionLimit = 1000 := rfl
  have hx1 := hfp _ (.head _)
  have hx2 := hfp _ (.tail _ (.head _))
  dsimp only at hx1 hx2
  have hne1 : @Ne Nat x dx := by omega
  have hne2 : @Ne Nat dx x := by omega
  clear hfp
  refine gen_K fun KK hKK => ?_
  repeat walk1
  with_reducible rename Fr _ _ _ _ => F2
  with_reducible rename News _ _ _ _ => N2
  rename_i l' _ _ _ _ _ _
  with_reducible rename _ < _ ∧ _ < _ ∧ _ < _ => hlt
  obtain ⟨tr, N3⟩ : ∃ tr, News g L _ (wsLed w.params x dx l' l t tr [] 0) := ⟨_, fun p hp => N2 p (by
    rcases List.mem_cons.mp hp with rfl | hp
    · exact .head _
    · exact .tail _ (.tail _ hp))⟩
  refine loopStr hh F2 N3 (WsJ w.params x dx l t tr) ⟨l', [], 0, _, _, _, says_cons (by rfl) (says_cons (by rfl) (says_cons (by rfl) (says_cons (by rfl) (says_cons (by rfl) (says_cons (by rfl) (says_cons (by rfl) says_nil)))))), .nil, hlt.2.1, hlt.2.2⟩ ?_ ?_
  · intro i c u m₁ news₁ h tk own kn hc hJ F N hsep hkn
    obtain ⟨D, vs, nC, tb, tn, tt, hsay, hI, hD1, hD2⟩ := hJ
    have F4 := Mine.Fr.saidIf F hsay
    have hst : wsOf (l.take (i + 1)) = wsStep (wsOf (l.take i)) c := by rw [List.take_add_one, hc]; simp [wsOf]
    have hln := wsOf_len (l.take i)
    have hli : (l.take i).length ≤ i := List.length_take_le ..
    have hil : i < l.length := (List.getElem?_eq_some_iff.mp hc).1
    generalize wsOf (l.take i) = σ at *
    have hvl : vs.length ≤ 10000 := by rw [hI.length]; omega
    have hvc : vs.length = σ.count.length := hI.length
    have hsb : σ.b ≤ 10000 := by omega
    clear F F2 N2 N3
    dsimp only [wsLed, ent, List.cons_append, List.nil_append] at N
    refine gen_K fun KT hKT => ?_
    iterate 6 walk1
    rw [txt_is32]
    by_cases h32 : c = 32
    · subst h32
      repeat walk1
      with_reducible rename Fr _ _ _ _ => F5
      with_reducible rename News _ _ _ _ => N5
      refine hKT _ _ (hkn _ _ _ _ F5 N5 hsep (WsJ.next hst (says_cons (by rfl) (says_cons (by rfl) (says_cons (by rfl) (says_cons (by rfl) (says_cons (by rfl) (says_cons (by rfl) (says_cons (by rfl) says_nil))))))) hI hD1 hD2))
    · rw [beq_false_of_ne h32]
      iterate 9 walk1
      have h9 : c = 9 := by
        rcases hb c (List.mem_of_getElem? hc) with h | h
        · exact absurd h h32
        · exact h
      subst h9
      rw [txt_is9, show ((9 : Nat) == 9) = true from rfl]
      have hsz : (vs.toArray.size : Int) < 2 ^ 63 := by simp; omega
      repeat walk1
      · rename_i hbl _ _ _ _ _ _ _ _ _ _ _ _ _ _ _ _ _ _ _ _ _ _
        with_reducible rename Fr _ _ _ _ => F7
        with_reducible rename News _ _ _ _ => N7
        with_reducible rename IntsAre (List.set _ _ _) _ => hI7
        with_reducible rename _ < _ ∧ _ < _ ∧ _ < _ ∧ _ < _ ∧ _ < _ ∧ AllLt _ own => l7
        have N8 := news_drop3 N7
        refine hKT _ _ (hkn _ _ _ _ F7 N8 (own_sep l7.2.2.2.2.2 fun q hq => hsep q (.tail _ hq)) (WsJ.next hst (says_cons (by rfl) (says_cons (by rfl) (says_cons (by rfl) (says_cons (by rfl) (says_cons (by rfl) (says_cons (by rfl) (says_cons (by rfl) says_nil))))))) ?_ l7.2.2.2.1 l7.2.2.2.2.1))
        · show IntsAre _ (bump σ.count σ.b)
          rw [← bump_new (by omega)]
          exact hI7
      · have hbc : (σ.b : Int) < (σ.count.length : Int) := by omega
        have hapD : ∀ p ∈ own, p.1 ≠ D := hsep _ (.head _)
        repeat walk1
        with_reducible rename Fr _ _ _ _ => F7
        with_reducible rename News _ _ _ _ => N7
        with_reducible rename IntsAre (List.set _ _ _) _ => hI7
        refine hKT _ _ (hkn _ _ _ _ F7 N7 (sep_head hsep) (WsJ.next hst (says_cons (by rfl) (says_cons (by rfl) (says_cons (by rfl) (says_cons (by rfl) (says_cons (by rfl) (says_cons (by rfl) (says_cons (by rfl) says_nil))))))) ?_ hD1 hD2))
        show IntsAre _ (bump σ.count σ.b)
        rw [← bump_old (by omega)]
        exact hI7
  · intro h tk m₁ news₁ hJ F N
    obtain ⟨D, vs, nC, tb, tn, tt, hsay, hI, hD1, hD2⟩ := hJ
    rw [List.take_length] at hsay hI
    have F4 := Mine.Fr.said F hsay
    clear F F2 N2 N3
    have hln := wsOf_len l
    unfold wsNew at hk
    generalize wsOf l = σ at *
    dsimp only [wsLed, ent] at N
    have hvl : vs.length ≤ 10000 := by rw [hI.length]; omega
    repeat walk1
    with_reducible rename Fr _ _ _ _ => F5
    with_reducible rename News _ _ _ _ => N5
    rename_i D1 _ _ D2 _ _
    have q1 : @Ne Nat D1 x := get_ne (N5 _ (.tail _ (.head _))).1 (N5 _ (.tail _ (.tail _ (.tail _ (.head _))))).1 (by simp)
    have q2 : @Ne Nat D1 dx := get_ne (N5 _ (.tail _ (.head _))).1 (N5 _ (.tail _ (.tail _ (.tail _ (.tail _ (.head _)))))).1 (by simp)
    repeat walk1
    with_reducible rename Fr _ _ _ _ => F7
    with_reducible rename News _ _ _ _ => N7
    with_reducible rename _ < _ ∧ _ < _ ∧ _ < _ ∧ _ < _ => hlt
    have N8 := news_skip N7
    refine hKK _ _ (hk _ _ _ _ _ ⟨rfl, ⟨D2, D1, x, dx, _, _, _, _, _, _, _, _, _, 0, _⟩, vs, rfl, rfl, hlt.2.2.1, hlt.2.2.2, hlt.1, q1, q2, hI, rfl⟩ F7 N8)
end

noncomputable section
theorem walkOff_C13 : True := by
  w_top off
  exact True.intro
theorem whitespace {l : List Nat} {t : Tok} (hl : l.length ≤ 10000) (hb : Blank l) :
    Meets prog w (hdK.heap_1 w.params) (.call (.ref 201) ⟨[.str (txt l) t], []⟩) [] 11 201 (fun n₀ v l' => ∃ x dx, n₀ ≤ dx ∧ dx < x ∧ v = .ref x ∧ wsNew w.params x dx l t l') := by
  intro A s g p loose mean mg mb hh hdep hu W X T R hR
  exact Meets.make (by k_is) (by k_is) (by k_is) (fun x dx hxd => ws_init hxd hl hb) A s g p loose mean mg mb hh hdep hu W X T R hR
noncomputable def ilTo (size : Nat) (count : List Int) : Nat → Int
  | 0 => 0
  | k + 1 => ilTo size count k + ((k / size : Nat) : Int) * count.getD k 0
theorem ilTo_low {size : Nat} {count : List Int} : ∀ k, k ≤ size → ilTo size count k = 0
  | 0, _ => rfl
  | k + 1, h => by
    rw [ilTo, ilTo_low k (by omega), Nat.div_eq_of_lt (by omega)]
    simp
structure WsP.Apart (a : WsP) : Prop where
  e1 : a.dx < a.x
  e2 : a.x < a.tN
  e3 : a.dx < a.tN
  e4 : a.tC < a.tN
  e5 : @Ne Nat a.tC a.x
  e6 : @Ne Nat a.tC a.dx
set_option maxHeartbeats 1000000 in
theorem indent_level {a : WsP} {l : List Nat} {σ : WsSt} {vs : List Value} {size : Nat} {ts : Tok} (ha : a.Apart) (hI : IntsAre vs σ.count) (hs : 0 < size) (hsz : size ≤ 10000) (hc : σ.count.length ≤ 10000) :
    Meets prog w (hdK.heap_1 w.params) (.call (.ref 170) ⟨[.ref a.x, .int size ts], []⟩) (a.led w.params l σ vs) 10 200 (fun n₀ v l' => ∃ t, v = .int (σ.b + size * (ilTo size σ.count σ.count.length + σ.nt)) t ∧ l' = a.led w.params l σ vs) := by
  obtain ⟨tN, tC, x, dx, t0, t1, t2, t3, t4, t5, t6, t7, t8, t9, v⟩ := a
  obtain ⟨e1, e2, e3, e4, e5, e6⟩ := ha
  dsimp only [WsP.led] at *
  refine meets_def (by k_is) (by k_is) (fun s => BindsTo.of_eq rfl) (locs rfl) (by decide) (fun A s g p loose mean mg mb n₀ L h₁ tk k hh hdep hu X T hn hfp F N hk => ?_)
  try dsimp only
  have hcLine : cLine = 9900 := rfl
  have hrec : recursionLimit = 1000 := rfl
  clear hfp
  have hvl : vs.length ≤ 10000 := by rw [hI.length]; exact hc
  repeat walk1
  refine len_tuple (News.isTup (by k_asm) (by k_mem)) (by simp; omega) ?_
  have esz : vs.toArray.size = σ.count.length := by simp [hI.length]
  rw [esz]
  repeat walk1
  with_reducible rename Fr _ _ _ _ => F2
  with_reducible rename News _ _ _ _ => N2
  with_reducible rename IsRange _ _ _ _ _ _ _ _ => hR
  have e0 : ilTo size σ.count (size + 0) = 0 := ilTo_low _ (Nat.le_refl _)
  refine loopRange hh (by omega) (by omega) hR F2 N2 (fun i m news => ∃ tl, Says m [(Str.ofString "self", .ref x), (Str.ofString "tabsize", .int size ts), (Str.ofString "trailing", .int σ.b t0), (Str.ofString "count", .ref tC), (Str.ofString "il", .int (ilTo size σ.count (size + i)) tl)] ∧ news = WsP.led ⟨tN, tC, x, dx, t0, t1, t2, t3, t4, t5, t6, t7, t8, t9, v⟩ w.params l σ vs)
    ⟨_, says_cons (by rfl) (says_cons (by rfl) (says_cons (by rfl) (says_cons (by rfl) (says_cons (show _ = some (Value.int (ilTo size σ.count (size + 0)) _) from by rw [e0]; rfl) says_nil)))), rfl⟩ ?_ ?_
  · intro i u m₁ news₁ h tk own kn hi hJ F N hsep hkn
    obtain ⟨tl, hsay, rfl⟩ := hJ
    have F4 := Mine.Fr.saidIf F hsay
    clear F F2 N2 hR
    dsimp only [WsP.led, ent, List.cons_append, List.nil_append] at N
    have hbc : ((size + i : Nat) : Int) < (σ.count.length : Int) := by omega
    refine gen_K fun KT hKT => ?_
    repeat walk1
    have ed : ((size + i : Nat) : Int).fdiv (size : Int) = (((size + i) / size : Nat) : Int) := by
      rw [Int.fdiv_eq_ediv_of_nonneg _ (by omega)]
      exact (Int.natCast_ediv _ _).symm
    have hdl : (size + i) / size ≤ size + i := Nat.div_le_self ..
    rw [ed, Int.toNat_natCast]
    generalize hq : (size + i) / size = q at *
    refine mul_int ?_ (IntMulOk.of_left (intBits_le_64 (by omega) (by omega)))
    repeat walk1
    with_reducible rename Fr _ _ _ _ => F7
    with_reducible rename News _ _ _ _ => N7
    refine hKT _ _ (hkn _ _ _ _ F7 N7 (fun q hq => hsep q hq) ⟨_, says_cons (by rfl) (says_cons (by rfl) (says_cons (by rfl) (says_cons (by rfl) (says_cons (show _ = some (Value.int (ilTo size σ.count (size + (i + 1))) _) from by rw [← Nat.add_assoc, ilTo, hq]; rfl) says_nil)))), rfl⟩)
  · intro h tk m₁ news₁ hJ F N
    obtain ⟨tl, hsay, rfl⟩ := hJ
    have F4 := Mine.Fr.said F hsay
    clear F F2 N2 hR
    dsimp only [WsP.led, ent, List.cons_append, List.nil_append] at N
    repeat walk1
    have e : ilTo size σ.count (size + (σ.count.length - size)) = ilTo size σ.count σ.count.length := by
      by_cases hle : size ≤ σ.count.length
      · rw [show size + (σ.count.length - size) = σ.count.length by omega]
      · rw [show size + (σ.count.length - size) = size by omega, ilTo_low _ (Nat.le_refl _), ilTo_low _ (by omega)]
    rw [e]
    exact hk _ _ _ _ _ ⟨_, rfl, rfl⟩ F4 N
end

noncomputable section
theorem walkOff_C14 : True := by
  w_top off
  exact True.intro
noncomputable def colOf (z d : Nat) : Int := ((z * (d / z + 1) : Nat) : Int)
noncomputable abbrev dotsOf (d : Nat) : List Nat := List.replicate d 46
theorem replace_dots (d : Nat) : Txt.replace (txt (dotsOf d)) (Str.ofString ".") (Str.ofString " ") = txt (List.replicate d 32) := by
  have h := replace_sign (txt (dotsOf d)) 46 32
  have e : swapSign 46 32 (txt (dotsOf d)).cps.toList = List.replicate d 32 := by simp [swapSign]
  rw [e] at h
  exact h
noncomputable abbrev leadOf (d : Nat) : List Nat := List.replicate d 32 ++ [9]
theorem lead_blank (d : Nat) : Blank (leadOf d) := fun c hc => by
  rcases List.mem_append.mp hc with hc | hc
  · exact .inl (List.eq_of_mem_replicate hc)
  · exact .inr (List.mem_singleton.mp hc)
theorem fold_spaces : ∀ (d : Nat) (σ : WsSt), (List.replicate d 32).foldl wsStep σ = ⟨σ.count, σ.b + d, σ.n + d, σ.nt⟩
  | 0, σ => rfl
  | d + 1, σ => by
    rw [List.replicate_succ, List.foldl_cons, fold_spaces d]
    have e : wsStep σ 32 = ⟨σ.count, σ.b + 1, σ.n + 1, σ.nt⟩ := rfl
    rw [e]
    simp only [WsSt.mk.injEq, true_and, and_true]
    omega
theorem lead_st (d : Nat) : wsOf (leadOf d) = ⟨bump [] d, 0, d + 1, 1⟩ := by
  unfold wsOf leadOf
  rw [List.foldl_append, fold_spaces]
  simp [wsStep]
theorem bump_nil (d : Nat) : bump [] d = List.replicate d 0 ++ [1] := by
  unfold bump
  simp only [List.length_nil, Nat.zero_le, if_true, List.nil_append, Nat.sub_zero]
  rw [List.replicate_succ']
  simp
theorem ilTo_zero (z d : Nat) : ∀ k, k ≤ d → ilTo z (List.replicate d 0 ++ [1]) k = 0
  | 0, _ => rfl
  | k + 1, h => by
    rw [ilTo, ilTo_zero z d k (by omega)]
    have : (List.replicate d (0 : Int) ++ [1]).getD k 0 = 0 := by
      rw [List.getD_eq_getElem?_getD, List.getElem?_append_left (by simp; omega)]
      simp [List.getElem?_replicate]
      split <;> rfl
    rw [this]; simp
theorem il_lead (z d : Nat) : ilTo z (bump [] d) (bump [] d).length = ((d / z : Nat) : Int) := by
  rw [bump_nil]
  have e : (List.replicate d (0 : Int) ++ [1]).length = d + 1 := by simp
  rw [e, ilTo, ilTo_zero z d d (Nat.le_refl _)]
  have : (List.replicate d (0 : Int) ++ [1]).getD d 0 = 1 := by
    rw [List.getD_eq_getElem?_getD, List.getElem?_append_right (by simp)]; simp
  rw [this]; simp
noncomputable def colsOf (zs ds : List Nat) (k : Nat) : List Int := (List.range k).map fun i => colOf (zs.getD i 0) (ds.getD i 0)
set_option maxHeartbeats 1000000 in
theorem law_columns {ld sz : Nat} {vl vz : List Value} {nl nz : Nat} {ds zs : List Nat} {more : List Str} (hl : StrsAre vl (ds.map (fun d => txt (dotsOf d)) ++ more)) (hz : IntsAre vz (zs.map (fun z : Nat => (z : Int)))) (hzd : zs.length = ds.length) (hzl : zs.length ≤ 3) (hne : @Ne Nat ld sz)
    (hz1 : ∀ z ∈ zs, 0 < z ∧ z ≤ 10) (hd1 : ∀ d ∈ ds, d ≤ 1000) :
    Meets prog w (hdK.heap_1 w.params) (.call (.ref 217) ⟨[.ref ld, .ref sz], []⟩) [(ld, listOf vl.toArray nl), (sz, listOf vz.toArray nz)] 20 400 (fun n₀ v l' => ∃ D ys, v = .ref D ∧ IntsAre ys (colsOf zs ds zs.length) ∧ ((@Ne Nat ld D) ∧ (@Ne Nat sz D)) ∧ l' = [(D, listOf ys.toArray ys.length), (ld, listOf vl.toArray nl), (sz, listOf vz.toArray nz)]) := by
  refine meets_defC (by k_is) (by k_is) (fun s => BindsTo.of_eq rfl) rfl (by decide +kernel) (fun A s g p loose mean mg mb n₀ L h₁ tk cells k hh hdep hu X T hn hfp hfp2 F N Y hk => ?_)
  try dsimp only
  k_cells Y
  rename_i oS oL dS dL
  have hcLine : cLine = 9900 := rfl
  have hrec : recursionLimit = 1000 := rfl
  clear hfp hfp2
  have hzl2 : vz.length = zs.length := by rw [hz.length]; simp
  iterate 2 walk1
  refine comp_range F rfl (by decide) rfl (by decide) rfl ?_
  repeat walk1
  with_reducible rename IsRange _ _ _ _ _ _ _ _ => hR
  with_reducible rename Fr _ _ _ _ => F2
  with_reducible rename News _ _ _ _ => N2
  rw [List.length_map] at hR
  refine ⟨_, 0, zs.length, zs.length, _, _, _, _, fun i ys news => news = [(L + 1 + 1, oS), (L + 1, oL), (ld, listOf vl.toArray nl), (sz, listOf vz.toArray nz)] ∧ IntsAre ys (colsOf zs ds i), rfl, hh, F2, N2, hR, by omega, by omega, ⟨rfl, .nil⟩, ?_, ?_⟩
  · rintro i ys news ti I oI C oC D m₂ h tk E' hi ⟨rfl, hys⟩ hC hx htk F N off hne2
    have hdi : i < ds.length := by omega
    have off0 := off
    simp only [LCg.Off3, and_true] at off
    repeat walk1
    have e0 : (((0 : Nat) : Int) + (i : Int)).toNat = i := by omega
    have ex : (List.map (fun d => txt (dotsOf d)) ds ++ more).getD i Str.empty = txt (dotsOf ds[i]) := by
      rw [List.getD_eq_getElem?_getD, List.getElem?_append_left (by simpa using hdi)]; simp [hdi]
    have hds := hd1 _ (List.getElem_mem hdi)
    rw [e0, ex]
    have edi : ds[i] = ds[i] := rfl
    generalize hdd : ds[i] = d at ex hds ⊢
    refine SC.replace (Nat.ne_of_gt htk) (Nat.succ_ne_zero _) (Nat.ne_of_lt (Nat.lt_succ_self _)) (by decide +kernel) (by show (dotsOf d).toArray.size + ((dotsOf d).toArray.size + 1) * 1 ≤ _; simp; omega) (fun t3 k3 => ?_)
    rw [replace_dots]
    have hrl : (List.replicate d 32).length ≤ 1000 := by simpa using hds
    generalize hrr : List.replicate d 32 = rr at *
    repeat walk1
    refine SB.add (fun t4 k4 => ?_) (by show (txt rr).length + 1 ≤ _; have : (txt rr).length = rr.length := by simp [Str.length]
                                        rw [this]; exact Nat.le_trans (show rr.length + 1 ≤ 1001 by omega) (by decide))
    rw [show Str.ofString "\t" = txt [9] from rfl, txt_append, ← hrr]
    repeat walk1
    have S0 := fun t => whitespace (w := w) (prog := prog) (l := leadOf d) (t := t) (by simp; omega) (lead_blank d)
    refine Meets.call [(I, oI), (C, oC), (D, LCg.lst ys), (L + 1 + 1, oS), (L + 1, oL), (ld, listOf vl.toArray nl), (sz, listOf vz.toArray nz)] (S0 _) (by k_asm) (by k_asm) X T (by (repeat' (first | exact List.forall_mem_nil _ | (refine List.forall_mem_cons.mpr ⟨?_, ?_⟩) | k_mem | (intro pS hS; repeat (first | exact hS | refine List.mem_cons_of_mem _ ?_ | refine List.mem_append_right _ ?_))))) (by (repeat' (first | exact List.forall_mem_nil _ | (refine List.forall_mem_cons.mpr ⟨?_, ?_⟩) | k_mem | (intro pS hS; repeat (first | exact hS | refine List.mem_cons_of_mem _ ?_ | refine List.mem_append_right _ ?_))))) (by (repeat' (first | exact List.forall_mem_nil _ | exact (fun _ _ _ h => absurd h List.not_mem_nil) | k_all | (refine List.forall_mem_cons.mpr ⟨?_, ?_⟩)))) hh (by omega) (by omega) ?_
    clear S0
    intro n₁ v l₁ h₂ tk₂ hp F3 N3 o1 o2 o3 o4
    obtain ⟨x, dx, hdx1, hdx2, rfl, ⟨tN, tC, x', dx', t0, t1, t2, t5, t6, t7, t8, t9, u1, u2, vv⟩, vs, ex1, ex2, q1, q2, q3, q4, q5, hI, rfl⟩ := hp
    dsimp only at ex1 ex2 q1 q2 q3 q4 q5
    subst ex1 ex2
    have N3c := N3
    clear F N o2 o3
    simp only [WsP.led, ent, List.cons_append, List.nil_append] at N3
    repeat walk1
    have hzi : zs[i]? = some zs[i] := by simp
    have ezi : (zs.map (fun z : Nat => (z : Int))).getD i 0 = ((zs[i] : Nat) : Int) := by
      rw [List.getD_eq_getElem?_getD, List.getElem?_map, List.getElem?_eq_getElem hi]; rfl
    obtain ⟨hzp, hzq⟩ := hz1 _ (List.getElem_mem hi)
    rw [e0, ezi]
    have hcl : colsOf zs ds (i + 1) = colsOf zs ds i ++ [colOf zs[i] ds[i]] := by
      unfold colsOf
      rw [List.range_succ, List.map_append]
      simp [List.getD_eq_getElem?_getD, hdi, hi]
    generalize zs[i] = z at *
    have S0 := fun ts => indent_level (w := w) (prog := prog) (a := ⟨tN, tC, x', dx', t0, t1, t2, t5, t6, t7, t8, t9, u1, u2, vv⟩) (l := leadOf d) (σ := wsOf (leadOf d)) (vs := vs) (size := z) (ts := ts) ⟨hdx2, q1, q2, q3, q4, q5⟩ hI hzp (by omega) (by rw [lead_st]; show (bump [] d).length ≤ _; rw [bump_nil]; simp; omega)
    refine Meets.call _ (S0 _) F3 N3c X T (fun p hp => List.mem_append_left _ hp) (fun p hp => List.mem_append_right _ hp) o4 hh (by omega) (by omega) ?_
    clear S0
    intro n₂ v l₁ h₃ tk₃ hp F5 N5 p1 p2 p3 p4
    obtain ⟨tv, rfl, rfl⟩ := hp
    refine LCg.CompEnd.intro F5 N5 [(L + 1 + 1, oS), (L + 1, oL), (ld, listOf vl.toArray nl), (sz, listOf vz.toArray nz)] (fun p hp => List.mem_append_right _ hp) off0 True.intro ⟨rfl, ?_⟩
    rw [hcl]
    have ev : ((wsOf (leadOf d)).b : Int) + (z : Int) * (ilTo z (wsOf (leadOf d)).count (wsOf (leadOf d)).count.length + ((wsOf (leadOf d)).nt : Int)) = colOf z d := by
      rw [lead_st]
      show ((0 : Nat) : Int) + (z : Int) * (ilTo z (bump [] d) (bump [] d).length + ((1 : Nat) : Int)) = _
      rw [il_lead]
      unfold colOf
      push_cast
      omega
    rw [ev, hdd]
    exact ints_snoc hys
  · rintro ys news ⟨rfl, hys⟩
    unfold LCg.FinE
    intro D h tk F N off
    refine hk _ _ _ _ _ ⟨D, ys, rfl, hys, ⟨off.2.2.1, off.2.2.2.1⟩, rfl⟩ F (fun p hp => N p ?_)
    rcases List.mem_cons.mp hp with rfl | hp
    · exact .head _
    · exact .tail _ (.tail _ (.tail _ hp))
end

noncomputable section
theorem walkOff_C20 : True := by
  w_top off
  exact True.intro
inductive Nine (cm : Str → Option Value) (n₁ n₂ n₃ n₄ n₅ n₆ n₇ n₈ n₉ : Str) (c₁ c₂ c₃ c₄ c₅ c₆ c₇ c₈ c₉ : Addr) : List (Addr × Obj) → Prop
  | mk (o₁ o₂ o₃ o₄ o₅ o₆ o₇ o₈ o₉ : Obj) (d₁ : o₁.data = .cell (cm n₁)) (d₂ : o₂.data = .cell (cm n₂)) (d₃ : o₃.data = .cell (cm n₃)) (d₄ : o₄.data = .cell (cm n₄)) (d₅ : o₅.data = .cell (cm n₅)) (d₆ : o₆.data = .cell (cm n₆)) (d₇ : o₇.data = .cell (cm n₇)) (d₈ : o₈.data = .cell (cm n₈)) (d₉ : o₉.data = .cell (cm n₉)) : Nine cm n₁ n₂ n₃ n₄ n₅ n₆ n₇ n₈ n₉ c₁ c₂ c₃ c₄ c₅ c₆ c₇ c₈ c₉ [(c₁, o₁), (c₂, o₂), (c₃, o₃), (c₄, o₄), (c₅, o₅), (c₆, o₆), (c₇, o₇), (c₈, o₈), (c₉, o₉)]
theorem kc_nine {cm : Str → Option Value} {n₁ n₂ n₃ n₄ n₅ n₆ n₇ n₈ n₉ : Str} {c₁ c₂ c₃ c₄ c₅ c₆ c₇ c₈ c₉ : Addr} {cells : List (Addr × Obj)} (x : CellsAre cm [(n₁, c₁), (n₂, c₂), (n₃, c₃), (n₄, c₄), (n₅, c₅), (n₆, c₆), (n₇, c₇), (n₈, c₈), (n₉, c₉)] cells) : Nine cm n₁ n₂ n₃ n₄ n₅ n₆ n₇ n₈ n₉ c₁ c₂ c₃ c₄ c₅ c₆ c₇ c₈ c₉ cells := by
  cases x with | cons h r =>
    obtain ⟨o₂, o₃, o₄, o₅, o₆, o₇, o₈, o₉, rfl, d₂, d₃, d₄, d₅, d₆, d₇, d₈, d₉⟩ := kc_eight r
    exact ⟨_, o₂, o₃, o₄, o₅, o₆, o₇, o₈, o₉, h, d₂, d₃, d₄, d₅, d₆, d₇, d₈, d₉⟩
noncomputable def o222 (P : Params) : { o : Obj // (hdK.heap_1 P).lookup 222 = some o } := ⟨_, by k_is⟩
noncomputable def fnParts (o : Obj) : Option (Scope × List Stmt) := match o.data with
  | .func fd => match fd.body with
    | .stmts b => some (fd.scope, b)
    | _ => none
  | _ => none
noncomputable def law222 (P : Params) : { x : Scope × List Stmt // fnParts (o222 P).1 = some x } := ⟨_, rfl⟩
noncomputable abbrev envLaw (P : Params) (L : Addr) : Env := envOfC (Str.ofString "law") (law222 P).1.1 L 222 (.ref 221)
noncomputable abbrev stmtLaw (P : Params) (i : Nat) : Stmt := ((law222 P).1.2[i]?).getD (.Pass default)
noncomputable abbrev cells9 (L : Nat) (o1 o2 o3 o4 o5 o6 o7 o8 o9 : Obj) : List (Addr × Obj) := [(L + 1 + 1 + 1 + 1 + 1 + 1 + 1 + 1 + 1, o9), (L + 1 + 1 + 1 + 1 + 1 + 1 + 1 + 1, o8), (L + 1 + 1 + 1 + 1 + 1 + 1 + 1, o7), (L + 1 + 1 + 1 + 1 + 1 + 1, o6), (L + 1 + 1 + 1 + 1 + 1, o5), (L + 1 + 1 + 1 + 1, o4), (L + 1 + 1 + 1, o3), (L + 1 + 1, o2), (L + 1, o1)]
noncomputable abbrev cellV (o : Obj) (v : Value) : Prop := o.data = .cell (some v)
noncomputable abbrev scObj (dd : Option Addr) (sl : Array (Option Value)) (vs : List Value) (nS : Nat) : Obj := { cls := .type "list", dict := dd, data := .seq vs.toArray nS, slots := sl }
section
variable {A : Around} {E : Value → Shared → Prop} {s : Shared} {g : Heap} {L : Nat} {m : Str → Option Value} {p : Program} {loose : List Str} {mean : ExcName → Option Value} {mg mb : Str → Option Value} {Q : Flow → Shared → Prop}
  {o1 o2 o3 o4 o5 o6 o7 o8 o9 : Obj} {tl : List (Addr × Obj)}
set_option maxHeartbeats 2000000 in
theorem law_s0 {sc : Nat} {vs : List Value} {ns : List Int} (hI : IntsAre vs ns) (hlen : ns.length ≤ 63) (hh : A.handled = none) (X : (hdK.heap_1 w.params).In g) (T : Top p loose mean mg mb g)
    (hdep : A.depth + 200 < recursionLimit) (hu : A.units + 3000 < cLine) (hsc : g.IsList sc vs.toArray) (hlow : Low L tl) (d1 : cellV o1 (.ref sc)) {c2 : Option Value} (d2 : o2.data = .cell c2) (F : Fr g L s.heap m) (N : News g L s.heap (cells9 L o1 o2 o3 o4 o5 o6 o7 o8 o9 ++ tl))
    (hQ : ∀ (D : Nat) ys nD cs o2' h' tk, cs.length = 4 → (∀ c ∈ cs, c ≤ 100000000) → IntsAre ys (asInts cs) → cellV o2' (.ref D) → LCg.Off1 D (cells9 L o1 o2' o3 o4 o5 o6 o7 o8 o9 ++ tl) → Fr g L h' m → News g L h' ((D, listOf ys.toArray nD) :: (cells9 L o1 o2' o3 o4 o5 o6 o7 o8 o9 ++ tl)) → Q .next { s with heap := h', toks := tk }) :
    wpAny (model prog w) A (exec (stmtLaw w.params 0) (envLaw w.params L)) Q E s := by
  have hcLine : cLine = 9900 := rfl
  have hrec : recursionLimit = 1000 := rfl
  have hvl : vs.length ≤ 63 := by rw [hI.length]; exact hlen
  simp only [cells9, List.cons_append, List.nil_append] at N
  dsimp only [stmtLaw, envLaw, law222, Option.getD, List.getElem?_cons_zero]
  refine wpAny_Assign_Name ?_ (by kernel_rfl)
  refine comp_enum F rfl (by decide) rfl (by decide) rfl rfl (by decide) ?_
  repeat walk1
  with_reducible rename Fr _ _ _ _ => F2
  with_reducible rename News _ _ _ _ => N2
  rename_i lE _ hlE
  refine call_enumK hh F2 N2 (.head _) rfl rfl (Nat.le_of_ble_eq_true rfl) (fun i ys news => ∃ cs : List Nat, news = _ ∧ IntsAre ys (asInts cs) ∧ cs.length = i ∧ ∀ c ∈ cs, c ≤ 100000000) ⟨[], rfl, .nil, rfl, (fun c hc => by cases hc)⟩ ?_ ?_ ?_
  · rintro i ys news ⟨cs, rfl, _⟩
    exact .head _
  · rintro i ys news ti x e oe it oi C oC D m₂ h tk E' hx ⟨cs, rfl, hys, hcl, hcb⟩ hC ha hb F N off oit hne
    have off0 := off
    have oit0 := oit
    simp only [LCg.Off3, LCg.Off1, and_true] at off oit
    iterate 6 walk1
    refine LCg.ListComp_U F rfl (by decide) rfl (by decide) rfl ?_
    repeat walk1
    with_reducible rename Fr _ _ _ _ => F3
    with_reducible rename News _ _ _ _ => N3
    obtain ⟨ms, hms, hml⟩ := pick_ints hI (some (i : Int)) (some 20) (some 4)
    have hpl : (slicePick vs.toArray (some (i : Int)) (some 20) (some 4)).size ≤ 63 := Nat.le_trans (slicePick_size_le ..) (by simpa using hvl)
    generalize slicePick vs.toArray (some (i : Int)) (some 20) (some 4) = pk at *
    refine LCg.CompSrc.ledger hh F3 N3 (.head _) (Nat.le_trans hpl (by decide)) (fun g' => ?_)
    refine comp_inv (n := pk.size) (fun k zv news => news = _ ∧ ∃ zs : List Nat, IntsAre zv (asInts zs) ∧ (∀ z ∈ zs, z ≤ 999999) ∧ zs.length = k) ?_ ?_ pk.size 0 [] _ (Nat.zero_add _) ⟨rfl, [], .nil, (fun z hz => by cases hz), rfl⟩
    · rintro k zv news v I oI C2 oC2 D2 m₃ h3 tk3 E3 hk ⟨rfl, zs, hzs, hzb, hzl⟩ hv hC2 hx2 F4 N4 off2 hne2
      refine gen_K fun KK hKK => ?_
      have off20 := off2
      simp only [LCg.Off3, and_true] at off2
      obtain ⟨n, tn, rfl⟩ := hms.all v (by simpa using Array.mem_of_getElem? hv)
      repeat walk1
      with_reducible rename Fr _ _ _ _ => F5
      with_reducible rename News _ _ _ _ => N5
      refine hKK _ _ (LCg.CompEnd.intro F5 N5 _ (fun p hp => hp) off20 (.inr ⟨_, .head _, rfl, _, rfl⟩) ⟨rfl, zs ++ [(n.fmod 1000000).toNat], ints_snocN hzs (Int.fmod_nonneg_of_pos n (by decide)), ?_, by simp [hzl]⟩)
      intro z hz
      rcases List.mem_append.mp hz with hz | hz
      · exact hzb z hz
      · rw [List.mem_singleton.mp hz]
        have := Int.fmod_lt_of_pos n (b := 1000000) (by decide)
        omega
    · rintro zv news ⟨rfl, zs, hzs, hzb, hzl⟩
      unfold LCg.FinE
      intro D3 h3 tk3 F4 N4 off2
      repeat walk1
      refine sumK hh F4 N4 (News.isList N4 (.head _)) hzs (fun h4 tk4 t4 F5 N5 => ?_)
      rw [nat_sum]
      have hsl := sum_le hzb
      obtain ⟨c0, t0, rfl, hc0⟩ : ∃ (c0 : Nat) (t0 : Tok), x = .int (c0 : Int) t0 ∧ c0 ≤ 158 := by
        rcases i with _ | _ | _ | _ | i
        · exact ⟨64, _, (Option.some.inj hx).symm, by omega⟩
        · exact ⟨9, _, (Option.some.inj hx).symm, by omega⟩
        · exact ⟨158, _, (Option.some.inj hx).symm, by omega⟩
        · exact ⟨2, _, (Option.some.inj hx).symm, by omega⟩
        · simp at hx
      repeat walk1
      with_reducible rename Fr _ _ _ _ => F6
      with_reducible rename News _ _ _ _ => N6
      refine LCg.CompEnd.intro F6 N6 ((it, oi) :: _) (fun p hp => .tail _ (.tail _ hp)) off0 True.intro ⟨_, rfl, oit0, cs ++ [((c0 : Int) + ((zs.sum : Nat) : Int)).toNat], rfl, ints_snocN hys (by omega), by simp [hcl], ?_⟩
      intro z hz
      rcases List.mem_append.mp hz with hz | hz
      · exact hcb z hz
      · rw [List.mem_singleton.mp hz]; omega
  · rintro ys news ⟨cs, rfl, hys, hcl, hcb⟩
    unfold LCg.FinE
    intro D h tk F6 N6 off
    have offT : ∀ p ∈ tl, p.1 ≠ D := fun p hp => Off1.mem off p (by repeat (first | exact hp | exact List.mem_append_left _ hp | refine List.mem_append_right _ ?_ | refine List.mem_cons_of_mem _ ?_))
    have off7 := off
    simp only [LCg.Off1, and_true] at off
    repeat walk1
    with_reducible rename Fr _ _ _ _ => F7
    with_reducible rename News _ _ _ _ => N7
    rename_i d7
    refine hQ D ys ys.length cs _ _ _ hcl hcb hys d7 ?_ F7 (fun p hp => N7 p ?_)
    · exact off7.2
    · rcases List.mem_cons.mp hp with rfl | hp
      · exact .head _
      · exact .tail _ (.tail _ hp)
end
end

noncomputable section
theorem walkOff_C21 : True := by
  w_top off
  exact True.intro
section
variable {A : Around} {E : Value → Shared → Prop} {s : Shared} {g : Heap} {L : Nat} {m : Str → Option Value} {p : Program} {loose : List Str} {mean : ExcName → Option Value} {mg mb : Str → Option Value} {Q : Flow → Shared → Prop}
  {o1 o2 o3 o4 o5 o6 o7 o8 o9 : Obj} {tl : List (Addr × Obj)}
set_option maxHeartbeats 2000000 in
theorem law_s1 {cl nc c0 c1 c2 c3 : Nat} {vc : List Value} (hI : IntsAre vc (asInts [c0, c1, c2, c3])) (hh : A.handled = none) (X : (hdK.heap_1 w.params).In g) (T : Top p loose mean mg mb g)
    (d2 : cellV o2 (.ref cl)) (F : Fr g L s.heap m) (N : News g L s.heap ((cl, listOf vc.toArray nc) :: (cells9 L o1 o2 o3 o4 o5 o6 o7 o8 o9 ++ tl)))
    (hQ : ∀ h' tk t (v : Int), v = ((3 - c3 % 2 : Nat) : Int) → Fr g L h' (fun y => if y = Str.ofString "rows" then some (.int v t) else m y) → News g L h' ((cl, listOf vc.toArray nc) :: (cells9 L o1 o2 o3 o4 o5 o6 o7 o8 o9 ++ tl)) → Q .next { s with heap := h', toks := tk }) :
    wpAny (model prog w) A (exec (stmtLaw w.params 1) (envLaw w.params L)) Q E s := by
  have hcLine : cLine = 9900 := rfl
  have hrec : recursionLimit = 1000 := rfl
  simp only [cells9, List.cons_append, List.nil_append] at N
  dsimp only [stmtLaw, envLaw, law222, Option.getD, List.getElem?_cons_succ, List.getElem?_cons_zero]
  repeat walk1
  with_reducible rename Fr _ _ _ _ => F7
  with_reducible rename News _ _ _ _ => N7
  have e : (3 : Int) - ((asInts [c0, c1, c2, c3]).getD (3 : Int).toNat 0).fmod 2 = ((3 - c3 % 2 : Nat) : Int) := by
    show (3 : Int) - (c3 : Int).fmod 2 = ((3 - c3 % 2 : Nat) : Int)
    rw [Int.fmod_eq_emod_of_nonneg _ (by decide)]
    omega
  exact hQ _ _ _ _ e F7 N7
set_option maxHeartbeats 2000000 in
theorem law_s2 {cl nc c0 c1 c2 c3 : Nat} {vc : List Value} (hI : IntsAre vc (asInts [c0, c1, c2, c3])) (hh : A.handled = none) (X : (hdK.heap_1 w.params).In g) (T : Top p loose mean mg mb g)
    (d2 : cellV o2 (.ref cl)) (F : Fr g L s.heap m) (N : News g L s.heap ((cl, listOf vc.toArray nc) :: (cells9 L o1 o2 o3 o4 o5 o6 o7 o8 o9 ++ tl)))
    (hQ : ∀ h' tk t (v : Int), v = ((2 + c3 / 2 % 6 : Nat) : Int) → Fr g L h' (fun y => if y = Str.ofString "width" then some (.int v t) else m y) → News g L h' ((cl, listOf vc.toArray nc) :: (cells9 L o1 o2 o3 o4 o5 o6 o7 o8 o9 ++ tl)) → Q .next { s with heap := h', toks := tk }) :
    wpAny (model prog w) A (exec (stmtLaw w.params 2) (envLaw w.params L)) Q E s := by
  have hcLine : cLine = 9900 := rfl
  have hrec : recursionLimit = 1000 := rfl
  simp only [cells9, List.cons_append, List.nil_append] at N
  dsimp only [stmtLaw, envLaw, law222, Option.getD, List.getElem?_cons_succ, List.getElem?_cons_zero]
  repeat walk1
  with_reducible rename Fr _ _ _ _ => F7
  with_reducible rename News _ _ _ _ => N7
  have e : (2 : Int) + (((asInts [c0, c1, c2, c3]).getD (3 : Int).toNat 0).fdiv 2).fmod 6 = ((2 + c3 / 2 % 6 : Nat) : Int) := by
    show (2 : Int) + ((c3 : Int).fdiv 2).fmod 6 = ((2 + c3 / 2 % 6 : Nat) : Int)
    rw [Int.fmod_eq_emod_of_nonneg _ (by decide), Int.fdiv_eq_ediv_of_nonneg _ (by decide)]
    omega
  exact hQ _ _ _ _ e F7 N7
end
end

noncomputable section
theorem walkOff_C22 : True := by
  w_top off
  exact True.intro
noncomputable def szOf (c : Nat) : Nat := [2, 4, 3, 8, 2, 6, 4, 3].getD (c % 8) 0
theorem szOf_int (c : Nat) : ([2, 4, 3, 8, 2, 6, 4, 3] : List Int).getD (((c : Int).fmod 8).toNat) 0 = ((szOf c : Nat) : Int) := by
  have e : ((c : Int).fmod 8).toNat = c % 8 := by rw [Int.fmod_eq_emod_of_nonneg _ (by decide)]; omega
  have key : ∀ r, r < 8 → ([2, 4, 3, 8, 2, 6, 4, 3] : List Int).getD r 0 = (([2, 4, 3, 8, 2, 6, 4, 3] : List Nat).getD r 0 : Int) := by decide
  rw [e]
  exact key _ (Nat.mod_lt _ (by decide))
theorem szOf_bound (c : Nat) : 2 ≤ szOf c ∧ szOf c ≤ 8 := by
  have key : ∀ r, r < 8 → 2 ≤ ([2, 4, 3, 8, 2, 6, 4, 3] : List Nat).getD r 0 ∧ ([2, 4, 3, 8, 2, 6, 4, 3] : List Nat).getD r 0 ≤ 8 := by decide
  exact key _ (Nat.mod_lt _ (by decide))
theorem asInts_snoc (zs : List Nat) (z : Nat) : asInts (zs ++ [z]) = asInts zs ++ [(z : Int)] := by simp
section
variable {A : Around} {E : Value → Shared → Prop} {s : Shared} {g : Heap} {L : Nat} {m : Str → Option Value} {p : Program} {loose : List Str} {mean : ExcName → Option Value} {mg mb : Str → Option Value} {Q : Flow → Shared → Prop}
  {o1 o2 o3 o4 o5 o6 o7 o8 o9 : Obj} {tl : List (Addr × Obj)}
set_option maxHeartbeats 2000000 in
theorem law_s3 {cl nc rows : Nat} {tr : Tok} {cs : List Nat} {vc : List Value} (hI : IntsAre vc (asInts cs)) (hcs : cs.length = 4) (hrows : rows ≤ 3) (hh : A.handled = none) (X : (hdK.heap_1 w.params).In g) (T : Top p loose mean mg mb g)
    (hdep : A.depth + 200 < recursionLimit) (hu : A.units + 3000 < cLine) (d2 : cellV o2 (.ref cl)) {c3 : Option Value} (d3 : o3.data = .cell c3) (hlow : Low L tl) (hcl : LCg.Off1 cl (cells9 L o1 o2 o3 o4 o5 o6 o7 o8 o9 ++ tl)) (hsay : Says m [(Str.ofString "rows", .int (rows : Int) tr)])
    (F : Fr g L s.heap m) (N : News g L s.heap ((cl, listOf vc.toArray nc) :: (cells9 L o1 o2 o3 o4 o5 o6 o7 o8 o9 ++ tl)))
    (hQ : ∀ (D : Nat) vz nz o3' h' tk, IntsAre vz (asInts ((cs.take rows).map szOf)) → cellV o3' (.ref D) → LCg.Off1 D ((cl, listOf vc.toArray nc) :: (cells9 L o1 o2 o3' o4 o5 o6 o7 o8 o9 ++ tl)) → Fr g L h' m → News g L h' ((D, listOf vz.toArray nz) :: (cl, listOf vc.toArray nc) :: (cells9 L o1 o2 o3' o4 o5 o6 o7 o8 o9 ++ tl)) → Q .next { s with heap := h', toks := tk }) :
    wpAny (model prog w) A (exec (stmtLaw w.params 3) (envLaw w.params L)) Q E s := by
  have hcLine : cLine = 9900 := rfl
  have hrec : recursionLimit = 1000 := rfl
  have hcl0 := hcl
  simp only [cells9, LCg.Off1, List.cons_append, List.nil_append, and_true] at hcl
  simp only [cells9, List.cons_append, List.nil_append] at N
  dsimp only [stmtLaw, envLaw, law222, Option.getD, List.getElem?_cons_succ, List.getElem?_cons_zero]
  refine wpAny_Assign_Name ?_ (by kernel_rfl)
  have F := Mine.Fr.said F hsay
  refine LCg.ListComp_U F rfl (by decide) rfl (by decide) rfl ?_
  repeat walk1
  with_reducible rename Fr _ _ _ _ => F3
  with_reducible rename News _ _ _ _ => N3
  with_reducible rename IntsAre _ (List.take _ _) => hI3
  with_reducible rename _ < _ ∧ _ => hlt3
  rename_i ws3 _ _ _
  rw [Int.toNat_natCast, show List.take rows (asInts cs) = asInts (cs.take rows) from (List.map_take).symm] at hI3
  have hwl : ws3.length = (cs.take rows).length := by rw [hI3.length]; simp
  have hwl3 : ws3.length ≤ 3 := by rw [hwl, List.length_take]; omega
  refine LCg.CompSrc.ledger hh F3 N3 (.head _) (Nat.le_trans (show ws3.toArray.size ≤ 3 by simpa using hwl3) (by decide)) (fun g' => ?_)
  refine comp_inv (n := ws3.toArray.size) (fun k zv news => news = _ ∧ IntsAre zv (asInts (((cs.take rows).take k).map szOf))) ?_ ?_ ws3.toArray.size 0 [] _ (Nat.zero_add _) ⟨rfl, .nil⟩
  · rintro k zv news v I oI C2 oC2 D2 m₃ h3 tk3 E3 hk ⟨rfl, hzs⟩ hv hC2 hx2 F4 N4 off2 hne2
    refine gen_K fun KK hKK => ?_
    have off20 := off2
    simp only [LCg.Off3, and_true] at off2
    have hkc : k < (cs.take rows).length := by rw [← hwl]; simpa using hk
    have hck : (cs.take rows)[k]? = some (cs.take rows)[k] := List.getElem?_eq_getElem hkc
    obtain ⟨tv, hv2⟩ := hI3.get k _ (show (asInts (cs.take rows))[k]? = some (((cs.take rows)[k] : Nat) : Int) by rw [List.getElem?_map, hck]; rfl)
    have ev : v = .int (((cs.take rows)[k] : Nat) : Int) tv := by
      have : ws3[k]? = some v := by simpa using hv
      rw [this] at hv2; exact Option.some.inj hv2
    subst ev
    have hnext : ((cs.take rows).take (k + 1)).map szOf = ((cs.take rows).take k).map szOf ++ [szOf (cs.take rows)[k]] := by
      rw [List.take_add_one, hck]; simp
    rw [hnext] at hKK
    generalize (cs.take rows)[k] = c at *
    repeat walk1
    with_reducible rename Fr _ _ _ _ => F5
    with_reducible rename News _ _ _ _ => N5
    refine hKK _ _ (LCg.CompEnd.intro F5 N5 _ (fun p hp => .tail _ hp) off20 (.inr ⟨_, .head _, rfl, _, rfl⟩) ⟨rfl, ?_⟩)
    rw [asInts_snoc, ← szOf_int]
    exact snocI hzs
  · rintro zv news ⟨rfl, hzs⟩
    unfold LCg.FinE
    intro D3 h3 tk3 F4 N4 off2
    have off20 := off2
    have offT : ∀ p ∈ tl, p.1 ≠ D3 := fun p hp => Off1.mem off2 p (by repeat (first | exact hp | exact List.mem_append_left _ hp | refine List.mem_append_right _ ?_ | refine List.mem_cons_of_mem _ ?_))
    simp only [LCg.Off1, and_true] at off2
    have e1 : @Ne Nat D3 (L + 1 + 1 + 1) := by first | exact Ne.symm off2.2.1 | exact Ne.symm off2.2.2.1 | exact Ne.symm off2.2.2.2.1 | exact Ne.symm off2.2.2.2.2.1 | exact Ne.symm off2.2.2.2.2.2.1 | exact Ne.symm off2.2.2.2.2.2.2.1 | exact Ne.symm off2.2.2.2.2.2.2.2.1 | exact Ne.symm off2.2.2.2.2.2.2.2.2.1 | exact Ne.symm off2.2.2.2.2.2.2.2.2.2.1 | exact Ne.symm off2.2.2.2.2.2.2.2.2.2.2.1 | exact Ne.symm off2.2.2.2.2.2.2.2.2.2.2.2.1 | exact Ne.symm off2.2.2.2.2.2.2.2.2.2.2.2.2.1 | exact Ne.symm off2.2.2.2.2.2.2.2.2.2.2.2.2.2.1
    have ecl : @Ne Nat cl (L + 1 + 1 + 1) := by first | exact Ne.symm hcl.2.1 | exact Ne.symm hcl.2.2.1 | exact Ne.symm hcl.2.2.2.1 | exact Ne.symm hcl.2.2.2.2.1 | exact Ne.symm hcl.2.2.2.2.2.1 | exact Ne.symm hcl.2.2.2.2.2.2.1 | exact Ne.symm hcl.2.2.2.2.2.2.2.1 | exact Ne.symm hcl.2.2.2.2.2.2.2.2.1 | exact Ne.symm hcl.2.2.2.2.2.2.2.2.2.1 | exact Ne.symm hcl.2.2.2.2.2.2.2.2.2.2.1 | exact Ne.symm hcl.2.2.2.2.2.2.2.2.2.2.2.1 | exact Ne.symm hcl.2.2.2.2.2.2.2.2.2.2.2.2.1 | exact Ne.symm hcl.2.2.2.2.2.2.2.2.2.2.2.2.2.1
    repeat walk1
    with_reducible rename Fr _ _ _ _ => F5
    with_reducible rename News _ _ _ _ => N5
    rename_i d5
    have et : (cs.take rows).take ws3.toArray.size = cs.take rows := List.take_of_length_le (by simp [hwl])
    rw [et] at hzs
    refine hQ D3 zv zv.length _ _ _ hzs d5 off20.2 (Fr.unsaid F5 hsay) (fun p hp => N5 p ?_)
    rcases List.mem_cons.mp hp with rfl | hp
    · exact .head _
    · exact .tail _ (.tail _ hp)
end
end

noncomputable section
theorem walkOff_C23 : True := by
  w_top off
  exact True.intro
noncomputable def dotOf (c : Nat) : Nat := 1 + c / 8 % szOf c
theorem dotOf_int (c : Nat) : (1 : Int) + ((c : Int).fdiv 8).fmod ((szOf c : Nat) : Int) = ((dotOf c : Nat) : Int) := by
  rw [Int.fdiv_eq_ediv_of_nonneg _ (by decide), Int.fmod_eq_emod_of_nonneg _ (by omega)]
  unfold dotOf
  push_cast
  rfl
theorem asInts_getD {zs : List Nat} {k : Nat} (h : k < zs.length) : (asInts zs).getD k 0 = ((zs[k] : Nat) : Int) := by
  rw [List.getD_eq_getElem?_getD, List.getElem?_map, List.getElem?_eq_getElem h]; rfl
section
variable {A : Around} {E : Value → Shared → Prop} {s : Shared} {g : Heap} {L : Nat} {m : Str → Option Value} {p : Program} {loose : List Str} {mean : ExcName → Option Value} {mg mb : Str → Option Value} {Q : Flow → Shared → Prop}
  {o1 o2 o3 o4 o5 o6 o7 o8 o9 : Obj} {tl : List (Addr × Obj)}
set_option maxHeartbeats 2000000 in
theorem law_s4 {cl nc zl nz rows : Nat} {tr : Tok} {cs : List Nat} {vc vz : List Value} (hI : IntsAre vc (asInts cs)) (hcs : cs.length = 4) (hZ : IntsAre vz (asInts ((cs.take rows).map szOf))) (hrows : rows ≤ 3) (hh : A.handled = none) (X : (hdK.heap_1 w.params).In g) (T : Top p loose mean mg mb g)
    (hdep : A.depth + 200 < recursionLimit) (hu : A.units + 3000 < cLine) (d2 : cellV o2 (.ref cl)) (d3 : cellV o3 (.ref zl)) {c4 : Option Value} (d4 : o4.data = .cell c4) (hlow : Low L tl) (hcl : LCg.Off1 cl (cells9 L o1 o2 o3 o4 o5 o6 o7 o8 o9 ++ tl))
    (hzl : LCg.Off1 zl ((cl, listOf vc.toArray nc) :: (cells9 L o1 o2 o3 o4 o5 o6 o7 o8 o9 ++ tl))) (hsay : Says m [(Str.ofString "rows", .int (rows : Int) tr)])
    (F : Fr g L s.heap m) (N : News g L s.heap ((zl, listOf vz.toArray nz) :: (cl, listOf vc.toArray nc) :: (cells9 L o1 o2 o3 o4 o5 o6 o7 o8 o9 ++ tl)))
    (hQ : ∀ (D : Nat) vd nd o4' h' tk, IntsAre vd (asInts ((cs.take rows).map dotOf)) → cellV o4' (.ref D) → LCg.Off1 D ((zl, listOf vz.toArray nz) :: (cl, listOf vc.toArray nc) :: (cells9 L o1 o2 o3 o4' o5 o6 o7 o8 o9 ++ tl)) → Fr g L h' m → News g L h' ((D, listOf vd.toArray nd) :: (zl, listOf vz.toArray nz) :: (cl, listOf vc.toArray nc) :: (cells9 L o1 o2 o3 o4' o5 o6 o7 o8 o9 ++ tl)) → Q .next { s with heap := h', toks := tk }) :
    wpAny (model prog w) A (exec (stmtLaw w.params 4) (envLaw w.params L)) Q E s := by
  have hcLine : cLine = 9900 := rfl
  have hrec : recursionLimit = 1000 := rfl
  simp only [cells9, LCg.Off1, List.cons_append, List.nil_append, and_true] at hcl hzl
  simp only [cells9, List.cons_append, List.nil_append] at N
  dsimp only [stmtLaw, envLaw, law222, Option.getD, List.getElem?_cons_succ, List.getElem?_cons_zero]
  refine wpAny_Assign_Name ?_ (by kernel_rfl)
  have F := Mine.Fr.said F hsay
  have htl : (cs.take rows).length = rows := by rw [List.length_take]; omega
  have hcl4 : (asInts cs).length = 4 := by simp [hcs]
  have hzl3 : (asInts ((cs.take rows).map szOf)).length = rows := by simp [hcs]; omega
  refine LCg.ListComp_U F rfl (by decide) rfl (by decide) rfl ?_
  repeat walk1
  with_reducible rename IsRange _ _ _ _ _ _ _ _ => hR
  with_reducible rename Fr _ _ _ _ => F2
  with_reducible rename News _ _ _ _ => N2
  refine LCg.CompSrc.range (n := rows) hh F2 N2 hR (small_one (by omega) (by omega) (by omega) (by omega)) (by rw [rangeSize_one]; split <;> omega) (Nat.le_trans hrows (by decide)) (fun g' => ?_)
  refine comp_inv (n := rows) (fun k zv news => news = _ ∧ IntsAre zv (asInts (((cs.take rows).take k).map dotOf))) ?_ ?_ rows 0 [] _ (Nat.zero_add _) ⟨rfl, .nil⟩
  · rintro k zv news v I oI C2 oC2 D2 m₃ h3 tk3 E3 hk ⟨rfl, hzs⟩ ⟨tv, rfl⟩ hC2 hx2 F4 N4 off2 hne2
    refine gen_K fun KK hKK => ?_
    have off20 := off2
    simp only [LCg.Off3, and_true] at off2
    have hk2 : (0 : Int) + (k : Int) < 4 := by omega
    have hk3 : (0 : Int) + (k : Int) < (rows : Int) := by omega
    repeat walk1
    have e0 : ((0 : Int) + (k : Int)).toNat = k := by omega
    have hkc : k < (cs.take rows).length := by omega
    have hck : (cs.take rows)[k]? = some (cs.take rows)[k] := List.getElem?_eq_getElem hkc
    have e1 : (asInts cs).getD k 0 = (((cs.take rows)[k] : Nat) : Int) := by rw [asInts_getD (by omega)]; simp
    have e2 : (asInts ((cs.take rows).map szOf)).getD k 0 = ((szOf (cs.take rows)[k] : Nat) : Int) := by rw [asInts_getD (by simp; omega)]; simp
    have hnext : ((cs.take rows).take (k + 1)).map dotOf = ((cs.take rows).take k).map dotOf ++ [dotOf (cs.take rows)[k]] := by
      rw [List.take_add_one, hck]; simp
    rw [hnext] at hKK
    rw [e0, e1, e2]
    generalize (cs.take rows)[k] = c at *
    have hz2 := (szOf_bound c).1
    have hz3 : (0 : Int) < ((szOf c : Nat) : Int) := by omega
    repeat walk1
    with_reducible rename Fr _ _ _ _ => F5
    with_reducible rename News _ _ _ _ => N5
    refine hKK _ _ (LCg.CompEnd.intro F5 N5 _ (fun p hp => hp) off20 True.intro ⟨rfl, ?_⟩)
    rw [asInts_snoc, ← dotOf_int]
    exact snocI hzs
  · rintro zv news ⟨rfl, hzs⟩
    unfold LCg.FinE
    intro D3 h3 tk3 F4 N4 off2
    have off20 := off2
    have offT : ∀ p ∈ tl, p.1 ≠ D3 := fun p hp => Off1.mem off2 p (by repeat (first | exact hp | exact List.mem_append_left _ hp | refine List.mem_append_right _ ?_ | refine List.mem_cons_of_mem _ ?_))
    simp only [LCg.Off1, and_true] at off2
    have e1 : @Ne Nat D3 (L + 1 + 1 + 1 + 1) := by first | exact Ne.symm off2.2.1 | exact Ne.symm off2.2.2.1 | exact Ne.symm off2.2.2.2.1 | exact Ne.symm off2.2.2.2.2.1 | exact Ne.symm off2.2.2.2.2.2.1 | exact Ne.symm off2.2.2.2.2.2.2.1 | exact Ne.symm off2.2.2.2.2.2.2.2.1 | exact Ne.symm off2.2.2.2.2.2.2.2.2.1 | exact Ne.symm off2.2.2.2.2.2.2.2.2.2.1 | exact Ne.symm off2.2.2.2.2.2.2.2.2.2.2.1 | exact Ne.symm off2.2.2.2.2.2.2.2.2.2.2.2.1 | exact Ne.symm off2.2.2.2.2.2.2.2.2.2.2.2.2.1 | exact Ne.symm off2.2.2.2.2.2.2.2.2.2.2.2.2.2.1
    have ecl : @Ne Nat cl (L + 1 + 1 + 1 + 1) := by first | exact Ne.symm hcl.2.1 | exact Ne.symm hcl.2.2.1 | exact Ne.symm hcl.2.2.2.1 | exact Ne.symm hcl.2.2.2.2.1 | exact Ne.symm hcl.2.2.2.2.2.1 | exact Ne.symm hcl.2.2.2.2.2.2.1 | exact Ne.symm hcl.2.2.2.2.2.2.2.1 | exact Ne.symm hcl.2.2.2.2.2.2.2.2.1 | exact Ne.symm hcl.2.2.2.2.2.2.2.2.2.1 | exact Ne.symm hcl.2.2.2.2.2.2.2.2.2.2.1 | exact Ne.symm hcl.2.2.2.2.2.2.2.2.2.2.2.1 | exact Ne.symm hcl.2.2.2.2.2.2.2.2.2.2.2.2.1 | exact Ne.symm hcl.2.2.2.2.2.2.2.2.2.2.2.2.2.1
    have ezl : @Ne Nat zl (L + 1 + 1 + 1 + 1) := by first | exact Ne.symm hzl.2.1 | exact Ne.symm hzl.2.2.1 | exact Ne.symm hzl.2.2.2.1 | exact Ne.symm hzl.2.2.2.2.1 | exact Ne.symm hzl.2.2.2.2.2.1 | exact Ne.symm hzl.2.2.2.2.2.2.1 | exact Ne.symm hzl.2.2.2.2.2.2.2.1 | exact Ne.symm hzl.2.2.2.2.2.2.2.2.1 | exact Ne.symm hzl.2.2.2.2.2.2.2.2.2.1 | exact Ne.symm hzl.2.2.2.2.2.2.2.2.2.2.1 | exact Ne.symm hzl.2.2.2.2.2.2.2.2.2.2.2.1 | exact Ne.symm hzl.2.2.2.2.2.2.2.2.2.2.2.2.1 | exact Ne.symm hzl.2.2.2.2.2.2.2.2.2.2.2.2.2.1
    repeat walk1
    with_reducible rename Fr _ _ _ _ => F5
    with_reducible rename News _ _ _ _ => N5
    rename_i d5
    have et : (cs.take rows).take rows = cs.take rows := List.take_of_length_le (by omega)
    rw [et] at hzs
    exact hQ D3 zv zv.length _ _ _ hzs d5 off20 (Fr.unsaid F5 hsay) N5
end
end

noncomputable section
theorem walkOff_C24 : True := by
  w_top off
  exact True.intro
noncomputable def endOf (c : Nat) : List Nat := [[10], [13], [13, 10]].getD (c / 64 % 3) []
noncomputable def rowOf (c : Nat) : List Nat := dotsOf (dotOf c) ++ endOf c
theorem mul_sign (c d : Nat) : Txt.mul ⟨#[c]⟩ (d : Int) = txt (List.replicate d c) := by
  have h := mul_one_list c (d : Int)
  rw [Int.toNat_natCast] at h
  cases hr : Txt.mul ⟨#[c]⟩ (d : Int) with
  | mk a => rw [hr] at h; show (⟨a⟩ : Str) = ⟨(List.replicate d c).toArray⟩; rw [← h]
theorem mulOk_sign {c d : Nat} (hd : d ≤ 100000) : MulOk ⟨#[c]⟩ (d : Int) := by
  refine ⟨?_, fun h1 h2 => ?_, fun h1 h2 => ?_⟩
  · rw [decide_eq_false (by omega), decide_eq_false (by omega)]; rfl
  · have e : ((⟨#[c]⟩ : Str).length : Int) = 1 := rfl
    rw [e]
    have : (1 : Int) ≤ (2 ^ 63 - 1) / (d : Int) := Int.le_ediv_of_mul_le (by omega) (by omega)
    omega
  · have e : (⟨#[c]⟩ : Str).length = 1 := rfl
    rw [e]
    unfold Builtin.Str.tooLong sizeLine
    exact decide_eq_false (by omega)
theorem mod3 (c : Nat) : ((c : Int).fdiv 64).fmod 3 = ((c / 64 % 3 : Nat) : Int) := by
  rw [Int.fmod_eq_emod_of_nonneg _ (by decide), Int.fdiv_eq_ediv_of_nonneg _ (by decide)]
  omega
theorem end_at (c : Nat) (t1 t2 t3 : Tok) : ∃ t, ([.str (Str.ofString "\n") t1, .str (Str.ofString "\r") t2, .str (Str.ofString "\r\n") t3] : List Value)[c / 64 % 3]? = some (.str (txt (endOf c)) t) := by
  unfold endOf
  have h : c / 64 % 3 < 3 := Nat.mod_lt _ (by decide)
  generalize c / 64 % 3 = r at *
  rcases r with _ | _ | _ | r
  · exact ⟨t1, rfl⟩
  · exact ⟨t2, rfl⟩
  · exact ⟨t3, rfl⟩
  · omega
theorem endOf_len (c : Nat) : (endOf c).length ≤ 2 := by
  unfold endOf
  have h : c / 64 % 3 < 3 := Nat.mod_lt _ (by decide)
  generalize c / 64 % 3 = r at *
  rcases r with _ | _ | _ | r
  · decide
  · decide
  · decide
  · omega
theorem dotOf_le (c : Nat) : dotOf c ≤ 8 := by
  unfold dotOf
  have := szOf_bound c
  have := Nat.mod_lt (c / 8) (show szOf c > 0 by omega)
  omega
theorem rowOf_len (c : Nat) : (rowOf c).length ≤ 10 := by
  have h1 := endOf_len c
  have h2 := dotOf_le c
  unfold rowOf
  rw [List.length_append, List.length_replicate]
  omega
theorem flat_rows (f : Nat → List Nat) : ∀ l : List Nat, flat (l.map fun c => txt (f c)) = l.flatMap f
  | [] => rfl
  | c :: l => by
    have ih := flat_rows f l
    show (txt (f c)).cps.toList ++ flat (l.map fun c => txt (f c)) = f c ++ l.flatMap f
    rw [ih]
section
variable {A : Around} {E : Value → Shared → Prop} {s : Shared} {g : Heap} {L : Nat} {m : Str → Option Value} {p : Program} {loose : List Str} {mean : ExcName → Option Value} {mg mb : Str → Option Value} {Q : Flow → Shared → Prop}
  {o1 o2 o3 o4 o5 o6 o7 o8 o9 : Obj} {tl : List (Addr × Obj)}
set_option maxHeartbeats 2000000 in
theorem law_s5 {cl nc zl nz dl nd rows : Nat} {tr : Tok} {cs : List Nat} {vc vz vd : List Value} (hI : IntsAre vc (asInts cs)) (hcs : cs.length = 4) (hD : IntsAre vd (asInts ((cs.take rows).map dotOf))) (hrows : rows ≤ 3) (hh : A.handled = none) (X : (hdK.heap_1 w.params).In g) (T : Top p loose mean mg mb g)
    (hdep : A.depth + 200 < recursionLimit) (hu : A.units + 3000 < cLine) (d2 : cellV o2 (.ref cl)) (d4 : cellV o4 (.ref dl)) (hlow : Low L tl) (hcl : LCg.Off1 cl (cells9 L o1 o2 o3 o4 o5 o6 o7 o8 o9 ++ tl))
    (hzl : LCg.Off1 zl ((cl, listOf vc.toArray nc) :: (cells9 L o1 o2 o3 o4 o5 o6 o7 o8 o9 ++ tl))) (hdl : LCg.Off1 dl ((zl, listOf vz.toArray nz) :: (cl, listOf vc.toArray nc) :: (cells9 L o1 o2 o3 o4 o5 o6 o7 o8 o9 ++ tl))) (hsay : Says m [(Str.ofString "rows", .int (rows : Int) tr)])
    (F : Fr g L s.heap m) (N : News g L s.heap ((dl, listOf vd.toArray nd) :: (zl, listOf vz.toArray nz) :: (cl, listOf vc.toArray nc) :: (cells9 L o1 o2 o3 o4 o5 o6 o7 o8 o9 ++ tl)))
    (hQ : ∀ h' tk t (x : Str), x = txt ((cs.take rows).flatMap rowOf) → Fr g L h' (fun y => if y = Str.ofString "typed" then some (.str x t) else m y) → News g L h' ((dl, listOf vd.toArray nd) :: (zl, listOf vz.toArray nz) :: (cl, listOf vc.toArray nc) :: (cells9 L o1 o2 o3 o4 o5 o6 o7 o8 o9 ++ tl)) → Q .next { s with heap := h', toks := tk }) :
    wpAny (model prog w) A (exec (stmtLaw w.params 5) (envLaw w.params L)) Q E s := by
  have hcLine : cLine = 9900 := rfl
  have hrec : recursionLimit = 1000 := rfl
  simp only [cells9, LCg.Off1, List.cons_append, List.nil_append, and_true] at hcl hzl hdl
  simp only [cells9, List.cons_append, List.nil_append] at N
  dsimp only [stmtLaw, envLaw, law222, Option.getD, List.getElem?_cons_succ, List.getElem?_cons_zero]
  have F := Mine.Fr.said F hsay
  have htl : (cs.take rows).length = rows := by rw [List.length_take]; omega
  have hcl4 : (asInts cs).length = 4 := by simp [hcs]
  have hdl3 : (asInts ((cs.take rows).map dotOf)).length = rows := by simp [hcs]; omega
  refine wpAny_Assign_Name ?_ (by kernel_rfl)
  iterate 5 walk1
  refine LCg.ListComp_U F rfl (by decide) rfl (by decide) rfl ?_
  repeat walk1
  with_reducible rename IsRange _ _ _ _ _ _ _ _ => hR
  with_reducible rename Fr _ _ _ _ => F2
  with_reducible rename News _ _ _ _ => N2
  refine LCg.CompSrc.range (n := rows) hh F2 N2 hR (small_one (by omega) (by omega) (by omega) (by omega)) (by rw [rangeSize_one]; split <;> omega) (Nat.le_trans hrows (by decide)) (fun g' => ?_)
  refine comp_inv (n := rows) (fun k zv news => news = _ ∧ StrsAre zv (((cs.take rows).take k).map fun c => txt (rowOf c))) ?_ ?_ rows 0 [] _ (Nat.zero_add _) ⟨rfl, .nil⟩
  · rintro k zv news v I oI C2 oC2 D2 m₃ h3 tk3 E3 hk ⟨rfl, hzs⟩ ⟨tv, rfl⟩ hC2 hx2 F4 N4 off2 hne2
    refine gen_K fun KK hKK => ?_
    have off20 := off2
    simp only [LCg.Off3, and_true] at off2
    have hk2 : (0 : Int) + (k : Int) < 4 := by omega
    have hk3 : (0 : Int) + (k : Int) < (rows : Int) := by omega
    repeat walk1
    have e0 : ((0 : Int) + (k : Int)).toNat = k := by omega
    have hkc : k < (cs.take rows).length := by omega
    have hck : (cs.take rows)[k]? = some (cs.take rows)[k] := List.getElem?_eq_getElem hkc
    have e1 : (asInts cs).getD k 0 = (((cs.take rows)[k] : Nat) : Int) := by rw [asInts_getD (by omega)]; simp
    have e2 : (asInts ((cs.take rows).map dotOf)).getD k 0 = ((dotOf (cs.take rows)[k] : Nat) : Int) := by rw [asInts_getD (by simp; omega)]; simp
    have hnext : (((cs.take rows).take (k + 1)).map fun c => txt (rowOf c)) = (((cs.take rows).take k).map fun c => txt (rowOf c)) ++ [txt (rowOf (cs.take rows)[k])] := by
      rw [List.take_add_one, hck]; simp
    rw [hnext] at hKK
    rw [e0, e2]
    generalize hcc : (cs.take rows)[k] = c at *
    have hdb : dotOf c ≤ 9 := by
      unfold dotOf
      have := szOf_bound c
      have := Nat.mod_lt (c / 8) (show szOf c > 0 by omega)
      omega
    refine SB.mul (x := ⟨#[46]⟩) (mulOk_sign (by omega)) (fun t6 k6 => ?_)
    rw [mul_sign]
    repeat walk1
    rw [e0, e1, mod3]
    have hr3 : c / 64 % 3 < 3 := Nat.mod_lt _ (by decide)
    obtain ⟨tE, hE⟩ := end_at c _ _ _
    refine item_tupleT (j := c / 64 % 3) (News.isTup (by k_asm) (by k_mem)) (by omega) (by omega) (by unfold seqIndex?; simp; omega) hE ?_
    have hrl := rowOf_len c
    unfold rowOf at hrl
    rw [List.length_append] at hrl
    refine SB.add (fun t7 k7 => ?_) (by
      have l1 : (txt (List.replicate (dotOf c) 46)).length = dotOf c := by simp [Str.length]
      have l2 : (txt (endOf c)).length = (endOf c).length := by simp [Str.length]
      have l3 := endOf_len c
      rw [l1, l2]
      exact Nat.le_trans (show dotOf c + (endOf c).length ≤ 11 by omega) (by decide))
    rw [txt_append]
    with_reducible rename Fr _ _ _ _ => F5
    with_reducible rename News _ _ _ _ => N5
    exact hKK _ _ (LCg.CompEnd.intro F5 N5 _ (fun p hp => .tail _ hp) off20 True.intro ⟨rfl, strs_snoc hzs⟩)
  · rintro zv news ⟨rfl, hzs⟩
    unfold LCg.FinE
    intro D3 h3 tk3 F4 N4 off2
    repeat walk1
    have et : (cs.take rows).take rows = cs.take rows := List.take_of_length_le (by omega)
    rw [et] at hzs
    have hsum := sum_le (b := 10) (zs := ((cs.take rows).map fun c => txt (rowOf c)).map (·.length)) (fun z hz => by
      simp only [List.mem_map] at hz
      obtain ⟨x, ⟨c, _, rfl⟩, rfl⟩ := hz
      have := rowOf_len c
      simpa [Str.length] using this)
    have hle : (((cs.take rows).map fun c => txt (rowOf c)).map (·.length)).length = rows := by simp; omega
    have h0 : (Str.ofString "").length = 0 := rfl
    refine join_list (News.isList N4 (.head _)) hzs (by rw [h0, Nat.mul_zero]; omega) (fun t6 k6 => ?_)
    rw [join_empty, flat_rows]
    repeat walk1
    with_reducible rename Fr _ _ _ _ => F5
    with_reducible rename News _ _ _ _ => N5
    have e9 : (fun y => if y = Str.ofString "typed" then some (Value.str (txt ((cs.take rows).flatMap rowOf)) t6) else kstB m [(Str.ofString "rows", Value.int (rows : Int) tr)] y) = fun y => if y = Str.ofString "typed" then some (Value.str (txt ((cs.take rows).flatMap rowOf)) t6) else m y := by
      funext y
      rw [kstB_eq hsay fun _ => rfl]
    rw [e9] at F5
    exact hQ _ _ _ _ rfl F5 (fun p hp => N5 p (.tail _ hp))
end
end

noncomputable section
theorem walkOff_C25 : True := by
  w_top off
  exact True.intro
noncomputable def textOf (c3 : Nat) (l : List Nat) : List Nat := if c3 / 12 % 2 = 0 then 34 :: (l ++ [34, 46]) else l.flatMap (fun c => [92, c]) ++ [32, 46]
theorem esc_len : ∀ l : List Nat, (l.flatMap fun c => [92, c]).length = 2 * l.length
  | [] => rfl
  | c :: l => by
    have ih := esc_len l
    have e : ([92, c] : List Nat).length = 2 := rfl
    rw [List.flatMap_cons, List.length_append, ih, e, List.length_cons]
    omega
theorem par12 (c0 c1 c2 c3 : Nat) : ((((asInts [c0, c1, c2, c3]).getD (3 : Int).toNat 0).fdiv 12).fmod 2 == 0) = decide (c3 / 12 % 2 = 0) := by
  show (((c3 : Int).fdiv 12).fmod 2 == 0) = _
  rw [Int.fmod_eq_emod_of_nonneg _ (by decide), Int.fdiv_eq_ediv_of_nonneg _ (by decide)]
  by_cases h : c3 / 12 % 2 = 0
  · rw [decide_eq_true h, beq_iff_eq]; omega
  · rw [decide_eq_false h, beq_eq_false_iff_ne]; omega
section
variable {A : Around} {s : Shared} {g : Heap} {L : Nat} {m : Str → Option Value} {p : Program} {loose : List Str} {mean : ExcName → Option Value} {mg mb : Str → Option Value} {Q : Flow → Shared → Prop}
  {o1 o2 o3 o4 o5 o6 o7 o8 o9 : Obj} {tl rest : List (Addr × Obj)}
set_option maxHeartbeats 2000000 in
theorem law_s6 {cl nc : Nat} {tt : Tok} {c0 c1 c2 c3 : Nat} {l : List Nat} {vc : List Value} (hI : IntsAre vc (asInts [c0, c1, c2, c3])) (hll : l.length ≤ 100) (hC1 : ∀ g, (hdK.heap_1 w.params).In g → CodeHd g 211 207) (ht : TabOk 207 182 16 lamQ tl) (hnd : (tl.map (·.1)).Nodup)
    (hh : A.handled = none) (X : (hdK.heap_1 w.params).In g) (T : Top p loose mean mg mb g)
    (hdep : A.depth + 200 < recursionLimit) (hu : A.units + 3000 < cLine) (d2 : cellV o2 (.ref cl)) (hap : ∀ q ∈ (cl, listOf vc.toArray nc) :: (cells9 L o1 o2 o3 o4 o5 o6 o7 o8 o9 ++ rest), ∀ p ∈ tl, p.1 ≠ q.1) (hsay : Says m [(Str.ofString "typed", .str (txt l) tt)])
    (F : Fr g L s.heap m) (N : News g L s.heap ((cl, listOf vc.toArray nc) :: (cells9 L o1 o2 o3 o4 o5 o6 o7 o8 o9 ++ rest ++ tl)))
    (hQ : ∀ h' tk (a : LexP) tl' vs nS tn, a.Ok tl' → (tl'.map (·.1)).Nodup → (∀ c₀, Made 207 182 16 lamQ c₀ tl → tl' = tl ∧ a.c' = c₀) → SignsAre vs (textOf c3 l) →
      (∀ q ∈ (cl, listOf vc.toArray nc) :: (cells9 L o1 o2 o3 o4 o5 o6 o7 o8 o9 ++ rest), ∀ p ∈ a.led w.params vs nS 1 tn [] 0 ++ tl', p.1 ≠ q.1) → L < a.cS → AllLt a.cS ((cl, listOf vc.toArray nc) :: (cells9 L o1 o2 o3 o4 o5 o6 o7 o8 o9 ++ rest)) →
      Fr g L h' (fun y => if y = Str.ofString "lexer" then some (.ref a.x) else m y) → News g L h' ((a.led w.params vs nS 1 tn [] 0 ++ tl') ++ (cl, listOf vc.toArray nc) :: (cells9 L o1 o2 o3 o4 o5 o6 o7 o8 o9 ++ rest)) → Q .next { s with heap := h', toks := tk }) :
    wpAny (model prog w) A (exec (stmtLaw w.params 6) (envLaw w.params L)) Q (fun _ _ => False) s := by
  have hcLine : cLine = 9900 := rfl
  have hrec : recursionLimit = 1000 := rfl
  simp only [cells9, List.cons_append, List.nil_append] at N
  dsimp only [stmtLaw, envLaw, law222, Option.getD, List.getElem?_cons_succ, List.getElem?_cons_zero]
  have F := Mine.Fr.said F hsay
  iterate 14 walk1
  rw [par12]
  by_cases h12 : c3 / 12 % 2 = 0
  · rw [decide_eq_true h12]
    have eT : textOf c3 l = 34 :: (l ++ [34, 46]) := if_pos h12
    repeat walk1
    refine add_txt (a := [34]) (b := l) (by simp; omega) (fun t1 k1 => ?_)
    iterate 1 walk1
    refine add_txt (a := [34] ++ l) (b := [34, 46]) (by simp; omega) (fun t2 k2 => ?_)
    rw [show ([34] ++ l) ++ [34, 46] = 34 :: (l ++ [34, 46]) by simp]
    repeat walk1
    with_reducible rename Fr _ _ _ _ => F4
    with_reducible rename News _ _ _ _ => N4
    have S0 := fun tx => law_lexer (w := w) (prog := prog) (x := textOf c3 l) (tx := tx) hC1 ht hnd (by rw [eT]; simp; omega)
    rw [eT] at S0
    refine Meets.call ((cl, listOf vc.toArray nc) :: (cells9 L o1 o2 o3 o4 o5 o6 o7 o8 o9 ++ rest)) (S0 _) F4 N4 X T (fun p hp => .tail _ (List.mem_append_right (cells9 L o1 o2 o3 o4 o5 o6 o7 o8 o9 ++ rest) hp)) (fun p hp => ?_) hap hh (by omega) (by omega) ?_
    · rcases List.mem_cons.mp hp with rfl | hp
      · exact .head _
      · rcases List.mem_append.mp hp with hp | hp
        · exact .tail _ (List.mem_append_left (rest ++ tl) hp)
        · exact .tail _ (List.mem_append_right (cells9 L o1 o2 o3 o4 o5 o6 o7 o8 o9) (List.mem_append_left _ hp))
    clear S0
    intro n₁ v l₁ h₂ tk₂ hp F3 N3 p1 p2 p3 p4
    obtain ⟨a, tl', vs, nS, tn, hok, hnd', hsm, hcS, hsg⟩ := hp
    have hA : AllLt a.cS ((cl, listOf vc.toArray nc) :: (cells9 L o1 o2 o3 o4 o5 o6 o7 o8 o9 ++ rest)) := allLt_of fun p hp => Nat.lt_trans (lowAll p3 p hp) hcS
    have hLc : @LT.lt Nat _ L a.cS := Nat.lt_trans p1 hcS
    repeat walk1
    with_reducible rename Fr _ _ _ _ => F7
    with_reducible rename News _ _ _ _ => N7
    have e9 : (fun y => if y = Str.ofString "lexer" then some (Value.ref a.x) else kstB m [(Str.ofString "typed", Value.str (txt l) tt)] y) = fun y => if y = Str.ofString "lexer" then some (Value.ref a.x) else m y := by
      funext y
      rw [kstB_eq hsay fun _ => rfl]
    rw [e9] at F7
    exact hQ _ _ a tl' vs nS tn hok hnd' hsm (by rw [eT]; exact hsg) p4 hLc hA F7 N7
  · rw [decide_eq_false h12]
    have eT : textOf c3 l = l.flatMap (fun c => [92, c]) ++ [32, 46] := if_neg h12
    iterate 15 walk1
    refine comp_str F rfl (by decide) rfl (by decide) rfl ?_
    repeat walk1
    refine ⟨l, tt, _, rfl, hh, by k_asm, by k_asm, Nat.le_trans hll (by decide), fun g' => ?_⟩
    refine comp_inv (n := l.length) (fun k zv news => news = _ ∧ StrsAre zv ((l.take k).map fun c => txt [92, c])) ?_ ?_ l.length 0 [] _ (Nat.zero_add _) ⟨rfl, .nil⟩
    · rintro k zv news v I oI C2 oC2 D2 m₃ h3 tk3 E3 hk ⟨rfl, hzs⟩ ⟨c, u, hc, rfl⟩ hC2 hx2 F4 N4 off2 hne2
      have off20 := off2
      repeat walk1
      have hnext : ((l.take (k + 1)).map fun c => txt [92, c]) = ((l.take k).map fun c => txt [92, c]) ++ [txt ([92] ++ [c])] := by
        rw [List.take_add_one, hc]; simp
      rw [hnext, show txt ([92] ++ [c]) = Str.ofString "\\" ++ txt [c] from (txt_append [92] [c]).symm]
      exact LCg.CompEnd.intro F4 N4 _ (fun p hp => hp) off20 True.intro ⟨rfl, strs_snoc hzs⟩
    · rintro zv news ⟨rfl, hzs⟩
      unfold LCg.FinE
      intro D3 h3 tk3 F4 N4 off2
      rw [List.take_length] at hzs
      repeat walk1
      refine join_rows (b := 2) (f := fun c => [92, c]) (News.isList N4 (.head _)) hzs (fun c _ => by simp) (by omega) (fun t1 k1 => ?_)
      repeat walk1
      have hfl := esc_len l
      refine add_txt (b := [32, 46]) (by rw [hfl]; simp; omega) (fun t2 k2 => ?_)
      repeat walk1
      with_reducible rename Fr _ _ _ _ => F4
      with_reducible rename News _ _ _ _ => N4
      have S0 := fun tx => law_lexer (w := w) (prog := prog) (x := textOf c3 l) (tx := tx) hC1 ht hnd (by rw [eT, List.length_append, hfl]; simp; omega)
      rw [eT] at S0
      refine Meets.call ((cl, listOf vc.toArray nc) :: (cells9 L o1 o2 o3 o4 o5 o6 o7 o8 o9 ++ rest)) (S0 _) F4 N4 X T (fun p hp => .tail _ (.tail _ (List.mem_append_right (cells9 L o1 o2 o3 o4 o5 o6 o7 o8 o9 ++ rest) hp))) (fun p hp => ?_) hap hh (by omega) (by omega) ?_
      · rcases List.mem_cons.mp hp with rfl | hp
        · exact .tail _ (.head _)
        · rcases List.mem_append.mp hp with hp | hp
          · exact .tail _ <| .tail _ (List.mem_append_left (rest ++ tl) hp)
          · exact .tail _ <| .tail _ (List.mem_append_right (cells9 L o1 o2 o3 o4 o5 o6 o7 o8 o9) (List.mem_append_left _ hp))
      clear S0
      intro n₁ v l₁ h₂ tk₂ hp F3 N3 p1 p2 p3 p4
      obtain ⟨a, tl', vs, nS, tn, hok, hnd', hsm, hcS, hsg⟩ := hp
      have hA : AllLt a.cS ((cl, listOf vc.toArray nc) :: (cells9 L o1 o2 o3 o4 o5 o6 o7 o8 o9 ++ rest)) := allLt_of fun p hp => Nat.lt_trans (lowAll p3 p hp) hcS
      have hLc : @LT.lt Nat _ L a.cS := Nat.lt_trans p1 hcS
      repeat walk1
      with_reducible rename Fr _ _ _ _ => F7
      with_reducible rename News _ _ _ _ => N7
      have e9 : (fun y => if y = Str.ofString "lexer" then some (Value.ref a.x) else kstB m [(Str.ofString "typed", Value.str (txt l) tt)] y) = fun y => if y = Str.ofString "lexer" then some (Value.ref a.x) else m y := by
        funext y
        rw [kstB_eq hsay fun _ => rfl]
      rw [e9] at F7
      exact hQ _ _ a tl' vs nS tn hok hnd' hsm (by rw [eT]; exact hsg) p4 hLc hA F7 N7
end
end

noncomputable section
theorem walkOff_C26 : True := by
  w_top off
  exact True.intro
section
variable {A : Around} {s : Shared} {g : Heap} {L : Nat} {m : Str → Option Value} {p : Program} {loose : List Str} {mean : ExcName → Option Value} {mg mb : Str → Option Value} {Q : Flow → Shared → Prop} {E : Value → Shared → Prop}
  {tl rest : List (Addr × Obj)}
set_option maxHeartbeats 2000000 in
theorem law_s7 {a : LexP} {vs : List Value} {l : List Nat} {nS : Nat} {n : Int} {tn : Tok} (ha : a.Ok tl) (hS : SignsAre vs l) (hl : l.length ≤ 10000) (hasc : Asc l) (hh : A.handled = none) (X : (hdK.heap_1 w.params).In g) (T : Top p loose mean mg mb g)
    (hdep : A.depth + 200 < recursionLimit) (hu : A.units + 3000 < cLine) (hap : ∀ q ∈ rest, ∀ p ∈ a.led w.params vs nS n tn [] 0 ++ tl, p.1 ≠ q.1) (hsay : Says m [(Str.ofString "lexer", .ref a.x)])
    (F : Fr g L s.heap m) (N : News g L s.heap ((a.led w.params vs nS n tn [] 0 ++ tl) ++ rest))
    (hQ : ∀ h' tk vs' nS' tn' t, SignsAre vs' (word l).2 → Fr g L h' (fun y => if y = Str.ofString "word" then some (.str (txt (word l).1) t) else m y) →
      News g L h' ((a.led w.params vs' nS' (n + nls l - nls (word l).2) tn' [] 0 ++ tl) ++ rest) → Q .next { s with heap := h', toks := tk }) :
    wpAny (model prog w) A (exec (stmtLaw w.params 7) (envLaw w.params L)) Q (fun _ _ => False) s := by
  have hcLine : cLine = 9900 := rfl
  have hrec : recursionLimit = 1000 := rfl
  have N0 := N
  simp only [LexP.led, List.cons_append, List.nil_append] at N
  dsimp only [stmtLaw, envLaw, law222, Option.getD, List.getElem?_cons_succ, List.getElem?_cons_zero]
  have F := Mine.Fr.said F hsay
  repeat walk1
  with_reducible rename Fr _ _ _ _ => F0
  with_reducible rename News _ _ _ _ => N1
  refine Meets.call rest (get_word (w := w) (prog := prog) ha hS hl hasc) F0 N1 X T (fun p hp => List.mem_append_left _ hp) (fun p hp => List.mem_append_right _ hp) hap hh (by omega) (by omega) ?_
  intro n₁ v l₁ h₂ tk₂ hp F3 N3 p1 p2 p3 p4
  obtain ⟨vs', nS', tn', t, rfl, hS', rfl⟩ := hp
  repeat walk1
  with_reducible rename Fr _ _ _ _ => F7
  with_reducible rename News _ _ _ _ => N7
  have e9 : (fun y => if y = Str.ofString "word" then some (Value.str (txt (word l).1) t) else kstB m [(Str.ofString "lexer", Value.ref a.x)] y) = fun y => if y = Str.ofString "word" then some (Value.str (txt (word l).1) t) else m y := by
    funext y
    rw [kstB_eq hsay fun _ => rfl]
  rw [e9] at F7
  exact hQ _ _ vs' nS' tn' t hS' F7 N7
end
end

noncomputable section
theorem walkOff_C27 : True := by
  w_top off
  exact True.intro
section
variable {A : Around} {s : Shared} {g : Heap} {L : Nat} {m : Str → Option Value} {p : Program} {loose : List Str} {mean : ExcName → Option Value} {mg mb : Str → Option Value} {Q : Flow → Shared → Prop} {E : Value → Shared → Prop}
  {tl rest : List (Addr × Obj)}
set_option maxHeartbeats 2000000 in
theorem law_s8 {a : LexP} {vs : List Value} {l l' : List Nat} {nS : Nat} {tn tw tt : Tok} (hh : A.handled = none) (X : (hdK.heap_1 w.params).In g) (T : Top p loose mean mg mb g)
    (hdep : A.depth + 200 < recursionLimit) (hu : A.units + 3000 < cLine) (hsay : Says m [(Str.ofString "word", .str (txt l) tw), (Str.ofString "typed", .str (txt l) tt), (Str.ofString "lexer", .ref a.x)])
    (F : Fr g L s.heap m) (N : News g L s.heap ((a.led w.params vs nS (1 + nls l) tn [] 0 ++ tl) ++ rest))
    (hQ : ∀ h' tk, Fr g L h' m → News g L h' ((a.led w.params vs nS (1 + nls l) tn [] 0 ++ tl) ++ rest) → Q .next { s with heap := h', toks := tk }) :
    wpAny (model prog w) A (exec (stmtLaw w.params 8) (envLaw w.params L)) Q (fun _ _ => False) s := by
  have hcLine : cLine = 9900 := rfl
  have hrec : recursionLimit = 1000 := rfl
  have hct : Txt.count (txt l) (Str.ofString "\n") = nls l := count_txt 10 l
  have N0 := N
  simp only [LexP.led, List.cons_append, List.nil_append] at N
  dsimp only [stmtLaw, envLaw, law222, Option.getD, List.getElem?_cons_succ, List.getElem?_cons_zero]
  have F := Mine.Fr.said F hsay
  iterate 6 walk1
  rw [show (txt l != txt l) = false from bne_self_eq_false _]
  iterate 19 walk1
  rw [hct, show (1 + nls l != 1 + nls l) = false from bne_self_eq_false _]
  repeat walk1
  with_reducible rename Fr _ _ _ _ => F1
  exact hQ _ _ (Mine.Fr.unsaid F1 hsay) N0
set_option maxHeartbeats 2000000 in
theorem law_s9 {a : LexP} {vs : List Value} {nS : Nat} {n : Int} {tn : Tok} {v₀ : Value} (ha : a.Ok tl) (hh : A.handled = none) (X : (hdK.heap_1 w.params).In g) (T : Top p loose mean mg mb g)
    (hdep : A.depth + 200 < recursionLimit) (hu : A.units + 3000 < cLine) (hap : ∀ q ∈ rest, ∀ p ∈ a.led w.params vs nS n tn [] 0 ++ tl, p.1 ≠ q.1) (hsay : Says m [(Str.ofString "lexer", .ref a.x), (Str.ofString "word", v₀)])
    (F : Fr g L s.heap m) (N : News g L s.heap ((a.led w.params vs nS n tn [] 0 ++ tl) ++ rest))
    (hQ : ∀ h' tk np, Fr g L h' m → News g L h' ((a.led w.params vs nS n tn [v₀] np ++ tl) ++ rest) → Q .next { s with heap := h', toks := tk }) :
    wpAny (model prog w) A (exec (stmtLaw w.params 9) (envLaw w.params L)) Q (fun _ _ => False) s := by
  have hcLine : cLine = 9900 := rfl
  have hrec : recursionLimit = 1000 := rfl
  have N0 := N
  simp only [LexP.led, List.cons_append, List.nil_append] at N
  dsimp only [stmtLaw, envLaw, law222, Option.getD, List.getElem?_cons_succ, List.getElem?_cons_zero]
  have F := Mine.Fr.said F hsay
  repeat walk1
  with_reducible rename Fr _ _ _ _ => F1
  refine Meets.call rest (push_token (w := w) (prog := prog) (ps := []) ha (Nat.zero_le _)) F1 N0 X T (fun p hp => List.mem_append_left _ hp) (fun p hp => List.mem_append_right _ hp) hap hh (by omega) (by omega) ?_
  intro n₁ v l₁ h₂ tk₂ hp F3 N3 p1 p2 p3 p4
  obtain ⟨np', rfl, rfl⟩ := hp
  repeat walk1
  exact hQ _ _ np' (Mine.Fr.unsaid F3 hsay) N3
end
end

noncomputable section
theorem walkOff_C28 : True := by
  w_top off
  exact True.intro
section
variable {A : Around} {s : Shared} {g : Heap} {L : Nat} {m : Str → Option Value} {p : Program} {loose : List Str} {mean : ExcName → Option Value} {mg mb : Str → Option Value} {Q : Flow → Shared → Prop} {E : Value → Shared → Prop}
  {o1 o2 o3 o4 o5 o6 o7 o8 o9 : Obj} {lx : List (Addr × Obj)}
set_option maxHeartbeats 2000000 in
theorem law_s10 {rows : Nat} {tr : Tok} (hr : rows = 2 ∨ rows = 3) (hh : A.handled = none) (X : (hdK.heap_1 w.params).In g) (T : Top p loose mean mg mb g)
    (hdep : A.depth + 200 < recursionLimit) (hu : A.units + 3000 < cLine) {c5 : Option Value} (d5 : o5.data = .cell c5) (hx : ∀ p ∈ lx, p.1 ≠ L + 1 + 1 + 1 + 1 + 1) (hsay : Says m [(Str.ofString "rows", .int (rows : Int) tr)])
    (F : Fr g L s.heap m) (N : News g L s.heap (cells9 L o1 o2 o3 o4 o5 o6 o7 o8 o9 ++ lx))
    (hQ : ∀ o5' h' tk t, cellV o5' (.int ((2 ^ rows : Nat) : Int) t) → Fr g L h' m → News g L h' (cells9 L o1 o2 o3 o4 o5' o6 o7 o8 o9 ++ lx) → Q .next { s with heap := h', toks := tk }) :
    wpAny (model prog w) A (exec (stmtLaw w.params 10) (envLaw w.params L)) Q (fun _ _ => False) s := by
  have hcLine : cLine = 9900 := rfl
  have hrec : recursionLimit = 1000 := rfl
  simp only [cells9, List.cons_append, List.nil_append] at N
  dsimp only [stmtLaw, envLaw, law222, Option.getD, List.getElem?_cons_succ, List.getElem?_cons_zero]
  have F := Mine.Fr.said F hsay
  rcases hr with rfl | rfl
  · repeat walk1
    rename_i d7
    with_reducible rename Fr _ _ _ _ => F1
    with_reducible rename News _ _ _ _ => N1
    exact hQ _ _ _ _ d7 (Mine.Fr.unsaid F1 hsay) N1
  · repeat walk1
    rename_i d7
    with_reducible rename Fr _ _ _ _ => F1
    with_reducible rename News _ _ _ _ => N1
    exact hQ _ _ _ _ d7 (Mine.Fr.unsaid F1 hsay) N1
end
end

noncomputable section
theorem walkOff_C29 : True := by
  w_top off
  exact True.intro
section
variable {A : Around} {s : Shared} {g : Heap} {L : Nat} {m : Str → Option Value} {p : Program} {loose : List Str} {mean : ExcName → Option Value} {mg mb : Str → Option Value} {Q : Flow → Shared → Prop} {E : Value → Shared → Prop}
  {o1 o2 o3 o4 o5 o6 o7 o8 o9 : Obj} {lx : List (Addr × Obj)}
set_option maxHeartbeats 2000000 in
theorem law_s11 {zl nz dl nd : Nat} {ds zs : List Nat} {vz vd : List Value} (hD : IntsAre vd (asInts ds)) (hZ : IntsAre vz (asInts zs)) (hzd : zs.length = ds.length) (hzl3 : zs.length ≤ 3) (hz1 : ∀ z ∈ zs, 0 < z ∧ z ≤ 10) (hd1 : ∀ d ∈ ds, d ≤ 1000) (hh : A.handled = none) (X : (hdK.heap_1 w.params).In g) (T : Top p loose mean mg mb g)
    (hdep : A.depth + 200 < recursionLimit) (hu : A.units + 3000 < cLine) (d3 : cellV o3 (.ref zl)) (d4 : cellV o4 (.ref dl)) {c6 : Option Value} (d6 : o6.data = .cell c6)
    (hdl : LCg.Off1 dl (cells9 L o1 o2 o3 o4 o5 o6 o7 o8 o9)) (hzl : LCg.Off1 zl ((dl, listOf vd.toArray nd) :: cells9 L o1 o2 o3 o4 o5 o6 o7 o8 o9)) (hx6 : ∀ p ∈ lx, p.1 ≠ L + 1 + 1 + 1 + 1 + 1 + 1)
    (hxz : ∀ p ∈ lx, p.1 ≠ zl)
    (F : Fr g L s.heap m) (N : News g L s.heap ((zl, listOf vz.toArray nz) :: (dl, listOf vd.toArray nd) :: (cells9 L o1 o2 o3 o4 o5 o6 o7 o8 o9 ++ lx)))
    (hQ : ∀ (D : Nat) ys o6' h' tk, IntsAre ys (colsOf zs ds zs.length) → cellV o6' (.ref D) → LCg.Off1 D ((zl, listOf vz.toArray nz) :: (dl, listOf vd.toArray nd) :: (cells9 L o1 o2 o3 o4 o5 o6' o7 o8 o9 ++ lx)) → Fr g L h' m → News g L h' ((D, listOf ys.toArray ys.length) :: (zl, listOf vz.toArray nz) :: (dl, listOf vd.toArray nd) :: (cells9 L o1 o2 o3 o4 o5 o6' o7 o8 o9 ++ lx)) → Q .next { s with heap := h', toks := tk }) :
    wpAny (model prog w) A (exec (stmtLaw w.params 11) (envLaw w.params L)) Q (fun _ _ => False) s := by
  have hcLine : cLine = 9900 := rfl
  have hrec : recursionLimit = 1000 := rfl
  have hzl0 := hzl
  simp only [cells9, LCg.Off1, List.cons_append, List.nil_append, and_true] at hdl hzl
  simp only [cells9, List.cons_append, List.nil_append] at N
  dsimp only [stmtLaw, envLaw, law222, Option.getD, List.getElem?_cons_succ, List.getElem?_cons_zero]
  refine wpAny_Assign_Name ?_ (by kernel_rfl)
  iterate 4 walk1
  refine LCg.ListComp_U F rfl (by decide) rfl (by decide) rfl ?_
  repeat walk1
  refine LCg.CompSrc.ledger hh F N (.tail _ (.head _)) (Nat.le_trans (show vd.toArray.size ≤ 3 by simp [hD.length]; omega) (by decide)) (fun g' => ?_)
  have hdn : vd.toArray.size = ds.length := by simp [hD.length]
  rw [hdn]
  refine comp_inv (n := ds.length) (fun k zv news => news = _ ∧ StrsAre zv ((ds.take k).map fun d => txt (dotsOf d))) ?_ ?_ ds.length 0 [] _ (Nat.zero_add _) ⟨rfl, .nil⟩
  · rintro k zv news v I oI C2 oC2 D2 m₃ h3 tk3 E3 hk ⟨rfl, hzs⟩ hv hC2 hx2 F4 N4 off2 hne2
    refine gen_K fun KK hKK => ?_
    have off20 := off2
    have hck : ds[k]? = some ds[k] := List.getElem?_eq_getElem hk
    obtain ⟨tv, hv2⟩ := hD.get k _ (show (asInts ds)[k]? = some ((ds[k] : Nat) : Int) by rw [List.getElem?_map, hck]; rfl)
    have ev : v = .int ((ds[k] : Nat) : Int) tv := by
      have : vd[k]? = some v := by simpa using hv
      rw [this] at hv2; exact Option.some.inj hv2
    subst ev
    have hnext : ((ds.take (k + 1)).map fun d => txt (dotsOf d)) = ((ds.take k).map fun d => txt (dotsOf d)) ++ [txt (dotsOf ds[k])] := by
      rw [List.take_add_one, hck, List.map_append]; rfl
    rw [hnext] at hKK
    have hdb := hd1 ds[k] (List.getElem_mem hk)
    generalize ds[k] = d at *
    repeat walk1
    rw [show Txt.mul (Str.ofString ".") (d : Int) = txt (dotsOf d) from mul_sign 46 d]
    with_reducible rename Fr _ _ _ _ => F5
    with_reducible rename News _ _ _ _ => N5
    exact hKK _ _ (LCg.CompEnd.intro F5 N5 _ (fun p hp => hp) off20 (.inr ⟨_, .tail _ (.head _), rfl, _, rfl⟩) ⟨rfl, strs_snoc hzs⟩)
  · rintro zv news ⟨rfl, hzs⟩
    unfold LCg.FinE
    intro D3 h3 tk3 F4 N4 off2
    rw [List.take_length] at hzs
    have off20 := off2
    have offT : ∀ p ∈ lx, p.1 ≠ D3 := fun p hp => Off1.mem off2 p (by repeat (first | exact hp | exact List.mem_append_left _ hp | refine List.mem_append_right _ ?_ | refine List.mem_cons_of_mem _ ?_))
    simp only [LCg.Off1, and_true] at off2
    repeat walk1
    refine Meets.call ((dl, listOf vd.toArray nd) :: (cells9 L o1 o2 o3 o4 o5 o6 o7 o8 o9 ++ lx)) (law_columns (w := w) (prog := prog) (more := []) (ds := ds) (zs := zs) (nl := zv.length) (nz := nz) (by rw [List.append_nil]; exact hzs) hZ hzd hzl3 (Ne.symm off20.1) hz1 hd1) F4 N4 X T (fun p hp => ?_) (fun p hp => .tail _ (.tail _ hp)) ?_ hh (by omega) (by omega) ?_
    · rcases List.mem_cons.mp hp with rfl | hp
      · exact .head _
      · rw [List.mem_singleton.mp hp]; exact .tail _ (.head _)
    · intro q hq p hp
      rcases List.mem_cons.mp hp with rfl | hp
      · exact Ne.symm (Off1.mem off20 q (.tail _ hq))
      · rw [List.mem_singleton.mp hp]
        rcases List.mem_cons.mp hq with rfl | hq
        · exact Ne.symm hzl0.1
        · rcases List.mem_append.mp hq with hq | hq
          · exact Ne.symm (Off1.mem hzl0.2 q hq)
          · exact Ne.symm (hxz q hq)
    intro n₁ v l₁ h₂ tk₂ hp F3 N3 p1 p2 p3 p4
    obtain ⟨D, ys, rfl, hys, ⟨hne1, hne2⟩, rfl⟩ := hp
    clear off2 offT
    have offR := fun q hq => Ne.symm (p4 q hq (D, listOf ys.toArray ys.length) (.head _))
    have offD : LCg.Off1 D ((zl, listOf vz.toArray nz) :: (dl, listOf vd.toArray nd) :: (cells9 L o1 o2 o3 o4 o5 o6 o7 o8 o9 ++ lx)) := ⟨hne2, Off1.of offR⟩
    have N3 : News g L h₂ ((D, listOf ys.toArray ys.length) :: (zl, listOf vz.toArray nz) :: (dl, listOf vd.toArray nd) :: (cells9 L o1 o2 o3 o4 o5 o6 o7 o8 o9 ++ lx)) := fun p hp => N3 p (by
      rcases List.mem_cons.mp hp with rfl | hp
      · exact .head _
      · exact .tail _ (.tail _ hp))
    have offD0 := offD
    have offT : ∀ p ∈ lx, p.1 ≠ D := fun p hp => Off1.mem offD p (by repeat (first | exact hp | exact List.mem_append_left _ hp | refine List.mem_append_right _ ?_ | refine List.mem_cons_of_mem _ ?_))
    simp only [LCg.Off1, List.cons_append, List.nil_append, and_true] at offD
    simp only [List.cons_append, List.nil_append] at N3
    have e1 : dl ≠ L + 1 + 1 + 1 + 1 + 1 + 1 := Ne.symm hdl.2.2.2.1
    have e2 : zl ≠ L + 1 + 1 + 1 + 1 + 1 + 1 := Ne.symm hzl.2.2.2.2.1
    have e3 : D ≠ L + 1 + 1 + 1 + 1 + 1 + 1 := Ne.symm offD.2.2.2.2.2.1
    clear N4 F4 N
    repeat walk1
    rename_i d7
    with_reducible rename Fr _ _ _ _ => F7
    with_reducible rename News _ _ _ _ => N7
    exact hQ D ys _ _ _ hys d7 offD0 F7 N7
end
end

noncomputable section
theorem walkOff_C30 : True := by
  w_top off
  exact True.intro
section
variable {A : Around} {s : Shared} {g : Heap} {L : Nat} {m : Str → Option Value} {p : Program} {loose : List Str} {mean : ExcName → Option Value} {mg mb : Str → Option Value} {Q : Flow → Shared → Prop} {E : Value → Shared → Prop}
  {o1 o2 o3 o4 o5 o6 o7 o8 o9 : Obj} {lx : List (Addr × Obj)}
theorem colsOf_succ {zs ds : List Nat} {k : Nat} (hz : k < zs.length) (hd : k < ds.length) : colsOf zs ds (k + 1) = colsOf zs ds k ++ [colOf zs[k] ds[k]] := by
  unfold colsOf
  rw [List.range_succ, List.map_append]
  simp [List.getD_eq_getElem?_getD, hd, hz]
theorem colOf_int (z d : Nat) : (z : Int) * ((d : Int).fdiv (z : Int) + 1) = colOf z d := by
  rw [Int.fdiv_eq_ediv_of_nonneg _ (by omega)]
  unfold colOf
  push_cast
  rfl
set_option maxHeartbeats 2000000 in
theorem law_s12 {ql zl nz dl nd nq rows : Nat} {tr : Tok} {ds zs : List Nat} {vz vd vq : List Value} (hD : IntsAre vd (asInts ds)) (hZ : IntsAre vz (asInts zs)) (hzd : zs.length = ds.length) (hzr : zs.length = rows) (hr3 : rows ≤ 3) (hz1 : ∀ z ∈ zs, 0 < z ∧ z ≤ 10) (hd1 : ∀ d ∈ ds, d ≤ 1000) (hq : IntsAre vq (colsOf zs ds rows)) (hh : A.handled = none) (X : (hdK.heap_1 w.params).In g) (T : Top p loose mean mg mb g)
    (hdep : A.depth + 200 < recursionLimit) (hu : A.units + 3000 < cLine) (d3 : cellV o3 (.ref zl)) (d4 : cellV o4 (.ref dl)) (d6 : cellV o6 (.ref ql)) (hsay : Says m [(Str.ofString "rows", .int (rows : Int) tr)])
    (F : Fr g L s.heap m) (N : News g L s.heap ((ql, listOf vq.toArray nq) :: (zl, listOf vz.toArray nz) :: (dl, listOf vd.toArray nd) :: (cells9 L o1 o2 o3 o4 o5 o6 o7 o8 o9 ++ lx)))
    (hQ : ∀ h' tk, Fr g L h' m → News g L h' ((ql, listOf vq.toArray nq) :: (zl, listOf vz.toArray nz) :: (dl, listOf vd.toArray nd) :: (cells9 L o1 o2 o3 o4 o5 o6 o7 o8 o9 ++ lx)) → Q .next { s with heap := h', toks := tk }) :
    wpAny (model prog w) A (exec (stmtLaw w.params 12) (envLaw w.params L)) Q (fun _ _ => False) s := by
  have hcLine : cLine = 9900 := rfl
  have hrec : recursionLimit = 1000 := rfl
  simp only [cells9, List.cons_append, List.nil_append] at N
  have hzl2 : (asInts zs).length = zs.length := by simp
  have hdl2 : (asInts ds).length = ds.length := by simp
  dsimp only [stmtLaw, envLaw, law222, Option.getD, List.getElem?_cons_succ, List.getElem?_cons_zero]
  have F := Mine.Fr.said F hsay
  iterate 3 walk1
  refine LCg.ListComp_U F rfl (by decide) rfl (by decide) rfl ?_
  repeat walk1
  with_reducible rename IsRange _ _ _ _ _ _ _ _ => hR
  with_reducible rename Fr _ _ _ _ => F2
  with_reducible rename News _ _ _ _ => N2
  refine LCg.CompSrc.range (n := rows) hh F2 N2 hR (small_one (by omega) (by omega) (by omega) (by omega)) (by rw [rangeSize_one]; split <;> omega) (Nat.le_trans hr3 (by decide)) (fun g' => ?_)
  refine comp_inv (n := rows) (fun k zv news => news = _ ∧ IntsAre zv (colsOf zs ds k)) ?_ ?_ rows 0 [] _ (Nat.zero_add _) ⟨rfl, .nil⟩
  · rintro k zv news v I oI C2 oC2 D2 m₃ h3 tk3 E3 hk ⟨rfl, hzs⟩ ⟨tv, rfl⟩ hC2 hx2 F4 N4 off2 hne2
    have off20 := off2
    simp only [LCg.Off3, and_true] at off2
    have hkz : k < zs.length := by omega
    have hkd : k < ds.length := by omega
    have hk3 : (0 : Int) + (k : Int) < (zs.length : Int) := by omega
    have hk4 : (0 : Int) + (k : Int) < (ds.length : Int) := by omega
    have hk5 : (0 : Int) + (k : Int) < ((asInts zs).length : Int) := by omega
    have hk6 : (0 : Int) + (k : Int) < ((asInts ds).length : Int) := by omega
    repeat walk1
    have e0 : ((0 : Int) + (k : Int)).toNat = k := by omega
    obtain ⟨hz0, hz9⟩ := hz1 _ (List.getElem_mem hkz)
    have hd0 := hd1 _ (List.getElem_mem hkd)
    rw [colsOf_succ hkz hkd, e0, asInts_getD hkz, asInts_getD hkd]
    generalize zs[k] = z at *
    generalize ds[k] = d at *
    have hzz : (z : Int) ≠ 0 := by omega
    rw [← colOf_int]
    have hfd : (d : Int).fdiv (z : Int) ≤ 1000 := by
      rw [Int.fdiv_eq_ediv_of_nonneg _ (by omega)]
      exact Int.le_trans (Int.ediv_le_self _ (by omega)) (by omega)
    repeat walk1
    with_reducible rename Fr _ _ _ _ => F5
    with_reducible rename News _ _ _ _ => N5
    exact LCg.CompEnd.intro F5 N5 _ (fun p hp => hp) off20 True.intro ⟨rfl, snocI hzs⟩
  · rintro zv news ⟨rfl, hzs⟩
    unfold LCg.FinE
    intro D3 h3 tk3 F4 N4 off2
    have off20 := off2
    have offT : ∀ p ∈ lx, p.1 ≠ D3 := fun p hp => Off1.mem off2 p (by repeat (first | exact hp | exact List.mem_append_left _ hp | refine List.mem_append_right _ ?_ | refine List.mem_cons_of_mem _ ?_))
    simp only [LCg.Off1, and_true] at off2
    repeat walk1
    with_reducible rename Fr _ _ _ _ => F7
    with_reducible rename News _ _ _ _ => N7
    exact hQ _ _ (Mine.Fr.unsaid F7 hsay) (fun p hp => N7 p (.tail _ hp))
end
end

noncomputable section
theorem walkOff_C31 : True := by
  w_top off
  exact True.intro
noncomputable def loopBody : Stmt → List Stmt
  | .For _ _ b _ _ => b
  | _ => []
noncomputable def body14 (P : Params) : { b : List Stmt // loopBody (stmtLaw P 14) = b } := ⟨_, rfl⟩
noncomputable abbrev turnStmt (P : Params) (i : Nat) : Stmt := ((body14 P).1[i]?).getD (.Pass default)
section
variable {A : Around} {s : Shared} {g : Heap} {L : Nat} {m : Str → Option Value} {p : Program} {loose : List Str} {mean : ExcName → Option Value} {mg mb : Str → Option Value} {Q : Flow → Shared → Prop} {E : Value → Shared → Prop}
  {tl rest : List (Addr × Obj)}
set_option maxHeartbeats 2000000 in
theorem turn_a {a : LexP} {vs : List Value} {l : List Nat} {nS np : Nat} {n : Int} {tn t0 : Tok} (ha : a.Ok tl) (hl : l.length ≤ 10000) (hh : A.handled = none) (X : (hdK.heap_1 w.params).In g) (T : Top p loose mean mg mb g)
    (hdep : A.depth + 200 < recursionLimit) (hu : A.units + 3000 < cLine) (hap : ∀ q ∈ rest, ∀ p ∈ a.led w.params vs nS n tn [.str (txt l) t0] np ++ tl, p.1 ≠ q.1) (hsay : Says m [(Str.ofString "lexer", .ref a.x)])
    (F : Fr g L s.heap m) (N : News g L s.heap ((a.led w.params vs nS n tn [.str (txt l) t0] np ++ tl) ++ rest))
    (hQ : ∀ h' tk t np, Fr g L h' (fun y => if y = Str.ofString "mail" then some (.str (txt (quote l)) t) else m y) →
      News g L h' ((a.led w.params vs nS n tn [] np ++ tl) ++ rest) → Q .next { s with heap := h', toks := tk }) :
    wpAny (model prog w) A (exec (turnStmt w.params 0) (envLaw w.params L)) Q E s := by
  have hcLine : cLine = 9900 := rfl
  have hrec : recursionLimit = 1000 := rfl
  have N0 := N
  simp only [LexP.led, List.cons_append, List.nil_append] at N
  dsimp only [turnStmt, body14, loopBody, stmtLaw, envLaw, law222, Option.getD, List.getElem?_cons_succ, List.getElem?_cons_zero]
  have F := Mine.Fr.said F hsay
  repeat walk1
  with_reducible rename Fr _ _ _ _ => F0
  refine Meets.call rest (get_pushed (w := w) (prog := prog) (ps := []) ha (Nat.zero_le _)) F0 N0 X T (fun p hp => List.mem_append_left _ hp) (fun p hp => List.mem_append_right _ hp) hap hh (by omega) (by omega) ?_
  intro n₁ v l₁ h₂ tk₂ hp F3 N3 p1 p2 p3 p4
  obtain ⟨np', rfl, rfl⟩ := hp
  repeat walk1
  have S0 := fun t => quotedata (w := w) (prog := prog) (l := l) (t := t) hl
  refine Meets.call ((a.led w.params vs nS n tn [] np' ++ tl) ++ rest) (S0 _) F3 N3 X T (fun p hp => nomatch hp) (fun p hp => hp) (fun q hq p hp => nomatch hp) hh (by omega) (by omega) ?_
  intro n₂ v l₁ h₃ tk₃ hp F5 N5 q1 q2 q3 q4
  obtain ⟨t, rfl, rfl⟩ := hp
  repeat walk1
  with_reducible rename Fr _ _ _ _ => F7
  with_reducible rename News _ _ _ _ => N7
  have e9 : (fun y => if y = Str.ofString "mail" then some (Value.str (txt (quote l)) t) else kstB m [(Str.ofString "lexer", Value.ref a.x)] y) = fun y => if y = Str.ofString "mail" then some (Value.str (txt (quote l)) t) else m y := by
    funext y
    rw [kstB_eq hsay fun _ => rfl]
  rw [e9] at F7
  exact hQ _ _ t np' F7 N7
set_option maxHeartbeats 2000000 in
theorem turn_b {a : LexP} {vs : List Value} {nS np : Nat} {n : Int} {tn : Tok} {v₀ : Value} (ha : a.Ok tl) (hh : A.handled = none) (X : (hdK.heap_1 w.params).In g) (T : Top p loose mean mg mb g)
    (hdep : A.depth + 200 < recursionLimit) (hu : A.units + 3000 < cLine) (hap : ∀ q ∈ rest, ∀ p ∈ a.led w.params vs nS n tn [] np ++ tl, p.1 ≠ q.1) (hsay : Says m [(Str.ofString "lexer", .ref a.x), (Str.ofString "mail", v₀)])
    (F : Fr g L s.heap m) (N : News g L s.heap ((a.led w.params vs nS n tn [] np ++ tl) ++ rest))
    (hQ : ∀ h' tk np, Fr g L h' m → News g L h' ((a.led w.params vs nS n tn [v₀] np ++ tl) ++ rest) → Q .next { s with heap := h', toks := tk }) :
    wpAny (model prog w) A (exec (turnStmt w.params 1) (envLaw w.params L)) Q E s := by
  have hcLine : cLine = 9900 := rfl
  have hrec : recursionLimit = 1000 := rfl
  have N0 := N
  simp only [LexP.led, List.cons_append, List.nil_append] at N
  dsimp only [turnStmt, body14, loopBody, stmtLaw, envLaw, law222, Option.getD, List.getElem?_cons_succ, List.getElem?_cons_zero]
  have F := Mine.Fr.said F hsay
  repeat walk1
  with_reducible rename Fr _ _ _ _ => F1
  refine Meets.call rest (push_token (w := w) (prog := prog) (ps := []) ha (Nat.zero_le _)) F1 N0 X T (fun p hp => List.mem_append_left _ hp) (fun p hp => List.mem_append_right _ hp) hap hh (by omega) (by omega) ?_
  intro n₁ v l₁ h₂ tk₂ hp F3 N3 p1 p2 p3 p4
  obtain ⟨np', rfl, rfl⟩ := hp
  repeat walk1
  exact hQ _ _ np' (Mine.Fr.unsaid F3 hsay) N3
end
end

noncomputable section
theorem walkOff_C32 : True := by
  w_top off
  exact True.intro
section
variable {A : Around} {s : Shared} {g : Heap} {L : Nat} {m : Str → Option Value} {p : Program} {loose : List Str} {mean : ExcName → Option Value} {mg mb : Str → Option Value} {Q : Flow → Shared → Prop} {E : Value → Shared → Prop}
  {o1 o2 o3 o4 o5 o6 o7 o8 o9 : Obj} {lx : List (Addr × Obj)}
set_option maxHeartbeats 2000000 in
theorem turn_c {dl nd t : Nat} {tu tm : Tok} {ds : List Nat} {vd : List Value} (hD : IntsAre vd (asInts ds)) (hd3 : ds.length ≤ 3) (hd1 : ∀ d ∈ ds, d ≤ 1000) (ht : t ≤ 100) (hh : A.handled = none) (X : (hdK.heap_1 w.params).In g) (T : Top p loose mean mg mb g)
    (hdep : A.depth + 200 < recursionLimit) (hu : A.units + 3000 < cLine) (d4 : cellV o4 (.ref dl)) (d7 : cellV o7 (.int (t : Int) tu)) (hsay : Says m [(Str.ofString "mail", .str (txt (mailOf ds t)) tm)])
    (F : Fr g L s.heap m) (N : News g L s.heap ((dl, listOf vd.toArray nd) :: (cells9 L o1 o2 o3 o4 o5 o6 o7 o8 o9 ++ lx)))
    (hQ : ∀ h' tk, Fr g L h' m → News g L h' ((dl, listOf vd.toArray nd) :: (cells9 L o1 o2 o3 o4 o5 o6 o7 o8 o9 ++ lx)) → Q .next { s with heap := h', toks := tk }) :
    wpAny (model prog w) A (exec (turnStmt w.params 2) (envLaw w.params L)) Q E s := by
  have hcLine : cLine = 9900 := rfl
  have hrec : recursionLimit = 1000 := rfl
  simp only [cells9, List.cons_append, List.nil_append] at N
  dsimp only [turnStmt, body14, loopBody, stmtLaw, envLaw, law222, Option.getD, List.getElem?_cons_succ, List.getElem?_cons_zero]
  have F := Mine.Fr.said F hsay
  iterate 8 walk1
  refine LCg.ListComp_U F rfl (by decide) rfl (by decide) rfl ?_
  repeat walk1
  refine LCg.CompSrc.ledger hh F N (.head _) (Nat.le_trans (show vd.toArray.size ≤ 3 by simp [hD.length]; omega) (by decide)) (fun g' => ?_)
  have hdn : vd.toArray.size = ds.length := by simp [hD.length]
  rw [hdn]
  refine comp_inv (n := ds.length) (fun k zv news => news = _ ∧ StrsAre zv ((ds.take k).map fun d => txt (rep (d + t) ++ [13, 10]))) ?_ ?_ ds.length 0 [] _ (Nat.zero_add _) ⟨rfl, .nil⟩
  · rintro k zv news v I oI C2 oC2 D2 m₃ h3 tk3 E3 hk ⟨rfl, hzs⟩ hv hC2 hx2 F4 N4 off2 hne2
    refine gen_K fun KK hKK => ?_
    have off20 := off2
    have hck : ds[k]? = some ds[k] := List.getElem?_eq_getElem hk
    obtain ⟨tv, hv2⟩ := hD.get k _ (show (asInts ds)[k]? = some ((ds[k] : Nat) : Int) by rw [List.getElem?_map, hck]; rfl)
    have ev : v = .int ((ds[k] : Nat) : Int) tv := by
      have : vd[k]? = some v := by simpa using hv
      rw [this] at hv2; exact Option.some.inj hv2
    subst ev
    have hnext : ((ds.take (k + 1)).map fun d => txt (rep (d + t) ++ [13, 10])) = ((ds.take k).map fun d => txt (rep (d + t) ++ [13, 10])) ++ [txt (rep (ds[k] + t) ++ [13, 10])] := by
      rw [List.take_add_one, hck, List.map_append]; rfl
    rw [hnext] at hKK
    have hdb := hd1 ds[k] (List.getElem_mem hk)
    generalize ds[k] = d at *
    repeat walk1
    have em : Txt.mul (Str.ofString ".") ((d : Int) + (t : Int)) ++ Str.ofString "\r\n" = txt (rep (d + t) ++ [13, 10]) := by
      rw [← Int.natCast_add, show Txt.mul (Str.ofString ".") ((d + t : Nat) : Int) = txt (dotsOf (d + t)) from mul_sign 46 (d + t)]
      exact txt_append (dotsOf (d + t)) [13, 10]
    rw [em]
    with_reducible rename Fr _ _ _ _ => F5
    with_reducible rename News _ _ _ _ => N5
    exact hKK _ _ (LCg.CompEnd.intro F5 N5 _ (fun p hp => hp) off20 (.inr ⟨_, .head _, rfl, _, rfl⟩) ⟨rfl, strs_snoc hzs⟩)
  · rintro zv news ⟨rfl, hzs⟩
    unfold LCg.FinE
    intro D3 h3 tk3 F4 N4 off2
    rw [List.take_length] at hzs
    repeat walk1
    refine join_rows (b := 2000) (f := fun d => rep (d + t) ++ [13, 10]) (News.isList N4 (.head _)) hzs (fun d hd => by have := hd1 d hd; simp; omega) (by omega) (fun t1 k1 => ?_)
    iterate 1 walk1
    rw [show (txt (mailOf ds t) != txt (ds.flatMap fun d => rep (d + t) ++ [13, 10])) = false from bne_self_eq_false _]
    repeat walk1
    with_reducible rename Fr _ _ _ _ => F7
    with_reducible rename News _ _ _ _ => N7
    exact hQ _ _ (Mine.Fr.unsaid F7 hsay) (fun p hp => N7 p (.tail _ hp))
end
end

noncomputable section
theorem walkOff_C33 : True := by
  w_top off
  exact True.intro
section
variable {A : Around} {s : Shared} {g : Heap} {L : Nat} {m : Str → Option Value} {p : Program} {loose : List Str} {mean : ExcName → Option Value} {mg mb : Str → Option Value} {Q : Flow → Shared → Prop} {E : Value → Shared → Prop}
  {o1 o2 o3 o4 o5 o6 o7 o8 o9 : Obj} {lx : List (Addr × Obj)}
theorem split_mail (ds : List Nat) (t : Nat) (hne : ds ≠ []) : Txt.split (txt (mailOf ds t)) (Str.ofString "\r\n") = (ds.map (· + t)).map (fun d => txt (dotsOf d)) ++ [txt []] := by
  have h := split_rows (ds.map fun d => rep (d + t)) (by simpa using hne) (fun p hp => by
    obtain ⟨d, _, rfl⟩ := List.mem_map.mp hp
    intro h13
    exact absurd (List.eq_of_mem_replicate h13) (by decide))
  rw [List.flatMap_map] at h
  rw [List.map_map] at h ⊢
  exact h
theorem mailOf_len (ds : List Nat) (t : Nat) (hd1 : ∀ d ∈ ds, d ≤ 1000) (ht : t ≤ 100) : (mailOf ds t).length ≤ 1200 * ds.length := by
  induction ds with
  | nil => exact Nat.zero_le _
  | cons d ds ih =>
    have := ih fun q hq => hd1 q (List.mem_cons_of_mem _ hq)
    have := hd1 d (List.mem_cons_self ..)
    rw [mailOf_cons, List.length_append, List.length_replicate]
    simp only [List.length_cons]
    omega
set_option maxHeartbeats 2000000 in
theorem turn_d {zl nz t : Nat} {tm : Tok} {ds zs : List Nat} {vz : List Value} (hZ : IntsAre vz (asInts zs)) (hzd : zs.length = ds.length) (hne : ds ≠ []) (hzl3 : zs.length ≤ 3) (hz1 : ∀ z ∈ zs, 0 < z ∧ z ≤ 10) (hd1 : ∀ d ∈ ds, d ≤ 100) (ht : t ≤ 100) (hh : A.handled = none) (X : (hdK.heap_1 w.params).In g) (T : Top p loose mean mg mb g)
    (hdep : A.depth + 200 < recursionLimit) (hu : A.units + 3000 < cLine) (d3 : cellV o3 (.ref zl)) {c8 : Option Value} (d8 : o8.data = .cell c8)
    (hzl : LCg.Off1 zl (cells9 L o1 o2 o3 o4 o5 o6 o7 o8 o9)) (hx8 : ∀ p ∈ lx, p.1 ≠ L + 1 + 1 + 1 + 1 + 1 + 1 + 1 + 1)
    (hxz : ∀ p ∈ lx, p.1 ≠ zl) (hsay : Says m [(Str.ofString "mail", .str (txt (mailOf ds t)) tm)])
    (F : Fr g L s.heap m) (N : News g L s.heap ((zl, listOf vz.toArray nz) :: (cells9 L o1 o2 o3 o4 o5 o6 o7 o8 o9 ++ lx)))
    (hQ : ∀ (D : Nat) ys o8' h' tk, IntsAre ys (colsOf zs (ds.map (· + t)) zs.length) → cellV o8' (.ref D) → LCg.Off1 D ((zl, listOf vz.toArray nz) :: (cells9 L o1 o2 o3 o4 o5 o6 o7 o8' o9 ++ lx)) → Fr g L h' m → News g L h' ((D, listOf ys.toArray ys.length) :: (zl, listOf vz.toArray nz) :: (cells9 L o1 o2 o3 o4 o5 o6 o7 o8' o9 ++ lx)) → Q .next { s with heap := h', toks := tk }) :
    wpAny (model prog w) A (exec (turnStmt w.params 3) (envLaw w.params L)) Q E s := by
  have hcLine : cLine = 9900 := rfl
  have hrec : recursionLimit = 1000 := rfl
  have hzl0 := hzl
  simp only [cells9, LCg.Off1, List.cons_append, List.nil_append, and_true] at hzl
  simp only [cells9, List.cons_append, List.nil_append] at N
  dsimp only [turnStmt, body14, loopBody, stmtLaw, envLaw, law222, Option.getD, List.getElem?_cons_succ, List.getElem?_cons_zero]
  have F := Mine.Fr.said F hsay
  repeat walk1
  refine KSpl.split1 F N (by decide) ?_ (by
    have := mailOf_len ds t (fun d hd => by have := hd1 d hd; omega) ht
    rw [txt_len]
    exact Nat.le_trans (show (mailOf ds t).length + 2 ≤ 4000 by omega) (by decide))
  intro D3 l h3 tk3 hl hS F4 N4 hlt
  repeat walk1
  rw [hl, split_mail ds t hne] at hS
  refine Meets.call (cells9 L o1 o2 o3 o4 o5 o6 o7 o8 o9 ++ lx) (law_columns (w := w) (prog := prog) (more := [txt []]) (ds := ds.map (· + t)) (zs := zs) (nl := 0) (nz := nz) hS hZ (by simp [hzd]) hzl3 (Nat.ne_of_gt (hlt (zl, listOf vz.toArray nz) (.head _))) hz1 (fun d hd => by
    obtain ⟨e, he, rfl⟩ := List.mem_map.mp hd
    have := hd1 e he
    show e + t ≤ 1000
    omega)) F4 N4 X T (fun p hp => ?_) (fun p hp => .tail _ (.tail _ hp)) ?_ hh (by omega) (by omega) ?_
  · rcases List.mem_cons.mp hp with rfl | hp
    · exact .head _
    · rw [List.mem_singleton.mp hp]; exact .tail _ (.head _)
  · intro q hq p hp
    rcases List.mem_cons.mp hp with rfl | hp
    · exact Nat.ne_of_gt (hlt q (.tail _ hq))
    · rw [List.mem_singleton.mp hp]
      rcases List.mem_append.mp hq with hq | hq
      · exact Ne.symm (Off1.mem hzl0 q hq)
      · exact Ne.symm (hxz q hq)
  intro n₁ v l₁ h₂ tk₂ hp F3 N3 p1 p2 p3 p4
  obtain ⟨D, ys, rfl, hys, ⟨hne1, hne2⟩, rfl⟩ := hp
  have offR := fun q hq => Ne.symm (p4 q hq (D, listOf ys.toArray ys.length) (.head _))
  have offD : LCg.Off1 D ((zl, listOf vz.toArray nz) :: (cells9 L o1 o2 o3 o4 o5 o6 o7 o8 o9 ++ lx)) := ⟨hne2, Off1.of offR⟩
  have N3 : News g L h₂ ((D, listOf ys.toArray ys.length) :: (zl, listOf vz.toArray nz) :: (cells9 L o1 o2 o3 o4 o5 o6 o7 o8 o9 ++ lx)) := fun p hp => N3 p (by
    rcases List.mem_cons.mp hp with rfl | hp
    · exact .head _
    · exact .tail _ (.tail _ hp))
  have offD0 := offD
  have offT : ∀ p ∈ lx, p.1 ≠ D := fun p hp => Off1.mem offD p (by repeat (first | exact hp | exact List.mem_append_left _ hp | refine List.mem_append_right _ ?_ | refine List.mem_cons_of_mem _ ?_))
  simp only [LCg.Off1, List.cons_append, List.nil_append, and_true] at offD
  simp only [List.cons_append, List.nil_append] at N3
  have e1 : @Ne Nat zl (L + 1 + 1 + 1 + 1 + 1 + 1 + 1 + 1) := Ne.symm hzl.2.1
  have e2 : @Ne Nat D (L + 1 + 1 + 1 + 1 + 1 + 1 + 1 + 1) := Ne.symm offD.2.2.1
  clear N4 F4 N
  repeat walk1
  rename_i d9
  with_reducible rename Fr _ _ _ _ => F7
  with_reducible rename News _ _ _ _ => N7
  exact hQ D ys _ _ _ hys d9 offD0 (Mine.Fr.unsaid F7 hsay) N7
end
end

noncomputable section
theorem walkOff_C34 : True := by
  w_top off
  exact True.intro
noncomputable def mvOf (z n : Nat) : Int := if n % z = 0 then (z : Int) else 0
noncomputable def mvsOf (zs ds : List Nat) (t k : Nat) : List Int := (List.range k).map fun i => mvOf (zs.getD i 0) (ds.getD i 0 + t)
theorem mvsOf_succ {zs ds : List Nat} {t k : Nat} (hz : k < zs.length) (hd : k < ds.length) : mvsOf zs ds t (k + 1) = mvsOf zs ds t k ++ [mvOf zs[k] (ds[k] + t)] := by
  unfold mvsOf
  rw [List.range_succ, List.map_append]
  simp [List.getD_eq_getElem?_getD, hd, hz]
theorem colOf_move (z n : Nat) (hz : 0 < z) : colOf z (n + 1) - colOf z n = mvOf z (n + 1) := by
  unfold colOf mvOf
  have h : (n + 1) / z = n / z + if z ∣ n + 1 then 1 else 0 := Nat.succ_div
  by_cases hd : z ∣ n + 1
  · rw [if_pos hd] at h
    rw [if_pos (Nat.mod_eq_zero_of_dvd hd), h]
    rw [show z * (n / z + 1 + 1) = z * (n / z + 1) + z from Nat.mul_succ _ _]
    omega
  · rw [if_neg hd, Nat.add_zero] at h
    rw [if_neg (fun e => hd (Nat.dvd_of_mod_eq_zero e)), h]
    exact Int.sub_self _
theorem colsOf_get {zs ds : List Nat} {j k : Nat} (hz : j < zs.length) (hd : j < ds.length) (hk : j < k) : (colsOf zs ds k).getD j 0 = colOf zs[j] ds[j] := by
  unfold colsOf
  rw [List.getD_eq_getElem?_getD, List.getElem?_map, List.getElem?_range hk]
  simp [List.getD_eq_getElem?_getD, hd, hz]
section
variable {A : Around} {s : Shared} {g : Heap} {L : Nat} {m : Str → Option Value} {p : Program} {loose : List Str} {mean : ExcName → Option Value} {mg mb : Str → Option Value} {Q : Flow → Shared → Prop} {E : Value → Shared → Prop}
  {o1 o2 o3 o4 o5 o6 o7 o8 o9 : Obj} {lx : List (Addr × Obj)}
set_option maxHeartbeats 2000000 in
theorem turn_e {ql bl nq nb rows t : Nat} {tr : Tok} {ds zs : List Nat} {vq vb : List Value} (hzd : zs.length = ds.length) (hzr : zs.length = rows) (hr3 : rows ≤ 3) (hz1 : ∀ z ∈ zs, 0 < z ∧ z ≤ 10) (hd1 : ∀ d ∈ ds, d ≤ 100) (ht : t ≤ 100) (hq : IntsAre vq (colsOf zs (ds.map (· + t)) rows)) (hb : IntsAre vb (colsOf zs (ds.map (· + (t + 1))) rows)) (hh : A.handled = none) (X : (hdK.heap_1 w.params).In g) (T : Top p loose mean mg mb g)
    (hdep : A.depth + 200 < recursionLimit) (hu : A.units + 3000 < cLine) (d6 : cellV o6 (.ref ql)) (d8 : cellV o8 (.ref bl)) (hsay : Says m [(Str.ofString "rows", .int (rows : Int) tr)])
    (F : Fr g L s.heap m) (N : News g L s.heap ((bl, listOf vb.toArray nb) :: (ql, listOf vq.toArray nq) :: (cells9 L o1 o2 o3 o4 o5 o6 o7 o8 o9 ++ lx)))
    (hQ : ∀ (D : Nat) ys h' tk, IntsAre ys (mvsOf zs ds (t + 1) rows) → LCg.Off1 D ((bl, listOf vb.toArray nb) :: (ql, listOf vq.toArray nq) :: (cells9 L o1 o2 o3 o4 o5 o6 o7 o8 o9 ++ lx)) → Fr g L h' (fun y => if y = Str.ofString "moves" then some (.ref D) else m y) → News g L h' ((D, listOf ys.toArray ys.length) :: (bl, listOf vb.toArray nb) :: (ql, listOf vq.toArray nq) :: (cells9 L o1 o2 o3 o4 o5 o6 o7 o8 o9 ++ lx)) → Q .next { s with heap := h', toks := tk }) :
    wpAny (model prog w) A (exec (turnStmt w.params 4) (envLaw w.params L)) Q E s := by
  have hcLine : cLine = 9900 := rfl
  have hrec : recursionLimit = 1000 := rfl
  simp only [cells9, List.cons_append, List.nil_append] at N
  have hql2 : (colsOf zs (ds.map (· + t)) rows).length = rows := by simp [colsOf]
  have hbl2 : (colsOf zs (ds.map (· + (t + 1))) rows).length = rows := by simp [colsOf]
  dsimp only [turnStmt, body14, loopBody, stmtLaw, envLaw, law222, Option.getD, List.getElem?_cons_succ, List.getElem?_cons_zero]
  have F := Mine.Fr.said F hsay
  refine LCg.Assign_ListComp_U (F₀ := F) (by rfl) (by with_unfolding_all rfl) rfl (by decide) rfl (by decide) rfl rfl rfl ?_
  repeat walk1
  with_reducible rename IsRange _ _ _ _ _ _ _ _ => hR
  with_reducible rename Fr _ _ _ _ => F2
  with_reducible rename News _ _ _ _ => N2
  refine LCg.CompSrc.range (n := rows) hh F2 N2 hR (small_one (by omega) (by omega) (by omega) (by omega)) (by rw [rangeSize_one]; split <;> omega) (Nat.le_trans hr3 (by decide)) (fun g' => ?_)
  refine comp_inv (n := rows) (fun k zv news => news = _ ∧ IntsAre zv (mvsOf zs ds (t + 1) k)) ?_ ?_ rows 0 [] _ (Nat.zero_add _) ⟨rfl, .nil⟩
  · rintro k zv news v I oI C2 oC2 D2 m₃ h3 tk3 E3 hk ⟨rfl, hzs⟩ ⟨tv, rfl⟩ hC2 hx2 F4 N4 off2 hne2
    have off20 := off2
    simp only [LCg.Off3, and_true] at off2
    have hkz : k < zs.length := by omega
    have hkd : k < ds.length := by omega
    have hk3 : (0 : Int) + (k : Int) < (rows : Int) := by omega
    have hk5 : (0 : Int) + (k : Int) < ((colsOf zs (ds.map (· + t)) rows).length : Int) := by omega
    have hk6 : (0 : Int) + (k : Int) < ((colsOf zs (ds.map (· + (t + 1))) rows).length : Int) := by omega
    repeat walk1
    have e0 : ((0 : Int) + (k : Int)).toNat = k := by omega
    rw [mvsOf_succ hkz hkd, e0, colsOf_get hkz (by simp; omega) hk, colsOf_get hkz (by simp; omega) hk, List.getElem_map, List.getElem_map, show ds[k] + (t + 1) = ds[k] + t + 1 from rfl, ← colOf_move _ (ds[k] + t) (hz1 _ (List.getElem_mem hkz)).1]
    with_reducible rename Fr _ _ _ _ => F5
    with_reducible rename News _ _ _ _ => N5
    exact LCg.CompEnd.intro F5 N5 _ (fun p hp => hp) off20 True.intro ⟨rfl, snocI hzs⟩
  · rintro zv news ⟨rfl, hzs⟩
    unfold LCg.FinA
    intro D3 h3 tk3 F4 N4 off2
    have e9 : (fun y => if y = Str.ofString "moves" then some (Value.ref D3) else kstB m [(Str.ofString "rows", .int (rows : Int) tr)] y) = fun y => if y = Str.ofString "moves" then some (Value.ref D3) else m y := by
      funext y
      rw [kstB_eq hsay fun _ => rfl]
    rw [e9] at F4
    exact hQ D3 zv _ _ hzs off2 F4 N4
end
end

noncomputable section
theorem walkOff_C35 : True := by
  w_top off
  exact True.intro
theorem mod_row (d t z : Nat) : ((d : Int) + (t : Int)).fmod (z : Int) = 0 ↔ (d + t) % z = 0 := by
  rw [Int.fmod_eq_emod_of_nonneg _ (by omega), ← Int.natCast_add, ← Int.natCast_emod]
  omega
section
variable {A : Around} {s : Shared} {g : Heap} {L : Nat} {m : Str → Option Value} {p : Program} {loose : List Str} {mean : ExcName → Option Value} {mg mb : Str → Option Value} {Q : Flow → Shared → Prop} {E : Value → Shared → Prop}
  {o1 o2 o3 o4 o5 o6 o7 o8 o9 : Obj} {lx : List (Addr × Obj)}
set_option maxHeartbeats 2000000 in
theorem turn_f {zl nz dl nd ml nm rows t : Nat} {tr tu : Tok} {ds zs : List Nat} {vz vd vm : List Value} (hZ : IntsAre vz (asInts zs)) (hD : IntsAre vd (asInts ds)) (hM : IntsAre vm (mvsOf zs ds t rows)) (hzd : zs.length = ds.length) (hzr : zs.length = rows) (hr3 : rows ≤ 3) (hz1 : ∀ z ∈ zs, 0 < z ∧ z ≤ 10) (hh : A.handled = none) (X : (hdK.heap_1 w.params).In g) (T : Top p loose mean mg mb g)
    (hdep : A.depth + 200 < recursionLimit) (hu : A.units + 3000 < cLine) (d3 : cellV o3 (.ref zl)) (d4 : cellV o4 (.ref dl)) (d7 : cellV o7 (.int (t : Int) tu)) (hsay : Says m [(Str.ofString "rows", .int (rows : Int) tr), (Str.ofString "moves", .ref ml)])
    (F : Fr g L s.heap m) (N : News g L s.heap ((ml, listOf vm.toArray nm) :: (zl, listOf vz.toArray nz) :: (dl, listOf vd.toArray nd) :: (cells9 L o1 o2 o3 o4 o5 o6 o7 o8 o9 ++ lx)))
    (hQ : ∀ h' tk, Fr g L h' m → News g L h' ((ml, listOf vm.toArray nm) :: (zl, listOf vz.toArray nz) :: (dl, listOf vd.toArray nd) :: (cells9 L o1 o2 o3 o4 o5 o6 o7 o8 o9 ++ lx)) → Q .next { s with heap := h', toks := tk }) :
    wpAny (model prog w) A (exec (turnStmt w.params 5) (envLaw w.params L)) Q E s := by
  have hcLine : cLine = 9900 := rfl
  have hrec : recursionLimit = 1000 := rfl
  simp only [cells9, List.cons_append, List.nil_append] at N
  have hzl2 : (asInts zs).length = zs.length := by simp
  have hdl2 : (asInts ds).length = ds.length := by simp
  dsimp only [turnStmt, body14, loopBody, stmtLaw, envLaw, law222, Option.getD, List.getElem?_cons_succ, List.getElem?_cons_zero]
  have F := Mine.Fr.said F hsay
  iterate 3 walk1
  refine LCg.ListComp_U F rfl (by decide) rfl (by decide) rfl ?_
  repeat walk1
  with_reducible rename IsRange _ _ _ _ _ _ _ _ => hR
  with_reducible rename Fr _ _ _ _ => F2
  with_reducible rename News _ _ _ _ => N2
  refine LCg.CompSrc.range (n := rows) hh F2 N2 hR (small_one (by omega) (by omega) (by omega) (by omega)) (by rw [rangeSize_one]; split <;> omega) (Nat.le_trans hr3 (by decide)) (fun g' => ?_)
  refine comp_inv (n := rows) (fun k zv news => news = _ ∧ IntsAre zv (mvsOf zs ds t k)) ?_ ?_ rows 0 [] _ (Nat.zero_add _) ⟨rfl, .nil⟩
  · rintro k zv news v I oI C2 oC2 D2 m₃ h3 tk3 E3 hk ⟨rfl, hzs⟩ ⟨tv, rfl⟩ hC2 hx2 F4 N4 off2 hne2
    have off20 := off2
    simp only [LCg.Off3, and_true] at off2
    have hkz : k < zs.length := by omega
    have hkd : k < ds.length := by omega
    have hk3 : (0 : Int) + (k : Int) < (zs.length : Int) := by omega
    have hk4 : (0 : Int) + (k : Int) < (ds.length : Int) := by omega
    have hk5 : (0 : Int) + (k : Int) < ((asInts zs).length : Int) := by omega
    have hk6 : (0 : Int) + (k : Int) < ((asInts ds).length : Int) := by omega
    have e0 : ((0 : Int) + (k : Int)).toNat = k := by omega
    obtain ⟨hz0, hz9⟩ := hz1 _ (List.getElem_mem hkz)
    rw [mvsOf_succ hkz hkd]
    have ez := asInts_getD hkz
    have ed := asInts_getD hkd
    have hzz : ((asInts zs).getD ((0 : Int) + (k : Int)).toNat 0) ≠ 0 := by rw [e0, ez]; omega
    repeat walk1
    · with_reducible rename Int.fmod _ _ = 0 => hc
      rw [e0, ez, ed, mod_row] at hc
      with_reducible rename Fr _ _ _ _ => F5
      with_reducible rename News _ _ _ _ => N5
      rw [e0, ez, show mvOf zs[k] (ds[k] + t) = ((zs[k] : Nat) : Int) from if_pos hc]
      exact LCg.CompEnd.intro F5 N5 _ (fun p hp => hp) off20 True.intro ⟨rfl, snocI hzs⟩
    · with_reducible rename Int.fmod _ _ ≠ 0 => hc
      have hc : ¬ (ds[k] + t) % zs[k] = 0 := fun e => hc (by rw [e0, ez, ed, mod_row]; exact e)
      repeat walk1
      with_reducible rename Fr _ _ _ _ => F5
      with_reducible rename News _ _ _ _ => N5
      rw [show mvOf zs[k] (ds[k] + t) = 0 from if_neg hc]
      exact LCg.CompEnd.intro F5 N5 _ (fun p hp => hp) off20 True.intro ⟨rfl, snocI hzs⟩
  · rintro zv news ⟨rfl, hzs⟩
    unfold LCg.FinE
    intro D3 h3 tk3 F4 N4 off2
    repeat walk1
    with_reducible rename Fr _ _ _ _ => F7
    with_reducible rename News _ _ _ _ => N7
    exact hQ _ _ (Mine.Fr.unsaid F7 hsay) (fun p hp => N7 p (.tail _ hp))
end
end

noncomputable section
theorem walkOff_C36 : True := by
  w_top off
  exact True.intro
section
variable {A : Around} {s : Shared} {g : Heap} {L : Nat} {m : Str → Option Value} {p : Program} {loose : List Str} {mean : ExcName → Option Value} {mg mb : Str → Option Value} {Q : Flow → Shared → Prop} {E : Value → Shared → Prop}
  {o1 o2 o3 o4 o5 o6 o7 o8 o9 : Obj} {lx : List (Addr × Obj)}
set_option maxHeartbeats 2000000 in
theorem turn_g {sl ns ml nm rows t : Nat} {tr : Tok} {vm vv : List Value} {ms sn : List Int} (hM : IntsAre vm ms) (hml : ms.length = rows) (hr3 : rows ≤ 3) (hS : IntsAre vv sn) (hsl : vv.length ≤ 100) (hh : A.handled = none) (X : (hdK.heap_1 w.params).In g) (T : Top p loose mean mg mb g)
    (hdep : A.depth + 200 < recursionLimit) (hu : A.units + 3000 < cLine) (hne : @Ne Nat ml sl) (hx : ∀ p ∈ lx, p.1 ≠ sl) (hsay : Says m [(Str.ofString "rows", .int (rows : Int) tr), (Str.ofString "moves", .ref ml), (Str.ofString "seen", .ref sl)])
    (F : Fr g L s.heap m) (N : News g L s.heap ((sl, listOf vv.toArray ns) :: (ml, listOf vm.toArray nm) :: lx))
    (hQ : ∀ h' tk vv' ns', IntsAre vv' (sn ++ [(rows : Int) - (ms.count 0 : Nat)]) → Fr g L h' m → News g L h' ((sl, listOf vv'.toArray ns') :: (ml, listOf vm.toArray nm) :: lx) → Q .next { s with heap := h', toks := tk }) :
    wpAny (model prog w) A (exec (turnStmt w.params 6) (envLaw w.params L)) Q E s := by
  have hcLine : cLine = 9900 := rfl
  have hrec : recursionLimit = 1000 := rfl
  dsimp only [turnStmt, body14, loopBody, stmtLaw, envLaw, law222, Option.getD, List.getElem?_cons_succ, List.getElem?_cons_zero]
  have F := Mine.Fr.said F hsay
  repeat walk1
  with_reducible rename Fr _ _ _ _ => F7
  with_reducible rename News _ _ _ _ => N7
  rw [List.push_toArray] at N7
  exact hQ _ _ _ _ (snocI hS) (Mine.Fr.unsaid F7 hsay) N7
set_option maxHeartbeats 2000000 in
theorem turn_h {bl : Nat} (hh : A.handled = none) (X : (hdK.heap_1 w.params).In g) (T : Top p loose mean mg mb g)
    (hdep : A.depth + 200 < recursionLimit) (hu : A.units + 3000 < cLine) {c6 : Option Value} (d6 : o6.data = .cell c6) (d8 : cellV o8 (.ref bl)) (hx6 : ∀ p ∈ lx, p.1 ≠ L + 1 + 1 + 1 + 1 + 1 + 1)
    (F : Fr g L s.heap m) (N : News g L s.heap (cells9 L o1 o2 o3 o4 o5 o6 o7 o8 o9 ++ lx))
    (hQ : ∀ o6' h' tk, cellV o6' (.ref bl) → Fr g L h' m → News g L h' (cells9 L o1 o2 o3 o4 o5 o6' o7 o8 o9 ++ lx) → Q .next { s with heap := h', toks := tk }) :
    wpAny (model prog w) A (exec (turnStmt w.params 7) (envLaw w.params L)) Q E s := by
  have hcLine : cLine = 9900 := rfl
  have hrec : recursionLimit = 1000 := rfl
  simp only [cells9, List.cons_append, List.nil_append] at N
  dsimp only [turnStmt, body14, loopBody, stmtLaw, envLaw, law222, Option.getD, List.getElem?_cons_succ, List.getElem?_cons_zero]
  repeat walk1
  rename_i d7
  with_reducible rename Fr _ _ _ _ => F1
  with_reducible rename News _ _ _ _ => N1
  exact hQ _ _ _ d7 F1 N1
end
end

noncomputable section
theorem walkOff_C37 : True := by
  w_top off
  exact True.intro
section
variable {A : Around} {s : Shared} {g : Heap} {L : Nat} {m : Str → Option Value} {p : Program} {loose : List Str} {mean : ExcName → Option Value} {mg mb : Str → Option Value} {Q : Flow → Shared → Prop} {E : Value → Shared → Prop}
  {lx : List (Addr × Obj)}
set_option maxHeartbeats 2000000 in
theorem law_s13 (hh : A.handled = none) (X : (hdK.heap_1 w.params).In g) (T : Top p loose mean mg mb g)
    (F : Fr g L s.heap m) (N : News g L s.heap lx)
    (hQ : ∀ (D : Nat) h' tk, (∀ p ∈ lx, @LT.lt Nat _ p.1 D) → Fr g L h' (fun y => if y = Str.ofString "seen" then some (.ref D) else m y) → News g L h' ((D, listOf #[] 0) :: lx) → Q .next { s with heap := h', toks := tk }) :
    wpAny (model prog w) A (exec (stmtLaw w.params 13) (envLaw w.params L)) Q E s := by
  dsimp only [stmtLaw, envLaw, law222, Option.getD, List.getElem?_cons_succ, List.getElem?_cons_zero]
  repeat walk1
  with_reducible rename Fr _ _ _ _ => F1
  with_reducible rename News _ _ _ _ => N1
  exact hQ _ _ _ (by assumption) F1 N1
set_option maxHeartbeats 2000000 in
theorem law_s16 (hh : A.handled = none) (X : (hdK.heap_1 w.params).In g) (T : Top p loose mean mg mb g)
    (F : Fr g L s.heap m) (N : News g L s.heap lx)
    (hQ : ∀ h' tk t, Fr g L h' (fun y => if y = Str.ofString "total" then some (.int 0 t) else m y) → News g L h' lx → Q .next { s with heap := h', toks := tk }) :
    wpAny (model prog w) A (exec (stmtLaw w.params 16) (envLaw w.params L)) Q E s := by
  dsimp only [stmtLaw, envLaw, law222, Option.getD, List.getElem?_cons_succ, List.getElem?_cons_zero]
  repeat walk1
  with_reducible rename Fr _ _ _ _ => F1
  with_reducible rename News _ _ _ _ => N1
  exact hQ _ _ _ F1 N1
end
end

noncomputable section
theorem walkOff_C38 : True := by
  w_top off
  exact True.intro
noncomputable def mailAt (ps : List (Nat × List Nat)) (i : Nat) : List Nat := if i = 0 then rowsOf ps else mailOf (ps.map (·.1)) i
theorem quote_mailAt (ps : List (Nat × List Nat)) (h : ∀ p ∈ ps, 1 ≤ p.1 ∧ IsEnd p.2) (i : Nat) : quote (mailAt ps i) = mailOf (ps.map (·.1)) (i + 1) := by
  unfold mailAt quote
  by_cases h0 : i = 0
  · subst h0
    rw [if_pos rfl, quote_rows ps h]
  · rw [if_neg h0, quote_mail _ _ (fun d hd => by
      obtain ⟨p, hp, rfl⟩ := List.mem_map.mp hd
      exact (h p hp).1)]
noncomputable def movesAt (zs ds : List Nat) (rows t : Nat) : Int := (rows : Int) - ((mvsOf zs ds t rows).count 0 : Nat)
noncomputable def seenOf (zs ds : List Nat) (rows i : Nat) : List Int := (List.range i).map fun j => movesAt zs ds rows (j + 1)
theorem seenOf_succ (zs ds : List Nat) (rows i : Nat) : seenOf zs ds rows (i + 1) = seenOf zs ds rows i ++ [(rows : Int) - ((mvsOf zs ds (i + 1) rows).count 0 : Nat)] := by
  unfold seenOf
  rw [List.range_succ, List.map_append]; rfl
section
variable {A : Around} {s : Shared} {g : Heap} {L : Nat} {m : Str → Option Value} {p : Program} {loose : List Str} {mean : ExcName → Option Value} {mg mb : Str → Option Value} {Q : Flow → Shared → Prop}
  {o1 o2 o3 o4 o5 o6 o7 o8 o9 : Obj} {tl lx : List (Addr × Obj)}
theorem body14_eq (P : Params) : (body14 P).1 = [turnStmt P 0, turnStmt P 1, turnStmt P 2, turnStmt P 3, turnStmt P 4, turnStmt P 5, turnStmt P 6, turnStmt P 7] := rfl
end
end

noncomputable section
theorem walkOff_C39 : True := by
  w_top off
  exact True.intro
theorem ap_led {a : LexP} {P : Params} {R tl : List (Addr × Obj)} {vs vs' ps ps' : List Value} {nS nS' np np' : Nat} {n n' : Int} {tn tn' : Tok} (h : ∀ q ∈ R, ∀ p ∈ a.led P vs nS n tn ps np ++ tl, p.1 ≠ q.1) : ∀ q ∈ R, ∀ p ∈ a.led P vs' nS' n' tn' ps' np' ++ tl, p.1 ≠ q.1 := by
  intro q hq p hp
  have hm : p.1 ∈ (a.led P vs nS n tn ps np ++ tl).map (·.1) := by
    have e : (a.led P vs' nS' n' tn' ps' np' ++ tl).map (·.1) = (a.led P vs nS n tn ps np ++ tl).map (·.1) := by
      rw [List.map_append, List.map_append]; rfl
    rw [← e]; exact List.mem_map_of_mem hp
  obtain ⟨p', hp', e⟩ := List.mem_map.mp hm
  rw [← e]; exact h q hq p' hp'
noncomputable abbrev keys (L ql sl zl dl : Nat) : List Nat := [ql, sl, zl, dl, L + 1 + 1 + 1 + 1 + 1 + 1 + 1 + 1 + 1, L + 1 + 1 + 1 + 1 + 1 + 1 + 1 + 1, L + 1 + 1 + 1 + 1 + 1 + 1 + 1, L + 1 + 1 + 1 + 1 + 1 + 1, L + 1 + 1 + 1 + 1 + 1, L + 1 + 1 + 1 + 1, L + 1 + 1 + 1, L + 1 + 1, L + 1]
structure Apt (L ql sl zl dl : Nat) (led lx : List (Addr × Obj)) : Prop where
  nd : (keys L ql sl zl dl).Nodup
  kl : ∀ x ∈ keys L ql sl zl dl, ∀ p ∈ led, @Ne Nat p.1 x
  kx : ∀ x ∈ keys L ql sl zl dl, ∀ p ∈ lx, @Ne Nat p.1 x
  lx : ∀ q ∈ lx, ∀ p ∈ led, p.1 ≠ q.1
noncomputable abbrev besides (L : Nat) (ql nq sl ns zl nz dl nd : Nat) (vq vv vz vd : List Value) (o1 o2 o3 o4 o5 o6 o7 o8 o9 : Obj) (lx : List (Addr × Obj)) : List (Addr × Obj) :=
  (ql, listOf vq.toArray nq) :: (sl, listOf vv.toArray ns) :: (zl, listOf vz.toArray nz) :: (dl, listOf vd.toArray nd) :: (cells9 L o1 o2 o3 o4 o5 o6 o7 o8 o9 ++ lx)
section
variable {L ql nq sl ns zl nz dl nd : Nat} {vq vv vz vd : List Value} {o1 o2 o3 o4 o5 o6 o7 o8 o9 : Obj} {led led' lx : List (Addr × Obj)}
theorem keys_of {q : Addr × Obj} (h : q ∈ besides L ql nq sl ns zl nz dl nd vq vv vz vd o1 o2 o3 o4 o5 o6 o7 o8 o9 lx) : q.1 ∈ keys L ql sl zl dl ∨ q ∈ lx := by
  have h : q ∈ ((ql, listOf vq.toArray nq) :: (sl, listOf vv.toArray ns) :: (zl, listOf vz.toArray nz) :: (dl, listOf vd.toArray nd) :: cells9 L o1 o2 o3 o4 o5 o6 o7 o8 o9) ++ lx := h
  rcases List.mem_append.mp h with h | h
  · exact .inl (List.mem_map_of_mem (f := (·.1)) h)
  · exact .inr h
theorem Apt.ne (h : Apt L ql sl zl dl led lx) (i j : Nat) {x y : Nat} (hi : (keys L ql sl zl dl)[i]? = some x) (hj : (keys L ql sl zl dl)[j]? = some y) (hij : Nat.blt i j = true) : x ≠ y := by
  have hd := h.nd
  generalize keys L ql sl zl dl = l at *
  obtain ⟨h1, rfl⟩ := List.getElem?_eq_some_iff.mp hi
  obtain ⟨h2, rfl⟩ := List.getElem?_eq_some_iff.mp hj
  exact List.pairwise_iff_getElem.mp hd i j h1 h2 (Nat.le_of_ble_eq_true hij)
theorem Apt.all (h : Apt L ql sl zl dl led lx) : ∀ q ∈ besides L ql nq sl ns zl nz dl nd vq vv vz vd o1 o2 o3 o4 o5 o6 o7 o8 o9 lx, ∀ p ∈ led, p.1 ≠ q.1 := by
  intro q hq p hp
  rcases keys_of hq with hk | hk
  · exact h.kl _ hk p hp
  · exact h.lx _ hk p hp
theorem Apt.ofled (h : Apt L ql sl zl dl led lx) (e : led'.map (·.1) = led.map (·.1)) : Apt L ql sl zl dl led' lx := by
  have f : ∀ p ∈ led', ∃ p' ∈ led, p'.1 = p.1 := fun p hp => by
    have hm : p.1 ∈ led'.map (·.1) := List.mem_map_of_mem hp
    rw [e] at hm
    obtain ⟨p', hp', e⟩ := List.mem_map.mp hm
    exact ⟨p', hp', e⟩
  refine ⟨h.nd, fun x hx p hp => ?_, h.kx, fun q hq p hp => ?_⟩
  · obtain ⟨p', hp', e⟩ := f p hp
    rw [← e]; exact h.kl x hx p' hp'
  · obtain ⟨p', hp', e⟩ := f p hp
    rw [← e]; exact h.lx q hq p' hp'
theorem Apt.new {D : Nat} (h : Apt L ql sl zl dl led lx) (hD : ∀ q ∈ (sl, listOf vv.toArray ns) :: (zl, listOf vz.toArray nz) :: (dl, listOf vd.toArray nd) :: (cells9 L o1 o2 o3 o4 o5 o6 o7 o8 o9 ++ (lx ++ led)), @Ne Nat D q.1) : Apt L D sl zl dl led lx := by
  have hnd := h.nd
  refine ⟨?_, fun x hx p hp => ?_, fun x hx p hp => ?_, h.lx⟩
  · rw [List.nodup_cons] at hnd ⊢
    refine ⟨fun hm => ?_, hnd.2⟩
    obtain ⟨q, hq, e⟩ := List.mem_map.mp (show D ∈ ((sl, listOf vv.toArray ns) :: (zl, listOf vz.toArray nz) :: (dl, listOf vd.toArray nd) :: cells9 L o1 o2 o3 o4 o5 o6 o7 o8 o9).map (·.1) from hm)
    exact hD q (List.mem_append_left (as := (sl, listOf vv.toArray ns) :: (zl, listOf vz.toArray nz) :: (dl, listOf vd.toArray nd) :: cells9 L o1 o2 o3 o4 o5 o6 o7 o8 o9) (lx ++ led) hq) e.symm
  · rcases List.mem_cons.mp hx with rfl | hx
    · exact Ne.symm (hD p (by repeat (first | exact hp | exact List.mem_append_left _ hp | refine List.mem_append_right _ ?_ | refine List.mem_cons_of_mem _ ?_)))
    · exact h.kl x (.tail _ hx) p hp
  · rcases List.mem_cons.mp hx with rfl | hx
    · exact Ne.symm (hD p (by repeat (first | exact hp | exact List.mem_append_left _ hp | refine List.mem_append_right _ ?_ | refine List.mem_cons_of_mem _ ?_)))
    · exact h.kx x (.tail _ hx) p hp
end
section
variable {A : Around} {s : Shared} {g : Heap} {L : Nat} {m : Str → Option Value} {p : Program} {loose : List Str} {mean : ExcName → Option Value} {mg mb : Str → Option Value} {K : Flow → Shared → Prop} {E : Value → Shared → Prop}
  {o1 o2 o3 o4 o5 o6 o7 o8 o9 : Obj} {tl lx : List (Addr × Obj)}
noncomputable abbrev TurnPost (P : Params) (a : LexP) (g : Heap) (L : Nat) (vs : List Value) (nS np i rows : Nat) (n : Int) (tn : Tok) (ds zs : List Nat) (sl zl dl ns nz nd : Nat) (vz vd : List Value) (o1 o2 o3 o4 o5 o7 o9 : Obj) (m : Str → Option Value) (tl lx : List (Addr × Obj)) (kn : Heap → Nat → Prop) : Prop :=
  ∀ (D M np' nq' ns' : Nat) (ys vv' : List Value) (o6' o8' : Obj) (t1 : Tok) (h' : Heap) (tk : Nat), IntsAre ys (colsOf zs (ds.map (· + (i + 1))) rows) → IntsAre vv' (seenOf zs ds rows (i + 1)) → cellV o6' (.ref D) → cellV o8' (.ref D) →
    Apt L D sl zl dl (a.led P vs nS n tn [.str (txt (mailOf ds (i + 1))) t1] np' ++ tl) lx →
    Fr g L h' (fun y => if y = Str.ofString "moves" then some (.ref M) else if y = Str.ofString "mail" then some (.str (txt (mailOf ds (i + 1))) t1) else m y) →
    News g L h' ((a.led P vs nS n tn [.str (txt (mailOf ds (i + 1))) t1] np' ++ tl) ++ besides L D nq' sl ns' zl nz dl nd ys vv' vz vd o1 o2 o3 o4 o5 o6' o7 o8' o9 lx) → kn h' tk
set_option maxHeartbeats 4000000 in
theorem law_turn {a : LexP} {vs : List Value} {nS np i rows : Nat} {n : Int} {tn t0 tu tr : Tok} {ps : List (Nat × List Nat)} {ds zs : List Nat} {ql sl zl dl nq ns nz nd : Nat} {vq vv vz vd : List Value}
    (ha : a.Ok tl) (hds : ds = ps.map (·.1)) (hps : ∀ p ∈ ps, 1 ≤ p.1 ∧ IsEnd p.2) (hd100 : ∀ d ∈ ds, d ≤ 100) (hi : i ≤ 50) (hZ : IntsAre vz (asInts zs)) (hD : IntsAre vd (asInts ds)) (hq : IntsAre vq (colsOf zs (ds.map (· + i)) rows)) (hS : IntsAre vv (seenOf zs ds rows i))
    (hzd : zs.length = ds.length) (hzr : zs.length = rows) (hr3 : rows ≤ 3) (hr0 : ds ≠ []) (hz1 : ∀ z ∈ zs, 0 < z ∧ z ≤ 10) (hlen : (mailAt ps i).length ≤ 10000)
    (hh : A.handled = none) (X : (hdK.heap_1 w.params).In g) (T : Top p loose mean mg mb g) (hdep : A.depth + 200 < recursionLimit) (hu : A.units + 3000 < cLine)
    (d3 : cellV o3 (.ref zl)) (d4 : cellV o4 (.ref dl)) (d6 : cellV o6 (.ref ql)) (d7 : cellV o7 (.int ((i + 1 : Nat) : Int) tu)) {c8 : Option Value} (d8 : o8.data = .cell c8)
    (hap : Apt L ql sl zl dl (a.led w.params vs nS n tn [.str (txt (mailAt ps i)) t0] np ++ tl) lx)
    (hsay : Says m [(Str.ofString "lexer", .ref a.x), (Str.ofString "rows", .int (rows : Int) tr), (Str.ofString "seen", .ref sl)])
    (F : Fr g L s.heap m) (N : News g L s.heap ((a.led w.params vs nS n tn [.str (txt (mailAt ps i)) t0] np ++ tl) ++ besides L ql nq sl ns zl nz dl nd vq vv vz vd o1 o2 o3 o4 o5 o6 o7 o8 o9 lx))
    (hK : TurnPost w.params a g L vs nS np i rows n tn ds zs sl zl dl ns nz nd vz vd o1 o2 o3 o4 o5 o7 o9 m tl lx (fun h' tk => K .next { s with heap := h', toks := tk })) :
    wpAny (model prog w) A (execs (body14 w.params).1 (envLaw w.params L)) K E s := by
  have hap2 : ∀ (ps' : List Value) (np' : Nat), Apt L ql sl zl dl (a.led w.params vs nS n tn ps' np' ++ tl) lx := fun ps' np' => hap.ofled (by rw [List.map_append, List.map_append]; rfl)
  rw [body14_eq]
  refine wpAny_execs_cons (turn_a (tl := tl) (rest := besides L ql nq sl ns zl nz dl nd vq vv vz vd o1 o2 o3 o4 o5 o6 o7 o8 o9 lx) ha hlen hh X T hdep hu hap.all (fun q hq => hsay q (by simp at hq ⊢; exact .inl hq)) F N ?_)
  intro h1 tk1 t1 np1 F1 N1
  dsimp only
  rw [quote_mailAt ps hps i, ← hds] at F1
  refine wpAny_execs_cons (turn_b (v₀ := .str (txt (mailOf ds (i + 1))) t1) (tl := tl) (rest := besides L ql nq sl ns zl nz dl nd vq vv vz vd o1 o2 o3 o4 o5 o6 o7 o8 o9 lx) ha hh X T hdep hu (hap2 _ _).all (fun q hq => ?_) F1 N1 ?_)
  · rcases List.mem_cons.mp hq with rfl | hq
    · exact hsay _ (.head _)
    · rw [List.mem_singleton.mp hq]; rfl
  intro h2 tk2 np2 F2 N2
  dsimp only
  have hapL := hap2 [.str (txt (mailOf ds (i + 1))) t1] np2
  refine wpAny_execs_cons (turn_c (tm := t1) (nd := nd) (o1 := o1) (o2 := o2) (o3 := o3) (o5 := o5) (o6 := o6) (o8 := o8) (o9 := o9) (ds := ds) (t := i + 1) (lx := (ql, listOf vq.toArray nq) :: (sl, listOf vv.toArray ns) :: (zl, listOf vz.toArray nz) :: (lx ++ (a.led w.params vs nS n tn [.str (txt (mailOf ds (i + 1))) t1] np2 ++ tl))) hD (by omega) (fun d hd => by have := hd100 d hd; omega) (by omega) hh X T hdep hu d4 d7 (fun q hq => ?_) F2 (fun q hm => N2 q ?_) ?_)
  · rw [List.mem_singleton.mp hq]; rfl
  · clear N2 N1 N hap hap2 hK
    unfold besides
    generalize a.led w.params vs nS n tn [.str (txt (mailOf ds (i + 1))) t1] np2 ++ tl = LED at *
    generalize cells9 L o1 o2 o3 o4 o5 o6 o7 o8 o9 = CS at *
    simp only [List.mem_cons, List.mem_append] at hm ⊢
    clear hds hps hd100 hZ hD hq hS hzd hzr hr0 hz1 hlen X T hdep hu d3 d4 d6 d7 d8 hsay F F1 F2
    grind
  intro h3 tk3 F3 N3
  dsimp only
  have hLk := hapL.kl
  have hLx := hapL.kx
  have hLc := hapL.lx
  have em : ∀ x, (x = zl ∨ x = L + 1 + 1 + 1 + 1 + 1 + 1 + 1 + 1 ∨ x = sl ∨ x = L + 1 + 1 + 1 + 1 + 1 + 1) → x ∈ keys L ql sl zl dl := by
    intro x hx
    simp only [keys, List.mem_cons]
    rcases hx with h | h | h | h <;> simp [h]
  refine wpAny_execs_cons (turn_d (tm := t1) (nz := nz) (o1 := o1) (o2 := o2) (o4 := o4) (o5 := o5) (o6 := o6) (o7 := o7) (o9 := o9) (ds := ds) (zs := zs) (t := i + 1) (lx := (ql, listOf vq.toArray nq) :: (sl, listOf vv.toArray ns) :: (dl, listOf vd.toArray nd) :: (lx ++ (a.led w.params vs nS n tn [.str (txt (mailOf ds (i + 1))) t1] np2 ++ tl))) hZ hzd hr0 (by omega) hz1 hd100 (by omega) hh X T hdep hu d3 d8 ⟨Ne.symm (hap.ne 2 4 rfl rfl rfl), Ne.symm (hap.ne 2 5 rfl rfl rfl), Ne.symm (hap.ne 2 6 rfl rfl rfl), Ne.symm (hap.ne 2 7 rfl rfl rfl), Ne.symm (hap.ne 2 8 rfl rfl rfl), Ne.symm (hap.ne 2 9 rfl rfl rfl), Ne.symm (hap.ne 2 10 rfl rfl rfl), Ne.symm (hap.ne 2 11 rfl rfl rfl), Ne.symm (hap.ne 2 12 rfl rfl rfl), True.intro⟩ ?_ ?_ (fun q hm => ?_) F3 (fun q hm => N3 q ?_) ?_)
  · refine List.forall_mem_cons.mpr ⟨(hap.ne 0 5 rfl rfl rfl), List.forall_mem_cons.mpr ⟨(hap.ne 1 5 rfl rfl rfl), List.forall_mem_cons.mpr ⟨(hap.ne 3 5 rfl rfl rfl), fun p hp => ?_⟩⟩⟩
    rcases List.mem_append.mp hp with hp | hp
    · exact hLx _ (em _ (.inr (.inl rfl))) p hp
    · exact hLk _ (em _ (.inr (.inl rfl))) p hp
  · refine List.forall_mem_cons.mpr ⟨(hap.ne 0 2 rfl rfl rfl), List.forall_mem_cons.mpr ⟨(hap.ne 1 2 rfl rfl rfl), List.forall_mem_cons.mpr ⟨fun e => (hap.ne 2 3 rfl rfl rfl) e.symm, fun p hp => ?_⟩⟩⟩
    rcases List.mem_append.mp hp with hp | hp
    · exact hLx _ (em _ (.inl rfl)) p hp
    · exact hLk _ (em _ (.inl rfl)) p hp
  · rw [List.mem_singleton.mp hm]; rfl
  · clear N3 N2 N1 N hap hap2 hK
    generalize a.led w.params vs nS n tn [.str (txt (mailOf ds (i + 1))) t1] np2 ++ tl = LED at *
    generalize cells9 L o1 o2 o3 o4 o5 o6 o7 o8 o9 = CS at *
    simp only [List.mem_cons, List.mem_append] at hm ⊢
    clear hds hps hd100 hZ hD hq hS hzd hzr hr0 hz1 hlen X T hdep hu d3 d4 d6 d7 d8 hsay F F1 F2 F3
    grind
  intro D ys o8' h4 tk4 hys d8n offD F4 N4
  dsimp only
  rw [hzr] at hys
  have oD := Off1.mem offD
  refine wpAny_execs_cons (turn_e (bl := D) (nb := ys.length) (ql := ql) (nq := nq) (o1 := o1) (o2 := o2) (o3 := o3) (o4 := o4) (o5 := o5) (o7 := o7) (o9 := o9) (tr := tr) (ds := ds) (zs := zs) (t := i) (lx := (sl, listOf vv.toArray ns) :: (zl, listOf vz.toArray nz) :: (dl, listOf vd.toArray nd) :: (lx ++ (a.led w.params vs nS n tn [.str (txt (mailOf ds (i + 1))) t1] np2 ++ tl))) hzd hzr hr3 hz1 hd100 (by omega) hq hys hh X T hdep hu d6 d8n (fun q hm => ?_) F4 (fun q hm => N4 q ?_) ?_)
  · rw [List.mem_singleton.mp hm]; exact hsay _ (.tail _ (.head _))
  · clear N4 N3 N2 N1 N hap hap2 hK offD oD
    generalize a.led w.params vs nS n tn [.str (txt (mailOf ds (i + 1))) t1] np2 ++ tl = LED at *
    generalize cells9 L o1 o2 o3 o4 o5 o6 o7 o8' o9 = CS at *
    simp only [List.mem_cons, List.mem_append] at hm ⊢
    clear hds hps hd100 hZ hD hq hS hzd hzr hr0 hz1 hlen X T hdep hu d3 d4 d6 d7 d8 hsay F F1 F2 F3 F4
    grind
  intro M ms h5 tk5 hms offM F5 N5
  dsimp only
  have oM := Off1.mem offM
  refine wpAny_execs_cons (turn_f (ml := M) (nm := ms.length) (nz := nz) (nd := nd) (o1 := o1) (o2 := o2) (o5 := o5) (o6 := o6) (o8 := o8') (o9 := o9) (tr := tr) (ds := ds) (zs := zs) (t := i + 1) (lx := (ql, listOf vq.toArray nq) :: (D, listOf ys.toArray ys.length) :: (sl, listOf vv.toArray ns) :: (lx ++ (a.led w.params vs nS n tn [.str (txt (mailOf ds (i + 1))) t1] np2 ++ tl))) hZ hD hms hzd hzr hr3 hz1 hh X T hdep hu d3 d4 d7 (fun q hm => ?_) F5 (fun q hm => N5 q ?_) ?_)
  · rcases List.mem_cons.mp hm with rfl | hm
    · exact hsay _ (.tail _ (.head _))
    · rw [List.mem_singleton.mp hm]; rfl
  · clear N5 N4 N3 N2 N1 N hap hap2 hK offD oD offM oM
    generalize a.led w.params vs nS n tn [.str (txt (mailOf ds (i + 1))) t1] np2 ++ tl = LED at *
    generalize cells9 L o1 o2 o3 o4 o5 o6 o7 o8' o9 = CS at *
    simp only [List.mem_cons, List.mem_append] at hm ⊢
    clear hds hps hd100 hZ hD hq hS hzd hzr hr0 hz1 hlen X T hdep hu d3 d4 d6 d7 d8 hsay F F1 F2 F3 F4 F5
    grind
  intro h6 tk6 F6 N6
  dsimp only
  refine wpAny_execs_cons (turn_g (sl := sl) (ns := ns) (ml := M) (nm := ms.length) (rows := rows) (tr := tr) (t := 0) (ms := mvsOf zs ds (i + 1) rows) (sn := seenOf zs ds rows i) (lx := (zl, listOf vz.toArray nz) :: (dl, listOf vd.toArray nd) :: (D, listOf ys.toArray ys.length) :: (cells9 L o1 o2 o3 o4 o5 o6 o7 o8' o9 ++ (lx ++ (a.led w.params vs nS n tn [.str (txt (mailOf ds (i + 1))) t1] np2 ++ tl)))) hms (by simp [mvsOf]) hr3 hS (by rw [hS.length]; simp only [seenOf, List.length_map, List.length_range]; omega) hh X T hdep hu ?_ ?_ (fun q hm => ?_) F6 (fun q hm => N6 q ?_) ?_)
  · exact fun e => oM (sl, listOf vv.toArray ns) (by simp) e.symm
  · refine List.forall_mem_cons.mpr ⟨fun e => (hap.ne 1 2 rfl rfl rfl) e.symm, List.forall_mem_cons.mpr ⟨fun e => (hap.ne 1 3 rfl rfl rfl) e.symm, List.forall_mem_cons.mpr ⟨fun e => oD (sl, listOf vv.toArray ns) (by simp) e.symm, fun p hp => ?_⟩⟩⟩
    rcases List.mem_append.mp hp with hp | hp
    · simp only [cells9, List.mem_cons, List.not_mem_nil, or_false] at hp
      rcases hp with rfl | rfl | rfl | rfl | rfl | rfl | rfl | rfl | rfl
      · exact Ne.symm (hap.ne 1 4 rfl rfl rfl)
      · exact Ne.symm (hap.ne 1 5 rfl rfl rfl)
      · exact Ne.symm (hap.ne 1 6 rfl rfl rfl)
      · exact Ne.symm (hap.ne 1 7 rfl rfl rfl)
      · exact Ne.symm (hap.ne 1 8 rfl rfl rfl)
      · exact Ne.symm (hap.ne 1 9 rfl rfl rfl)
      · exact Ne.symm (hap.ne 1 10 rfl rfl rfl)
      · exact Ne.symm (hap.ne 1 11 rfl rfl rfl)
      · exact Ne.symm (hap.ne 1 12 rfl rfl rfl)
    · rcases List.mem_append.mp hp with hp | hp
      · exact hLx _ (em _ (.inr (.inr (.inl rfl)))) p hp
      · exact hLk _ (em _ (.inr (.inr (.inl rfl)))) p hp
  · rcases List.mem_cons.mp hm with rfl | hm
    · exact hsay _ (.tail _ (.head _))
    · rcases List.mem_cons.mp hm with rfl | hm
      · rfl
      · rw [List.mem_singleton.mp hm]; exact hsay _ (.tail _ (.tail _ (.head _)))
  · clear N6 N5 N4 N3 N2 N1 N hap hap2 hK offD oD offM oM
    generalize a.led w.params vs nS n tn [.str (txt (mailOf ds (i + 1))) t1] np2 ++ tl = LED at *
    generalize cells9 L o1 o2 o3 o4 o5 o6 o7 o8' o9 = CS at *
    simp only [List.mem_cons, List.mem_append] at hm ⊢
    clear hds hps hd100 hZ hD hq hS hzd hzr hr0 hz1 hlen X T hdep hu d3 d4 d6 d7 d8 hsay F F1 F2 F3 F4 F5 F6
    grind
  intro h7 tk7 vv' ns' hS' F7 N7
  dsimp only
  refine wpAny_execs_cons (turn_h (bl := D) (c6 := some (.ref ql)) (o1 := o1) (o2 := o2) (o3 := o3) (o4 := o4) (o5 := o5) (o6 := o6) (o7 := o7) (o8 := o8') (o9 := o9) (lx := (sl, listOf vv'.toArray ns') :: (zl, listOf vz.toArray nz) :: (dl, listOf vd.toArray nd) :: (D, listOf ys.toArray ys.length) :: (lx ++ (a.led w.params vs nS n tn [.str (txt (mailOf ds (i + 1))) t1] np2 ++ tl))) hh X T hdep hu d6 d8n ?_ F7 (fun q hm => N7 q ?_) ?_)
  · refine List.forall_mem_cons.mpr ⟨(hap.ne 1 7 rfl rfl rfl), List.forall_mem_cons.mpr ⟨(hap.ne 2 7 rfl rfl rfl), List.forall_mem_cons.mpr ⟨(hap.ne 3 7 rfl rfl rfl), List.forall_mem_cons.mpr ⟨fun e => oD (L + 1 + 1 + 1 + 1 + 1 + 1, o6) (by simp [cells9]) e.symm, fun p hp => ?_⟩⟩⟩⟩
    rcases List.mem_append.mp hp with hp | hp
    · exact hLx _ (em _ (.inr (.inr (.inr rfl)))) p hp
    · exact hLk _ (em _ (.inr (.inr (.inr rfl)))) p hp
  · clear N7 N6 N5 N4 N3 N2 N1 N hap hap2 hK offD oD offM oM
    generalize a.led w.params vs nS n tn [.str (txt (mailOf ds (i + 1))) t1] np2 ++ tl = LED at *
    generalize cells9 L o1 o2 o3 o4 o5 o6 o7 o8' o9 = CS at *
    simp only [List.mem_cons, List.mem_append] at hm ⊢
    clear hds hps hd100 hZ hD hq hS hzd hzr hr0 hz1 hlen X T hdep hu d3 d4 d6 d7 d8 hsay F F1 F2 F3 F4 F5 F6 F7
    grind
  intro o6' h8 tk8 d6n F8 N8
  dsimp only
  refine wpAny_execs_nil (hK D M np2 ys.length ns' ys vv' o6' o8' t1 h8 tk8 hys (by rw [seenOf_succ]; exact hS') d6n d8n (hapL.new (vv := vv) (ns := ns) (vz := vz) (nz := nz) (vd := vd) (nd := nd) (o1 := o1) (o2 := o2) (o3 := o3) (o4 := o4) (o5 := o5) (o6 := o6) (o7 := o7) (o8 := o8') (o9 := o9) (fun q hm => Ne.symm (oD q ?_))) F8 (fun q hm => N8 q ?_))
  · clear N8 N7 N6 N5 N4 N3 N2 N1 N hap hap2 hK offD oD offM oM
    generalize a.led w.params vs nS n tn [.str (txt (mailOf ds (i + 1))) t1] np2 ++ tl = LED at *
    generalize cells9 L o1 o2 o3 o4 o5 o6 o7 o8' o9 = CS at *
    simp only [List.mem_cons, List.mem_append] at hm ⊢
    clear hds hps hd100 hZ hD hq hS hzd hzr hr0 hz1 hlen X T hdep hu d3 d4 d6 d7 d8 hsay F F1 F2 F3 F4 F5 F6 F7 F8
    grind
  · clear N8 N7 N6 N5 N4 N3 N2 N1 N hap hap2 hK offD oD offM oM
    unfold besides at hm
    generalize a.led w.params vs nS n tn [.str (txt (mailOf ds (i + 1))) t1] np2 ++ tl = LED at *
    generalize cells9 L o1 o2 o3 o4 o5 o6' o7 o8' o9 = CS at *
    simp only [List.mem_cons, List.mem_append] at hm ⊢
    clear hds hps hd100 hZ hD hq hS hzd hzr hr0 hz1 hlen X T hdep hu d3 d4 d6 d7 d8 hsay F F1 F2 F3 F4 F5 F6 F7 F8
    grind
end
end

noncomputable section
theorem walkOff_C40 : True := by
  w_top off
  exact True.intro
section
variable {A : Around} {s : Shared} {g : Heap} {L : Nat} {m : Str → Option Value} {p : Program} {loose : List Str} {mean : ExcName → Option Value} {mg mb : Str → Option Value} {Q : Flow → Shared → Prop} {E : Value → Shared → Prop}
  {lx : List (Addr × Obj)}
set_option maxHeartbeats 2000000 in
theorem law_s15 {wd : Nat} {tw : Tok} (hw1 : 2 ≤ wd) (hw2 : wd ≤ 7) (hh : A.handled = none) (X : (hdK.heap_1 w.params).In g) (T : Top p loose mean mg mb g)
    (hsay : Says m [(Str.ofString "width", .int (wd : Int) tw)])
    (F : Fr g L s.heap m) (N : News g L s.heap lx)
    (hQ : ∀ h' tk t, Fr g L h' (fun y => if y = Str.ofString "full" then some (.int (2 ^ (24 * wd) - 1) t) else m y) → News g L h' lx → Q .next { s with heap := h', toks := tk }) :
    wpAny (model prog w) A (exec (stmtLaw w.params 15) (envLaw w.params L)) Q E s := by
  dsimp only [stmtLaw, envLaw, law222, Option.getD, List.getElem?_cons_succ, List.getElem?_cons_zero]
  have F := Mine.Fr.said F hsay
  repeat walk1
  with_reducible rename Fr _ _ _ _ => F7
  with_reducible rename News _ _ _ _ => N7
  have e2 : ((24 : Int) * (wd : Int)).toNat = 24 * wd := by omega
  rw [e2, Int.one_mul] at F7
  have e9 : ∀ v : Value, (fun y => if y = Str.ofString "full" then some v else kstB m [(Str.ofString "width", .int (wd : Int) tw)] y) = fun y => if y = Str.ofString "full" then some v else m y := by
    intro v
    funext y
    rw [kstB_eq hsay fun _ => rfl]
  rw [e9] at F7
  exact hQ _ _ _ F7 N7
end
end

noncomputable section
theorem walkOff_C41 : True := by
  w_top off
  exact True.intro
section
variable {A : Around} {s : Shared} {g : Heap} {L : Nat} {m : Str → Option Value} {p : Program} {loose : List Str} {mean : ExcName → Option Value} {mg mb : Str → Option Value} {E : Value → Shared → Prop}
  {o1 o2 o3 o4 o5 o6 o7 o8 o9 : Obj} {tl lx : List (Addr × Obj)}
set_option maxHeartbeats 2000000 in
theorem turn_0 {K : Unit → Shared → Prop} {px : Pos} {z : Int} {u : Tok} (hh : A.handled = none) (X : (hdK.heap_1 w.params).In g) (T : Top p loose mean mg mb g)
    {c7 : Option Value} (d7 : o7.data = .cell c7) (hx7 : ∀ p ∈ lx, p.1 ≠ L + 1 + 1 + 1 + 1 + 1 + 1 + 1)
    (F : Fr g L s.heap m) (N : News g L s.heap (cells9 L o1 o2 o3 o4 o5 o6 o7 o8 o9 ++ lx))
    (hK : ∀ o7' h' tk, cellV o7' (.int z u) → Fr g L h' m → News g L h' (cells9 L o1 o2 o3 o4 o5 o6 o7' o8 o9 ++ lx) → K () { s with heap := h', toks := tk }) :
    wpAny (model prog w) A (assign (.Name (Str.ofString "turn") px) (envLaw w.params L) (.int z u)) K E s := by
  have hcLine : cLine = 9900 := rfl
  have hrec : recursionLimit = 1000 := rfl
  simp only [cells9, List.cons_append, List.nil_append] at N
  dsimp only [envLaw, law222]
  repeat walk1
  rename_i d8
  with_reducible rename Fr _ _ _ _ => F1
  with_reducible rename News _ _ _ _ => N1
  exact hK _ _ _ d8 F1 N1
theorem Apt.own {ql sl zl dl : Nat} {led lx own : List (Addr × Obj)} (h : Apt L ql sl zl dl led lx) (hk : ∀ x ∈ keys L ql sl zl dl, ∀ p ∈ own, @Ne Nat p.1 x) (hl : ∀ q ∈ led, ∀ p ∈ own, p.1 ≠ q.1) : Apt L ql sl zl dl led (lx ++ own) :=
  ⟨h.nd, h.kl, fun x hx p hp => (List.mem_append.mp hp).elim (h.kx x hx p) (hk x hx p), fun q hq p hp => (List.mem_append.mp hq).elim (fun hq => h.lx q hq p hp) (fun hq => Ne.symm (hl p hp q hq))⟩
theorem Apt.unown {ql sl zl dl : Nat} {led lx own : List (Addr × Obj)} (h : Apt L ql sl zl dl led (lx ++ own)) : Apt L ql sl zl dl led lx :=
  ⟨h.nd, h.kl, fun x hx p hp => h.kx x hx p (List.mem_append_left _ hp), fun q hq p hp => h.lx q (List.mem_append_left _ hq) p hp⟩
end
end

noncomputable section
theorem walkOff_C42 : True := by
  w_top off
  exact True.intro
section
variable {A : Around} {s : Shared} {g : Heap} {L : Nat} {m : Str → Option Value} {p : Program} {loose : List Str} {mean : ExcName → Option Value} {mg mb : Str → Option Value} {Q : Flow → Shared → Prop}
  {o1 o2 o3 o4 o5 o6 o7 o8 o9 : Obj} {tl lx : List (Addr × Obj)}
inductive J14 (P : Params) (a : LexP) (L : Nat) (vs : List Value) (nS rows : Nat) (n : Int) (tn : Tok) (ps : List (Nat × List Nat)) (ds zs : List Nat) (sl zl dl nz nd : Nat) (vz vd : List Value) (o1 o2 o3 o4 o5 o9 : Obj) (m : Str → Option Value) (tl lx : List (Addr × Obj)) (i : Nat) (m₁ : Str → Option Value) : List (Addr × Obj) → Prop
  | mk (ql nq ns np : Nat) (vq vv : List Value) (o6 o7 o8 : Obj) (t0 : Tok) (c7 c8 : Option Value) (hq : IntsAre vq (colsOf zs (ds.map (· + i)) rows)) (hS : IntsAre vv (seenOf zs ds rows i)) (d6 : cellV o6 (.ref ql)) (d7 : o7.data = .cell c7) (d8 : o8.data = .cell c8)
      (hap : Apt L ql sl zl dl (a.led P vs nS n tn [.str (txt (mailAt ps i)) t0] np ++ tl) lx) (hm : ∀ y, y ≠ Str.ofString "mail" → y ≠ Str.ofString "moves" → m₁ y = m y) :
      J14 P a L vs nS rows n tn ps ds zs sl zl dl nz nd vz vd o1 o2 o3 o4 o5 o9 m tl lx i m₁ ((a.led P vs nS n tn [.str (txt (mailAt ps i)) t0] np ++ tl) ++ besides L ql nq sl ns zl nz dl nd vq vv vz vd o1 o2 o3 o4 o5 o6 o7 o8 o9 lx)
theorem keys_mem {ql nq sl ns zl nz dl nd : Nat} {vq vv vz vd : List Value} {x : Nat} (hx : x ∈ keys L ql sl zl dl) : ∃ q ∈ besides L ql nq sl ns zl nz dl nd vq vv vz vd o1 o2 o3 o4 o5 o6 o7 o8 o9 lx, q.1 = x := by
  have h : x ∈ (besides L ql nq sl ns zl nz dl nd vq vv vz vd o1 o2 o3 o4 o5 o6 o7 o8 o9 lx).map (·.1) := by
    have e : (besides L ql nq sl ns zl nz dl nd vq vv vz vd o1 o2 o3 o4 o5 o6 o7 o8 o9 lx).map (·.1) = keys L ql sl zl dl ++ lx.map (·.1) := rfl
    rw [e]; exact List.mem_append_left _ hx
  exact List.mem_map.mp h
theorem besides_own {led own : List (Addr × Obj)} {ql nq sl ns zl nz dl nd : Nat} {vq vv vz vd : List Value} {q : Addr × Obj} (hm : q ∈ (led ++ besides L ql nq sl ns zl nz dl nd vq vv vz vd o1 o2 o3 o4 o5 o6 o7 o8 o9 lx) ++ own) : q ∈ led ++ besides L ql nq sl ns zl nz dl nd vq vv vz vd o1 o2 o3 o4 o5 o6 o7 o8 o9 (lx ++ own) := by
  rw [List.append_assoc] at hm
  exact hm
theorem perm14 {α : Type} {LED CS lx : List α} {a b c d : α} : List.Perm (CS ++ (LED ++ (a :: b :: c :: d :: lx))) (LED ++ (a :: b :: c :: d :: (CS ++ lx))) := by
  have h := List.perm_append_comm_assoc CS (LED ++ [a, b, c, d]) lx
  rw [List.append_assoc, List.append_assoc] at h
  exact h
theorem perm14b {α : Type} {LED CS lx own : List α} {a b c d : α} : List.Perm (CS ++ (a :: b :: c :: d :: ((lx ++ own) ++ LED))) (LED ++ (a :: b :: c :: d :: (CS ++ (lx ++ own)))) := by
  have h1 : List.Perm ((CS ++ ([a, b, c, d] ++ (lx ++ own))) ++ LED) (LED ++ (CS ++ ([a, b, c, d] ++ (lx ++ own)))) := List.perm_append_comm
  rw [List.append_assoc, List.append_assoc] at h1
  exact h1.trans ((List.perm_append_comm_assoc CS [a, b, c, d] (lx ++ own)).append_left LED)
theorem perm14c {α : Type} {LED CS lx own : List α} {a b c d : α} : List.Perm (CS ++ (a :: b :: c :: d :: ((lx ++ own) ++ LED))) ((LED ++ (a :: b :: c :: d :: (CS ++ lx))) ++ own) := by
  have h := perm14b (LED := LED) (CS := CS) (lx := lx) (own := own) (a := a) (b := b) (c := c) (d := d)
  have e : (LED ++ (a :: b :: c :: d :: (CS ++ lx))) ++ own = LED ++ (a :: b :: c :: d :: (CS ++ (lx ++ own))) := by simp only [List.append_assoc, List.cons_append]
  rw [e]
  exact h
theorem hx7 {led : List (Addr × Obj)} {ql nq sl ns zl nz dl nd : Nat} {vq vv vz vd : List Value} (h : Apt L ql sl zl dl led lx) : ∀ p ∈ (ql, listOf vq.toArray nq) :: (sl, listOf vv.toArray ns) :: (zl, listOf vz.toArray nz) :: (dl, listOf vd.toArray nd) :: (lx ++ led), p.1 ≠ L + 1 + 1 + 1 + 1 + 1 + 1 + 1 := by
  have hk : L + 1 + 1 + 1 + 1 + 1 + 1 + 1 ∈ keys L ql sl zl dl := by simp [keys]
  refine List.forall_mem_cons.mpr ⟨h.ne 0 6 rfl rfl rfl, List.forall_mem_cons.mpr ⟨h.ne 1 6 rfl rfl rfl, List.forall_mem_cons.mpr ⟨h.ne 2 6 rfl rfl rfl, List.forall_mem_cons.mpr ⟨h.ne 3 6 rfl rfl rfl, fun p hp => ?_⟩⟩⟩⟩
  rcases List.mem_append.mp hp with hp | hp
  · exact h.kx _ hk p hp
  · exact h.kl _ hk p hp
set_option maxHeartbeats 4000000 in
theorem law_s14 {a : LexP} {vs : List Value} {nS np rows : Nat} {n : Int} {tn t0 t5 tr : Tok} {ps : List (Nat × List Nat)} {ds zs : List Nat} {ql sl zl dl nq ns nz nd : Nat} {vq vv vz vd : List Value}
    (ha : a.Ok tl) (hds : ds = ps.map (·.1)) (hps : ∀ p ∈ ps, 1 ≤ p.1 ∧ IsEnd p.2) (hd100 : ∀ d ∈ ds, d ≤ 100) (hZ : IntsAre vz (asInts zs)) (hD : IntsAre vd (asInts ds)) (hq : IntsAre vq (colsOf zs ds rows)) (hS : IntsAre vv [])
    (hzd : zs.length = ds.length) (hzr : zs.length = rows) (hr3 : rows ≤ 3) (hr0 : ds ≠ []) (hz1 : ∀ z ∈ zs, 0 < z ∧ z ≤ 10) (hlen : (rowsOf ps).length ≤ 10000)
    (hh : A.handled = none) (X : (hdK.heap_1 w.params).In g) (T : Top p loose mean mg mb g) (hdep : A.depth + 200 < recursionLimit) (hu : A.units + 3000 < cLine)
    (d3 : cellV o3 (.ref zl)) (d4 : cellV o4 (.ref dl)) (d5 : cellV o5 (.int ((2 ^ rows : Nat) : Int) t5)) (d6 : cellV o6 (.ref ql)) {c7 c8 : Option Value} (d7 : o7.data = .cell c7) (d8 : o8.data = .cell c8)
    (hap : Apt L ql sl zl dl (a.led w.params vs nS n tn [.str (txt (rowsOf ps)) t0] np ++ tl) lx)
    (hsay : Says m [(Str.ofString "lexer", .ref a.x), (Str.ofString "rows", .int (rows : Int) tr), (Str.ofString "seen", .ref sl)])
    (F : Fr g L s.heap m) (N : News g L s.heap ((a.led w.params vs nS n tn [.str (txt (rowsOf ps)) t0] np ++ tl) ++ besides L ql nq sl ns zl nz dl nd vq vv vz vd o1 o2 o3 o4 o5 o6 o7 o8 o9 lx))
    (hQ : ∀ h' tk m' news, J14 w.params a L vs nS rows n tn ps ds zs sl zl dl nz nd vz vd o1 o2 o3 o4 o5 o9 m tl lx (2 ^ rows) m' news → Fr g L h' m' → News g L h' news → Q .next { s with heap := h', toks := tk }) :
    wpAny (model prog w) A (exec (stmtLaw w.params 14) (envLaw w.params L)) Q (fun _ _ => False) s := by
  have hcLine : cLine = 9900 := rfl
  have hrec : recursionLimit = 1000 := rfl
  have hp8 : 2 ^ rows ≤ 8 := Nat.pow_le_pow_right (n := 2) (by decide) hr3
  have J0 : J14 w.params a L vs nS rows n tn ps ds zs sl zl dl nz nd vz vd o1 o2 o3 o4 o5 o9 m tl lx 0 m ((a.led w.params vs nS n tn [.str (txt (rowsOf ps)) t0] np ++ tl) ++ besides L ql nq sl ns zl nz dl nd vq vv vz vd o1 o2 o3 o4 o5 o6 o7 o8 o9 lx) :=
    ⟨ql, nq, ns, np, vq, vv, o6, o7, o8, t0, c7, c8, by simpa using hq, hS, d6, d7, d8, hap, fun y _ _ => rfl⟩
  have N1 : News g L s.heap (cells9 L o1 o2 o3 o4 o5 o6 o7 o8 o9 ++ ((a.led w.params vs nS n tn [.str (txt (rowsOf ps)) t0] np ++ tl) ++ ((ql, listOf vq.toArray nq) :: (sl, listOf vv.toArray ns) :: (zl, listOf vz.toArray nz) :: (dl, listOf vd.toArray nd) :: lx))) := fun q hm => N q (perm14.mem_iff.mp hm)
  generalize hR0 : (a.led w.params vs nS n tn [.str (txt (rowsOf ps)) t0] np ++ tl) ++ ((ql, listOf vq.toArray nq) :: (sl, listOf vv.toArray ns) :: (zl, listOf vz.toArray nz) :: (dl, listOf vd.toArray nd) :: lx) = R0 at N1
  have N2 := N1
  clear N
  simp only [cells9, List.cons_append, List.nil_append] at N1
  dsimp only [stmtLaw, envLaw, law222, Option.getD, List.getElem?_cons_succ, List.getElem?_cons_zero]
  refine For_turns F ?_
  clear N2
  repeat walk1
  with_reducible rename IsRange _ _ _ _ _ _ _ _ => hR
  with_reducible rename Fr _ _ _ _ => F2
  with_reducible rename News _ _ _ _ => N2
  have N3 := fun (q : Addr × Obj) (hm : q ∈ (a.led w.params vs nS n tn [.str (txt (rowsOf ps)) t0] np ++ tl) ++ besides L ql nq sl ns zl nz dl nd vq vv vz vd o1 o2 o3 o4 o5 o6 o7 o8 o9 lx) => N2 q (by
    show q ∈ cells9 L o1 o2 o3 o4 o5 o6 o7 o8 o9 ++ R0
    rw [← hR0]
    exact perm14.mem_iff.mpr hm)
  rw [← Int.natCast_succ] at hR
  refine loopRangeC (a := 1) (b := 2 ^ rows + 1) hh (by decide) (by omega) hR F2 N3 (J14 w.params a L vs nS rows n tn ps ds zs sl zl dl nz nd vz vd o1 o2 o3 o4 o5 o9 m tl lx) J0 ?_ ?_
  · intro i u m₁ news₁ h tk own kn hi hJ F4 N4 hsep hkn
    have hap0 := hap
    clear hap
    obtain ⟨ql, nq, ns, np, vq, vv, o6, o7, o8, t0, c7, c8, hq, hS, d6, d7, d8, hap, hm1⟩ := hJ
    have hsepk : ∀ x ∈ keys L ql sl zl dl, ∀ p ∈ own, @Ne Nat p.1 x := fun x hx p hp => by
      obtain ⟨q, hq, e⟩ := keys_mem (nq := nq) (ns := ns) (nz := nz) (nd := nd) (vq := vq) (vv := vv) (vz := vz) (vd := vd) (o1 := o1) (o2 := o2) (o3 := o3) (o4 := o4) (o5 := o5) (o6 := o6) (o7 := o7) (o8 := o8) (o9 := o9) (lx := lx) hx
      rw [← e]; exact hsep q (List.mem_append_right _ hq) p hp
    have hsepl : ∀ q ∈ a.led w.params vs nS n tn [.str (txt (mailAt ps i)) t0] np ++ tl, ∀ p ∈ own, p.1 ≠ q.1 := fun q hq p hp => hsep q (List.mem_append_left _ hq) p hp
    refine turn_0 (o1 := o1) (o2 := o2) (o3 := o3) (o4 := o4) (o5 := o5) (o6 := o6) (o8 := o8) (o9 := o9) (lx := (ql, listOf vq.toArray nq) :: (sl, listOf vv.toArray ns) :: (zl, listOf vz.toArray nz) :: (dl, listOf vd.toArray nd) :: (lx ++ own ++ (a.led w.params vs nS n tn [.str (txt (mailAt ps i)) t0] np ++ tl))) hh X T d7 ?_ F4 (fun q hm => N4 q ?_) ?_
    · exact hx7 (hap.own hsepk hsepl)
    · exact perm14c.mem_iff.mp hm
    intro o7n h5 tk5 d7n F5 N5
    refine law_turn (o1 := o1) (o2 := o2) (o5 := o5) (o9 := o9) (nq := nq) (ns := ns) (nz := nz) (nd := nd) (lx := lx ++ own) (tu := u) (tr := tr) ha hds hps hd100 (by omega) hZ hD hq hS hzd hzr hr3 hr0 hz1 ?_ hh X T hdep hu d3 d4 d6 (by rw [Nat.add_comm i 1]; exact d7n) d8 (hap.own hsepk hsepl) ?_ F5 (fun q hm => N5 q ?_) ?_
    · unfold mailAt
      split
      · exact hlen
      · have := mailOf_len ds i (fun d hd => by have := hd100 d hd; omega) (by omega)
        rw [← hds]
        omega
    · intro q hq'
      rw [hm1 q.1 ?_ ?_]
      · exact hsay q hq'
      all_goals
        rcases List.mem_cons.mp hq' with rfl | hq'
        · dsimp only; decide
        · rcases List.mem_cons.mp hq' with rfl | hq'
          · dsimp only; decide
          · rw [List.mem_singleton.mp hq']; dsimp only; decide
    · exact perm14b.mem_iff.mpr hm
    · intro D M np' nq' ns' ys vv' o6' o8' t1 h6 tk6 hys hvv d6' d8' hap' F6 N6
      refine hkn h6 tk6 _ ((a.led w.params vs nS n tn [.str (txt (mailAt ps (i + 1))) t1] np' ++ tl) ++ besides L D nq' sl ns' zl nz dl nd ys vv' vz vd o1 o2 o3 o4 o5 o6' o7n o8' o9 lx) F6 (fun q hm => N6 q ?_) (fun q hq p hp => ?_) ⟨D, nq', ns', np', ys, vv', o6', o7n, o8', t1, _, _, hys, hvv, d6', d7n, d8', ?_, fun y h1 h2 => ?_⟩
      · rw [show mailAt ps (i + 1) = mailOf ds (i + 1) by rw [hds]; rfl] at hm
        exact besides_own hm
      · rw [show mailAt ps (i + 1) = mailOf ds (i + 1) by rw [hds]; rfl] at hq
        rcases List.mem_append.mp hq with hq | hq
        · exact Ne.symm (hap'.lx p (List.mem_append_right _ hp) q hq)
        · rcases keys_of hq with hk | hk
          · exact hap'.kx _ hk p (List.mem_append_right _ hp)
          · exact hsep q (List.mem_append_right _ (by simp [besides, hk])) p hp
      · rw [show mailAt ps (i + 1) = mailOf ds (i + 1) by rw [hds]; rfl]
        exact hap'.unown
      · show (if y = Str.ofString "moves" then _ else if y = Str.ofString "mail" then _ else m₁ y) = m y
        rw [if_neg h2, if_neg h1]; exact hm1 y h1 h2
  · intro h tk m₁ news₁ hJ F4 N4
    exact hQ h tk m₁ news₁ hJ F4 N4
end
end

noncomputable section
theorem walkOff_C43 : True := by
  w_top off
  exact True.intro
noncomputable def body17 (P : Params) : { b : List Stmt // loopBody (stmtLaw P 17) = b } := ⟨_, rfl⟩
theorem perm17a {α : Type} {z d : α} {cs lx tl : List α} {q : α} (hm : q ∈ z :: d :: (cs ++ (lx ++ tl))) : q ∈ tl ++ (z :: d :: (cs ++ lx)) := by
  simp only [List.mem_cons, List.mem_append] at hm ⊢
  grind
theorem perm17b {α : Type} {r z d : α} {cs lx tl : List α} {q : α} (hm : q ∈ r :: z :: d :: (cs ++ (lx ++ tl))) : q ∈ (r :: tl) ++ (z :: d :: (cs ++ lx)) := by
  simp only [List.mem_cons, List.mem_append] at hm ⊢
  grind
theorem perm17c {α : Type} {r z d : α} {cs lx tl : List α} {q : α} (hm : q ∈ tl ++ (z :: d :: (cs ++ lx))) : q ∈ r :: z :: d :: (cs ++ (lx ++ tl)) := by
  simp only [List.mem_cons, List.mem_append] at hm ⊢
  grind
theorem perm17d {α : Type} {z d : α} {cs lx tl : List α} {q : α} (hm : q ∈ tl ++ (z :: d :: (cs ++ lx))) : q ∈ z :: d :: (cs ++ (lx ++ tl)) := by
  simp only [List.mem_cons, List.mem_append] at hm ⊢
  grind
section
variable {A : Around} {s : Shared} {g : Heap} {L : Nat} {m : Str → Option Value} {p : Program} {loose : List Str} {mean : ExcName → Option Value} {mg mb : Str → Option Value} {K : Flow → Shared → Prop} {E : Value → Shared → Prop}
  {o1 o2 o3 o4 o5 o6 o7 o8 o9 : Obj} {tl lx : List (Addr × Obj)}
set_option maxHeartbeats 4000000 in
theorem law_part {rows wd k zl nz dl nd : Nat} {tr tw tf tt tk0 : Tok} {total : Int} {ds zs : List Nat} {vz vd : List Value} (hw1 : 2 ≤ wd) (hw2 : wd ≤ 7) (hk : k < rows) (hr3 : rows ≤ 3) (hzr : zs.length = rows) (hzd : zs.length = ds.length) (hz1 : ∀ z ∈ zs, 2 ≤ z ∧ z ≤ 8 ∧ z ∣ 24) (hd100 : ∀ d ∈ ds, d ≤ 100)
    (hZ : IntsAre vz (asInts zs)) (hD : IntsAre vd (asInts ds)) (ht0 : 0 ≤ total) (htb : total ≤ 2 ^ 300)
    (hh : A.handled = none) (X : (hdK.heap_1 w.params).In g) (T : Top p loose mean mg mb g) (hdep : A.depth + 200 < recursionLimit) (hu : A.units + 3000 < cLine)
    (hC1 : ∀ g, (hdK.heap_1 w.params).In g → CodeHd g 58 54) (hC2 : ∀ g, (hdK.heap_1 w.params).In g → CodeHd g 65 61) (ht : TabsOk tl)
    (d3 : cellV o3 (.ref zl)) (d4 : cellV o4 (.ref dl))
    (hap : ∀ q ∈ (zl, listOf vz.toArray nz) :: (dl, listOf vd.toArray nd) :: (cells9 L o1 o2 o3 o4 o5 o6 o7 o8 o9 ++ lx), ∀ p ∈ tl, p.1 ≠ q.1)
    (hsay : Says m [(Str.ofString "k", .int (k : Int) tk0), (Str.ofString "width", .int (wd : Int) tw), (Str.ofString "full", .int (fulls wd 24) tf), (Str.ofString "total", .int total tt)])
    (F : Fr g L s.heap m) (N : News g L s.heap (tl ++ ((zl, listOf vz.toArray nz) :: (dl, listOf vd.toArray nd) :: (cells9 L o1 o2 o3 o4 o5 o6 o7 o8 o9 ++ lx))))
    (hK : ∀ h' tk m' tl' t', TabsOk tl' → (∀ q ∈ (zl, listOf vz.toArray nz) :: (dl, listOf vd.toArray nd) :: (cells9 L o1 o2 o3 o4 o5 o6 o7 o8 o9 ++ lx), ∀ p ∈ tl', p.1 ≠ q.1) →
      (∀ y, y ≠ Str.ofString "part" → y ≠ Str.ofString "quotient" → y ≠ Str.ofString "rest" → y ≠ Str.ofString "lag" → y ≠ Str.ofString "wait" → y ≠ Str.ofString "total" → m' y = m y) →
      m' (Str.ofString "total") = some (.int (total + (fulls wd 24 / fulls wd (zs.getD k 0)) * 2 ^ (wd * ((-1 - (ds.getD k 0 : Int)) % (zs.getD k 0 : Int)).toNat)) t') →
      Fr g L h' m' → News g L h' (tl' ++ ((zl, listOf vz.toArray nz) :: (dl, listOf vd.toArray nd) :: (cells9 L o1 o2 o3 o4 o5 o6 o7 o8 o9 ++ lx))) → K .next { s with heap := h', toks := tk }) :
    wpAny (model prog w) A (execs (body17 w.params).1 (envLaw w.params L)) K E s := by
  have hcLine : cLine = 9900 := rfl
  have hrec : recursionLimit = 1000 := rfl
  have hkz : k < zs.length := by omega
  have hkd : k < ds.length := by omega
  have hk3 : (k : Int) < (zs.length : Int) := by omega
  have hk4 : (k : Int) < (ds.length : Int) := by omega
  have hk5 : (k : Int) < ((asInts zs).length : Int) := by rw [show (asInts zs).length = zs.length by simp]; omega
  have hk6 : (k : Int) < ((asInts ds).length : Int) := by rw [show (asInts ds).length = ds.length by simp]; omega
  obtain ⟨hz2, hz8, hz24⟩ := hz1 _ (List.getElem_mem hkz)
  have ez : (asInts zs).getD (k : Int).toNat 0 = ((zs[k] : Nat) : Int) := by rw [Int.toNat_natCast]; exact asInts_getD hkz
  have ed : (asInts ds).getD (k : Int).toNat 0 = ((ds[k] : Nat) : Int) := by rw [Int.toNat_natCast]; exact asInts_getD hkd
  have hd0 := hd100 _ (List.getElem_mem hkd)
  have hz9 : 0 ≤ (asInts zs).getD (k : Int).toNat 0 * (wd : Int) := by rw [ez, ← Int.natCast_mul]; omega
  have hz10 : (asInts zs).getD (k : Int).toNat 0 * (wd : Int) ≤ 100 := by
    rw [ez, ← Int.natCast_mul]
    have := Nat.mul_le_mul hz8 hw2
    omega
  have hz11 : ((asInts zs).getD (k : Int).toNat 0) ≤ 8 := by rw [ez]; omega
  have hz12 : 0 ≤ ((asInts zs).getD (k : Int).toNat 0) := by rw [ez]; omega
  dsimp only [body17, loopBody, stmtLaw, envLaw, law222, Option.getD, List.getElem?_cons_succ, List.getElem?_cons_zero]
  have F := Mine.Fr.said F hsay
  have N0 := N
  have N1 : News g L s.heap ((zl, listOf vz.toArray nz) :: (dl, listOf vd.toArray nd) :: (cells9 L o1 o2 o3 o4 o5 o6 o7 o8 o9 ++ (lx ++ tl))) := fun q hm => N q (perm17a hm)
  clear N
  generalize hRt : lx ++ tl = RT at N1
  simp only [cells9, List.cons_append, List.nil_append] at N1
  clear N0
  repeat walk1
  have e1 : (1 : Int) * 2 ^ ((asInts zs).getD (k : Int).toNat 0 * (wd : Int)).toNat - 1 = fulls wd zs[k] := by
    rw [ez, Int.one_mul, ← Int.natCast_mul, Int.toNat_natCast]
  with_reducible rename Fr _ _ _ _ => F2
  with_reducible rename News _ _ _ _ => N2
  rw [e1] at F2
  rw [e1]
  have hp0 := fulls_pos (wd := wd) (z := zs[k]) hw1 hz2
  have hb7 : zs[k] * wd ≤ 56 := Nat.mul_le_mul hz8 hw2
  refine Meets.call ((zl, listOf vz.toArray nz) :: (dl, listOf vd.toArray nd) :: (cells9 L o1 o2 o3 o4 o5 o6 o7 o8 o9 ++ lx)) (int_divmod (w := w) (prog := prog) (fulls_nonneg wd 24) hp0 (Nat.le_trans (fulls_bits wd zs[k]).2 (by omega)) (fulls_figs hw1 hz2) hC1 hC2 ht) F2 N2 X T (fun p hp => ?_) (fun p hp => ?_) hap hh (by omega) (by omega) ?_
  · have hm : p ∈ (zl, listOf vz.toArray nz) :: (dl, listOf vd.toArray nd) :: (cells9 L o1 o2 o3 o4 o5 o6 o7 o8 o9 ++ RT) := by
      rw [← hRt]; exact perm17d (List.mem_append_left _ hp)
    exact hm
  · have hm : p ∈ (zl, listOf vz.toArray nz) :: (dl, listOf vd.toArray nd) :: (cells9 L o1 o2 o3 o4 o5 o6 o7 o8 o9 ++ RT) := by
      rw [← hRt]; exact perm17d (List.mem_append_right _ hp)
    exact hm
  intro n₁ v l₁ h₂ tk₂ hp F3 N3 p1 p2 p3 p4
  obtain ⟨r, q1, q2, tl2, hr, rfl, ht2, rfl⟩ := hp
  rw [fulls_mod hz24] at N3
  have eQ : fulls wd 24 / fulls wd zs[k] * fulls wd zs[k] = fulls wd 24 := Int.ediv_mul_cancel (Int.dvd_of_emod_eq_zero (fulls_mod hz24))
  have hQ0 : 0 ≤ fulls wd 24 / fulls wd zs[k] := Int.ediv_nonneg (fulls_nonneg wd 24) (Int.le_of_lt hp0)
  generalize hQ : fulls wd 24 / fulls wd zs[k] = QQ at *
  have N4 : News g L h₂ ((r, pairO (.int QQ q1) (.int 0 q2)) :: (zl, listOf vz.toArray nz) :: (dl, listOf vd.toArray nd) :: (cells9 L o1 o2 o3 o4 o5 o6 o7 o8 o9 ++ (lx ++ tl2))) := fun q hm => N3 q (perm17b hm)
  clear N3 N2 F2
  generalize hRt2 : lx ++ tl2 = RT2 at N4
  simp only [cells9, List.cons_append, List.nil_append] at N4
  repeat walk1
  refine mul_int ?_ (IntMulOk.of_right (Nat.le_trans (fulls_bits wd zs[k]).2 (by omega)))
  rw [eQ]
  iterate 2 walk1
  rw [bne_self_eq_false]
  clear e1 hap
  repeat walk1
  rw [ez, ed]
  with_reducible rename Fr _ _ _ _ => F5
  with_reducible rename News _ _ _ _ => N5
  have hbz : Builtin.Int.intBits ((zs[k] : Nat) : Int) ≤ 64 := intBits_le_64 (by omega) (by omega)
  refine Meets.call ((zl, listOf vz.toArray nz) :: (dl, listOf vd.toArray nd) :: (cells9 L o1 o2 o3 o4 o5 o6 o7 o8 o9 ++ lx)) (int_divmod_neg (w := w) (prog := prog) (a := -1 - ((ds[k] : Nat) : Int)) (b := ((zs[k] : Nat) : Int)) (by omega) (by omega) (by omega) (by
    rw [show (-1 : Int) - (-1 - ((ds[k] : Nat) : Int)) = ((ds[k] : Nat) : Int) by omega]
    exact small_figs (by omega) hz2) hC1 hC2 ht2) F5 N5 X T (fun p hp => ?_) (fun p hp => ?_) (fun q hq p hp => p4 q hq p (.tail _ hp)) hh (by omega) (by omega) ?_
  · have hm : p ∈ (r, pairO (.int QQ q1) (.int 0 q2)) :: (zl, listOf vz.toArray nz) :: (dl, listOf vd.toArray nd) :: (cells9 L o1 o2 o3 o4 o5 o6 o7 o8 o9 ++ RT2) := by
      rw [← hRt2]; exact perm17c (List.mem_append_left _ hp)
    exact hm
  · have hm : p ∈ (r, pairO (.int QQ q1) (.int 0 q2)) :: (zl, listOf vz.toArray nz) :: (dl, listOf vd.toArray nd) :: (cells9 L o1 o2 o3 o4 o5 o6 o7 o8 o9 ++ RT2) := by
      rw [← hRt2]; exact perm17c (List.mem_append_right _ hp)
    exact hm
  intro n₂ v l₂ h₃ tk₃ hp F6 N6 p5 p6 p7 p8
  obtain ⟨r', q3, q4, tl3, hr', rfl, ht3, rfl⟩ := hp
  have eW : (-1 - ((ds[k] : Nat) : Int)) / ((zs[k] : Nat) : Int) * ((zs[k] : Nat) : Int) + (-1 - ((ds[k] : Nat) : Int)) % ((zs[k] : Nat) : Int) = -1 - ((ds[k] : Nat) : Int) := Int.ediv_mul_add_emod ..
  have hW0 : 0 ≤ (-1 - ((ds[k] : Nat) : Int)) % ((zs[k] : Nat) : Int) := Int.emod_nonneg _ (by omega)
  have hW1 : (-1 - ((ds[k] : Nat) : Int)) % ((zs[k] : Nat) : Int) < ((zs[k] : Nat) : Int) := Int.emod_lt_of_pos _ (by omega)
  generalize hWW : (-1 - ((ds[k] : Nat) : Int)) % ((zs[k] : Nat) : Int) = WW at *
  have hV : -101 ≤ (-1 - ((ds[k] : Nat) : Int)) / ((zs[k] : Nat) : Int) ∧ (-1 - ((ds[k] : Nat) : Int)) / ((zs[k] : Nat) : Int) ≤ 0 := by
    constructor
    · exact (Int.le_ediv_iff_mul_le (by omega)).mpr (by omega)
    · exact Int.le_of_lt (Int.ediv_neg_of_neg_of_pos (by omega) (by omega))
  generalize hVV : (-1 - ((ds[k] : Nat) : Int)) / ((zs[k] : Nat) : Int) = VV at *
  have N7 : News g L h₃ ((r', pairO (.int VV q3) (.int WW q4)) :: (zl, listOf vz.toArray nz) :: (dl, listOf vd.toArray nd) :: (cells9 L o1 o2 o3 o4 o5 o6 o7 o8 o9 ++ (lx ++ tl3))) := fun q hm => N6 q (perm17b hm)
  clear N6 N5 F5
  generalize hRt3 : lx ++ tl3 = RT3 at N7
  simp only [cells9, List.cons_append, List.nil_append] at N7
  iterate 34 walk1
  rw [ez, ed, eW, bne_self_eq_false]
  have hz13 : WW < (asInts zs).getD (k : Int).toNat 0 := by rw [ez]; exact hW1
  repeat walk1
  with_reducible rename IsRange _ _ _ _ _ _ _ _ => hR
  refine notIn_range hR hW0 hz13 ?_
  clear hC1 hC2
  repeat walk1
  have hWm : 0 ≤ (wd : Int) * WW := Int.mul_nonneg (by omega) hW0
  have hWm2 : (wd : Int) * WW ≤ 7 * 8 := Int.mul_le_mul (by omega) (by omega) hW0 (by omega)
  have hQb : Builtin.Int.intBits QQ ≤ 24 * wd := bits_le_pow hQ0 (by
    have h1 : QQ * 1 ≤ QQ * fulls wd zs[k] := Int.mul_le_mul_of_nonneg_left (by omega) hQ0
    rw [eQ, Int.mul_one] at h1
    have h2 : fulls wd 24 = 2 ^ (24 * wd) - 1 := rfl
    omega)
  refine lshift_int hWm (by omega) ?_
  repeat walk1
  have eV : total + QQ * 2 ^ ((wd : Int) * WW).toNat = total + (fulls wd 24 / fulls wd (zs.getD k 0)) * 2 ^ (wd * ((-1 - (ds.getD k 0 : Int)) % (zs.getD k 0 : Int)).toNat) := by
    have g1 : zs.getD k 0 = zs[k] := by simp [List.getD_eq_getElem?_getD, hkz]
    have g2 : ds.getD k 0 = ds[k] := by simp [List.getD_eq_getElem?_getD, hkd]
    rw [g1, g2, hWW, hQ]
    have g3 : ((wd : Int) * WW).toNat = wd * WW.toNat := by
      obtain ⟨n, rfl⟩ := Int.eq_ofNat_of_zero_le hW0
      rw [← Int.natCast_mul, Int.toNat_natCast, Int.toNat_natCast]
    rw [g3]
  with_reducible rename Fr _ _ _ _ => F9
  with_reducible rename News _ _ _ _ => N9
  rw [eV] at F9
  refine hK _ _ _ tl3 _ ht3 (fun q hq p hp => p8 q hq p (.tail _ hp)) (fun y h1 h2 h3 h4 h5 h6 => ?_) rfl F9 (fun q hm => N9 q ?_)
  · dsimp only
    rw [if_neg h6, if_neg h5, if_neg h4, if_neg h3, if_neg h2, if_neg h1]
    exact kstB_eq hsay fun _ => rfl
  · have hm2 : q ∈ (r', pairO (.int VV q3) (.int WW q4)) :: (zl, listOf vz.toArray nz) :: (dl, listOf vd.toArray nd) :: (cells9 L o1 o2 o3 o4 o5 o6 o7 o8 o9 ++ RT3) := by
      rw [← hRt3]; exact perm17c hm
    exact hm2
end
end

noncomputable section
theorem walkOff_C44 : True := by
  w_top off
  exact True.intro
theorem perm17e {α : Type} {z d : α} {cs lx own : List α} {q : α} (hm : q ∈ z :: d :: (cs ++ (lx ++ own))) : q ∈ (z :: d :: (cs ++ lx)) ∨ q ∈ own := by
  rw [← List.append_assoc] at hm
  exact (@List.mem_append _ q (z :: d :: (cs ++ lx)) own).mp hm
theorem perm17f {α : Type} {z d : α} {cs lx own tl : List α} {q : α} : q ∈ (tl ++ (z :: d :: (cs ++ lx))) ++ own ↔ q ∈ tl ++ (z :: d :: (cs ++ (lx ++ own))) := by
  rw [List.append_assoc, List.cons_append, List.cons_append, List.append_assoc]
theorem perm17g {α : Type} {z d : α} {cs lx own : List α} {q : α} (hm : q ∈ (z :: d :: (cs ++ lx)) ∨ q ∈ own) : q ∈ z :: d :: (cs ++ (lx ++ own)) := by
  rw [← List.append_assoc]
  exact (@List.mem_append _ q (z :: d :: (cs ++ lx)) own).mpr hm
section
variable {A : Around} {s : Shared} {g : Heap} {L : Nat} {m : Str → Option Value} {p : Program} {loose : List Str} {mean : ExcName → Option Value} {mg mb : Str → Option Value} {Q : Flow → Shared → Prop}
  {o1 o2 o3 o4 o5 o6 o7 o8 o9 : Obj} {tl lx : List (Addr × Obj)}
noncomputable abbrev names17 : List Str := [Str.ofString "k", Str.ofString "part", Str.ofString "quotient", Str.ofString "rest", Str.ofString "lag", Str.ofString "wait", Str.ofString "total"]
noncomputable def J17 (rest : List (Addr × Obj)) (wd : Nat) (zs ds : List Nat) (m : Str → Option Value) (i : Nat) (m₁ : Str → Option Value) (news : List (Addr × Obj)) : Prop :=
  ∃ tl tt, TabsOk tl ∧ (∀ q ∈ rest, ∀ p ∈ tl, p.1 ≠ q.1) ∧ m₁ (Str.ofString "total") = some (.int (totalOf wd zs ds i) tt) ∧ (∀ y, y ∉ names17 → m₁ y = m y) ∧ news = tl ++ rest
theorem part_bound {wd z d : Nat} (hw1 : 2 ≤ wd) (hw2 : wd ≤ 7) (hz2 : 2 ≤ z) (hz8 : z ≤ 8) : 0 ≤ (fulls wd 24 / fulls wd z) * 2 ^ (wd * ((-1 - (d : Int)) % (z : Int)).toNat) ∧ (fulls wd 24 / fulls wd z) * 2 ^ (wd * ((-1 - (d : Int)) % (z : Int)).toNat) ≤ 2 ^ 224 := by
  have h0 := fulls_nonneg wd 24
  have hp := fulls_pos (wd := wd) (z := z) hw1 hz2
  have hq : 0 ≤ fulls wd 24 / fulls wd z := Int.ediv_nonneg h0 (Int.le_of_lt hp)
  refine ⟨Int.mul_nonneg hq (Int.le_of_lt (pow_gt _)), ?_⟩
  have h1 : fulls wd 24 / fulls wd z ≤ 2 ^ 168 := by
    have a := Int.ediv_le_self (fulls wd z) h0
    have b : (2 : Nat) ^ (24 * wd) ≤ 2 ^ 168 := Nat.pow_le_pow_right (by decide) (by omega)
    have c : ((2 ^ (24 * wd) : Nat) : Int) ≤ ((2 ^ 168 : Nat) : Int) := by exact_mod_cast b
    rw [Int.natCast_pow, Int.natCast_pow] at c
    have e : fulls wd 24 = 2 ^ (24 * wd) - 1 := rfl
    have f : ((2 : Nat) : Int) = 2 := rfl
    rw [f] at c
    omega
  have hw : ((-1 - (d : Int)) % (z : Int)) < (z : Int) := Int.emod_lt_of_pos _ (by omega)
  have hw0 : 0 ≤ ((-1 - (d : Int)) % (z : Int)) := Int.emod_nonneg _ (by omega)
  have h2 : (2 : Int) ^ (wd * ((-1 - (d : Int)) % (z : Int)).toNat) ≤ 2 ^ 56 := by
    have : wd * ((-1 - (d : Int)) % (z : Int)).toNat ≤ 7 * 8 := Nat.mul_le_mul hw2 (by omega)
    have b : (2 : Nat) ^ (wd * ((-1 - (d : Int)) % (z : Int)).toNat) ≤ 2 ^ 56 := Nat.pow_le_pow_right (by decide) this
    have c : ((2 ^ (wd * ((-1 - (d : Int)) % (z : Int)).toNat) : Nat) : Int) ≤ ((2 ^ 56 : Nat) : Int) := by exact_mod_cast b
    rw [Int.natCast_pow, Int.natCast_pow] at c
    exact c
  have h3 := Int.mul_le_mul h1 h2 (Int.le_of_lt (pow_gt _)) (by decide)
  exact Int.le_trans h3 (by decide)
theorem total_bound {wd k : Nat} {zs ds : List Nat} (hw1 : 2 ≤ wd) (hw2 : wd ≤ 7) (hk : k ≤ zs.length) (hz1 : ∀ z ∈ zs, 2 ≤ z ∧ z ≤ 8 ∧ z ∣ 24) : 0 ≤ totalOf wd zs ds k ∧ totalOf wd zs ds k ≤ k * 2 ^ 224 := by
  induction k with
  | zero => exact ⟨Int.le_refl _, by simp [totalOf]⟩
  | succ k ih =>
    obtain ⟨i1, i2⟩ := ih (by omega)
    have hkz : k < zs.length := by omega
    obtain ⟨z2, z8, _⟩ := hz1 _ (List.getElem_mem hkz)
    have e : zs.getD k 0 = zs[k] := by simp [List.getD_eq_getElem?_getD, hkz]
    obtain ⟨b1, b2⟩ := part_bound (d := ds.getD k 0) hw1 hw2 z2 z8
    rw [totalOf_succ, e]
    rw [show ((k + 1 : Nat) : Int) = (k : Int) + 1 by omega, Int.add_mul, Int.one_mul]
    omega
set_option maxHeartbeats 4000000 in
theorem law_s17 {rows wd zl nz dl nd : Nat} {tr tw tf tt : Tok} {ds zs : List Nat} {vz vd : List Value} (hw1 : 2 ≤ wd) (hw2 : wd ≤ 7) (hr3 : rows ≤ 3) (hzr : zs.length = rows) (hzd : zs.length = ds.length) (hz1 : ∀ z ∈ zs, 2 ≤ z ∧ z ≤ 8 ∧ z ∣ 24) (hd100 : ∀ d ∈ ds, d ≤ 100)
    (hZ : IntsAre vz (asInts zs)) (hD : IntsAre vd (asInts ds))
    (hh : A.handled = none) (X : (hdK.heap_1 w.params).In g) (T : Top p loose mean mg mb g) (hdep : A.depth + 200 < recursionLimit) (hu : A.units + 3000 < cLine)
    (hC1 : ∀ g, (hdK.heap_1 w.params).In g → CodeHd g 58 54) (hC2 : ∀ g, (hdK.heap_1 w.params).In g → CodeHd g 65 61) (ht : TabsOk tl)
    (d3 : cellV o3 (.ref zl)) (d4 : cellV o4 (.ref dl))
    (hap : ∀ q ∈ (zl, listOf vz.toArray nz) :: (dl, listOf vd.toArray nd) :: (cells9 L o1 o2 o3 o4 o5 o6 o7 o8 o9 ++ lx), ∀ p ∈ tl, p.1 ≠ q.1)
    (hsay : Says m [(Str.ofString "rows", .int (rows : Int) tr), (Str.ofString "width", .int (wd : Int) tw), (Str.ofString "full", .int (fulls wd 24) tf), (Str.ofString "total", .int 0 tt)])
    (F : Fr g L s.heap m) (N : News g L s.heap (tl ++ ((zl, listOf vz.toArray nz) :: (dl, listOf vd.toArray nd) :: (cells9 L o1 o2 o3 o4 o5 o6 o7 o8 o9 ++ lx))))
    (hQ : ∀ h' tk m' news, J17 ((zl, listOf vz.toArray nz) :: (dl, listOf vd.toArray nd) :: (cells9 L o1 o2 o3 o4 o5 o6 o7 o8 o9 ++ lx)) wd zs ds m rows m' news → Fr g L h' m' → News g L h' news → Q .next { s with heap := h', toks := tk }) :
    wpAny (model prog w) A (exec (stmtLaw w.params 17) (envLaw w.params L)) Q (fun _ _ => False) s := by
  have hcLine : cLine = 9900 := rfl
  have hrec : recursionLimit = 1000 := rfl
  dsimp only [stmtLaw, envLaw, law222, Option.getD, List.getElem?_cons_succ, List.getElem?_cons_zero]
  have F := Mine.Fr.said F hsay
  have hs1 := hsay _ (.head _)
  have hs2 := hsay _ (.tail _ (.head _))
  have hs3 := hsay _ (.tail _ (.tail _ (.head _)))
  have hs4 := hsay _ (.tail _ (.tail _ (.tail _ (.head _))))
  generalize hR0 : (zl, listOf vz.toArray nz) :: (dl, listOf vd.toArray nd) :: (cells9 L o1 o2 o3 o4 o5 o6 o7 o8 o9 ++ lx) = R0 at N hap hQ
  repeat walk1
  with_reducible rename Fr _ _ _ _ => F2
  with_reducible rename News _ _ _ _ => N2
  with_reducible rename IsRange _ _ _ _ _ _ _ _ => hR
  have F3 := Mine.Fr.unsaid F2 hsay
  clear F2
  refine loopRange (a := 0) (b := rows) hh (by decide) (by omega) hR F3 N2 (J17 R0 wd zs ds m) ⟨tl, tt, ht, hap, hs4, fun _ _ => rfl, rfl⟩ ?_ ?_
  · intro i u m₁ news₁ h tk own kn hi hJ F4 N4 hsep hkn
    obtain ⟨tl', tt', ht', hap', htot, hrest, rfl⟩ := hJ
    obtain ⟨b1, b2⟩ := total_bound (wd := wd) (k := i) (zs := zs) (ds := ds) hw1 hw2 (by omega) hz1
    have hni : ∀ y : Str, y ∉ names17 → (if y = Str.ofString "k" then some (.int ((0 + i : Nat) : Int) u) else m₁ y) = m y := fun y hy => by
      rw [if_neg (fun e => hy (by rw [e]; exact .head _)), hrest y hy]
    subst hR0
    rw [Nat.zero_add] at F4
    refine law_part (nz := nz) (nd := nd) (o1 := o1) (o2 := o2) (o5 := o5) (o6 := o6) (o7 := o7) (o8 := o8) (o9 := o9) (lx := lx ++ own) (k := i) (rows := rows) (total := totalOf wd zs ds i) (tt := tt') (tw := tw) (tf := tf) (tk0 := u) (tr := tr) hw1 hw2 (by omega) hr3 hzr hzd hz1 hd100 hZ hD b1 (Int.le_trans b2 (by
      have : ((i : Nat) : Int) ≤ 3 := by omega
      have := Int.mul_le_mul_of_nonneg_right this (show (0 : Int) ≤ 2 ^ 224 by decide)
      exact Int.le_trans this (by decide))) hh X T hdep hu hC1 hC2 ht' d3 d4 ?_ ?_ F4 (fun q hm => N4 q (perm17f.mpr hm)) ?_
    · intro q hq p hp
      rcases perm17e hq with hq | hq
      · exact hap' q hq p hp
      · exact Ne.symm (hsep p (List.mem_append_left _ hp) q hq)
    · intro q hq
      rcases List.mem_cons.mp hq with rfl | hq
      · rfl
      rcases List.mem_cons.mp hq with rfl | hq
      · exact (hni _ (by dsimp only; decide)).trans hs2
      rcases List.mem_cons.mp hq with rfl | hq
      · exact (hni _ (by dsimp only; decide)).trans hs3
      rw [List.mem_singleton.mp hq]
      exact htot
    · intro h5 tk5 m5 tl5 t5 ht5 hap5 hm5 htot5 F5 N5
      refine hkn h5 tk5 m5 _ F5 (fun q hm => N5 q (perm17f.mp hm)) ?_ ⟨tl5, t5, ht5, fun q hq p hp => hap5 q (perm17g (.inl hq)) p hp, by rw [totalOf_succ]; exact htot5, fun y hy => ?_, rfl⟩
      · intro q hq p hp
        rcases List.mem_append.mp hq with hq | hq
        · exact Ne.symm (hap5 p (perm17g (.inr hp)) q hq)
        · exact hsep q (List.mem_append_right _ hq) p hp
      · simp only [names17, List.mem_cons, List.not_mem_nil, not_or, or_false] at hy
        obtain ⟨h1, h2, h3, h4, h5, h6, h7⟩ := hy
        rw [hm5 y h2 h3 h4 h5 h6 h7, ← hni y (by simp only [names17, List.mem_cons, List.not_mem_nil, not_or, or_false]; exact ⟨h1, h2, h3, h4, h5, h6, h7⟩), Nat.zero_add]
  · intro h tk m₁ news₁ hJ F4 N4
    exact hQ h tk m₁ news₁ hJ F4 N4
end
end

noncomputable section
theorem walkOff_C45 : True := by
  w_top off
  exact True.intro
noncomputable def modsOf (zs ds : List Nat) (k : Nat) : List Int := (List.range k).map fun i => ((ds.getD i 0 % zs.getD i 0 : Nat) : Int)
theorem modsOf_succ (zs ds : List Nat) (k : Nat) : modsOf zs ds (k + 1) = modsOf zs ds k ++ [((ds.getD k 0 % zs.getD k 0 : Nat) : Int)] := by
  unfold modsOf
  rw [List.range_succ, List.map_append]; rfl
theorem modsOf_at {zs ds : List Nat} {k : Nat} (hz : k < zs.length) (hd : k < ds.length) : ((ds.getD k 0 % zs.getD k 0 : Nat) : Int) = ((ds[k] % zs[k] : Nat) : Int) := by
  simp [List.getD_eq_getElem?_getD, hz, hd]
section
variable {A : Around} {s : Shared} {g : Heap} {L : Nat} {m : Str → Option Value} {p : Program} {loose : List Str} {mean : ExcName → Option Value} {mg mb : Str → Option Value} {Q : Flow → Shared → Prop} {E : Value → Shared → Prop}
  {o1 o2 o3 o4 o5 o6 o7 o8 o9 : Obj} {tl lx : List (Addr × Obj)}
set_option maxHeartbeats 4000000 in
theorem law_s18 {wd c : Nat} {tw tt : Tok} {total : Int} (hw1 : 2 ≤ wd) (hw2 : wd ≤ 7) (ht0 : 0 ≤ total) (hc : figs total wd = c) (hc2 : c ≤ 100)
    (hh : A.handled = none) (X : (hdK.heap_1 w.params).In g) (T : Top p loose mean mg mb g) (hdep : A.depth + 200 < recursionLimit) (hu : A.units + 3000 < cLine)
    (hC1 : ∀ g, (hdK.heap_1 w.params).In g → CodeHd g 58 54) (ht : TabsOk tl) (hap : ∀ q ∈ lx, ∀ p ∈ tl, p.1 ≠ q.1)
    (hsay : Says m [(Str.ofString "width", .int (wd : Int) tw), (Str.ofString "total", .int total tt)])
    (F : Fr g L s.heap m) (N : News g L s.heap (tl ++ lx))
    (hQ : ∀ (D : Nat) ts nn h' tk tl', IntsAre ts (digs wd c total) → TabsOk tl' → (∀ p ∈ tl', p.1 ≠ D) → (∀ p ∈ lx, p.1 ≠ D) → (∀ q ∈ lx, ∀ p ∈ tl', p.1 ≠ q.1) → Fr g L h' (fun y => if y = Str.ofString "told" then some (.ref D) else m y) → News g L h' ((D, listOf ts.toArray nn) :: tl' ++ lx) → Q .next { s with heap := h', toks := tk }) :
    wpAny (model prog w) A (exec (stmtLaw w.params 18) (envLaw w.params L)) Q E s := by
  have hcLine : cLine = 9900 := rfl
  have hrec : recursionLimit = 1000 := rfl
  dsimp only [stmtLaw, envLaw, law222, Option.getD, List.getElem?_cons_succ, List.getElem?_cons_zero]
  have F := Mine.Fr.said F hsay
  repeat walk1
  with_reducible rename Fr _ _ _ _ => F2
  with_reducible rename News _ _ _ _ => N2
  refine Meets.call lx (int2digits (w := w) (prog := prog) (b := wd) (c := c) (by omega) (by omega) ht0 (by rw [← hc]; exact figs_is (by omega)) hc2 (by rw [← hc]; exact figs_lt ht0 (by omega)) ht hC1) F2 N2 X T (fun p hp => List.mem_append_left _ hp) (fun p hp => List.mem_append_right _ hp) hap hh (by omega) (by omega) ?_
  intro n₁ v l₁ h₂ tk₂ hp F3 N3 p1 p2 p3 p4
  obtain ⟨D, ts, nn, tl', rfl, hts, hD, ht', hof, rfl⟩ := hp
  repeat walk1
  with_reducible rename Fr _ _ _ _ => F4
  with_reducible rename News _ _ _ _ => N4
  have e9 : ∀ v : Value, (fun y => if y = Str.ofString "told" then some v else kstB m [(Str.ofString "width", .int (wd : Int) tw), (Str.ofString "total", .int total tt)] y) = fun y => if y = Str.ofString "told" then some v else m y := by
    intro v
    funext y
    rw [kstB_eq hsay fun _ => rfl]
  rw [e9] at F4
  exact hQ D ts nn _ _ tl' hts ht' hof (fun q hq => Ne.symm (p4 q hq _ (.head _))) (fun q hq p hp => p4 q hq p (.tail _ hp)) F4 N4
set_option maxHeartbeats 4000000 in
theorem law_s19 {rows zl nz dl nd D nn : Nat} {tr : Tok} {ds zs : List Nat} {vz vd ts : List Value} {ns : List Int} (hr3 : rows ≤ 3) (hzr : zs.length = rows) (hzd : zs.length = ds.length) (hz1 : ∀ z ∈ zs, 2 ≤ z ∧ z ≤ 8 ∧ z ∣ 24) (hd100 : ∀ d ∈ ds, d ≤ 100)
    (hZ : IntsAre vz (asInts zs)) (hD : IntsAre vd (asInts ds)) (hT : IntsAre ts ns) (hTl : ns.length ≤ 100) (hr0 : 0 < rows) (hmin : ∀ M, M ∈ modsOf zs ds rows → (∀ a ∈ modsOf zs ds rows, M ≤ a) → (ns.length : Int) = 24 - M)
    (hh : A.handled = none) (X : (hdK.heap_1 w.params).In g) (T : Top p loose mean mg mb g) (hdep : A.depth + 200 < recursionLimit) (hu : A.units + 3000 < cLine)
    (d3 : cellV o3 (.ref zl)) (d4 : cellV o4 (.ref dl))
    (hsay : Says m [(Str.ofString "rows", .int (rows : Int) tr), (Str.ofString "told", .ref D)])
    (F : Fr g L s.heap m) (N : News g L s.heap ((D, listOf ts.toArray nn) :: (zl, listOf vz.toArray nz) :: (dl, listOf vd.toArray nd) :: (cells9 L o1 o2 o3 o4 o5 o6 o7 o8 o9 ++ lx)))
    (hQ : ∀ h' tk, Fr g L h' m → News g L h' ((D, listOf ts.toArray nn) :: (zl, listOf vz.toArray nz) :: (dl, listOf vd.toArray nd) :: (cells9 L o1 o2 o3 o4 o5 o6 o7 o8 o9 ++ lx)) → Q .next { s with heap := h', toks := tk }) :
    wpAny (model prog w) A (exec (stmtLaw w.params 19) (envLaw w.params L)) Q E s := by
  have hcLine : cLine = 9900 := rfl
  have hrec : recursionLimit = 1000 := rfl
  simp only [cells9, List.cons_append, List.nil_append] at N
  dsimp only [stmtLaw, envLaw, law222, Option.getD, List.getElem?_cons_succ, List.getElem?_cons_zero]
  have F := Mine.Fr.said F hsay
  repeat walk1
  with_reducible rename IsRange _ _ _ _ _ _ _ _ => hR
  with_reducible rename Fr _ _ _ _ => F2
  with_reducible rename News _ _ _ _ => N2
  refine LCg.CompSrc.range (n := rows) hh F2 N2 hR (small_one (by omega) (by omega) (by omega) (by omega)) (by rw [rangeSize_one]; split <;> omega) (Nat.le_trans hr3 (by decide)) (fun g' => ?_)
  refine comp_inv (n := rows) (fun k zv news => news = _ ∧ IntsAre zv (modsOf zs ds k)) ?_ ?_ rows 0 [] _ (Nat.zero_add _) ⟨rfl, .nil⟩
  · rintro k zv news v I oI C2 oC2 D2 m₃ h3 tk3 E3 hk ⟨rfl, hzs⟩ ⟨tv, rfl⟩ hC2 hx2 F4 N4 off2 hne2
    refine gen_K fun KK hKK => ?_
    have off20 := off2
    simp only [LCg.Off3, and_true] at off2
    have hkz : k < zs.length := by omega
    have hkd : k < ds.length := by omega
    have hk5 : (0 : Int) + (k : Int) < ((asInts zs).length : Int) := by rw [show (asInts zs).length = zs.length by simp]; omega
    have hk6 : (0 : Int) + (k : Int) < ((asInts ds).length : Int) := by rw [show (asInts ds).length = ds.length by simp]; omega
    have e0 : ((0 : Int) + (k : Int)).toNat = k := by omega
    obtain ⟨hz0, hz9, _⟩ := hz1 _ (List.getElem_mem hkz)
    have ez := asInts_getD hkz
    have ed := asInts_getD hkd
    have hzz : ((asInts zs).getD ((0 : Int) + (k : Int)).toNat 0) ≠ 0 := by rw [e0, ez]; omega
    repeat walk1
    with_reducible rename Fr _ _ _ _ => F5
    with_reducible rename News _ _ _ _ => N5
    rw [e0, ez, ed, Int.fmod_eq_emod_of_nonneg _ (by omega), ← Int.natCast_emod, ← modsOf_at hkz hkd]
    exact hKK _ _ (LCg.CompEnd.intro F5 N5 _ (fun p hp => hp) off20 True.intro ⟨rfl, by rw [modsOf_succ]; exact snocI hzs⟩)
  · rintro zv news ⟨rfl, hzs⟩
    unfold LCg.FinE
    intro D3 h3 tk3 F4 N4 off2
    repeat walk1
    refine min_list_N hh F4 N4 (News.isList N4 (.head _)) hzs (by simp only [modsOf, List.length_map, List.length_range]; exact hr0) (fun h5 M t5 tk5 F5 N5 hM1 hM2 => ?_)
    repeat walk1
    · exact absurd (hmin M hM1 hM2) (by assumption)
    · repeat walk1
      with_reducible rename Fr _ _ _ _ => F7
      with_reducible rename News _ _ _ _ => N7
      exact hQ _ _ (Mine.Fr.unsaid F7 hsay) (fun p hp => N7 p (.tail _ hp))
end
end

noncomputable section
theorem walkOff_C46 : True := by
  w_top off
  exact True.intro
section
variable {A : Around} {s : Shared} {g : Heap} {L : Nat} {m : Str → Option Value} {p : Program} {loose : List Str} {mean : ExcName → Option Value} {mg mb : Str → Option Value} {Q : Flow → Shared → Prop} {E : Value → Shared → Prop}
  {o1 o2 o3 o4 o5 o6 o7 o8 o9 : Obj} {tl lx : List (Addr × Obj)}
set_option maxHeartbeats 4000000 in
theorem law_s20 {rows zl nz D nn sl nv S : Nat} {t5 : Tok} {zs : List Nat} {vz ts vv : List Value} {ns : List Int} (hr3 : rows ≤ 3) (hzr : zs.length = rows) (hz1 : ∀ z ∈ zs, 2 ≤ z ∧ z ≤ 8 ∧ z ∣ 24)
    (hZ : IntsAre vz (asInts zs)) (hT : IntsAre ts ns) (hV : IntsAre vv (ns.take S)) (hTl : ns.length ≤ 100) (hS : S ≤ 8) (hsum : ns.sum = ((zs.map fun z => 24 / z).sum : Nat))
    (hh : A.handled = none) (X : (hdK.heap_1 w.params).In g) (T : Top p loose mean mg mb g) (hdep : A.depth + 200 < recursionLimit) (hu : A.units + 3000 < cLine)
    (d3 : cellV o3 (.ref zl)) (d5 : cellV o5 (.int (S : Int) t5))
    (hsay : Says m [(Str.ofString "told", .ref D), (Str.ofString "seen", .ref sl)])
    (F : Fr g L s.heap m) (N : News g L s.heap ((D, listOf ts.toArray nn) :: (sl, listOf vv.toArray nv) :: (zl, listOf vz.toArray nz) :: (cells9 L o1 o2 o3 o4 o5 o6 o7 o8 o9 ++ lx)))
    (hQ : ∀ h' tk, Fr g L h' m → News g L h' ((D, listOf ts.toArray nn) :: (sl, listOf vv.toArray nv) :: (zl, listOf vz.toArray nz) :: (cells9 L o1 o2 o3 o4 o5 o6 o7 o8 o9 ++ lx)) → Q .next { s with heap := h', toks := tk }) :
    wpAny (model prog w) A (exec (stmtLaw w.params 20) (envLaw w.params L)) Q E s := by
  have hcLine : cLine = 9900 := rfl
  have hrec : recursionLimit = 1000 := rfl
  simp only [cells9, List.cons_append, List.nil_append] at N
  dsimp only [stmtLaw, envLaw, law222, Option.getD, List.getElem?_cons_succ, List.getElem?_cons_zero]
  have F := Mine.Fr.said F hsay
  have eS : ((S : Int)).toNat = S := Int.toNat_natCast S
  repeat walk1
  rotate_left
  · exact absurd (by rw [eS]) (show ¬ List.take ((S : Int)).toNat ns = List.take S ns by assumption)
  with_reducible rename Fr _ _ _ _ => F2
  with_reducible rename News _ _ _ _ => N2
  refine sumK hh F2 N2 (News.isList N2 (.tail _ (.head _))) hT (fun h4 tk4 t4 F5 N5 => ?_)
  iterate 4 walk1
  refine LCg.ListComp_U F5 rfl (by decide) rfl (by decide) rfl ?_
  repeat walk1
  refine LCg.CompSrc.ledger hh F5 N5 (.tail _ (.tail _ (.tail _ (.head _)))) (Nat.le_trans (show vz.toArray.size ≤ 3 by simp [hZ.length]; omega) (by decide)) (fun g' => ?_)
  have hdn : vz.toArray.size = zs.length := by simp [hZ.length]
  rw [hdn]
  refine comp_inv (n := zs.length) (fun k zv news => news = _ ∧ IntsAre zv (asInts ((zs.take k).map fun z => 24 / z))) ?_ ?_ zs.length 0 [] _ (Nat.zero_add _) ⟨rfl, .nil⟩
  · rintro k zv news v I oI C2 oC2 D2 m₃ h3 tk3 E3 hk ⟨rfl, hzs⟩ hv hC2 hx2 F4 N4 off2 hne2
    refine gen_K fun KK hKK => ?_
    have off20 := off2
    have hck : zs[k]? = some zs[k] := List.getElem?_eq_getElem hk
    obtain ⟨tv, hv2⟩ := hZ.get k _ (show (asInts zs)[k]? = some ((zs[k] : Nat) : Int) by rw [List.getElem?_map, hck]; rfl)
    have ev : v = .int ((zs[k] : Nat) : Int) tv := by
      have : vz[k]? = some v := by simpa using hv
      rw [this] at hv2; exact Option.some.inj hv2
    subst ev
    have hnext : asInts ((zs.take (k + 1)).map fun z => 24 / z) = asInts ((zs.take k).map fun z => 24 / z) ++ [((24 / zs[k] : Nat) : Int)] := by
      rw [List.take_add_one, hck, List.map_append]
      unfold asInts
      rw [List.map_append]; rfl
    rw [hnext] at hKK
    obtain ⟨hz0, hz9, _⟩ := hz1 _ (List.getElem_mem hk)
    generalize zs[k] = z at *
    have hzz : (z : Int) ≠ 0 := by omega
    repeat walk1
    with_reducible rename Fr _ _ _ _ => F6
    with_reducible rename News _ _ _ _ => N6
    have ed : (24 : Int).fdiv (z : Int) = ((24 / z : Nat) : Int) := by
      rw [Int.fdiv_eq_ediv_of_nonneg _ (by omega)]
      exact (Int.natCast_ediv _ _).symm
    rw [ed]
    exact hKK _ _ (LCg.CompEnd.intro F6 N6 _ (fun p hp => hp) off20 (.inr ⟨_, .tail _ (.tail _ (.tail _ (.head _))), rfl, _, rfl⟩) ⟨rfl, snocI hzs⟩)
  · rintro zv news ⟨rfl, hzs⟩
    unfold LCg.FinE
    intro D3 h3 tk3 F4 N4 off2
    repeat walk1
    rw [List.take_length] at hzs
    refine sumK hh F4 N4 (News.isList N4 (.head _)) hzs (fun h6 tk6 t6 F7 N7 => ?_)
    rw [show (asInts (zs.map fun z => 24 / z)).sum = (((zs.map fun z => 24 / z).sum : Nat) : Int) from nat_sum, ← hsum]
    iterate 1 walk1
    rw [bne_self_eq_false]
    repeat walk1
    with_reducible rename Fr _ _ _ _ => F8
    with_reducible rename News _ _ _ _ => N8
    exact hQ _ _ (Mine.Fr.unsaid F8 hsay) (fun p hp => N8 p (.tail _ (.tail _ hp)))
set_option maxHeartbeats 4000000 in
theorem law_s21 {D nn : Nat} {ts : List Value} {ns : List Int} (hT : IntsAre ts ns) (hTl : ns.length ≤ 24) 
    (hh : A.handled = none) (X : (hdK.heap_1 w.params).In g) (T : Top p loose mean mg mb g) (hdep : A.depth + 200 < recursionLimit) (hu : A.units + 3000 < cLine)
    (hsay : Says m [(Str.ofString "told", .ref D)])
    (F : Fr g L s.heap m) (N : News g L s.heap ((D, listOf ts.toArray nn) :: lx))
    (hQ : ∀ (D : Nat) ts' nn h' tk, IntsAre ts' (ns ++ List.replicate (24 - ns.length) 0) → (∀ p ∈ lx, p.1 ≠ D) → Fr g L h' (fun y => if y = Str.ofString "told" then some (.ref D) else m y) → News g L h' ((D, listOf ts'.toArray nn) :: lx) → Q .next { s with heap := h', toks := tk }) :
    wpAny (model prog w) A (exec (stmtLaw w.params 21) (envLaw w.params L)) Q E s := by
  have hcLine : cLine = 9900 := rfl
  have hrec : recursionLimit = 1000 := rfl
  dsimp only [stmtLaw, envLaw, law222, Option.getD, List.getElem?_cons_succ, List.getElem?_cons_zero]
  have F := Mine.Fr.said F hsay
  repeat walk1
  with_reducible rename Fr _ _ _ _ => F2
  with_reducible rename News _ _ _ _ => N2
  have e9 : ∀ v : Value, (fun y => if y = Str.ofString "told" then some v else kstB m [(Str.ofString "told", .ref D)] y) = fun y => if y = Str.ofString "told" then some v else m y := by
    intro v
    funext y
    rw [kstB_eq hsay fun _ => rfl]
  rw [e9] at F2
  with_reducible rename IntsAre _ (ns ++ _) => hI
  have ez : (List.replicate (24 - (ns.length : Int)).toNat [(0 : Int)]).flatten = List.replicate (24 - ns.length) 0 := by
    rw [show (24 - (ns.length : Int)).toNat = 24 - ns.length by omega]
    induction 24 - ns.length with
    | zero => rfl
    | succ n ih => rw [List.replicate_succ, List.flatten_cons, ih]; rfl
  rw [ez] at hI
  rename_i D' ws' h1 l1 h2
  refine hQ D' ws' 0 h2 _ hI (fun p hp => Nat.ne_of_lt (lowAll l1.2.2.2 p hp)) F2 (fun p hp => N2 p ?_)
  · rcases List.mem_cons.mp hp with rfl | hp
    · exact .head _
    · exact .tail _ (.tail _ (.tail _ (.tail _ hp)))
set_option maxHeartbeats 4000000 in
theorem law_s22 {D nn : Nat} {ts : List Value} {ns : List Int} (hT : IntsAre ts ns) (hTl : ns.length ≤ 24) 
    (hh : A.handled = none) (X : (hdK.heap_1 w.params).In g) (T : Top p loose mean mg mb g) (hdep : A.depth + 200 < recursionLimit) (hu : A.units + 3000 < cLine)
    (hsay : Says m [(Str.ofString "told", .ref D)])
    (F : Fr g L s.heap m) (N : News g L s.heap ((D, listOf ts.toArray nn) :: lx))
    (hQ : ∀ (R : Nat) rs nr h' tk, IntsAre rs (ns ++ ns) → (∀ p ∈ lx, p.1 ≠ R) → Fr g L h' (fun y => if y = Str.ofString "ring" then some (.ref R) else m y) → News g L h' ((R, listOf rs.toArray nr) :: (D, listOf ts.toArray nn) :: lx) → Q .next { s with heap := h', toks := tk }) :
    wpAny (model prog w) A (exec (stmtLaw w.params 22) (envLaw w.params L)) Q E s := by
  have hcLine : cLine = 9900 := rfl
  have hrec : recursionLimit = 1000 := rfl
  dsimp only [stmtLaw, envLaw, law222, Option.getD, List.getElem?_cons_succ, List.getElem?_cons_zero]
  have F := Mine.Fr.said F hsay
  repeat walk1
  with_reducible rename Fr _ _ _ _ => F2
  with_reducible rename News _ _ _ _ => N2
  have e9 : ∀ v : Value, (fun y => if y = Str.ofString "ring" then some v else kstB m [(Str.ofString "told", .ref D)] y) = fun y => if y = Str.ofString "ring" then some v else m y := by
    intro v
    funext y
    rw [kstB_eq hsay fun _ => rfl]
  rw [e9] at F2
  rename_i hI l1 _ 
  refine hQ _ _ _ _ _ hI (fun p hp => Nat.ne_of_lt (lowAll l1.2 p hp)) F2 N2
end
end

noncomputable section
theorem walkOff_C47 : True := by
  w_top off
  exact True.intro
noncomputable def body23 (P : Params) : { b : List Stmt // loopBody (stmtLaw P 23) = b } := ⟨_, rfl⟩
section
variable {A : Around} {s : Shared} {g : Heap} {L : Nat} {m : Str → Option Value} {p : Program} {loose : List Str} {mean : ExcName → Option Value} {mg mb : Str → Option Value} {Q : Flow → Shared → Prop} {K : Flow → Shared → Prop} {E : Value → Shared → Prop}
  {o1 o2 o3 o4 o5 o6 o7 o8 o9 : Obj} {tl lx : List (Addr × Obj)}
set_option maxHeartbeats 4000000 in
theorem law_ring {D nn R nr S i : Nat} {t5 ti : Tok} {ts rs : List Value} {ns : List Int} (hT : IntsAre ts ns) (hRr : IntsAre rs (ns ++ ns)) (hTl : ns.length = 24) (hS : S ≤ 8) (hS0 : 0 < S) (hi : i < 24)
    (hring : (∀ x ∈ ((ns ++ ns).drop i).take S, 0 < x) → ∀ x ∈ ns, x ≠ 0)
    (hh : A.handled = none) (X : (hdK.heap_1 w.params).In g) (T : Top p loose mean mg mb g) (hdep : A.depth + 200 < recursionLimit) (hu : A.units + 3000 < cLine)
    (d5 : cellV o5 (.int (S : Int) t5))
    (hsay : Says m [(Str.ofString "first", .int (i : Int) ti), (Str.ofString "told", .ref D), (Str.ofString "ring", .ref R)])
    (F : Fr g L s.heap m) (N : News g L s.heap ((R, listOf rs.toArray nr) :: (D, listOf ts.toArray nn) :: (cells9 L o1 o2 o3 o4 o5 o6 o7 o8 o9 ++ lx)))
    (hK : ∀ h' tk, Fr g L h' m → News g L h' ((R, listOf rs.toArray nr) :: (D, listOf ts.toArray nn) :: (cells9 L o1 o2 o3 o4 o5 o6 o7 o8 o9 ++ lx)) → K .next { s with heap := h', toks := tk }) :
    wpAny (model prog w) A (execs (body23 w.params).1 (envLaw w.params L)) K E s := by
  have hcLine : cLine = 9900 := rfl
  have hrec : recursionLimit = 1000 := rfl
  simp only [cells9, List.cons_append, List.nil_append] at N
  dsimp only [body23, loopBody, stmtLaw, envLaw, law222, Option.getD, List.getElem?_cons_succ, List.getElem?_cons_zero]
  have F := Mine.Fr.said F hsay
  have hlen2 : (ns ++ ns).length = 48 := by rw [List.length_append, hTl]
  repeat walk1
  with_reducible rename Fr _ _ _ _ => F2
  with_reducible rename News _ _ _ _ => N2
  with_reducible rename IntsAre _ (List.take _ _) => hI
  have eW : min ((i : Int) + (S : Int)).toNat (ns ++ ns).length - ((i : Int)).toNat = S := by
    rw [hlen2, ← Int.natCast_add, Int.toNat_natCast, Int.toNat_natCast, Nat.min_eq_left (by omega), Nat.add_sub_cancel_left]
  rw [eW, Int.toNat_natCast] at hI
  have hwl : (List.take S (List.drop i (ns ++ ns))).length = S := by
    rw [List.length_take, List.length_drop, hlen2]; omega
  refine min_list_N hh F2 N2 (News.isList N2 (.head _)) hI (by rw [hwl]; exact hS0) (fun h5 M t5 tk5 F5 N5 hM1 hM2 => ?_)
  repeat walk1
  · with_reducible rename Fr _ _ _ _ => F6
    with_reducible rename News _ _ _ _ => N6
    refine min_list_N hh F6 N6 (News.isList N6 (.tail _ (.tail _ (.head _)))) hT (by rw [hTl]; decide) (fun h7 M2 t7 tk7 F7 N7 hM3 hM4 => ?_)
    have hne : M2 ≠ 0 := hring (fun x hx => by have := hM2 x hx; omega) M2 hM3
    repeat walk1
    · exact absurd (show M2 = 0 by assumption) hne
    repeat walk1
    with_reducible rename Fr _ _ _ _ => F8
    with_reducible rename News _ _ _ _ => N8
    exact hK _ _ (Mine.Fr.unsaid F8 hsay) (fun p hp => N8 p (.tail _ hp))
  · repeat walk1
    with_reducible rename Fr _ _ _ _ => F8
    with_reducible rename News _ _ _ _ => N8
    exact hK _ _ (Mine.Fr.unsaid F8 hsay) (fun p hp => N8 p (.tail _ hp))
theorem perm23 {α : Type} {a b : α} {cs lx own : List α} {q : α} : q ∈ (a :: b :: (cs ++ lx)) ++ own ↔ q ∈ a :: b :: (cs ++ (lx ++ own)) := by
  rw [List.cons_append, List.cons_append, List.append_assoc]
set_option maxHeartbeats 4000000 in
theorem law_s23 {D nn R nr S : Nat} {t5 : Tok} {ts rs : List Value} {ns : List Int} (hT : IntsAre ts ns) (hRr : IntsAre rs (ns ++ ns)) (hTl : ns.length = 24) (hS : S ≤ 8) (hS0 : 0 < S)
    (hring : ∀ i, i < 24 → (∀ x ∈ ((ns ++ ns).drop i).take S, 0 < x) → ∀ x ∈ ns, x ≠ 0)
    (hh : A.handled = none) (X : (hdK.heap_1 w.params).In g) (T : Top p loose mean mg mb g) (hdep : A.depth + 200 < recursionLimit) (hu : A.units + 3000 < cLine)
    (d5 : cellV o5 (.int (S : Int) t5))
    (hsay : Says m [(Str.ofString "told", .ref D), (Str.ofString "ring", .ref R)])
    (F : Fr g L s.heap m) (N : News g L s.heap ((R, listOf rs.toArray nr) :: (D, listOf ts.toArray nn) :: (cells9 L o1 o2 o3 o4 o5 o6 o7 o8 o9 ++ lx)))
    (hQ : ∀ h' tk m', (∀ y, y ≠ Str.ofString "first" → m' y = m y) → Fr g L h' m' → News g L h' ((R, listOf rs.toArray nr) :: (D, listOf ts.toArray nn) :: (cells9 L o1 o2 o3 o4 o5 o6 o7 o8 o9 ++ lx)) → Q .next { s with heap := h', toks := tk }) :
    wpAny (model prog w) A (exec (stmtLaw w.params 23) (envLaw w.params L)) Q (fun _ _ => False) s := by
  have hcLine : cLine = 9900 := rfl
  have hrec : recursionLimit = 1000 := rfl
  dsimp only [stmtLaw, envLaw, law222, Option.getD, List.getElem?_cons_succ, List.getElem?_cons_zero]
  generalize hR0 : (R, listOf rs.toArray nr) :: (D, listOf ts.toArray nn) :: (cells9 L o1 o2 o3 o4 o5 o6 o7 o8 o9 ++ lx) = R0 at N
  repeat walk1
  with_reducible rename Fr _ _ _ _ => F2
  with_reducible rename News _ _ _ _ => N2
  with_reducible rename IsRange _ _ _ _ _ _ _ _ => hR
  refine loopRange (a := 0) (b := 24) hh (by decide) (by omega) hR F2 N2 (fun _ m₁ news => (∀ y, y ≠ Str.ofString "first" → m₁ y = m y) ∧ news = R0) ⟨fun _ _ => rfl, rfl⟩ ?_ ?_
  · rintro i u m₁ news₁ h tk own kn hi ⟨hm, rfl⟩ F4 N4 hsep hkn
    rw [Nat.zero_add] at F4
    subst hR0
    refine law_ring (lx := lx ++ own) (nn := nn) (nr := nr) (o1 := o1) (o2 := o2) (o3 := o3) (o4 := o4) (o6 := o6) (o7 := o7) (o8 := o8) (o9 := o9) (i := i) (ti := u) hT hRr hTl hS hS0 hi (hring i hi) hh X T hdep hu d5 (fun q hq => ?_) F4 (fun q hq => N4 q (perm23.mpr hq)) ?_
    · rcases List.mem_cons.mp hq with rfl | hq
      · rfl
      rcases List.mem_cons.mp hq with rfl | hq
      · show (if _ then _ else _) = _
        rw [if_neg (by dsimp only; decide), hm _ (by dsimp only; decide)]; exact hsay _ (.head _)
      rw [List.mem_singleton.mp hq]
      show (if _ then _ else _) = _
      rw [if_neg (by dsimp only; decide), hm _ (by dsimp only; decide)]; exact hsay _ (.tail _ (.head _))
    · intro h5 tk5 F5 N5
      refine hkn h5 tk5 _ _ F5 (fun q hq => N5 q (perm23.mp hq)) hsep ⟨fun y hy => ?_, rfl⟩
      rw [if_neg hy]; exact hm y hy
  · rintro h tk m₁ news₁ ⟨hm, rfl⟩ F4 N4
    subst hR0
    exact hQ h tk m₁ hm F4 N4
end
end

noncomputable section
theorem walkOff_C48 : True := by
  w_top off
  exact True.intro
theorem perm24a {α : Type} {cs lx bl al tl : List α} {q : α} : q ∈ cs ++ (lx ++ ((bl ++ tl) ++ al)) ↔ q ∈ (bl ++ tl) ++ (al ++ (cs ++ lx)) := by
  rw [← List.append_assoc cs lx, ← List.append_assoc (bl ++ tl) al]
  exact List.perm_append_comm.mem_iff
section
variable {A : Around} {s : Shared} {g : Heap} {L : Nat} {m : Str → Option Value} {p : Program} {loose : List Str} {mean : ExcName → Option Value} {mg mb : Str → Option Value} {Q : Flow → Shared → Prop} {E : Value → Shared → Prop}
  {o1 o2 o3 o4 o5 o6 o7 o8 o9 : Obj} {tl lx : List (Addr × Obj)}
theorem off3_same {I C D : Nat} {l l' : List (Addr × Obj)} (h : LCg.Off3 I C D l) (e : l'.map (·.1) = l.map (·.1)) : LCg.Off3 I C D l' := LCg.Off3.of fun p hp => by
  have hm : p.1 ∈ l'.map (·.1) := List.mem_map_of_mem hp
  rw [e] at hm
  obtain ⟨p', hp', e⟩ := List.mem_map.mp hm
  rw [← e]; exact h.mem p' hp'
set_option maxHeartbeats 2000000 in
theorem law_s24 {a : LexP} {vs : List Value} {l : List Nat} {nS np : Nat} {n : Int} {tn t0 : Tok} (ha : a.Ok tl) (hnd : (tl.map (·.1)).Nodup) (hll : l.length ≤ 10000) (hC1 : ∀ g, (hdK.heap_1 w.params).In g → CodeHd g 211 207) (hh : A.handled = none) (X : (hdK.heap_1 w.params).In g) (T : Top p loose mean mg mb g)
    (hdep : A.depth + 200 < recursionLimit) (hu : A.units + 3000 < cLine) {c9 : Option Value} (d9 : o9.data = .cell c9) (hx9 : ∀ p ∈ lx, p.1 ≠ L + 1 + 1 + 1 + 1 + 1 + 1 + 1 + 1 + 1)
    (hap : ∀ q ∈ cells9 L o1 o2 o3 o4 o5 o6 o7 o8 o9 ++ lx, ∀ p ∈ a.led w.params vs nS n tn [.str (txt l) t0] np ++ tl, p.1 ≠ q.1) (hsay : Says m [(Str.ofString "lexer", .ref a.x)])
    (F : Fr g L s.heap m) (N : News g L s.heap ((a.led w.params vs nS n tn [.str (txt l) t0] np ++ tl) ++ (cells9 L o1 o2 o3 o4 o5 o6 o7 o8 o9 ++ lx)))
    (hQ : ∀ h' tk (b : LexP) ws nT tb np' o9', b.Ok tl → SignsAre ws l → cellV o9' (.ref b.x) → (∀ q ∈ a.led w.params vs nS n tn [] np' ++ (cells9 L o1 o2 o3 o4 o5 o6 o7 o8 o9' ++ lx), ∀ p ∈ b.led w.params ws nT 1 tb [] 0 ++ tl, p.1 ≠ q.1) →
      Fr g L h' m → News g L h' ((b.led w.params ws nT 1 tb [] 0 ++ tl) ++ (a.led w.params vs nS n tn [] np' ++ (cells9 L o1 o2 o3 o4 o5 o6 o7 o8 o9' ++ lx))) → Q .next { s with heap := h', toks := tk }) :
    wpAny (model prog w) A (exec (stmtLaw w.params 24) (envLaw w.params L)) Q E s := by
  have hcLine : cLine = 9900 := rfl
  have hrec : recursionLimit = 1000 := rfl
  have N0 := N
  simp only [LexP.led, List.cons_append, List.nil_append] at N
  dsimp only [stmtLaw, envLaw, law222, Option.getD, List.getElem?_cons_succ, List.getElem?_cons_zero]
  have F := Mine.Fr.said F hsay
  repeat walk1
  with_reducible rename Fr _ _ _ _ => F0
  refine Meets.call (cells9 L o1 o2 o3 o4 o5 o6 o7 o8 o9 ++ lx) (get_pushed (w := w) (prog := prog) (ps := []) ha (Nat.zero_le _)) F0 N0 X T (fun p hp => List.mem_append_left _ hp) (fun p hp => List.mem_append_right _ hp) hap hh (by omega) (by omega) ?_
  intro n₁ v l₁ h₂ tk₂ hp F3 N3 p1 p2 p3 p4
  obtain ⟨np', rfl, rfl⟩ := hp
  repeat walk1
  have hmade := ha.made
  have hnT : ∀ q ∈ a.led w.params vs nS n tn [] np', ∀ p ∈ tl, p.1 ≠ q.1 := fun q hq p hp => by
    have hA := ha.ap
    simp only [LexP.led, List.mem_cons, List.not_mem_nil, or_false] at hq
    obtain ⟨e1, e2, e3, e4, e5, e6, e7, e8, e9⟩ := hA
    rcases hq with rfl | rfl | rfl | rfl | rfl | rfl | rfl | rfl | rfl
    · exact e9 p hp
    · exact e8 p hp
    · exact e7 p hp
    · exact e6 p hp
    · exact e5 p hp
    · exact e4 p hp
    · exact e3 p hp
    · exact e2 p hp
    · exact e1 p hp
  refine Meets.call (a.led w.params vs nS n tn [] np' ++ (cells9 L o1 o2 o3 o4 o5 o6 o7 o8 o9 ++ lx)) (law_lexer (w := w) (prog := prog) (x := l) hC1 hmade.ok hnd hll) F3 N3 X T (fun p hp => List.mem_append_left _ (List.mem_append_right _ hp)) (fun p hp => ?_) ?_ hh (by omega) (by omega) ?_
  · rcases List.mem_append.mp hp with hp | hp
    · exact List.mem_append_left _ (List.mem_append_left _ hp)
    · exact List.mem_append_right _ hp
  · intro q hq p hp
    rcases List.mem_append.mp hq with hq | hq
    · exact hnT q hq p hp
    · exact p4 q hq p (List.mem_append_right _ hp)
  intro n₂ v l₂ h₃ tk₃ hp F5 N5 q1 q2 q3 q4
  obtain ⟨b, tl2, ws, nT, tb, hok, hnd', hsm, hcS, hsg⟩ := hp
  obtain ⟨rfl, hcc⟩ := hsm _ hmade
  have N6 : News g L h₃ (cells9 L o1 o2 o3 o4 o5 o6 o7 o8 o9 ++ (lx ++ ((b.led w.params ws nT 1 tb [] 0 ++ tl2) ++ a.led w.params vs nS n tn [] np'))) := fun q hq => N5 q (perm24a.mp hq)
  have hc9 : (L + 1 + 1 + 1 + 1 + 1 + 1 + 1 + 1 + 1, o9) ∈ cells9 L o1 o2 o3 o4 o5 o6 o7 o8 o9 ++ lx := List.mem_append_left _ (.head _)
  have hRX9 : ∀ p ∈ lx ++ ((b.led w.params ws nT 1 tb [] 0 ++ tl2) ++ a.led w.params vs nS n tn [] np'), p.1 ≠ L + 1 + 1 + 1 + 1 + 1 + 1 + 1 + 1 + 1 := by
    intro p hp
    rcases List.mem_append.mp hp with hp | hp
    · exact hx9 p hp
    rcases List.mem_append.mp hp with hp | hp
    · exact q4 _ (List.mem_append_right _ hc9) p hp
    · exact p4 _ hc9 p (List.mem_append_left _ hp)
  generalize hRX : lx ++ ((b.led w.params ws nT 1 tb [] 0 ++ tl2) ++ a.led w.params vs nS n tn [] np') = RX at N6 hRX9
  simp only [cells9, List.cons_append, List.nil_append] at N6
  clear N5 N3
  repeat walk1
  rename_i d10
  with_reducible rename Fr _ _ _ _ => F7
  with_reducible rename News _ _ _ _ => N7
  refine hQ _ _ b ws nT tb np' _ hok hsg d10 (fun q hq p hp => ?_) (Mine.Fr.unsaid F7 hsay) (fun q hq => N7 q ?_)
  · rcases List.mem_append.mp hq with hq | hq
    · exact q4 q (List.mem_append_left _ hq) p hp
    rcases List.mem_append.mp hq with hq | hq
    · rcases List.mem_cons.mp hq with rfl | hq
      · exact q4 _ (List.mem_append_right _ hc9) p hp
      · exact q4 q (List.mem_append_right _ (List.mem_append_left _ (.tail _ hq))) p hp
    · exact q4 q (List.mem_append_right _ (List.mem_append_right _ hq)) p hp
  · have hq2 := perm24a.mpr hq
    rw [hRX] at hq2
    exact hq2
end
end

noncomputable section
theorem walkOff_C49 : True := by
  w_top off
  exact True.intro
theorem perm25b {α : Type} {a b c : α} {cs lx bl tl : List α} {q : α} (h : q ∈ a :: b :: c :: (cs ++ lx)) : q ∈ a :: b :: c :: (cs ++ (bl ++ (tl ++ lx))) := by
  simp only [List.mem_cons, List.mem_append] at h ⊢
  grind
theorem perm25c {α : Type} {a b c : α} {cs lx bl tl : List α} {q : α} : q ∈ a :: b :: c :: ((bl ++ tl) ++ (cs ++ lx)) ↔ q ∈ (bl ++ tl) ++ (a :: b :: c :: (cs ++ lx)) := by
  exact (List.perm_append_comm_assoc [a, b, c] (bl ++ tl) (cs ++ lx)).mem_iff
theorem perm25a {α : Type} {a b c : α} {cs lx bl tl : List α} {q : α} : q ∈ a :: b :: c :: (cs ++ (bl ++ (tl ++ lx))) ↔ q ∈ a :: b :: c :: ((bl ++ tl) ++ (cs ++ lx)) := by
  rw [← List.append_assoc bl]
  exact ((((List.perm_append_comm_assoc cs (bl ++ tl) lx).cons c).cons b).cons a).mem_iff
section
variable {A : Around} {s : Shared} {g : Heap} {L : Nat} {m : Str → Option Value} {p : Program} {loose : List Str} {mean : ExcName → Option Value} {mg mb : Str → Option Value} {Q : Flow → Shared → Prop} {E : Value → Shared → Prop}
  {o1 o2 o3 o4 o5 o6 o7 o8 o9 : Obj} {tl lx : List (Addr × Obj)}
noncomputable def J25 (P : Params) (b : LexP) (tl : List (Addr × Obj)) (ds : List Nat) (t : Nat) (R : List (Addr × Obj)) (k : Nat) (ys : List Value) (news : List (Addr × Obj)) : Prop :=
  ∃ ws nT tb np, SignsAre ws (remOf ds t k) ∧ StrsAre ys ((mailWords ds t).take k) ∧ news = (b.led P ws nT (1 + nls (mailOf ds t) - nls (remOf ds t k)) tb [] np ++ tl) ++ R
set_option maxHeartbeats 2000000 in
theorem law_s25 {b : LexP} {ws : List Value} {nT t rows : Nat} {tb tr : Tok} {ds : List Nat} (hb : b.Ok tl) (hsg : SignsAre ws (mailOf ds t)) (hd1 : ∀ d ∈ ds, 1 ≤ d ∧ d ≤ 1000) (ht : t ≤ 100) (hdr : ds.length = rows) (hr3 : rows ≤ 3) (hr0 : ds ≠ []) (hh : A.handled = none) (X : (hdK.heap_1 w.params).In g) (T : Top p loose mean mg mb g)
    (hdep : A.depth + 200 < recursionLimit) (hu : A.units + 3000 < cLine) (d9 : cellV o9 (.ref b.x))
    (hap : ∀ q ∈ cells9 L o1 o2 o3 o4 o5 o6 o7 o8 o9 ++ lx, ∀ p ∈ b.led w.params ws nT 1 tb [] 0 ++ tl, p.1 ≠ q.1) (hsay : Says m [(Str.ofString "rows", .int (rows : Int) tr)])
    (F : Fr g L s.heap m) (N : News g L s.heap ((b.led w.params ws nT 1 tb [] 0 ++ tl) ++ (cells9 L o1 o2 o3 o4 o5 o6 o7 o8 o9 ++ lx)))
    (hQ : ∀ (D : Nat) zv h' tk news, LCg.Off1 D news → J25 w.params b tl ds t (cells9 L o1 o2 o3 o4 o5 o6 o7 o8 o9 ++ lx) (rows + 1) zv news → Fr g L h' (fun y => if y = Str.ofString "words" then some (.ref D) else m y) → News g L h' ((D, listOf zv.toArray zv.length) :: news) → Q .next { s with heap := h', toks := tk }) :
    wpAny (model prog w) A (exec (stmtLaw w.params 25) (envLaw w.params L)) Q E s := by
  have hcLine : cLine = 9900 := rfl
  have hrec : recursionLimit = 1000 := rfl
  have N0 := N
  dsimp only [stmtLaw, envLaw, law222, Option.getD, List.getElem?_cons_succ, List.getElem?_cons_zero]
  have F := Mine.Fr.said F hsay
  refine LCg.Assign_ListComp_U (F₀ := F) (by rfl) (by with_unfolding_all rfl) rfl (by decide) rfl (by decide) rfl rfl rfl ?_
  generalize hR0 : (b.led w.params ws nT 1 tb [] 0 ++ tl) ++ (cells9 L o1 o2 o3 o4 o5 o6 o7 o8 o9 ++ lx) = R0 at N
  clear N0
  repeat walk1
  with_reducible rename IsRange _ _ _ _ _ _ _ _ => hR
  with_reducible rename Fr _ _ _ _ => F2
  with_reducible rename News _ _ _ _ => N2
  rw [← Int.natCast_succ] at hR
  refine LCg.CompSrc.range (n := rows + 1) hh F2 N2 hR (small_one (by omega) (by omega) (by omega) (by omega)) (by rw [rangeSize_one]; split <;> omega) (Nat.le_trans (show rows + 1 ≤ 4 by omega) (by decide)) (fun g' => ?_)
  refine comp_inv (n := rows + 1) (fun k zv news => J25 w.params b tl ds t (cells9 L o1 o2 o3 o4 o5 o6 o7 o8 o9 ++ lx) k zv news) ?_ ?_ (rows + 1) 0 [] _ (Nat.zero_add _) ⟨ws, nT, tb, 0, hsg, .nil, by rw [← hR0]; unfold remOf; rw [if_pos rfl, Int.add_sub_cancel]⟩
  · rintro k zv news v I oI C2 oC2 D2 m₃ h3 tk3 E3 hk ⟨ws, nT, tb, np, hsg, hzs, rfl⟩ ⟨tv, rfl⟩ hC2 hx2 F4 N4 off2 hne2
    refine gen_K fun KK hKK => ?_
    have off20 := off2
    have off3 := off2.mem
    have hapk := ap_led (vs' := ws) (nS' := nT) (n' := 1 + nls (mailOf ds t) - nls (remOf ds t k)) (tn' := tb) (ps' := []) (np' := np) hap
    have N5 : News g L h3 ((I, oI) :: (C2, oC2) :: (D2, LCg.lst zv) :: (cells9 L o1 o2 o3 o4 o5 o6 o7 o8 o9 ++ (b.led w.params ws nT (1 + nls (mailOf ds t) - nls (remOf ds t k)) tb [] np ++ (tl ++ lx)))) := fun q hq => N4 q (perm25a.mp hq)
    have hI : ∀ q ∈ (I, oI) :: (C2, oC2) :: (D2, LCg.lst zv) :: (cells9 L o1 o2 o3 o4 o5 o6 o7 o8 o9 ++ lx), ∀ p ∈ b.led w.params ws nT (1 + nls (mailOf ds t) - nls (remOf ds t k)) tb [] np ++ tl, p.1 ≠ q.1 := by
      intro q hq p hp
      have o3 := off3 p (List.mem_append_left _ hp)
      rcases List.mem_cons.mp hq with rfl | hq
      · exact o3.1
      rcases List.mem_cons.mp hq with rfl | hq
      · exact o3.2.1
      rcases List.mem_cons.mp hq with rfl | hq
      · exact o3.2.2
      exact hapk q hq p hp
    clear N4 N2 F2 hR
    generalize hTX : tl ++ lx = TX at N5
    simp only [cells9, LexP.led, List.cons_append, List.nil_append] at N5
    repeat walk1
    have hasc : Asc (remOf ds t k) := rem_asc ds t k
    have hlen := rem_len ds t k (fun d hd => (hd1 d hd).2) ht
    with_reducible rename Fr _ _ _ _ => F6
    refine Meets.call ((I, oI) :: (C2, oC2) :: (D2, LCg.lst zv) :: (cells9 L o1 o2 o3 o4 o5 o6 o7 o8 o9 ++ lx)) (get_word (w := w) (prog := prog) hb hsg (by omega) hasc) F6 N5 X T (fun p hp => ?_) (fun p hp => ?_) hI hh (by omega) (by omega) ?_
    · have hm := perm25a.mpr (List.mem_cons_of_mem (I, oI) (List.mem_cons_of_mem (C2, oC2) (List.mem_cons_of_mem (D2, LCg.lst zv) (List.mem_append_left (cells9 L o1 o2 o3 o4 o5 o6 o7 o8 o9 ++ lx) hp))))
      rw [hTX] at hm
      exact hm
    · have hm := perm25b (bl := b.led w.params ws nT (1 + nls (mailOf ds t) - nls (remOf ds t k)) tb [] np) (tl := tl) hp
      rw [hTX] at hm
      exact hm
    intro n₁ v l₁ h₂ tk₂ hp F7 N7 p1 p2 p3 p4
    obtain ⟨ws', nT', tb', tw', rfl, hsg', rfl⟩ := hp
    have off5 := off3_same (l' := (b.led w.params ws' nT' (1 + nls (mailOf ds t) - nls (remOf ds t k) + nls (remOf ds t k) - nls (word (remOf ds t k)).2) tb' [] np ++ tl) ++ (cells9 L o1 o2 o3 o4 o5 o6 o7 o8 o9 ++ lx)) off20 (by rw [List.map_append, List.map_append, List.map_append, List.map_append]; rfl)
    have eN : 1 + nls (mailOf ds t) - nls (remOf ds t k) + nls (remOf ds t k) - nls (word (remOf ds t k)).2 = 1 + nls (mailOf ds t) - nls (word (remOf ds t k)).2 := by omega
    rw [eN] at N7 off5
    have eW : (word (remOf ds t k)).2 = remOf ds t (k + 1) ∧ (mailWords ds t).take (k + 1) = (mailWords ds t).take k ++ [txt (word (remOf ds t k)).1] := by
      by_cases hkr : k < ds.length
      · rw [word_rem ds t k hkr fun d hd => (hd1 d hd).1]
        refine ⟨rfl, ?_⟩
        have hkl : k < (ds.map fun d => txt (rep (d + t))).length := by rw [List.length_map]; exact hkr
        rw [List.take_add_one, show (mailWords ds t)[k]? = some (txt (rep (ds[k] + t))) by
          unfold mailWords
          rw [List.getElem?_append_left hkl, List.getElem?_map, List.getElem?_eq_getElem hkr]; rfl]
        rfl
      · have hke : k = ds.length := by omega
        subst hke
        rw [word_rem_last ds t hr0, rem_end]
        refine ⟨rfl, ?_⟩
        rw [List.take_add_one, show (mailWords ds t)[ds.length]? = some (txt []) by
          unfold mailWords
          rw [List.getElem?_append_right (by rw [List.length_map]; exact Nat.le_refl _), List.length_map, Nat.sub_self]; rfl]
        rfl
    rw [eW.1] at N7 off5 hsg'
    exact hKK _ _ (LCg.CompEnd.intro F7 (fun q hq => N7 q (perm25c.mp hq)) _ (fun p hp => hp) off5 True.intro ⟨ws', nT', tb', np, hsg', by rw [eW.2]; exact strs_snoc hzs, rfl⟩)
  · rintro zv news hJ
    unfold LCg.FinA
    intro D3 h3 tk3 F4 N4 off2
    have e9 : (fun y => if y = Str.ofString "words" then some (Value.ref D3) else kstB m [(Str.ofString "rows", .int (rows : Int) tr)] y) = fun y => if y = Str.ofString "words" then some (Value.ref D3) else m y := by
      funext y
      rw [kstB_eq hsay fun _ => rfl]
    rw [e9] at F4
    exact hQ D3 zv _ _ news off2 hJ F4 N4
end
end

noncomputable section
theorem walkOff_C50 : True := by
  w_top off
  exact True.intro
theorem mailWords_ok (ds : List Nat) (t : Nat) : ∀ x ∈ mailWords ds t, okStr x = true := by
  intro x hx
  rcases List.mem_append.mp hx with hx | hx
  · obtain ⟨d, _, rfl⟩ := List.mem_map.mp hx
    exact Asc.ok (l := rep (d + t)) fun c hc => by rw [List.eq_of_mem_replicate hc]; decide
  · rw [List.mem_singleton.mp hx]; exact Asc.ok (l := []) fun c hc => by cases hc
section
variable {A : Around} {s : Shared} {g : Heap} {L : Nat} {m : Str → Option Value} {p : Program} {loose : List Str} {mean : ExcName → Option Value} {mg mb : Str → Option Value} {Q : Flow → Shared → Prop} {E : Value → Shared → Prop}
  {o1 o2 o3 o4 o5 o6 o7 o8 o9 : Obj} {tl lx : List (Addr × Obj)}
set_option maxHeartbeats 2000000 in
theorem law_s26 {b : LexP} {ws vw vd : List Value} {nT t rows W nw dl nd np : Nat} {tb tr t5 : Tok} {ds : List Nat} (hW : StrsAre vw (mailWords ds t)) (hD : IntsAre vd (asInts ds)) (hd1 : ∀ d ∈ ds, 1 ≤ d ∧ d ≤ 1000) (ht : t ≤ 100) (hdr : ds.length = rows) (hr3 : rows ≤ 3) (hh : A.handled = none) (X : (hdK.heap_1 w.params).In g) (T : Top p loose mean mg mb g)
    (hdep : A.depth + 200 < recursionLimit) (hu : A.units + 3000 < cLine) (d4 : cellV o4 (.ref dl)) (d5 : cellV o5 (.int (t : Int) t5)) (d9 : cellV o9 (.ref b.x))
    (hsay : Says m [(Str.ofString "rows", .int (rows : Int) tr), (Str.ofString "words", .ref W)])
    (F : Fr g L s.heap m) (N : News g L s.heap ((W, listOf vw.toArray nw) :: (dl, listOf vd.toArray nd) :: (cells9 L o1 o2 o3 o4 o5 o6 o7 o8 o9 ++ (b.led w.params ws nT (1 + (rows : Int)) tb [] np ++ lx))))
    (hQ : ∀ h' tk, Fr g L h' m → News g L h' ((W, listOf vw.toArray nw) :: (dl, listOf vd.toArray nd) :: (cells9 L o1 o2 o3 o4 o5 o6 o7 o8 o9 ++ (b.led w.params ws nT (1 + (rows : Int)) tb [] np ++ lx))) → Q .next { s with heap := h', toks := tk }) :
    wpAny (model prog w) A (exec (stmtLaw w.params 26) (envLaw w.params L)) Q E s := by
  have hcLine : cLine = 9900 := rfl
  have hrec : recursionLimit = 1000 := rfl
  have N0 := N
  simp only [cells9, LexP.led, List.cons_append, List.nil_append] at N
  dsimp only [stmtLaw, envLaw, law222, Option.getD, List.getElem?_cons_succ, List.getElem?_cons_zero]
  have F := Mine.Fr.said F hsay
  iterate 5 walk1
  refine LCg.ListComp_U F rfl (by decide) rfl (by decide) rfl ?_
  repeat walk1
  refine LCg.CompSrc.ledger hh F N (.tail _ (.head _)) (Nat.le_trans (show vd.toArray.size ≤ 3 by simp [hD.length]; omega) (by decide)) (fun g' => ?_)
  have hdn : vd.toArray.size = ds.length := by simp [hD.length]
  rw [hdn]
  refine comp_inv (n := ds.length) (fun k zv news => news = _ ∧ StrsAre zv ((ds.take k).map fun d => txt (rep (d + t)))) ?_ ?_ ds.length 0 [] _ (Nat.zero_add _) ⟨rfl, .nil⟩
  · rintro k zv news v I oI C2 oC2 D2 m₃ h3 tk3 E3 hk ⟨rfl, hzs⟩ hv hC2 hx2 F4 N4 off2 hne2
    refine gen_K fun KK hKK => ?_
    have off20 := off2
    have hck : ds[k]? = some ds[k] := List.getElem?_eq_getElem hk
    obtain ⟨tv, hv2⟩ := hD.get k _ (show (asInts ds)[k]? = some ((ds[k] : Nat) : Int) by rw [List.getElem?_map, hck]; rfl)
    have ev : v = .int ((ds[k] : Nat) : Int) tv := by
      have : vd[k]? = some v := by simpa using hv
      rw [this] at hv2; exact Option.some.inj hv2
    subst ev
    have hnext : ((ds.take (k + 1)).map fun d => txt (rep (d + t))) = ((ds.take k).map fun d => txt (rep (d + t))) ++ [txt (rep (ds[k] + t))] := by
      rw [List.take_add_one, hck, List.map_append]; rfl
    rw [hnext] at hKK
    have hdb := (hd1 ds[k] (List.getElem_mem hk)).2
    generalize ds[k] = d at *
    repeat walk1
    have em : Txt.mul (Str.ofString ".") ((d : Int) + (t : Int)) = txt (rep (d + t)) := by
      rw [← Int.natCast_add]
      exact mul_sign 46 (d + t)
    rw [em]
    with_reducible rename Fr _ _ _ _ => F5
    with_reducible rename News _ _ _ _ => N5
    exact hKK _ _ (LCg.CompEnd.intro F5 N5 _ (fun p hp => hp) off20 (.inr ⟨_, .tail _ (.head _), rfl, _, rfl⟩) ⟨rfl, strs_snoc hzs⟩)
  · rintro zv news ⟨rfl, hzs⟩
    unfold LCg.FinE
    intro D3 h3 tk3 F4 N4 off2
    rw [List.take_length] at hzs
    repeat walk1
    with_reducible rename Fr _ _ _ _ => F5
    with_reducible rename News _ _ _ _ => N5
    have hzl : zv.length = ds.length := by rw [StrsAre.length hzs, List.length_map]
    refine add_lists (vs := zv) (ws := [.str (Str.ofString "") tk3]) F5 N5 (News.isList N5 (.tail _ (.head _))) (News.isList N5 (.head _)) (fun h6 F6 N6 => ?_) (by rw [hzl]; exact Nat.le_trans (show ds.length + 1 ≤ 4 by omega) (by decide))
    have hz2 := StrsAre.append' hzs (StrsAre.cons (txt []) tk3 StrsAre.nil)
    refine ne_strs (News.isList N6 (.tail _ (.tail _ (.tail _ (.head _))))) hW (News.isList N6 (.head _)) hz2 ?_ ?_ (by omega) ?_
    · exact mailWords_ok ds t
    · exact mailWords_ok ds t
    rw [show (decide (mailWords ds t = (ds.map fun d => txt (rep (d + t))) ++ [txt []])) = true from decide_eq_true rfl]
    repeat walk1
    · exact absurd rfl (show ¬ (1 + (rows : Int)) = 1 + (rows : Int) by assumption)
    repeat walk1
    with_reducible rename Fr _ _ _ _ => F8
    exact hQ _ _ (Mine.Fr.unsaid F8 hsay) (fun p hp => N6 p (.tail _ (.tail _ (.tail _ hp))))
set_option maxHeartbeats 2000000 in
theorem law_s27 {a : LexP} {vs : List Value} {nS np : Nat} {n : Int} {tn : Tok} (ha : a.Ok tl) (hS : SignsAre vs [46]) (hh : A.handled = none) (X : (hdK.heap_1 w.params).In g) (T : Top p loose mean mg mb g)
    (hdep : A.depth + 200 < recursionLimit) (hu : A.units + 3000 < cLine) (hap : ∀ q ∈ lx, ∀ p ∈ a.led w.params vs nS n tn [] np ++ tl, p.1 ≠ q.1) (hsay : Says m [(Str.ofString "lexer", .ref a.x)])
    (F : Fr g L s.heap m) (N : News g L s.heap ((a.led w.params vs nS n tn [] np ++ tl) ++ lx))
    (hQ : ∀ h' tk vs' nS' n' tn', Fr g L h' m → News g L h' ((a.led w.params vs' nS' n' tn' [] np ++ tl) ++ lx) → Q (.ret (.bool true)) { s with heap := h', toks := tk }) :
    wpAny (model prog w) A (exec (stmtLaw w.params 27) (envLaw w.params L)) Q E s := by
  have hcLine : cLine = 9900 := rfl
  have hrec : recursionLimit = 1000 := rfl
  have N0 := N
  simp only [LexP.led, List.cons_append, List.nil_append] at N
  dsimp only [stmtLaw, envLaw, law222, Option.getD, List.getElem?_cons_succ, List.getElem?_cons_zero]
  have F := Mine.Fr.said F hsay
  repeat walk1
  refine Meets.call lx (get_word (w := w) (prog := prog) ha hS (by decide) (by unfold Asc; decide)) F N0 X T (fun p hp => List.mem_append_left _ hp) (fun p hp => List.mem_append_right _ hp) hap hh (by omega) (by omega) ?_
  intro n₁ v l₁ h₂ tk₂ hp F3 N3 p1 p2 p3 p4
  obtain ⟨vs1, nS1, tn1, t1, rfl, hS1, rfl⟩ := hp
  have e1 : word [46] = ([46], []) := by decide
  rw [e1] at hS1 N3 p4
  have N4 := N3
  simp only [LexP.led, List.cons_append, List.nil_append] at N4
  clear N0 N
  have N5 := N3
  clear N3
  repeat walk1
  refine Meets.call lx (get_word (w := w) (prog := prog) ha hS1 (by decide) (fun c hc => by cases hc)) F3 N5 X T (fun p hp => List.mem_append_left _ hp) (fun p hp => List.mem_append_right _ hp) p4 hh (by omega) (by omega) ?_
  intro n₁ v l₁ h₂ tk₂ hp F6 N6 p1 p2 p3 p4
  obtain ⟨vs2, nS2, tn2, t2, rfl, hS2, rfl⟩ := hp
  have N7 := N6
  simp only [LexP.led, List.cons_append, List.nil_append] at N7
  have e2 : (word (([46], []) : List Nat × List Nat).2).1 = [] := rfl
  rw [e2]
  clear N5 N4
  repeat walk1
  with_reducible rename Fr _ _ _ _ => F8
  with_reducible rename News _ _ _ _ => N8
  have eB : (txt (word [46]).1 == Str.ofString "." && txt [] == Str.ofString "") = true := by
    rw [e1]; rfl
  rw [eB]
  exact hQ _ _ vs2 nS2 _ tn2 (Mine.Fr.unsaid F8 hsay) (fun p hp => N8 p (.tail _ (.tail _ hp)))
end
end

noncomputable section
theorem walkOff_C51 : True := by
  w_top off
  exact True.intro
theorem szOf_range (c : Nat) : szOf c ∈ sizesL := by
  unfold szOf
  have h : c % 8 < 8 := Nat.mod_lt _ (by decide)
  generalize c % 8 = r at h
  have key : ∀ r, r < 8 → ([2, 4, 3, 8, 2, 6, 4, 3] : List Nat).getD r 0 ∈ sizesL := by decide
  exact key r h
theorem dotOf_range (c : Nat) : 1 ≤ dotOf c ∧ dotOf c ≤ 8 := by
  unfold dotOf
  have h := szOf_range c
  have hp := size_pos h
  have hm := Nat.mod_lt (c / 8) hp
  have h8 : szOf c ≤ 8 := by rcases size_cases h with e | e | e | e | e <;> omega
  omega
theorem endOf_is (c : Nat) : IsEnd (endOf c) := by
  unfold endOf IsEnd
  have h : c / 64 % 3 < 3 := Nat.mod_lt _ (by decide)
  generalize c / 64 % 3 = r at h
  have key : ∀ r, r < 3 → ([[10], [13], [13, 10]] : List (List Nat)).getD r [] = [10] ∨ ([[10], [13], [13, 10]] : List (List Nat)).getD r [] = [13] ∨ ([[10], [13], [13, 10]] : List (List Nat)).getD r [] = [13, 10] := by decide
  exact key r h
noncomputable def psOf (cs : List Nat) : List (Nat × List Nat) := cs.map fun c => (dotOf c, endOf c)
theorem rows_typed (cs : List Nat) : cs.flatMap rowOf = rowsOf (psOf cs) := by
  unfold rowsOf psOf
  rw [List.flatMap_map]
  rfl
theorem psOf_ok (cs : List Nat) : ∀ p ∈ psOf cs, 1 ≤ p.1 ∧ IsEnd p.2 := fun p hp => by
  obtain ⟨c, _, rfl⟩ := List.mem_map.mp hp
  exact ⟨(dotOf_range c).1, endOf_is c⟩
theorem psOf_fst (cs : List Nat) : (psOf cs).map (·.1) = cs.map dotOf := by
  unfold psOf
  rw [List.map_map]; rfl
theorem rows_signs (cs : List Nat) : ∀ x ∈ rowsOf (psOf cs), x = 46 ∨ x = 10 ∨ x = 13 := by
  intro x hx
  obtain ⟨p, hp, hx⟩ := List.mem_flatMap.mp hx
  rcases List.mem_append.mp hx with hx | hx
  · exact .inl (List.eq_of_mem_replicate hx)
  · rcases (psOf_ok cs p hp).2 with e | e | e <;> (rw [e] at hx; simp at hx; omega)
theorem rows_len (cs : List Nat) : (rowsOf (psOf cs)).length ≤ 10 * cs.length := by
  induction cs with
  | nil => exact Nat.zero_le _
  | cons c cs ih =>
    show (rowsOf ((dotOf c, endOf c) :: psOf cs)).length ≤ _
    rw [rowsOf_cons, List.length_append, List.length_append, List.length_replicate, List.length_cons]
    have := (dotOf_range c).2
    have he : (endOf c).length ≤ 2 := by rcases endOf_is c with e | e | e <;> (rw [e]; decide)
    dsimp only
    omega
theorem rows_ne {cs : List Nat} (h : cs ≠ []) : rowsOf (psOf cs) ≠ [] := by
  cases cs with
  | nil => exact absurd rfl h
  | cons c cs =>
    show rowsOf ((dotOf c, endOf c) :: psOf cs) ≠ []
    rw [rowsOf_cons]
    obtain ⟨d, hd⟩ : ∃ d, dotOf c = d + 1 := ⟨dotOf c - 1, by have := (dotOf_range c).1; omega⟩
    rw [hd]
    intro e; cases e
theorem word_text (c3 : Nat) (cs : List Nat) (h : cs ≠ []) : word (textOf c3 (rowsOf (psOf cs))) = (rowsOf (psOf cs), [46]) := by
  unfold textOf
  split
  · have := word_quoted (rowsOf (psOf cs)) [46] fun c hc => by
      have := rows_signs cs c hc
      omega
    exact this
  · exact word_escs (rowsOf (psOf cs)) [46] (rows_ne h)
theorem text_asc (c3 : Nat) (cs : List Nat) : Asc (textOf c3 (rowsOf (psOf cs))) := by
  have hs := rows_signs cs
  intro c hc
  unfold textOf at hc
  split at hc
  · simp only [List.mem_cons, List.mem_append, List.not_mem_nil, or_false] at hc
    rcases hc with rfl | hc | rfl | rfl
    · decide
    · have := hs c hc; omega
    · decide
    · decide
  · rcases List.mem_append.mp hc with hc | hc
    · obtain ⟨d, hd, hc⟩ := List.mem_flatMap.mp hc
      have := hs d hd
      simp only [List.mem_cons, List.not_mem_nil, or_false] at hc
      omega
    · simp only [List.mem_cons, List.not_mem_nil, or_false] at hc
      omega
theorem text_len (c3 : Nat) (cs : List Nat) (h : cs.length ≤ 3) : (textOf c3 (rowsOf (psOf cs))).length ≤ 10000 := by
  have hl := rows_len cs
  unfold textOf
  split
  · simp only [List.length_cons, List.length_append, List.length_nil]; omega
  · rw [List.length_append, esc_len]; simp only [List.length_cons, List.length_nil]; omega
theorem text_nls (c3 : Nat) (l : List Nat) : nls (textOf c3 l) = nls l := by
  unfold textOf nls
  split
  · rw [List.count_cons, List.count_append]; simp
  · rw [List.count_append, count_escs]; simp
theorem perm51a {α : Type} {c d z : α} {cs tD tL : List α} {q : α} (h : q ∈ c :: (cs ++ (d :: z :: tD) ++ tL)) : q ∈ d :: z :: c :: (cs ++ (tL ++ tD)) := by
  simp only [List.mem_cons, List.mem_append] at h ⊢
  grind
theorem perm51b {α : Type} {c d z : α} {cs tD : List α} {q : α} (h : q ∈ d :: z :: (cs ++ tD)) : q ∈ c :: (cs ++ (d :: z :: tD)) := by
  simp only [List.mem_cons, List.mem_append] at h ⊢
  grind
theorem perm51c {α : Type} {c d z : α} {cs tD ld : List α} {q : α} (h : q ∈ ld ++ (d :: z :: (cs ++ tD))) : q ∈ ld ++ (c :: (cs ++ (d :: z :: tD))) := by
  simp only [List.mem_cons, List.mem_append] at h ⊢
  grind
theorem cells_gt {L : Nat} {o1 o2 o3 o4 o5 o6 o7 o8 o9 : Obj} {q : Addr × Obj} (h : q ∈ cells9 L o1 o2 o3 o4 o5 o6 o7 o8 o9) : @LT.lt Nat _ L q.1 := by
  simp only [cells9, List.mem_cons, List.not_mem_nil, or_false] at h
  rcases h with rfl | rfl | rfl | rfl | rfl | rfl | rfl | rfl | rfl <;> (dsimp only; omega)
noncomputable abbrev lawFrom (P : Params) (i : Nat) : List Stmt := (law222 P).1.2.drop i
section
variable {A : Around} {s : Shared} {g : Heap} {L : Nat} {m : Str → Option Value} {p : Program} {loose : List Str} {mean : ExcName → Option Value} {mg mb : Str → Option Value} {K : Flow → Shared → Prop}
  {o1 o2 o3 o4 o5 o6 o7 o8 o9 : Obj} {tlD tlL : List (Addr × Obj)}
theorem low_app {n : Nat} {l l' : List (Addr × Obj)} (h : Low n l) (h' : Low n l') : Low n (l ++ l') := fun p hp => (List.mem_append.mp hp).elim (h p) (h' p)
set_option maxHeartbeats 2000000 in
theorem law_A {sc : Nat} {vs : List Value} {ns : List Int} (hI : IntsAre vs ns) (hlen : ns.length ≤ 63) (hh : A.handled = none) (X : (hdK.heap_1 w.params).In g) (T : Top p loose mean mg mb g)
    (hdep : A.depth + 200 < recursionLimit) (hu : A.units + 3000 < cLine) (hsc : g.IsList sc vs.toArray) (hlD : Low L tlD) (hlL : Low L tlL) (htL : TabOk 207 182 16 lamQ tlL) (hndL : (tlL.map (·.1)).Nodup) (hDL : ∀ q ∈ tlD, ∀ p ∈ tlL, p.1 ≠ q.1)
    (hC3 : ∀ g, (hdK.heap_1 w.params).In g → CodeHd g 211 207) (d1 : cellV o1 (.ref sc)) {c2 c3' c4 : Option Value} (d2 : o2.data = .cell c2) (d3 : o3.data = .cell c3') (d4 : o4.data = .cell c4)
    (F : Fr g L s.heap m) (N : News g L s.heap (cells9 L o1 o2 o3 o4 o5 o6 o7 o8 o9 ++ (tlL ++ tlD)))
    (hQ : ∀ (c3 : Nat) (cs : List Nat) (rows wd zl nz dl nd nS np : Nat) (vz vd vs : List Value) (o2 o3 o4 : Obj) (a : LexP) (tl : List (Addr × Obj)) (tn t0 tr tw : Tok) (h' : Heap) (tk : Nat) (m' : Str → Option Value),
      cs.length = rows → (rows = 2 ∨ rows = 3) → 2 ≤ wd → wd ≤ 7 → IntsAre vz (asInts (cs.map szOf)) → IntsAre vd (asInts (cs.map dotOf)) → a.Ok tl → (tl.map (·.1)).Nodup → SignsAre vs [46] → cellV o3 (.ref zl) → cellV o4 (.ref dl) →
      (∀ q ∈ (dl, listOf vd.toArray nd) :: (zl, listOf vz.toArray nz) :: (cells9 L o1 o2 o3 o4 o5 o6 o7 o8 o9 ++ tlD), ∀ p ∈ a.led w.params vs nS (1 + nls (rowsOf (psOf cs))) tn [.str (txt (rowsOf (psOf cs))) t0] np ++ tl, p.1 ≠ q.1) →
      LCg.Off1 zl (cells9 L o1 o2 o3 o4 o5 o6 o7 o8 o9 ++ tlD) → LCg.Off1 dl ((zl, listOf vz.toArray nz) :: (cells9 L o1 o2 o3 o4 o5 o6 o7 o8 o9 ++ tlD)) →
      Says m' [(Str.ofString "lexer", .ref a.x), (Str.ofString "rows", .int (rows : Int) tr), (Str.ofString "width", .int (wd : Int) tw)] →
      Fr g L h' m' → News g L h' ((a.led w.params vs nS (1 + nls (rowsOf (psOf cs))) tn [.str (txt (rowsOf (psOf cs))) t0] np ++ tl) ++ (dl, listOf vd.toArray nd) :: (zl, listOf vz.toArray nz) :: (cells9 L o1 o2 o3 o4 o5 o6 o7 o8 o9 ++ tlD)) →
      wpAny (model prog w) A (execs (lawFrom w.params 10) (envLaw w.params L)) K (fun _ _ => False) { s with heap := h', toks := tk }) :
    wpAny (model prog w) A (execs (lawFrom w.params 0) (envLaw w.params L)) K (fun _ _ => False) s := by
  have hlT := low_app hlL hlD
  rw [show lawFrom w.params 0 = stmtLaw w.params 0 :: stmtLaw w.params 1 :: stmtLaw w.params 2 :: stmtLaw w.params 3 :: stmtLaw w.params 4 :: stmtLaw w.params 5 :: stmtLaw w.params 6 :: stmtLaw w.params 7 :: stmtLaw w.params 8 :: stmtLaw w.params 9 :: lawFrom w.params 10 from rfl]
  refine wpAny_execs_cons (law_s0 (o1 := o1) (o2 := o2) (o3 := o3) (o4 := o4) (o5 := o5) (o6 := o6) (o7 := o7) (o8 := o8) (o9 := o9) hI hlen hh X T hdep hu hsc hlT d1 d2 F N ?_)
  intro cl vc nc cs o2' h0 tk0 hcl hcb hIc d2' offc F0 N0
  dsimp only
  obtain ⟨c0, c1, c2, c3, rfl⟩ : ∃ c0 c1 c2 c3, cs = [c0, c1, c2, c3] := by
    match cs, hcl with
    | [a, b, c, d], _ => exact ⟨a, b, c, d, rfl⟩
  refine wpAny_execs_cons (law_s1 (o1 := o1) (o3 := o3) (o4 := o4) (o5 := o5) (o6 := o6) (o7 := o7) (o8 := o8) (o9 := o9) hIc hh X T d2' F0 N0 ?_)
  intro h1 tk1 tr v hv F1 N1
  subst hv
  dsimp only
  refine wpAny_execs_cons (law_s2 (o1 := o1) (o3 := o3) (o4 := o4) (o5 := o5) (o6 := o6) (o7 := o7) (o8 := o8) (o9 := o9) hIc hh X T d2' F1 N1 ?_)
  intro h2 tk2 tw v hv F2 N2
  subst hv
  dsimp only
  have hr : 3 - c3 % 2 = 2 ∨ 3 - c3 % 2 = 3 := by omega
  generalize hrows : 3 - c3 % 2 = rows at *
  have hr3 : rows ≤ 3 := by omega
  refine wpAny_execs_cons (law_s3 (o1 := o1) (o3 := o3) (o4 := o4) (o5 := o5) (o6 := o6) (o7 := o7) (o8 := o8) (o9 := o9) (rows := rows) (tr := tr) hIc rfl hr3 hh X T hdep hu d2' d3 hlT offc (says_cons (by rfl) says_nil) F2 N2 ?_)
  intro zl vz nz o3' h3 tk3 hZ d3' offz F3 N3
  dsimp only
  refine wpAny_execs_cons (law_s4 (o1 := o1) (o4 := o4) (o5 := o5) (o6 := o6) (o7 := o7) (o8 := o8) (o9 := o9) (rows := rows) (tr := tr) hIc rfl hZ hr3 hh X T hdep hu d2' d3' d4 hlT offc offz (says_cons (by rfl) says_nil) F3 N3 ?_)
  intro dl vd nd o4' h4 tk4 hD d4' offd F4 N4
  dsimp only
  refine wpAny_execs_cons (law_s5 (o1 := o1) (o3 := o3') (o5 := o5) (o6 := o6) (o7 := o7) (o8 := o8) (o9 := o9) (rows := rows) (tr := tr) hIc rfl hD hr3 hh X T hdep hu d2' d4' hlT offc offz offd (says_cons (by rfl) says_nil) F4 N4 ?_)
  intro h5 tk5 tt x hx F5 N5
  subst hx
  dsimp only
  have hne : [c0, c1, c2, c3].take rows ≠ [] := by rcases hr with rfl | rfl <;> (intro e; cases e)
  have hl3 : ([c0, c1, c2, c3].take rows).length = rows := by rcases hr with rfl | rfl <;> rfl
  rw [rows_typed] at F5
  generalize hcs : [c0, c1, c2, c3].take rows = ds at *
  have hrl := rows_len ds
  have offz : LCg.Off1 zl ((cl, listOf vc.toArray nc) :: (cells9 L o1 o2' o3' o4' o5 o6 o7 o8 o9 ++ (tlL ++ tlD))) := offz
  have hap6 : ∀ q ∈ (cl, listOf vc.toArray nc) :: (cells9 L o1 o2' o3' o4' o5 o6 o7 o8 o9 ++ ((dl, listOf vd.toArray nd) :: (zl, listOf vz.toArray nz) :: tlD)), ∀ p ∈ tlL, p.1 ≠ q.1 := by
    intro q hq p hp
    rcases List.mem_cons.mp hq with rfl | hq
    · exact Off1.mem offc p (List.mem_append_right _ (List.mem_append_left _ hp))
    rcases List.mem_append.mp hq with hq | hq
    · have hpL := hlL p hp
      have hc := cells_gt hq
      exact Nat.ne_of_lt (Nat.lt_trans hpL hc)
    rcases List.mem_cons.mp hq with rfl | hq
    · exact Off1.mem offd p (.tail _ (.tail _ (List.mem_append_right _ (List.mem_append_left _ hp))))
    rcases List.mem_cons.mp hq with rfl | hq
    · exact Off1.mem offz p (.tail _ (List.mem_append_right _ (List.mem_append_left _ hp)))
    · exact hDL q hq p hp
  refine wpAny_execs_cons (law_s6 (o1 := o1) (o3 := o3') (o4 := o4') (o5 := o5) (o6 := o6) (o7 := o7) (o8 := o8) (o9 := o9) (l := rowsOf (psOf ds)) (rest := (dl, listOf vd.toArray nd) :: (zl, listOf vz.toArray nz) :: tlD) hIc (by omega) hC3 htL hndL hh X T hdep hu d2' hap6 (says_cons (by rfl) says_nil) F5 (fun q hq => N5 q (perm51a hq)) ?_)
  intro h6 tk6 a tl vs6 nS6 tn6 hok hnd hsm hsg hap7 hLa hAl F6 N6
  dsimp only
  refine wpAny_execs_cons (law_s7 hok hsg (text_len c3 ds (by omega)) (text_asc c3 ds) hh X T hdep hu hap7 (says_cons (by rfl) says_nil) F6 N6 ?_)
  intro h7 tk7 vs7 nS7 tn7 t7 hsg7 F7 N7
  dsimp only
  rw [word_text c3 ds hne] at hsg7 N7 F7
  rw [text_nls, show nls ([46] : List Nat) = 0 from rfl, Int.sub_zero] at N7
  dsimp only at hsg7 F7
  refine wpAny_execs_cons (law_s8 (l := rowsOf (psOf ds)) (tw := t7) (tt := tt) (a := a) (nS := nS7) (tn := tn7) (l' := []) hh X T hdep hu (says_cons (by rfl) (says_cons (by rfl) (says_cons (by rfl) says_nil))) F7 N7 ?_)
  intro h8 tk8 F8 N8
  dsimp only
  refine wpAny_execs_cons (law_s9 (v₀ := .str (txt (rowsOf (psOf ds))) t7) hok hh X T hdep hu (ap_led hap7) (says_cons (by rfl) (says_cons (by rfl) says_nil)) F8 N8 ?_)
  intro h9 tk9 np F9 N9
  dsimp only
  have hap9 := ap_led (vs' := vs7) (nS' := nS7) (n' := 1 + nls (rowsOf (psOf ds))) (tn' := tn7) (ps' := [.str (txt (rowsOf (psOf ds))) t7]) (np' := np) hap7
  refine hQ c3 ds rows (2 + c3 / 2 % 6) zl nz dl nd nS7 np vz vd vs7 o2' o3' o4' a tl tn7 t7 tr tw h9 tk9 _ hl3 hr (by omega) (by omega) hZ hD hok hnd hsg7 d3' d4' (fun q hq => hap9 q (perm51b hq)) (Off1.of fun p hp => ?_) (Off1.of fun p hp => ?_) (says_cons (by rfl) (says_cons (by rfl) (says_cons (by rfl) says_nil))) F9 (fun q hq => N9 q (perm51c hq))
  · refine Off1.mem offz p (.tail _ ?_)
    rcases List.mem_append.mp hp with hp | hp
    · exact List.mem_append_left _ hp
    · exact List.mem_append_right _ (List.mem_append_right _ hp)
  · rcases List.mem_cons.mp hp with rfl | hp
    · exact Off1.mem offd _ (.head _)
    refine Off1.mem offd p (.tail _ (.tail _ ?_))
    rcases List.mem_append.mp hp with hp | hp
    · exact List.mem_append_left _ hp
    · exact List.mem_append_right _ (List.mem_append_right _ hp)
end
end

noncomputable section
theorem walkOff_C52 : True := by
  w_top off
  exact True.intro
theorem perm52c {α : Type} {s q z d x : α} {cs ld tD : List α} (h : x ∈ ld ++ (q :: s :: z :: d :: (cs ++ tD))) : x ∈ s :: q :: z :: d :: (cs ++ (ld ++ tD)) := by
  simp only [List.mem_cons, List.mem_append] at h ⊢
  grind
theorem perm52a {α : Type} {z d : α} {cs ld tD : List α} {q : α} (h : q ∈ cs ++ (z :: d :: (ld ++ tD))) : q ∈ ld ++ (d :: z :: (cs ++ tD)) := by
  simp only [List.mem_cons, List.mem_append] at h ⊢
  grind
theorem perm52b {α : Type} {z d : α} {cs lx : List α} {q : α} (h : q ∈ z :: d :: (cs ++ lx)) : q ∈ cs ++ (z :: d :: lx) := by
  simp only [List.mem_cons, List.mem_append] at h ⊢
  grind
section
variable {A : Around} {s : Shared} {g : Heap} {L : Nat} {m : Str → Option Value} {p : Program} {loose : List Str} {mean : ExcName → Option Value} {mg mb : Str → Option Value} {K : Flow → Shared → Prop}
  {o1 o2 o3 o4 o5 o6 o7 o8 o9 : Obj} {tlD tl : List (Addr × Obj)}
theorem Off1.objs {D : Nat} {l l' : List (Addr × Obj)} (h : LCg.Off1 D l) (e : l'.map (·.1) = l.map (·.1)) : LCg.Off1 D l' := Off1.of fun p hp => by
  have hm : p.1 ∈ l'.map (·.1) := List.mem_map_of_mem hp
  rw [e] at hm
  obtain ⟨p', hp', e⟩ := List.mem_map.mp hm
  rw [← e]; exact Off1.mem h p' hp'
noncomputable abbrev cellKeys (L : Nat) : List Nat := [L + 1 + 1 + 1 + 1 + 1 + 1 + 1 + 1 + 1, L + 1 + 1 + 1 + 1 + 1 + 1 + 1 + 1, L + 1 + 1 + 1 + 1 + 1 + 1 + 1, L + 1 + 1 + 1 + 1 + 1 + 1, L + 1 + 1 + 1 + 1 + 1, L + 1 + 1 + 1 + 1, L + 1 + 1 + 1, L + 1 + 1, L + 1]
theorem cells_key {q : Addr × Obj} (h : q ∈ cells9 L o1 o2 o3 o4 o5 o6 o7 o8 o9) : q.1 ∈ cellKeys L := by
  have e : (cells9 L o1 o2 o3 o4 o5 o6 o7 o8 o9).map (·.1) = cellKeys L := rfl
  rw [← e]; exact List.mem_map_of_mem h
theorem key_cells {x : Nat} (h : x ∈ cellKeys L) : ∃ q ∈ cells9 L o1 o2 o3 o4 o5 o6 o7 o8 o9, q.1 = x := by
  have e : (cells9 L o1 o2 o3 o4 o5 o6 o7 o8 o9).map (·.1) = cellKeys L := rfl
  rw [← e] at h; exact List.mem_map.mp h
theorem keys_eq {ql sl zl dl : Nat} : keys L ql sl zl dl = ql :: sl :: zl :: dl :: cellKeys L := rfl
theorem cellKeys_map : cellKeys L = [9, 8, 7, 6, 5, 4, 3, 2, 1].map (fun k => L + k) := rfl
theorem cellKeys_nodup : (cellKeys L).Nodup := by
  rw [cellKeys_map]
  exact List.Pairwise.map (R := fun a b : Nat => a ≠ b) _ (fun a b h e => h (Nat.add_left_cancel e)) (by decide)
theorem cellKeys_gt {x : Nat} (h : x ∈ cellKeys L) : L < x := by
  rw [cellKeys_map] at h
  obtain ⟨k, hk, rfl⟩ := List.mem_map.mp h
  have : ∀ k ∈ [9, 8, 7, 6, 5, 4, 3, 2, 1], 0 < k := by decide
  exact Nat.lt_add_of_pos_right (this k hk)
set_option maxHeartbeats 2000000 in
theorem law_B {cs vsz : List Nat} {a : LexP} {rows wd zl nz dl nd nS np : Nat} {n : Int} {vz vd vs : List Value} {tn t0 tr tw : Tok} (hcs : cs.length = rows) (hr : rows = 2 ∨ rows = 3)
    (hZ : IntsAre vz (asInts (cs.map szOf))) (hD : IntsAre vd (asInts (cs.map dotOf))) (ha : a.Ok tl) (d3 : cellV o3 (.ref zl)) (d4 : cellV o4 (.ref dl)) {c5 c6 c7 c8 : Option Value} (d5 : o5.data = .cell c5) (d6 : o6.data = .cell c6) (d7 : o7.data = .cell c7) (d8 : o8.data = .cell c8)
    (hh : A.handled = none) (X : (hdK.heap_1 w.params).In g) (T : Top p loose mean mg mb g) (hdep : A.depth + 200 < recursionLimit) (hu : A.units + 3000 < cLine) (hlD : Low L tlD)
    (hap : ∀ q ∈ (dl, listOf vd.toArray nd) :: (zl, listOf vz.toArray nz) :: (cells9 L o1 o2 o3 o4 o5 o6 o7 o8 o9 ++ tlD), ∀ p ∈ a.led w.params vs nS n tn [.str (txt (rowsOf (psOf cs))) t0] np ++ tl, p.1 ≠ q.1)
    (offz : LCg.Off1 zl (cells9 L o1 o2 o3 o4 o5 o6 o7 o8 o9 ++ tlD)) (offd : LCg.Off1 dl ((zl, listOf vz.toArray nz) :: (cells9 L o1 o2 o3 o4 o5 o6 o7 o8 o9 ++ tlD)))
    (hsay : Says m [(Str.ofString "lexer", .ref a.x), (Str.ofString "rows", .int (rows : Int) tr), (Str.ofString "width", .int (wd : Int) tw)])
    (F : Fr g L s.heap m) (N : News g L s.heap ((a.led w.params vs nS n tn [.str (txt (rowsOf (psOf cs))) t0] np ++ tl) ++ (dl, listOf vd.toArray nd) :: (zl, listOf vz.toArray nz) :: (cells9 L o1 o2 o3 o4 o5 o6 o7 o8 o9 ++ tlD)))
    (hQ : ∀ (ql nq sl ns np : Nat) (vq vv : List Value) (o5 o6 o7 o8 : Obj) (t0 t5 : Tok) (h' : Heap) (tk : Nat) (m' : Str → Option Value), cellV o5 (.int ((2 ^ rows : Nat) : Int) t5) → IntsAre vv (seenOf (cs.map szOf) (cs.map dotOf) rows (2 ^ rows)) →
      Apt L ql sl zl dl (a.led w.params vs nS n tn [.str (txt (mailAt (psOf cs) (2 ^ rows))) t0] np ++ tl) tlD →
      Says m' [(Str.ofString "lexer", .ref a.x), (Str.ofString "rows", .int (rows : Int) tr), (Str.ofString "width", .int (wd : Int) tw), (Str.ofString "seen", .ref sl)] → Fr g L h' m' →
      News g L h' ((a.led w.params vs nS n tn [.str (txt (mailAt (psOf cs) (2 ^ rows))) t0] np ++ tl) ++ besides L ql nq sl ns zl nz dl nd vq vv vz vd o1 o2 o3 o4 o5 o6 o7 o8 o9 tlD) →
      wpAny (model prog w) A (execs (lawFrom w.params 15) (envLaw w.params L)) K (fun _ _ => False) { s with heap := h', toks := tk }) :
    wpAny (model prog w) A (execs (lawFrom w.params 10) (envLaw w.params L)) K (fun _ _ => False) s := by
  have hr3 : rows ≤ 3 := by omega
  have hzl : (cs.map szOf).length = rows := by rw [List.length_map, hcs]
  have hdl : (cs.map dotOf).length = rows := by rw [List.length_map, hcs]
  have hz1 : ∀ z ∈ cs.map szOf, 0 < z ∧ z ≤ 10 := fun z hz => by
    obtain ⟨c, _, rfl⟩ := List.mem_map.mp hz
    rcases size_cases (szOf_range c) with e | e | e | e | e <;> omega
  have hd1 : ∀ d ∈ cs.map dotOf, d ≤ 8 := fun d hd => by
    obtain ⟨c, _, rfl⟩ := List.mem_map.mp hd
    exact (dotOf_range c).2
  have zc : ∀ x ∈ cellKeys L, @Ne Nat x zl := fun x hx => by
    obtain ⟨q, hq, e⟩ := key_cells (o1 := o1) (o2 := o2) (o3 := o3) (o4 := o4) (o5 := o5) (o6 := o6) (o7 := o7) (o8 := o8) (o9 := o9) hx
    rw [← e]; exact Off1.mem offz q (List.mem_append_left _ hq)
  have dc : ∀ x ∈ cellKeys L, @Ne Nat x dl := fun x hx => by
    obtain ⟨q, hq, e⟩ := key_cells (o1 := o1) (o2 := o2) (o3 := o3) (o4 := o4) (o5 := o5) (o6 := o6) (o7 := o7) (o8 := o8) (o9 := o9) hx
    rw [← e]; exact Off1.mem offd q (.tail _ (List.mem_append_left _ hq))
  have zd : @Ne Nat zl dl := Off1.mem offd _ (.head _)
  have aC : ∀ x ∈ cellKeys L, ∀ p ∈ a.led w.params vs nS n tn [.str (txt (rowsOf (psOf cs))) t0] np ++ tl, @Ne Nat p.1 x := fun x hx p hp => by
    obtain ⟨q, hq, e⟩ := key_cells (o1 := o1) (o2 := o2) (o3 := o3) (o4 := o4) (o5 := o5) (o6 := o6) (o7 := o7) (o8 := o8) (o9 := o9) hx
    rw [← e]; exact hap q (.tail _ (.tail _ (List.mem_append_left _ hq))) p hp
  have tC : ∀ x ∈ cellKeys L, ∀ p ∈ tlD, @Ne Nat p.1 x := fun x hx p hp => Nat.ne_of_lt (Nat.lt_trans (hlD p hp) (cellKeys_gt hx))
  have lx0 : ∀ x ∈ cellKeys L, ∀ p ∈ (a.led w.params vs nS n tn [.str (txt (rowsOf (psOf cs))) t0] np ++ tl) ++ tlD, @Ne Nat p.1 x := fun x hx p hp => (List.mem_append.mp hp).elim (aC x hx p) (tC x hx p)
  rw [show lawFrom w.params 10 = stmtLaw w.params 10 :: stmtLaw w.params 11 :: stmtLaw w.params 12 :: stmtLaw w.params 13 :: stmtLaw w.params 14 :: lawFrom w.params 15 from rfl]
  refine wpAny_execs_cons (law_s10 (o1 := o1) (o2 := o2) (o3 := o3) (o4 := o4) (o6 := o6) (o7 := o7) (o8 := o8) (o9 := o9) (rows := rows) (tr := tr) (lx := (zl, listOf vz.toArray nz) :: (dl, listOf vd.toArray nd) :: ((a.led w.params vs nS n tn [.str (txt (rowsOf (psOf cs))) t0] np ++ tl) ++ tlD)) hr hh X T hdep hu d5 ?_ (fun q hq => ?_) F (fun q hq => N q (perm52a hq)) ?_)
  · have hk : L + 1 + 1 + 1 + 1 + 1 ∈ cellKeys L := by simp [cellKeys]
    exact List.forall_mem_cons.mpr ⟨Ne.symm (zc _ hk), List.forall_mem_cons.mpr ⟨Ne.symm (dc _ hk), lx0 _ hk⟩⟩
  · rw [List.mem_singleton.mp hq]; exact hsay _ (.tail _ (.head _))
  intro o5' h10 tk10 t5 d5' F1 N1
  dsimp only
  refine wpAny_execs_cons (law_s11 (o1 := o1) (o2 := o2) (o3 := o3) (o4 := o4) (o5 := o5') (o7 := o7) (o8 := o8) (o9 := o9) (nz := nz) (nd := nd) (lx := (a.led w.params vs nS n tn [.str (txt (rowsOf (psOf cs))) t0] np ++ tl) ++ tlD) hD hZ (by rw [hzl, hdl]) (by omega) hz1 (fun d hd => Nat.le_trans (hd1 d hd) (by decide)) hh X T hdep hu d3 d4 d6 (Off1.of fun p hp => dc _ (cells_key hp)) (Off1.of fun p hp => ?_) (lx0 _ (by simp [cellKeys])) (fun p hp => ?_) F1 (fun q hq => N1 q (perm52b hq)) ?_)
  · rcases List.mem_cons.mp hp with rfl | hp
    · exact Ne.symm zd
    · exact zc _ (cells_key hp)
  · rcases List.mem_append.mp hp with hp | hp
    · exact hap (zl, listOf vz.toArray nz) (.tail _ (.head _)) p hp
    · exact Off1.mem offz p (List.mem_append_right _ hp)
  intro ql vq o6' h11 tk11 hq d6' offq F2 N2
  dsimp only
  rw [hzl] at hq
  refine wpAny_execs_cons (law_s12 (o1 := o1) (o2 := o2) (o5 := o5') (o7 := o7) (o8 := o8) (o9 := o9) (nz := nz) (nd := nd) (rows := rows) (tr := tr) hD hZ (by rw [hzl, hdl]) hzl hr3 hz1 (fun d hd => Nat.le_trans (hd1 d hd) (by decide)) hq hh X T hdep hu d3 d4 d6' (fun q hq => ?_) F2 N2 ?_)
  · rw [List.mem_singleton.mp hq]; exact hsay _ (.tail _ (.head _))
  intro h12 tk12 F3 N3
  dsimp only
  refine wpAny_execs_cons (law_s13 hh X T F3 N3 ?_)
  intro sl h13 tk13 hlt F4 N4
  dsimp only
  have hsC : ∀ x ∈ cellKeys L, @LT.lt Nat _ x sl := fun x hx => by
    obtain ⟨q, hq, e⟩ := key_cells (o1 := o1) (o2 := o2) (o3 := o3) (o4 := o4) (o5 := o5') (o6 := o6') (o7 := o7) (o8 := o8) (o9 := o9) hx
    rw [← e]; exact hlt q (.tail _ (.tail _ (.tail _ (List.mem_append_left _ hq))))
  have hsq : @LT.lt Nat _ ql sl := hlt _ (.head _)
  have hsz : @LT.lt Nat _ zl sl := hlt _ (.tail _ (.head _))
  have hsd : @LT.lt Nat _ dl sl := hlt _ (.tail _ (.tail _ (.head _)))
  have hsX : ∀ p ∈ (a.led w.params vs nS n tn [.str (txt (rowsOf (psOf cs))) t0] np ++ tl) ++ tlD, @LT.lt Nat _ p.1 sl := fun p hp => hlt p (.tail _ (.tail _ (.tail _ (List.mem_append_right _ hp))))
  have qC : ∀ x ∈ cellKeys L, @Ne Nat x ql := fun x hx => by
    obtain ⟨q, hq, e⟩ := key_cells (o1 := o1) (o2 := o2) (o3 := o3) (o4 := o4) (o5 := o5') (o6 := o6') (o7 := o7) (o8 := o8) (o9 := o9) hx
    rw [← e]; exact Off1.mem offq q (.tail _ (.tail _ (List.mem_append_left _ hq)))
  have qz : @Ne Nat zl ql := Off1.mem offq _ (.head _)
  have qd : @Ne Nat dl ql := Off1.mem offq _ (.tail _ (.head _))
  have qX : ∀ p ∈ (a.led w.params vs nS n tn [.str (txt (rowsOf (psOf cs))) t0] np ++ tl) ++ tlD, @Ne Nat p.1 ql := fun p hp => Off1.mem offq p (.tail _ (.tail _ (List.mem_append_right _ hp)))
  have hApt : Apt L ql sl zl dl (a.led w.params vs nS n tn [.str (txt (rowsOf (psOf cs))) t0] np ++ tl) tlD := by
    refine ⟨?_, ?_, ?_, fun q hq p hp => hap q (.tail _ (.tail _ (List.mem_append_right _ hq))) p hp⟩
    · rw [keys_eq, List.nodup_cons, List.nodup_cons, List.nodup_cons, List.nodup_cons]
      refine ⟨fun h => ?_, fun h => ?_, fun h => ?_, fun h => dc _ h rfl, cellKeys_nodup⟩
      · rcases List.mem_cons.mp h with e | h
        · exact Nat.ne_of_lt hsq e
        rcases List.mem_cons.mp h with e | h
        · exact qz e.symm
        rcases List.mem_cons.mp h with e | h
        · exact qd e.symm
        · exact qC _ h rfl
      · rcases List.mem_cons.mp h with e | h
        · exact Nat.ne_of_gt hsz e
        rcases List.mem_cons.mp h with e | h
        · exact Nat.ne_of_gt hsd e
        · exact Nat.lt_irrefl _ (hsC _ h)
      · rcases List.mem_cons.mp h with e | h
        · exact zd e
        · exact zc _ h rfl
    · intro x hx p hp
      rw [keys_eq] at hx
      rcases List.mem_cons.mp hx with rfl | hx
      · exact qX p (List.mem_append_left _ hp)
      rcases List.mem_cons.mp hx with rfl | hx
      · exact Nat.ne_of_lt (hsX p (List.mem_append_left _ hp))
      rcases List.mem_cons.mp hx with rfl | hx
      · exact hap (x, listOf vz.toArray nz) (.tail _ (.head _)) p hp
      rcases List.mem_cons.mp hx with rfl | hx
      · exact hap (x, listOf vd.toArray nd) (.head _) p hp
      · exact aC x hx p hp
    · intro x hx p hp
      rw [keys_eq] at hx
      rcases List.mem_cons.mp hx with rfl | hx
      · exact qX p (List.mem_append_right _ hp)
      rcases List.mem_cons.mp hx with rfl | hx
      · exact Nat.ne_of_lt (hsX p (List.mem_append_right _ hp))
      rcases List.mem_cons.mp hx with rfl | hx
      · exact Off1.mem offz p (List.mem_append_right _ hp)
      rcases List.mem_cons.mp hx with rfl | hx
      · exact Off1.mem offd p (.tail _ (List.mem_append_right _ hp))
      · exact tC x hx p hp
  have hsay13 : Says (fun y => if y = Str.ofString "seen" then some (.ref sl) else m y) [(Str.ofString "lexer", .ref a.x), (Str.ofString "rows", .int (rows : Int) tr), (Str.ofString "width", .int (wd : Int) tw), (Str.ofString "seen", .ref sl)] :=
    says_cons (hsay _ (.head _)) (says_cons (hsay _ (.tail _ (.head _))) (says_cons (hsay _ (.tail _ (.tail _ (.head _)))) (says_cons rfl says_nil)))
  refine wpAny_execs_cons (law_s14 (o1 := o1) (o2 := o2) (o7 := o7) (o8 := o8) (o9 := o9) (nq := vq.length) (ns := 0) (nz := nz) (nd := nd) (vv := []) (rows := rows) (tr := tr) (ps := psOf cs) (lx := tlD) ha (psOf_fst cs).symm (psOf_ok cs) (fun d hd => Nat.le_trans (hd1 d hd) (by decide)) hZ hD hq .nil (by rw [hzl, hdl]) hzl hr3 ?_ hz1 (by have := rows_len cs; omega) hh X T hdep hu d3 d4 d5' d6' d7 d8 hApt (fun q hq => hsay13 q (by
    rcases List.mem_cons.mp hq with rfl | hq
    · exact .head _
    rcases List.mem_cons.mp hq with rfl | hq
    · exact .tail _ (.head _)
    · rw [List.mem_singleton.mp hq]; exact .tail _ (.tail _ (.tail _ (.head _))))) F4 (fun q hq => N4 q (perm52c hq)) ?_)
  · intro e
    rw [e] at hdl
    simp at hdl; omega
  intro h14 tk14 m' news hJ F5 N5
  obtain ⟨ql2, nq2, ns2, np2, vq2, vv2, o6n, o7n, o8n, t0n, c7n, c8n, _, hS, d6n, d7n, d8n, hAn, hm'⟩ := hJ
  refine hQ ql2 nq2 sl ns2 np2 vq2 vv2 o5' o6n o7n o8n t0n t5 h14 tk14 m' d5' hS hAn (fun q hq => ?_) F5 N5
  rw [hm' q.1 ?_ ?_]
  · exact hsay13 q hq
  all_goals
    simp only [List.mem_cons, List.not_mem_nil, or_false] at hq
    rcases hq with rfl | rfl | rfl | rfl <;> (dsimp only; decide)
end
end

noncomputable section
theorem walkOff_C53 : True := by
  w_top off
  exact True.intro
theorem mvOf_zero (z n : Nat) (hz : 0 < z) : mvOf z n = 0 ↔ n % z ≠ 0 := by
  unfold mvOf
  split
  · rename_i h
    exact ⟨fun e => by omega, fun e => absurd h e⟩
  · rename_i h
    exact ⟨fun _ => h, fun _ => rfl⟩
theorem moves_cnt (zs ds : List Nat) (i k : Nat) (hz : ∀ j, j < k → 0 < zs.getD j 0) : (k : Int) - ((mvsOf zs ds (i + 1) k).count 0 : Nat) = cntOf zs ds k i := by
  induction k with
  | zero => rfl
  | succ k ih =>
    have e : mvsOf zs ds (i + 1) (k + 1) = mvsOf zs ds (i + 1) k ++ [mvOf (zs.getD k 0) (ds.getD k 0 + (i + 1))] := by
      unfold mvsOf
      rw [List.range_succ, List.map_append]; rfl
    have ih := ih fun j hj => hz j (by omega)
    have hm := mvOf_zero (zs.getD k 0) (ds.getD k 0 + (i + 1)) (hz k (by omega))
    rw [e, List.count_append, cntOf_succ, ← ih, List.count_singleton]
    unfold ind
    by_cases h0 : (ds.getD k 0 + (i + 1)) % zs.getD k 0 = 0
    · have : mvOf (zs.getD k 0) (ds.getD k 0 + (i + 1)) ≠ 0 := fun e => hm.mp e h0
      rw [if_pos h0, if_neg (by simpa using this)]
      omega
    · have := hm.mpr h0
      rw [if_neg h0, if_pos (by simpa using this)]
      omega
theorem seen_take (zs ds : List Nat) (k S : Nat) (hS : S ≤ 24) (hz : ∀ j, j < k → 0 < zs.getD j 0) : seenOf zs ds k S = (csOf zs ds k).take S := by
  unfold seenOf csOf movesAt
  rw [← List.map_take, List.take_range, Nat.min_eq_left hS]
  exact List.map_congr_left fun i _ => moves_cnt zs ds i k hz
theorem min_ex (f : Nat → Nat) : ∀ k, 0 < k → ∃ M, (∃ j, j < k ∧ f j = M) ∧ ∀ j, j < k → M ≤ f j
  | 1, _ => ⟨f 0, ⟨0, by omega, rfl⟩, fun j hj => by
    obtain rfl : j = 0 := by omega
    exact Nat.le_refl _⟩
  | k + 2, _ => by
    obtain ⟨M, ⟨j, hj, e⟩, hm⟩ := min_ex f (k + 1) (by omega)
    by_cases h : M ≤ f (k + 1)
    · exact ⟨M, ⟨j, by omega, e⟩, fun i hi => by
        by_cases hik : i = k + 1
        · rw [hik]; exact h
        · exact hm i (by omega)⟩
    · exact ⟨f (k + 1), ⟨k + 1, by omega, rfl⟩, fun i hi => by
        by_cases hik : i = k + 1
        · rw [hik]; exact Nat.le_refl _
        · have := hm i (by omega); omega⟩
theorem range_map_getD (zs : List Nat) (f : Nat → Nat) : (List.range zs.length).map (fun j => f (zs.getD j 0)) = zs.map f := by
  refine List.ext_getElem (by simp) fun j h1 h2 => ?_
  have hj : j < zs.length := by simpa using h1
  rw [List.getElem_map, List.getElem_map, List.getElem_range]
  simp [List.getD_eq_getElem?_getD, hj]
theorem told_facts {zs ds : List Nat} {k wd S : Nat} (hk : k = 2 ∨ k = 3) (hS : S = 2 ^ k) (hzl : zs.length = k) (hw1 : 2 ≤ wd) (hw2 : wd ≤ 7) (hz : ∀ z ∈ zs, z ∈ sizesL) :
    ∃ c ts, figs (totalOf wd zs ds k) wd = c ∧ c ≤ 24 ∧ ts = digs wd c (totalOf wd zs ds k) ∧ ts.length = c ∧
      (∀ M, M ∈ modsOf zs ds k → (∀ a ∈ modsOf zs ds k, M ≤ a) → (ts.length : Int) = 24 - M) ∧ ts.take S = seenOf zs ds k S ∧ ts.sum = ((zs.map fun z => 24 / z).sum : Nat) ∧
      (ts ++ List.replicate (24 - ts.length) 0).length = 24 ∧
      (∀ i, i < 24 → (∀ x ∈ (((ts ++ List.replicate (24 - ts.length) 0) ++ (ts ++ List.replicate (24 - ts.length) 0)).drop i).take S, 0 < x) → ∀ x ∈ ts ++ List.replicate (24 - ts.length) 0, x ≠ 0) := by
  have hz' : ∀ j, j < k → zs.getD j 0 ∈ sizesL := fun j hj => by
    have hj2 : j < zs.length := by omega
    have e : zs.getD j 0 = zs[j] := by simp [List.getD_eq_getElem?_getD, hj2]
    rw [e]; exact hz _ (List.getElem_mem hj2)
  obtain ⟨M, hM, hmin⟩ := min_ex (fun j => ds.getD j 0 % zs.getD j 0) k (by omega)
  obtain ⟨h1, h2, h3⟩ := told_is (wd := wd) (zs := zs) (ds := ds) hw1 hw2 (by omega) (by omega) hz' hM hmin
  obtain ⟨h7, _, _⟩ := cs_shape (zs := zs) (ds := ds) (by omega) hz' hM hmin
  have hl : ((csOf zs ds k).take (24 - M)).length = 24 - M := by
    rw [List.length_take]; simp [csOf]
  have hS8 : S ≤ 8 := by rcases hk with rfl | rfl <;> (rw [hS]; decide)
  refine ⟨24 - M, (csOf zs ds k).take (24 - M), h1, by omega, h2.symm, hl, ?_, ?_, ?_, ?_, ?_⟩
  · intro M' hM1 hM2
    have e : M' = (M : Int) := by
      obtain ⟨j, hj, rfl⟩ := List.mem_map.mp hM1
      have a1 := hmin j (List.mem_range.mp hj)
      obtain ⟨i, hi, ei⟩ := hM
      have a2 := hM2 _ (List.mem_map.mpr ⟨i, List.mem_range.mpr hi, rfl⟩)
      omega
    rw [hl, e]; omega
  · rw [List.take_take, Nat.min_eq_left (by omega), seen_take zs ds k S (by omega) fun j hj => size_pos (hz' j hj)]
  · have e := cs_sum (zs := zs) (ds := ds) k hz'
    rw [← h3, List.sum_append] at e
    have e0 : (List.replicate (24 - (24 - M)) (0 : Int)).sum = 0 := by
      generalize 24 - (24 - M) = q
      induction q with
      | zero => rfl
      | succ q ih => rw [List.replicate_succ, List.sum_cons, ih]; rfl
    rw [e0, Int.add_zero] at e
    rw [e, ← hzl, range_map_getD zs fun z => 24 / z]
  · rw [hl, h3]; simp [csOf]
  · rw [hl, h3]
    exact ring_law (by rcases hk with rfl | rfl <;> simp [hS]) hz'
theorem perm53a {α : Type} {s z d q x : α} {cs ld tD : List α} (h : x ∈ tD ++ (z :: d :: (cs ++ (s :: ld)))) : x ∈ ld ++ (q :: s :: z :: d :: (cs ++ tD)) := by
  simp only [List.mem_cons, List.mem_append] at h ⊢
  grind
theorem perm53b {α : Type} {s z d q x : α} {cs ld tD : List α} (h : x ∈ q :: z :: d :: (cs ++ (s :: ld ++ tD))) : x ∈ (q :: tD) ++ (z :: d :: (cs ++ (s :: ld))) := by
  simp only [List.mem_cons, List.mem_append] at h ⊢
  grind
theorem perm53c {α : Type} {s z d q x : α} {cs ld tD : List α} (h : x ∈ q :: s :: z :: (cs ++ (d :: ld ++ tD))) : x ∈ q :: z :: d :: (cs ++ (s :: ld ++ tD)) := by
  simp only [List.mem_cons, List.mem_append] at h ⊢
  grind
theorem perm53d {α : Type} {s z d q r x : α} {cs ld tD : List α} (h : x ∈ r :: q :: (cs ++ (d :: ld ++ tD))) : x ∈ r :: q :: (s :: z :: (cs ++ (d :: ld ++ tD))) := by
  rcases List.mem_cons.mp h with rfl | h
  · exact .head _
  rcases List.mem_cons.mp h with rfl | h
  · exact .tail _ (.head _)
  · exact .tail _ (.tail _ (.tail _ (.tail _ h)))
theorem perm53f {α : Type} {s z d x : α} {cs ld : List α} (h : x ∈ d :: (cs ++ ld)) : x ∈ z :: d :: (cs ++ (s :: ld)) := by
  simp only [List.mem_cons, List.mem_append] at h ⊢
  grind
theorem perm53e {α : Type} {d q r x : α} {cs ld tD : List α} (h : x ∈ ld ++ (cs ++ (d :: tD))) : x ∈ r :: q :: (cs ++ (d :: ld ++ tD)) := by
  simp only [List.mem_cons, List.mem_append] at h ⊢
  grind
section
variable {A : Around} {s : Shared} {g : Heap} {L : Nat} {m : Str → Option Value} {p : Program} {loose : List Str} {mean : ExcName → Option Value} {mg mb : Str → Option Value} {K : Flow → Shared → Prop}
  {o1 o2 o3 o4 o5 o6 o7 o8 o9 : Obj} {tlD tl : List (Addr × Obj)}
set_option maxHeartbeats 2000000 in
theorem law_C {cs : List Nat} {a : LexP} {rows wd ql sl zl dl nq nv nz nd nS np : Nat} {n : Int} {vq vv vz vd vs : List Value} {tn t0 t5 tr tw : Tok} {l : List Nat} (hcs : cs.length = rows) (hr : rows = 2 ∨ rows = 3) (hw1 : 2 ≤ wd) (hw2 : wd ≤ 7)
    (hZ : IntsAre vz (asInts (cs.map szOf))) (hD : IntsAre vd (asInts (cs.map dotOf))) (d3 : cellV o3 (.ref zl)) (d4 : cellV o4 (.ref dl)) (d5 : cellV o5 (.int ((2 ^ rows : Nat) : Int) t5)) (hS : IntsAre vv (seenOf (cs.map szOf) (cs.map dotOf) rows (2 ^ rows)))
    (hh : A.handled = none) (X : (hdK.heap_1 w.params).In g) (T : Top p loose mean mg mb g) (hdep : A.depth + 200 < recursionLimit) (hu : A.units + 3000 < cLine)
    (hC1 : ∀ g, (hdK.heap_1 w.params).In g → CodeHd g 58 54) (hC2 : ∀ g, (hdK.heap_1 w.params).In g → CodeHd g 65 61) (htD : TabsOk tlD)
    (hA : Apt L ql sl zl dl (a.led w.params vs nS n tn [.str (txt l) t0] np ++ tl) tlD)
    (hsay : Says m [(Str.ofString "lexer", .ref a.x), (Str.ofString "rows", .int (rows : Int) tr), (Str.ofString "width", .int (wd : Int) tw), (Str.ofString "seen", .ref sl)])
    (F : Fr g L s.heap m) (N : News g L s.heap ((a.led w.params vs nS n tn [.str (txt l) t0] np ++ tl) ++ besides L ql nq sl nv zl nz dl nd vq vv vz vd o1 o2 o3 o4 o5 o6 o7 o8 o9 tlD))
    (hQ : ∀ (tlD : List (Addr × Obj)) (h' : Heap) (tk : Nat) (m' : Str → Option Value), TabsOk tlD → (∀ q ∈ (dl, listOf vd.toArray nd) :: (cells9 L o1 o2 o3 o4 o5 o6 o7 o8 o9 ++ (a.led w.params vs nS n tn [.str (txt l) t0] np ++ tl)), ∀ p ∈ tlD, p.1 ≠ q.1) →
      Says m' [(Str.ofString "lexer", .ref a.x), (Str.ofString "rows", .int (rows : Int) tr)] → Fr g L h' m' →
      News g L h' ((a.led w.params vs nS n tn [.str (txt l) t0] np ++ tl) ++ (cells9 L o1 o2 o3 o4 o5 o6 o7 o8 o9 ++ ((dl, listOf vd.toArray nd) :: tlD))) →
      wpAny (model prog w) A (execs (lawFrom w.params 24) (envLaw w.params L)) K (fun _ _ => False) { s with heap := h', toks := tk }) :
    wpAny (model prog w) A (execs (lawFrom w.params 15) (envLaw w.params L)) K (fun _ _ => False) s := by
  have hr3 : rows ≤ 3 := by omega
  have hzl : (cs.map szOf).length = rows := by rw [List.length_map, hcs]
  have hdl : (cs.map dotOf).length = rows := by rw [List.length_map, hcs]
  have hzS : ∀ z ∈ cs.map szOf, z ∈ sizesL := fun z hz => by
    obtain ⟨c, _, rfl⟩ := List.mem_map.mp hz
    exact szOf_range c
  have hz1 : ∀ z ∈ cs.map szOf, 2 ≤ z ∧ z ≤ 8 ∧ z ∣ 24 := fun z hz => by
    rcases size_cases (hzS z hz) with rfl | rfl | rfl | rfl | rfl <;> decide
  have hd1 : ∀ d ∈ cs.map dotOf, d ≤ 100 := fun d hd => by
    obtain ⟨c, _, rfl⟩ := List.mem_map.mp hd
    have := (dotOf_range c).2; omega
  have hp8 : 2 ^ rows ≤ 8 ∧ 0 < 2 ^ rows := by rcases hr with rfl | rfl <;> decide
  obtain ⟨c, ns, hfig, hc24, hns, hnl, hmin, htake, hsum, hl24, hring⟩ := told_facts (zs := cs.map szOf) (ds := cs.map dotOf) hr rfl hzl hw1 hw2 hzS
  have htot := total_bound (wd := wd) (k := rows) (zs := cs.map szOf) (ds := cs.map dotOf) hw1 hw2 (by omega) hz1
  rw [show lawFrom w.params 15 = stmtLaw w.params 15 :: stmtLaw w.params 16 :: stmtLaw w.params 17 :: stmtLaw w.params 18 :: stmtLaw w.params 19 :: stmtLaw w.params 20 :: stmtLaw w.params 21 :: stmtLaw w.params 22 :: stmtLaw w.params 23 :: lawFrom w.params 24 from rfl]
  refine wpAny_execs_cons (law_s15 (wd := wd) (tw := tw) hw1 hw2 hh X T (fun q hq => ?_) F N ?_)
  · rw [List.mem_singleton.mp hq]; exact hsay _ (.tail _ (.tail _ (.head _)))
  intro h15 tk15 tf F1 N1
  dsimp only
  refine wpAny_execs_cons (law_s16 hh X T F1 N1 ?_)
  intro h16 tk16 tt F2 N2
  dsimp only
  have hap17 : ∀ q ∈ (zl, listOf vz.toArray nz) :: (dl, listOf vd.toArray nd) :: (cells9 L o1 o2 o3 o4 o5 o6 o7 o8 o9 ++ ((sl, listOf vv.toArray nv) :: (a.led w.params vs nS n tn [.str (txt l) t0] np ++ tl))), ∀ p ∈ tlD, p.1 ≠ q.1 := by
    intro q hq p hp
    rcases List.mem_cons.mp hq with rfl | hq
    · exact hA.kx _ (by rw [keys_eq]; exact .tail _ (.tail _ (.head _))) p hp
    rcases List.mem_cons.mp hq with rfl | hq
    · exact hA.kx _ (by rw [keys_eq]; exact .tail _ (.tail _ (.tail _ (.head _)))) p hp
    rcases List.mem_append.mp hq with hq | hq
    · exact hA.kx _ (by rw [keys_eq]; exact .tail _ (.tail _ (.tail _ (.tail _ (cells_key hq))))) p hp
    rcases List.mem_cons.mp hq with rfl | hq
    · exact hA.kx _ (by rw [keys_eq]; exact .tail _ (.head _)) p hp
    · exact Ne.symm (hA.lx p hp q hq)
  have hs17 : Says (fun y => if y = Str.ofString "total" then some (.int 0 tt) else if y = Str.ofString "full" then some (.int (2 ^ (24 * wd) - 1) tf) else m y) [(Str.ofString "rows", .int (rows : Int) tr), (Str.ofString "width", .int (wd : Int) tw), (Str.ofString "full", .int (fulls wd 24) tf), (Str.ofString "total", .int 0 tt)] :=
    says_cons (hsay _ (.tail _ (.head _))) (says_cons (hsay _ (.tail _ (.tail _ (.head _)))) (says_cons rfl (says_cons rfl says_nil)))
  refine wpAny_execs_cons (law_s17 (o1 := o1) (o2 := o2) (o5 := o5) (o6 := o6) (o7 := o7) (o8 := o8) (o9 := o9) (rows := rows) (wd := wd) (tr := tr) (tw := tw) (tf := tf) (tt := tt) hw1 hw2 hr3 hzl (by rw [hzl, hdl]) hz1 hd1 hZ hD hh X T hdep hu hC1 hC2 htD d3 d4 hap17 hs17 F2 (fun q hq => N2 q (perm53a hq)) ?_)
  intro h17 tk17 m17 news hJ F3 N3
  dsimp only
  obtain ⟨tlD2, tt2, htD2, hap18, htt, hm17, rfl⟩ := hJ
  have s17 : ∀ y v, y ∉ names17 → y ≠ Str.ofString "total" → y ≠ Str.ofString "full" → m y = some v → m17 y = some v := fun y v h1 h2 h3 h4 => by
    rw [hm17 y h1]
    show (if y = Str.ofString "total" then _ else if y = Str.ofString "full" then _ else m y) = some v
    rw [if_neg h2, if_neg h3, h4]
  refine wpAny_execs_cons (law_s18 (wd := wd) (c := c) (tw := tw) (tt := tt2) hw1 hw2 htot.1 hfig (by omega) hh X T hdep hu hC1 htD2 hap18 (says_cons (s17 _ _ (by decide) (by decide) (by decide) (hsay _ (.tail _ (.tail _ (.head _))))) (says_cons htt says_nil)) F3 N3 ?_)
  intro D ts nn h18 tk18 tlD3 hts htD3 hoD hoL hap19 F4 N4
  dsimp only
  rw [← hns] at hts
  have N4 : News g L h18 ((D, listOf ts.toArray nn) :: (zl, listOf vz.toArray nz) :: (dl, listOf vd.toArray nd) :: (cells9 L o1 o2 o3 o4 o5 o6 o7 o8 o9 ++ ((sl, listOf vv.toArray nv) :: (a.led w.params vs nS n tn [.str (txt l) t0] np ++ tl) ++ tlD3))) := fun q hq => N4 q (perm53b hq)
  have s18 : ∀ y v, y ∉ names17 → y ≠ Str.ofString "total" → y ≠ Str.ofString "full" → y ≠ Str.ofString "told" → m y = some v → (if y = Str.ofString "told" then some (.ref D) else m17 y) = some v := fun y v h1 h2 h3 h4 h5 => by
    rw [if_neg h4]; exact s17 y v h1 h2 h3 h5
  have hrows18 := s18 (Str.ofString "rows") _ (by decide) (by decide) (by decide) (by decide) (hsay _ (.tail _ (.head _)))
  have hlex18 := s18 (Str.ofString "lexer") _ (by decide) (by decide) (by decide) (by decide) (hsay _ (.head _))
  have hseen18 := s18 (Str.ofString "seen") _ (by decide) (by decide) (by decide) (by decide) (hsay _ (.tail _ (.tail _ (.tail _ (.head _)))))
  have hs19 : Says (fun y => if y = Str.ofString "told" then some (.ref D) else m17 y) [(Str.ofString "rows", .int (rows : Int) tr), (Str.ofString "told", .ref D)] := says_cons hrows18 (says_cons rfl says_nil)
  have hs20 : Says (fun y => if y = Str.ofString "told" then some (.ref D) else m17 y) [(Str.ofString "told", .ref D), (Str.ofString "seen", .ref sl)] := says_cons rfl (says_cons hseen18 says_nil)
  have hs21 : Says (fun y => if y = Str.ofString "told" then some (.ref D) else m17 y) [(Str.ofString "told", .ref D)] := says_cons rfl says_nil
  refine wpAny_execs_cons (law_s19 (o1 := o1) (o2 := o2) (o5 := o5) (o6 := o6) (o7 := o7) (o8 := o8) (o9 := o9) (rows := rows) (tr := tr) hr3 hzl (by rw [hzl, hdl]) hz1 hd1 hZ hD hts (by omega) (by omega) hmin hh X T hdep hu d3 d4 hs19 F4 N4 ?_)
  intro h19 tk19 F5 N5
  dsimp only
  refine wpAny_execs_cons (law_s20 (o1 := o1) (o2 := o2) (o4 := o4) (o6 := o6) (o7 := o7) (o8 := o8) (o9 := o9) (nz := nz) (nn := nn) (nv := nv) (S := 2 ^ rows) (lx := (dl, listOf vd.toArray nd) :: (a.led w.params vs nS n tn [.str (txt l) t0] np ++ tl) ++ tlD3) hr3 hzl hz1 hZ hts (by rw [htake]; exact hS) (by omega) hp8.1 hsum hh X T hdep hu d3 d5 hs20 F5 (fun q hq => N5 q (perm53c hq)) ?_)
  intro h20 tk20 F6 N6
  dsimp only
  refine wpAny_execs_cons (law_s21 hts (by omega) hh X T hdep hu hs21 F6 N6 ?_)
  intro D' ts' nn' h21 tk21 hts' _ F7 N7
  dsimp only
  generalize hns' : ns ++ List.replicate (24 - ns.length) 0 = ns' at *
  have hs22 : Says (fun y => if y = Str.ofString "told" then some (.ref D') else if y = Str.ofString "told" then some (.ref D) else m17 y) [(Str.ofString "told", .ref D')] := says_cons rfl says_nil
  refine wpAny_execs_cons (law_s22 hts' (by omega) hh X T hdep hu hs22 F7 N7 ?_)
  intro R rs nr h22 tk22 hrs _ F8 N8
  dsimp only
  have hs23 : Says (fun y => if y = Str.ofString "ring" then some (.ref R) else if y = Str.ofString "told" then some (.ref D') else if y = Str.ofString "told" then some (.ref D) else m17 y) [(Str.ofString "told", .ref D'), (Str.ofString "ring", .ref R)] := says_cons rfl (says_cons rfl says_nil)
  refine wpAny_execs_cons (law_s23 (o1 := o1) (o2 := o2) (o3 := o3) (o4 := o4) (o6 := o6) (o7 := o7) (o8 := o8) (o9 := o9) (nn := nn') (nr := nr) (S := 2 ^ rows) (lx := (dl, listOf vd.toArray nd) :: (a.led w.params vs nS n tn [.str (txt l) t0] np ++ tl) ++ tlD3) hts' hrs hl24 hp8.1 hp8.2 hring hh X T hdep hu d5 hs23 F8 (fun q hq => N8 q (perm53d hq)) ?_)
  intro h23 tk23 m23 hm23 F9 N9
  dsimp only
  refine hQ tlD3 h23 tk23 m23 htD3 (fun q hq p hp => hap19 q (perm53f hq) p hp) (says_cons ?_ (says_cons ?_ says_nil)) F9 (fun q hq => N9 q (perm53e hq))
  · rw [hm23 _ (by decide)]
    exact hlex18
  · rw [hm23 _ (by decide)]
    exact hrows18
end
end

noncomputable section
theorem walkOff_C54 : True := by
  w_top off
  exact True.intro
theorem perm54a {α : Type} {x : α} {cs al lx : List α} (h : x ∈ cs ++ (al ++ lx)) : x ∈ al ++ (cs ++ lx) := by
  simp only [List.mem_append] at h ⊢
  grind
theorem perm54b {α : Type} {x : α} {cs al lx bl : List α} (h : x ∈ bl ++ (cs ++ (al ++ lx))) : x ∈ bl ++ (al ++ (cs ++ lx)) := by
  simp only [List.mem_append] at h ⊢
  grind
theorem perm54c {α : Type} {x W d : α} {cs al bl tl tD : List α} (h : x ∈ W :: d :: (cs ++ (bl ++ (tl ++ (al ++ tD))))) : x ∈ W :: ((bl ++ tl) ++ (cs ++ (al ++ (d :: tD)))) := by
  simp only [List.mem_append, List.mem_cons] at h ⊢
  grind
theorem perm54d {α : Type} {x W d : α} {cs al bl tl tD : List α} (h : x ∈ (al ++ tl) ++ tD) : x ∈ W :: d :: (cs ++ (bl ++ (tl ++ (al ++ tD)))) := by
  refine .tail _ (.tail _ (List.mem_append_right _ (List.mem_append_right _ ?_)))
  rcases List.mem_append.mp h with h | h
  · rcases List.mem_append.mp h with h | h
    · exact List.mem_append_right _ (List.mem_append_left _ h)
    · exact List.mem_append_left _ h
  · exact List.mem_append_right _ (List.mem_append_right _ h)
section
variable {A : Around} {s : Shared} {g : Heap} {L : Nat} {m : Str → Option Value} {p : Program} {loose : List Str} {mean : ExcName → Option Value} {mg mb : Str → Option Value} {K : Flow → Shared → Prop}
  {o1 o2 o3 o4 o5 o6 o7 o8 o9 : Obj} {tlD tlE tl : List (Addr × Obj)}
set_option maxHeartbeats 2000000 in
theorem law_D {cs : List Nat} {a : LexP} {rows ql sl zl dl nd nS np : Nat} {n : Int} {vd vs : List Value} {tn t0 t5 tr : Tok} (hcs : cs.length = rows) (hr : rows = 2 ∨ rows = 3)
    (hD : IntsAre vd (asInts (cs.map dotOf))) (d4 : cellV o4 (.ref dl)) (d5 : cellV o5 (.int ((2 ^ rows : Nat) : Int) t5)) {c9 : Option Value} (d9 : o9.data = .cell c9) (ha : a.Ok tl) (hnd : (tl.map (·.1)).Nodup) (hsg : SignsAre vs [46])
    (hh : A.handled = none) (X : (hdK.heap_1 w.params).In g) (T : Top p loose mean mg mb g) (hdep : A.depth + 200 < recursionLimit) (hu : A.units + 3000 < cLine) (hC3 : ∀ g, (hdK.heap_1 w.params).In g → CodeHd g 211 207)
    (hA : Apt L ql sl zl dl (a.led w.params vs nS n tn [.str (txt (mailAt (psOf cs) (2 ^ rows))) t0] np ++ tl) tlE) (hE : TabsOk tlD)
    (hap : ∀ q ∈ (dl, listOf vd.toArray nd) :: (cells9 L o1 o2 o3 o4 o5 o6 o7 o8 o9 ++ (a.led w.params vs nS n tn [.str (txt (mailAt (psOf cs) (2 ^ rows))) t0] np ++ tl)), ∀ p ∈ tlD, p.1 ≠ q.1)
    (hsay : Says m [(Str.ofString "lexer", .ref a.x), (Str.ofString "rows", .int (rows : Int) tr)])
    (F : Fr g L s.heap m) (N : News g L s.heap ((a.led w.params vs nS n tn [.str (txt (mailAt (psOf cs) (2 ^ rows))) t0] np ++ tl) ++ (cells9 L o1 o2 o3 o4 o5 o6 o7 o8 o9 ++ ((dl, listOf vd.toArray nd) :: tlD))))
    (hQ : ∀ (h' : Heap) (tk : Nat) (m' : Str → Option Value) (led : List (Addr × Obj)), Fr g L h' m' → News g L h' (led ++ (tl ++ tlD)) → K (.ret (.bool true)) { s with heap := h', toks := tk }) :
    wpAny (model prog w) A (execs (lawFrom w.params 24) (envLaw w.params L)) K (fun _ _ => False) s := by
  have hr3 : rows ≤ 3 := by omega
  have hdl : (cs.map dotOf).length = rows := by rw [List.length_map, hcs]
  have hd1 : ∀ d ∈ cs.map dotOf, 1 ≤ d ∧ d ≤ 1000 := fun d hd => by
    obtain ⟨c, _, rfl⟩ := List.mem_map.mp hd
    have := dotOf_range c; omega
  have hp8 : 2 ^ rows ≤ 8 ∧ 2 ^ rows ≠ 0 := by rcases hr with rfl | rfl <;> decide
  have hmail : mailAt (psOf cs) (2 ^ rows) = mailOf (cs.map dotOf) (2 ^ rows) := by
    unfold mailAt
    rw [if_neg hp8.2, psOf_fst]
  rw [hmail] at hA hap N
  have hml := mail_len (cs.map dotOf) (2 ^ rows) (fun d hd => (hd1 d hd).2) (by omega)
  have hne : cs.map dotOf ≠ [] := fun e => by rw [e] at hdl; simp at hdl; omega
  have dC : ∀ x ∈ cellKeys L, dl ≠ x := fun x hx e => by
    have hn := hA.nd
    rw [keys_eq, List.nodup_cons, List.nodup_cons, List.nodup_cons, List.nodup_cons] at hn
    exact hn.2.2.2.1 (by rw [e]; exact hx)
  have tC : ∀ x ∈ cellKeys L, ∀ p ∈ tlD, @Ne Nat p.1 x := fun x hx p hp => by
    obtain ⟨q, hq, e⟩ := key_cells (o1 := o1) (o2 := o2) (o3 := o3) (o4 := o4) (o5 := o5) (o6 := o6) (o7 := o7) (o8 := o8) (o9 := o9) hx
    rw [← e]; exact hap q (.tail _ (List.mem_append_left _ hq)) p hp
  have hap24 : ∀ q ∈ cells9 L o1 o2 o3 o4 o5 o6 o7 o8 o9 ++ ((dl, listOf vd.toArray nd) :: tlD), ∀ p ∈ a.led w.params vs nS n tn [.str (txt (mailOf (cs.map dotOf) (2 ^ rows))) t0] np ++ tl, p.1 ≠ q.1 := by
    intro q hq p hp
    rcases List.mem_append.mp hq with hq | hq
    · exact hA.kl _ (by rw [keys_eq]; exact .tail _ (.tail _ (.tail _ (.tail _ (cells_key hq))))) p hp
    rcases List.mem_cons.mp hq with rfl | hq
    · exact hA.kl _ (by rw [keys_eq]; exact .tail _ (.tail _ (.tail _ (.head _)))) p hp
    · exact Ne.symm (hap p (.tail _ (List.mem_append_right _ hp)) q hq)
  have k9 : L + 1 + 1 + 1 + 1 + 1 + 1 + 1 + 1 + 1 ∈ cellKeys L := by simp [cellKeys]
  have hs24 : Says m [(Str.ofString "lexer", .ref a.x)] := says_cons (hsay _ (.head _)) says_nil
  rw [show lawFrom w.params 24 = [stmtLaw w.params 24, stmtLaw w.params 25, stmtLaw w.params 26, stmtLaw w.params 27] from rfl]
  refine wpAny_execs_cons (law_s24 (o1 := o1) (o2 := o2) (o3 := o3) (o4 := o4) (o5 := o5) (o6 := o6) (o7 := o7) (o8 := o8) (lx := (dl, listOf vd.toArray nd) :: tlD) ha hnd (by omega) hC3 hh X T hdep hu d9 (List.forall_mem_cons.mpr ⟨dC _ k9, tC _ k9⟩) hap24 hs24 F N ?_)
  intro h24 tk24 b ws nT tb np' o9' hb hws d9' hapb F1 N1
  dsimp only
  have hs25 : Says m [(Str.ofString "rows", .int (rows : Int) tr)] := says_cons (hsay _ (.tail _ (.head _))) says_nil
  refine wpAny_execs_cons (law_s25 (o1 := o1) (o2 := o2) (o3 := o3) (o4 := o4) (o5 := o5) (o6 := o6) (o7 := o7) (o8 := o8) (rows := rows) (t := 2 ^ rows) (ds := cs.map dotOf) (lx := a.led w.params vs nS n tn [] np' ++ ((dl, listOf vd.toArray nd) :: tlD)) hb hws hd1 (by omega) hdl hr3 hne hh X T hdep hu d9' (fun q hq => hapb q (perm54a hq)) hs25 F1 (fun q hq => N1 q (perm54b hq)) ?_)
  intro W zv h25 tk25 news _ hJ F2 N2
  dsimp only
  obtain ⟨ws2, nT2, tb2, np2, hsg2, hzv, rfl⟩ := hJ
  have hmw : (mailWords (cs.map dotOf) (2 ^ rows)).take (rows + 1) = mailWords (cs.map dotOf) (2 ^ rows) := by
    rw [List.take_of_length_le]
    unfold mailWords
    rw [List.length_append, List.length_map, hdl]; exact Nat.le_refl _
  rw [hmw] at hzv
  have hn : 1 + nls (mailOf (cs.map dotOf) (2 ^ rows)) - nls (remOf (cs.map dotOf) (2 ^ rows) (rows + 1)) = 1 + (rows : Int) := by
    have e := rem_end (cs.map dotOf) (2 ^ rows)
    rw [hdl] at e
    rw [nls_mail, hdl, e, show nls ([] : List Nat) = 0 from rfl, Int.sub_zero]
  rw [hn] at N2
  have hs26 : Says (fun y => if y = Str.ofString "words" then some (.ref W) else m y) [(Str.ofString "rows", .int (rows : Int) tr), (Str.ofString "words", .ref W)] := says_cons (hsay _ (.tail _ (.head _))) (says_cons rfl says_nil)
  refine wpAny_execs_cons (law_s26 (o1 := o1) (o2 := o2) (o3 := o3) (o6 := o6) (o7 := o7) (o8 := o8) (nw := zv.length) (nd := nd) (rows := rows) (t := 2 ^ rows) (ds := cs.map dotOf) (b := b) (ws := ws2) (nT := nT2) (tb := tb2) (np := np2) (lx := tl ++ (a.led w.params vs nS n tn [] np' ++ tlD)) hzv hD hd1 (by omega) hdl hr3 hh X T hdep hu d4 d5 d9' hs26 F2 (fun q hq => N2 q (perm54c hq)) ?_)
  intro h26 tk26 F3 N3
  dsimp only
  have hs27 : Says (fun y => if y = Str.ofString "words" then some (.ref W) else m y) [(Str.ofString "lexer", .ref a.x)] := says_cons (hsay _ (.head _)) says_nil
  have hap27 : ∀ q ∈ tlD, ∀ p ∈ a.led w.params vs nS n tn [] np' ++ tl, p.1 ≠ q.1 :=
    ap_led (fun q hq p hp => hap24 q (List.mem_append_right _ (.tail _ hq)) p hp)
  refine wpAny_execs_cons (law_s27 (lx := tlD) ha hsg hh X T hdep hu hap27 hs27 F3 (fun q hq => N3 q (perm54d hq)) ?_)
  intro h27 tk27 vs' nS' n' tn' F4 N4
  dsimp only
  exact hQ h27 tk27 _ (a.led w.params vs' nS' n' tn' [] np') F4 (fun q hq => N4 q (by rw [List.append_assoc]; exact hq))
end
end

noncomputable section
theorem walkOff_C55 : True := by
  w_top off
  exact True.intro
noncomputable def MeetsG (prog : Program) (w : World) (K : Frag) (c : Code) (fp : List (Addr × Obj)) (d u : Nat) (Gp : Heap → Prop) (P : Nat → Value → List (Addr × Obj) → Prop) : Prop :=
  ∀ (A : Around) (s : Shared) (g : Heap) (p : Program) (loose : List Str) (mean : ExcName → Option Value) (mg mb : Str → Option Value),
    A.handled = none → A.depth + d < recursionLimit → A.units + u < cLine → Wo g s.heap fp → K.In g → Top p loose mean mg mb g → Gp g →
    ∀ R : Result → Shared → Prop, (∀ v l h' tk, P s.heap.objs.size v l → Wo g h' l → R (.ok (.ret v)) { s with heap := h', toks := tk }) → codeAny (model prog w) A c R s
theorem meets_defCG {K : Frag} {prog : Program} {w : World} {fp : List (Addr × Obj)} {d u : Nat} {Gp : Heap → Prop} {P : Nat → Value → List (Addr × Obj) → Prop}
    {name qual : Str} {params : Arguments} {body : List Stmt} {scope : Scope} {dV kV doc pm cdv ct oc : Value} {an od : Option Addr} {osl : Array (Option Value)} {f : Addr} {args : List Value} {binds : List (Str × Value)}
    (ho : K.lookup f = some ⟨oc, od, .func (fnX name qual params body scope [] dV kV doc pm an cdv ct), osl⟩) (hcd : codeIn K cdv qual = true)
    (hbind : ∀ s, BindsTo s (fnX name qual params body scope [] dV kV doc pm an cdv ct) ⟨args, []⟩ binds)
    (hkind : (binds.all fun y => scope.names.lookup y.1 == some .local || scope.names.lookup y.1 == some .cell) = true) (hnd : ((cellsFrom 0 scope.names []).map (·.1)).Nodup)
    (h : ∀ (A : Around) (s : Shared) (g : Heap) (p : Program) (loose : List Str) (mean : ExcName → Option Value) (mg mb : Str → Option Value) (n₀ : Nat) (L : Nat) (h₁ : Heap) (tk : Nat) (cells : List (Addr × Obj)) (k : Value → Shared → Prop),
      A.handled = none → A.depth + d < recursionLimit + 1 → A.units + u < cLine + 3 → K.In g → Top p loose mean mg mb g → Gp g → n₀ ≤ L → (∀ p ∈ fp, p.1 < n₀) → (∀ p ∈ fp, p.1 < L) →
      Fr g L h₁ (bindL (envOfC qual scope L f cdv).kindOf binds fun _ => none) → News g L h₁ (cells ++ fp) → CellsAre (bindC (envOfC qual scope L f cdv).kindOf binds fun _ => none) (cellsFrom (L + 1) scope.names []) cells →
      (∀ v l h' tk m', P n₀ v l → Fr g L h' m' → News g L h' l → k v { s with heap := h', toks := tk }) →
      wpAny (model prog w) A (execs body (envOfC qual scope L f cdv)) (fun fl s' => k (match fl with | .ret v => v | _ => .none) s') (fun _ _ => False) { s with heap := h₁, toks := tk })
    (hd : 0 < d := by decide) (hco : scope.isCoroutine = false := by rfl) (hgen : scope.isGenerator = false := by rfl) (hk : scope.kind = .function := by rfl) :
    MeetsG prog w K (.call (.ref f) ⟨args, []⟩) fp d u Gp P := by
  intro A s g p loose mean mg mb hh hdep hu W X T hG R hR
  have X' : K.In s.heap := X.keeps W.keep
  refine codeAny_call_function (by omega) (X' _ _ ho) rfl hco hgen rfl (codeRec_of X' hcd) (hbind s _ _ _ _ ?_)
  refine wpAny_newFunctionEnv_cells hk (kindsX hkind _) fun env' he s' x => ?_
  subst he
  refine ⟨(T.nolimit.keeps W.keep).keeps x.toInCall.keep, codeAny_func ?_⟩
  obtain ⟨h₁, tk, rfl, _⟩ := x.done
  have hk₁ := x.toInCall.keep
  obtain ⟨cells, NC, Y⟩ := Cl.news (h₀ := s.heap) (Nat.le_refl _) fun n c hm => ⟨x.cell n c (lookup_of_mem_nodup (cellsFrom_names scope.names 0 (s.heap.objs.size + 1) [] [] rfl ▸ hnd) hm), x.above n c hm⟩
  refine wpAny_mono (h (A.deeper (envOfC qual scope s.heap.objs.size f cdv)) s g p loose mean mg mb s.heap.objs.size s.heap.objs.size h₁ tk cells (fun v s' => R (.ok (.ret v)) s') hh ?_ ?_ X T hG (Nat.le_refl _)
    (fun p hp => Heap.lt_size (W.led p hp).1) (fun p hp => Heap.lt_size (W.led p hp).1)
    ⟨x.toInCall.ns, fun b o e => hk₁ b o (W.keep _ _ e), W.size⟩ (fun p hp => ?_) Y fun v l h' tk m' hp F N => hR v l h' tk hp (Wo.of_fr F N)) (fun _ _ x => x) (fun _ _ x => x.elim)
  · show A.depth + 1 + d < recursionLimit + 1; omega
  · show A.units + 3 + u < cLine + 3; omega
  · rcases List.mem_append.mp hp with hp | hp
    · refine ⟨(NC p hp).1, (NC p hp).2.1, ?_⟩
      cases q : g.get? p.1 with
      | none => rfl
      | some o => have := (NC p hp).2.2; rw [W.keep _ _ q] at this; cases this
    · exact ⟨hk₁ _ _ (W.led p hp).1, Nat.ne_of_lt (Heap.lt_size (W.led p hp).1), (W.led p hp).2⟩
set_option maxHeartbeats 4000000 in
theorem law_walk {sc : Nat} {vs : List Value} {ns : List Int} {tlD tlL : List (Addr × Obj)} (hI : IntsAre vs ns) (hlen : ns.length ≤ 63) (htL : TabOk 207 182 16 lamQ tlL) (hndL : (tlL.map (·.1)).Nodup) (htD : TabsOk tlD) (hDL : ∀ q ∈ tlD, ∀ p ∈ tlL, p.1 ≠ q.1)
    (hC1 : ∀ g, (hdK.heap_1 w.params).In g → CodeHd g 58 54) (hC2 : ∀ g, (hdK.heap_1 w.params).In g → CodeHd g 65 61) (hC3 : ∀ g, (hdK.heap_1 w.params).In g → CodeHd g 211 207) :
    MeetsG prog w (hdK.heap_1 w.params) (.call (.ref 222) ⟨[.ref sc], []⟩) (tlL ++ tlD) 202 3003 (fun g => g.IsList sc vs.toArray) (fun _ v l => v = .bool true ∧ ∃ led tl tlD' c, l = led ++ (tl ++ tlD') ∧ Made 207 182 16 lamQ c tl ∧ TabsOk tlD') := by
  refine meets_defCG (by k_is) (by k_is) (fun s => BindsTo.of_eq rfl) rfl (by decide +kernel) (fun A s g p loose mean mg mb n₀ L h₁ tk cells k hh hdep hu X T hG hn hfp hfp2 F N Y hk => ?_)
  obtain ⟨o9, o8, o7, o6, o5, o4, o3, o2, o1, d9, d8, d7, d6, d5, d4, d3, d2, d1⟩ := kc_nine Y
  have hcLine : cLine = 9900 := rfl
  have hrec : recursionLimit = 1000 := rfl
  have e1 : cellV o1 (.ref sc) := d1.trans (by with_unfolding_all rfl)
  have hlow : Low L (tlL ++ tlD) := hfp2
  clear d1 Y
  show wpAny (model prog w) A (execs (lawFrom w.params 0) (envLaw w.params L)) _ _ _
  refine law_A (o1 := o1) (o2 := o2) (o3 := o3) (o4 := o4) (o5 := o5) (o6 := o6) (o7 := o7) (o8 := o8) (o9 := o9) (tlD := tlD) (tlL := tlL) hI hlen hh X T (by omega) (by omega) hG (fun p hp => hlow p (List.mem_append_right _ hp)) (fun p hp => hlow p (List.mem_append_left _ hp)) htL hndL hDL hC3 e1 d2 d3 d4 F N ?_
  clear N F
  intro c3 cs rows wd zl nz dl nd nS np vz vd vs2 o2 o3 o4 a tl tn t0 tr tw h1 tk1 m1 hcs hr hw1 hw2 hZ hD ha hnd hsg e3 e4 hap offz offd hsay F N
  refine law_B (rows := rows) (wd := wd) (nd := nd) (nz := nz) (tr := tr) (tw := tw) (vsz := []) hcs hr hZ hD ha e3 e4 d5 d6 d7 d8 hh X T (by omega) (by omega) (fun p hp => hlow p (List.mem_append_right _ hp)) hap offz offd hsay F N ?_
  clear N F hap
  intro ql nq sl nsn np2 vq vv o5 o6 o7 o8 t02 t5 h2 tk2 m2 e5 hS hA hsay F N
  refine law_C (rows := rows) (wd := wd) (tr := tr) (tw := tw) hcs hr hw1 hw2 hZ hD e3 e4 e5 hS hh X T (by omega) (by omega) hC1 hC2 htD hA hsay F N ?_
  clear N F
  intro tlE h3 tk3 m3 hE hapE hsay F N
  refine law_D (rows := rows) (tr := tr) hcs hr hD e4 e5 d9 ha hnd hsg hh X T (by omega) (by omega) hC3 hA hE hapE hsay F N ?_
  intro h4 tk4 m4 led F N
  exact hk _ _ h4 tk4 m4 ⟨rfl, led, tl, tlE, a.c', rfl, ha.made, hE⟩ F N
end

noncomputable section
theorem walkOff_C56 : True := by
  w_top off
  exact True.intro
theorem tabs_first : TabsOk [(54, tabObj #[]), (61, tabObj #[])] := ⟨[(54, tabObj #[])], [(61, tabObj #[])], rfl, .inl rfl, .inl rfl, by decide⟩
theorem tab_grown {P line col : Nat} {qual : Str} {t l : List (Addr × Obj)} {g h : Heap} (W : Wo g h l) (ht : TabOk P line col qual t) (hs : ∀ p ∈ t, p ∈ l) : GrownAt P h := by
  rcases ht with rfl | ⟨c', oc, vs, tq, rfl, _⟩
  · exact ⟨_, (W.led _ (hs _ (.head _))).1⟩
  · exact ⟨_, (W.led _ (hs _ (.head _))).1⟩
set_option maxHeartbeats 4000000 in
theorem cw : PySem.Challenge.rw_sc0094_01.Holds := by
  refine Mine.hd ?_
  k_fill
  intro w s₀ s₁ mg mb G Y fa o pm cd doc dV kV ho hd hcd hD hmg hg args vals as hpre hlay hrd hwl hlo
  have KX := km_in_of Y
  km_tabs Y
  have X := (Ground.X G).1
  have V := (Ground.X G).2
  refine Ground.open G ?_
  intro T B D TE TW
  try (refine guard_noD D (by decide +kernel) ?_; clear D)
  km_lay T hmg ho hd cd
  have efa : fa = 222 := by
    have e := mg_of (n := Str.ofString "law") (v := .ref 222) KX (Top.g T) (by kernel_rfl)
    rw [hmg] at e
    cases e; rfl
  clear hmg
  wrow_args hpre hlay hrd hwl hlo
  all_goals (
    first | refine callC_kw (enter_call ?_) | refine enter_call ?_
    w_top on
    kn_posts)
  subst efa
  have K' := ghost_K hT9 KX (by kernel_rfl)
  have T' := ghost_top hT9 T
  with_reducible rename IntsAre _ _ => hI
  with_reducible rename Heap.IsList _ _ _ => hL
  rename_i hlt _
  have hG := ghost_list hT9 hL
  have W : Wo (ghostOf s₁.heap [(211, 207), (65, 61), (58, 54)]) s₁.heap ([(207, tabObj #[])] ++ [(54, tabObj #[]), (61, tabObj #[])]) := by
    refine ⟨fun b o e => of_hideAll _ e, Nat.le_of_eq (hideAll_size _ _), ?_⟩
    have key : ∀ P, P ∈ [207, 61, 54] → s₁.heap.get? P = some (tabObj #[]) ∧ (ghostOf s₁.heap [(211, 207), (65, 61), (58, 54)]).get? P = none := fun P hP => ⟨hT8 P hP, hideAll_none _ hP⟩
    intro q hq
    rcases List.mem_cons.mp hq with rfl | hq
    · exact key 207 (by decide)
    rcases List.mem_cons.mp hq with rfl | hq
    · exact key 54 (by decide)
    rw [List.mem_singleton.mp hq]
    exact key 61 (by decide)
  refine law_walk (w := w) (prog := _) (tlL := [(207, tabObj #[])]) (tlD := [(54, tabObj #[]), (61, tabObj #[])]) hI (by omega) (.inl rfl) (by decide) tabs_first (by decide) (fun g X => codeHd_of_K X (by kernel_rfl)) (fun g X => codeHd_of_K X (by kernel_rfl)) (fun g X => codeHd_of_K X (by kernel_rfl)) callerA s₁ (ghostOf s₁.heap [(211, 207), (65, 61), (58, 54)]) topProg _ _ mg mb rfl (by decide) (by decide) W K' T' hG _ ?_
  rintro v l h' tk ⟨rfl, led, tl, tlD', c, rfl, hM, hTD⟩ W'
  refine ⟨⟨.inl ⟨_, _, _, rfl, raisesW_false ?_, .bool true, ?_, unshared_nil⟩, W'.keep, rfl, hg⟩, ?_⟩
  · wrow_none_raised
  · wrow_post
  · obtain ⟨t1, t2, rfl, h1, h2, _⟩ := hTD
    exact ⟨tab_grown W' hM.ok (fun p hp => List.mem_append_right _ (List.mem_append_left _ hp)), tab_grown W' h2 (fun p hp => List.mem_append_right _ (List.mem_append_right _ (List.mem_append_right _ hp))), tab_grown W' h1 (fun p hp => List.mem_append_right _ (List.mem_append_right _ (List.mem_append_left _ hp))), True.intro⟩
end

end Mine
end
theorem PySem.Challenge.cw_sc0094_01_holds : PySem.Challenge.rw_sc0094_01.Holds :=
  Mine.cw
