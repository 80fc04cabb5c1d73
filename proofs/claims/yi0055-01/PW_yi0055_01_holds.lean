import PyProof.Rows.All
import Wide.All
import OpenK.KSplit
import OpenK.KNot
import OpenK.KApp
import KE.KPop
import KE.KListMore
import KE.RegKMod
import KE.KDictOf
import KE.KDictMeth
import KE.KEqSeq
import KE.KSlice
import KE.GnPush
import KE.KSorted
import KE.KJoinElse
import KE.RegTryLedger
import KE.KTops
import KE.RegKSuper
import KE.KSort
import KE.KDictLoop
import KE.RegLcTurns
import KE.RegLcAnyAll
import KE.KCat
import KE.KTemps
import KE.KTup
import KE.KxMul
import KE.KxSplit
import KE.KxIndex
import KE.KxText
import KE.KCells
import KE.KPassesOwn
import KE.RegKIsNot
import KE.KTempsTwo
import KE.KSetInts
import KE.KSortedL
import KE.KxBytes
import KE.KClos
import KE.KNestStore
import KE.KOwnIter
import KE.KStopIter
import KE.RegKBase
import KE.KDictOne
import KE.RegKMathG
import KE.KDictAny
import KE.RegKCallOwn
import KE.KSliceW
import KE.KxDecode
import KE.RegKMathGB
import KE.KLam
import KE.KDictBranch
import KE.KTree
import KE.KTreeB
import KE.KNestM
import KE.KDflt
import KE.KOwnIterCall
import KE.KSortedM
import KE.KTurns
import KE.KEqText
import KE.KxLen
import KE.RegKMathGC
import KE.KIsClose
import KE.KEqDict
import KE.KDisp
import KE.KDictAnyGet
import KE.KDictObj
import KE.KSetIn
import KE.KRevSl
import KE.KEqDeep
import KE.KAnyBase
import KE.KBoundM
import KE.KWhile
import KE.KRevIter
import KE.KCount
import KE.KTreeR
import KE.KxStill
import KE.KFinally
import KE.KTopLam
import KE.KWithOwn
import KE.KCases
import KE.KOpsOwn
import KE.KDictNew
import KE.KDictList
import KE.KDictIter
import KE.RegKUnpackStar
import KE.KSortAsk
import KE.KWhileD
import KE.KLcTest
import KE.KSumEnd
import KE.KPopAny
import KE.KGrown
import KE.KItemAt
import KE.KTextLit
import KE.KTupDict
import KE.KFmtOwn
import KE.KUnrMore
import KE.KMinKey
import KE.KTurnsDict
import KE.KExtendNil
import KE.KMethU
import KE.BytesMul
import KE.KCompFold
import KE.KDictSum
import KE.KDictName
import KE.KDictSym
import KE.KTurnsAny
import KE.KDictAnyTail
import KE.RegKStar
import KE.RegKParD
import KE.RegKTupTruth
import KE.RegKTupSum
import KE.KCallJoin
import KE.KMethJoin
import KE.KPathRangeEnd
import KE.KStateW
import KE.RegKParC
import KE.KxWritten
import KE.KxAdd
import KE.KxAffix
import KE.KxField
import KE.RegKIsAll
import KE.RegKMatchCls
import KE.KLcPair
import KE.RegKTryDeep
import KE.KJoinL
import KE.RegKNeg
import KE.KxPercentT
import KE.KBytesCut
import KE.KCellOne
import KE.KCompIf
import KE.KMenu
import KE.KxFormat
import KE.KTypeName
import KE.KCompText
import KE.BytesMulAny
import KE.KDictSymLen
import KE.KSortTup
import KE.KPairAssign
import KE.KTypeOf
import KE.KFinEnd
import KE.KMulAny
import KE.KBytesMenu
import KE.KTextDict
import KE.KPathShort
import KE.KSplitRange
import KE.KKinds
import KE.KxPart
import KE.KRangeItem
import KE.KDictLetter
import KE.KRangeNest
import KE.KSetAt
import KE.KWords
import KE.KxTruthy
import KE.KPairRows
import KE.KBytesMore
import KE.RegKStateDown
import KE.KItemsList
import KE.KRangePlain
import KE.KStateGiven
import KE.KBitsMul
import KE.KTextTable
import KE.KForList
import KE.KIdxIf
import KE.KAssignIn
import KE.KFirstTurn
import KE.KOwnRange
import KE.KLooksOwn
import KE.KDictWord
import KE.KStrOpen
import KE.KTurnsGround
import KE.KListEnd
import KE.KSearch
import KE.KFinFacts
import KE.RegKTryOn
import KE.KCenter
import KE.KStrWords
import KE.KStateTextK
import KE.KBools
import KE.KStateWGiven
import KE.KData
import KE.KCallTup
import KE.KTreeD
import KE.KTreeF
import KE.KEndWord
import KE.KStateBytes
import KE.KRangeEnd
import KE.KOf
import KE.KRepItem
import KE.KListLetter
import KE.KSliceSign
import KE.KCallBy
import KE.KToBytes
import KE.KPathText
import KE.KMinBuiltin
import KE.KFromBytes
import KE.KEqDat
import KE.KBytesUnr
import KE.KIsBytes
import KE.KCallRec
import KE.KEndW
import KE.RegLGe
import KE.RegLGeC
import Wide.FinOn
import Wide.FinOn
import Lean
import PySem.Challenge.RW_yi0055_01
open PySem PySem.W PyProof.Rows PySem.Calls
set_option Elab.async false
set_option maxRecDepth 100000
set_option maxHeartbeats 40000000
set_option linter.all false
namespace Mine
def Box (P : Prop) : Prop := P
theorem box_true {P : Prop} (h : P) : Box P = True := eq_true h
theorem unbox {P : Prop} (h : Box P) : P := h
theorem quick {P : Prop} (_hw : True) (hc : P) : P := hc
section
local macro_rules | `(tactic| o_head $_) => `(tactic| refine quick ?hw ?hc)
local macro_rules | `(tactic| w_witness2) => `(tactic| trivial)
open_top hd for PySem.Challenge.rw_yi0055_01.row
end
theorem fill_HD : (hd.heap_1, PySem.Challenge.rw_yi0055_01) = (hd.heap_1, PySem.Challenge.rw_yi0055_01) := by
  k_fill
  w_top off
  rfl
def Stop (P : Prop) : Prop := P
theorem Stop.at {P : Prop} (h : Stop P) : P := h
theorem Stop.go {P : Prop} (h : P) : Stop P := h

def LeaveP (g h₀ : Heap) (L : Addr) (m : Str → Option Value) (Q : Value → Shared → Prop) (v : Value) (s' : Shared) : Prop :=
  ∃ L' m', Fr g L' s'.heap m' ∧ (Fr h₀ L s'.heap m → g.StaysIn s'.heap → Q v s')

/-- the scope of a plain function -/
abbrev fsc (nm : List (Str × NameKind)) (ig ic : Bool) (mo : List (Str × Const)) : Scope := { kind := .function, names := nm, isGenerator := ig, isCoroutine := ic, more := mo }
section
variable {prog : Program} {w : World} {A₀ A : Around} {s : Shared} {base h₀ : Heap} {outer : List Env} {L : Addr} {m mg mb : Str → Option Value} {env : Env} {K : Frag} {p : Program} {loose : List Str} {mean : ExcName → Option Value}
  {R : Result → Shared → Prop} {name qual : Str} {params : Arguments} {body : List Stmt} {scope : Scope} {dV kV doc pm cdv ct oc : Value} {an od : Option Addr} {osl : Array (Option Value)} {f : Addr} {args : Args} {binds : List (Str × Value)}

/-- a call that changes nothing that stood: the callee's ground is the whole heap -/
theorem code_pure
    (B : Below A₀ base outer h₀) (F : Fr h₀ L s.heap m) (X₀ : K.In h₀) (T : Top p loose mean mg mb h₀) (hA : A.frames = some (env :: outer)) (hf : env.frame = some L) (hke : env.scope.kind = .function)
    (ho : K.lookup f = some ⟨oc, od, .func (fnOf name qual params body scope dV kV doc pm an cdv ct), osl⟩) (hcd : codeIn K cdv qual = true) (hroom : A.depth < recursionLimit)
    (hbind : BindsTo s (fnOf name qual params body scope dV kV doc pm an cdv ct) args binds) (hloc : ∀ y ∈ binds, scope.names.lookup y.1 = some .local)
    (h : ∀ g L' h₁, g = s.heap → Fr h₀ L g m → Fr g L' h₁ (fun y => binds.reverse.lookup y) → News g L' h₁ [] → Below A base (env :: outer) g → K.In g → Top p loose mean mg mb g →
      wpAny (model prog w) (A.deeper (envOf qual scope L' f cdv)) (execs body (envOf qual scope L' f cdv))
        (fun fl s' => LeaveP g h₀ L m (fun v s'' => R (.ok (.ret v)) s'') (match fl with | .ret v => v | _ => .none) s')
        (fun _ _ => False)
        { s with heap := h₁, toks := s.toks + binds.length })
    (hco : scope.isCoroutine = false) (hgen : scope.isGenerator = false) (hk : scope.kind = .function)
    (hcell : ∀ x ∈ scope.names, x.2 ≠ .cell) : codeAny (model prog w) A (.call (.ref f) args) R s := by
  obtain ⟨FG, BG, st, lv⟩ := groundX (news := []) (R := R) B F News.nil hA hf hke
  have ho' : s.heap.get? f = some ⟨oc, od, .func (fnOf name qual params body scope dV kV doc pm an cdv ct), osl⟩ := (X₀.keeps F.keep) _ _ ho
  refine codeAny_call_def (fd := fnOf name qual params body scope dV kV doc pm an cdv ct) (body := body) (binds := binds) hroom ho' rfl (T.nolimit.keeps F.keep) (codeRec_of (X₀.keeps F.keep) hcd) rfl hbind hcell hloc (fun h₁ hns hk₁ => ?_) hco hgen hk
  refine wpAny_mono (h s.heap s.heap.objs.size h₁ rfl F ⟨hns, fun b o e => hk₁ b o e, Nat.le_refl _⟩ News.nil BG (X₀.keeps F.keep) (T.keeps F.keep)) (fun fl s' hl => ?_) fun _ _ y => y.elim
  obtain ⟨L', m', F', k⟩ := hl
  exact lv _ _ ⟨L', m', [], F', News.nil, fun F₂ _ => k F₂ F'.keep⟩
theorem stays_eq {g h h' : Heap} (e : g = h) (k : g.StaysIn h') : h.StaysIn h' := e ▸ k

theorem made_news {h' g : Heap} {L' : Addr} {news made made' : List (Addr × Obj)} (F : Fr h₀ L s.heap m) (N : News h₀ L s.heap news) (e : g = s.heap) (hS : g.StaysIn h') (N' : News g L' h' made') (hm : ∀ q ∈ made, q ∈ made') : News h₀ L h' (made ++ news) := by
  subst e
  intro q hq
  rcases List.mem_append.mp hq with hq | hq
  · obtain ⟨h1, _, h3⟩ := N' _ (hm _ hq)
    obtain ⟨oL, _, _, hL, _⟩ := F.ns
    refine ⟨h1, fun e => ?_, ?_⟩
    · rw [e, hL] at h3; cases h3
    · cases hz : h₀.get? q.1 with
      | none => rfl
      | some o => rw [F.keep _ _ hz] at h3; cases h3
  · exact ⟨hS _ _ (N q hq).1, (N q hq).2⟩
def AllNe (d : Addr) : List (Addr × Obj) → Prop
  | [] => True
  | q :: r => @Ne Nat q.1 d ∧ AllNe d r
theorem made_ne {h' g : Heap} {L' x : Addr} {o : Obj} {made' : List (Addr × Obj)} : ∀ {news : List (Addr × Obj)}, News h₀ L s.heap news → g = s.heap → News g L' h' made' → (x, o) ∈ made' → AllNe x news
  | [], _, _, _, _ => trivial
  | q :: r, N, e, N', hm => ⟨(by
      intro hx
      have h1 := (N q (.head _)).1
      have h2 := (N' _ hm).2.2
      have hx' : q.1 = x := hx
      rw [← e, hx'] at h1
      have h3 : g.get? x = none := h2
      rw [h3] at h1
      cases h1), made_ne (fun p hp => N p (.tail _ hp)) e N' hm⟩
theorem ne_sym {a b : Nat} (h : a ≠ b) : b ≠ a := fun e => h e.symm
end
theorem mem0 {α : Type} {q : α} {l : List α} : q ∈ q :: l := .head _
theorem mem1 {α : Type} {a0 q : α} {l : List α} : q ∈ a0 :: q :: l := .tail _ mem0
theorem mem2 {α : Type} {a0 a1 q : α} {l : List α} : q ∈ a0 :: a1 :: q :: l := .tail _ mem1
theorem mem3 {α : Type} {a0 a1 a2 q : α} {l : List α} : q ∈ a0 :: a1 :: a2 :: q :: l := .tail _ mem2
theorem all0 {α : Type} {p : α → Prop} : ∀ q ∈ ([] : List α), p q := List.forall_mem_nil _
theorem all1 {α : Type} {p : α → Prop} {a0 : α} (h0 : p a0) : ∀ q ∈ [a0], p q := List.forall_mem_cons.mpr ⟨h0, all0 ⟩
theorem all2 {α : Type} {p : α → Prop} {a0 a1 : α} (h0 : p a0) (h1 : p a1) : ∀ q ∈ [a0, a1], p q := List.forall_mem_cons.mpr ⟨h0, all1 h1⟩
theorem all3 {α : Type} {p : α → Prop} {a0 a1 a2 : α} (h0 : p a0) (h1 : p a1) (h2 : p a2) : ∀ q ∈ [a0, a1, a2], p q := List.forall_mem_cons.mpr ⟨h0, all2 h1 h2⟩
theorem all4 {α : Type} {p : α → Prop} {a0 a1 a2 a3 : α} (h0 : p a0) (h1 : p a1) (h2 : p a2) (h3 : p a3) : ∀ q ∈ [a0, a1, a2, a3], p q := List.forall_mem_cons.mpr ⟨h0, all3 h1 h2 h3⟩
theorem all5 {α : Type} {p : α → Prop} {a0 a1 a2 a3 a4 : α} (h0 : p a0) (h1 : p a1) (h2 : p a2) (h3 : p a3) (h4 : p a4) : ∀ q ∈ [a0, a1, a2, a3, a4], p q := List.forall_mem_cons.mpr ⟨h0, all4 h1 h2 h3 h4⟩
theorem all6 {α : Type} {p : α → Prop} {a0 a1 a2 a3 a4 a5 : α} (h0 : p a0) (h1 : p a1) (h2 : p a2) (h3 : p a3) (h4 : p a4) (h5 : p a5) : ∀ q ∈ [a0, a1, a2, a3, a4, a5], p q := List.forall_mem_cons.mpr ⟨h0, all5 h1 h2 h3 h4 h5⟩
theorem all7 {α : Type} {p : α → Prop} {a0 a1 a2 a3 a4 a5 a6 : α} (h0 : p a0) (h1 : p a1) (h2 : p a2) (h3 : p a3) (h4 : p a4) (h5 : p a5) (h6 : p a6) : ∀ q ∈ [a0, a1, a2, a3, a4, a5, a6], p q := List.forall_mem_cons.mpr ⟨h0, all6 h1 h2 h3 h4 h5 h6⟩
theorem all8 {α : Type} {p : α → Prop} {a0 a1 a2 a3 a4 a5 a6 a7 : α} (h0 : p a0) (h1 : p a1) (h2 : p a2) (h3 : p a3) (h4 : p a4) (h5 : p a5) (h6 : p a6) (h7 : p a7) : ∀ q ∈ [a0, a1, a2, a3, a4, a5, a6, a7], p q := List.forall_mem_cons.mpr ⟨h0, all7 h1 h2 h3 h4 h5 h6 h7⟩
theorem all9 {α : Type} {p : α → Prop} {a0 a1 a2 a3 a4 a5 a6 a7 a8 : α} (h0 : p a0) (h1 : p a1) (h2 : p a2) (h3 : p a3) (h4 : p a4) (h5 : p a5) (h6 : p a6) (h7 : p a7) (h8 : p a8) : ∀ q ∈ [a0, a1, a2, a3, a4, a5, a6, a7, a8], p q := List.forall_mem_cons.mpr ⟨h0, all8 h1 h2 h3 h4 h5 h6 h7 h8⟩
theorem all10 {α : Type} {p : α → Prop} {a0 a1 a2 a3 a4 a5 a6 a7 a8 a9 : α} (h0 : p a0) (h1 : p a1) (h2 : p a2) (h3 : p a3) (h4 : p a4) (h5 : p a5) (h6 : p a6) (h7 : p a7) (h8 : p a8) (h9 : p a9) : ∀ q ∈ [a0, a1, a2, a3, a4, a5, a6, a7, a8, a9], p q := List.forall_mem_cons.mpr ⟨h0, all9 h1 h2 h3 h4 h5 h6 h7 h8 h9⟩
theorem all11 {α : Type} {p : α → Prop} {a0 a1 a2 a3 a4 a5 a6 a7 a8 a9 a10 : α} (h0 : p a0) (h1 : p a1) (h2 : p a2) (h3 : p a3) (h4 : p a4) (h5 : p a5) (h6 : p a6) (h7 : p a7) (h8 : p a8) (h9 : p a9) (h10 : p a10) : ∀ q ∈ [a0, a1, a2, a3, a4, a5, a6, a7, a8, a9, a10], p q := List.forall_mem_cons.mpr ⟨h0, all10 h1 h2 h3 h4 h5 h6 h7 h8 h9 h10⟩
theorem all12 {α : Type} {p : α → Prop} {a0 a1 a2 a3 a4 a5 a6 a7 a8 a9 a10 a11 : α} (h0 : p a0) (h1 : p a1) (h2 : p a2) (h3 : p a3) (h4 : p a4) (h5 : p a5) (h6 : p a6) (h7 : p a7) (h8 : p a8) (h9 : p a9) (h10 : p a10) (h11 : p a11) : ∀ q ∈ [a0, a1, a2, a3, a4, a5, a6, a7, a8, a9, a10, a11], p q := List.forall_mem_cons.mpr ⟨h0, all11 h1 h2 h3 h4 h5 h6 h7 h8 h9 h10 h11⟩
theorem all13 {α : Type} {p : α → Prop} {a0 a1 a2 a3 a4 a5 a6 a7 a8 a9 a10 a11 a12 : α} (h0 : p a0) (h1 : p a1) (h2 : p a2) (h3 : p a3) (h4 : p a4) (h5 : p a5) (h6 : p a6) (h7 : p a7) (h8 : p a8) (h9 : p a9) (h10 : p a10) (h11 : p a11) (h12 : p a12) : ∀ q ∈ [a0, a1, a2, a3, a4, a5, a6, a7, a8, a9, a10, a11, a12], p q := List.forall_mem_cons.mpr ⟨h0, all12 h1 h2 h3 h4 h5 h6 h7 h8 h9 h10 h11 h12⟩
theorem all14 {α : Type} {p : α → Prop} {a0 a1 a2 a3 a4 a5 a6 a7 a8 a9 a10 a11 a12 a13 : α} (h0 : p a0) (h1 : p a1) (h2 : p a2) (h3 : p a3) (h4 : p a4) (h5 : p a5) (h6 : p a6) (h7 : p a7) (h8 : p a8) (h9 : p a9) (h10 : p a10) (h11 : p a11) (h12 : p a12) (h13 : p a13) : ∀ q ∈ [a0, a1, a2, a3, a4, a5, a6, a7, a8, a9, a10, a11, a12, a13], p q := List.forall_mem_cons.mpr ⟨h0, all13 h1 h2 h3 h4 h5 h6 h7 h8 h9 h10 h11 h12 h13⟩
theorem all15 {α : Type} {p : α → Prop} {a0 a1 a2 a3 a4 a5 a6 a7 a8 a9 a10 a11 a12 a13 a14 : α} (h0 : p a0) (h1 : p a1) (h2 : p a2) (h3 : p a3) (h4 : p a4) (h5 : p a5) (h6 : p a6) (h7 : p a7) (h8 : p a8) (h9 : p a9) (h10 : p a10) (h11 : p a11) (h12 : p a12) (h13 : p a13) (h14 : p a14) : ∀ q ∈ [a0, a1, a2, a3, a4, a5, a6, a7, a8, a9, a10, a11, a12, a13, a14], p q := List.forall_mem_cons.mpr ⟨h0, all14 h1 h2 h3 h4 h5 h6 h7 h8 h9 h10 h11 h12 h13 h14⟩
theorem all16 {α : Type} {p : α → Prop} {a0 a1 a2 a3 a4 a5 a6 a7 a8 a9 a10 a11 a12 a13 a14 a15 : α} (h0 : p a0) (h1 : p a1) (h2 : p a2) (h3 : p a3) (h4 : p a4) (h5 : p a5) (h6 : p a6) (h7 : p a7) (h8 : p a8) (h9 : p a9) (h10 : p a10) (h11 : p a11) (h12 : p a12) (h13 : p a13) (h14 : p a14) (h15 : p a15) : ∀ q ∈ [a0, a1, a2, a3, a4, a5, a6, a7, a8, a9, a10, a11, a12, a13, a14, a15], p q := List.forall_mem_cons.mpr ⟨h0, all15 h1 h2 h3 h4 h5 h6 h7 h8 h9 h10 h11 h12 h13 h14 h15⟩
theorem all17 {α : Type} {p : α → Prop} {a0 a1 a2 a3 a4 a5 a6 a7 a8 a9 a10 a11 a12 a13 a14 a15 a16 : α} (h0 : p a0) (h1 : p a1) (h2 : p a2) (h3 : p a3) (h4 : p a4) (h5 : p a5) (h6 : p a6) (h7 : p a7) (h8 : p a8) (h9 : p a9) (h10 : p a10) (h11 : p a11) (h12 : p a12) (h13 : p a13) (h14 : p a14) (h15 : p a15) (h16 : p a16) : ∀ q ∈ [a0, a1, a2, a3, a4, a5, a6, a7, a8, a9, a10, a11, a12, a13, a14, a15, a16], p q := List.forall_mem_cons.mpr ⟨h0, all16 h1 h2 h3 h4 h5 h6 h7 h8 h9 h10 h11 h12 h13 h14 h15 h16⟩
theorem all18 {α : Type} {p : α → Prop} {a0 a1 a2 a3 a4 a5 a6 a7 a8 a9 a10 a11 a12 a13 a14 a15 a16 a17 : α} (h0 : p a0) (h1 : p a1) (h2 : p a2) (h3 : p a3) (h4 : p a4) (h5 : p a5) (h6 : p a6) (h7 : p a7) (h8 : p a8) (h9 : p a9) (h10 : p a10) (h11 : p a11) (h12 : p a12) (h13 : p a13) (h14 : p a14) (h15 : p a15) (h16 : p a16) (h17 : p a17) : ∀ q ∈ [a0, a1, a2, a3, a4, a5, a6, a7, a8, a9, a10, a11, a12, a13, a14, a15, a16, a17], p q := List.forall_mem_cons.mpr ⟨h0, all17 h1 h2 h3 h4 h5 h6 h7 h8 h9 h10 h11 h12 h13 h14 h15 h16 h17⟩
theorem all19 {α : Type} {p : α → Prop} {a0 a1 a2 a3 a4 a5 a6 a7 a8 a9 a10 a11 a12 a13 a14 a15 a16 a17 a18 : α} (h0 : p a0) (h1 : p a1) (h2 : p a2) (h3 : p a3) (h4 : p a4) (h5 : p a5) (h6 : p a6) (h7 : p a7) (h8 : p a8) (h9 : p a9) (h10 : p a10) (h11 : p a11) (h12 : p a12) (h13 : p a13) (h14 : p a14) (h15 : p a15) (h16 : p a16) (h17 : p a17) (h18 : p a18) : ∀ q ∈ [a0, a1, a2, a3, a4, a5, a6, a7, a8, a9, a10, a11, a12, a13, a14, a15, a16, a17, a18], p q := List.forall_mem_cons.mpr ⟨h0, all18 h1 h2 h3 h4 h5 h6 h7 h8 h9 h10 h11 h12 h13 h14 h15 h16 h17 h18⟩
theorem all20 {α : Type} {p : α → Prop} {a0 a1 a2 a3 a4 a5 a6 a7 a8 a9 a10 a11 a12 a13 a14 a15 a16 a17 a18 a19 : α} (h0 : p a0) (h1 : p a1) (h2 : p a2) (h3 : p a3) (h4 : p a4) (h5 : p a5) (h6 : p a6) (h7 : p a7) (h8 : p a8) (h9 : p a9) (h10 : p a10) (h11 : p a11) (h12 : p a12) (h13 : p a13) (h14 : p a14) (h15 : p a15) (h16 : p a16) (h17 : p a17) (h18 : p a18) (h19 : p a19) : ∀ q ∈ [a0, a1, a2, a3, a4, a5, a6, a7, a8, a9, a10, a11, a12, a13, a14, a15, a16, a17, a18, a19], p q := List.forall_mem_cons.mpr ⟨h0, all19 h1 h2 h3 h4 h5 h6 h7 h8 h9 h10 h11 h12 h13 h14 h15 h16 h17 h18 h19⟩
theorem memd {α : Type} {a0 a1 a2 a3 q : α} {l : List α} (h : q ∈ l) : q ∈ a0 :: a1 :: a2 :: a3 :: l := .tail _ (.tail _ (.tail _ (.tail _ h)))
theorem store_gen {M A env n v t Q E h g d k o} (H : ∀ t' k', wpAny M A (storeName env n (Value.int v t')) Q E ⟨h, g, d, k', o⟩) : wpAny M A (storeName env n (Value.int v t)) Q E ⟨h, g, d, k, o⟩ := H t k
theorem lm1 {α : Type} {a0 q : α} {l : List α} : List.Mem q (a0 :: q :: l) := .tail _ (.head _)
theorem lm2 {α : Type} {a0 a1 q : α} {l : List α} : List.Mem q (a0 :: a1 :: q :: l) := .tail _ lm1
theorem lm3 {α : Type} {a0 a1 a2 q : α} {l : List α} : List.Mem q (a0 :: a1 :: a2 :: q :: l) := .tail _ lm2
theorem lmd {α : Type} {a0 a1 a2 a3 q : α} {l : List α} (h : List.Mem q l) : List.Mem q (a0 :: a1 :: a2 :: a3 :: l) := .tail _ (.tail _ (.tail _ (.tail _ h)))
theorem isMem {α : Type} {q : α} {l : List α} (h : q ∈ l) : q ∈ l := h
local macro_rules | `(tactic| k_room) => `(tactic| ktr_room)
local macro_rules | `(tactic| k_units) => `(tactic| ktr_units)
local macro_rules | `(tactic| ktr_enter) => `(tactic| (refine' code_pure ?k1 ?k2 ?k3 ?k4 ?kA ?kF ?kK ?k6 ?k7 ?k8 ?k9 ?kB ?_ ?c2 ?c3 ?c4 ?c5; (case kA => exact rfl); (case kF => exact rfl); (case kK => assumption); (case k1 => k_asm); (case k2 => k_asm); (case k3 => k_asm); (case k4 => k_asm); (case k6 => k_is); (case k7 => k_is); (case k8 => ktr_room); (case k9 => exact BindsTo.of_eq rfl); (case c5 => decide); (case kB => exact locs rfl); (case c2 => exact rfl); (case c3 => exact rfl); (case c4 => exact rfl); k_whole; intro g' L' h' hg' FG' F' N' B' X' T'; (try dsimp only); (try k_lift B'); (try k_fold)))
local macro_rules | `(tactic| walk_at $k) => `(tactic| k_extra $(Lean.Syntax.mkStrLit ("my " ++ k.getString)))
local macro_rules | `(tactic| k_in) => `(tactic| k_extra "my k_in")
local macro_rules | `(tactic| k_mem) => `(tactic| k_extra "my k_mem")
local macro_rules | `(tactic| k_ne) => `(tactic| k_extra "my k_ne")
theorem reg_BASE : True := by
  (k_with "my k_in" => (first | with_reducible assumption | with_reducible exact Frag.In.keeps (by assumption) (Fr.keep (by assumption))))
  (k_with "my storeName" => ((first | (with_reducible show wpAny _ _ (storeName _ _ (Value.int _ (Shared.toks _))) _ _ _) | (with_reducible show wpAny _ _ (storeName _ _ (Value.int _ (HAdd.hAdd _ _))) _ _ _)); refine store_gen ?_; intro t9 k9; (try dsimp only)))
  (k_with "my k_mem" => (((with_reducible refine isMem ?_); focus ((repeat (first | exact List.Mem.head _ | exact lm1 | exact lm2 | exact lm3 | refine' lmd ?_)); done))))
  (k_with "my k_ne" => (first | assumption | (refine ne_sym ?_; assumption)))
  trivial
section
variable {prog : Program} {w : World} {A₀ A : Around} {s : Shared} {base h₀ : Heap} {outer : List Env} {L : Addr} {m mg mb : Str → Option Value} {env : Env} {K : Frag} {p : Program} {loose : List Str} {mean : ExcName → Option Value}
  {R : Result → Shared → Prop} {name qual : Str} {params : Arguments} {body : List Stmt} {scope : Scope} {dV kV doc pm cdv ct oc : Value} {an od : Option Addr} {osl : Array (Option Value)} {f : Addr} {args : Args} {binds : List (Str × Value)} {own news : List (Addr × Obj)}

theorem leave_semi {g : Heap} {v : Value} {s' : Shared} (hg : ∀ q ∈ news, g.get? q.1 = some q.2) (N : News h₀ L s.heap news)
    (hl : LeaveK h₀ L m g (fun r s'' => News h₀ L s''.heap news → R r s'') v s') : LeaveK h₀ L m g R v s' := by
  obtain ⟨L', m', news', F', N', k⟩ := hl
  exact ⟨L', m', news', F', N', fun F₂ N₂ => k F₂ N₂ fun q hq => ⟨F'.keep q.1 q.2 (hg q hq), (N q hq).2⟩⟩

/-- a call that may change the objects «own»; the objects «news» stay as they are -/
theorem semi_plain
    (B : Below A₀ base outer h₀) (F : Fr h₀ L s.heap m) (X₀ : K.In h₀) (N : News h₀ L s.heap own) (NX : News h₀ L s.heap news) (off : ∀ q ∈ news, q.1 ∉ own.map (·.1)) (T : Top p loose mean mg mb h₀)
    (hA : A.frames = some (env :: outer)) (hf : env.frame = some L) (hke : env.scope.kind = .function)
    (ho : K.lookup f = some ⟨oc, od, .func (fnOf name qual params body scope dV kV doc pm an cdv ct), osl⟩) (hcd : codeIn K cdv qual = true) (hroom : A.depth < recursionLimit)
    (hbind : BindsTo s (fnOf name qual params body scope dV kV doc pm an cdv ct) args binds) (hloc : ∀ y ∈ binds, scope.names.lookup y.1 = some .local)
    (h : ∀ g L' h₁, Fr h₀ L g m → Fr g L' h₁ (fun y => binds.reverse.lookup y) → News g L' h₁ own → Below A base (env :: outer) g → K.In g → Top p loose mean mg mb g → (∀ q ∈ own, q.1 < L') → (∀ q ∈ news, g.get? q.1 = some q.2) →
      wpAny (model prog w) (A.deeper (envOf qual scope L' f cdv)) (execs body (envOf qual scope L' f cdv))
        (fun fl s' => LeaveK h₀ L m g (fun r s'' => News h₀ L s''.heap news → R r s'') (match fl with | .ret v => v | _ => .none) s')
        (fun _ _ => False)
        { s with heap := h₁, toks := s.toks + binds.length })
    (hco : scope.isCoroutine = false) (hgen : scope.isGenerator = false) (hk : scope.kind = .function)
    (hcell : ∀ x ∈ scope.names, x.2 ≠ .cell) : codeAny (model prog w) A (.call (.ref f) args) R s := by
  obtain ⟨FG, BG, st, lv⟩ := groundX (R := R) B F N hA hf hke
  have ho' : s.heap.get? f = some ⟨oc, od, .func (fnOf name qual params body scope dV kV doc pm an cdv ct), osl⟩ := (X₀.keeps F.keep) _ _ ho
  refine codeAny_call_def (fd := fnOf name qual params body scope dV kV doc pm an cdv ct) (body := body) (binds := binds) hroom ho' rfl (T.nolimit.keeps F.keep) (codeRec_of (X₀.keeps F.keep) hcd) rfl hbind hcell hloc (fun h₁ hns hk₁ => ?_) hco hgen hk
  refine wpAny_mono (h _ s.heap.objs.size h₁ FG ⟨hns, fun b o e => hk₁ b o (of_hideAll _ e), Nat.le_of_eq (hideAll_size _ _)⟩
    (fun q hq => ⟨hk₁ _ _ (N q hq).1, Nat.ne_of_lt (Heap.lt_size (N q hq).1), hideAll_none _ (List.mem_map_of_mem hq)⟩) BG (X₀.keeps st) (T.keeps st) (fun q hq => Heap.lt_size (N q hq).1) (fun q hq => hideAll_get _ (NX q hq).1 (off q hq)))
    (fun fl s' hl => lv _ _ (leave_semi (fun q hq => hideAll_get _ (NX q hq).1 (off q hq)) NX hl)) fun _ _ y => y.elim

theorem semi_cells
    (B : Below A₀ base outer h₀) (F : Fr h₀ L s.heap m) (X₀ : K.In h₀) (N : News h₀ L s.heap own) (NX : News h₀ L s.heap news) (off : ∀ q ∈ news, q.1 ∉ own.map (·.1)) (T : Top p loose mean mg mb h₀)
    (hA : A.frames = some (env :: outer)) (hf : env.frame = some L) (hke : env.scope.kind = .function)
    (ho : K.lookup f = some ⟨oc, od, .func (fnOf name qual params body scope dV kV doc pm an cdv ct), osl⟩) (hcd : codeIn K cdv qual = true) (hroom : A.depth < recursionLimit)
    (hbind : BindsTo s (fnOf name qual params body scope dV kV doc pm an cdv ct) args binds) (hkind : (binds.all fun y => scope.names.lookup y.1 == some .local || scope.names.lookup y.1 == some .cell) = true)
    (hnd : ((cellsFrom 0 scope.names []).map (·.1)).Nodup)
    (h : ∀ g L' h₁ tk cells, Fr h₀ L g m → Fr g L' h₁ (bindL (envOfC qual scope L' f cdv).kindOf binds fun _ => none) → News g L' h₁ (cells ++ own) →
      CellsAre (bindC (envOfC qual scope L' f cdv).kindOf binds fun _ => none) (cellsFrom (L' + 1) scope.names []) cells → Below A base (env :: outer) g → K.In g → Top p loose mean mg mb g → (∀ q ∈ own, q.1 < L') → (∀ q ∈ news, g.get? q.1 = some q.2) →
      wpAny (model prog w) (A.deeper (envOfC qual scope L' f cdv)) (execs body (envOfC qual scope L' f cdv))
        (fun fl s' => LeaveK h₀ L m g (fun r s'' => News h₀ L s''.heap news → R r s'') (match fl with | .ret v => v | _ => .none) s')
        (fun _ _ => False)
        { s with heap := h₁, toks := tk })
    (hco : scope.isCoroutine = false) (hgen : scope.isGenerator = false) (hk : scope.kind = .function) : codeAny (model prog w) A (.call (.ref f) args) R s := by
  obtain ⟨FG, BG, st, lv⟩ := groundX (R := R) B F N hA hf hke
  have ho' : s.heap.get? f = some ⟨oc, od, .func (fnOf name qual params body scope dV kV doc pm an cdv ct), osl⟩ := (X₀.keeps F.keep) _ _ ho
  refine codeAny_call_function hroom ho' rfl hco hgen rfl (codeRec_of (X₀.keeps F.keep) hcd) (hbind _ _ _ _ ?_)
  refine wpAny_newFunctionEnv_cells hk (kindsX hkind _) fun env' he s' x => ?_
  subst he
  refine ⟨(T.nolimit.keeps F.keep).keeps x.toInCall.keep, codeAny_func ?_⟩
  obtain ⟨h₁, tk, rfl, _⟩ := x.done
  have hk₁ := x.toInCall.keep
  obtain ⟨cells, NC, Y⟩ := Cl.news (h₀ := s.heap) (Nat.le_refl _) fun n c hm => ⟨x.cell n c (lookup_of_mem_nodup (cellsFrom_names scope.names 0 (s.heap.objs.size + 1) [] [] rfl ▸ hnd) hm), x.above n c hm⟩
  refine wpAny_mono (h _ s.heap.objs.size h₁ tk cells FG ⟨x.toInCall.ns, fun b o e => hk₁ b o (of_hideAll _ e), Nat.le_of_eq (hideAll_size _ _)⟩ (fun q hq => ?_) Y BG (X₀.keeps st) (T.keeps st) (fun q hq => Heap.lt_size (N q hq).1) (fun q hq => hideAll_get _ (NX q hq).1 (off q hq)))
    (fun fl s' hl => lv _ _ (leave_semi (fun q hq => hideAll_get _ (NX q hq).1 (off q hq)) NX hl)) fun _ _ y => y.elim
  rcases List.mem_append.mp hq with hq | hq
  · refine ⟨(NC q hq).1, (NC q hq).2.1, ?_⟩
    cases e : (hideAll s.heap (own.map (·.1))).get? q.1 with
    | none => rfl
    | some o => have := of_hideAll _ e; rw [(NC q hq).2.2] at this; cases this
  · exact ⟨hk₁ _ _ (N q hq).1, Nat.ne_of_lt (Heap.lt_size (N q hq).1), hideAll_none _ (List.mem_map_of_mem hq)⟩

theorem off_two {x d : Addr} {ox od : Obj} (h1 : ∀ q ∈ news, q.1 < d) (h2 : d < x) : ∀ q ∈ news, q.1 ∉ [(x, ox), (d, od)].map (·.1) := by
  intro q hq hm
  have h3 := h1 q hq
  have h4 : @LT.lt Nat _ d x := h2
  have h5 : @LT.lt Nat _ q.1 d := h3
  simp only [List.map_cons, List.map_nil, List.mem_cons, List.not_mem_nil, or_false] at hm
  rcases hm with e | e
  · have e' : @Eq Nat q.1 x := e; omega
  · have e' : @Eq Nat q.1 d := e; omega
theorem ne_of_ltAll {d : Addr} : ∀ {news : List (Addr × Obj)}, (∀ q ∈ news, q.1 < d) → AllNe d news
  | [], _ => trivial
  | q :: _, h => ⟨fun e => by have h1 : @LT.lt Nat _ q.1 d := h q (.head _); omega, ne_of_ltAll fun p hp => h p (.tail _ hp)⟩
theorem ne_of_ltAll2 {d x : Addr} {news : List (Addr × Obj)} (h : ∀ q ∈ news, q.1 < d) (hx : d < x) : AllNe x news := ne_of_ltAll fun q hq => by
  have h1 : @LT.lt Nat _ q.1 d := h q hq
  have h2 : @LT.lt Nat _ d x := hx
  show @LT.lt Nat _ q.1 x
  omega
theorem ne_of_new {g h' : Heap} {L' x : Addr} {o : Obj} {made' : List (Addr × Obj)} : ∀ {news : List (Addr × Obj)}, (∀ q ∈ news, g.get? q.1 = some q.2) → News g L' h' made' → (x, o) ∈ made' → AllNe x news
  | [], _, _, _ => trivial
  | q :: _, hg, N', hm => ⟨(by
      intro hx
      have h1 := hg q (.head _)
      have hx' : q.1 = x := hx
      rw [hx', (show g.get? x = none from (N' _ hm).2.2)] at h1
      cases h1), ne_of_new (fun p hp => hg p (.tail _ hp)) N' hm⟩
theorem news_cons {h : Heap} {a b : List (Addr × Obj)} (h1 : News h₀ L h a) (h2 : News h₀ L h b) : News h₀ L h (a ++ b) := fun q hq => (List.mem_append.mp hq).elim (h1 q) (h2 q)
theorem news_sub {h : Heap} {a b : List (Addr × Obj)} (h1 : News h₀ L h b) (hs : ∀ q ∈ a, q ∈ b) : News h₀ L h a := fun q hq => h1 q (hs q hq)

theorem news_back {h h' : Heap} (N : News h₀ L h news) (sub : ∀ q ∈ own, q ∈ news) (k : ∀ q ∈ news, q.1 ∉ own.map (·.1) → h'.get? q.1 = some q.2) (N' : News h₀ L h' own) : News h₀ L h' news := fun q hq => by
  by_cases hm : q.1 ∈ own.map (·.1)
  · obtain ⟨r, hr, e⟩ := List.mem_map.mp hm
    have e1 := (N q hq).1
    have e2 := (N r (sub r hr)).1
    have e3 : r.1 = q.1 := e
    rw [e3, e1] at e2
    have e4 : r.2 = q.2 := (Option.some.inj e2).symm
    have e5 := (N' r hr).1
    rw [e3, e4] at e5
    exact ⟨e5, (N q hq).2⟩
  · exact ⟨k q hq hm, (N q hq).2⟩
theorem leave_reads {g : Heap} {v : Value} {s' : Shared} (hg : ∀ q ∈ news, q.1 ∉ own.map (·.1) → g.get? q.1 = some q.2) (N : News h₀ L s.heap news) (sub : ∀ q ∈ own, q ∈ news)
    (hl : LeaveK h₀ L m g (fun r s'' => (News h₀ L s''.heap own → News h₀ L s''.heap news) → R r s'') v s') : LeaveK h₀ L m g R v s' := by
  obtain ⟨L', m', news', F', N', k⟩ := hl
  exact ⟨L', m', news', F', N', fun F₂ N₂ => k F₂ N₂ fun No => news_back N sub (fun q hq hm => F'.keep q.1 q.2 (hg q hq hm)) No⟩

/-- a call that reads the objects «own» of the ledger and changes none of it -/
theorem semi_reads
    (B : Below A₀ base outer h₀) (F : Fr h₀ L s.heap m) (X₀ : K.In h₀) (N : News h₀ L s.heap news) (sub : ∀ q ∈ own, q ∈ news) (T : Top p loose mean mg mb h₀)
    (hA : A.frames = some (env :: outer)) (hf : env.frame = some L) (hke : env.scope.kind = .function)
    (ho : K.lookup f = some ⟨oc, od, .func (fnOf name qual params body scope dV kV doc pm an cdv ct), osl⟩) (hcd : codeIn K cdv qual = true) (hroom : A.depth < recursionLimit)
    (hbind : BindsTo s (fnOf name qual params body scope dV kV doc pm an cdv ct) args binds) (hloc : ∀ y ∈ binds, scope.names.lookup y.1 = some .local)
    (h : ∀ g L' h₁, Fr h₀ L g m → Fr g L' h₁ (fun y => binds.reverse.lookup y) → News g L' h₁ own → Below A base (env :: outer) g → K.In g → Top p loose mean mg mb g → (∀ q ∈ own, q.1 < L') → (∀ q ∈ news, q.1 ∉ own.map (·.1) → g.get? q.1 = some q.2) →
      wpAny (model prog w) (A.deeper (envOf qual scope L' f cdv)) (execs body (envOf qual scope L' f cdv))
        (fun fl s' => LeaveK h₀ L m g (fun r s'' => (News h₀ L s''.heap own → News h₀ L s''.heap news) → R r s'') (match fl with | .ret v => v | _ => .none) s')
        (fun _ _ => False)
        { s with heap := h₁, toks := s.toks + binds.length })
    (hco : scope.isCoroutine = false) (hgen : scope.isGenerator = false) (hk : scope.kind = .function)
    (hcell : ∀ x ∈ scope.names, x.2 ≠ .cell) : codeAny (model prog w) A (.call (.ref f) args) R s := by
  have No : News h₀ L s.heap own := fun q hq => N q (sub q hq)
  obtain ⟨FG, BG, st, lv⟩ := groundX (R := R) B F No hA hf hke
  have ho' : s.heap.get? f = some ⟨oc, od, .func (fnOf name qual params body scope dV kV doc pm an cdv ct), osl⟩ := (X₀.keeps F.keep) _ _ ho
  have hg : ∀ q ∈ news, q.1 ∉ own.map (·.1) → (hideAll s.heap (own.map (·.1))).get? q.1 = some q.2 := fun q hq hm => hideAll_get _ (N q hq).1 hm
  refine codeAny_call_def (fd := fnOf name qual params body scope dV kV doc pm an cdv ct) (body := body) (binds := binds) hroom ho' rfl (T.nolimit.keeps F.keep) (codeRec_of (X₀.keeps F.keep) hcd) rfl hbind hcell hloc (fun h₁ hns hk₁ => ?_) hco hgen hk
  refine wpAny_mono (h _ s.heap.objs.size h₁ FG ⟨hns, fun b o e => hk₁ b o (of_hideAll _ e), Nat.le_of_eq (hideAll_size _ _)⟩
    (fun q hq => ⟨hk₁ _ _ (No q hq).1, Nat.ne_of_lt (Heap.lt_size (No q hq).1), hideAll_none _ (List.mem_map_of_mem hq)⟩) BG (X₀.keeps st) (T.keeps st) (fun q hq => Heap.lt_size (No q hq).1) hg)
    (fun fl s' hl => lv _ _ (leave_reads hg N sub hl)) fun _ _ y => y.elim
theorem ne_reads {g h' : Heap} {L' x : Addr} {o : Obj} {made' : List (Addr × Obj)} : ∀ {news : List (Addr × Obj)}, (∀ q ∈ news, q.1 ∉ own.map (·.1) → g.get? q.1 = some q.2) → News g L' h' made' → (x, o) ∈ made' → AllNe x own → AllNe x news
  | [], _, _, _, _ => trivial
  | q :: _, hg, N', hm, ho => ⟨(by
      intro hx
      have hx' : q.1 = x := hx
      by_cases hq : q.1 ∈ own.map (·.1)
      · clear hg N' hm
        induction own with
        | nil => cases hq
        | cons r own ih =>
          rcases List.mem_cons.mp hq with e | e
          · exact ho.1 (show r.1 = x from e.symm.trans hx')
          · exact ih ho.2 e
      · have h1 := hg q (.head _) hq
        rw [hx', (show g.get? x = none from (N' _ hm).2.2)] at h1
        cases h1), ne_reads (fun p hp => hg p (.tail _ hp)) N' hm ho⟩
end
/-- what the law's reader answers -/
def num (ns : List Int) (i : Int) : Int := if i < ns.length then ns.getD i.toNat 0 else 37 * i * i + 11 * i + 5
theorem num_mod (ns : List Int) (i : Int) : 0 ≤ num ns i % 256 ∧ num ns i % 256 < 256 := ⟨Int.emod_nonneg _ (by decide), Int.emod_lt_of_pos _ (by decide)⟩

section
variable {prog : Program} {w : World} {p : Program} {loose : List Str} {mean : ExcName → Option Value} {mg mb : Str → Option Value}
  {dp un : Nat} {gd : Option (List Code)} {cn : Str} {cs : Scope} {a : Addr} {ccd : Value} {cl : List (Str × Addr)} {outer : List Env} {A₀ : Around} {base h₀ : Heap} {L : Addr} {m : Str → Option Value} {news : List (Addr × Obj)} {s : Shared}
  {Q E : Value → Shared → Prop}
theorem lay_spec_number : True := by
  (k_with "go spec_number" =>
    refine wpAny_call ?_
    k_dflt ktr_enter
    k_steps
    · refine ⟨_, _, by assumption, fun hF hS => ?_⟩
      refine cell_ret (Q := Q) (s := s) ret ?_ hF (N.keepsAll (stays_eq (by assumption) hS))
      unfold num; rw [if_pos (by assumption)]
    · refine ⟨_, _, by assumption, fun hF hS => ?_⟩
      refine cell_ret (Q := Q) (s := s) ret ?_ hF (N.keepsAll (stays_eq (by assumption) hS))
      unfold num; rw [if_neg (by assumption)])
  trivial
theorem spec_number {l : Addr} {vs : List Value} {ns : List Int} {i : Int} {tk : Tok}
    (B : Below A₀ base outer h₀) (F : Fr h₀ L s.heap m) (X : (hd.heap_1 w.params).In h₀) (N : News h₀ L s.heap news) (T : Top p loose mean mg mb h₀) (hk : cs.kind = .function)
    (hl : base.IsList l vs.toArray) (hi : IntsAre vs ns) (hfit : ns.length < 2 ^ 62) (h0 : 0 ≤ i) (h1 : i < 2 ^ 40) (hroom : dp + 1 < recursionLimit)
    (ret : ∀ t h' tk', Fr h₀ L h' m → News h₀ L h' news → Q (.int (num ns i) t) { s with heap := h', toks := tk' }) :
    wpAny (model prog w) (ktrTop dp un gd cn cs L a ccd cl outer) (call (.ref 826) [.ref l, .int i tk]) Q E s := by
  refine unbox ?_
  simp +zetaDelta (disch := (k_dflt (k_extra "go spec_number"))) only [↓box_true]
end
theorem reg_NUM : True := by
  (k_with "my call ref" => (k_here; (with_reducible show wpAny _ _ (PySem.call (Value.ref 826) _) _ _ _); k_dflt (refine' spec_number (by k_asm) (by k_asm) (by k_asm) (by k_asm) (by k_asm) (by first | exact rfl | assumption) (by k_asm) (by k_asm) (by first | assumption | omega) (by omega) (by omega) (by ktr_room) ?_; k_whole); intro t9 h9 tk9 F9 N9; (try dsimp only); (try k_sweep); (try k_fold)))
  (k_with "my eval Call" => ((with_reducible show wpAny _ _ (eval (Expr.Call (Expr.Name (PySem.Str.ofString "_law_number") _) _ [] _) _) _ _ _); refine Call_ ?_))
  trivial
def octs (ns : List Int) (first many : Nat) : List Int := (List.range many).map fun (j : Nat) => num ns ((first : Int) + (j : Int)) % 256
def bytesOf (l : List Int) : List UInt8 := l.map fun n => n.toNat.toUInt8
theorem octs_range (ns : List Int) (first many : Nat) : (rangeKs (first : Int) many).map (fun i => num ns i % 256) = octs ns first many := by
  simp [octs, rangeKs, Function.comp_def]
theorem octs_in (ns : List Int) (first many : Nat) : ∀ n ∈ octs ns first many, 0 ≤ n ∧ n < 256 := by
  intro n h
  obtain ⟨j, _, rfl⟩ := List.mem_map.mp h
  exact num_mod _ _
theorem octs_len (ns : List Int) (first many : Nat) : (octs ns first many).length = many := by simp [octs]
theorem st_oct {ns told pre : List Int} {k : Int} (h1 : told.length = pre.length) (h2 : told = pre.map (fun i => num ns i % 256)) :
    (told ++ [Int.fmod (num ns k) 256]).length = (pre ++ [k]).length ∧ told ++ [Int.fmod (num ns k) 256] = (pre ++ [k]).map (fun i => num ns i % 256) := by
  subst h2
  rw [Int.fmod_eq_emod_of_nonneg _ (by decide)]
  simp
section
variable {prog : Program} {w : World} {p : Program} {loose : List Str} {mean : ExcName → Option Value} {mg mb : Str → Option Value}
  {dp un : Nat} {gd : Option (List Code)} {cn : Str} {cs : Scope} {a : Addr} {ccd : Value} {cl : List (Str × Addr)} {outer : List Env} {A₀ : Around} {base h₀ : Heap} {L : Addr} {m : Str → Option Value} {news : List (Addr × Obj)} {s : Shared}
  {Q E : Value → Shared → Prop}
theorem lay_spec_octets : True := by
  (k_with "go spec_octets" =>
    (k_with "pyIter ref" => refine Stop.at ?_)
    (k_with "state" => (first | exact ⟨rfl, rfl⟩ | exact st_oct (by assumption) (by assumption)))
    refine wpAny_call ?_
    k_dflt ktr_enter
    k_steps
    refine Stop.go ?_
    k_state (fun pre told => told.length = pre.length ∧ told = pre.map (fun i => num ns i % 256)) "told"
    all_goals k_steps
    rename IntsAre _ _ => hI
    rename News _ _ _ _ => hN
    rename _ = List.map _ (rangeKs _ _) => hT
    have e : ((first : Int) + (many : Int) - first).toNat = many := by omega
    rw [e, octs_range] at hT
    subst hT
    refine bytes_K (by assumption) hN (by is_list) hI (octs_in _ _ _) (by size_fits) rfl ?_
    intro h' t k hF hN2 hB
    k_unfold
    refine ⟨_, _, hF, fun hF2 hS => ret _ _ _ hF2 (N.keepsAll (stays_eq (by assumption) hS))⟩)
  trivial
theorem spec_octets {l : Addr} {vs : List Value} {ns : List Int} {first many : Nat} {tk tk2 : Tok}
    (B : Below A₀ base outer h₀) (F : Fr h₀ L s.heap m) (X : (hd.heap_1 w.params).In h₀) (N : News h₀ L s.heap news) (T : Top p loose mean mg mb h₀) (hk : cs.kind = .function)
    (hl : base.IsList l vs.toArray) (hi : IntsAre vs ns) (hfit : ns.length < 2 ^ 62) (h0 : first < 100) (h1 : many ≤ 1000) (h2 : 8 < many) (hroom : dp + 2 < recursionLimit)
    (ret : ∀ t h' tk', Fr h₀ L h' m → News h₀ L h' news → Q (.bytes (bytesOf (octs ns first many)).toArray t) { s with heap := h', toks := tk' }) :
    wpAny (model prog w) (ktrTop dp un gd cn cs L a ccd cl outer) (call (.ref 833) [.ref l, .int first tk, .int many tk2]) Q E s := by
  refine unbox ?_
  simp +zetaDelta (disch := (k_dflt (k_extra "go spec_octets"))) only [↓box_true]
end
theorem none_OCT : True := by
  k_with_none
  trivial
theorem reg_OCT : True := by
  (k_with "my k_in" => (first | with_reducible assumption | with_reducible exact Frag.In.keeps (by assumption) (Fr.keep (by assumption))))
  (k_with "my storeName" => ((first | (with_reducible show wpAny _ _ (storeName _ _ (Value.int _ (Shared.toks _))) _ _ _) | (with_reducible show wpAny _ _ (storeName _ _ (Value.int _ (HAdd.hAdd _ _))) _ _ _)); refine store_gen ?_; intro t9 k9; (try dsimp only)))
  (k_with "my k_mem" => (((with_reducible refine isMem ?_); focus ((repeat (first | exact List.Mem.head _ | exact lm1 | exact lm2 | exact lm3 | refine' lmd ?_)); done))))
  (k_with "my k_ne" => (first | assumption | (refine ne_sym ?_; assumption)))
  (k_with "my call ref" => (k_here; (with_reducible show wpAny _ _ (PySem.call (Value.ref 826) _) _ _ _); k_dflt (refine' spec_number (by k_asm) (by k_asm) (by k_asm) (by k_asm) (by k_asm) (by first | exact rfl | assumption) (by k_asm) (by k_asm) (by first | assumption | omega) (by omega) (by omega) (by ktr_room) ?_; k_whole); intro t9 h9 tk9 F9 N9; (try dsimp only); (try k_sweep); (try k_fold)))
  (k_with "my eval Call" => ((with_reducible show wpAny _ _ (eval (Expr.Call (Expr.Name (PySem.Str.ofString "_law_number") _) _ [] _) _) _ _ _); refine Call_ ?_))
  (k_with "my call ref" => (k_here; (with_reducible show wpAny _ _ (PySem.call (Value.ref 833) _) _ _ _); k_dflt (first | (refine' spec_octets (first := 5) (many := 32) (by k_asm) (by k_asm) (by k_asm) (by k_asm) (by k_asm) (by first | exact rfl | assumption) (by k_asm) (by k_asm) (by first | assumption | omega) (by omega) (by omega) (by omega) (by ktr_room) ?_; k_whole) | (refine' spec_octets (first := 37) (many := 840) (by k_asm) (by k_asm) (by k_asm) (by k_asm) (by k_asm) (by first | exact rfl | assumption) (by k_asm) (by k_asm) (by first | assumption | omega) (by omega) (by omega) (by omega) (by ktr_room) ?_; k_whole)); intro t9 h9 tk9 F9 N9; (try dsimp only); (try k_sweep); (try k_fold)))
  trivial
theorem eqAt_bytes {A : Around} {s : Shared} {b c : Array UInt8} {t u : Tok} (h : b = c) : PySem.SeqAt.EqAt A s (.bytes b t) (.bytes c u) true := fun prog w E Q hq => PySem.W.eqBool_bytes (by subst h; simpa using hq)
/-- a list's values are these octets' bytes -/
inductive ByAll : List Value → List (List Int) → Prop
  | nil : ByAll [] []
  | cons {b : Array UInt8} {t : Tok} {l : List Int} {vs : List Value} {ls : List (List Int)} (h : KBw.bInts b = l) (r : ByAll vs ls) : ByAll (.bytes b t :: vs) (l :: ls)
theorem of_bInts {b : Array UInt8} {l : List Int} (h : KBw.bInts b = l) : b = (bytesOf l).toArray := by
  subst h
  unfold KBw.bInts bytesOf
  rw [List.map_map]
  have e : (fun (n : Int) => n.toNat.toUInt8) ∘ (fun (c : UInt8) => (c.toNat : Int)) = id := by
    funext c
    simp
  rw [e, List.map_id, Array.toArray_toList]
theorem ByAll.len : ∀ {xs : List Value} {ls : List (List Int)}, ByAll xs ls → xs.length = ls.length
  | _, _, .nil => rfl
  | _, _, .cons _ r => by simp [r.len]
theorem ByAll.at {A : Around} {s : Shared} : ∀ {xs ys : List Value} {ls : List (List Int)}, ByAll xs ls → ByAll ys ls → ∀ j (h1 : j < xs.length) (h2 : j < ys.length), PySem.SeqAt.EqAt A s xs[j] ys[j] true
  | _, _, _, .cons h _, .cons h' _, 0, _, _ => eqAt_bytes ((of_bInts h).trans (of_bInts h').symm)
  | _, _, _, .cons _ r, .cons _ r', j + 1, h1, h2 => ByAll.at r r' j (Nat.lt_of_succ_lt_succ h1) (Nat.lt_of_succ_lt_succ h2)
theorem ne_byLists {prog : Program} {w : World} {A : Around} {E : Value → Shared → Prop} {s : Shared} {a b : Addr} {xs ys : List Value} {ls : List (List Int)} {Q : Value → Shared → Prop} (ha : s.heap.IsList a xs.toArray) (hb : s.heap.IsList b ys.toArray)
    (hx : ByAll xs ls) (hy : ByAll ys ls) (hu : A.units < cLine) (h : Q (.bool false) s) : wpAny (model prog w) A (compareOp .NotEq (.ref a) (.ref b)) Q E s := by
  have e : (!(List.range xs.toArray.size).all fun _ => true) = false := by simp
  have k : PySem.SeqAt.RcNeAt A s (.ref a) (.ref b) (!(List.range xs.toArray.size).all fun _ => true) :=
    PySem.SeqAt.RcNeAt.lists ha hb (by simp [hx.len, hy.len]) hu fun j h1 h2 => by
      have := ByAll.at (A := A.in1) (s := s) hx hy j (by simpa using h1) (by simpa using h2)
      simpa using this
  exact k prog w E Q (by rw [e]; exact h)
/-- the base read as one number, low octet first -/
def whole (l : List Int) : Int := KFB.value l.reverse
def candIn (W : Int) (i : Nat) : Int := W / 4096 ^ i % 4096
def candAt (l : List Int) (i : Nat) : Int := candIn (whole l) i
def cands (l : List Int) : List Int := (List.range 560).map (candAt l)
theorem bInts_bytesOf : ∀ {l : List Int}, (∀ n ∈ l, 0 ≤ n ∧ n < 256) → KBw.bInts (bytesOf l).toArray = l
  | [], _ => rfl
  | n :: r, h => by
    have ih := bInts_bytesOf (l := r) fun x hx => h x (.tail _ hx)
    have h0 := h n (.head _)
    simp only [KBw.bInts, bytesOf, List.map_cons] at ih ⊢
    rw [ih]
    congr 1
    exact byte_back h0.1 h0.2
theorem value_nonneg : ∀ (l : List Int) (a : Int), (∀ n ∈ l, 0 ≤ n ∧ n < 256) → 0 ≤ a → 0 ≤ l.foldl (fun a k => a * 256 + k) a
  | [], _, _, h => h
  | n :: r, a, h, ha => by
    rw [List.foldl_cons]
    exact value_nonneg r _ (fun x hx => h x (.tail _ hx)) (by have := (h n (.head _)).1; omega)
theorem whole_nonneg {l : List Int} (h : ∀ n ∈ l, 0 ≤ n ∧ n < 256) : 0 ≤ whole l := value_nonneg _ _ (fun n hn => h n (List.mem_reverse.mp hn)) (Int.le_refl _)

theorem st_cand0 {W : Int} : ([] : List Int).length = ([] : List Int).length ∧ [] = (List.range ([] : List Int).length).map (candIn W) ∧ W = W / 4096 ^ ([] : List Int).length := ⟨rfl, rfl, by simp⟩
theorem st_cand {W : Int} {told pre : List Int} {k x : Int} (h1 : told.length = pre.length) (h2 : told = (List.range pre.length).map (candIn W)) (h3 : x = W / 4096 ^ pre.length) :
    (told ++ [Int.fmod x 4096]).length = (pre ++ [k]).length ∧ told ++ [Int.fmod x 4096] = (List.range (pre ++ [k]).length).map (candIn W) ∧ Int.fdiv x 4096 = W / 4096 ^ (pre ++ [k]).length := by
  subst h3 h2
  refine ⟨by simp, ?_, ?_⟩
  · rw [Int.fmod_eq_emod_of_nonneg _ (by decide), List.length_append, List.length_singleton, List.range_succ, List.map_append]
    rfl
  · rw [Int.fdiv_eq_ediv_of_nonneg _ (by decide), List.length_append, List.length_singleton, Int.pow_succ, Int.ediv_ediv_of_nonneg (Int.pow_nonneg (by decide))]
section
variable {prog : Program} {w : World} {A : Around} {E : Value → Shared → Prop} {s : Shared}
/-- a number of at most 2^16 bits is made without a stop -/
theorem grown_long {M : Model} {n : Nat} {Q : Value → Shared → Prop} (hn : n < 2 ^ 65536) (h : Q (.int (n : Int) s.toks) { s with toks := s.toks + 1 }) : wpAny M A (mkIntGrown (n : Int)) Q E s := by
  unfold mkIntGrown
  have hl : ¬ ((n : Int).natAbs.log2 ≥ bitsLine) := by
    rw [Int.natAbs_natCast]
    have hb : bitsLine = 134217728 := by first | rfl | decide
    by_cases hz : n = 0
    · rw [hz, hb]; decide
    · have := (Nat.log2_lt hz).mpr hn
      clear hn
      omega
  rw [if_neg hl]
  exact wpAny_mkInt h
theorem little_tree {M : Model} {b : Array UInt8} {t u : Tok} {P : Fin → Shared → Prop} (hl : b.size ≤ 8192) (h : P (.done (.ret (.int (KFB.value (KBw.bInts b).reverse) s.toks))) { s with toks := s.toks + 1 }) :
    wpAny M A (Builtin.«int.from_bytes» ⟨[.type "int", .bytes b t, .str (PySem.Str.ofString "little") u], []⟩) P E s := by
  have hv : ((b.toList.reverse.foldl (fun (acc : Nat) (b : UInt8) => acc * 256 + b.toNat) 0 : Nat) : Int) = KFB.value (KBw.bInts b).reverse := by
    rw [KFB.fold_cast, List.map_reverse]
    rfl
  have hn : b.toList.reverse.foldl (fun (acc : Nat) (b : UInt8) => acc * 256 + b.toNat) 0 < 2 ^ 65536 := by
    have h1 := KFB.fold_lt b.toList.reverse 0
    rw [Nat.zero_add, Nat.one_mul, List.length_reverse, Array.length_toList] at h1
    have e : (256 : Nat) ^ b.size = 2 ^ (8 * b.size) := (Nat.pow_mul 2 8 b.size).symm
    rw [e] at h1
    exact Nat.lt_of_lt_of_le h1 (Nat.pow_le_pow_right (by decide) (by omega))
  unfold Builtin.«int.from_bytes»
  refine wpAny_bind (wpAny_of_eq (a := true) KFB.type_int ?_)
  refine KFB.if_not rfl ?_
  refine wpAny_bind (wpAny_of_eq (a := true) F.conv_sub_int ?_)
  refine KFB.if_not rfl ?_
  refine wpAny_bind (wpAny_of_eq (a := [some (.bytes b t), some (.str (PySem.Str.ofString "little") u), none]) (by kernel_rfl) ?_)
  refine wpAny_bind (wpAny_of_eq (a := PySem.Str.ofString "little") (by kernel_rfl) ?_)
  refine wpAny_bind (wpAny_of_eq (a := false) rfl ?_)
  refine wpAny_bind (wpAny_of_eq (a := true) (by kernel_rfl) ?_)
  refine wpAny_bind (wpAny_of_eq (a := b) rfl ?_)
  show wpAny _ _ (mkIntGrown (b.toList.reverse.foldl (fun (acc : Int) (b : UInt8) => acc * 256 + (b.toNat : Int)) ((0 : Nat) : Int)) >>= fun v => _) _ _ _
  rw [KFB.foldI_eq]
  refine wpAny_bind (grown_long hn ?_)
  rw [hv]
  refine KFB.if_so (by decide +kernel) ?_
  exact wpAny_bind (wpAny_pure (wpAny_pure h))
theorem call_whole {h₀ : Heap} {L : Addr} {news : List (Addr × Obj)} {x : Addr} {l : List Int} {t u : Tok} {Q : Value → Shared → Prop} (N : News h₀ L s.heap news) (hm : (x, KFB.bound) ∈ news) (hb : ∀ n ∈ l, 0 ≤ n ∧ n < 256) (hl : l.length ≤ 8192)
    (h : Q (.int (whole l) s.toks) { s with toks := s.toks + 1 }) : wpAny (model prog w) A (call (.ref x) [.bytes (bytesOf l).toArray t, .str (PySem.Str.ofString "little") u]) Q E s := by
  refine KFB.call_of (KFB.at_of N hm) (fun z => little_tree (by simpa [bytesOf] using hl) ?_) h
  rw [bInts_bytesOf hb]
  exact z
end
section
variable {prog : Program} {w : World} {p : Program} {loose : List Str} {mean : ExcName → Option Value} {mg mb : Str → Option Value}
  {dp un : Nat} {gd : Option (List Code)} {cn : Str} {cs : Scope} {a : Addr} {ccd : Value} {cl : List (Str × Addr)} {outer : List Env} {A₀ : Around} {base h₀ : Heap} {L : Addr} {m : Str → Option Value} {news : List (Addr × Obj)} {s : Shared}
  {Q E : Value → Shared → Prop}
theorem lay_spec_cand : True := by
  (k_with "go spec_cand" =>
    (k_with "pyIter ref" => refine Stop.at ?_)
    (k_with "state" => (first | exact st_cand0 | exact st_cand (by assumption) (by assumption) (by assumption)))
    refine wpAny_call ?_
    k_dflt ktr_enter
    k_steps
    refine call_whole (by assumption) (by k_mem) hl (by omega) ?_
    obtain ⟨wv, hwv⟩ : ∃ n : Int, n = whole l := ⟨_, rfl⟩
    rw [← hwv]
    k_steps
    refine Stop.go ?_
    rename IsRange _ _ _ _ _ _ _ _ => rg
    obtain ⟨top, htop⟩ : ∃ n : Int, n = 560 := ⟨_, rfl⟩
    rw [← htop] at rg
    have hnil : IntsAre [] [] := .nil
    k_state (fun pre told x => told.length = pre.length ∧ told = (List.range pre.length).map (candIn wv) ∧ x = wv / 4096 ^ pre.length) "told" "whole"
    all_goals k_steps
    dsimp only
    k_unfold
    rename IntsAre _ _ => hI
    rename News _ _ _ _ => hN
    rename _ = List.map _ (List.range _) => hT
    have e : (rangeKs 0 (top - 0).toNat).length = 560 := by rw [rangeKs_length, htop]; rfl
    rw [e] at hT
    refine ⟨_, _, by assumption, fun hF hS => ret _ _ _ _ _ hF (made_news (made := [_]) F N (by assumption) hS hN (all1 (by k_mem))) (made_ne N (by assumption) hN (by k_mem)) ?_⟩
    rw [hT, hwv] at hI
    exact hI)
  trivial
theorem spec_cand {l : List Int} {tk : Tok}
    (B : Below A₀ base outer h₀) (F : Fr h₀ L s.heap m) (X : (hd.heap_1 w.params).In h₀) (N : News h₀ L s.heap news) (T : Top p loose mean mg mb h₀) (hk : cs.kind = .function)
    (hl : ∀ n ∈ l, 0 ≤ n ∧ n < 256) (hlen : l.length = 840) (hroom : dp + 2 < recursionLimit)
    (ret : ∀ x h' tk' vs n, Fr h₀ L h' m → News h₀ L h' ((x, W.listOf vs.toArray n) :: news) → AllNe x news → IntsAre vs (cands l) → Q (.ref x) { s with heap := h', toks := tk' }) :
    wpAny (model prog w) (ktrTop dp un gd cn cs L a ccd cl outer) (call (.ref 847) [.bytes (bytesOf l).toArray tk]) Q E s := by
  refine unbox ?_
  simp +zetaDelta (disch := (k_dflt (k_extra "go spec_cand"))) only [↓box_true]
end
theorem none_CAND : True := by
  k_with_none
  trivial
theorem reg_CAND : True := by
  (k_with "my k_in" => (first | with_reducible assumption | with_reducible exact Frag.In.keeps (by assumption) (Fr.keep (by assumption))))
  (k_with "my storeName" => ((first | (with_reducible show wpAny _ _ (storeName _ _ (Value.int _ (Shared.toks _))) _ _ _) | (with_reducible show wpAny _ _ (storeName _ _ (Value.int _ (HAdd.hAdd _ _))) _ _ _)); refine store_gen ?_; intro t9 k9; (try dsimp only)))
  (k_with "my k_mem" => (((with_reducible refine isMem ?_); focus ((repeat (first | exact List.Mem.head _ | exact lm1 | exact lm2 | exact lm3 | refine' lmd ?_)); done))))
  (k_with "my k_ne" => (first | assumption | (refine ne_sym ?_; assumption)))
  (k_with "my call ref" => (k_here; (with_reducible show wpAny _ _ (PySem.call (Value.ref 826) _) _ _ _); k_dflt (refine' spec_number (by k_asm) (by k_asm) (by k_asm) (by k_asm) (by k_asm) (by first | exact rfl | assumption) (by k_asm) (by k_asm) (by first | assumption | omega) (by omega) (by omega) (by ktr_room) ?_; k_whole); intro t9 h9 tk9 F9 N9; (try dsimp only); (try k_sweep); (try k_fold)))
  (k_with "my eval Call" => ((with_reducible show wpAny _ _ (eval (Expr.Call (Expr.Name (PySem.Str.ofString "_law_number") _) _ [] _) _) _ _ _); refine Call_ ?_))
  (k_with "my call ref" => (k_here; (with_reducible show wpAny _ _ (PySem.call (Value.ref 833) _) _ _ _); k_dflt (first | (refine' spec_octets (first := 5) (many := 32) (by k_asm) (by k_asm) (by k_asm) (by k_asm) (by k_asm) (by first | exact rfl | assumption) (by k_asm) (by k_asm) (by first | assumption | omega) (by omega) (by omega) (by omega) (by ktr_room) ?_; k_whole) | (refine' spec_octets (first := 37) (many := 840) (by k_asm) (by k_asm) (by k_asm) (by k_asm) (by k_asm) (by first | exact rfl | assumption) (by k_asm) (by k_asm) (by first | assumption | omega) (by omega) (by omega) (by omega) (by ktr_room) ?_; k_whole)); intro t9 h9 tk9 F9 N9; (try dsimp only); (try k_sweep); (try k_fold)))
  (k_with "my call ref" => (k_here; (with_reducible show wpAny _ _ (PySem.call (Value.ref 847) _) _ _ _); k_dflt (refine' spec_cand (by k_asm) (by k_asm) (by k_asm) (by k_asm) (by k_asm) (by first | exact rfl | assumption) (by first | assumption | exact octs_in _ _ _) (by first | assumption | exact octs_len _ _ _) (by ktr_room) ?_; k_whole); intro x' h' tk' vs' n' F' N' n1 hI'; (try simp only [AllNe, and_true] at n1); (try dsimp only); (try k_sweep); (try k_fold)))
  trivial
theorem bin_len : ∀ z : Fin 128, 3 ≤ (baseText "0b" 2 ((z : Nat) : Int)).length ∧ (baseText "0b" 2 ((z : Nat) : Int)).length ≤ 9 := by decide +kernel
theorem bits_and : ∀ z : Fin 128, Builtin.bitAnd ((z : Nat) : Int) 127 = ((z : Nat) : Int) := by decide +kernel
theorem low_cases {P : Int → Prop} (h : ∀ z : Fin 128, P ((z : Nat) : Int)) {i : Int} (h0 : 0 ≤ i) (h1 : i < 128) : P i := by
  have e : i = ((i.toNat : Nat) : Int) := by omega
  rw [e]
  exact h ⟨i.toNat, by omega⟩
section
open PySem.NumText
theorem lay_wp_text2 : True := by
  (k_with "go wp_text2" =>
    obtain ⟨hp, g, d, tk, os⟩ := s
    repeat (any_goals (first
      | assumption
      | (with_reducible refine wpAny_ite_true (decide_eq_true hs) ?_)
      | (with_reducible refine wpAny_ite_true (decide_eq_true ha) ?_)
      | wp_step))
    all_goals (try rw [hr])
    all_goals (try dsimp only)
    repeat (any_goals (first
      | assumption
      | (with_reducible refine wpAny_ite_true (decide_eq_true hs) ?_)
      | (with_reducible refine wpAny_ite_true (decide_eq_true ha) ?_)
      | wp_step)))
  trivial
theorem wp_text2 {M : Model} {A : Around} {E : Value → Shared → Prop} {s : Shared} {Q : Value → Shared → Prop} {v : Value} {text : List Nat} {n : Int}
    (hs : (text.takeWhile (· != 0)).length ≤ 640) (hr : (int_private% "readNumeral") 0 2 (text.takeWhile (· != 0)) = (int_private% "Numeral.value") n)
    (ha : ((text.takeWhile (· != 0)).length == text.length) = true) (h : Q (.int n s.toks) { s with toks := s.toks + 1 }) :
    wpAny M A ((int_private% "intFromText") v text 2) Q E s := by
  refine unbox ?_
  simp +zetaDelta (disch := (k_dflt (k_extra "go wp_text2"))) only [↓box_true]
theorem gives_text2 {x : PySem.Str} {u v : Tok} {n : Int} (hl : (numSeenOf x).length ≤ 640) (hr : (int_private% "readNumeral") 0 2 (numSeenOf x) = (int_private% "Numeral.value") n) (ha : ((numSeenOf x).length == (numTextOf x).length) = true) :
    Gives (Builtin.«int.__new__» ⟨[.type "int", .str x u, .int 2 v], []⟩) (.int n) :=
  .of_wp fun M A E s Q h => by
    obtain ⟨hp, g, d, tk, os⟩ := s
    have f1 := F.conv_sub_int
    have f2 := F.madeHere_int
    have f3 := KIN.str_int
    have f4 := KIN.str_idx
    have f5 := KIN.str_trunc
    have f6 : typeOf (.str x u) = pure (.type "str") := rfl
    have hk := KIN.Hid.mk (And.intro hl (And.intro hr ha))
    clear hl hr ha
    repeat (any_goals (first
      | assumption
      | ((with_reducible show wpAny _ _ ((int_private% "intFromText") _ _ _) _ _ _); refine wp_text2 hk.out.1 hk.out.2.1 hk.out.2.2 ?_)
      | wp_step))
    all_goals exact ⟨_, rfl, h⟩
theorem typeCall_int_2 (a b : Value) : checkTypeCall "int" ⟨[a, b], []⟩ = pure () := by kernel_rfl
theorem newCall_int_2 (a b : Value) : checkBuiltinCall "int.__new__" ⟨[.type "int", a, b], []⟩ = pure () := by kernel_rfl

/-- the text that the program reads back: the seven binary signs of z, last first -/
def brText (z : Int) : PySem.Str := Txt.sliceBy (Txt.zfill (Txt.slice (baseText "0b" 2 z) (some 2) none) 7) none none (-1, 0)
def brRead (l : List Nat) : Bool :=
  decide (l.length ≤ 640) && decide ((sign (l.dropWhile blank)).1 = false) && decide ((based 2 (sign (l.dropWhile blank)).2).1 = 2) && decide ((based 2 (sign (l.dropWhile blank)).2).2.1 = false) &&
  (match digits? (based 2 (sign (l.dropWhile blank)).2).1 (((based 2 (sign (l.dropWhile blank)).2).2.2.reverse.dropWhile blank).reverse) with
   | some ds => decide (ds.foldl (fun acc d => acc * 2 + d) 0 < 128)
   | none => false)
theorem br_all : ∀ z : Fin 128, (brRead (numSeenOf (brText ((z : Nat) : Int))) && ((numSeenOf (brText ((z : Nat) : Int))).length == (numTextOf (brText ((z : Nat) : Int))).length) && decide ((Txt.zfill (Txt.slice (baseText "0b" 2 ((z : Nat) : Int)) (some 2) none) 7).length ≤ 100)) = true := by decide +kernel
theorem judge_two (ds : Array Nat) : judge 0 false 2 false (some ds) = (int_private% "Numeral.value") ((ds.foldl (fun acc d => acc * 2 + d) 0 : Nat) : Int) := rfl
def brNum (l : List Nat) : Nat := match digits? (based 2 (sign (l.dropWhile blank)).2).1 (((based 2 (sign (l.dropWhile blank)).2).2.2.reverse.dropWhile blank).reverse) with
  | some ds => ds.foldl (fun acc d => acc * 2 + d) 0
  | none => 0
def brVal (z : Int) : Int := ((brNum (numSeenOf (brText z)) : Nat) : Int)
theorem brRead_value {l : List Nat} (h : brRead l = true) : brNum l < 128 ∧ (int_private% "readNumeral") 0 2 l = (int_private% "Numeral.value") ((brNum l : Nat) : Int) := by
  unfold brRead at h
  rw [Bool.and_eq_true, Bool.and_eq_true, Bool.and_eq_true, Bool.and_eq_true] at h
  obtain ⟨⟨⟨⟨_, h1⟩, h2⟩, h3⟩, h4⟩ := h
  have e1 := of_decide_eq_true h1
  have e2 := of_decide_eq_true h2
  have e3 := of_decide_eq_true h3
  split at h4
  · rename_i ds hd
    have e4 : brNum l = ds.foldl (fun acc d => acc * 2 + d) 0 := by unfold brNum; rw [hd]
    rw [e4]
    refine ⟨of_decide_eq_true h4, ?_⟩
    refine (readNumeral_eq 0 2 l).trans ?_
    rw [hd, e1, e2, e3]
    exact judge_two ds
  · cases h4
theorem call_two {prog : Program} {w : World} {A : Around} {E : Value → Shared → Prop} {s : Shared} {z : Int} {t u uk : Tok} {Q : Value → Shared → Prop} (h0 : 0 ≤ z) (h1 : z < 128)
    (h : 0 ≤ brVal z → brVal z < 128 → Q (.int (brVal z) s.toks) { s with toks := s.toks + 1 }) :
    wpAny (model prog w) A (call (.type "int") [.str (Txt.sliceBy (Txt.zfill (Txt.slice (baseText "0b" 2 z) (some 2) none) 7) none none (-1, uk)) t, .int 2 u]) Q E s := by
  have q := low_cases (P := fun z => (brRead (numSeenOf (brText z)) && ((numSeenOf (brText z)).length == (numTextOf (brText z)).length) && decide ((Txt.zfill (Txt.slice (baseText "0b" 2 z) (some 2) none) 7).length ≤ 100)) = true) br_all h0 h1
  rw [Bool.and_eq_true, Bool.and_eq_true] at q
  obtain ⟨⟨q1, q2⟩, _⟩ := q
  obtain ⟨hn, hr⟩ := brRead_value q1
  have q3 : (numSeenOf (brText z)).length ≤ 640 := by
    unfold brRead at q1
    rw [Bool.and_eq_true, Bool.and_eq_true, Bool.and_eq_true, Bool.and_eq_true] at q1
    exact of_decide_eq_true q1.1.1.1.1
  show wpAny (model prog w) A (call (.type "int") [.str (brText z) t, .int 2 u]) Q E s
  exact callType_new F.called_int F.newNe_int (typeCall_int_2 _ _) (newCall_int_2 _ _) (fun obj => F.args_object_init_3 obj _ _) F.entry_int_new (gives_text2 q3 hr q2).meets
    (show (Made.int (brVal z)).post _ s from ⟨rfl, h (by unfold brVal; omega) (by unfold brVal; omega)⟩)
end
section
variable {prog : Program} {w : World} {A : Around} {E : Value → Shared → Prop} {s : Shared}
theorem call_bin {i c : Int} {t : Tok} {Q : Value → Shared → Prop} (h0 : 0 ≤ i) (h1 : i < 128) (hc : c = 127) (h : ∀ x, x = baseText "0b" 2 i → 3 ≤ x.length → x.length ≤ 9 → Q (.str x s.toks) { s with toks := s.toks + 1 }) :
    wpAny (model prog w) A (call (.builtin "bin") [.int (Builtin.bitAnd i c) t]) Q E s := by
  have hl := low_cases (P := fun i => 3 ≤ (baseText "0b" 2 i).length ∧ (baseText "0b" 2 i).length ≤ 9) bin_len h0 h1
  have hb := low_cases (P := fun i => Builtin.bitAnd i 127 = i) bits_and h0 h1
  rw [hc, hb]
  refine P.bin_of_int (h _ rfl hl.1 hl.2) ?_
  rw [sizeLine_eq]
  omega
end
section
variable {prog : Program} {w : World} {p : Program} {loose : List Str} {mean : ExcName → Option Value} {mg mb : Str → Option Value}
  {dp un : Nat} {gd : Option (List Code)} {cn : Str} {cs : Scope} {a : Addr} {ccd : Value} {cl : List (Str × Addr)} {outer : List Env} {A₀ : Around} {base h₀ : Heap} {L : Addr} {m : Str → Option Value} {news : List (Addr × Obj)} {s : Shared}
  {Q E : Value → Shared → Prop}
theorem lay_spec_br : True := by
  (k_with "go spec_br" =>
    refine wpAny_call ?_
    k_dflt ktr_enter
    k_steps
    refine call_bin h0 h1 (by decide) ?_
    intro x hx hx1 hx2
    (k_with "my subscriptTail Name Slice str ref" => refine Stop.at ?_)
    k_steps
    refine Stop.go ?_
    rename Fr _ _ _ _ => hF
    rename News _ _ _ _ => hN
    refine slice_strK_nn (s := ⟨_, _, _, _, _⟩) hF hN (by decide) ?_ (hsz := ?hsz)
    case hsz =>
      have q := low_cases (P := fun z => (brRead (numSeenOf (brText z)) && ((numSeenOf (brText z)).length == (numTextOf (brText z)).length) && decide ((Txt.zfill (Txt.slice (baseText "0b" 2 z) (some 2) none) 7).length ≤ 100)) = true) br_all h0 h1
      rw [Bool.and_eq_true] at q
      have q2 := of_decide_eq_true q.2
      rw [hx, sizeLine_eq]
      omega
    intro h4 t4 k4 F4 N4
    k_steps
    subst hx
    refine call_two h0 h1 ?_
    intro hn0 hn1
    k_unfold
    exact ⟨_, _, F4, fun hF2 hS => ret _ _ _ hF2 (N.keepsAll (stays_eq (by assumption) hS)) hn0 hn1⟩)
  trivial
theorem spec_br {i : Int} {tk tk2 : Tok}
    (B : Below A₀ base outer h₀) (F : Fr h₀ L s.heap m) (X : (hd.heap_1 w.params).In h₀) (N : News h₀ L s.heap news) (T : Top p loose mean mg mb h₀) (hk : cs.kind = .function)
    (h0 : 0 ≤ i) (h1 : i < 128) (hroom : dp + 2 < recursionLimit)
    (ret : ∀ t h' tk', Fr h₀ L h' m → News h₀ L h' news → 0 ≤ brVal i → brVal i < 128 → Q (.int (brVal i) t) { s with heap := h', toks := tk' }) :
    wpAny (model prog w) (ktrTop dp un gd cn cs L a ccd cl outer) (call (.ref 245) [.int i tk, .int 7 tk2]) Q E s := by
  refine unbox ?_
  simp +zetaDelta (disch := (k_dflt (k_extra "go spec_br"))) only [↓box_true]
end
theorem none_BR : True := by
  k_with_none
  trivial
theorem reg_BR : True := by
  (k_with "my k_in" => (first | with_reducible assumption | with_reducible exact Frag.In.keeps (by assumption) (Fr.keep (by assumption))))
  (k_with "my storeName" => ((first | (with_reducible show wpAny _ _ (storeName _ _ (Value.int _ (Shared.toks _))) _ _ _) | (with_reducible show wpAny _ _ (storeName _ _ (Value.int _ (HAdd.hAdd _ _))) _ _ _)); refine store_gen ?_; intro t9 k9; (try dsimp only)))
  (k_with "my k_mem" => (((with_reducible refine isMem ?_); focus ((repeat (first | exact List.Mem.head _ | exact lm1 | exact lm2 | exact lm3 | refine' lmd ?_)); done))))
  (k_with "my k_ne" => (first | assumption | (refine ne_sym ?_; assumption)))
  (k_with "my call ref" => (k_here; (with_reducible show wpAny _ _ (PySem.call (Value.ref 826) _) _ _ _); k_dflt (refine' spec_number (by k_asm) (by k_asm) (by k_asm) (by k_asm) (by k_asm) (by first | exact rfl | assumption) (by k_asm) (by k_asm) (by first | assumption | omega) (by omega) (by omega) (by ktr_room) ?_; k_whole); intro t9 h9 tk9 F9 N9; (try dsimp only); (try k_sweep); (try k_fold)))
  (k_with "my eval Call" => ((with_reducible show wpAny _ _ (eval (Expr.Call (Expr.Name (PySem.Str.ofString "_law_number") _) _ [] _) _) _ _ _); refine Call_ ?_))
  (k_with "my call ref" => (k_here; (with_reducible show wpAny _ _ (PySem.call (Value.ref 833) _) _ _ _); k_dflt (first | (refine' spec_octets (first := 5) (many := 32) (by k_asm) (by k_asm) (by k_asm) (by k_asm) (by k_asm) (by first | exact rfl | assumption) (by k_asm) (by k_asm) (by first | assumption | omega) (by omega) (by omega) (by omega) (by ktr_room) ?_; k_whole) | (refine' spec_octets (first := 37) (many := 840) (by k_asm) (by k_asm) (by k_asm) (by k_asm) (by k_asm) (by first | exact rfl | assumption) (by k_asm) (by k_asm) (by first | assumption | omega) (by omega) (by omega) (by omega) (by ktr_room) ?_; k_whole)); intro t9 h9 tk9 F9 N9; (try dsimp only); (try k_sweep); (try k_fold)))
  (k_with "my call ref" => (k_here; (with_reducible show wpAny _ _ (PySem.call (Value.ref 847) _) _ _ _); k_dflt (refine' spec_cand (by k_asm) (by k_asm) (by k_asm) (by k_asm) (by k_asm) (by first | exact rfl | assumption) (by first | assumption | exact octs_in _ _ _) (by first | assumption | exact octs_len _ _ _) (by ktr_room) ?_; k_whole); intro x' h' tk' vs' n' F' N' n1 hI'; (try simp only [AllNe, and_true] at n1); (try dsimp only); (try k_sweep); (try k_fold)))
  (k_with "my call ref" => (k_here; (with_reducible show wpAny _ _ (PySem.call (Value.ref 245) _) _ _ _); k_dflt (refine' spec_br (by k_asm) (by k_asm) (by k_asm) (by k_asm) (by k_asm) (by first | exact rfl | assumption) (by omega) (by omega) (by ktr_room) ?_; k_whole); intro t9 h9 tk9 F9 N9 hr9 hr8; (try dsimp only); (try k_sweep); (try k_fold)))
  trivial
theorem entry_pow3 : entryFor table "int.__pow__" = some Builtin.«int.__pow__» := by first | exact entryFor_of_fast (by kernel_rfl) | exact entryFor_of_tree (by kernel_rfl)
theorem entry_pow : entryFor table "pow" = some Builtin.«pow» := by first | exact entryFor_of_fast (by kernel_rfl) | exact entryFor_of_tree (by kernel_rfl)
theorem kind_pow : builtinKind "pow" = none := by decide +kernel
theorem plain_pow : plainId "pow" = true := by decide +kernel
theorem args_pow3 (a b c : Value) : argsOk "pow" ⟨[a, b, c], []⟩ := by unfold argsOk; kernel_rfl
theorem args_ipow3 (a b c : Value) : argsOk "int.__pow__" ⟨[a, b, c], []⟩ := by unfold argsOk; kernel_rfl
theorem bind_pow3 (a b c : Value) : Builtin.Builtins.bindParams "pow" ["base", "exp", "mod"] 2 ⟨[a, b, c], []⟩ = pure [some a, some b, some c] := by kernel_rfl
theorem look_pow : typeLookup (.type "int") "__pow__" = pure (some (.builtin "int.__pow__")) := by rw [typeLookup_type, builtinLookup_eq_fast]; kernel_rfl
theorem gives_pow3 {e : Int} {t u v : Tok} (h0 : 0 ≤ e) : Gives (Builtin.«int.__pow__» ⟨[.int 17 t, .int e u, .int 3329 v], []⟩) (.int ((Builtin.powMod 17 e.natAbs 3329 : Nat) : Int)) :=
  .of_wp fun M A E s Q h => by
    obtain ⟨hp, g, d, tk, os⟩ := s
    have hn : ¬ (e < 0) := by omega
    repeat (any_goals (first
      | assumption
      | (with_reducible refine wpAny_ite_false (decide_eq_false hn) ?_)
      | wp_step))
    all_goals exact ⟨_, rfl, h⟩
theorem gives_inv {t u v : Tok} : Gives (Builtin.«int.__pow__» ⟨[.int 128 t, .int (-1) u, .int 3329 v], []⟩) (.int 3303) :=
  .of_wp fun M A E s Q h => by
    obtain ⟨hp, g, d, tk, os⟩ := s
    repeat (any_goals (first
      | assumption
      | wp_step))
    all_goals exact ⟨_, rfl, h⟩
theorem lay_pow_tree : True := by
  (k_with "go pow_tree" =>
    refine call_function_entry kind_pow plain_pow entry_pow (args_pow3 _ _ _) ?_
    unfold Builtin.«pow»
    have f1 := bind_pow3 (.int b t) (.int e u) (.int m v)
    have f2 := look_pow
    have f4 := F.slot_int_pow.lookup
    have f5 := F.slot_int_pow.bind (.int b t)
    obtain ⟨hp, gg, d, tk, os⟩ := s
    have hT : (⟨hp, gg, d, tk, os⟩ : Shared).TypeIs (.int b t) "int" := rfl
    repeat (any_goals (first
      | assumption
      | ((with_reducible show wpAny _ _ (call (Value.builtin "int.__pow__") _) _ _ _); refine call_gives F.slot_int_pow rfl entry_pow3 (args_ipow3 _ _ _) g ?_; dsimp only [Made.post])
      | wp_step))
    all_goals exact ⟨_, rfl, h _ _⟩)
  trivial
theorem pow_tree {prog : Program} {w : World} {A : Around} {E : Value → Shared → Prop} {s : Shared} {b e m r : Int} {t u v : Tok} {Q : Value → Shared → Prop} (g : Gives (Builtin.«int.__pow__» ⟨[.int b t, .int e u, .int m v], []⟩) (.int r))
    (h : ∀ t' k, Q (.int r t') { s with toks := k }) : wpAny (model prog w) A (call (.builtin "pow") [.int b t, .int e u, .int m v]) Q E s := by
  refine unbox ?_
  simp +zetaDelta (disch := (k_dflt (k_extra "go pow_tree"))) only [↓box_true]
theorem reg_POW : True := by
  (k_with "my call builtin:pow" => (k_here; (with_reducible show wpAny _ _ (PySem.call (Value.builtin "pow") [_, _, _]) _ _ _); first | refine pow_tree gives_inv ?_ | refine pow_tree (gives_pow3 (by first | assumption | omega)) ?_; intro _ _))
  trivial
/-- the ring's fields, as its maker leaves them -/
abbrev ringEs (P : Params) (t1 t2 t3 t4 u1 u2 u4 : Tok) (z : Value) : List DictEntry :=
  [⟨PyData.keyHash P (Str.ofString "q"), .str (Str.ofString "q") t1, .int 3329 u1⟩, ⟨PyData.keyHash P (Str.ofString "n"), .str (Str.ofString "n") t2, .int 256 u2⟩,
   ⟨PyData.keyHash P (Str.ofString "ntt_zetas"), .str (Str.ofString "ntt_zetas") t3, z⟩, ⟨PyData.keyHash P (Str.ofString "ntt_f"), .str (Str.ofString "ntt_f") t4, .int 3303 u4⟩]
section
variable {prog : Program} {w : World} {p : Program} {loose : List Str} {mean : ExcName → Option Value} {mg mb : Str → Option Value}
  {dp un : Nat} {gd : Option (List Code)} {cn : Str} {nm : List (Str × NameKind)} {ig ic : Bool} {mo : List (Str × Const)} {a : Addr} {ccd : Value} {cl : List (Str × Addr)} {outer : List Env} {A₀ : Around} {base h₀ : Heap} {L : Addr} {m : Str → Option Value} {news : List (Addr × Obj)} {s : Shared}
  {Q E : Value → Shared → Prop}
theorem lay_spec_ring : True := by
  (k_with "go spec_ring" =>
    k_dflt (refine' call_cls F X N ?k4 ?k5 ?k6 ?_; (case k4 => k_is); (case k5 => k_is); (case k6 => k_is))
    intro x dx h2 F2 N2 l1 l2
    have hx := ne_of_ltAll2 l1 l2
    have hdx := ne_of_ltAll l1
    have N3 : News h₀ L h2 [(x, instObj 280 dx), (dx, dictOf [] 0)] := news_sub N2 (by intro q hq; simp only [List.mem_cons, List.not_mem_nil, or_false] at hq; rcases hq with rfl | rfl <;> simp)
    have N4 : News h₀ L h2 news := news_sub N2 (fun q hq => .tail _ (.tail _ hq))
    have off := off_two (ox := instObj 280 dx) (od := dictOf [] 0) l1 l2
    k_lt2 l2
    clear l1 N2
    k_dflt (refine' semi_cells (news := news) (s := { s with heap := h2 }) ?k1 ?k2 ?k3 N3 N4 off ?k5 ?kA ?kF ?kK ?k6 ?k7 ?k8 ?k9 ?kB ?kD ?_ ?c2 ?c3 ?c4; (case kA => exact rfl); (case kF => exact rfl); (case kK => exact rfl); (case k1 => k_asm); (case k2 => exact F2); (case k3 => k_asm); (case k5 => k_asm); (case k6 => k_is); (case k7 => k_is); (case k8 => ktr_room); (case k9 => exact BindsTo.of_eq rfl); (case kB => exact rfl); (case kD => decide +kernel); (case c2 => exact rfl); (case c3 => exact rfl); (case c4 => exact rfl))
    clear N N3 F F2 off
    intro g' L' h' tk' cells' FG' F' N' Y' B' X' T' l1 hgn
    k_lt l1
    k_cells Y'
    simp only [List.cons_append, List.nil_append] at N'
    (try dsimp only)
    (try k_lift B')
    (try k_fold)
    k_steps
    rename Fr h₀ L _ m => kF
    rename News h₀ L _ (_ :: _) => kN
    rename News h₀ L _ news => kA
    exact ret x dx _ _ _ _ _ _ _ _ _ _ kF (news_cons (a := [_, _]) (news_sub kN (all2 (by k_mem) (by k_mem))) kA) hx hdx l2)
  trivial
theorem spec_ring
    (B : Below A₀ base outer h₀) (F : Fr h₀ L s.heap m) (X : (hd.heap_1 w.params).In h₀) (N : News h₀ L s.heap news) (T : Top p loose mean mg mb h₀)
    (hroom : dp + 4 < recursionLimit)
    (ret : ∀ x dx z t1 t2 t3 t4 u1 u2 u4 h' tk', Fr h₀ L h' m → News h₀ L h' ((x, instObj 280 dx) :: (dx, dictOf (ringEs w.params t1 t2 t3 t4 u1 u2 u4 z) 4) :: news) → AllNe x news → AllNe dx news → dx < x → Q (.ref x) { s with heap := h', toks := tk' }) :
    wpAny (model prog w) (ktrTop dp un gd cn (fsc nm ig ic mo) L a ccd cl outer) (call (.ref 280) []) Q E s := by
  refine unbox ?_
  simp +zetaDelta (disch := (k_dflt (k_extra "go spec_ring"))) only [↓box_true]
end
theorem reg_RING : True := by
  (k_with "my call ref" => (k_here; (with_reducible show wpAny _ _ (PySem.call (Value.ref 280) _) _ _ _); k_dflt (refine' spec_ring (by k_asm) (by k_asm) (by k_asm) (by k_asm) (by k_asm) (by ktr_room) ?_; k_whole); intro x' d' z' t1 t2 t3 t4 u1 u2 u4 h' tk' F' N' n1 n2 l1; (try simp only [AllNe, and_true] at n1 n2); (try k_lt2 l1); (try dsimp only); (try k_sweep); (try k_fold)))
  trivial
/-- the module's fields -/
abbrev modEs (P : Params) (t1 : Tok) (r : Addr) : List DictEntry := [⟨PyData.keyHash P (Str.ofString "ring"), .str (Str.ofString "ring") t1, .ref r⟩]
section
variable {prog : Program} {w : World} {p : Program} {loose : List Str} {mean : ExcName → Option Value} {mg mb : Str → Option Value}
  {dp un : Nat} {gd : Option (List Code)} {cn : Str} {nm : List (Str × NameKind)} {ig ic : Bool} {mo : List (Str × Const)} {a : Addr} {ccd : Value} {cl : List (Str × Addr)} {outer : List Env} {A₀ : Around} {base h₀ : Heap} {L : Addr} {m : Str → Option Value} {news : List (Addr × Obj)} {s : Shared}
  {Q E : Value → Shared → Prop}
theorem lay_spec_module : True := by
  (k_with "go spec_module" =>
    k_dflt (refine' call_cls F X N ?k4 ?k5 ?k6 ?_; (case k4 => k_is); (case k5 => k_is); (case k6 => k_is))
    intro x dx h2 F2 N2 l1 l2
    have hx := ne_of_ltAll2 l1 l2
    have hdx := ne_of_ltAll l1
    have N3 : News h₀ L h2 [(x, instObj 671 dx), (dx, dictOf [] 0)] := news_sub N2 (by intro q hq; simp only [List.mem_cons, List.not_mem_nil, or_false] at hq; rcases hq with rfl | rfl <;> simp)
    have N4 : News h₀ L h2 news := news_sub N2 (fun q hq => .tail _ (.tail _ hq))
    have off := off_two (ox := instObj 671 dx) (od := dictOf [] 0) l1 l2
    k_lt2 l2
    clear l1 N2
    k_dflt (refine' semi_plain (news := news) (s := { s with heap := h2 }) ?k1 ?k2 ?k3 N3 N4 off ?k5 ?kA ?kF ?kK ?k6 ?k7 ?k8 ?k9 ?kB ?_ ?c2 ?c3 ?c4 ?c5; (case kA => exact rfl); (case kF => exact rfl); (case kK => exact rfl); (case k1 => k_asm); (case k2 => exact F2); (case k3 => k_asm); (case k5 => k_asm); (case k6 => k_is); (case k7 => k_is); (case k8 => ktr_room); (case k9 => exact BindsTo.of_eq rfl); (case kB => exact locs rfl); (case c2 => exact rfl); (case c3 => exact rfl); (case c4 => exact rfl); (case c5 => decide))
    clear N N3 F F2 off
    intro g' L' h' FG' F' N' B' X' T' l1 hgn
    (try dsimp only)
    (try k_lift B')
    (try k_fold)
    k_steps
    rename News g' L' _ _ => kM
    rename News h₀ L _ (_ :: _) => kN
    rename News h₀ L _ news => kA
    rename Fr h₀ L _ m => kF
    exact ret x dx _ _ _ _ _ _ _ _ _ _ _ _ _ kF
      (news_cons (a := [_, _, _, _]) (news_sub kN (all4 (by k_mem) (by k_mem) (by k_mem) (by k_mem))) kA)
      hx hdx (ne_of_new hgn kM (by k_mem)) (ne_of_new hgn kM (by k_mem)) l2 (by assumption) (by assumption) (by assumption))
  trivial
theorem spec_module
    (B : Below A₀ base outer h₀) (F : Fr h₀ L s.heap m) (X : (hd.heap_1 w.params).In h₀) (N : News h₀ L s.heap news) (T : Top p loose mean mg mb h₀)
    (hroom : dp + 7 < recursionLimit)
    (ret : ∀ y dy x dx z t0 t1 t2 t3 t4 u1 u2 u4 h' tk', Fr h₀ L h' m → News h₀ L h' ((y, instObj 671 dy) :: (dy, dictOf (modEs w.params t0 x) 1) :: (x, instObj 280 dx) :: (dx, dictOf (ringEs w.params t1 t2 t3 t4 u1 u2 u4 z) 4) :: news) →
      AllNe y news → AllNe dy news → AllNe x news → AllNe dx news → dy < y → (@Ne Nat y x ∧ @Ne Nat dy x) → (@Ne Nat y dx ∧ @Ne Nat dy dx) → dx < x → Q (.ref y) { s with heap := h', toks := tk' }) :
    wpAny (model prog w) (ktrTop dp un gd cn (fsc nm ig ic mo) L a ccd cl outer) (call (.ref 671) []) Q E s := by
  refine unbox ?_
  simp +zetaDelta (disch := (k_dflt (k_extra "go spec_module"))) only [↓box_true]
end
theorem reg_MODULE : True := by
  (k_with "my call ref" => (k_here; (with_reducible show wpAny _ _ (PySem.call (Value.ref 671) _) _ _ _); k_dflt (refine' spec_module (by k_asm) (by k_asm) (by k_asm) (by k_asm) (by k_asm) (by ktr_room) ?_; k_whole); intro y' e' x' d' z' t0 t1 t2 t3 t4 u1 u2 u4 h' tk' F' N' n1 n2 n3 n4 l1 m1 m2 l2; (obtain ⟨m11, m12⟩ := m1); (obtain ⟨m21, m22⟩ := m2); (try k_lt2 l1); (try k_lt2 l2); (try dsimp only); (try k_sweep); (try k_fold)))
  trivial
theorem allNe_ne {d a : Addr} {o : Obj} : ∀ {l : List (Addr × Obj)}, AllNe d l → (a, o) ∈ l → @Ne Nat a d
  | _ :: _, x, h => by
    rcases List.mem_cons.mp h with e | h
    · subst e; exact x.1
    · exact allNe_ne x.2 h
theorem lt_ne {d a : Addr} {o : Obj} {l : List (Addr × Obj)} (x : ∀ q ∈ l, q.1 < d) (h : (a, o) ∈ l) : @Ne Nat a d := Nat.ne_of_lt (x _ h)
theorem off1_ne {d a : Addr} {o : Obj} : ∀ {l : List (Addr × Obj)}, LCg.Off1 d l → (a, o) ∈ l → @Ne Nat a d
  | _ :: _, x, h => by
    rcases List.mem_cons.mp h with e | h
    · subst e; exact x.1
    · exact off1_ne x.2 h
theorem off3_1 {I C D a : Addr} {o : Obj} {l : List (Addr × Obj)} (x : LCg.Off3 I C D l) (h : (a, o) ∈ l) : @Ne Nat a I := (x.mem _ h).1
theorem off3_2 {I C D a : Addr} {o : Obj} {l : List (Addr × Obj)} (x : LCg.Off3 I C D l) (h : (a, o) ∈ l) : @Ne Nat a C := (x.mem _ h).2.1
theorem off3_3 {I C D a : Addr} {o : Obj} {l : List (Addr × Obj)} (x : LCg.Off3 I C D l) (h : (a, o) ∈ l) : @Ne Nat a D := (x.mem _ h).2.2
def Ne3 (I C D : Nat) : Prop := I ≠ C ∧ I ≠ D ∧ C ≠ D
theorem Ne3.a {I C D : Nat} (h : Ne3 I C D) : I ≠ C := h.1
theorem Ne3.b {I C D : Nat} (h : Ne3 I C D) : I ≠ D := h.2.1
theorem Ne3.c {I C D : Nat} (h : Ne3 I C D) : C ≠ D := h.2.2
theorem lt_all {L : Nat} {own : List (Addr × Obj)} (h : ∀ q ∈ own, @LT.lt Nat _ q.1 L) : ∀ q ∈ own, @LT.lt Nat _ q.1 (L + 1) := fun q hq => Nat.lt_succ_of_lt (h q hq)
theorem lt_ne2 {d e a : Addr} {o : Obj} {l : List (Addr × Obj)} (h2 : @LT.lt Nat _ d e) (x : ∀ q ∈ l, q.1 < d) (h : (a, o) ∈ l) : @Ne Nat a e := Nat.ne_of_lt (Nat.lt_trans (x _ h) h2)
local macro_rules | `(tactic| k_lt $_) => `(tactic| skip)
theorem reg_NEQ : True := by
  (k_with "my k_ne" => (((try dsimp only); first | with_reducible assumption | (refine ne_sym ?_; with_reducible assumption) | with_reducible exact lt_ne (by assumption) (by (repeat (first | exact mem0 | exact mem1 | exact mem2 | exact mem3 | refine memd ?_)); (first | all_goals fail | fail)) | with_reducible exact ne_sym (lt_ne (by assumption) (by (repeat (first | exact mem0 | exact mem1 | exact mem2 | exact mem3 | refine memd ?_)); (first | all_goals fail | fail))) | with_reducible exact allNe_ne (by assumption) (by (repeat (first | exact mem0 | exact mem1 | exact mem2 | exact mem3 | refine memd ?_)); (first | all_goals fail | fail)) | with_reducible exact ne_sym (allNe_ne (by assumption) (by (repeat (first | exact mem0 | exact mem1 | exact mem2 | exact mem3 | refine memd ?_)); (first | all_goals fail | fail))) | with_reducible exact off1_ne (by assumption) (by (repeat (first | exact mem0 | exact mem1 | exact mem2 | exact mem3 | refine memd ?_)); (first | all_goals fail | fail)) | with_reducible exact ne_sym (off1_ne (by assumption) (by (repeat (first | exact mem0 | exact mem1 | exact mem2 | exact mem3 | refine memd ?_)); (first | all_goals fail | fail))) | with_reducible exact off3_1 (by assumption) (by (repeat (first | exact mem0 | exact mem1 | exact mem2 | exact mem3 | refine memd ?_)); (first | all_goals fail | fail)) | with_reducible exact ne_sym (off3_1 (by assumption) (by (repeat (first | exact mem0 | exact mem1 | exact mem2 | exact mem3 | refine memd ?_)); (first | all_goals fail | fail))) | with_reducible exact off3_2 (by assumption) (by (repeat (first | exact mem0 | exact mem1 | exact mem2 | exact mem3 | refine memd ?_)); (first | all_goals fail | fail)) | with_reducible exact ne_sym (off3_2 (by assumption) (by (repeat (first | exact mem0 | exact mem1 | exact mem2 | exact mem3 | refine memd ?_)); (first | all_goals fail | fail))) | with_reducible exact off3_3 (by assumption) (by (repeat (first | exact mem0 | exact mem1 | exact mem2 | exact mem3 | refine memd ?_)); (first | all_goals fail | fail)) | with_reducible exact ne_sym (off3_3 (by assumption) (by (repeat (first | exact mem0 | exact mem1 | exact mem2 | exact mem3 | refine memd ?_)); (first | all_goals fail | fail))) | with_reducible exact Ne3.a (by assumption) | with_reducible exact ne_sym (Ne3.a (by assumption)) | with_reducible exact Ne3.b (by assumption) | with_reducible exact ne_sym (Ne3.b (by assumption)) | with_reducible exact Ne3.c (by assumption) | with_reducible exact ne_sym (Ne3.c (by assumption)) | with_reducible exact Nat.ne_of_lt (by assumption) | with_reducible exact ne_sym (Nat.ne_of_lt (by assumption)) | with_reducible exact lt_ne2 (by assumption) (by assumption) (by (repeat (first | exact mem0 | exact mem1 | exact mem2 | exact mem3 | refine memd ?_)); (first | all_goals fail | fail)) | with_reducible exact ne_sym (lt_ne2 (by assumption) (by assumption) (by (repeat (first | exact mem0 | exact mem1 | exact mem2 | exact mem3 | refine memd ?_)); (first | all_goals fail | fail))) | (refine neN ?_; omega))))
  trivial
/-- the octet at a place, as the program reads it -/
def b8 (l : List Int) (i : Int) : Int := l.getD i.toNat 0
def c1 (l : List Int) (i : Int) : Int := b8 l i + 256 * Int.fmod (b8 l (i + 1)) 16
def c2 (l : List Int) (i : Int) : Int := Int.fdiv (b8 l (i + 1)) 16 + 16 * b8 l (i + 2)
/-- the candidates of the first t triples -/
def pairs (l : List Int) (t : Nat) : List Int := (List.range t).flatMap fun (u : Nat) => [c1 l (3 * (u : Int)), c2 l (3 * (u : Int))]
def acc (l : List Int) (t : Nat) : List Int := (pairs l t).filter (fun v => decide (v < 3329))
/-- what the sampler holds when the accepted ones so far are a -/
def St (a : List Int) (j : Int) (cs : List Int) : Prop := j = ((min a.length 256 : Nat) : Int) ∧ cs = (a ++ List.replicate 256 0).take 256
def SInv (l : List Int) (i j : Int) (cs : List Int) : Prop := ∃ t : Nat, i = 3 * (t : Int) ∧ St (acc l t) j cs

theorem pairs_succ (l : List Int) (t : Nat) : pairs l (t + 1) = pairs l t ++ [c1 l (3 * (t : Int)), c2 l (3 * (t : Int))] := by
  simp [pairs, List.range_succ, List.flatMap_append]
theorem acc_succ (l : List Int) (t : Nat) : acc l (t + 1) = acc l t ++ (if c1 l (3 * (t : Int)) < 3329 then [c1 l (3 * (t : Int))] else []) ++ (if c2 l (3 * (t : Int)) < 3329 then [c2 l (3 * (t : Int))] else []) := by
  unfold acc
  rw [pairs_succ, List.filter_append, List.append_assoc]
  congr 1
  by_cases h1 : c1 l (3 * (t : Int)) < 3329 <;> by_cases h2 : c2 l (3 * (t : Int)) < 3329 <;> simp [h1, h2]
theorem acc_mono (l : List Int) {t u : Nat} (h : t ≤ u) : ∃ r, acc l u = acc l t ++ r := by
  induction u with
  | zero => exact ⟨[], by rw [Nat.le_zero.mp h, List.append_nil]⟩
  | succ u ih =>
    by_cases e : t = u + 1
    · exact ⟨[], by rw [e, List.append_nil]⟩
    · obtain ⟨r, hr⟩ := ih (by omega)
      exact ⟨_, by rw [acc_succ, hr, List.append_assoc, List.append_assoc]⟩
theorem st_start : St [] 0 (List.replicate 256 0) := ⟨rfl, by rw [List.nil_append, List.take_of_length_le (by rw [List.length_replicate]; exact Nat.le_refl _)]⟩
theorem st_len {a cs : List Int} {j : Int} (h : St a j cs) : cs.length = 256 := by rw [h.2, List.length_take, List.length_append, List.length_replicate]; omega
theorem st_push {a cs : List Int} {j v : Int} (h : St a j cs) (hj : j < 256) : St (a ++ [v]) (j + 1) (cs.set j.toNat v) := by
  obtain ⟨h1, h2⟩ := h
  have ha : a.length < 256 := by omega
  have e : j.toNat = a.length := by omega
  refine ⟨by rw [List.length_append, List.length_singleton]; omega, ?_⟩
  rw [e, h2]
  apply List.ext_getElem?
  intro n
  rw [List.getElem?_set]
  by_cases hn : n < 256
  · rw [List.getElem?_take_of_lt hn, List.length_take, List.length_append, List.length_replicate]
    by_cases e2 : a.length = n
    · subst e2
      rw [if_pos rfl, if_pos (by omega), List.getElem?_take_of_lt hn, List.append_assoc, List.getElem?_append_right (Nat.le_refl _), Nat.sub_self]
      rfl
    · rw [if_neg e2, List.getElem?_take_of_lt hn]
      by_cases hlt : n < a.length
      · rw [List.getElem?_append_left hlt, List.append_assoc, List.getElem?_append_left hlt]
      · rw [List.getElem?_append_right (by omega), List.getElem?_append_right (by rw [List.length_append, List.length_singleton]; omega), List.length_append, List.length_singleton,
          List.getElem?_replicate, List.getElem?_replicate, if_pos (by omega), if_pos (by omega)]
  · rw [List.getElem?_eq_none (by rw [List.length_take]; omega), List.getElem?_eq_none (l := List.take 256 ((a ++ [v]) ++ _)) (by rw [List.length_take]; omega), List.length_take]
    simp only [List.length_append, List.length_replicate]
    rw [if_neg (by omega)]
theorem st_full {a cs r : List Int} {j : Int} (h : St a j cs) (hj : ¬ j < 256) : St (a ++ r) j cs := by
  obtain ⟨h1, h2⟩ := h
  have ha : 256 ≤ a.length := by omega
  refine ⟨by rw [List.length_append]; omega, ?_⟩
  rw [h2, List.append_assoc, List.take_append_of_le_length ha, List.take_append_of_le_length ha]
theorem sinv_start (l : List Int) : SInv l 0 0 (List.replicate 256 0) := ⟨0, rfl, st_start⟩
theorem sinv_room {l : List Int} {i j : Int} {cs : List Int} (h : SInv l i j cs) (hc : 256 ≤ (acc l 280).length) (hi : i ≤ 840) : 256 ≤ j ∨ i ≤ 837 := by
  obtain ⟨t, rfl, h⟩ := h
  by_cases e : t = 280
  · subst e
    exact .inl (by rw [h.1]; omega)
  · exact .inr (by omega)
theorem sinv_end {l : List Int} {i j : Int} {cs : List Int} (h : SInv l i j cs) (hi : i ≤ 840) (hj : ¬ j < 256) : cs = (acc l 280).take 256 := by
  obtain ⟨t, rfl, h⟩ := h
  obtain ⟨r, hr⟩ := acc_mono l (show t ≤ 280 by omega)
  obtain ⟨h1, h2⟩ := h
  have ha : 256 ≤ (acc l t).length := by omega
  rw [hr, h2, List.take_append_of_le_length ha, List.take_append_of_le_length ha]
/-- the four ways of a turn -/
theorem turn_tt {l : List Int} {i j : Int} {cs : List Int} (h : SInv l i j cs) (hj : j < 256) (h1 : c1 l i < 3329) (h2 : c2 l i < 3329) (hj2 : j + 1 < 256) : SInv l (i + 3) (j + 1 + 1) ((cs.set j.toNat (c1 l i)).set (j + 1).toNat (c2 l i)) := by
  obtain ⟨t, rfl, h⟩ := h
  refine ⟨t + 1, by omega, ?_⟩
  rw [acc_succ, if_pos h1, if_pos h2]
  exact st_push (st_push h hj) hj2
theorem turn_tf {l : List Int} {i j : Int} {cs : List Int} (h : SInv l i j cs) (hj : j < 256) (h1 : c1 l i < 3329) (h2 : ¬ (c2 l i < 3329 ∧ j + 1 < 256)) : SInv l (i + 3) (j + 1) (cs.set j.toNat (c1 l i)) := by
  obtain ⟨t, rfl, h⟩ := h
  refine ⟨t + 1, by omega, ?_⟩
  rw [acc_succ, if_pos h1]
  by_cases e : c2 l (3 * (t : Int)) < 3329
  · rw [if_pos e]
    exact st_full (st_push h hj) (fun h3 => h2 ⟨e, h3⟩)
  · rw [if_neg e, List.append_nil]
    exact st_push h hj
theorem turn_ft {l : List Int} {i j : Int} {cs : List Int} (h : SInv l i j cs) (hj : j < 256) (h1 : ¬ c1 l i < 3329) (h2 : c2 l i < 3329) : SInv l (i + 3) (j + 1) (cs.set j.toNat (c2 l i)) := by
  obtain ⟨t, rfl, h⟩ := h
  refine ⟨t + 1, by omega, ?_⟩
  rw [acc_succ, if_neg h1, if_pos h2, List.append_nil]
  exact st_push h hj
theorem turn_ff {l : List Int} {i j : Int} {cs : List Int} (h : SInv l i j cs) (h1 : ¬ c1 l i < 3329) (h2 : ¬ c2 l i < 3329) : SInv l (i + 3) j cs := by
  obtain ⟨t, rfl, h⟩ := h
  refine ⟨t + 1, by omega, ?_⟩
  rw [acc_succ, if_neg h1, if_neg h2, List.append_nil, List.append_nil]
  exact h

theorem w_start (l : List Int) : (0 : Int) ≤ 0 ∧ (0 : Int) ≤ 840 ∧ (0 : Int) ≤ 0 ∧ (0 : Int) ≤ 256 ∧ (List.replicate 256 (0 : Int)).length = 256 ∧ ((256 : Int) ≤ 0 ∨ (0 : Int) ≤ 837) ∧ SInv l 0 0 (List.replicate 256 0) :=
  ⟨by omega, by omega, by omega, by omega, List.length_replicate, .inr (by omega), sinv_start l⟩
theorem w_next {l : List Int} {i j : Int} {cs : List Int} (h0 : 0 ≤ i) (h1 : i ≤ 837) (hc : 256 ≤ (acc l 280).length) (S : SInv l (i + 3) j cs) :
    0 ≤ i + 3 ∧ i + 3 ≤ 840 ∧ 0 ≤ j ∧ j ≤ 256 ∧ cs.length = 256 ∧ (256 ≤ j ∨ i + 3 ≤ 837) ∧ SInv l (i + 3) j cs := by
  have hr := sinv_room S hc (by omega)
  have S' := S
  obtain ⟨t, _, h⟩ := S'
  have hj := h.1
  exact ⟨by omega, by omega, by omega, by omega, st_len h, hr, S⟩
section
variable {M : Model} {A : Around} {E : Value → Shared → Prop} {s : Shared} {K : Frag} {env : Env} {pos : Pos} {x C : Addr} {ox : Obj} {od : Option Obj} {first : List Value} {Q : Value → Shared → Prop}
/-- an object called with keywords -/
theorem call_inst_kw {e : Expr} {rest : List Expr} {kws : List Keyword} (_X : K.In s.heap) (_I : InstAt s.heap x ox C od) (hd : ox.data = .plain) (hall : (backToKw pos (keywordEach kws env)).all (·.1.isSome) = true)
    (h : wpAny M A (spliced (backTo pos (starEach (e :: rest) env))) (fun vs s₁ => wpAny M A (evalAll ((backToKw pos (keywordEach kws env)).map (·.2)))
      (fun ks s₂ => kco_P K x C ox od s₂.heap ∧ wpAny M A (call (.ref x) (first ++ vs) (((backToKw pos (keywordEach kws env)).filterMap (·.1)).zip ks)) Q E s₂) E s₁) E s)
    (hplain : ((backTo pos (starEach (e :: rest) env)).any (·.1) || (backToKw pos (keywordEach kws env)).any (·.1.isNone)) = false := by rfl) (he : starEach (e :: rest) env = (false, eval e env) :: starEach rest env := by rfl) :
    wpAny M A (callWith pos (.ref x) first (backTo pos (starEach (e :: rest) env)) (backToKw pos (keywordEach kws env))) Q E s :=
  kco_callWith_of hplain hd (evalArgs_kw2 hall h he)
end
theorem reg_INST : True := by
  (k_with "my callWith ref" => (k_here; kco_any "__call__"; kco_here; k_dflt (refine' call_inst_kw (by k_in) (by k_inst) (by rfl) (by exact rfl) ?_; k_whole)))
  trivial
/-- a polynomial's fields -/
abbrev polyEs (P : Params) (t1 t2 : Tok) (R c : Addr) : List DictEntry := [⟨PyData.keyHash P (Str.ofString "parent"), .str (Str.ofString "parent") t1, .ref R⟩, ⟨PyData.keyHash P (Str.ofString "coeffs"), .str (Str.ofString "coeffs") t2, .ref c⟩]
section
variable {prog : Program} {w : World} {p : Program} {loose : List Str} {mean : ExcName → Option Value} {mg mb : Str → Option Value}
  {dp un : Nat} {gd : Option (List Code)} {cn : Str} {nm : List (Str × NameKind)} {ig ic : Bool} {mo : List (Str × Const)} {a : Addr} {ccd : Value} {cl : List (Str × Addr)} {outer : List Env} {A₀ : Around} {base h₀ : Heap} {L : Addr} {m : Str → Option Value} {news : List (Addr × Obj)} {s : Shared}
  {Q E : Value → Shared → Prop}
theorem lay_spec_sample : True := by
  (k_with "go spec_sample" =>
    (k_with "exec While Compare cons nil" => refine Stop.at ?_)
    (k_with "state" => (first
      | exact w_start l
      | exact w_next (by assumption) (by omega) hcount (turn_tt (by assumption) (by omega) (by assumption) (by assumption) (by omega))
      | exact w_next (by assumption) (by omega) hcount (turn_tf (by assumption) (by omega) (by assumption) (fun h => absurd h.1 (by assumption)))
      | exact w_next (by assumption) (by omega) hcount (turn_tf (by assumption) (by omega) (by assumption) (fun h => absurd h.2 (by assumption)))
      | exact w_next (by assumption) (by omega) hcount (turn_ft (by assumption) (by omega) (by assumption) (by assumption))
      | exact w_next (by assumption) (by omega) hcount (turn_ff (by assumption) (by assumption) (by assumption))))
    refine wpAny_call ?_
    k_dflt (refine' semi_reads (own := [(R, instObj 280 dR), (dR, dictOf (ringEs w.params t1 t2 t3 t4 u1 u2 u4 z) 4)]) ?k1 ?k2 ?k3 N (all2 (hR) (hdR)) ?k5 ?kA ?kF ?kK ?k6 ?k7 ?k8 ?k9 ?kB ?_ ?c2 ?c3 ?c4 ?c5; (case kA => exact rfl); (case kF => exact rfl); (case kK => exact rfl); (case k1 => k_asm); (case k2 => k_asm); (case k3 => k_asm); (case k5 => k_asm); (case k6 => k_is); (case k7 => k_is); (case k8 => ktr_room); (case k9 => exact BindsTo.of_eq rfl); (case kB => exact locs rfl); (case c2 => exact rfl); (case c3 => exact rfl); (case c4 => exact rfl); (case c5 => decide))
    clear N
    intro g' L' h' FG' F' N' B' X' T' l1 hgn
    (try dsimp only)
    (try k_lift B')
    (try k_fold)
    k_steps
    refine Stop.go ?_
    rename IntsAre _ _ => hI8
    have e0 : List.map (fun (_ : Int) => (0 : Int)) (rangeKs 0 (256 - 0 : Int).toNat) = List.replicate 256 0 := by rw [List.map_const', rangeKs_length]; rfl
    rw [e0] at hI8
    k_while (fun _ i j cs => 0 ≤ i ∧ i ≤ 840 ∧ 0 ≤ j ∧ j ≤ 256 ∧ cs.length = 256 ∧ (256 ≤ j ∨ i ≤ 837) ∧ SInv l i j cs) (fun _ i j cs => (840 - i).toNat) "i" "j" "coefficients"
    k_steps
    rename News h₀ L _ [_, _] → News h₀ L _ news => kA
    rename News h₀ L _ _ => kN
    rename News g' _ _ [_, _, _, _, _, _] => kM
    rename Fr h₀ L _ m => kF
    rename SInv l _ _ _ => hS
    rename IntsAre _ _ => hI
    have e := sinv_end hS (by omega) (by assumption)
    rw [e] at hI
    exact ret _ _ _ _ _ _ _ _ _ kF
      (news_cons (a := [_, _, _]) (news_sub kN (all3 (by k_mem) (by k_mem) (by k_mem))) (kA (news_sub kN (all2 (by k_mem) (by k_mem))))) hI
      (ne_reads hgn kM (by k_mem) ⟨by k_ne, by k_ne, trivial⟩) (ne_reads hgn kM (by k_mem) ⟨by k_ne, by k_ne, trivial⟩) (ne_reads hgn kM (by k_mem) ⟨by k_ne, by k_ne, trivial⟩) ⟨by first | assumption | exact (by assumption : ∀ q ∈ _, q.1 < _) _ (by k_mem) | omega, by first | assumption | exact (by assumption : ∀ q ∈ _, q.1 < _) (_, _) (by k_mem) | omega⟩)
  trivial
theorem spec_sample {R dR : Addr} {t1 t2 t3 t4 u1 u2 u4 tb : Tok} {z : Value} {l : List Int}
    (B : Below A₀ base outer h₀) (F : Fr h₀ L s.heap m) (X : (hd.heap_1 w.params).In h₀) (N : News h₀ L s.heap news) (T : Top p loose mean mg mb h₀)
    (hR : (R, instObj 280 dR) ∈ news) (hdR : (dR, dictOf (ringEs w.params t1 t2 t3 t4 u1 u2 u4 z) 4) ∈ news) (hne : @LT.lt Nat _ dR R)
    (hl : ∀ n ∈ l, 0 ≤ n ∧ n < 256) (hlen : l.length = 840)
    (hcount : 256 ≤ (acc l 280).length) (hroom : dp + 9 < recursionLimit)
    (ret : ∀ x dx D ta tc vs n h' tk', Fr h₀ L h' m → News h₀ L h' ((x, instObj 424 dx) :: (dx, dictOf (polyEs w.params ta tc R D) 2) :: (D, PySem.W.listOf vs.toArray n) :: news) → IntsAre vs ((acc l 280).take 256) →
      AllNe x news → AllNe dx news → AllNe D news → (@LT.lt Nat _ dx x ∧ @LT.lt Nat _ D dx) → Q (.ref x) { s with heap := h', toks := tk' }) :
    wpAny (model prog w) (ktrTop dp un gd cn (fsc nm ig ic mo) L a ccd cl outer) (call (.ref 253) [.ref R, .bytes (bytesOf l).toArray tb]) Q E s := by
  refine unbox ?_
  simp +zetaDelta (disch := (k_dflt (k_extra "go spec_sample"))) only [↓box_true]
end
theorem none_SAMPLE : True := by
  k_with_none
  trivial
theorem reg_SAMPLE : True := by
  (k_with "my k_in" => (first | with_reducible assumption | with_reducible exact Frag.In.keeps (by assumption) (Fr.keep (by assumption))))
  (k_with "my storeName" => ((first | (with_reducible show wpAny _ _ (storeName _ _ (Value.int _ (Shared.toks _))) _ _ _) | (with_reducible show wpAny _ _ (storeName _ _ (Value.int _ (HAdd.hAdd _ _))) _ _ _)); refine store_gen ?_; intro t9 k9; (try dsimp only)))
  (k_with "my k_mem" => (((with_reducible refine isMem ?_); focus ((repeat (first | exact List.Mem.head _ | exact lm1 | exact lm2 | exact lm3 | refine' lmd ?_)); done))))
  (k_with "my k_ne" => (first | assumption | (refine ne_sym ?_; assumption)))
  (k_with "my call ref" => (k_here; (with_reducible show wpAny _ _ (PySem.call (Value.ref 826) _) _ _ _); k_dflt (refine' spec_number (by k_asm) (by k_asm) (by k_asm) (by k_asm) (by k_asm) (by first | exact rfl | assumption) (by k_asm) (by k_asm) (by first | assumption | omega) (by omega) (by omega) (by ktr_room) ?_; k_whole); intro t9 h9 tk9 F9 N9; (try dsimp only); (try k_sweep); (try k_fold)))
  (k_with "my eval Call" => ((with_reducible show wpAny _ _ (eval (Expr.Call (Expr.Name (PySem.Str.ofString "_law_number") _) _ [] _) _) _ _ _); refine Call_ ?_))
  (k_with "my call ref" => (k_here; (with_reducible show wpAny _ _ (PySem.call (Value.ref 833) _) _ _ _); k_dflt (first | (refine' spec_octets (first := 5) (many := 32) (by k_asm) (by k_asm) (by k_asm) (by k_asm) (by k_asm) (by first | exact rfl | assumption) (by k_asm) (by k_asm) (by first | assumption | omega) (by omega) (by omega) (by omega) (by ktr_room) ?_; k_whole) | (refine' spec_octets (first := 37) (many := 840) (by k_asm) (by k_asm) (by k_asm) (by k_asm) (by k_asm) (by first | exact rfl | assumption) (by k_asm) (by k_asm) (by first | assumption | omega) (by omega) (by omega) (by omega) (by ktr_room) ?_; k_whole)); intro t9 h9 tk9 F9 N9; (try dsimp only); (try k_sweep); (try k_fold)))
  (k_with "my call ref" => (k_here; (with_reducible show wpAny _ _ (PySem.call (Value.ref 847) _) _ _ _); k_dflt (refine' spec_cand (by k_asm) (by k_asm) (by k_asm) (by k_asm) (by k_asm) (by first | exact rfl | assumption) (by first | assumption | exact octs_in _ _ _) (by first | assumption | exact octs_len _ _ _) (by ktr_room) ?_; k_whole); intro x' h' tk' vs' n' F' N' n1 hI'; (try simp only [AllNe, and_true] at n1); (try dsimp only); (try k_sweep); (try k_fold)))
  (k_with "my call ref" => (k_here; (with_reducible show wpAny _ _ (PySem.call (Value.ref 245) _) _ _ _); k_dflt (refine' spec_br (by k_asm) (by k_asm) (by k_asm) (by k_asm) (by k_asm) (by first | exact rfl | assumption) (by omega) (by omega) (by ktr_room) ?_; k_whole); intro t9 h9 tk9 F9 N9 hr9 hr8; (try dsimp only); (try k_sweep); (try k_fold)))
  (k_with "my call builtin:pow" => (k_here; (with_reducible show wpAny _ _ (PySem.call (Value.builtin "pow") [_, _, _]) _ _ _); first | refine pow_tree gives_inv ?_ | refine pow_tree (gives_pow3 (by first | assumption | omega)) ?_; intro _ _))
  (k_with "my call ref" => (k_here; (with_reducible show wpAny _ _ (PySem.call (Value.ref 280) _) _ _ _); k_dflt (refine' spec_ring (by k_asm) (by k_asm) (by k_asm) (by k_asm) (by k_asm) (by ktr_room) ?_; k_whole); intro x' d' z' t1 t2 t3 t4 u1 u2 u4 h' tk' F' N' n1 n2 l1; (try simp only [AllNe, and_true] at n1 n2); (try k_lt2 l1); (try dsimp only); (try k_sweep); (try k_fold)))
  (k_with "my call ref" => (k_here; (with_reducible show wpAny _ _ (PySem.call (Value.ref 671) _) _ _ _); k_dflt (refine' spec_module (by k_asm) (by k_asm) (by k_asm) (by k_asm) (by k_asm) (by ktr_room) ?_; k_whole); intro y' e' x' d' z' t0 t1 t2 t3 t4 u1 u2 u4 h' tk' F' N' n1 n2 n3 n4 l1 m1 m2 l2; (obtain ⟨m11, m12⟩ := m1); (obtain ⟨m21, m22⟩ := m2); (try k_lt2 l1); (try k_lt2 l2); (try dsimp only); (try k_sweep); (try k_fold)))
  (k_with "my k_ne" => (((try dsimp only); first | with_reducible assumption | (refine ne_sym ?_; with_reducible assumption) | with_reducible exact lt_ne (by assumption) (by (repeat (first | exact mem0 | exact mem1 | exact mem2 | exact mem3 | refine memd ?_)); (first | all_goals fail | fail)) | with_reducible exact ne_sym (lt_ne (by assumption) (by (repeat (first | exact mem0 | exact mem1 | exact mem2 | exact mem3 | refine memd ?_)); (first | all_goals fail | fail))) | with_reducible exact allNe_ne (by assumption) (by (repeat (first | exact mem0 | exact mem1 | exact mem2 | exact mem3 | refine memd ?_)); (first | all_goals fail | fail)) | with_reducible exact ne_sym (allNe_ne (by assumption) (by (repeat (first | exact mem0 | exact mem1 | exact mem2 | exact mem3 | refine memd ?_)); (first | all_goals fail | fail))) | with_reducible exact off1_ne (by assumption) (by (repeat (first | exact mem0 | exact mem1 | exact mem2 | exact mem3 | refine memd ?_)); (first | all_goals fail | fail)) | with_reducible exact ne_sym (off1_ne (by assumption) (by (repeat (first | exact mem0 | exact mem1 | exact mem2 | exact mem3 | refine memd ?_)); (first | all_goals fail | fail))) | with_reducible exact off3_1 (by assumption) (by (repeat (first | exact mem0 | exact mem1 | exact mem2 | exact mem3 | refine memd ?_)); (first | all_goals fail | fail)) | with_reducible exact ne_sym (off3_1 (by assumption) (by (repeat (first | exact mem0 | exact mem1 | exact mem2 | exact mem3 | refine memd ?_)); (first | all_goals fail | fail))) | with_reducible exact off3_2 (by assumption) (by (repeat (first | exact mem0 | exact mem1 | exact mem2 | exact mem3 | refine memd ?_)); (first | all_goals fail | fail)) | with_reducible exact ne_sym (off3_2 (by assumption) (by (repeat (first | exact mem0 | exact mem1 | exact mem2 | exact mem3 | refine memd ?_)); (first | all_goals fail | fail))) | with_reducible exact off3_3 (by assumption) (by (repeat (first | exact mem0 | exact mem1 | exact mem2 | exact mem3 | refine memd ?_)); (first | all_goals fail | fail)) | with_reducible exact ne_sym (off3_3 (by assumption) (by (repeat (first | exact mem0 | exact mem1 | exact mem2 | exact mem3 | refine memd ?_)); (first | all_goals fail | fail))) | with_reducible exact Ne3.a (by assumption) | with_reducible exact ne_sym (Ne3.a (by assumption)) | with_reducible exact Ne3.b (by assumption) | with_reducible exact ne_sym (Ne3.b (by assumption)) | with_reducible exact Ne3.c (by assumption) | with_reducible exact ne_sym (Ne3.c (by assumption)) | with_reducible exact Nat.ne_of_lt (by assumption) | with_reducible exact ne_sym (Nat.ne_of_lt (by assumption)) | with_reducible exact lt_ne2 (by assumption) (by assumption) (by (repeat (first | exact mem0 | exact mem1 | exact mem2 | exact mem3 | refine memd ?_)); (first | all_goals fail | fail)) | with_reducible exact ne_sym (lt_ne2 (by assumption) (by assumption) (by (repeat (first | exact mem0 | exact mem1 | exact mem2 | exact mem3 | refine memd ?_)); (first | all_goals fail | fail))) | (refine neN ?_; omega))))
  (k_with "my callWith ref" => (k_here; kco_any "__call__"; kco_here; k_dflt (refine' call_inst_kw (by k_in) (by k_inst) (by rfl) (by exact rfl) ?_; k_whole)))
  trivial
section
variable {prog : Program} {w : World} {p : Program} {loose : List Str} {mean : ExcName → Option Value} {mg mb : Str → Option Value}
  {dp un : Nat} {gd : Option (List Code)} {cn : Str} {cs : Scope} {a : Addr} {ccd : Value} {cl : List (Str × Addr)} {outer : List Env} {A₀ : Around} {base h₀ : Heap} {L : Addr} {m : Str → Option Value} {news : List (Addr × Obj)} {s : Shared}
  {Q E : Value → Shared → Prop}
theorem lay_spec_zero : True := by
  (k_with "go spec_zero" =>
    refine wpAny_call ?_
    k_dflt (refine' semi_reads (own := [(R, instObj 280 dR), (dR, dictOf (ringEs w.params t1 t2 t3 t4 u1 u2 u4 z) 4)]) ?k1 ?k2 ?k3 N (all2 (hR) (hdR)) ?k5 ?kA ?kF ?kK ?k6 ?k7 ?k8 ?k9 ?kB ?_ ?c2 ?c3 ?c4 ?c5; (case kA => exact rfl); (case kF => exact rfl); (case kK => assumption); (case k1 => k_asm); (case k2 => k_asm); (case k3 => k_asm); (case k5 => k_asm); (case k6 => k_is); (case k7 => k_is); (case k8 => ktr_room); (case k9 => exact BindsTo.of_eq rfl); (case kB => exact locs rfl); (case c2 => exact rfl); (case c3 => exact rfl); (case c4 => exact rfl); (case c5 => decide))
    clear N
    intro g' L' h' FG' F' N' B' X' T' l1 hgn
    (try dsimp only)
    (try k_lift B')
    (try k_fold)
    k_steps
    rename News h₀ L _ [_, _] → News h₀ L _ news => kA
    rename News h₀ L _ _ => kN
    rename Fr h₀ L _ m => kF
    exact ret _ _ _ kF (kA (news_sub kN (all2 (by k_mem) (by k_mem)))))
  trivial
theorem spec_zero {R dR : Addr} {t1 t2 t3 t4 u1 u2 u4 : Tok} {z : Value}
    (B : Below A₀ base outer h₀) (F : Fr h₀ L s.heap m) (X : (hd.heap_1 w.params).In h₀) (N : News h₀ L s.heap news) (T : Top p loose mean mg mb h₀) (hk : cs.kind = .function)
    (hR : (R, instObj 280 dR) ∈ news) (hdR : (dR, dictOf (ringEs w.params t1 t2 t3 t4 u1 u2 u4 z) 4) ∈ news) (hne : @LT.lt Nat _ dR R)
    (hroom : dp + 9 < recursionLimit)
    (ret : ∀ x h' tk', Fr h₀ L h' m → News h₀ L h' news → Q (.ref x) { s with heap := h', toks := tk' }) :
    wpAny (model prog w) (ktrTop dp un gd cn cs L a ccd cl outer) (call (.ref 42) [.ref R]) Q E s := by
  refine unbox ?_
  simp +zetaDelta (disch := (k_dflt (k_extra "go spec_zero"))) only [↓box_true]
end
theorem reg_ZERO : True := by
  (k_with "my call ref" => (k_here; (with_reducible show wpAny _ _ (PySem.call (Value.ref 42) _) _ _ _); k_dflt (refine' spec_zero (by k_asm) (by k_asm) (by k_asm) (by k_asm) (by k_asm) (by first | exact rfl | assumption) (by k_mem) (by k_mem) (by assumption) (by ktr_room) ?_; k_whole); intro x9 h9 tk9 F9 N9; (try dsimp only); (try k_sweep); (try k_fold)))
  trivial
theorem cands_len (l : List Int) : (cands l).length = 560 := by simp [cands]
section
variable {prog : Program} {w : World} {A : Around} {E : Value → Shared → Prop} {s : Shared} {h₀ : Heap} {L : Addr} {m : Str → Option Value} {news : List (Addr × Obj)} {l : Addr} {c : Nat} {vs : List Value} {ns : List Int} {x : Int} {t : Tok} {Q : Value → Shared → Prop} {value slice : Expr}
theorem cut_from (F : Fr h₀ L s.heap m) (N : News h₀ L s.heap news) (hm : (l, PySem.W.listOf vs.toArray c) ∈ news) (hi : IntsAre vs ns) (h0 : 0 ≤ x) (hz : ns.length ≤ 1000)
    (h : ∀ D ws h', Fr h₀ L h' m → News h₀ L h' ((D, PySem.W.listOf (List.toArray ws) 0) :: news) → (∀ q ∈ news, q.1 < D) → IntsAre ws (ns.drop x.toNat) → Q (.ref D) { s with heap := h' })
    (hs : subscripted slice false (.ref l) (.ref s.heap.objs.size) = operate [.ref s.heap.objs.size, .ref l] (getItem (.ref l) (.ref s.heap.objs.size)) := by with_unfolding_all rfl)
    (ht : ∀ r, letTemporaryGo value (.ref l) r = pure () := by intro _; with_unfolding_all rfl) :
    wpAny (model prog w) A (subscriptTail value slice (.ref l) (.ref s.heap.objs.size)) Q E { s with heap := s.heap.push { cls := .type "slice", data := .fields #[.int x t, .none, .none] } } :=
  kmk_slice_ints F N ⟨_, N.get hm, rfl, c, rfl⟩ (.int x t) .none hi (kmk_from hi h0) rfl (fun D ws h' a b c d _ _ => h D ws h' a b c d) hs ht (by rw [List.size_toArray, hi.length, sizeLine_eq]; omega)
theorem cut_upto (F : Fr h₀ L s.heap m) (N : News h₀ L s.heap news) (hm : (l, PySem.W.listOf vs.toArray c) ∈ news) (hi : IntsAre vs ns) (h0 : 0 ≤ x) (hz : ns.length ≤ 1000)
    (h : ∀ D ws h', Fr h₀ L h' m → News h₀ L h' ((D, PySem.W.listOf (List.toArray ws) 0) :: news) → (∀ q ∈ news, q.1 < D) → IntsAre ws (ns.take x.toNat) → Q (.ref D) { s with heap := h' })
    (hs : subscripted slice false (.ref l) (.ref s.heap.objs.size) = operate [.ref s.heap.objs.size, .ref l] (getItem (.ref l) (.ref s.heap.objs.size)) := by with_unfolding_all rfl)
    (ht : ∀ r, letTemporaryGo value (.ref l) r = pure () := by intro _; with_unfolding_all rfl) :
    wpAny (model prog w) A (subscriptTail value slice (.ref l) (.ref s.heap.objs.size)) Q E { s with heap := s.heap.push { cls := .type "slice", data := .fields #[.none, .int x t, .none] } } :=
  kmk_slice_ints F N ⟨_, N.get hm, rfl, c, rfl⟩ .none (.int x t) hi (kmk_upto hi h0) rfl (fun D ws h' a b c d _ _ => h D ws h' a b c d) hs ht (by rw [List.size_toArray, hi.length, sizeLine_eq]; omega)
theorem cat_two {b : Addr} {c2 : Nat} {us : List Value} {ms : List Int} (F : Fr h₀ L s.heap m) (N : News h₀ L s.heap news) (hm : (l, PySem.W.listOf vs.toArray c) ∈ news) (hb : (b, PySem.W.listOf us.toArray c2) ∈ news) (hi : IntsAre vs ns) (hj : IntsAre us ms) (hz : ns.length + ms.length ≤ 1000)
    (h : ∀ D ws h', Fr h₀ L h' m → News h₀ L h' ((D, PySem.W.listOf (List.toArray ws) 0) :: news) → (∀ q ∈ news, q.1 < D) → IntsAre ws (ns ++ ms) → Q (.ref D) { s with heap := h' }) :
    wpAny (model prog w) A (binaryOp .Add (.ref l) (.ref b)) Q E s := by
  refine add_arrays_ints F N (its := vs.toArray) (its2 := us.toArray) ⟨_, N.get hm, rfl, c, rfl⟩ ⟨_, N.get hb, rfl, c2, rfl⟩ hi hj (fun h' F' N' hI => ?_) (by rw [sizeLine_eq]; omega)
  exact h s.heap.objs.size _ h' F' N' (fun q hq => Heap.lt_size (N q hq).1) hI
end
theorem fmod_two (x : Int) : 0 ≤ Int.fmod x 2 ∧ Int.fmod x 2 < 2 := by
  rw [Int.fmod_eq_emod_of_nonneg _ (by decide)]
  omega
def under (v : Int) : Bool := decide (v < 3329)
theorem st_told0 : ([] : List Int).length ≤ ([] : List Int).length ∧ [] = ([] : List Int).filter under := ⟨Nat.le_refl _, rfl⟩
theorem st_told1 {told pre : List Int} {v : Int} (h1 : told.length ≤ pre.length) (h2 : told = pre.filter under) (hv : v < 3329) : (told ++ [v]).length ≤ (pre ++ [v]).length ∧ told ++ [v] = (pre ++ [v]).filter under := by
  have e : under v = true := decide_eq_true hv
  refine ⟨by simpa using h1, ?_⟩
  rw [List.filter_append, ← h2]
  simp [e]
theorem st_told2 {told pre : List Int} {v : Int} (h1 : told.length ≤ pre.length) (h2 : told = pre.filter under) (hv : ¬ v < 3329) : told.length ≤ (pre ++ [v]).length ∧ told = (pre ++ [v]).filter under := by
  have e : under v = false := decide_eq_false hv
  refine ⟨by rw [List.length_append]; omega, ?_⟩
  rw [List.filter_append, ← h2]
  simp [e]
theorem reg_CUT : True := by
  (k_with "my subscriptTail Name Slice ref ref" => (k_here; (try dsimp only); (with_reducible show wpAny _ _ (subscriptTail (Expr.Name (PySem.Str.ofString "candidates") _) (Expr.Slice (some _) none none _) (Value.ref _) (Value.ref _)) _ _ _); (with_reducible rename Fr _ _ _ _ => cF); (with_reducible rename News _ _ _ _ => cN); (with_reducible rename IntsAre _ (cands _) => cI); refine cut_from (s := ⟨_, _, _, _, _⟩) cF cN (by k_mem) cI (by omega) (by rw [cands_len]; decide) ?_; intro D' ws' h' F' N' l1 hI'; (try k_lt l1); (try dsimp only); (try k_sweep)))
  (k_with "my subscriptTail Name Slice ref ref" => (k_here; (try dsimp only); (with_reducible show wpAny _ _ (subscriptTail (Expr.Name (PySem.Str.ofString "candidates") _) (Expr.Slice none (some _) none _) (Value.ref _) (Value.ref _)) _ _ _); (with_reducible rename Fr _ _ _ _ => cF); (with_reducible rename News _ _ _ _ => cN); (with_reducible rename IntsAre _ (cands _) => cI); refine cut_upto (s := ⟨_, _, _, _, _⟩) cF cN (by k_mem) cI (by omega) (by rw [cands_len]; decide) ?_; intro D' ws' h' F' N' l1 hI'; (try k_lt l1); (try dsimp only); (try k_sweep)))
  (k_with "my binaryOp Add ref ref" => (k_here; (try dsimp only); (with_reducible rename Fr _ _ _ _ => cF); (with_reducible rename News _ _ _ _ => cN); (with_reducible rename IntsAre _ (List.drop _ (cands _)) => cI); (with_reducible rename IntsAre _ (List.take _ (cands _)) => cJ); refine cat_two cF cN (by k_mem) (by k_mem) cI cJ (by rw [List.length_drop, List.length_take, cands_len]; omega) ?_; intro D' ws' h' F' N' l1 hI'; (try k_lt l1); (try dsimp only); (try k_sweep)))
  trivial
def pr : List Int → List Int
  | a :: b :: c :: r => (a + 256 * Int.fmod b 16) :: (Int.fdiv b 16 + 16 * c) :: pr r
  | _ => []
theorem len3 {l : List Int} {t : Nat} (h : l.length = 3 * (t + 1)) : ∃ a b c r, l = a :: b :: c :: r ∧ r.length = 3 * t := by
  match l, h with
  | a :: b :: c :: r, h => exact ⟨a, b, c, r, rfl, by simp only [List.length_cons] at h; omega⟩
  | [], h => simp at h
  | [_], h => simp at h; omega
  | [_, _], h => simp at h; omega
theorem pr_len : ∀ {t : Nat} {l : List Int}, l.length = 3 * t → (pr l).length = 2 * t
  | 0, [], _ => rfl
  | 0, _ :: _, h => by simp at h
  | t + 1, l, h => by
    obtain ⟨a, b, c, r, rfl, hr⟩ := len3 h
    simp only [pr, List.length_cons, pr_len hr]
    omega
theorem pr_app : ∀ {t : Nat} {l r : List Int}, l.length = 3 * t → pr (l ++ r) = pr l ++ pr r
  | 0, [], _, _ => rfl
  | 0, _ :: _, _, h => by simp at h
  | t + 1, l, r, h => by
    obtain ⟨a, b, c, q, rfl, hr⟩ := len3 h
    simp only [pr, List.cons_append, pr_app hr]
theorem b8_cons3 (a b c : Int) (r : List Int) {i : Int} (h : 0 ≤ i) : b8 (a :: b :: c :: r) (i + 3) = b8 r i := by
  unfold b8
  have e : (i + 3).toNat = i.toNat + 3 := by omega
  rw [e]
  rfl
theorem c1_cons3 (a b c : Int) (r : List Int) {i : Int} (h : 0 ≤ i) : c1 (a :: b :: c :: r) (i + 3) = c1 r i := by
  unfold c1
  rw [b8_cons3 a b c r h, show i + 3 + 1 = (i + 1) + 3 by omega, b8_cons3 a b c r (by omega)]
theorem c2_cons3 (a b c : Int) (r : List Int) {i : Int} (h : 0 ≤ i) : c2 (a :: b :: c :: r) (i + 3) = c2 r i := by
  unfold c2
  rw [show i + 3 + 1 = (i + 1) + 3 by omega, b8_cons3 a b c r (by omega), show i + 3 + 2 = (i + 2) + 3 by omega, b8_cons3 a b c r (by omega)]
theorem pairs_pr : ∀ {t : Nat} {l : List Int}, l.length = 3 * t → pairs l t = pr l
  | 0, [], _ => rfl
  | 0, _ :: _, h => by simp at h
  | t + 1, l, h => by
    obtain ⟨a, b, c, r, rfl, hr⟩ := len3 h
    have ih := pairs_pr hr
    unfold pairs at ih ⊢
    rw [List.range_succ_eq_map, List.flatMap_cons, List.flatMap_map]
    have e : ∀ u : Nat, [c1 (a :: b :: c :: r) (3 * ((u + 1 : Nat) : Int)), c2 (a :: b :: c :: r) (3 * ((u + 1 : Nat) : Int))] = [c1 r (3 * (u : Int)), c2 r (3 * (u : Int))] := fun u => by
      rw [show (3 * ((u + 1 : Nat) : Int)) = 3 * (u : Int) + 3 by omega, c1_cons3 a b c r (by omega), c2_cons3 a b c r (by omega)]
    simp only [Nat.succ_eq_add_one, e, ih]
    rfl
theorem whole_cons (x : Int) (r : List Int) : whole (x :: r) = x + 256 * whole r := by
  unfold whole KFB.value
  rw [List.reverse_cons, List.foldl_append]
  simp only [List.foldl_cons, List.foldl_nil]
  omega
theorem cand_low {a b c W : Int} (ha : 0 ≤ a ∧ a < 256) (hb : 0 ≤ b ∧ b < 256) : (a + 256 * (b + 256 * (c + 256 * W))) % 4096 = a + 256 * (b % 16) := by omega
theorem cand_high {a b c W : Int} (ha : 0 ≤ a ∧ a < 256) (hb : 0 ≤ b ∧ b < 256) (hc : 0 ≤ c ∧ c < 256) : (a + 256 * (b + 256 * (c + 256 * W))) / 4096 % 4096 = b / 16 + 16 * c := by omega
theorem cand_rest {a b c W : Int} (ha : 0 ≤ a ∧ a < 256) (hb : 0 ≤ b ∧ b < 256) (hc : 0 ≤ c ∧ c < 256) : (a + 256 * (b + 256 * (c + 256 * W))) / 16777216 = W := by omega
theorem cands_pr : ∀ {t : Nat} {l : List Int}, l.length = 3 * t → (∀ n ∈ l, 0 ≤ n ∧ n < 256) → (List.range (2 * t)).map (candAt l) = pr l
  | 0, [], _, _ => rfl
  | 0, _ :: _, h, _ => by simp at h
  | t + 1, l, h, hl => by
    obtain ⟨a, b, c, r, rfl, hr⟩ := len3 h
    have ih := cands_pr hr (fun n hn => hl n (.tail _ (.tail _ (.tail _ hn))))
    have ha := hl a (.head _)
    have hb := hl b (.tail _ (.head _))
    have hc := hl c (.tail _ (.tail _ (.head _)))
    rw [show 2 * (t + 1) = (2 * t + 1) + 1 by omega, List.range_succ_eq_map, List.map_cons, List.range_succ_eq_map, List.map_cons, List.map_cons, List.map_map, List.map_map]
    have e : (candAt (a :: b :: c :: r) ∘ Nat.succ) ∘ Nat.succ = candAt r := by
      funext i
      show candIn (whole (a :: b :: c :: r)) (i + 2) = candIn (whole r) i
      unfold candIn
      rw [whole_cons, whole_cons, whole_cons, show (4096 : Int) ^ (i + 2) = 16777216 * 4096 ^ i by rw [Int.pow_add, Int.mul_comm]; rfl, ← Int.ediv_ediv_of_nonneg (by decide), cand_rest ha hb hc]
    rw [e, ih]
    have e0 : candAt (a :: b :: c :: r) 0 = a + 256 * Int.fmod b 16 := by
      show candIn (whole (a :: b :: c :: r)) 0 = _
      unfold candIn
      rw [whole_cons, whole_cons, whole_cons, Int.pow_zero, Int.ediv_one, cand_low ha hb, Int.fmod_eq_emod_of_nonneg _ (by decide)]
    have e1 : (candAt (a :: b :: c :: r) ∘ Nat.succ) 0 = Int.fdiv b 16 + 16 * c := by
      show candIn (whole (a :: b :: c :: r)) 1 = _
      unfold candIn
      rw [whole_cons, whole_cons, whole_cons, show (4096 : Int) ^ 1 = 4096 from rfl, cand_high ha hb hc, Int.fdiv_eq_ediv_of_nonneg _ (by decide)]
    rw [e0]
    simp only [pr]
    congr 1
    congr 1
def rot (l : List Int) (k : Nat) : List Int := l.drop k ++ l.take k
theorem rot_len (l : List Int) (k : Nat) : (rot l k).length = l.length := by unfold rot; rw [List.length_append, List.length_drop, List.length_take]; omega
theorem rot_in {l : List Int} (h : ∀ n ∈ l, 0 ≤ n ∧ n < 256) (k : Nat) : ∀ n ∈ rot l k, 0 ≤ n ∧ n < 256 := fun n hn => by
  unfold rot at hn
  rcases List.mem_append.mp hn with hn | hn
  · exact h n (List.mem_of_mem_drop hn)
  · exact h n (List.mem_of_mem_take hn)
theorem cands_eq {l : List Int} (hlen : l.length = 840) (hl : ∀ n ∈ l, 0 ≤ n ∧ n < 256) : cands l = pr l := cands_pr (t := 280) hlen hl
theorem pr_rot {l : List Int} (hlen : l.length = 840) {k : Nat} (hk : k ≤ 4) : pr (rot l (210 * k)) = (pr l).drop (140 * k) ++ (pr l).take (140 * k) := by
  have h1 : (l.take (210 * k)).length = 3 * (70 * k) := by rw [List.length_take]; omega
  have h2 : (l.drop (210 * k)).length = 3 * (280 - 70 * k) := by rw [List.length_drop]; omega
  have e : pr l = pr (l.take (210 * k)) ++ pr (l.drop (210 * k)) := by rw [← pr_app h1, List.take_append_drop]
  have e2 : (pr (l.take (210 * k))).length = 140 * k := by rw [pr_len h1]; omega
  unfold rot
  rw [pr_app h2, e, List.drop_left' e2, List.take_left' e2]
theorem acc_rot {l : List Int} (hlen : l.length = 840) (hl : ∀ n ∈ l, 0 ≤ n ∧ n < 256) {k : Nat} (hk : k ≤ 4) :
    acc (rot l (210 * k)) 280 = ((cands l).drop (140 * k) ++ (cands l).take (140 * k)).filter under := by
  unfold acc
  rw [pairs_pr (t := 280) (by rw [rot_len]; exact hlen), pr_rot hlen hk, cands_eq hlen hl]
  rfl
theorem filter_rot (l : List Int) (k : Nat) : ((l.drop k ++ l.take k).filter under).length = (l.filter under).length := by
  rw [List.filter_append, List.length_append, Nat.add_comm, ← List.length_append, ← List.filter_append, List.take_append_drop]
def fixedOcts : List Int := (List.range 813).map fun (j : Nat) => (37 * (64 + (j : Int)) * (64 + (j : Int)) + 11 * (64 + (j : Int)) + 5) % 256
theorem fixed_count : 256 ≤ ((pr fixedOcts).filter under).length := by decide +kernel
theorem octs_fixed {ns : List Int} (h : ns.length ≤ 63) : (octs ns 37 840).drop 27 = fixedOcts := by
  unfold octs fixedOcts
  rw [← List.map_drop]
  apply List.ext_getElem
  · simp
  intro n h1 h2
  simp only [List.getElem_map, List.getElem_drop, List.getElem_range]
  unfold num
  rw [if_neg (by omega)]
  congr 2
  · congr 1
    · congr 1
      · omega
      · omega
    · omega
theorem count_all {ns : List Int} (h : ns.length ≤ 63) : 256 ≤ ((cands (octs ns 37 840)).filter under).length := by
  rw [cands_eq (octs_len _ _ _) (octs_in _ _ _)]
  have h1 : ((octs ns 37 840).take 27).length = 3 * 9 := by rw [List.length_take, octs_len]; rfl
  have e : pr (octs ns 37 840) = pr ((octs ns 37 840).take 27) ++ pr ((octs ns 37 840).drop 27) := by rw [← pr_app h1, List.take_append_drop]
  rw [e, octs_fixed h, List.filter_append, List.length_append]
  have := fixed_count
  omega
theorem acc_count {ns : List Int} (h : ns.length ≤ 63) {k : Nat} (hk : k ≤ 4) : 256 ≤ (acc (rot (octs ns 37 840) (210 * k)) 280).length := by
  rw [acc_rot (octs_len _ _ _) (octs_in _ _ _) hk, filter_rot]
  exact count_all h
section
variable {h₀ : Heap} {L : Addr} {own news news' : List (Addr × Obj)}
/-- behind a call that wrote one object x of the ledger and only read the others of own -/
theorem news_one {h h' : Heap} {x : Addr} {ox ox' : Obj} {own' : List (Addr × Obj)} (N : News h₀ L h news) (sub : ∀ q ∈ own, q ∈ news) (k : ∀ q ∈ news, q.1 ∉ own.map (·.1) → h'.get? q.1 = some q.2)
    (N' : News h₀ L h' own') (hx : (x, ox') ∈ own') (ho : ∀ q ∈ own, q.1 ≠ x → q ∈ own') (U : Upd x ox ox' news news') : News h₀ L h' news' := by
  obtain ⟨pre, post, rfl, rfl, a, b⟩ := U.split
  have keep : ∀ q ∈ pre ++ (x, ox) :: post, q.1 ≠ x → h'.get? q.1 = some q.2 ∧ q.1 ≠ L ∧ h₀.get? q.1 = none := fun q hq hne => by
    by_cases hm : q.1 ∈ own.map (·.1)
    · obtain ⟨r, hr, e⟩ := List.mem_map.mp hm
      have e1 := (N q hq).1
      have e2 := (N r (sub r hr)).1
      have e3 : r.1 = q.1 := e
      rw [e3, e1] at e2
      have e4 : r.2 = q.2 := (Option.some.inj e2).symm
      have e5 := (N' r (ho r hr (fun h => hne (e3.symm.trans h)))).1
      rw [e3, e4] at e5
      exact ⟨e5, (N q hq).2⟩
    · exact ⟨k q hq hm, (N q hq).2⟩
  intro q hq
  rcases List.mem_append.mp hq with hq | hq
  · exact keep q (List.mem_append_left _ hq) (a q hq)
  · rcases List.mem_cons.mp hq with rfl | hq
    · exact N' _ hx
    · exact keep q (List.mem_append_right _ (.tail _ hq)) (b q hq)
end
section
variable {prog : Program} {w : World} {A₀ A : Around} {s : Shared} {base h₀ : Heap} {outer : List Env} {L : Addr} {m mg mb : Str → Option Value} {env : Env} {K : Frag} {p : Program} {loose : List Str} {mean : ExcName → Option Value}
  {R : Result → Shared → Prop} {name qual : Str} {params : Arguments} {body : List Stmt} {scope : Scope} {cl : List (Str × Addr)} {dV kV doc pm cdv ct oc : Value} {an od : Option Addr} {osl : Array (Option Value)} {f : Addr} {fo : Obj} {args : Args} {binds : List (Str × Value)} {own news : List (Addr × Obj)}
/-- what the ledger is behind a call that wrote x alone -/
def Back (h₀ : Heap) (L : Addr) (own news : List (Addr × Obj)) (x : Addr) (h' : Heap) : Prop :=
  ∀ own' ox ox' news', News h₀ L h' own' → (x, ox') ∈ own' → (∀ q ∈ own, q.1 ≠ x → q ∈ own') → Upd x ox ox' news news' → News h₀ L h' news'
/-- a call of a function that closes over names; it may change the objects «own» of the ledger -/
theorem semi_nest (x : Addr)
    (B : Below A₀ base outer h₀) (F : Fr h₀ L s.heap m) (X₀ : K.In h₀) (N : News h₀ L s.heap news) (sub : ∀ q ∈ own, q ∈ news) (T : Top p loose mean mg mb h₀)
    (hA : A.frames = some (env :: outer)) (hf : env.frame = some L) (hke : env.scope.kind = .function)
    (ho : s.heap.get? f = some fo) (hd : fo.data = .func (fnX name qual params body scope cl dV kV doc pm an cdv ct)) (hcd : s.heap.CodeRec cdv qual) (hroom : A.depth < recursionLimit)
    (hbind : BindsTo s (fnX name qual params body scope cl dV kV doc pm an cdv ct) args binds) (hloc : ∀ y ∈ binds, scope.names.lookup y.1 = some .local)
    (h : ∀ g L' h₁, Fr h₀ L g m → Fr g L' h₁ (fun y => binds.reverse.lookup y) → News g L' h₁ own → Below A base (env :: outer) g → K.In g → Top p loose mean mg mb g → (∀ q ∈ own, q.1 < L') →
      wpAny (model prog w) (A.deeper (envX qual scope L' f cdv cl)) (execs body (envX qual scope L' f cdv cl))
        (fun fl s' => LeaveK h₀ L m g (fun r s'' => Back h₀ L own news x s''.heap → R r s'') (match fl with | .ret v => v | _ => .none) s')
        (fun _ _ => False)
        { s with heap := h₁, toks := s.toks + binds.length })
    (hco : scope.isCoroutine = false) (hgen : scope.isGenerator = false) (hk : scope.kind = .function)
    (hcell : ∀ x ∈ scope.names, x.2 ≠ .cell) : codeAny (model prog w) A (.call (.ref f) args) R s := by
  have No : News h₀ L s.heap own := fun q hq => N q (sub q hq)
  obtain ⟨FG, BG, st, lv⟩ := groundX (R := R) B F No hA hf hke
  have hg : ∀ q ∈ news, q.1 ∉ own.map (·.1) → (hideAll s.heap (own.map (·.1))).get? q.1 = some q.2 := fun q hq hm => hideAll_get _ (N q hq).1 hm
  refine codeAny_call_def (fd := fnX name qual params body scope cl dV kV doc pm an cdv ct) (body := body) (binds := binds) hroom ho hd (T.nolimit.keeps F.keep) hcd rfl hbind hcell hloc (fun h₁ hns hk₁ => ?_) hco hgen hk
  refine wpAny_mono (h _ s.heap.objs.size h₁ FG ⟨hns, fun b o e => hk₁ b o (of_hideAll _ e), Nat.le_of_eq (hideAll_size _ _)⟩
    (fun q hq => ⟨hk₁ _ _ (No q hq).1, Nat.ne_of_lt (Heap.lt_size (No q hq).1), hideAll_none _ (List.mem_map_of_mem hq)⟩) BG (X₀.keeps st) (T.keeps st) (fun q hq => Heap.lt_size (No q hq).1))
    (fun fl s' hl => lv _ _ ?_) fun _ _ y => y.elim
  obtain ⟨L', m', news', F', N', k⟩ := hl
  exact ⟨L', m', news', F', N', fun F₂ N₂ => k F₂ N₂ fun own' ox ox' nw N3 hx ho U => news_one N sub (fun q hq hm => F'.keep q.1 q.2 (hg q hq hm)) N3 hx ho U⟩
end
/-- what a call of the xof does -/
def XofSpec (prog : Program) (w : World) (p : Program) (loose : List Str) (mean : ExcName → Option Value) (mg mb : Str → Option Value) (own : List (Addr × Obj)) (fx as : Addr) (ks : List Int) : Prop :=
  ∀ {dp un : Nat} {gd : Option (List Code)} {cn : Str} {cs : Scope} {a : Addr} {ccd : Value} {cl : List (Str × Addr)} {outer : List Env} {A₀ : Around} {base h₀ : Heap} {L : Addr} {m : Str → Option Value} {news news' : List (Addr × Obj)} {s : Shared}
    {Q E : Value → Shared → Prop} {b : Array UInt8} {os : List Int} {tb : Tok} {its : Array Value} {n : Nat},
    Below A₀ base outer h₀ → Fr h₀ L s.heap m → (hd.heap_1 w.params).In h₀ → News h₀ L s.heap news → Top p loose mean mg mb h₀ → cs.kind = .function →
    (∀ q ∈ own, q ∈ news) → (as, PySem.W.listOf its n) ∈ news → KBw.bInts b = os → os.length = 34 → os.getD 32 0 < 2 → os.getD 33 0 < 2 → its.size ≤ 100 → dp + 3 < recursionLimit →
    Upd as (PySem.W.listOf its n) (PySem.W.listOf (its.push (.bytes b tb)) (n + 1)) news news' →
    (∀ c h' tk' t', Fr h₀ L h' m → News h₀ L h' news' → KBw.bInts c = rot ks (210 * (os.getD 32 0 + 2 * os.getD 33 0).toNat) → Q (.bytes c t') { s with heap := h', toks := tk' }) →
    wpAny (model prog w) (ktrTop dp un gd cn cs L a ccd cl outer) (call (.ref fx) [.bytes b tb]) Q E s
theorem rot_clip {ks : List Int} {x z : Int} (hks : ks.length = 840) (h0 : 0 ≤ x) (h1 : x < 2) (h2 : 0 ≤ z) (h3 : z < 2) :
    List.take (ks.length - clipAt ks.length (210 * (x + 2 * z))) (List.drop (clipAt ks.length (210 * (x + 2 * z))) ks) ++ List.take (clipAt ks.length (210 * (x + 2 * z))) ks = rot ks (210 * (x + 2 * z).toNat) := by
  have e : (210 * (x + 2 * z) : Int) = ((210 * (x + 2 * z).toNat : Nat) : Int) := by omega
  have e2 : clipAt ks.length (210 * (x + 2 * z)) = 210 * (x + 2 * z).toNat := by
    rw [e, clipAt_nat]
    omega
  rw [e2, List.take_of_length_le (by rw [List.length_drop]; omega)]
  rfl
theorem ne_made {g h' : Heap} {L' x a : Addr} {o oa : Obj} {made : List (Addr × Obj)} (ha : g.get? a = some oa) (N' : News g L' h' made) (hm : (x, o) ∈ made) : @Ne Nat x a := fun e => by
  have h1 : g.get? x = none := (N' _ hm).2.2
  have e' : x = a := e
  rw [e', ha] at h1
  cases h1
/-- the fields of the hashes' object -/
abbrev hashEs (P : Params) (t1 t2 t3 : Tok) (r fx fp : Addr) : List DictEntry := [⟨PyData.keyHash P (Str.ofString "ring"), .str (Str.ofString "ring") t1, .ref r⟩, ⟨PyData.keyHash P (Str.ofString "xof"), .str (Str.ofString "xof") t2, .ref fx⟩, ⟨PyData.keyHash P (Str.ofString "prf"), .str (Str.ofString "prf") t3, .ref fp⟩]
section
variable {prog : Program} {w : World} {p : Program} {loose : List Str} {mean : ExcName → Option Value} {mg mb : Str → Option Value}
  {dp un : Nat} {gd : Option (List Code)} {cn : Str} {nm : List (Str × NameKind)} {ig ic : Bool} {mo : List (Str × Const)} {a : Addr} {ccd : Value} {cl : List (Str × Addr)} {outer : List Env} {A₀ : Around} {base h₀ : Heap} {L : Addr} {m : Str → Option Value} {news : List (Addr × Obj)} {s : Shared}
  {Q E : Value → Shared → Prop}
theorem lay_spec_hashes : True := by
  (k_with "go spec_hashes" =>
    have NX : News h₀ L s.heap news := fun q hq => N q (.tail _ hq)
    have NO : News h₀ L s.heap [(835, tabObj #[])] := fun q hq => N q (by rcases List.mem_singleton.mp hq with rfl; exact .head _)
    refine wpAny_call ?_
    k_dflt (refine' semi_cells (own := [(835, tabObj #[])]) (news := news) ?k1 ?k2 ?k3 NO NX hoff ?k5 ?kA ?kF ?kK ?k6 ?k7 ?k8 ?k9 ?kB ?kD ?_ ?c2 ?c3 ?c4; (case kA => exact rfl); (case kF => exact rfl); (case kK => exact rfl); (case k1 => k_asm); (case k2 => k_asm); (case k3 => k_asm); (case k5 => k_asm); (case k6 => k_is); (case k7 => k_is); (case k8 => ktr_room); (case k9 => exact BindsTo.of_eq rfl); (case kB => exact rfl); (case kD => decide +kernel); (case c2 => exact rfl); (case c3 => exact rfl); (case c4 => exact rfl))
    clear N NX NO
    intro g' L' h' tk' cells' FG' F' N' Y' B' X' T' l1 hgn
    have hC' : CodeHd g' 839 835 := hC.keeps B'.stays
    have l12 := lt_all l1
    have l13 := lt_all l12
    k_cells Y'
    simp only [List.cons_append, List.nil_append] at N'
    (try dsimp only)
    (try k_lift B')
    (try k_fold)
    k_steps
    rename News h₀ L _ news => kA
    rename News h₀ L _ (_ :: _) => kN
    rename News g' _ _ _ => kM
    rename Fr h₀ L _ m => kF
    have z0 := ne_made (hgn _ has) kM (.tail _ (.tail _ (.head _)))
    have z1 := ne_made (hgn _ has) kM (.tail _ (.tail _ (.tail _ (.head _))))
    have z2 := ne_made (hgn _ has) kM (.tail _ (.tail _ (.tail _ (.tail _ (.tail _ (.tail _ (.tail _ (.tail _ (.head _)))))))))
    have z3 := ne_made (hgn _ has) kM (.tail _ (.tail _ (.tail _ (.tail _ (.tail _ (.tail _ (.tail _ (.tail _ (.tail _ (.head _))))))))))
    refine ret _ _ _ _ (L' + 1 + 1) (L' + 1) _ _ _ _ _ _ _ _ _ _ _ _ _ _ _ _ _ _ _ _ kF
      (news_cons (a := [_, _, _, _, _, _, _]) (news_sub kN (all7 (by k_mem) (by k_mem) (by k_mem) (by k_mem) (by k_mem) (by k_mem) (by k_mem))) kA)
      (ne_of_new hgn kM (by k_mem)) (ne_of_new hgn kM (by k_mem)) (ne_of_new hgn kM (by k_mem)) (ne_of_new hgn kM (by k_mem)) (ne_of_new hgn kM (by k_mem)) (ne_of_new hgn kM (by k_mem)) ?_
    clear kA kN kM kF ret hoff hgn FG' B' X' T' F B X T hC
    rename _ = Data.cell (bindC _ _ _ (Str.ofString "asked")) => dd1
    rename _ = Data.cell (bindC _ _ _ (Str.ofString "base")) => dd2
    replace dd1 : _ = Data.cell (some (.ref as)) := dd1
    replace dd2 : _ = Data.cell (some (.bytes bs tb)) := dd2
    intro dp2 un2 gd2 cn2 cs2 a2 ccd2 cl2 outer2 A2 base2 h2 L2 m2 nw nw' s2 Q2 E2 b2 os2 tb2 its2 n2 B2 F2 X2 N2 T2 hk2 sub2 hav2 hb2 hlen2 h32 h33 hvs2 hroom2 U2 ret2
    have q1 := sub2 _ (.head _)
    have q2 := sub2 _ (.tail _ (.head _))
    refine wpAny_call ?_
    k_dflt (refine' semi_nest (fo := fnMade _ _ _ _ _ _ _ _ _ _) as B2 F2 X2 N2 (List.forall_mem_cons.mpr ⟨hav2, sub2⟩) T2 ?kA ?kF ?kK (N2 _ q1).1 ?kd ?kc ?k8 ?k9 ?kB ?_ ?c2 ?c3 ?c4 ?c5; (case kA => exact rfl); (case kF => exact rfl); (case kK => assumption); (case kd => exact rfl); (case kc => exact codeRec_news N2 q2 (by assumption) (by assumption)); (case k8 => ktr_room); (case k9 => exact BindsTo.of_eq rfl); (case kB => exact locs rfl); (case c2 => exact rfl); (case c3 => exact rfl); (case c4 => exact rfl); (case c5 => decide))
    intro g3 L3 h3 FG3 F3 N3 B3 X3 T3 l3
    (try dsimp only)
    (try k_lift B3)
    (try k_fold)
    k_steps
    rename Back _ _ _ _ _ _ => hbk
    rename News h2 L2 _ _ => kN
    rename Fr h2 L2 _ m2 => kF
    refine ret2 _ _ _ _ kF (hbk _ _ _ _ kN (.head _) (fun q hq hne => (List.mem_cons.mp hq).elim (fun e => absurd (congrArg Prod.fst e) hne) (fun h => .tail _ h)) U2) ?_
    rename KBw.bInts (_ ++ _) = _ => hfin
    exact hfin.trans (rot_clip hks (by assumption) h32 (by assumption) h33))
  trivial
theorem spec_hashes {bs : Array UInt8} {ks : List Int} {tb : Tok} {as : Addr}
    (B : Below A₀ base outer h₀) (F : Fr h₀ L s.heap m) (X : (hd.heap_1 w.params).In h₀) (N : News h₀ L s.heap ((835, tabObj #[]) :: news)) (hoff : ∀ q ∈ news, q.1 ∉ [((835 : Addr), tabObj #[])].map (·.1)) (T : Top p loose mean mg mb h₀)
    (hC : CodeHd base 839 835) (hbs : KBw.bInts bs = ks) (hks : ks.length = 840) (has : (as, PySem.W.listOf #[] 0) ∈ news)
    (hroom : dp + 12 < recursionLimit)
    (ret : ∀ y dy fx cx ca cb r fp t1 t2 t3 name qual params body scope clo doc pm ctv ocx oca ocb psH h' tk', Fr h₀ L h' m →
      News h₀ L h' ((835, tabObj psH) :: (y, instObj 671 dy) :: (dy, dictOf (hashEs w.params t1 t2 t3 r fx fp) 3) :: (fx, fnMade name qual params body scope clo doc pm cx ctv) :: (cx, ocx) :: (ca, oca) :: (cb, ocb) :: news) →
      AllNe y news → AllNe dy news → AllNe fx news → AllNe cx news → AllNe ca news → AllNe cb news →
      XofSpec prog w p loose mean mg mb [(fx, fnMade name qual params body scope clo doc pm cx ctv), (cx, ocx), (ca, oca), (cb, ocb)] fx as ks →
      Q (.ref y) { s with heap := h', toks := tk' }) :
    wpAny (model prog w) (ktrTop dp un gd cn (fsc nm ig ic mo) L a ccd cl outer) (call (.ref 840) [.bytes bs tb, .ref as]) Q E s := by
  refine unbox ?_
  simp +zetaDelta (disch := (k_dflt (k_extra "go spec_hashes"))) only [↓box_true]
end
section
variable {prog : Program} {w : World} {A : Around} {E : Value → Shared → Prop} {s : Shared} {h₀ : Heap} {c P L : Addr} {ps : Array Value} {m mg mb : Str → Option Value} {p : Program} {loose : List Str} {mean : ExcName → Option Value} {news : List (Addr × Obj)}
/-- a generator expression over a list whose every turn answers True -/
theorem gen_core {env : Env} {elt iter : Expr} {x : Str} {px : Pos} {scope : Scope} {cl : List (Str × Addr)} {pos : Pos} {Q : Value → Shared → Prop} {l : Addr} {items : Array Value} {bm : Addr} {ob : Obj} {f : Value → Array Value}
    (hok : s.heap.IsCode c P ps) (htab : s.heap.TableAt c P ps) (M : BMod s.heap env.globals mg bm ob) (hlim : s.heap.NoLimit) (G : AllBare s.gens) (hl : s.heap.IsList l items)
    (hh : A.handled = none) (hco : scope.isCoroutine = false) (hclos : closureFor scope env = pure cl) (hcell : ∀ y ∈ scope.names, y.2 ≠ .cell) (h0 : scope.names.lookup (".0" : Str) = some NameKind.local)
    (hx : scope.names.lookup x = some .local) (hkind : scope.kind = .function) (hroom : A.depth < recursionLimit) (hs : ∀ x, genFold iter env x = pure x)
    (hit : ∀ Q' : Value → Shared → Prop, Q' (.ref l) s → wpAny (model prog w) A (eval iter env) Q' E s)
    (hel : ∀ (A' : Around) (E' : Value → Shared → Prop) v (t : Shared) m₂ C code, A'.handled = none → v ∈ items → s.heap.objs.size ≤ C → t.heap.Ns C m₂ → m₂ x = some v → (∀ b o, b ≠ P → s.heap.get? b = some o → t.heap.get? b = some o) →
       wpAny (model prog w) A' (eval elt (genEnv scope cl C code builtinsNs env)) (fun y s₃ => y = .bool true ∧ Keeps t s₃) E' t)
    (hgc : ∀ (s₂ : Shared) (Q' : Value → Shared → Prop), s₂.heap.IsCode c P ps → s₂.heap.TableAt c P ps → (∀ code h' tk, Heap.ExtBut P s₂.heap h' → s₂.heap.objs.size ≤ h'.objs.size → h'.get? P = some (tabObj (f code)) → Q' code { s₂ with heap := h', toks := tk }) →
       wpAny (model prog w) A (genexprCode env pos (env.qual ++ "<genexpr>") scope) Q' E s₂)
    (hQ : ∀ a code n F K (s₅ : Shared), AllBare s₅.gens → s₅.os = s.os → (∀ b o, b ≠ P → s.heap.get? b = some o → s₅.heap.get? b = some o) → s₅.heap.get? P = some (tabObj (f code)) → s.heap.objs.size = K + 1 →
       (∀ j y, F j y → y = .bool true) → Gen prog w A K a n F s₅ → Q (.ref a) s₅) :
    wpAny (model prog w) A (eval (.GeneratorExp elt [⟨.Name x px, iter, [], 0⟩] scope pos) env) Q E s := by
  have hlt : l < s.heap.objs.size := by obtain ⟨_, e, _⟩ := hl; exact Heap.lt_size e
  have hPlt : P < s.heap.objs.size := Heap.lt_size htab.2
  have hlP : l ≠ P := fun e => by
    obtain ⟨o, ho, hc, _⟩ := hl
    rw [e, htab.2] at ho; cases ho; exact absurd hc (by simp)
  have hcP : cStatics ≠ P := fun e => by
    obtain ⟨_, hns, _⟩ := hlim
    obtain ⟨o, es, ep, ho, hd, _⟩ := hns
    rw [e, htab.2] at ho; cases ho; cases hd
  refine wpAny_GeneratorExp_walksQ hh hco hclos hcell h0 hx hkind hroom (hit _ (wpAny_pyIter_list hl ⟨hlim.push _, ?_⟩)) hs
  refine hgc _ _ (hok.push _) (htab.push _) fun code h₃ tk₃ hx₃ hge htP => ?_
  dsimp only at hx₃ hge ⊢
  have hsz : s.heap.objs.size + 1 ≤ h₃.objs.size := by rw [← Heap.size_push]; exact hge
  have M₃ : BMod h₃ env.globals mg bm ob := (M.keeps (fun _ _ e => Heap.get?_push_of_some _ e)).extBut (htab.push _) hx₃
  have hl₃ : h₃.NoLimit := (hlim.push _).extBut hx₃ hcP
  refine wpAny_builtinsFor M₃.ns M₃.name M₃.ne M₃.obj M₃.cls M₃.dict M₃.data ?_
  have hcst : cStatics < s.heap.objs.size := let ⟨_, hn, _⟩ := hlim; hn.lt
  refine ⟨s.heap.objs.size, [s.heap.objs.size, l], [s.heap.objs.size], items.size, _, _, fun _ => true, fun _ y => y = .bool true, rfl, (fun A' hA => Walks.list hA _ _ (Nat.ne_of_lt hlt) items),
    (Walks.list (prog := prog) (w := w) hh _ _ (Nat.ne_of_lt hlt) items).frame _ _ _ ⟨⟨_, Heap.get?_push_size _ rfl, rfl, rfl⟩, hl.push _⟩ (fun b hb o e => hx₃ b o (fun q => ?_) e), fun b hb => ?_, hl₃, fun hm => ?_, fun href hhref => ⟨?_, ?_⟩, fun a h₅ tk gs hgb hag hsz₅ hk₅ W hat => ?_⟩
  · simp only [List.mem_cons, List.not_mem_nil, or_false] at hb
    rcases hb with rfl | rfl
    · exact Nat.lt_irrefl _ (q ▸ hPlt)
    · exact hlP q
  · simp only [List.mem_cons, List.not_mem_nil, or_false] at hb
    show b < h₃.objs.size
    rcases hb with rfl | rfl
    · exact hsz
    · exact Nat.lt_of_lt_of_le (Nat.lt_succ_of_lt hlt) hsz
  · rw [List.mem_singleton.mp hm] at hcst
    exact Nat.lt_irrefl _ hcst
  · intro A' E' i v t m₂ _ _ _ _ _
    show wpAny _ _ (pure true) _ _ _
    exact wpAny_pure ⟨rfl, _, _, rfl, fun _ _ e => e⟩
  · intro A' E' i v t m₂ hA hP _ hn hm hkp
    refine hel A' E' v t m₂ h₃.objs.size code hA (Array.mem_of_getElem? hP) (Nat.le_of_succ_le hsz) hn hm fun b o hb e => ?_
    have e3 := hx₃ b o hb (Heap.get?_push_of_some _ e)
    refine hkp b (List.mem_range.mpr (Heap.lt_size e3)) (fun hw => ?_) o (hhref b o e3)
    rw [List.mem_singleton.mp hw] at e
    exact Nat.lt_irrefl _ (Heap.lt_size e)
  · obtain ⟨K, hK⟩ : ∃ K, s.heap.objs.size = K + 1 := ⟨s.heap.objs.size - 1, (Nat.succ_pred_eq_of_pos (Nat.lt_of_le_of_lt (Nat.zero_le _) hlt)).symm⟩
    refine hQ a code _ _ K _ (G.push hgb) rfl (fun b o hb e => hk₅ b o (hx₃ b o hb (Heap.get?_push_of_some _ e))) (hk₅ _ _ htP) hK (fun j y hy => ?_) ⟨_, _, _, _, W, hat, (fun i s' st => st.1.typeIs), List.mem_cons_self, ?_, ?_⟩
    · obtain ⟨_, _, hy⟩ := hy
      exact hy
    · intro b hb
      show b < h₅.objs.size
      rw [hsz₅]
      rcases List.mem_cons.mp hb with rfl | hb
      · exact Nat.lt_succ_self _
      · rcases List.mem_cons.mp hb with rfl | hb
        · exact Nat.lt_succ_of_lt hag
        · exact Nat.lt_succ_of_lt (Nat.lt_trans (List.mem_range.mp hb) hag)
    · intro b hb
      rcases List.mem_cons.mp hb with rfl | hb
      · exact Nat.lt_of_lt_of_le (Nat.lt_succ_self K) (Nat.le_trans (Nat.le_of_eq hK.symm) (Nat.le_of_succ_le hsz))
      · rw [List.mem_singleton.mp hb, hK]
        exact Nat.lt_succ_self K
end
theorem is_code {h : Heap} {c P : Addr} {ps : Array Value} (C : CodeHd h c P) (hP : h.get? P = some (tabObj ps)) (ht : TriplesOk ps.toList) : h.IsCode c P ps := by
  obtain ⟨o, vs, file, tf, flags, tg, inF, text, tt, e, _, hd, _, h11, h18, h7, h9, h10, hne⟩ := C
  exact ⟨o, vs, file, tf, flags, tg, inF, text, tt, tabObj ps, e, hd, h11, h18, h7, h9, h10, hP, rfl, ht, hne⟩
/-- one object of the ledger has changed, all else stands -/
theorem news_moved {h₀ h h' : Heap} {L P : Addr} {o o' : Obj} {news news' : List (Addr × Obj)} (N : News h₀ L h news) (k : ∀ b x, b ≠ P → h.get? b = some x → h'.get? b = some x) (hP : h'.get? P = some o') (U : Upd P o o' news news') : News h₀ L h' news' := by
  obtain ⟨pre, post, rfl, rfl, a, b⟩ := U.split
  intro q hq
  rcases List.mem_append.mp hq with hq | hq
  · exact ⟨k _ _ (a q hq) (N q (List.mem_append_left _ hq)).1, (N q (List.mem_append_left _ hq)).2⟩
  · rcases List.mem_cons.mp hq with rfl | hq
    · exact ⟨hP, (N _ (List.mem_append_right _ (.head _))).2⟩
    · exact ⟨k _ _ (b q hq) (N q (List.mem_append_right _ (.tail _ hq))).1, (N q (List.mem_append_right _ (.tail _ hq))).2⟩
theorem fr_moved {h₀ h h' : Heap} {L P : Addr} {m : Str → Option Value} {o : Obj} {news : List (Addr × Obj)} (F : Fr h₀ L h m) (N : News h₀ L h news) (hm : (P, o) ∈ news) (k : ∀ b x, b ≠ P → h.get? b = some x → h'.get? b = some x) : Fr h₀ L h' m :=
  ⟨F.ns.at' fun x e => k _ _ (fun q => (N _ hm).2.1 q.symm) e, fun b x e => k _ _ (fun q => by rw [q, (N _ hm).2.2] at e; cases e) (F.keep b x e), F.above⟩
section
variable {prog : Program} {w : World} {A : Around} {E : Value → Shared → Prop} {s : Shared} {h₀ : Heap} {c P L : Addr} {ps : Array Value} {m mg mb : Str → Option Value} {p : Program} {loose : List Str} {mean : ExcName → Option Value} {news : List (Addr × Obj)}
/-- what is known of the generator that all will ask -/
def AllTrue (prog : Program) (w : World) (A : Around) (a : Addr) (K : Nat) (s : Shared) : Prop := ∃ n F, (∀ (j : Nat) (y : Value), F j y → y = .bool true) ∧ Gen prog w A K a n F s
theorem gen_K {env : Env} {elt iter : Expr} {x : Str} {px : Pos} {scope : Scope} {cl : List (Str × Addr)} {pos : Pos} {Q : Value → Shared → Prop} {l : Addr} {items : Array Value} {n : Nat} {f : Value → Array Value} {news' : Value → List (Addr × Obj)}
    (F : Fr h₀ L s.heap m) (N : News h₀ L s.heap news) (T : Top p loose mean mg mb h₀) (C : CodeHd h₀ c P) (G : AllBare s.gens) (hg : env.globals = mainGlobals)
    (hmP : (P, tabObj ps) ∈ news) (ht : TriplesOk ps.toList) (hml : (l, PySem.W.listOf items n) ∈ news)
    (hh : A.handled = none) (hco : scope.isCoroutine = false) (hclos : closureFor scope env = pure cl) (hcell : ∀ y ∈ scope.names, y.2 ≠ .cell) (h0 : scope.names.lookup (".0" : Str) = some NameKind.local)
    (hx : scope.names.lookup x = some .local) (hkind : scope.kind = .function) (hroom : A.depth < recursionLimit) (hs : ∀ x, genFold iter env x = pure x)
    (hit : ∀ Q' : Value → Shared → Prop, Q' (.ref l) s → wpAny (model prog w) A (eval iter env) Q' E s)
    (hel : ∀ (A' : Around) (E' : Value → Shared → Prop) v (t : Shared) m₂ C' code, A'.handled = none → v ∈ items → Fr h₀ C' t.heap m₂ → m₂ x = some v → (∀ nw, (∀ q ∈ nw, q ∈ news ∧ q.1 ≠ P) → News h₀ C' t.heap nw) →
       wpAny (model prog w) A' (eval elt (genEnv scope cl C' code builtinsNs env)) (fun y s₃ => y = .bool true ∧ Keeps t s₃) E' t)
    (hgc : ∀ (s₂ : Shared) (Q' : Value → Shared → Prop), s₂.heap.IsCode c P ps → s₂.heap.TableAt c P ps → (∀ code h' tk, Heap.ExtBut P s₂.heap h' → s₂.heap.objs.size ≤ h'.objs.size → h'.get? P = some (tabObj (f code)) → Q' code { s₂ with heap := h', toks := tk }) →
       wpAny (model prog w) A (genexprCode env pos (env.qual ++ "<genexpr>") scope) Q' E s₂)
    (U : ∀ code, Upd P (tabObj ps) (tabObj (f code)) news (news' code))
    (hQ : ∀ a code K (s₅ : Shared), AllBare s₅.gens → s₅.os = s.os → Fr h₀ L s₅.heap m → News h₀ L s₅.heap (news' code) → s.heap.objs.size = K + 1 → AllTrue prog w A a K s₅ → (∀ q ∈ news' code, q.1 ≤ K) → L ≤ K → Q (.ref a) s₅) :
    wpAny (model prog w) A (eval (.GeneratorExp elt [⟨.Name x px, iter, [], 0⟩] scope pos) env) Q E s := by
  have C₁ : CodeHd s.heap c P := C.keeps F.keep
  have hP := (N _ hmP).1
  obtain ⟨bm, ob, b1, b2, b3, b4, b5, b6⟩ := T.bmain
  have M : BMod s.heap env.globals mg bm ob := ⟨hg ▸ T.g.keeps F.keep, b1, b2, F.keep _ _ b3, b4, b5, b6⟩
  refine gen_core (f := f) (is_code C₁ hP ht) (C₁.tab hP) M (T.nolimit.keeps F.keep) G ⟨_, (N _ hml).1, rfl, n, rfl⟩ hh hco hclos hcell h0 hx hkind hroom hs hit (fun A' E' v t m₂ C' code hA hv hC hn hm hk => ?_) hgc
    fun a code n' F' K s₅ G₅ hos hk hP₅ hK hF X => ?_
  · have hlC : L < C' := Nat.lt_of_lt_of_le F.ns.lt hC
    refine hel A' E' v t m₂ C' code hA hv ⟨hn, fun b o e => hk b o (fun q => by rw [q, (N _ hmP).2.2] at e; cases e) (F.keep b o e), Nat.le_trans F.above (Nat.le_of_lt hlC)⟩ hm fun nw hnw q hq => ?_
    obtain ⟨h1, h2⟩ := hnw q hq
    exact ⟨hk _ _ h2 (N q h1).1, Nat.ne_of_lt (Nat.lt_of_lt_of_le (Heap.lt_size (N q h1).1) hC), (N q h1).2.2⟩
  · have N₅ := news_moved N hk hP₅ (U code)
    refine hQ a code K s₅ G₅ hos (fr_moved F N hmP hk) N₅ hK ⟨n', F', hF, X⟩ (fun q hq => ?_) (Nat.le_of_lt_succ (Nat.lt_of_lt_of_le F.ns.lt (Nat.le_of_eq hK)))
    have hsub : ∃ o, s.heap.get? q.1 = some o := by
      obtain ⟨pre, post, e1, e2, _, _⟩ := (U code).split
      rw [e2] at hq
      rcases List.mem_append.mp hq with hq | hq
      · exact ⟨_, (N q (by rw [e1]; exact List.mem_append_left _ hq)).1⟩
      · rcases List.mem_cons.mp hq with rfl | hq
        · exact ⟨_, hP⟩
        · exact ⟨_, (N q (by rw [e1]; exact List.mem_append_right _ (.tail _ hq))).1⟩
    obtain ⟨o, ho⟩ := hsub
    exact Nat.le_of_lt_succ (Nat.lt_of_lt_of_le (Heap.lt_size ho) (Nat.le_of_eq hK))
theorem all_K {a : Addr} {K : Nat} {Q : Value → Shared → Prop} (F : Fr h₀ L s.heap m) (N : News h₀ L s.heap news) (G : AllBare s.gens) (X : AllTrue prog w A a K s) (hN : ∀ q ∈ news, q.1 ≤ K) (hL : L ≤ K)
    (h : ∀ s', AllBare s'.gens → s'.os = s.os → Fr h₀ L s'.heap m → News h₀ L s'.heap news → Q (.bool true) s') : wpAny (model prog w) A (call (.builtin "all") [.ref a]) Q E s := by
  obtain ⟨n, F', hF, X⟩ := X
  refine all_rowsK F G X hL (fun _ => true) (fun j v s Q E hv hQ => ?_) fun s' F₂ G₂ hos hk => ?_
  · obtain rfl := hF _ _ hv
    exact wpAny_truthy_bool hQ
  · have e : (List.range n).all (fun _ => true) = true := by simp
    rw [e]
    exact h s' G₂ hos F₂ fun q hq => ⟨hk _ _ (hN q hq) (N q hq).1, (N q hq).2⟩
theorem gc_new {env : Env} {pos : Pos} {scope : Scope} {qualname : Str} (hc : env.code = .ref c) (hnf : codeAmong pos ps.toList = none) (s₂ : Shared) (Q' : Value → Shared → Prop) (hok : s₂.heap.IsCode c P ps) (htab : s₂.heap.TableAt c P ps)
    (h : ∀ code h' tk, Heap.ExtBut P s₂.heap h' → s₂.heap.objs.size ≤ h'.objs.size → h'.get? P = some (tabObj (ps ++ #[rawInt pos.line, rawInt pos.col, code])) → Q' code { s₂ with heap := h', toks := tk }) :
    wpAny (model prog w) A (genexprCode env pos qualname scope) Q' E s₂ :=
  wpAny_genexprCodeX hc hok htab hnf fun c' h' tk hx hge hlt _ _ ht _ => h _ h' tk hx (Nat.le_trans hge (Nat.le_of_lt hlt)) ht.2
theorem gc_hit {env : Env} {pos : Pos} {scope : Scope} {qualname : Str} {c' : Value} (hc : env.code = .ref c) (hf : codeAmong pos ps.toList = some c') (s₂ : Shared) (Q' : Value → Shared → Prop) (hok : s₂.heap.IsCode c P ps) (htab : s₂.heap.TableAt c P ps)
    (h : ∀ code h' tk, Heap.ExtBut P s₂.heap h' → s₂.heap.objs.size ≤ h'.objs.size → h'.get? P = some (tabObj ps) → Q' code { s₂ with heap := h', toks := tk }) :
    wpAny (model prog w) A (genexprCode env pos qualname scope) Q' E s₂ :=
  wpAny_genexprCode_hit hc hok hf (h c' s₂.heap s₂.toks (fun _ _ _ e => e) (Nat.le_refl _) htab.2)
end
section
variable {M : Model} {A : Around} {E : Value → Shared → Prop} {s : Shared} {K : Frag} {h₀ : Heap} {C : Addr} {m₂ mg mb : Str → Option Value} {scope : Scope} {cl : List (Str × Addr)} {code : Value} {env : Env} {p : Program} {loose : List Str} {mean : ExcName → Option Value} {x : Str} {pos : Pos} {v : Value} {Q : Value → Shared → Prop}
theorem ge_own (F : Fr h₀ C s.heap m₂) (hx : m₂ x = some v) (h : Q v s) (hk : scope.kind = .function) (hl : (genEnv scope cl C code builtinsNs env).kindOf x = some .local) (hd : (x == ("__debug__" : Str)) = false := by decide) :
    wpAny M A (eval (.Name x pos) (genEnv scope cl C code builtinsNs env)) Q E s := wpAny_Name (wpAny_loadName_local (env := genEnv scope cl C code builtinsNs env) hk hl F.ns hx h) hd
theorem ge_global (F : Fr h₀ C s.heap m₂) (X : K.In h₀) (T : Top p loose mean mg mb h₀) (e : nsIn K mainGlobals x = some (some v)) (h : Q v s) (hg : env.globals = mainGlobals) (hk : scope.kind = .function) (hl : (genEnv scope cl C code builtinsNs env).kindOf x = some .globalImplicit) (hd : (x == ("__debug__" : Str)) = false := by decide) :
    wpAny M A (eval (.Name x pos) (genEnv scope cl C code builtinsNs env)) Q E s :=
  Name_function_global (env := genEnv scope cl C code builtinsNs env) hk hl (loadGlobal_global (env := genEnv scope cl C code builtinsNs env) (show s.heap.Ns env.globals mg from hg ▸ (T.keeps F.keep).g) (mg_of X T.g e) h) hd
theorem ge_built (F : Fr h₀ C s.heap m₂) (X : K.In h₀) (T : Top p loose mean mg mb h₀) (e : nsIn K mainGlobals x = some none) (hv : bootBuiltins x = some v) (hn : x ≠ "__name__") (h : Q v s) (hg : env.globals = mainGlobals) (hk : scope.kind = .function) (hl : (genEnv scope cl C code builtinsNs env).kindOf x = some .globalImplicit) (hd : (x == ("__debug__" : Str)) = false := by decide) :
    wpAny M A (eval (.Name x pos) (genEnv scope cl C code builtinsNs env)) Q E s :=
  Name_function_global (env := genEnv scope cl C code builtinsNs env) hk hl (loadGlobal_builtin (env := genEnv scope cl C code builtinsNs env) (show s.heap.Ns env.globals mg from hg ▸ (T.keeps F.keep).g) (mg_none_of X T.g e) (show s.heap.Ns builtinsNs mb from (T.keeps F.keep).b) ((T.builtins x hn).trans hv) h) hd
end
section
local macro_rules | `(tactic| walk_at "eval Name") => `(tactic| (k_here; (with_reducible show wpAny _ _ (eval (Expr.Name _ _) (genEnv _ _ _ _ _ _)) _ _ _); k_dflt (first
  | refine ge_own (by k_asm) (by assumption) ?_ (by assumption) (by assumption)
  | refine ge_global (by k_asm) (by k_asm) (by k_asm) (by k_is) ?_ (by assumption) (by assumption) (by assumption)
  | refine ge_built (by k_asm) (by k_asm) (by k_asm) (by k_is) (by boot_by_name) (by decide) ?_ (by assumption) (by assumption) (by assumption))))
variable {prog : Program} {w : World} {A : Around} {E : Value → Shared → Prop} {t : Shared} {h₀ : Heap} {C : Addr} {m₂ mg mb : Str → Option Value} {scope : Scope} {cl : List (Str × Addr)} {code : Value} {env : Env} {p : Program} {loose : List Str} {mean : ExcName → Option Value} {x : Str}
theorem lay_isi_gen : True := by
  (k_with "go isi_gen" =>
    k_steps
    exact ⟨t.heap, t.toks, rfl, fun _ _ e => e⟩)
  trivial
theorem isi_gen {y dy : Addr} {es : List DictEntry} {n : Nat} {p1 p2 p3 p4 : Pos} (F : Fr h₀ C t.heap m₂) (X : (hd.heap_1 w.params).In h₀) (N : News h₀ C t.heap [(y, instObj 424 dy), (dy, dictOf es n)]) (T : Top p loose mean mg mb h₀) (hm : m₂ (Str.ofString "aij") = some (.ref y))
    (hg : env.globals = mainGlobals) (hk : scope.kind = .function) (k1 : (genEnv scope cl C code builtinsNs env).kindOf (Str.ofString "isinstance") = some .globalImplicit) (k2 : (genEnv scope cl C code builtinsNs env).kindOf (Str.ofString "aij") = some .local)
    (k3 : (genEnv scope cl C code builtinsNs env).kindOf (Str.ofString "GenericPolynomial") = some .globalImplicit) :
    wpAny (model prog w) A (eval (Expr.Call (Expr.Name (Str.ofString "isinstance") p1) [Expr.Name (Str.ofString "aij") p2, Expr.Name (Str.ofString "GenericPolynomial") p3] [] p4) (genEnv scope cl C code builtinsNs env)) (fun v s₃ => v = .bool true ∧ Keeps t s₃) E t := by
  refine unbox ?_
  simp +zetaDelta (disch := (k_dflt (k_extra "go isi_gen"))) only [↓box_true]
end
section
variable (prog : Program) (w : World) (A : Around) (E : Value → Shared → Prop) (h₀ : Heap) (env : Env) (x : Str) (body : List Stmt) (Q : Flow → Shared → Prop) (lp : Addr × Obj) (s : Shared) (I : Addr)
/-- a turn has ended -/
def TurnG (h₀ : Heap) (L : Addr) (lp : Addr × Obj) (s : Shared) (I : Addr) (it : Obj) (rest : (Str → Option Value) → List (Addr × Obj) → Prop) (s₃ : Shared) : Prop :=
  ∃ m' news', AllBare s₃.gens ∧ s₃.os = s.os ∧ Fr h₀ L s₃.heap m' ∧ News h₀ L s₃.heap ((I, it) :: news') ∧ (∀ p ∈ news', p.1 ≠ I) ∧ lp ∈ news' ∧ rest m' news'
def PostG (h₀ : Heap) (L : Addr) (lp : Addr × Obj) (s : Shared) (I : Addr) (it : Obj) (rest : (Str → Option Value) → List (Addr × Obj) → Prop) (Q : Flow → Shared → Prop) (f : Flow) (s₃ : Shared) : Prop :=
  match f with
  | .ret v => Q (.ret v) s₃
  | .brk => Q .next s₃
  | _ => TurnG h₀ L lp s I it rest s₃
/-- the turns that are left of a loop over a list, the state in full -/
def RestG : List Value → (Str → Option Value) → List (Addr × Obj) → Prop
  | [], m, news => ∀ s', AllBare s'.gens → s'.os = s.os → Fr h₀ env.locals s'.heap m → News h₀ env.locals s'.heap news → Q .next s'
  | v :: r, m, news => ∀ (it : Obj) s', it.cls = .type "list_iterator" → AllBare s'.gens → s'.os = s.os → Fr h₀ env.locals s'.heap (fun y => if y = x then some v else m y) → News h₀ env.locals s'.heap ((I, it) :: news) →
      wpAny (model prog w) A (execs body env) (PostG h₀ env.locals lp s I it (RestG r) Q) E s'
end
section
variable {prog : Program} {w : World} {A : Around} {E : Value → Shared → Prop} {h₀ : Heap} {env : Env} {x : Str} {body : List Stmt} {Q : Flow → Shared → Prop} {lp : Addr × Obj} {s : Shared} {I : Addr} {m : Str → Option Value} {news : List (Addr × Obj)}
theorem RestG.zero (h : ∀ s', AllBare s'.gens → s'.os = s.os → Fr h₀ env.locals s'.heap m → News h₀ env.locals s'.heap news → Q .next s') : RestG prog w A E h₀ env x body Q lp s I [] m news := h
theorem RestG.succ {v : Value} {r : List Value} (h : ∀ (it : Obj) s', it.cls = .type "list_iterator" → AllBare s'.gens → s'.os = s.os → Fr h₀ env.locals s'.heap (fun y => if y = x then some v else m y) → News h₀ env.locals s'.heap ((I, it) :: news) →
      wpAny (model prog w) A (execs body env) (PostG h₀ env.locals lp s I it (RestG prog w A E h₀ env x body Q lp s I r) Q) E s') : RestG prog w A E h₀ env x body Q lp s I (v :: r) m news := h
theorem TurnG.intro {L : Addr} {it : Obj} {rest : (Str → Option Value) → List (Addr × Obj) → Prop} {s₃ : Shared} {m' : Str → Option Value} {news' : List (Addr × Obj)} (F : Fr h₀ L s₃.heap m') (N : News h₀ L s₃.heap ((I, it) :: news')) (G : AllBare s₃.gens) (ho : s₃.os = s.os)
    (off : ∀ p ∈ news', p.1 ≠ I) (hm : lp ∈ news') (r : rest m' news') : TurnG h₀ L lp s I it rest s₃ := ⟨m', news', G, ho, F, N, off, hm, r⟩
theorem For_listG {px pos : Pos} {iter : Expr} {l : Addr} {lo : Obj} {vs : List Value} {n : Nat} (F : Fr h₀ env.locals s.heap m) (N : News h₀ env.locals s.heap news) (G : AllBare s.gens) (hh : A.handled = none) (hx : env.kindOf x = some .local)
    (hp : (env.scope.kind == .class || (env.scope.kind == .module && env.locals != env.globals)) = false)
    (hit : ∀ Q' : Value → Shared → Prop, Q' (.ref l) s → wpAny (model prog w) A (eval iter env) Q' E s) (hm : (l, lo) ∈ news) (hc : lo.cls = .type "list") (hd : lo.data = .seq vs.toArray n)
    (hs : ∀ x, foldedSetIterable iter env x = pure x) (hE : PassesOwn (model prog w) A env E)
    (h : ∀ I : Addr, (∀ p ∈ news, p.1 < I) → RestG prog w A E h₀ env x body Q (l, lo) s I vs m news) :
    wpAny (model prog w) A (exec (.For (.Name x px) iter body [] pos) env) Q E s := by
  have hax := N _ hm
  have hl : s.heap.IsList l vs.toArray := ⟨lo, hax.1, hc, n, hd⟩
  have hlt : l < s.heap.objs.size := Heap.lt_size hax.1
  have W := Walks.list (prog := prog) (w := w) hh s.heap.objs.size l (Nat.ne_of_lt hlt) vs.toArray
  have hsz : vs.toArray.size = vs.length := by simp
  rw [hsz] at W
  have hIL : s.heap.objs.size ≠ env.locals := Nat.ne_of_gt F.ns.lt
  have hI0 : h₀.get? s.heap.objs.size = none := by
    cases e : h₀.get? s.heap.objs.size with
    | none => rfl
    | some o => exact absurd (Nat.lt_of_lt_of_le (Nat.lt_of_lt_of_le (Heap.lt_size e) F.above) (Nat.le_of_lt F.ns.lt)) (Nat.lt_irrefl _)
  refine wpAny_For (hit _ (wpAny_pyIter_list hl ?_)) hs
  refine codeAny_forLoop (fun k s' => ∃ i m' news', AllBare s'.gens ∧ s'.os = s.os ∧ (s'.heap.IsListIter s.heap.objs.size l i ∧ s'.heap.IsList l vs.toArray) ∧ Fr h₀ env.locals s'.heap m' ∧ News h₀ env.locals s'.heap news' ∧ (l, lo) ∈ news' ∧ (∀ p ∈ news', p.1 ≠ s.heap.objs.size) ∧
      RestG prog w A E h₀ env x body Q (l, lo) s s.heap.objs.size (vs.drop i) m' news' ∧ i ≤ vs.length ∧ k = vs.length + 1 - i) ?_ (vs.length + 1)
    ⟨0, m, news, G, rfl, ⟨⟨_, Heap.get?_push_size _ rfl, rfl, rfl⟩, hl.push _⟩, F.push _, fun p hp => ⟨Heap.get?_push_of_some _ (N p hp).1, (N p hp).2⟩, hm, fun p hp => Nat.ne_of_lt (Heap.lt_size (N p hp).1), h _ fun p hp => Heap.lt_size (N p hp).1, Nat.zero_le _, rfl⟩
  rintro k s' ⟨i, m', news', hb, ho, hst, F', N', hm', hoff, hR, hi, rfl⟩
  have step : ∀ h₁ : Heap, (∀ b o, b ∉ [s.heap.objs.size] → s'.heap.get? b = some o → h₁.get? b = some o) → Fr h₀ env.locals h₁ m' ∧ News h₀ env.locals h₁ news' := fun h₁ hk =>
    ⟨⟨F'.ns.at' fun o e => hk _ o (fun q => hIL (List.mem_singleton.mp q).symm) e, fun b o e => hk b o (fun q => by rw [List.mem_singleton.mp q, hI0] at e; cases e) (F'.keep b o e), F'.above⟩,
      fun p hp => ⟨hk _ _ (fun q => hoff p hp (List.mem_singleton.mp q)) (N' p hp).1, (N' p hp).2⟩⟩
  by_cases hlt' : i < vs.length
  · refine W.item i _ _ _ hlt' hst fun v h₁ tk₁ hP hst₁ hk₁ => ?_
    obtain ⟨F₁, N₁⟩ := step h₁ hk₁
    obtain ⟨it, hitg, hitc, hitd⟩ := hst₁.1
    have hdrop : vs.drop i = v :: vs.drop (i + 1) := by
      have hv : vs[i]? = some v := by simpa using hP
      rw [List.drop_eq_getElem_cons hlt']
      congr 1
      exact Option.some.inj ((List.getElem?_eq_getElem hlt').symm.trans hv)
    rw [hdrop] at hR
    have N₂ : News h₀ env.locals h₁ ((s.heap.objs.size, it) :: news') := fun p hp => by
      rcases List.mem_cons.mp hp with rfl | hp
      · exact ⟨hitg, hIL, hI0⟩
      · exact N₁ p hp
    refine wpAny_assign_Name (wpAny_storeName_local hx F₁.ns (fun h₂ hn hs₂ => ?_) hp)
    refine wpAny_passesOwn hE (wpAny_mono (hR it _ hitc hb ho (F₁.set hn hs₂) (N₂.set hs₂)) (fun f s₃ h₃ => ?_) fun _ _ e => e)
    have fin : TurnG h₀ env.locals (l, lo) s s.heap.objs.size it (RestG prog w A E h₀ env x body Q (l, lo) s s.heap.objs.size (vs.drop (i + 1))) s₃ → ∃ k', k' < vs.length + 1 - i ∧ ∃ i m' news', AllBare s₃.gens ∧ s₃.os = s.os ∧ (s₃.heap.IsListIter s.heap.objs.size l i ∧ s₃.heap.IsList l vs.toArray) ∧ Fr h₀ env.locals s₃.heap m' ∧ News h₀ env.locals s₃.heap news' ∧ (l, lo) ∈ news' ∧ (∀ p ∈ news', p.1 ≠ s.heap.objs.size) ∧
        RestG prog w A E h₀ env x body Q (l, lo) s s.heap.objs.size (vs.drop i) m' news' ∧ i ≤ vs.length ∧ k' = vs.length + 1 - i := by
      rintro ⟨m₃, news₃, hb₃, ho₃, F₃, N₃, off₃, hm₃, R₃⟩
      exact ⟨vs.length + 1 - (i + 1), by omega, i + 1, m₃, news₃, hb₃, ho₃, ⟨⟨it, (N₃ _ (.head _)).1, hitc, hitd⟩, ⟨lo, (N₃ _ (.tail _ hm₃)).1, hc, n, hd⟩⟩, F₃, fun p hp => N₃ p (.tail _ hp), hm₃, off₃, R₃, hlt', rfl⟩
    cases f with
    | ret v => exact h₃
    | brk => exact h₃
    | next => exact fin h₃
    | cont => exact fin h₃
  · have hin : i = vs.length := by omega
    subst hin
    refine W.done _ _ _ hst fun h₁ tk₁ hk₁ => wpAny_execs_nil ?_
    obtain ⟨F₁, N₁⟩ := step h₁ hk₁
    rw [List.drop_length] at hR
    exact hR _ hb ho F₁ N₁
end
theorem news_two {h₀ : Heap} {L : Addr} {own news own' n1 n2 : List (Addr × Obj)} {h h' : Heap} {x x2 : Addr} {oa oa' op op' : Obj} (N : News h₀ L h news) (sub : ∀ q ∈ own, q ∈ news) (k : ∀ q ∈ news, q.1 ∉ own.map (·.1) → h'.get? q.1 = some q.2)
    (N' : News h₀ L h' own') (hx : (x, oa') ∈ own') (hx2 : (x2, op') ∈ own') (ho : ∀ q ∈ own, q.1 ≠ x → q.1 ≠ x2 → q ∈ own') (U : Upd x oa oa' news n1) (U2 : Upd x2 op op' n1 n2) : News h₀ L h' n2 := by
  have keep : ∀ q ∈ news, q.1 ≠ x → q.1 ≠ x2 → h'.get? q.1 = some q.2 ∧ q.1 ≠ L ∧ h₀.get? q.1 = none := fun q hq hne hne2 => by
    by_cases hm : q.1 ∈ own.map (·.1)
    · obtain ⟨r, hr, e⟩ := List.mem_map.mp hm
      have e1 := (N q hq).1
      have e2 := (N r (sub r hr)).1
      have e3 : r.1 = q.1 := e
      rw [e3, e1] at e2
      have e4 : r.2 = q.2 := (Option.some.inj e2).symm
      have e5 := (N' r (ho r hr (fun h => hne (e3.symm.trans h)) (fun h => hne2 (e3.symm.trans h)))).1
      rw [e3, e4] at e5
      exact ⟨e5, (N q hq).2⟩
    · exact ⟨k q hq hm, (N q hq).2⟩
  have m1 : ∀ q ∈ n1, q.1 ≠ x2 → h'.get? q.1 = some q.2 ∧ q.1 ≠ L ∧ h₀.get? q.1 = none := fun q hq hne2 => by
    obtain ⟨pre, post, e1, e2, a, b⟩ := U.split
    subst e1 e2
    rcases List.mem_append.mp hq with hq | hq
    · exact keep q (List.mem_append_left _ hq) (a q hq) hne2
    · rcases List.mem_cons.mp hq with rfl | hq
      · exact N' _ hx
      · exact keep q (List.mem_append_right _ (.tail _ hq)) (b q hq) hne2
  obtain ⟨pre, post, e1, e2, a, b⟩ := U2.split
  subst e1 e2
  intro q hq
  rcases List.mem_append.mp hq with hq | hq
  · exact m1 q (List.mem_append_left _ hq) (a q hq)
  · rcases List.mem_cons.mp hq with rfl | hq
    · exact N' _ hx2
    · exact m1 q (List.mem_append_right _ (.tail _ hq)) (b q hq)
/-- what the ledger is behind a call that wrote x and x2 alone -/
def Back2 (h₀ : Heap) (L : Addr) (own news : List (Addr × Obj)) (x x2 : Addr) (h' : Heap) : Prop :=
  ∀ own' oa oa' op op' n1 n2, News h₀ L h' own' → (x, oa') ∈ own' → (x2, op') ∈ own' → (∀ q ∈ own, q.1 ≠ x → q.1 ≠ x2 → q ∈ own') → Upd x oa oa' news n1 → Upd x2 op op' n1 n2 → News h₀ L h' n2
section
variable {prog : Program} {w : World} {A₀ A : Around} {s : Shared} {base h₀ : Heap} {outer : List Env} {L : Addr} {m mg mb : Str → Option Value} {env : Env} {K : Frag} {p : Program} {loose : List Str} {mean : ExcName → Option Value}
  {R : Result → Shared → Prop} {name qual : Str} {params : Arguments} {body : List Stmt} {scope : Scope} {dV kV doc pm cdv ct oc : Value} {an od : Option Addr} {osl : Array (Option Value)} {f : Addr} {args : Args} {binds : List (Str × Value)} {own news : List (Addr × Obj)}
/-- a call whose names are captured; it may change the objects «own» of the ledger -/
theorem semi_cellsB (x x2 : Addr)
    (B : Below A₀ base outer h₀) (F : Fr h₀ L s.heap m) (X₀ : K.In h₀) (N : News h₀ L s.heap news) (sub : ∀ q ∈ own, q ∈ news) (T : Top p loose mean mg mb h₀)
    (hA : A.frames = some (env :: outer)) (hf : env.frame = some L) (hke : env.scope.kind = .function)
    (ho : K.lookup f = some ⟨oc, od, .func (fnOf name qual params body scope dV kV doc pm an cdv ct), osl⟩) (hcd : codeIn K cdv qual = true) (hroom : A.depth < recursionLimit)
    (hbind : BindsTo s (fnOf name qual params body scope dV kV doc pm an cdv ct) args binds) (hkind : (binds.all fun y => scope.names.lookup y.1 == some .local || scope.names.lookup y.1 == some .cell) = true)
    (hnd : ((cellsFrom 0 scope.names []).map (·.1)).Nodup)
    (h : ∀ g L' h₁ tk cells, Fr h₀ L g m → Fr g L' h₁ (bindL (envOfC qual scope L' f cdv).kindOf binds fun _ => none) → News g L' h₁ (cells ++ own) →
      CellsAre (bindC (envOfC qual scope L' f cdv).kindOf binds fun _ => none) (cellsFrom (L' + 1) scope.names []) cells → Below A base (env :: outer) g → K.In g → Top p loose mean mg mb g → (∀ q ∈ own, q.1 < L') →
      wpAny (model prog w) (A.deeper (envOfC qual scope L' f cdv)) (execs body (envOfC qual scope L' f cdv))
        (fun fl s' => LeaveK h₀ L m g (fun r s'' => Back2 h₀ L own news x x2 s''.heap → R r s'') (match fl with | .ret v => v | _ => .none) s')
        (fun _ _ => False)
        { s with heap := h₁, toks := tk })
    (hco : scope.isCoroutine = false) (hgen : scope.isGenerator = false) (hk : scope.kind = .function) : codeAny (model prog w) A (.call (.ref f) args) R s := by
  have No : News h₀ L s.heap own := fun q hq => N q (sub q hq)
  obtain ⟨FG, BG, st, lv⟩ := groundX (R := R) B F No hA hf hke
  have hg : ∀ q ∈ news, q.1 ∉ own.map (·.1) → (hideAll s.heap (own.map (·.1))).get? q.1 = some q.2 := fun q hq hm => hideAll_get _ (N q hq).1 hm
  have ho' : s.heap.get? f = some ⟨oc, od, .func (fnOf name qual params body scope dV kV doc pm an cdv ct), osl⟩ := (X₀.keeps F.keep) _ _ ho
  refine codeAny_call_function hroom ho' rfl hco hgen rfl (codeRec_of (X₀.keeps F.keep) hcd) (hbind _ _ _ _ ?_)
  refine wpAny_newFunctionEnv_cells hk (kindsX hkind _) fun env' he s' x => ?_
  subst he
  refine ⟨(T.nolimit.keeps F.keep).keeps x.toInCall.keep, codeAny_func ?_⟩
  obtain ⟨h₁, tk, rfl, _⟩ := x.done
  have hk₁ := x.toInCall.keep
  obtain ⟨cells, NC, Y⟩ := Cl.news (h₀ := s.heap) (Nat.le_refl _) fun n c hm => ⟨x.cell n c (lookup_of_mem_nodup (cellsFrom_names scope.names 0 (s.heap.objs.size + 1) [] [] rfl ▸ hnd) hm), x.above n c hm⟩
  refine wpAny_mono (h _ s.heap.objs.size h₁ tk cells FG ⟨x.toInCall.ns, fun b o e => hk₁ b o (of_hideAll _ e), Nat.le_of_eq (hideAll_size _ _)⟩ (fun q hq => ?_) Y BG (X₀.keeps st) (T.keeps st) (fun q hq => Heap.lt_size (No q hq).1))
    (fun fl s' hl => lv _ _ ?_) fun _ _ y => y.elim
  · rcases List.mem_append.mp hq with hq | hq
    · refine ⟨(NC q hq).1, (NC q hq).2.1, ?_⟩
      cases e : (hideAll s.heap (own.map (·.1))).get? q.1 with
      | none => rfl
      | some o => have := of_hideAll _ e; rw [(NC q hq).2.2] at this; cases this
    · exact ⟨hk₁ _ _ (No q hq).1, Nat.ne_of_lt (Heap.lt_size (No q hq).1), hideAll_none _ (List.mem_map_of_mem hq)⟩
  · obtain ⟨L', m', news', F', N', k⟩ := hl
    exact ⟨L', m', news', F', N', fun F₂ N₂ => k F₂ N₂ fun own' oa oa' op op' n1 n2 N3 hx hx2 ho U U2 => news_two N sub (fun q hq hm => F'.keep q.1 q.2 (hg q hq hm)) N3 hx hx2 ho U U2⟩
end
/-- the fields of the scheme -/
abbrev kemEs (P : Params) (k : Int) (t1 t2 t3 t4 t5 t6 t7 t8 u1 u2 u3 u4 u5 : Tok) (M R H : Addr) : List DictEntry :=
  [⟨PyData.keyHash P (Str.ofString "k"), .str (Str.ofString "k") t1, .int k u1⟩, ⟨PyData.keyHash P (Str.ofString "eta_1"), .str (Str.ofString "eta_1") t2, .int 2 u2⟩,
   ⟨PyData.keyHash P (Str.ofString "eta_2"), .str (Str.ofString "eta_2") t3, .int 2 u3⟩, ⟨PyData.keyHash P (Str.ofString "du"), .str (Str.ofString "du") t4, .int 4 u4⟩,
   ⟨PyData.keyHash P (Str.ofString "dv"), .str (Str.ofString "dv") t5, .int 4 u5⟩, ⟨PyData.keyHash P (Str.ofString "M"), .str (Str.ofString "M") t6, .ref M⟩,
   ⟨PyData.keyHash P (Str.ofString "R"), .str (Str.ofString "R") t7, .ref R⟩, ⟨PyData.keyHash P (Str.ofString "hashes"), .str (Str.ofString "hashes") t8, .ref H⟩]
/-- the fields of a matrix -/
abbrev matEs (P : Params) (t1 t2 t3 : Tok) (M D : Addr) (tr : Bool) : List DictEntry :=
  [⟨PyData.keyHash P (Str.ofString "parent"), .str (Str.ofString "parent") t1, .ref M⟩, ⟨PyData.keyHash P (Str.ofString "_data"), .str (Str.ofString "_data") t2, .ref D⟩,
   ⟨PyData.keyHash P (Str.ofString "_transpose"), .str (Str.ofString "_transpose") t3, .bool tr⟩]
theorem wpAt_MethodCallKW {M : Model} {A : Around} {c : Code} {E : Value → Shared → Prop} {s : Shared} {env : Env} {o : Expr} {name : Str} {apos pos : Pos} {args : List Expr} {kws : List Keyword} {pl : Sem Bool} {Q : Value → Shared → Prop}
    (h : PySem.wpAt M A c (attributeBase o name env (eval o env)) (fun ov s₁ => wpAny M A (getMethod ov name pl) (fun fx s₂ => wpAny M A (callWith pos fx.1 fx.2 (backTo pos (starEach args env)) (backToKw pos (keywordEach kws env))) Q E s₂) E s₁) E s)
    (he : eval (.Call (.Attribute o name apos) args kws pos) env = (do
      let ov ← attributeBase o name env (eval o env)
      standAt apos.atName
      let (f, first) ← holding [ov] (getMethod ov name pl)
      callWith pos f first (backTo pos (starEach args env)) (backToKw pos (keywordEach kws env))) := by rfl) :
    PySem.wpAt M A c (eval (.Call (.Attribute o name apos) args kws pos) env) Q E s := by
  rw [he]
  exact PySem.wpAt_bind (PySem.wpAt_mono h (fun ov s₁ h₁ => PySem.wpAt_of_wpAny (wpAny_bind (wpAny_standAt (wpAny_bind (wpAny_holding (wpAny_mono h₁ (fun fx s₂ h₂ => h₂) fun _ _ x => x)))))) fun _ _ x => x)
theorem callWith_MKW {M : Model} {A : Around} {E : Value → Shared → Prop} {s : Shared} {K : Frag} {h₀ : Heap} {L : Addr} {news : List (Addr × Obj)} {env : Env} {pos : Pos} {q g : Addr} {self : Value} {first : List Value} {Q : Value → Shared → Prop} {e : Expr} {rest : List Expr} {kws : List Keyword}
    (_X : K.In h₀) (_N : News h₀ L s.heap news) (_q : (q, methodObj (.ref g) self) ∈ news) (hf : fnIn K g = true) (hall : (backToKw pos (keywordEach kws env)).all (·.1.isSome) = true)
    (h : wpAny M A (spliced (backTo pos (starEach (e :: rest) env))) (fun vs s₁ => wpAny M A (evalAll ((backToKw pos (keywordEach kws env)).map (·.2)))
      (fun ks s₂ => MethP K q g self s₂.heap ∧ wpAny M A (call (.ref q) (first ++ vs) (((backToKw pos (keywordEach kws env)).filterMap (·.1)).zip ks)) Q E s₂) E s₁) E s)
    (hplain : ((backTo pos (starEach (e :: rest) env)).any (·.1) || (backToKw pos (keywordEach kws env)).any (·.1.isNone)) = false := by rfl) (he : starEach (e :: rest) env = (false, eval e env) :: starEach rest env := by rfl) :
    wpAny M A (callWith pos (.ref q) first (backTo pos (starEach (e :: rest) env)) (backToKw pos (keywordEach kws env))) Q E s :=
  callWith_of hplain (keeps_M hf) (evalArgs_kw2 hall h he)
theorem mem_one {v a : Value} (h : v ∈ #[a]) : v = a := by simpa using h
theorem mem_two {v a b : Value} (h : v ∈ #[a, b]) : v = a ∨ v = b := by simpa using h
theorem one_byte {j : Int} (h0 : 0 ≤ j) (h1 : j < 256) : KBw.bInts #[j.toNat.toUInt8] = [j] := by
  simp only [KBw.bInts, List.map_cons, List.map_nil]
  rw [byte_back h0 h1]
theorem os_len {rho : List Int} (h : rho.length = 32) (j i : Int) : (rho ++ [j] ++ [i]).length = 34 := by simp [h]
theorem os_32 {rho : List Int} (h : rho.length = 32) (j i : Int) : (rho ++ [j] ++ [i]).getD 32 0 = j := by simp [List.getD_eq_getElem?_getD, h]
theorem os_33 {rho : List Int} (h : rho.length = 32) (j i : Int) : (rho ++ [j] ++ [i]).getD 33 0 = i := by simp [List.getD_eq_getElem?_getD, h]
theorem xof_use {prog : Program} {w : World} {p : Program} {loose : List Str} {mean : ExcName → Option Value} {mg mb : Str → Option Value} {own : List (Addr × Obj)} {fx as : Addr} {ks : List Int} (xs : XofSpec prog w p loose mean mg mb own fx as ks)
    {dp un : Nat} {gd : Option (List Code)} {cn : Str} {cs : Scope} {a : Addr} {ccd : Value} {cl : List (Str × Addr)} {outer : List Env} {A₀ : Around} {base h₀ : Heap} {L : Addr} {m : Str → Option Value} {news news' : List (Addr × Obj)} {s : Shared}
    {Q E : Value → Shared → Prop} {b : Array UInt8} {rho : List Int} {j i : Int} {tb : Tok} {its : Array Value} {n q : Nat}
    (B : Below A₀ base outer h₀) (F : Fr h₀ L s.heap m) (X : (hd.heap_1 w.params).In h₀) (N : News h₀ L s.heap news) (T : Top p loose mean mg mb h₀) (hk : cs.kind = .function)
    (sub : ∀ q ∈ own, q ∈ news) (hm : (as, PySem.W.listOf its n) ∈ news) (hb : KBw.bInts b = rho ++ [j] ++ [i]) (hr : rho.length = 32) (hj : j < 2) (hi : i < 2) (hq : (j + 2 * i).toNat = q) (hz : its.size ≤ 100) (hroom : dp + 3 < recursionLimit)
    (U : Upd as (PySem.W.listOf its n) (PySem.W.listOf (its.push (.bytes b tb)) (n + 1)) news news')
    (ret : ∀ h' tk' t', Fr h₀ L h' m → News h₀ L h' news' → KBw.bInts b = rho ++ [j] ++ [i] → Q (.bytes (bytesOf (rot ks (210 * q))).toArray t') { s with heap := h', toks := tk' }) :
    wpAny (model prog w) (ktrTop dp un gd cn cs L a ccd cl outer) (call (.ref fx) [.bytes b tb]) Q E s :=
  xs B F X N T hk sub hm hb (os_len hr j i) (by rw [os_32 hr]; exact hj) (by rw [os_33 hr]; exact hi) hz hroom U fun c h' tk' t' F' N' hc => by
    rw [os_32 hr, os_33 hr, hq] at hc
    rw [of_bInts hc]
    exact ret h' tk' t' F' N' hb
local macro_rules | `(tactic| walk_at "call ref") => `(tactic| (k_here; (with_reducible show wpAny _ _ (PySem.call (Value.ref 636) _ _) _ _ _); k_dflt (refine' call_cls ?k1 ?k2 ?k3 ?k4 ?k5 ?k6 ?_; (case k1 => k_asm); (case k2 => k_asm); (case k3 => k_asm); (case k4 => k_is); (case k5 => k_is); (case k6 => k_is); intro x' d' h' F' N' l1 l2; (try k_lt2 l2); (try k_sweep); refine' ks_code_super ?k1 ?k2 ?k3 ?k4 ?k5 ?kA ?kF ?kK ?k6 ?k7 ?k8 ?k9 ?kB ?_ ?c1 ?c2 ?c3 ?c4; (case kA => exact rfl); (case kF => exact rfl); (case kK => exact rfl); (case k1 => k_asm); (case k2 => k_asm); (case k3 => k_asm); (case k4 => k_asm); (case k5 => k_asm); (case k6 => k_is); (case k7 => k_is); (case k8 => k_room); (case k9 => exact kp_binds (by k_in) (fun _ => rfl)); (case kB => exact locs rfl); (case c1 => decide); (case c2 => exact rfl); (case c3 => exact rfl); (case c4 => exact rfl); intro g' L' h' FG' F' N' B' X' T' l1; (try dsimp only); (try k_lift B'))))
local macro_rules | `(tactic| walk_at "exec For Name Name cons nil") => `(tactic| (k_here; k_dflt (refine' For_listG ?F ?N ?G ?hh ?x ?p ?i ?m ?c ?d ?s ?E ?_; (case F => k_asm); (case N => k_asm); (case i => (intro Q9 h9; refine' nameX_L ?F8 ?v ?h ?a ?b; (case F8 => k_asm); (case a => rfl); (case b => rfl); (case v => rfl); (case h => exact h9))); (case m => k_mem); (case c => rfl); (case d => rfl); (case G => k_asm); (case hh => with_unfolding_all rfl); (case x => rfl); (case p => rfl); (case s => (intro _; with_unfolding_all rfl)); (case E => passes_own); k_whole); intro I9 lI9))
local macro_rules | `(tactic| walk_at "eval GeneratorExp") => `(tactic| (k_here; k_dflt (first
  | (refine' gen_K ?F ?N ?T ?C ?G ?g ?P ?t ?l ?hh ?co ?cl ?ce ?h0 ?x ?k ?r ?s ?i ?e (gc_new ?c1 ?c2) ?U ?_; (case F => k_asm); (case N => k_asm); (case T => k_asm); (case C => kn_code); (case c1 => exact rfl); (case i => (intro Q9 h9; refine' nameX_L ?F8 ?v ?h ?a ?b; (case F8 => k_asm); (case a => rfl); (case b => rfl); (case v => rfl); (case h => exact h9))); (case P => k_mem); (case c2 => kn_among); (case G => k_asm); (case g => exact rfl); (case t => kn_triples); (case l => k_mem); (case hh => with_unfolding_all rfl); (case co => rfl); (case cl => with_unfolding_all rfl); (case ce => decide); (case h0 => rfl); (case x => rfl); (case k => rfl); (case r => ktr_room); (case s => (intro _; with_unfolding_all rfl)); (case U => (intro _; k_upd)); (case e => (intro A8 E8 v8 t8 m8 C8 code8 hA8 hv8 hF8 hm8 hnw8; first | (have hv7 := mem_one hv8; subst hv7; exact isi_gen hF8 (by k_asm) (hnw8 _ (all2 (⟨by k_mem, by k_ne⟩) (⟨by k_mem, by k_ne⟩))) (by k_asm) hm8 rfl rfl rfl rfl rfl) | (rcases mem_two hv8 with hv7 | hv7 <;> (subst hv7; exact isi_gen hF8 (by k_asm) (hnw8 _ (all2 (⟨by k_mem, by k_ne⟩) (⟨by k_mem, by k_ne⟩))) (by k_asm) hm8 rfl rfl rfl rfl rfl)))); k_whole)
  | (refine' gen_K ?F ?N ?T ?C ?G ?g ?P ?t ?l ?hh ?co ?cl ?ce ?h0 ?x ?k ?r ?s ?i ?e (gc_hit ?c1 ?c2) ?U ?_; (case F => k_asm); (case N => k_asm); (case T => k_asm); (case C => kn_code); (case c1 => exact rfl); (case i => (intro Q9 h9; refine' nameX_L ?F8 ?v ?h ?a ?b; (case F8 => k_asm); (case a => rfl); (case b => rfl); (case v => rfl); (case h => exact h9))); (case P => k_mem); (case c2 => kn_hit); (case G => k_asm); (case g => exact rfl); (case t => kn_triples); (case l => k_mem); (case hh => with_unfolding_all rfl); (case co => rfl); (case cl => with_unfolding_all rfl); (case ce => decide); (case h0 => rfl); (case x => rfl); (case k => rfl); (case r => ktr_room); (case s => (intro _; with_unfolding_all rfl)); (case U => (intro _; k_upd)); (case e => (intro A8 E8 v8 t8 m8 C8 code8 hA8 hv8 hF8 hm8 hnw8; first | (have hv7 := mem_one hv8; subst hv7; exact isi_gen hF8 (by k_asm) (hnw8 _ (all2 (⟨by k_mem, by k_ne⟩) (⟨by k_mem, by k_ne⟩))) (by k_asm) hm8 rfl rfl rfl rfl rfl) | (rcases mem_two hv8 with hv7 | hv7 <;> (subst hv7; exact isi_gen hF8 (by k_asm) (hnw8 _ (all2 (⟨by k_mem, by k_ne⟩) (⟨by k_mem, by k_ne⟩))) (by k_asm) hm8 rfl rfl rfl rfl rfl)))); k_whole)); intro a9 code9 K9 s9 G9 os9 F9 N9 hK9 X9 hN9 hL9; (try dsimp only); (try k_sweep); (try k_fold)))
local macro_rules | `(tactic| walk_at "call builtin:all") => `(tactic| (k_here; (with_reducible show wpAny _ _ (call (Value.builtin "all") [Value.ref _]) _ _ _); k_dflt (refine' all_K ?F ?N ?G ?X ?n ?l ?_; (case F => k_asm); (case N => k_asm); (case X => k_asm); (case G => k_asm); (case n => k_asm); (case l => k_asm); k_whole); intro s9 G9 os9 F9 N9; (try dsimp only); (try k_sweep); (try k_fold)))
theorem reg_GEN0 : True := by
  (k_with "my getMethod ref" => (k_here; (with_reducible show wpAny _ _ (getMethod (Value.ref _) (PySem.Str.ofString "M") _) _ _ _); k_dflt (refine' kmu_own (by k_asm) (by k_asm) (by k_inst) (by k_is) (by k_is) ?_; k_whole)))
  (k_with "my getMethod ref" => (k_here; (with_reducible show wpAny _ _ (getMethod (Value.ref _) (PySem.Str.ofString "xof") _) _ _ _); k_dflt (refine' kmu_own (by k_asm) (by k_asm) (by k_inst) (by k_is) (by k_is) ?_; k_whole)))
  (k_with "my callWith ref" => (k_here; k_dflt ((try dsimp only); (with_reducible show wpAny _ _ (callWith _ _ _ _ (backToKw _ (keywordEach (_ :: _) _))) _ _ _); refine' callWith_MKW (by k_asm) (by k_asm) (by k_mem) (by k_is) (by exact rfl) ?_; k_whole)))
  (k_with "my wpAt" => (ks_step "attributeBase Call"; k_here; k_dflt (refine ks_node (by k_asm) (by k_asm) (by k_asm) (by k_asm) (by k_is) (by rfl) (by rfl) (by k_inst) (by k_is) (by rfl) (by assumption) (by k_is) (by k_is) (by k_is) (by k_is) (by decide) (by rfl) (by rfl) (by rfl) (by rfl) (by assumption) (by first | boot_by_name | rfl | kernel_rfl) ?_; intro so' h' F' N' l1)))
  (k_with "my wpAt" => (ks_step "eval Call"; k_dflt (refine wpAt_MethodCallKW ?_)))
  (k_with "my wpAt" => (ks_step "exec Expr"; k_dflt (refine ks_wpAt_Expr_any ?_)))
  (k_with "my RestG" => (k_dflt (first | (refine RestG.succ ?_; intro it9 s9 c9 G9 os9 F9 N9) | (refine RestG.zero ?_; intro s9 G9 os9 F9 N9)); (try dsimp only); (try k_sweep); (try k_fold)))
  (k_with "my PostG" => (k_dflt (show TurnG _ _ _ _ _ _ _ _)))
  (k_with "my TurnG" => (k_dflt (refine' TurnG.intro (by k_asm) (by k_asm) (by k_asm) (by (repeat (first | rfl | assumption | (refine Eq.trans (by assumption) ?_)))) (by k_all) (by k_mem) ?_; k_whole)))
  (k_with "my CompRest" => (with_unfolding_all first
      | (refine LCg.CompRest.succ ?_; intro v' I' oI' C' oC' D' m' h' tk' E' hv' hC' hx' F' N' off' ne'; (first | lcg_open hv' | (obtain ⟨t9', hv9'⟩ := hv'; subst hv9')); (change Ne3 I' C' D' at ne'))
      | refine LCg.CompRest.zero ?_))
  (k_with "my CompEnd" => lcg_end)
  (k_with "my FinE" => ((unfold LCg.FinE); intro D' h' tk' F' N' o1'; (try simp only [List.nil_append, List.cons_append] at N'); (try dsimp only)))
  (k_with "my FinA" => ((unfold LCg.FinA); intro D' h' tk' F' N' o1'; (try simp only [List.nil_append, List.cons_append] at N'); (try dsimp only)))
  (k_with "my CompSrc" => (k_here; k_dflt (refine LCg.CompSrc.range (by rfl) (by k_asm) (by k_asm) (by assumption) (by first | decide | rfl) (by first | rfl | decide) (by first | size_fits | exact Nat.le_of_ble_eq_true rfl) ?_; intro g'; lcg_lit)))
  (k_with "my call ref" => (k_here; (try dsimp only [List.nil_append, List.cons_append]); (with_reducible show wpAny _ _ (PySem.call (Value.ref _) [Value.bytes _ _]) _ _ _); (with_reducible rename XofSpec _ _ _ _ _ _ _ _ _ _ _ => xS); k_dflt (refine' xof_use xS (by k_asm) (by k_asm) (by k_asm) (by k_asm) (by k_asm) (by first | exact rfl | assumption) (by exact all4 (by k_mem) (by k_mem) (by k_mem) (by k_mem)) (by k_mem) (by first | exact KBw.ints_app (KBw.ints_app (by assumption) (by assumption)) (by assumption) | kba_ints | exact KBw.ints_app (KBw.ints_app (by assumption) (one_byte (by decide) (by decide))) (one_byte (by decide) (by decide))) (by assumption) (by first | assumption | decide) (by first | assumption | decide) (by first | assumption | exact (show _ = 0 from rfl) | exact (show _ = 1 from rfl) | exact (show _ = 2 from rfl) | exact (show _ = 3 from rfl)) (by first | assumption | decide | exact Nat.le_of_ble_eq_true rfl) (by ktr_room) (by k_upd) ?_; k_whole); intro h9 tk9 t9 F9 N9 e9; (try dsimp only); (try k_sweep); (try k_fold)))
  (k_with "my call ref" => (k_here; (with_reducible show wpAny _ _ (PySem.call (Value.ref 253) _) _ _ _); k_dflt (refine' spec_sample (by k_asm) (by k_asm) (by k_asm) (by k_asm) (by k_asm) (by k_mem) (by k_mem) (by assumption) (by exact rot_in (by assumption) _) (by exact (rot_len _ _).trans (by assumption)) (by assumption) (by ktr_room) ?_; k_whole); intro x9 d9 D9 ta9 tc9 vs9 n9 h9 tk9 F9 N9 I9 n91 n92 n93 l9; (try k_lt2 l9); (try dsimp only); (try k_sweep); (try k_fold)))
  trivial
/-- the pairs of the parameters -/
abbrev parPs (k : Int) (v1 v2 v3 v4 v5 : Tok) : List (Str × Value) := [(Str.ofString "k", .int k v1), (Str.ofString "eta_1", .int 2 v2), (Str.ofString "eta_2", .int 2 v3), (Str.ofString "du", .int 4 v4), (Str.ofString "dv", .int 4 v5)]
abbrev parDs (k : Int) : List (PyData × PyData) := [(.str (Str.ofString "k"), .int k), (.str (Str.ofString "eta_1"), .int 2), (.str (Str.ofString "eta_2"), .int 2), (.str (Str.ofString "du"), .int 4), (.str (Str.ofString "dv"), .int 4)]
theorem off_three {x d ps : Addr} {ox od op op' : Obj} {news : List (Addr × Obj)} (h1 : ∀ q ∈ (ps, op') :: news, q.1 < d) (h2 : d < x) (h3 : AllNe ps news) : ∀ q ∈ news, q.1 ∉ [(x, ox), (d, od), (ps, op)].map (·.1) := by
  intro q hq hm
  have a := off_two (ox := ox) (od := od) (fun q hq => h1 q (.tail _ hq)) h2 q hq
  simp only [List.map_cons, List.map_nil, List.mem_cons, List.not_mem_nil, or_false] at hm a
  rcases hm with e | e | e
  · exact a (.inl e)
  · exact a (.inr e)
  · clear h1 h2 a
    induction news with
    | nil => cases hq
    | cons r news ih =>
      rcases List.mem_cons.mp hq with e2 | e2
      · exact h3.1 (e2 ▸ e)
      · exact ih h3.2 e2
section
variable {prog : Program} {w : World} {p : Program} {loose : List Str} {mean : ExcName → Option Value} {mg mb : Str → Option Value}
  {dp un : Nat} {gd : Option (List Code)} {cn : Str} {nm : List (Str × NameKind)} {ig ic : Bool} {mo : List (Str × Const)} {a : Addr} {ccd : Value} {cl : List (Str × Addr)} {outer : List Env} {A₀ : Around} {base h₀ : Heap} {L : Addr} {m : Str → Option Value} {news : List (Addr × Obj)} {s : Shared}
  {Q E : Value → Shared → Prop}
theorem lay_spec_kem : True := by
  (k_with "go spec_kem" =>
    k_dflt (refine' call_cls F X N ?k4 ?k5 ?k6 ?_; (case k4 => k_is); (case k5 => k_is); (case k6 => k_is))
    intro x dx h2 F2 N2 l1 l2
    have hx := (ne_of_ltAll2 l1 l2).2
    have hdx := (ne_of_ltAll l1).2
    have N3 : News h₀ L h2 [(x, instObj 815 dx), (dx, dictOf [] 0), (ps, po)] := news_sub N2 (by intro q hq; simp only [List.mem_cons, List.not_mem_nil, or_false] at hq; rcases hq with rfl | rfl | rfl <;> simp)
    have N4 : News h₀ L h2 news := news_sub N2 (fun q hq => .tail _ (.tail _ (.tail _ hq)))
    have off := off_three (ox := instObj 815 dx) (od := dictOf [] 0) (op := po) l1 l2 hps
    have l3 := l1 _ (.head _)
    have l4 : @LT.lt Nat _ ps x := Nat.lt_trans l3 l2
    k_lt2 l2
    clear l1 N2
    k_dflt (refine' semi_plain (news := news) (s := { s with heap := h2 }) ?k1 ?k2 ?k3 N3 N4 off ?k5 ?kA ?kF ?kK ?k6 ?k7 ?k8 ?k9 ?kB ?_ ?c2 ?c3 ?c4 ?c5; (case kA => exact rfl); (case kF => exact rfl); (case kK => exact rfl); (case k1 => k_asm); (case k2 => exact F2); (case k3 => k_asm); (case k5 => k_asm); (case k6 => k_is); (case k7 => k_is); (case k8 => ktr_room); (case k9 => exact BindsTo.of_eq rfl); (case kB => exact locs rfl); (case c2 => exact rfl); (case c3 => exact rfl); (case c4 => exact rfl); (case c5 => decide))
    clear N N3 F F2 off
    intro g' L' h' FG' F' N' B' X' T' l1 hgn
    (try dsimp only)
    (try k_lift B')
    (try k_fold)
    k_steps
    rename News g' L' _ _ => kM
    rename News h₀ L _ news => kA
    rename News h₀ L _ (_ :: _) => kN
    rename Fr h₀ L _ m => kF
    exact ret x dx _ _ _ _ _ _ _ _ _ _ _ _ _ _ _ _ _ _ _ _ _ _ _ _ _ _ _ _ kF
      (news_cons (a := [_, _, _, _, _, _]) (news_sub kN (all6 (by k_mem) (by k_mem) (by k_mem) (by k_mem) (by k_mem) (by k_mem))) kA)
      hx hdx (ne_of_new hgn kM (by k_mem)) (ne_of_new hgn kM (by k_mem)) (ne_of_new hgn kM (by k_mem)) (ne_of_new hgn kM (by k_mem)) (by first | assumption | omega))
  trivial
theorem spec_kem {ps y : Addr} {po : Obj} {k : Int} {v1 v2 v3 v4 v5 : Tok}
    (B : Below A₀ base outer h₀) (F : Fr h₀ L s.heap m) (X : (hd.heap_1 w.params).In h₀) (N : News h₀ L s.heap ((ps, po) :: news)) (T : Top p loose mean mg mb h₀)
    (hps : AllNe ps news) (hpo : po.IsDictOf (PySem.strKind prog w) (parPs k v1 v2 v3 v4 v5)) (hpf : PyProof.V.FlatPairs PyData.str (parPs k v1 v2 v3 v4 v5) (parDs k)) (hlo : (ps == sysModules) = false) (hroom : dp + 12 < recursionLimit)
    (ret : ∀ km dkm M dM R dR z b1 b2 b3 b4 b5 a1 a2 a3 a4 a5 a6 a7 a8 t0 t1 t2 t3 t4 u1 u2 u4 h' tk', Fr h₀ L h' m →
      News h₀ L h' ((km, instObj 815 dkm) :: (dkm, dictOf (kemEs w.params k a1 a2 a3 a4 a5 a6 a7 a8 b1 b2 b3 b4 b5 M R y) 8) :: (M, instObj 671 dM) :: (dM, dictOf (modEs w.params t0 R) 1) :: (R, instObj 280 dR) :: (dR, dictOf (ringEs w.params t1 t2 t3 t4 u1 u2 u4 z) 4) :: news) →
      AllNe km news → AllNe dkm news → AllNe M news → AllNe dM news → AllNe R news → AllNe dR news → @LT.lt Nat _ dR R → Q (.ref km) { s with heap := h', toks := tk' }) :
    wpAny (model prog w) (ktrTop dp un gd cn (fsc nm ig ic mo) L a ccd cl outer) (call (.ref 815) [.ref ps, .ref y]) Q E s := by
  refine unbox ?_
  simp +zetaDelta (disch := (k_dflt (k_extra "go spec_kem"))) only [↓box_true]
end
theorem reg_KEM : True := by
  (k_with "my call ref" => (k_here; (with_reducible show wpAny _ _ (PySem.call (Value.ref 815) _) _ _ _); refine Stop.at ?_))
  trivial
section
variable {prog : Program} {w : World} {p : Program} {loose : List Str} {mean : ExcName → Option Value} {mg mb : Str → Option Value}
  {dp un : Nat} {gd : Option (List Code)} {cn : Str} {cs : Scope} {a : Addr} {ccd : Value} {cl : List (Str × Addr)} {outer : List Env} {A₀ : Around} {base h₀ : Heap} {L : Addr} {m : Str → Option Value} {news : List (Addr × Obj)} {s : Shared}
  {Q E : Value → Shared → Prop}
theorem lay_spec_xofm : True := by
  (k_with "go spec_xofm" =>
    have hsz : 0 ≤ its.size := Nat.zero_le _
    refine wpAny_call ?_
    k_dflt (refine' semi_nest (cl := []) as ?k1 ?k2 ?k3 N sub ?k5 ?kA ?kF ?kK ?k6 ?kd ?k7 ?k8 ?k9 ?kB ?_ ?c2 ?c3 ?c4 ?c5; (case kA => exact rfl); (case kF => exact rfl); (case kK => assumption); (case k1 => k_asm); (case k2 => k_asm); (case k3 => k_asm); (case k5 => k_asm); (case k6 => exact (X.keeps F.keep) _ _ (by k_is)); (case kd => exact rfl); (case k7 => exact codeRec_of (X.keeps F.keep) (by k_is)); (case k8 => ktr_room); (case k9 => exact BindsTo.of_eq rfl); (case kB => exact locs rfl); (case c2 => exact rfl); (case c3 => exact rfl); (case c4 => exact rfl); (case c5 => decide))
    clear N
    intro g' L' h' FG' F' N' B' X' T' l1
    (try dsimp only)
    (try k_lift B')
    (try k_fold)
    k_steps
    rename Back _ _ _ _ _ _ => hbk
    rename News h₀ L _ _ => kN
    rename Fr h₀ L _ m => kF
    rename KBw.bInts _ = rho ++ [j] ++ [i] => hb
    exact ret _ _ _ _ _ kF (hbk _ _ _ _ kN (by k_mem) (all9 (fun h => absurd rfl h) (fun _ => by k_mem) (fun _ => by k_mem) (fun _ => by k_mem) (fun _ => by k_mem) (fun _ => by k_mem) (fun _ => by k_mem) (fun _ => by k_mem) (fun _ => by k_mem)) (U _ _)) hb)
  trivial
theorem spec_xofm {km dkm M R y dy fx cx ca cb as r fp : Addr} {k j i : Int} {a1 a2 a3 a4 a5 a6 a7 a8 v1 v2 v3 v4 v5 s1 s2 s3 trb tj ti : Tok} {name qual : Str} {params : Arguments} {body : List Stmt} {scope : Scope} {clo : List (Str × Addr)} {doc pm ctv : Value} {ocx oca ocb : Obj} {rb bj bi : Array UInt8} {rho ks : List Int} {its : Array Value} {n q : Nat} {news' : Array UInt8 → Tok → List (Addr × Obj)}
    (B : Below A₀ base outer h₀) (F : Fr h₀ L s.heap m) (X : (hd.heap_1 w.params).In h₀) (N : News h₀ L s.heap news) (T : Top p loose mean mg mb h₀) (hk : cs.kind = .function) (hC : CodeHd base 566 562)
    (sub : ∀ q ∈ [(as, PySem.W.listOf its n), (km, instObj 815 dkm), (dkm, dictOf (kemEs w.params k a1 a2 a3 a4 a5 a6 a7 a8 v1 v2 v3 v4 v5 M R y) 8), (y, instObj 671 dy), (dy, dictOf (hashEs w.params s1 s2 s3 r fx fp) 3), (fx, fnMade name qual params body scope clo doc pm cx ctv), (cx, ocx), (ca, oca), (cb, ocb)], q ∈ news)
    (ap : AllNe as [(km, instObj 815 dkm), (dkm, dictOf (kemEs w.params k a1 a2 a3 a4 a5 a6 a7 a8 v1 v2 v3 v4 v5 M R y) 8), (y, instObj 671 dy), (dy, dictOf (hashEs w.params s1 s2 s3 r fx fp) 3), (fx, fnMade name qual params body scope clo doc pm cx ctv), (cx, ocx), (ca, oca), (cb, ocb)])
    (xs : XofSpec prog w p loose mean mg mb [(fx, fnMade name qual params body scope clo doc pm cx ctv), (cx, ocx), (ca, oca), (cb, ocb)] fx as ks) (hrb : KBw.bInts rb = rho) (hbj : KBw.bInts bj = [j]) (hbi : KBw.bInts bi = [i]) (hrl : rho.length = 32) (hj : j < 2) (hi : i < 2) (hq : (j + 2 * i).toNat = q) (hz : its.size ≤ 100) (hroom : dp + 8 < recursionLimit)
    (U : ∀ b t, Upd as (PySem.W.listOf its n) (PySem.W.listOf (its.push (.bytes b t)) (n + 1)) news (news' b t))
    (ret : ∀ b t h' tk' t', Fr h₀ L h' m → News h₀ L h' (news' b t) → KBw.bInts b = rho ++ [j] ++ [i] → Q (.bytes (bytesOf (rot ks (210 * q))).toArray t') { s with heap := h', toks := tk' }) :
    wpAny (model prog w) (ktrTop dp un gd cn cs L a ccd cl outer) (call (.ref 708) [.ref km, .bytes rb trb, .bytes bj tj, .bytes bi ti]) Q E s := by
  refine unbox ?_
  simp +zetaDelta (disch := (k_dflt (k_extra "go spec_xofm"))) only [↓box_true]
end
theorem reg_XOFM : True := by
  (k_with "my call ref" => (k_here; (with_reducible show wpAny _ _ (PySem.call (Value.ref 708) _) _ _ _); (with_reducible rename XofSpec _ _ _ _ _ _ _ _ _ _ _ => xS); k_dflt (refine' spec_xofm (by k_asm) (by k_asm) (by k_asm) (by k_asm) (by k_asm) (by first | exact rfl | assumption) (by k_asm) (by exact (all9 (by k_mem) (by k_mem) (by k_mem) (by k_mem) (by k_mem) (by k_mem) (by k_mem) (by k_mem) (by k_mem))) (by exact ⟨by k_ne, ⟨by k_ne, ⟨by k_ne, ⟨by k_ne, ⟨by k_ne, ⟨by k_ne, ⟨by k_ne, ⟨by k_ne, True.intro⟩⟩⟩⟩⟩⟩⟩⟩) xS (by assumption) (by first | assumption | exact one_byte (by decide) (by decide)) (by first | assumption | exact one_byte (by decide) (by decide)) (by assumption) (by decide) (by decide) (by first | exact (show _ = 0 from rfl) | exact (show _ = 1 from rfl) | exact (show _ = 2 from rfl) | exact (show _ = 3 from rfl)) (by first | decide | exact Nat.le_of_ble_eq_true rfl) (by ktr_room) (by (intro _ _; k_upd)) ?_; k_whole); intro b8 t8 h9 tk9 t9 F9 N9 e9; (try dsimp only); (try k_sweep); (try k_fold)))
  trivial
section
variable {prog : Program} {w : World} {p : Program} {loose : List Str} {mean : ExcName → Option Value} {mg mb : Str → Option Value}
  {dp un : Nat} {gd : Option (List Code)} {cn : Str} {cs : Scope} {a : Addr} {ccd : Value} {cl : List (Str × Addr)} {outer : List Env} {A₀ : Around} {base h₀ : Heap} {L : Addr} {m : Str → Option Value} {news : List (Addr × Obj)} {s : Shared}
  {Q E : Value → Shared → Prop}
theorem lay_spec_modc1 : True := by
  (k_with "go spec_modc1" =>
    k_dflt (refine' semi_nest (cl := []) 562 ?k1 ?k2 ?k3 N sub ?k5 ?kA ?kF ?kK ?k6 ?kd ?k7 ?k8 ?k9 ?kB ?_ ?c2 ?c3 ?c4 ?c5; (case kA => exact rfl); (case kF => exact rfl); (case kK => assumption); (case k1 => k_asm); (case k2 => k_asm); (case k3 => k_asm); (case k5 => k_asm); (case k6 => exact (X.keeps F.keep) _ _ (by k_is)); (case kd => exact rfl); (case k7 => exact codeRec_of (X.keeps F.keep) (by k_is)); (case k8 => ktr_room); (case k9 => exact kp_binds (X.keeps F.keep) (fun _ => rfl)); (case kB => exact locs rfl); (case c2 => exact rfl); (case c3 => exact rfl); (case c4 => exact rfl); (case c5 => decide))
    clear N
    intro g' L' h' FG' F' N' B' X' T' l1
    (try dsimp only)
    (try k_lift B')
    (try k_fold)
    k_steps
    rename Back _ _ _ _ _ _ => hbk
    rename News h₀ L _ _ => kN
    rename Fr h₀ L _ m => kF
    exact ret _ _ _ _ _ _ _ (by k_asm) (by repeat (first | rfl | assumption | (refine Eq.trans (by assumption) ?_))) kF
      (news_cons (a := [_, _]) (news_sub kN (all2 (by k_mem) (by k_mem)))
        (hbk _ _ _ _ kN (by k_mem) (all7 (fun h => absurd rfl h) (fun _ => by k_mem) (fun _ => by k_mem) (fun _ => by k_mem) (fun _ => by k_mem) (fun _ => by k_mem) (fun _ => by k_mem)) (U _))))
  trivial
theorem spec_modc1 {M dM R D r0 p00 d00 c00 : Addr} {t0 f00 g00 : Tok} {nD g0 : Nat} {tr : Bool} {R9 : Result → Shared → Prop} {news' : Array Value → List (Addr × Obj)}
    (B : Below A₀ base outer h₀) (F : Fr h₀ L s.heap m) (X : (hd.heap_1 w.params).In h₀) (N : News h₀ L s.heap news) (T : Top p loose mean mg mb h₀) (hk : cs.kind = .function) (hC : CodeHd base 566 562) (hpf : ((prog.main.file : Str) == Str.ofString "/claim/cut.py") = true) (hps : (prog.main.scope.names.lookup ("super" : Str)).isSome = false)
    (sub : ∀ q ∈ [((562 : Addr), tabObj #[]), (M, instObj 671 dM), (dM, dictOf (modEs w.params t0 R) 1), (D, PySem.W.listOf #[.ref r0] nD), (r0, PySem.W.listOf #[.ref p00] g0), (p00, instObj 424 d00), (d00, dictOf (polyEs w.params f00 g00 R c00) 2)], q ∈ news)
    (ap2 : AllNe 562 [(M, instObj 671 dM), (dM, dictOf (modEs w.params t0 R) 1), (D, PySem.W.listOf #[.ref r0] nD), (r0, PySem.W.listOf #[.ref p00] g0), (p00, instObj 424 d00), (d00, dictOf (polyEs w.params f00 g00 R c00) 2)]) (hG : AllBare s.gens) (hroom : dp + 10 < recursionLimit) (U : ∀ psT, Upd 562 (tabObj #[]) (tabObj psT) news (news' psT))
    (ret : ∀ mx dmx m1 m2 m3 s' psT, AllBare s'.gens → s'.os = s.os → Fr h₀ L s'.heap m → News h₀ L s'.heap ((mx, instObj 636 dmx) :: (dmx, dictOf (matEs w.params m1 m2 m3 M D tr) 3) :: news' psT) → R9 (.ok (.ret (.ref mx))) s') :
    codeAny (model prog w) (ktrTop dp un gd cn cs L a ccd cl outer) (.call (.ref 567) ⟨[.ref M, .ref D], [(Str.ofString "transpose", .bool tr)]⟩) R9 s := by
  refine unbox ?_
  simp +zetaDelta (disch := (k_dflt (k_extra "go spec_modc1"))) only [↓box_true]
end
theorem reg_MODC1 : True := by
  (k_with "my call ref" => (k_here; kco_any "__call__"; kco_here; k_dflt (refine wpAny_call ?_; refine' kco_code (by k_in) (by k_inst) (by rfl) (by k_is) (by k_is) (by k_is) ?_; (try dsimp only); refine' spec_modc1 (by k_asm) (by k_asm) (by k_asm) (by k_asm) (by k_asm) (by first | exact rfl | assumption) (by k_asm) (by assumption) (by assumption) (by exact (all7 (by k_mem) (by k_mem) (by k_mem) (by k_mem) (by k_mem) (by k_mem) (by k_mem))) (by exact ⟨by k_ne, ⟨by k_ne, ⟨by k_ne, ⟨by k_ne, ⟨by k_ne, ⟨by k_ne, True.intro⟩⟩⟩⟩⟩⟩) (by k_asm) (by ktr_room) (by (intro _; k_upd)) ?_; k_whole); intro m8 d8 t81 t82 t83 s8 ps8 G8 os8 F8 N8; (try dsimp only); (try k_sweep); (try k_fold)))
  trivial
section
variable {prog : Program} {w : World} {p : Program} {loose : List Str} {mean : ExcName → Option Value} {mg mb : Str → Option Value}
  {dp un : Nat} {gd : Option (List Code)} {cn : Str} {cs : Scope} {a : Addr} {ccd : Value} {cl : List (Str × Addr)} {outer : List Env} {A₀ : Around} {base h₀ : Heap} {L : Addr} {m : Str → Option Value} {news news' : List (Addr × Obj)} {s : Shared}
  {Q E : Value → Shared → Prop}
theorem lay_spec_gen1 : True := by
  (k_with "go spec_gen1" =>
    let e11 : Addr × Obj := (cb, ocb)
    let l11 : List (Addr × Obj) := e11 :: []
    let e10 : Addr × Obj := (ca, oca)
    let l10 : List (Addr × Obj) := e10 :: l11
    let e9 : Addr × Obj := (cx, ocx)
    let l9 : List (Addr × Obj) := e9 :: l10
    let e8 : Addr × Obj := (fx, fnMade name qual params body scope clo doc pm cx ctv)
    let l8 : List (Addr × Obj) := e8 :: l9
    let e7 : Addr × Obj := (dy, dictOf (hashEs w.params s1 s2 s3 r fx fp) 3)
    let l7 : List (Addr × Obj) := e7 :: l8
    let e6 : Addr × Obj := (y, instObj 671 dy)
    let l6 : List (Addr × Obj) := e6 :: l7
    let e5 : Addr × Obj := (dR, dictOf (ringEs w.params t1 t2 t3 t4 u1 u2 u4 z) 4)
    let l5 : List (Addr × Obj) := e5 :: l6
    let e4 : Addr × Obj := (R, instObj 280 dR)
    let l4 : List (Addr × Obj) := e4 :: l5
    let e3 : Addr × Obj := (dM, dictOf (modEs w.params t0 R) 1)
    let l3 : List (Addr × Obj) := e3 :: l4
    let e2 : Addr × Obj := (M, instObj 671 dM)
    let l2 : List (Addr × Obj) := e2 :: l3
    let e1 : Addr × Obj := (dkm, dictOf (kemEs w.params 1 a1 a2 a3 a4 a5 a6 a7 a8 v1 v2 v3 v4 v5 M R y) 8)
    let l1 : List (Addr × Obj) := e1 :: l2
    let e0 : Addr × Obj := (km, instObj 815 dkm)
    let l0 : List (Addr × Obj) := e0 :: l1
    change ∀ q ∈ (as, PySem.W.listOf #[] 0) :: ((562 : Addr), tabObj #[]) :: l0, q ∈ news at sub
    change AllNe as (((562 : Addr), tabObj #[]) :: l0) at ap
    change AllNe 562 l0 at ap2
    change XofSpec prog w p loose mean mg mb l8 fx as ks at xs
    change wpAny _ _ _ _ _ _
    refine wpAny_call ?_
    k_dflt (refine' semi_cellsB as 562 ?k1 ?k2 ?k3 N sub ?k5 ?kA ?kF ?kK ?k6 ?k7 ?k8 ?k9 ?kB ?kD ?_ ?c2 ?c3 ?c4; (case kA => exact rfl); (case kF => exact rfl); (case kK => assumption); (case k1 => k_asm); (case k2 => k_asm); (case k3 => k_asm); (case k5 => k_asm); (case k6 => k_is); (case k7 => k_is); (case k8 => ktr_room); (case k9 => first | exact binds_K (by k_in) rfl (by k_is) rfl rfl rfl | exact kp_binds (X.keeps F.keep) (fun _ => rfl)); (case kB => exact rfl); (case kD => decide +kernel); (case c2 => exact rfl); (case c3 => exact rfl); (case c4 => exact rfl))
    clear N
    intro g' L' h' tk' cells' FG' F' N' Y' B' X' T' l1
    obtain l2 := lt_all l1
    k_cells Y'
    simp only [List.cons_append, List.nil_append] at N'
    (try dsimp only)
    (try k_lift B')
    change wpAny _ _ _ _ _ _
    k_fold
    k_steps
    rename Back2 _ _ _ _ _ _ _ => hbk
    rename News h₀ L _ _ => kN
    rename Fr h₀ L _ m => kF
    exact ret _ _ _ _ _ _ _ _ _ _ _ _ _ _ _ _ _ _ _ _ _ (by k_asm) (by repeat (first | rfl | assumption | (refine Eq.trans (by assumption) ?_))) kF
      (news_sub kN (all7 (by k_mem) (by k_mem) (by k_mem) (by k_mem) (by k_mem) (by k_mem) (by k_mem)))
      (fun n1 n2 U1 U2 => hbk _ _ _ _ _ _ _ kN (by k_mem) (by k_mem) (all14 (fun h _ => absurd rfl h) (fun _ h => absurd rfl h) (fun _ _ => by k_mem) (fun _ _ => by k_mem) (fun _ _ => by k_mem) (fun _ _ => by k_mem) (fun _ _ => by k_mem) (fun _ _ => by k_mem) (fun _ _ => by k_mem) (fun _ _ => by k_mem) (fun _ _ => by k_mem) (fun _ _ => by k_mem) (fun _ _ => by k_mem) (fun _ _ => by k_mem)) U1 U2) (by assumption) (by assumption))
  trivial
theorem spec_gen1 {km dkm M dM R dR y dy fx cx ca cb as r fp : Addr} {a1 a2 a3 a4 a5 a6 a7 a8 v1 v2 v3 v4 v5 t0 t1 t2 t3 t4 u1 u2 u4 s1 s2 s3 trb : Tok} {z : Value} {name qual : Str} {params : Arguments} {body : List Stmt} {scope : Scope} {clo : List (Str × Addr)} {doc pm ctv : Value} {ocx oca ocb : Obj} {rb : Array UInt8} {rho ks : List Int} {tr : Bool}
    (B : Below A₀ base outer h₀) (F : Fr h₀ L s.heap m) (X : (hd.heap_1 w.params).In h₀) (N : News h₀ L s.heap news) (T : Top p loose mean mg mb h₀) (hk : cs.kind = .function) (hC : CodeHd base 566 562) (hpf : ((prog.main.file : Str) == Str.ofString "/claim/cut.py") = true) (hps : (prog.main.scope.names.lookup ("super" : Str)).isSome = false)
    (sub : ∀ q ∈ [(as, PySem.W.listOf #[] 0), ((562 : Addr), tabObj #[]), (km, instObj 815 dkm), (dkm, dictOf (kemEs w.params 1 a1 a2 a3 a4 a5 a6 a7 a8 v1 v2 v3 v4 v5 M R y) 8), (M, instObj 671 dM), (dM, dictOf (modEs w.params t0 R) 1), (R, instObj 280 dR), (dR, dictOf (ringEs w.params t1 t2 t3 t4 u1 u2 u4 z) 4), (y, instObj 671 dy), (dy, dictOf (hashEs w.params s1 s2 s3 r fx fp) 3), (fx, fnMade name qual params body scope clo doc pm cx ctv), (cx, ocx), (ca, oca), (cb, ocb)], q ∈ news)
    (ap : AllNe as [((562 : Addr), tabObj #[]), (km, instObj 815 dkm), (dkm, dictOf (kemEs w.params 1 a1 a2 a3 a4 a5 a6 a7 a8 v1 v2 v3 v4 v5 M R y) 8), (M, instObj 671 dM), (dM, dictOf (modEs w.params t0 R) 1), (R, instObj 280 dR), (dR, dictOf (ringEs w.params t1 t2 t3 t4 u1 u2 u4 z) 4), (y, instObj 671 dy), (dy, dictOf (hashEs w.params s1 s2 s3 r fx fp) 3), (fx, fnMade name qual params body scope clo doc pm cx ctv), (cx, ocx), (ca, oca), (cb, ocb)]) (ap2 : AllNe 562 [(km, instObj 815 dkm), (dkm, dictOf (kemEs w.params 1 a1 a2 a3 a4 a5 a6 a7 a8 v1 v2 v3 v4 v5 M R y) 8), (M, instObj 671 dM), (dM, dictOf (modEs w.params t0 R) 1), (R, instObj 280 dR), (dR, dictOf (ringEs w.params t1 t2 t3 t4 u1 u2 u4 z) 4), (y, instObj 671 dy), (dy, dictOf (hashEs w.params s1 s2 s3 r fx fp) 3), (fx, fnMade name qual params body scope clo doc pm cx ctv), (cx, ocx), (ca, oca), (cb, ocb)]) (hG : AllBare s.gens)
    (xs : XofSpec prog w p loose mean mg mb [(fx, fnMade name qual params body scope clo doc pm cx ctv), (cx, ocx), (ca, oca), (cb, ocb)] fx as ks)
    (hrb : KBw.bInts rb = rho) (hrl : rho.length = 32) (hks : ks.length = 840) (hkb : ∀ n ∈ ks, 0 ≤ n ∧ n < 256) (hRd : @LT.lt Nat _ dR R) (hroom : dp + 20 < recursionLimit)
    (h0 : 256 ≤ (acc (rot ks (210 * 0)) 280).length)
    (ret : ∀ mx dmx D r0 p00 d00 c00 b00 m1 m2 m3 nD g0 f00 g00 n00 e00 w00 s' nA psT,
      AllBare s'.gens → s'.os = s.os → Fr h₀ L s'.heap m → News h₀ L s'.heap [(mx, instObj 636 dmx), (dmx, dictOf (matEs w.params m1 m2 m3 M D tr) 3), (D, PySem.W.listOf #[.ref r0] nD), (r0, PySem.W.listOf #[.ref p00] g0), (p00, instObj 424 d00), (d00, dictOf (polyEs w.params f00 g00 R c00) 2), (c00, PySem.W.listOf (List.toArray w00) n00)] →
      (∀ n1 n2, Upd as (PySem.W.listOf #[] 0) (PySem.W.listOf #[(.bytes b00 e00)] nA) news n1 → Upd 562 (tabObj #[]) (tabObj psT) n1 n2 → News h₀ L s'.heap n2) →
      KBw.bInts b00 = rho ++ [0] ++ [0] →
      IntsAre w00 ((acc (rot ks (210 * 0)) 280).take 256) →
      Q (.ref mx) s') :
    wpAny (model prog w) (ktrTop dp un gd cn cs L a ccd cl outer) (call (.ref 742) [.ref km, .bytes rb trb] [(Str.ofString "transpose", .bool tr)]) Q E s := by
  refine unbox ?_
  simp +zetaDelta (disch := (k_dflt (k_extra "go spec_gen1"))) only [↓box_true]
end
theorem none_GEN1 : True := by
  k_with_none
  trivial
theorem reg_GEN1 : True := by
  (k_with "my k_in" => (first | with_reducible assumption | with_reducible exact Frag.In.keeps (by assumption) (Fr.keep (by assumption))))
  (k_with "my storeName" => ((first | (with_reducible show wpAny _ _ (storeName _ _ (Value.int _ (Shared.toks _))) _ _ _) | (with_reducible show wpAny _ _ (storeName _ _ (Value.int _ (HAdd.hAdd _ _))) _ _ _)); refine store_gen ?_; intro t9 k9; (try dsimp only)))
  (k_with "my k_mem" => (((with_reducible refine isMem ?_); focus ((repeat (first | exact List.Mem.head _ | exact lm1 | exact lm2 | exact lm3 | refine' lmd ?_)); done))))
  (k_with "my k_ne" => (first | assumption | (refine ne_sym ?_; assumption)))
  (k_with "my call ref" => (k_here; (with_reducible show wpAny _ _ (PySem.call (Value.ref 826) _) _ _ _); k_dflt (refine' spec_number (by k_asm) (by k_asm) (by k_asm) (by k_asm) (by k_asm) (by first | exact rfl | assumption) (by k_asm) (by k_asm) (by first | assumption | omega) (by omega) (by omega) (by ktr_room) ?_; k_whole); intro t9 h9 tk9 F9 N9; (try dsimp only); (try k_sweep); (try k_fold)))
  (k_with "my eval Call" => ((with_reducible show wpAny _ _ (eval (Expr.Call (Expr.Name (PySem.Str.ofString "_law_number") _) _ [] _) _) _ _ _); refine Call_ ?_))
  (k_with "my call ref" => (k_here; (with_reducible show wpAny _ _ (PySem.call (Value.ref 833) _) _ _ _); k_dflt (first | (refine' spec_octets (first := 5) (many := 32) (by k_asm) (by k_asm) (by k_asm) (by k_asm) (by k_asm) (by first | exact rfl | assumption) (by k_asm) (by k_asm) (by first | assumption | omega) (by omega) (by omega) (by omega) (by ktr_room) ?_; k_whole) | (refine' spec_octets (first := 37) (many := 840) (by k_asm) (by k_asm) (by k_asm) (by k_asm) (by k_asm) (by first | exact rfl | assumption) (by k_asm) (by k_asm) (by first | assumption | omega) (by omega) (by omega) (by omega) (by ktr_room) ?_; k_whole)); intro t9 h9 tk9 F9 N9; (try dsimp only); (try k_sweep); (try k_fold)))
  (k_with "my call ref" => (k_here; (with_reducible show wpAny _ _ (PySem.call (Value.ref 847) _) _ _ _); k_dflt (refine' spec_cand (by k_asm) (by k_asm) (by k_asm) (by k_asm) (by k_asm) (by first | exact rfl | assumption) (by first | assumption | exact octs_in _ _ _) (by first | assumption | exact octs_len _ _ _) (by ktr_room) ?_; k_whole); intro x' h' tk' vs' n' F' N' n1 hI'; (try simp only [AllNe, and_true] at n1); (try dsimp only); (try k_sweep); (try k_fold)))
  (k_with "my call ref" => (k_here; (with_reducible show wpAny _ _ (PySem.call (Value.ref 245) _) _ _ _); k_dflt (refine' spec_br (by k_asm) (by k_asm) (by k_asm) (by k_asm) (by k_asm) (by first | exact rfl | assumption) (by omega) (by omega) (by ktr_room) ?_; k_whole); intro t9 h9 tk9 F9 N9 hr9 hr8; (try dsimp only); (try k_sweep); (try k_fold)))
  (k_with "my call builtin:pow" => (k_here; (with_reducible show wpAny _ _ (PySem.call (Value.builtin "pow") [_, _, _]) _ _ _); first | refine pow_tree gives_inv ?_ | refine pow_tree (gives_pow3 (by first | assumption | omega)) ?_; intro _ _))
  (k_with "my call ref" => (k_here; (with_reducible show wpAny _ _ (PySem.call (Value.ref 280) _) _ _ _); k_dflt (refine' spec_ring (by k_asm) (by k_asm) (by k_asm) (by k_asm) (by k_asm) (by ktr_room) ?_; k_whole); intro x' d' z' t1 t2 t3 t4 u1 u2 u4 h' tk' F' N' n1 n2 l1; (try simp only [AllNe, and_true] at n1 n2); (try k_lt2 l1); (try dsimp only); (try k_sweep); (try k_fold)))
  (k_with "my call ref" => (k_here; (with_reducible show wpAny _ _ (PySem.call (Value.ref 671) _) _ _ _); k_dflt (refine' spec_module (by k_asm) (by k_asm) (by k_asm) (by k_asm) (by k_asm) (by ktr_room) ?_; k_whole); intro y' e' x' d' z' t0 t1 t2 t3 t4 u1 u2 u4 h' tk' F' N' n1 n2 n3 n4 l1 m1 m2 l2; (obtain ⟨m11, m12⟩ := m1); (obtain ⟨m21, m22⟩ := m2); (try k_lt2 l1); (try k_lt2 l2); (try dsimp only); (try k_sweep); (try k_fold)))
  (k_with "my k_ne" => (((try dsimp only); first | with_reducible assumption | (refine ne_sym ?_; with_reducible assumption) | with_reducible exact lt_ne (by assumption) (by (repeat (first | exact mem0 | exact mem1 | exact mem2 | exact mem3 | refine memd ?_)); (first | all_goals fail | fail)) | with_reducible exact ne_sym (lt_ne (by assumption) (by (repeat (first | exact mem0 | exact mem1 | exact mem2 | exact mem3 | refine memd ?_)); (first | all_goals fail | fail))) | with_reducible exact allNe_ne (by assumption) (by (repeat (first | exact mem0 | exact mem1 | exact mem2 | exact mem3 | refine memd ?_)); (first | all_goals fail | fail)) | with_reducible exact ne_sym (allNe_ne (by assumption) (by (repeat (first | exact mem0 | exact mem1 | exact mem2 | exact mem3 | refine memd ?_)); (first | all_goals fail | fail))) | with_reducible exact off1_ne (by assumption) (by (repeat (first | exact mem0 | exact mem1 | exact mem2 | exact mem3 | refine memd ?_)); (first | all_goals fail | fail)) | with_reducible exact ne_sym (off1_ne (by assumption) (by (repeat (first | exact mem0 | exact mem1 | exact mem2 | exact mem3 | refine memd ?_)); (first | all_goals fail | fail))) | with_reducible exact off3_1 (by assumption) (by (repeat (first | exact mem0 | exact mem1 | exact mem2 | exact mem3 | refine memd ?_)); (first | all_goals fail | fail)) | with_reducible exact ne_sym (off3_1 (by assumption) (by (repeat (first | exact mem0 | exact mem1 | exact mem2 | exact mem3 | refine memd ?_)); (first | all_goals fail | fail))) | with_reducible exact off3_2 (by assumption) (by (repeat (first | exact mem0 | exact mem1 | exact mem2 | exact mem3 | refine memd ?_)); (first | all_goals fail | fail)) | with_reducible exact ne_sym (off3_2 (by assumption) (by (repeat (first | exact mem0 | exact mem1 | exact mem2 | exact mem3 | refine memd ?_)); (first | all_goals fail | fail))) | with_reducible exact off3_3 (by assumption) (by (repeat (first | exact mem0 | exact mem1 | exact mem2 | exact mem3 | refine memd ?_)); (first | all_goals fail | fail)) | with_reducible exact ne_sym (off3_3 (by assumption) (by (repeat (first | exact mem0 | exact mem1 | exact mem2 | exact mem3 | refine memd ?_)); (first | all_goals fail | fail))) | with_reducible exact Ne3.a (by assumption) | with_reducible exact ne_sym (Ne3.a (by assumption)) | with_reducible exact Ne3.b (by assumption) | with_reducible exact ne_sym (Ne3.b (by assumption)) | with_reducible exact Ne3.c (by assumption) | with_reducible exact ne_sym (Ne3.c (by assumption)) | with_reducible exact Nat.ne_of_lt (by assumption) | with_reducible exact ne_sym (Nat.ne_of_lt (by assumption)) | with_reducible exact lt_ne2 (by assumption) (by assumption) (by (repeat (first | exact mem0 | exact mem1 | exact mem2 | exact mem3 | refine memd ?_)); (first | all_goals fail | fail)) | with_reducible exact ne_sym (lt_ne2 (by assumption) (by assumption) (by (repeat (first | exact mem0 | exact mem1 | exact mem2 | exact mem3 | refine memd ?_)); (first | all_goals fail | fail))) | (refine neN ?_; omega))))
  (k_with "my callWith ref" => (k_here; kco_any "__call__"; kco_here; k_dflt (refine' call_inst_kw (by k_in) (by k_inst) (by rfl) (by exact rfl) ?_; k_whole)))
  (k_with "my call ref" => (k_here; (with_reducible show wpAny _ _ (PySem.call (Value.ref 42) _) _ _ _); k_dflt (refine' spec_zero (by k_asm) (by k_asm) (by k_asm) (by k_asm) (by k_asm) (by first | exact rfl | assumption) (by k_mem) (by k_mem) (by assumption) (by ktr_room) ?_; k_whole); intro x9 h9 tk9 F9 N9; (try dsimp only); (try k_sweep); (try k_fold)))
  (k_with "my subscriptTail Name Slice ref ref" => (k_here; (try dsimp only); (with_reducible show wpAny _ _ (subscriptTail (Expr.Name (PySem.Str.ofString "candidates") _) (Expr.Slice (some _) none none _) (Value.ref _) (Value.ref _)) _ _ _); (with_reducible rename Fr _ _ _ _ => cF); (with_reducible rename News _ _ _ _ => cN); (with_reducible rename IntsAre _ (cands _) => cI); refine cut_from (s := ⟨_, _, _, _, _⟩) cF cN (by k_mem) cI (by omega) (by rw [cands_len]; decide) ?_; intro D' ws' h' F' N' l1 hI'; (try k_lt l1); (try dsimp only); (try k_sweep)))
  (k_with "my subscriptTail Name Slice ref ref" => (k_here; (try dsimp only); (with_reducible show wpAny _ _ (subscriptTail (Expr.Name (PySem.Str.ofString "candidates") _) (Expr.Slice none (some _) none _) (Value.ref _) (Value.ref _)) _ _ _); (with_reducible rename Fr _ _ _ _ => cF); (with_reducible rename News _ _ _ _ => cN); (with_reducible rename IntsAre _ (cands _) => cI); refine cut_upto (s := ⟨_, _, _, _, _⟩) cF cN (by k_mem) cI (by omega) (by rw [cands_len]; decide) ?_; intro D' ws' h' F' N' l1 hI'; (try k_lt l1); (try dsimp only); (try k_sweep)))
  (k_with "my binaryOp Add ref ref" => (k_here; (try dsimp only); (with_reducible rename Fr _ _ _ _ => cF); (with_reducible rename News _ _ _ _ => cN); (with_reducible rename IntsAre _ (List.drop _ (cands _)) => cI); (with_reducible rename IntsAre _ (List.take _ (cands _)) => cJ); refine cat_two cF cN (by k_mem) (by k_mem) cI cJ (by rw [List.length_drop, List.length_take, cands_len]; omega) ?_; intro D' ws' h' F' N' l1 hI'; (try k_lt l1); (try dsimp only); (try k_sweep)))
  (k_with "my getMethod ref" => (k_here; (with_reducible show wpAny _ _ (getMethod (Value.ref _) (PySem.Str.ofString "M") _) _ _ _); k_dflt (refine' kmu_own (by k_asm) (by k_asm) (by k_inst) (by k_is) (by k_is) ?_; k_whole)))
  (k_with "my getMethod ref" => (k_here; (with_reducible show wpAny _ _ (getMethod (Value.ref _) (PySem.Str.ofString "xof") _) _ _ _); k_dflt (refine' kmu_own (by k_asm) (by k_asm) (by k_inst) (by k_is) (by k_is) ?_; k_whole)))
  (k_with "my callWith ref" => (k_here; k_dflt ((try dsimp only); (with_reducible show wpAny _ _ (callWith _ _ _ _ (backToKw _ (keywordEach (_ :: _) _))) _ _ _); refine' callWith_MKW (by k_asm) (by k_asm) (by k_mem) (by k_is) (by exact rfl) ?_; k_whole)))
  (k_with "my wpAt" => (ks_step "attributeBase Call"; k_here; k_dflt (refine ks_node (by k_asm) (by k_asm) (by k_asm) (by k_asm) (by k_is) (by rfl) (by rfl) (by k_inst) (by k_is) (by rfl) (by assumption) (by k_is) (by k_is) (by k_is) (by k_is) (by decide) (by rfl) (by rfl) (by rfl) (by rfl) (by assumption) (by first | boot_by_name | rfl | kernel_rfl) ?_; intro so' h' F' N' l1)))
  (k_with "my wpAt" => (ks_step "eval Call"; k_dflt (refine wpAt_MethodCallKW ?_)))
  (k_with "my wpAt" => (ks_step "exec Expr"; k_dflt (refine ks_wpAt_Expr_any ?_)))
  (k_with "my RestG" => (k_dflt (first | (refine RestG.succ ?_; intro it9 s9 c9 G9 os9 F9 N9) | (refine RestG.zero ?_; intro s9 G9 os9 F9 N9)); (try dsimp only); (try k_sweep); (try k_fold)))
  (k_with "my PostG" => (k_dflt (show TurnG _ _ _ _ _ _ _ _)))
  (k_with "my TurnG" => (k_dflt (refine' TurnG.intro (by k_asm) (by k_asm) (by k_asm) (by (repeat (first | rfl | assumption | (refine Eq.trans (by assumption) ?_)))) (by k_all) (by k_mem) ?_; k_whole)))
  (k_with "my CompRest" => (with_unfolding_all first
      | (refine LCg.CompRest.succ ?_; intro v' I' oI' C' oC' D' m' h' tk' E' hv' hC' hx' F' N' off' ne'; (first | lcg_open hv' | (obtain ⟨t9', hv9'⟩ := hv'; subst hv9')); (change Ne3 I' C' D' at ne'))
      | refine LCg.CompRest.zero ?_))
  (k_with "my CompEnd" => lcg_end)
  (k_with "my FinE" => ((unfold LCg.FinE); intro D' h' tk' F' N' o1'; (try simp only [List.nil_append, List.cons_append] at N'); (try dsimp only)))
  (k_with "my FinA" => ((unfold LCg.FinA); intro D' h' tk' F' N' o1'; (try simp only [List.nil_append, List.cons_append] at N'); (try dsimp only)))
  (k_with "my CompSrc" => (k_here; k_dflt (refine LCg.CompSrc.range (by rfl) (by k_asm) (by k_asm) (by assumption) (by first | decide | rfl) (by first | rfl | decide) (by first | size_fits | exact Nat.le_of_ble_eq_true rfl) ?_; intro g'; lcg_lit)))
  (k_with "my call ref" => (k_here; (try dsimp only [List.nil_append, List.cons_append]); (with_reducible show wpAny _ _ (PySem.call (Value.ref _) [Value.bytes _ _]) _ _ _); (with_reducible rename XofSpec _ _ _ _ _ _ _ _ _ _ _ => xS); k_dflt (refine' xof_use xS (by k_asm) (by k_asm) (by k_asm) (by k_asm) (by k_asm) (by first | exact rfl | assumption) (by exact all4 (by k_mem) (by k_mem) (by k_mem) (by k_mem)) (by k_mem) (by first | exact KBw.ints_app (KBw.ints_app (by assumption) (by assumption)) (by assumption) | kba_ints | exact KBw.ints_app (KBw.ints_app (by assumption) (one_byte (by decide) (by decide))) (one_byte (by decide) (by decide))) (by assumption) (by first | assumption | decide) (by first | assumption | decide) (by first | assumption | exact (show _ = 0 from rfl) | exact (show _ = 1 from rfl) | exact (show _ = 2 from rfl) | exact (show _ = 3 from rfl)) (by first | assumption | decide | exact Nat.le_of_ble_eq_true rfl) (by ktr_room) (by k_upd) ?_; k_whole); intro h9 tk9 t9 F9 N9 e9; (try dsimp only); (try k_sweep); (try k_fold)))
  (k_with "my call ref" => (k_here; (with_reducible show wpAny _ _ (PySem.call (Value.ref 253) _) _ _ _); k_dflt (refine' spec_sample (by k_asm) (by k_asm) (by k_asm) (by k_asm) (by k_asm) (by k_mem) (by k_mem) (by assumption) (by exact rot_in (by assumption) _) (by exact (rot_len _ _).trans (by assumption)) (by assumption) (by ktr_room) ?_; k_whole); intro x9 d9 D9 ta9 tc9 vs9 n9 h9 tk9 F9 N9 I9 n91 n92 n93 l9; (try k_lt2 l9); (try dsimp only); (try k_sweep); (try k_fold)))
  (k_with "my call ref" => (k_here; (with_reducible show wpAny _ _ (PySem.call (Value.ref 815) _) _ _ _); refine Stop.at ?_))
  (k_with "my call ref" => (k_here; (with_reducible show wpAny _ _ (PySem.call (Value.ref 708) _) _ _ _); (with_reducible rename XofSpec _ _ _ _ _ _ _ _ _ _ _ => xS); k_dflt (refine' spec_xofm (by k_asm) (by k_asm) (by k_asm) (by k_asm) (by k_asm) (by first | exact rfl | assumption) (by k_asm) (by exact (all9 (by k_mem) (by k_mem) (by k_mem) (by k_mem) (by k_mem) (by k_mem) (by k_mem) (by k_mem) (by k_mem))) (by exact ⟨by k_ne, ⟨by k_ne, ⟨by k_ne, ⟨by k_ne, ⟨by k_ne, ⟨by k_ne, ⟨by k_ne, ⟨by k_ne, True.intro⟩⟩⟩⟩⟩⟩⟩⟩) xS (by assumption) (by first | assumption | exact one_byte (by decide) (by decide)) (by first | assumption | exact one_byte (by decide) (by decide)) (by assumption) (by decide) (by decide) (by first | exact (show _ = 0 from rfl) | exact (show _ = 1 from rfl) | exact (show _ = 2 from rfl) | exact (show _ = 3 from rfl)) (by first | decide | exact Nat.le_of_ble_eq_true rfl) (by ktr_room) (by (intro _ _; k_upd)) ?_; k_whole); intro b8 t8 h9 tk9 t9 F9 N9 e9; (try dsimp only); (try k_sweep); (try k_fold)))
  trivial
section
variable {prog : Program} {w : World} {p : Program} {loose : List Str} {mean : ExcName → Option Value} {mg mb : Str → Option Value}
  {dp un : Nat} {gd : Option (List Code)} {cn : Str} {cs : Scope} {a : Addr} {ccd : Value} {cl : List (Str × Addr)} {outer : List Env} {A₀ : Around} {base h₀ : Heap} {L : Addr} {m : Str → Option Value} {news : List (Addr × Obj)} {s : Shared}
  {Q E : Value → Shared → Prop}
theorem lay_spec_modc2 : True := by
  (k_with "go spec_modc2" =>
    k_dflt (refine' semi_nest (cl := []) 562 ?k1 ?k2 ?k3 N sub ?k5 ?kA ?kF ?kK ?k6 ?kd ?k7 ?k8 ?k9 ?kB ?_ ?c2 ?c3 ?c4 ?c5; (case kA => exact rfl); (case kF => exact rfl); (case kK => assumption); (case k1 => k_asm); (case k2 => k_asm); (case k3 => k_asm); (case k5 => k_asm); (case k6 => exact (X.keeps F.keep) _ _ (by k_is)); (case kd => exact rfl); (case k7 => exact codeRec_of (X.keeps F.keep) (by k_is)); (case k8 => ktr_room); (case k9 => exact kp_binds (X.keeps F.keep) (fun _ => rfl)); (case kB => exact locs rfl); (case c2 => exact rfl); (case c3 => exact rfl); (case c4 => exact rfl); (case c5 => decide))
    clear N
    intro g' L' h' FG' F' N' B' X' T' l1
    (try dsimp only)
    (try k_lift B')
    (try k_fold)
    k_steps
    rename Back _ _ _ _ _ _ => hbk
    rename News h₀ L _ _ => kN
    rename Fr h₀ L _ m => kF
    exact ret _ _ _ _ _ _ _ (by k_asm) (by repeat (first | rfl | assumption | (refine Eq.trans (by assumption) ?_))) kF
      (news_cons (a := [_, _]) (news_sub kN (all2 (by k_mem) (by k_mem)))
        (hbk _ _ _ _ kN (by k_mem) (all14 (fun h => absurd rfl h) (fun _ => by k_mem) (fun _ => by k_mem) (fun _ => by k_mem) (fun _ => by k_mem) (fun _ => by k_mem) (fun _ => by k_mem) (fun _ => by k_mem) (fun _ => by k_mem) (fun _ => by k_mem) (fun _ => by k_mem) (fun _ => by k_mem) (fun _ => by k_mem) (fun _ => by k_mem)) (U _))))
  trivial
theorem spec_modc2 {M dM R D r0 r1 p00 d00 c00 p01 d01 c01 p10 d10 c10 p11 d11 c11 : Addr} {t0 f00 g00 f01 g01 f10 g10 f11 g11 : Tok} {nD g0 g1 : Nat} {tr : Bool} {R9 : Result → Shared → Prop} {news' : Array Value → List (Addr × Obj)}
    (B : Below A₀ base outer h₀) (F : Fr h₀ L s.heap m) (X : (hd.heap_1 w.params).In h₀) (N : News h₀ L s.heap news) (T : Top p loose mean mg mb h₀) (hk : cs.kind = .function) (hC : CodeHd base 566 562) (hpf : ((prog.main.file : Str) == Str.ofString "/claim/cut.py") = true) (hps : (prog.main.scope.names.lookup ("super" : Str)).isSome = false)
    (sub : ∀ q ∈ [((562 : Addr), tabObj #[]), (M, instObj 671 dM), (dM, dictOf (modEs w.params t0 R) 1), (D, PySem.W.listOf #[.ref r0, .ref r1] nD), (r0, PySem.W.listOf #[.ref p00, .ref p01] g0), (r1, PySem.W.listOf #[.ref p10, .ref p11] g1), (p00, instObj 424 d00), (d00, dictOf (polyEs w.params f00 g00 R c00) 2), (p01, instObj 424 d01), (d01, dictOf (polyEs w.params f01 g01 R c01) 2), (p10, instObj 424 d10), (d10, dictOf (polyEs w.params f10 g10 R c10) 2), (p11, instObj 424 d11), (d11, dictOf (polyEs w.params f11 g11 R c11) 2)], q ∈ news)
    (ap2 : AllNe 562 [(M, instObj 671 dM), (dM, dictOf (modEs w.params t0 R) 1), (D, PySem.W.listOf #[.ref r0, .ref r1] nD), (r0, PySem.W.listOf #[.ref p00, .ref p01] g0), (r1, PySem.W.listOf #[.ref p10, .ref p11] g1), (p00, instObj 424 d00), (d00, dictOf (polyEs w.params f00 g00 R c00) 2), (p01, instObj 424 d01), (d01, dictOf (polyEs w.params f01 g01 R c01) 2), (p10, instObj 424 d10), (d10, dictOf (polyEs w.params f10 g10 R c10) 2), (p11, instObj 424 d11), (d11, dictOf (polyEs w.params f11 g11 R c11) 2)]) (hG : AllBare s.gens) (hroom : dp + 10 < recursionLimit) (U : ∀ psT, Upd 562 (tabObj #[]) (tabObj psT) news (news' psT))
    (ret : ∀ mx dmx m1 m2 m3 s' psT, AllBare s'.gens → s'.os = s.os → Fr h₀ L s'.heap m → News h₀ L s'.heap ((mx, instObj 636 dmx) :: (dmx, dictOf (matEs w.params m1 m2 m3 M D tr) 3) :: news' psT) → R9 (.ok (.ret (.ref mx))) s') :
    codeAny (model prog w) (ktrTop dp un gd cn cs L a ccd cl outer) (.call (.ref 567) ⟨[.ref M, .ref D], [(Str.ofString "transpose", .bool tr)]⟩) R9 s := by
  refine unbox ?_
  simp +zetaDelta (disch := (k_dflt (k_extra "go spec_modc2"))) only [↓box_true]
end
theorem reg_MODC2 : True := by
  (k_with "my call ref" => (k_here; kco_any "__call__"; kco_here; k_dflt (refine wpAny_call ?_; refine' kco_code (by k_in) (by k_inst) (by rfl) (by k_is) (by k_is) (by k_is) ?_; (try dsimp only); refine' spec_modc2 (by k_asm) (by k_asm) (by k_asm) (by k_asm) (by k_asm) (by first | exact rfl | assumption) (by k_asm) (by assumption) (by assumption) (by exact (all14 (by k_mem) (by k_mem) (by k_mem) (by k_mem) (by k_mem) (by k_mem) (by k_mem) (by k_mem) (by k_mem) (by k_mem) (by k_mem) (by k_mem) (by k_mem) (by k_mem))) (by exact ⟨by k_ne, ⟨by k_ne, ⟨by k_ne, ⟨by k_ne, ⟨by k_ne, ⟨by k_ne, ⟨by k_ne, ⟨by k_ne, ⟨by k_ne, ⟨by k_ne, ⟨by k_ne, ⟨by k_ne, ⟨by k_ne, True.intro⟩⟩⟩⟩⟩⟩⟩⟩⟩⟩⟩⟩⟩) (by k_asm) (by ktr_room) (by (intro _; k_upd)) ?_; k_whole); intro m8 d8 t81 t82 t83 s8 ps8 G8 os8 F8 N8; (try dsimp only); (try k_sweep); (try k_fold)))
  trivial
section
variable {prog : Program} {w : World} {p : Program} {loose : List Str} {mean : ExcName → Option Value} {mg mb : Str → Option Value}
  {dp un : Nat} {gd : Option (List Code)} {cn : Str} {cs : Scope} {a : Addr} {ccd : Value} {cl : List (Str × Addr)} {outer : List Env} {A₀ : Around} {base h₀ : Heap} {L : Addr} {m : Str → Option Value} {news news' : List (Addr × Obj)} {s : Shared}
  {Q E : Value → Shared → Prop}
theorem lay_spec_gen2 : True := by
  (k_with "go spec_gen2" =>
    let e11 : Addr × Obj := (cb, ocb)
    let l11 : List (Addr × Obj) := e11 :: []
    let e10 : Addr × Obj := (ca, oca)
    let l10 : List (Addr × Obj) := e10 :: l11
    let e9 : Addr × Obj := (cx, ocx)
    let l9 : List (Addr × Obj) := e9 :: l10
    let e8 : Addr × Obj := (fx, fnMade name qual params body scope clo doc pm cx ctv)
    let l8 : List (Addr × Obj) := e8 :: l9
    let e7 : Addr × Obj := (dy, dictOf (hashEs w.params s1 s2 s3 r fx fp) 3)
    let l7 : List (Addr × Obj) := e7 :: l8
    let e6 : Addr × Obj := (y, instObj 671 dy)
    let l6 : List (Addr × Obj) := e6 :: l7
    let e5 : Addr × Obj := (dR, dictOf (ringEs w.params t1 t2 t3 t4 u1 u2 u4 z) 4)
    let l5 : List (Addr × Obj) := e5 :: l6
    let e4 : Addr × Obj := (R, instObj 280 dR)
    let l4 : List (Addr × Obj) := e4 :: l5
    let e3 : Addr × Obj := (dM, dictOf (modEs w.params t0 R) 1)
    let l3 : List (Addr × Obj) := e3 :: l4
    let e2 : Addr × Obj := (M, instObj 671 dM)
    let l2 : List (Addr × Obj) := e2 :: l3
    let e1 : Addr × Obj := (dkm, dictOf (kemEs w.params 2 a1 a2 a3 a4 a5 a6 a7 a8 v1 v2 v3 v4 v5 M R y) 8)
    let l1 : List (Addr × Obj) := e1 :: l2
    let e0 : Addr × Obj := (km, instObj 815 dkm)
    let l0 : List (Addr × Obj) := e0 :: l1
    change ∀ q ∈ (as, PySem.W.listOf #[] 0) :: ((562 : Addr), tabObj #[]) :: l0, q ∈ news at sub
    change AllNe as (((562 : Addr), tabObj #[]) :: l0) at ap
    change AllNe 562 l0 at ap2
    change XofSpec prog w p loose mean mg mb l8 fx as ks at xs
    change wpAny _ _ _ _ _ _
    refine wpAny_call ?_
    k_dflt (refine' semi_cellsB as 562 ?k1 ?k2 ?k3 N sub ?k5 ?kA ?kF ?kK ?k6 ?k7 ?k8 ?k9 ?kB ?kD ?_ ?c2 ?c3 ?c4; (case kA => exact rfl); (case kF => exact rfl); (case kK => assumption); (case k1 => k_asm); (case k2 => k_asm); (case k3 => k_asm); (case k5 => k_asm); (case k6 => k_is); (case k7 => k_is); (case k8 => ktr_room); (case k9 => first | exact binds_K (by k_in) rfl (by k_is) rfl rfl rfl | exact kp_binds (X.keeps F.keep) (fun _ => rfl)); (case kB => exact rfl); (case kD => decide +kernel); (case c2 => exact rfl); (case c3 => exact rfl); (case c4 => exact rfl))
    clear N
    intro g' L' h' tk' cells' FG' F' N' Y' B' X' T' l1
    obtain l2 := lt_all l1
    k_cells Y'
    simp only [List.cons_append, List.nil_append] at N'
    (try dsimp only)
    (try k_lift B')
    change wpAny _ _ _ _ _ _
    k_fold
    k_steps
    rename Back2 _ _ _ _ _ _ _ => hbk
    rename News h₀ L _ _ => kN
    rename Fr h₀ L _ m => kF
    exact ret _ _ _ _ _ _ _ _ _ _ _ _ _ _ _ _ _ _ _ _ _ _ _ _ _ _ _ _ _ _ _ _ _ _ _ _ _ _ _ _ _ _ _ _ _ _ _ _ _ _ (by k_asm) (by repeat (first | rfl | assumption | (refine Eq.trans (by assumption) ?_))) kF
      (news_sub kN (all17 (by k_mem) (by k_mem) (by k_mem) (by k_mem) (by k_mem) (by k_mem) (by k_mem) (by k_mem) (by k_mem) (by k_mem) (by k_mem) (by k_mem) (by k_mem) (by k_mem) (by k_mem) (by k_mem) (by k_mem)))
      (fun n1 n2 U1 U2 => hbk _ _ _ _ _ _ _ kN (by k_mem) (by k_mem) (all14 (fun h _ => absurd rfl h) (fun _ h => absurd rfl h) (fun _ _ => by k_mem) (fun _ _ => by k_mem) (fun _ _ => by k_mem) (fun _ _ => by k_mem) (fun _ _ => by k_mem) (fun _ _ => by k_mem) (fun _ _ => by k_mem) (fun _ _ => by k_mem) (fun _ _ => by k_mem) (fun _ _ => by k_mem) (fun _ _ => by k_mem) (fun _ _ => by k_mem)) U1 U2) (by assumption) (by assumption) (by assumption) (by assumption) (by assumption) (by assumption) (by assumption) (by assumption))
  trivial
set_option maxHeartbeats 16000000 in
theorem spec_gen2 {km dkm M dM R dR y dy fx cx ca cb as r fp : Addr} {a1 a2 a3 a4 a5 a6 a7 a8 v1 v2 v3 v4 v5 t0 t1 t2 t3 t4 u1 u2 u4 s1 s2 s3 trb : Tok} {z : Value} {name qual : Str} {params : Arguments} {body : List Stmt} {scope : Scope} {clo : List (Str × Addr)} {doc pm ctv : Value} {ocx oca ocb : Obj} {rb : Array UInt8} {rho ks : List Int} {tr : Bool}
    (B : Below A₀ base outer h₀) (F : Fr h₀ L s.heap m) (X : (hd.heap_1 w.params).In h₀) (N : News h₀ L s.heap news) (T : Top p loose mean mg mb h₀) (hk : cs.kind = .function) (hC : CodeHd base 566 562) (hpf : ((prog.main.file : Str) == Str.ofString "/claim/cut.py") = true) (hps : (prog.main.scope.names.lookup ("super" : Str)).isSome = false)
    (sub : ∀ q ∈ [(as, PySem.W.listOf #[] 0), ((562 : Addr), tabObj #[]), (km, instObj 815 dkm), (dkm, dictOf (kemEs w.params 2 a1 a2 a3 a4 a5 a6 a7 a8 v1 v2 v3 v4 v5 M R y) 8), (M, instObj 671 dM), (dM, dictOf (modEs w.params t0 R) 1), (R, instObj 280 dR), (dR, dictOf (ringEs w.params t1 t2 t3 t4 u1 u2 u4 z) 4), (y, instObj 671 dy), (dy, dictOf (hashEs w.params s1 s2 s3 r fx fp) 3), (fx, fnMade name qual params body scope clo doc pm cx ctv), (cx, ocx), (ca, oca), (cb, ocb)], q ∈ news)
    (ap : AllNe as [((562 : Addr), tabObj #[]), (km, instObj 815 dkm), (dkm, dictOf (kemEs w.params 2 a1 a2 a3 a4 a5 a6 a7 a8 v1 v2 v3 v4 v5 M R y) 8), (M, instObj 671 dM), (dM, dictOf (modEs w.params t0 R) 1), (R, instObj 280 dR), (dR, dictOf (ringEs w.params t1 t2 t3 t4 u1 u2 u4 z) 4), (y, instObj 671 dy), (dy, dictOf (hashEs w.params s1 s2 s3 r fx fp) 3), (fx, fnMade name qual params body scope clo doc pm cx ctv), (cx, ocx), (ca, oca), (cb, ocb)]) (ap2 : AllNe 562 [(km, instObj 815 dkm), (dkm, dictOf (kemEs w.params 2 a1 a2 a3 a4 a5 a6 a7 a8 v1 v2 v3 v4 v5 M R y) 8), (M, instObj 671 dM), (dM, dictOf (modEs w.params t0 R) 1), (R, instObj 280 dR), (dR, dictOf (ringEs w.params t1 t2 t3 t4 u1 u2 u4 z) 4), (y, instObj 671 dy), (dy, dictOf (hashEs w.params s1 s2 s3 r fx fp) 3), (fx, fnMade name qual params body scope clo doc pm cx ctv), (cx, ocx), (ca, oca), (cb, ocb)]) (hG : AllBare s.gens)
    (xs : XofSpec prog w p loose mean mg mb [(fx, fnMade name qual params body scope clo doc pm cx ctv), (cx, ocx), (ca, oca), (cb, ocb)] fx as ks)
    (hrb : KBw.bInts rb = rho) (hrl : rho.length = 32) (hks : ks.length = 840) (hkb : ∀ n ∈ ks, 0 ≤ n ∧ n < 256) (hRd : @LT.lt Nat _ dR R) (hroom : dp + 20 < recursionLimit)
    (h0 : 256 ≤ (acc (rot ks (210 * 0)) 280).length)
    (h1 : 256 ≤ (acc (rot ks (210 * 1)) 280).length)
    (h2 : 256 ≤ (acc (rot ks (210 * 2)) 280).length)
    (h3 : 256 ≤ (acc (rot ks (210 * 3)) 280).length)
    (ret : ∀ mx dmx D r0 r1 p00 d00 c00 p01 d01 c01 p10 d10 c10 p11 d11 c11 b00 b01 b10 b11 m1 m2 m3 nD g0 g1 f00 g00 n00 e00 f01 g01 n01 e01 f10 g10 n10 e10 f11 g11 n11 e11 w00 w01 w10 w11 s' nA psT,
      AllBare s'.gens → s'.os = s.os → Fr h₀ L s'.heap m → News h₀ L s'.heap [(mx, instObj 636 dmx), (dmx, dictOf (matEs w.params m1 m2 m3 M D tr) 3), (D, PySem.W.listOf #[.ref r0, .ref r1] nD), (r0, PySem.W.listOf #[.ref p00, .ref p01] g0), (r1, PySem.W.listOf #[.ref p10, .ref p11] g1), (p00, instObj 424 d00), (d00, dictOf (polyEs w.params f00 g00 R c00) 2), (c00, PySem.W.listOf (List.toArray w00) n00), (p01, instObj 424 d01), (d01, dictOf (polyEs w.params f01 g01 R c01) 2), (c01, PySem.W.listOf (List.toArray w01) n01), (p10, instObj 424 d10), (d10, dictOf (polyEs w.params f10 g10 R c10) 2), (c10, PySem.W.listOf (List.toArray w10) n10), (p11, instObj 424 d11), (d11, dictOf (polyEs w.params f11 g11 R c11) 2), (c11, PySem.W.listOf (List.toArray w11) n11)] →
      (∀ n1 n2, Upd as (PySem.W.listOf #[] 0) (PySem.W.listOf #[(.bytes b00 e00), (.bytes b01 e01), (.bytes b10 e10), (.bytes b11 e11)] nA) news n1 → Upd 562 (tabObj #[]) (tabObj psT) n1 n2 → News h₀ L s'.heap n2) →
      KBw.bInts b00 = rho ++ [0] ++ [0] → KBw.bInts b01 = rho ++ [1] ++ [0] → KBw.bInts b10 = rho ++ [0] ++ [1] → KBw.bInts b11 = rho ++ [1] ++ [1] →
      IntsAre w00 ((acc (rot ks (210 * 0)) 280).take 256) → IntsAre w01 ((acc (rot ks (210 * 1)) 280).take 256) → IntsAre w10 ((acc (rot ks (210 * 2)) 280).take 256) → IntsAre w11 ((acc (rot ks (210 * 3)) 280).take 256) →
      Q (.ref mx) s') :
    wpAny (model prog w) (ktrTop dp un gd cn cs L a ccd cl outer) (call (.ref 742) [.ref km, .bytes rb trb] [(Str.ofString "transpose", .bool tr)]) Q E s := by
  refine unbox ?_
  simp +zetaDelta (disch := (k_dflt (k_extra "go spec_gen2"))) only [↓box_true]
end
theorem told_fits {vs : List Value} {told pre post l : List Int} {x : Int} {k : Nat} (hI : IntsAre vs told) (h1 : told.length ≤ pre.length) (h2 : (cands l).drop k ++ (cands l).take k = pre ++ x :: post) : vs.toArray.size ≤ sizeLine := by
  have e := congrArg List.length h2
  rw [List.length_append, List.length_drop, List.length_take, cands_len, List.length_append, List.length_cons] at e
  rw [List.size_toArray, hI.length, sizeLine_eq]
  omega
def dueOf (k : Int) (rho : List Int) : List (List Int) := if k = 1 then [rho ++ [0] ++ [0]] else [rho ++ [0] ++ [0], rho ++ [1] ++ [0], rho ++ [0] ++ [1], rho ++ [1] ++ [1]]
theorem due_ints {l : List Int} (h : ∀ n ∈ l, 0 ≤ n ∧ n < 256) {a b : UInt8} {x z : Int} (ha : (a.toNat : Int) = x) (hb : (b.toNat : Int) = z) : KBw.bInts (bytesOf l ++ [a, b]).toArray = l ++ [x] ++ [z] := by
  have e := bInts_bytesOf h
  subst ha hb
  unfold KBw.bInts at e ⊢
  rw [List.map_append]
  rw [show (bytesOf l).toArray.toList = bytesOf l from rfl] at e
  rw [e]
  simp
section
variable {prog : Program} {w : World} {A : Around} {E : Value → Shared → Prop} {s : Shared} {h₀ : Heap} {L : Addr} {m : Str → Option Value} {news : List (Addr × Obj)} {env : Env} {Q : Flow → Shared → Prop} {st : Stmt}
/-- the map with the names x and z forgotten -/
abbrev lost (kU m : Str → Option Value) : Str → Option Value := fun y => if y = Str.ofString "x" then kU y else if y = Str.ofString "z" then kU y else m y
theorem lost_of {m' m : Str → Option Value} (h : ∀ y, ¬ y = Str.ofString "x" → ¬ y = Str.ofString "z" → m' y = m y) : m' = lost m' m := by
  funext y
  by_cases h1 : y = Str.ofString "x"
  · simp only [lost, if_pos h1]
  · by_cases h2 : y = Str.ofString "z"
    · simp only [lost, if_neg h1, if_pos h2]
    · simp only [lost, if_neg h1, if_neg h2]
      exact h y h1 h2
/-- the loops that fill «due»: one end for k = 1 and k = 2 -/
theorem loops_join {du : Addr} {its : Array Value} {n : Nat} {k : Int} {rho : List Int} (_F : Fr h₀ L s.heap m) (_N : News h₀ L s.heap ((du, PySem.W.listOf its n) :: news))
    (h1 : wpAny (model prog w) A (exec st env) (fun f s' => Stop (f = .next ∧ ∃ kU vs n' h' tk', s' = { s with heap := h', toks := tk' } ∧ Fr h₀ L h' (lost kU m) ∧ News h₀ L h' ((du, PySem.W.listOf (List.toArray vs) n') :: news) ∧ ByAll vs (dueOf k rho))) E s)
    (h : ∀ kU vs n' h' tk', Fr h₀ L h' (lost kU m) → News h₀ L h' ((du, PySem.W.listOf (List.toArray vs) n') :: news) → ByAll vs (dueOf k rho) → Q .next { s with heap := h', toks := tk' }) :
    wpAny (model prog w) A (exec st env) Q E s :=
  wpAny_mono h1 (fun _ _ ⟨hf, kU, vs, n', h', tk', hs, F', N', b⟩ => by subst hf hs; exact h kU vs n' h' tk' F' N' b) fun _ _ e => e
end
theorem k_two (ns : List Int) : Int.fmod (num ns 0) 2 = 0 ∨ Int.fmod (num ns 0) 2 = 1 := by
  have := fmod_two (num ns 0)
  omega
theorem fmod_in (x : Int) {k : Int} (h : k = 1 ∨ k = 2) : 0 ≤ Int.fmod x k ∧ Int.fmod x k < k := by
  have hk : 0 < k := by omega
  rw [Int.fmod_eq_emod_of_nonneg _ (by omega)]
  exact ⟨Int.emod_nonneg _ (by omega), Int.emod_lt_of_pos _ hk⟩
structure KSplit : Prop where
structure KIf : Prop where
structure KLoop : Prop where
theorem k_cases {x k : Int} (h : x = 0 ∨ x = 1) (e : 1 + x = k) : k = 1 ∨ k = 2 := by omega
theorem k_nz {k : Int} (h : k = 1 ∨ k = 2) : ¬ k = 0 := by omega
theorem fr_lost {h₀ : Heap} {L : Addr} {h : Heap} {m' m : Str → Option Value} (F : Fr h₀ L h m') (e : ∀ y, ¬ y = Str.ofString "x" → ¬ y = Str.ofString "z" → m' y = m y) : Fr h₀ L h (lost m' m) := lost_of e ▸ F
theorem sh_in {b : Bool} {sh i j k : Int} (h1 : b = true → sh = 140 * (i + 2 * j)) (h0 : b = false → sh = 140 * (j + 2 * i)) (hk : k = 1 ∨ k = 2) (hi : 0 ≤ i ∧ i < k) (hj : 0 ≤ j ∧ j < k) : 0 ≤ sh ∧ sh ≤ 420 := by
  cases b
  · have := h0 rfl
    omega
  · have := h1 rfl
    omega
section
variable {prog : Program} {w : World} {A : Around} {E : Value → Shared → Prop} {s : Shared} {h₀ : Heap} {L : Addr} {news : List (Addr × Obj)} {l : Addr} {c : Nat} {vs : List Value} {ms : List Int} {Q : Value → Shared → Prop}
theorem len_ms (N : News h₀ L s.heap news) (hm : (l, PySem.W.listOf (List.toArray vs) c) ∈ news) (hi : IntsAre vs ms) (hz : ms.length ≤ 1000) (h : Q (.int (ms.length : Nat) (s.toks + 1)) { s with toks := s.toks + 1 + 1 }) :
    wpAny (model prog w) A (call (.builtin "len") [.ref l]) Q E s := by
  have e : vs.toArray.size = ms.length := by rw [List.size_toArray, hi.length]
  refine PyProof.Rows.len_list (items := vs.toArray) ⟨_, N.get hm, rfl, c, rfl⟩ (by rw [e]; omega) ?_
  rw [e]
  exact h
theorem ints_at : ∀ {vs : List Value} {ms : List Int}, IntsAre vs ms → ∀ j, j < ms.length → ∃ t, vs[j]? = some (.int (ms.getD j 0) t)
  | _, _, .nil, _, h => absurd h (Nat.not_lt_zero _)
  | _, _, .cons x t r, 0, _ => ⟨t, rfl⟩
  | _, _, .cons x t r, j + 1, h => by
    obtain ⟨u, e⟩ := ints_at r j (Nat.lt_of_succ_lt_succ h)
    exact ⟨u, by simpa using e⟩
theorem item_ms {value slice : Expr} {k : Int} {u : Tok} (N : News h₀ L s.heap news) (hm : (l, PySem.W.listOf (List.toArray vs) c) ∈ news) (hi : IntsAre vs ms) (h0 : 0 ≤ k ∧ k < 256) (h1 : 256 ≤ ms.length) (h : ∀ t, Q (.int (ms.getD k.toNat 0) t) s)
    (hs : subscripted slice false (.ref l) (.int k u) = operate [.ref l, .int k u] (getItem (.ref l) (.int k u)) := by with_unfolding_all rfl) (hg : ∀ r, letTemporaryGo value (.ref l) r = pure () := by intro _; with_unfolding_all rfl) :
    wpAny (model prog w) A (subscriptTail value slice (.ref l) (.int k u)) Q E s := by
  obtain ⟨t, e⟩ := ints_at hi k.toNat (by omega)
  exact PyProof.Rows.item_list (items := vs.toArray) ⟨_, N.get hm, rfl, c, rfl⟩ h0.1 (by omega) (by simpa using e) (h t) hs hg
end
theorem told_many {ns told : List Int} {k : Nat} (hns : ns.length ≤ 63) (h : told = ((cands (octs ns 37 840)).drop k ++ (cands (octs ns 37 840)).take k).filter under) : 256 ≤ told.length := by
  rw [h, filter_rot]
  exact count_all hns
theorem told_few {ns told : List Int} {k : Nat} (h : told = ((cands (octs ns 37 840)).drop k ++ (cands (octs ns 37 840)).take k).filter under) : told.length ≤ 1000 := by
  rw [h]
  refine Nat.le_trans (List.length_filter_le _ _) ?_
  rw [List.length_append, List.length_drop, List.length_take, cands_len]
  omega
theorem acc_many {l : List Int} (h : 256 ≤ (acc l 280).length) : 256 ≤ ((acc l 280).take 256).length := by rw [List.length_take]; omega
theorem getD_take {l : List Int} {n j : Nat} (h : j < n) : (l.take n).getD j 0 = l.getD j 0 := by
  rw [List.getD_eq_getElem?_getD, List.getD_eq_getElem?_getD, List.getElem?_take_of_lt h]
theorem end_eq {ns told : List Int} {sh n : Int} {q : Nat} (h : told = ((cands (octs ns 37 840)).drop sh.toNat ++ (cands (octs ns 37 840)).take sh.toNat).filter under) (hs : sh = ((140 * q : Nat) : Int)) (hq : q ≤ 4) (hn : 0 ≤ n ∧ n < 256) :
    ((acc (rot (octs ns 37 840) (210 * q)) 280).take 256).getD n.toNat 0 = told.getD n.toNat 0 := by
  rw [getD_take (by omega), acc_rot (octs_len _ _ _) (octs_in _ _ _) hq, h, hs, Int.toNat_natCast]
theorem fmod_256 (x : Int) : 0 ≤ Int.fmod x 256 ∧ Int.fmod x 256 < 256 := by
  rw [Int.fmod_eq_emod_of_nonneg _ (by decide)]
  omega
theorem zero_one {x : Int} (h : 0 ≤ x ∧ x < 2) : x = 0 ∨ x = 1 := by omega
theorem zero_of {x : Int} (h : 0 ≤ x ∧ x < 1) : x = 0 := by omega
theorem end_true {ns told : List Int} {sh n i j : Int} {b : Bool} {q : Nat} (h : told = ((cands (octs ns 37 840)).drop sh.toNat ++ (cands (octs ns 37 840)).take sh.toNat).filter under)
    (hs1 : b = true → sh = 140 * (i + 2 * j)) (hs0 : b = false → sh = 140 * (j + 2 * i)) (q1 : b = true → (q : Int) = i + 2 * j) (q0 : b = false → (q : Int) = j + 2 * i) (hq : q ≤ 3) (hn : 0 ≤ n ∧ n < 256) :
    (((acc (rot (octs ns 37 840) (210 * q)) 280).take 256).getD n.toNat 0 == told.getD n.toNat 0) = true := by
  rw [beq_iff_eq]
  refine end_eq h ?_ (by omega) hn
  cases b
  · have := hs0 rfl
    have := q0 rfl
    omega
  · have := hs1 rfl
    have := q1 rfl
    omega
theorem goodW_true {cw : ClaimW} {cl : Str → Option Addr} {mean : ExcName → Option Value} {args : List WData} {s₁ s' : Shared} {x : Bool} (h : x = true) (g : GoodW cw cl mean args s₁ (.ok (.ret (.bool true))) s') : GoodW cw cl mean args s₁ (.ok (.ret (.bool x))) s' := by
  subst h
  exact g
theorem goodW_end {cw : ClaimW} {cl : Str → Option Addr} {mean : ExcName → Option Value} {args : List WData} {s₁ s' : Shared} {L : Addr} {m : Str → Option Value} (F : Fr s₁.heap L s'.heap m) (hr : ∀ a x, cw.raises a x = false) (hp : cw.post args (.bool true) args = true)
    (hos : s'.os = s₁.os) (hg : s'.gens = #[]) : GoodW cw cl mean args s₁ (.ok (.ret (.bool true))) s' :=
  ⟨.inl ⟨.bool true, .bool true, [], rfl, hr args, .bool _, hp, fun _ => ⟨List.nodup_nil, fun _ h => nomatch h⟩⟩, F.keep, hos, hg⟩
theorem reg_FIN : True := by
  (k_with "my call builtin:len" => (k_here; (with_reducible show wpAny _ _ (call (Value.builtin "len") [Value.ref _]) _ _ _); k_dflt (refine len_ms (by k_asm) (by k_mem) (by assumption) (by assumption) ?_)))
  (k_with "my subscriptTail Attribute Name ref int" => (k_here; (with_reducible show wpAny _ _ (subscriptTail _ _ (Value.ref _) (Value.int (Int.fmod _ 256) _)) _ _ _); k_dflt (refine item_ms (by k_asm) (by k_mem) (by assumption) (by assumption) (by first | assumption | exact acc_many (acc_count (by assumption) (by decide))) ?_); intro t9))
  (k_with "my subscriptTail Name Name ref int" => (k_here; (with_reducible show wpAny _ _ (subscriptTail _ _ (Value.ref _) (Value.int (Int.fmod _ 256) _)) _ _ _); k_dflt (refine item_ms (by k_asm) (by k_mem) (by assumption) (by assumption) (by first | assumption | exact acc_many (acc_count (by assumption) (by decide))) ?_); intro t9))
  trivial
section
variable {prog : Program} {w : World} {p : Program} {loose : List Str} {mean : ExcName → Option Value} {mg mb : Str → Option Value}
  {dp un : Nat} {gd : Option (List Code)} {cn : Str} {cs : Scope} {a : Addr} {ccd : Value} {cl : List (Str × Addr)} {outer : List Env} {A₀ : Around} {base h₀ : Heap} {L : Addr} {m : Str → Option Value} {news : List (Addr × Obj)} {s : Shared}
  {Q E : Value → Shared → Prop}
/-- a tuple's object -/
abbrev tupOf (its : Array Value) : Obj := { cls := .type "tuple", data := .seq its }
theorem lay_spec_getp : True := by
  (k_with "go spec_getp" =>
    refine wpAny_call ?_
    k_dflt (refine' semi_reads (own := [(y, instObj 424 d), (d, dictOf (polyEs w.params f e R c) 2), (c, PySem.W.listOf (List.toArray ws) n)]) ?k1 ?k2 ?k3 N ?sub ?k5 ?kA ?kF ?kK ?k6 ?k7 ?k8 ?k9 ?kB ?_ ?c2 ?c3 ?c4 ?c5; (case sub => exact sub); (case kA => exact rfl); (case kF => exact rfl); (case kK => assumption); (case k1 => k_asm); (case k2 => k_asm); (case k3 => k_asm); (case k5 => k_asm); (case k6 => k_is); (case k7 => k_is); (case k8 => ktr_room); (case k9 => exact BindsTo.of_eq rfl); (case kB => exact locs rfl); (case c2 => exact rfl); (case c3 => exact rfl); (case c4 => exact rfl); (case c5 => decide))
    clear N
    intro g' L' h' FG' F' N' B' X' T' l1 hgn
    (try dsimp only)
    (try k_lift B')
    (try k_fold)
    k_steps
    rename News h₀ L _ [_, _, _] → News h₀ L _ news => kA
    rename News h₀ L _ _ => kN
    rename Fr h₀ L _ m => kF
    exact ret _ _ _ kF (kA (news_sub kN (all3 (by k_mem) (by k_mem) (by k_mem)))))
  trivial
theorem spec_getp {y d c R : Addr} {f e tk : Tok} {ws : List Value} {n : Nat} {ms : List Int} {k : Int}
    (B : Below A₀ base outer h₀) (F : Fr h₀ L s.heap m) (X : (hd.heap_1 w.params).In h₀) (N : News h₀ L s.heap news) (T : Top p loose mean mg mb h₀) (hk : cs.kind = .function)
    (sub : ∀ q ∈ [(y, instObj 424 d), (d, dictOf (polyEs w.params f e R c) 2), (c, PySem.W.listOf (List.toArray ws) n)], q ∈ news) (hI : IntsAre ws ms) (h0 : 0 ≤ k ∧ k < 256) (h1 : 256 ≤ ms.length) (hroom : dp + 5 < recursionLimit)
    (ret : ∀ t h' tk', Fr h₀ L h' m → News h₀ L h' news → Q (.int (ms.getD k.toNat 0) t) { s with heap := h', toks := tk' }) :
    wpAny (model prog w) (ktrTop dp un gd cn cs L a ccd cl outer) (call (.ref 219) [.ref y, .int k tk]) Q E s := by
  refine unbox ?_
  simp +zetaDelta (disch := (k_dflt (k_extra "go spec_getp"))) only [↓box_true]
end
theorem reg_GETP : True := by
  (k_with "my call ref" => (k_here; (try dsimp only [List.append_nil, List.nil_append, List.cons_append]); (with_reducible show wpAny _ _ (PySem.call (Value.ref 219) [Value.ref _, Value.int _ _]) _ _ _); k_dflt (refine' spec_getp (by k_asm) (by k_asm) (by k_asm) (by k_asm) (by k_asm) (by first | exact rfl | assumption) (by exact all3 (by k_mem) (by k_mem) (by k_mem)) (by assumption) (by assumption) (by first | assumption | exact acc_many (acc_count (by assumption) (by omega))) (by ktr_room) ?_; k_whole); intro t9 h9 tk9 F9 N9; (try dsimp only); (try k_sweep); (try k_fold)))
  trivial
section
variable {prog : Program} {w : World} {p : Program} {loose : List Str} {mean : ExcName → Option Value} {mg mb : Str → Option Value}
  {dp un : Nat} {gd : Option (List Code)} {cn : Str} {cs : Scope} {a : Addr} {ccd : Value} {cl : List (Str × Addr)} {outer : List Env} {A₀ : Around} {base h₀ : Heap} {L : Addr} {m : Str → Option Value} {news : List (Addr × Obj)} {s : Shared}
  {Q E : Value → Shared → Prop}
theorem lay_spec_dim1 : True := by
  (k_with "go spec_dim1" =>
    refine wpAny_call ?_
    k_dflt (refine' semi_reads (own := [(mx, instObj 636 dmx), (dmx, dictOf (matEs w.params m1 m2 m3 M D tr) 3), (D, PySem.W.listOf #[.ref r0] nD), (r0, PySem.W.listOf #[.ref p00] g0)]) ?k1 ?k2 ?k3 N ?sub ?k5 ?kA ?kF ?kK ?k6 ?k7 ?k8 ?k9 ?kB ?_ ?c2 ?c3 ?c4 ?c5; (case sub => exact sub); (case kA => exact rfl); (case kF => exact rfl); (case kK => assumption); (case k1 => k_asm); (case k2 => k_asm); (case k3 => k_asm); (case k5 => k_asm); (case k6 => k_is); (case k7 => k_is); (case k8 => ktr_room); (case k9 => exact BindsTo.of_eq rfl); (case kB => exact locs rfl); (case c2 => exact rfl); (case c3 => exact rfl); (case c4 => exact rfl); (case c5 => decide))
    clear N
    intro g' L' h' FG' F' N' B' X' T' l1 hgn
    (try dsimp only)
    (try k_lift B')
    (try k_fold)
    cases tr <;> k_steps
    all_goals (
      rename News h₀ L _ [_, _, _, _] → News h₀ L _ news => kA
      rename News h₀ L _ _ => kN
      rename Fr h₀ L _ m => kF
      exact ret _ _ _ _ _ kF (news_cons (a := [_]) (news_sub kN (all1 (by k_mem))) (kA (news_sub kN (all4 (by k_mem) (by k_mem) (by k_mem) (by k_mem)))))))
  trivial
theorem spec_dim1 {mx dmx M D r0 p00 : Addr} {m1 m2 m3 : Tok} {tr : Bool} {nD g0 : Nat}
    (B : Below A₀ base outer h₀) (F : Fr h₀ L s.heap m) (X : (hd.heap_1 w.params).In h₀) (N : News h₀ L s.heap news) (T : Top p loose mean mg mb h₀) (hk : cs.kind = .function)
    (sub : ∀ q ∈ [(mx, instObj 636 dmx), (dmx, dictOf (matEs w.params m1 m2 m3 M D tr) 3), (D, PySem.W.listOf #[.ref r0] nD), (r0, PySem.W.listOf #[.ref p00] g0)], q ∈ news) (hroom : dp + 5 < recursionLimit)
    (ret : ∀ tp u1 u2 h' tk', Fr h₀ L h' m → News h₀ L h' ((tp, tupOf #[.int 1 u1, .int 1 u2]) :: news) → Q (.ref tp) { s with heap := h', toks := tk' }) :
    wpAny (model prog w) (ktrTop dp un gd cn cs L a ccd cl outer) (call (.ref 448) [.ref mx]) Q E s := by
  refine unbox ?_
  simp +zetaDelta (disch := (k_dflt (k_extra "go spec_dim1"))) only [↓box_true]
theorem lay_spec_dim2 : True := by
  (k_with "go spec_dim2" =>
    refine wpAny_call ?_
    k_dflt (refine' semi_reads (own := [(mx, instObj 636 dmx), (dmx, dictOf (matEs w.params m1 m2 m3 M D tr) 3), (D, PySem.W.listOf #[.ref r0, .ref r1] nD), (r0, PySem.W.listOf #[.ref p00, .ref p01] g0), (r1, PySem.W.listOf #[.ref p10, .ref p11] g1)]) ?k1 ?k2 ?k3 N ?sub ?k5 ?kA ?kF ?kK ?k6 ?k7 ?k8 ?k9 ?kB ?_ ?c2 ?c3 ?c4 ?c5; (case sub => exact sub); (case kA => exact rfl); (case kF => exact rfl); (case kK => assumption); (case k1 => k_asm); (case k2 => k_asm); (case k3 => k_asm); (case k5 => k_asm); (case k6 => k_is); (case k7 => k_is); (case k8 => ktr_room); (case k9 => exact BindsTo.of_eq rfl); (case kB => exact locs rfl); (case c2 => exact rfl); (case c3 => exact rfl); (case c4 => exact rfl); (case c5 => decide))
    clear N
    intro g' L' h' FG' F' N' B' X' T' l1 hgn
    (try dsimp only)
    (try k_lift B')
    (try k_fold)
    cases tr <;> k_steps
    all_goals (
      rename News h₀ L _ [_, _, _, _, _] → News h₀ L _ news => kA
      rename News h₀ L _ _ => kN
      rename Fr h₀ L _ m => kF
      exact ret _ _ _ _ _ kF (news_cons (a := [_]) (news_sub kN (all1 (by k_mem))) (kA (news_sub kN (all5 (by k_mem) (by k_mem) (by k_mem) (by k_mem) (by k_mem)))))))
  trivial
theorem spec_dim2 {mx dmx M D r0 r1 p00 p01 p10 p11 : Addr} {m1 m2 m3 : Tok} {tr : Bool} {nD g0 g1 : Nat}
    (B : Below A₀ base outer h₀) (F : Fr h₀ L s.heap m) (X : (hd.heap_1 w.params).In h₀) (N : News h₀ L s.heap news) (T : Top p loose mean mg mb h₀) (hk : cs.kind = .function)
    (sub : ∀ q ∈ [(mx, instObj 636 dmx), (dmx, dictOf (matEs w.params m1 m2 m3 M D tr) 3), (D, PySem.W.listOf #[.ref r0, .ref r1] nD), (r0, PySem.W.listOf #[.ref p00, .ref p01] g0), (r1, PySem.W.listOf #[.ref p10, .ref p11] g1)], q ∈ news) (hroom : dp + 5 < recursionLimit)
    (ret : ∀ tp u1 u2 h' tk', Fr h₀ L h' m → News h₀ L h' ((tp, tupOf #[.int 2 u1, .int 2 u2]) :: news) → Q (.ref tp) { s with heap := h', toks := tk' }) :
    wpAny (model prog w) (ktrTop dp un gd cn cs L a ccd cl outer) (call (.ref 448) [.ref mx]) Q E s := by
  refine unbox ?_
  simp +zetaDelta (disch := (k_dflt (k_extra "go spec_dim2"))) only [↓box_true]
end
theorem reg_DIM : True := by
  (k_with "my call ref" => (k_here; (try dsimp only [List.append_nil, List.nil_append, List.cons_append]); (with_reducible show wpAny _ _ (PySem.call (Value.ref 448) [Value.ref _]) _ _ _); k_dflt (refine' spec_dim2 (by k_asm) (by k_asm) (by k_asm) (by k_asm) (by k_asm) (by first | exact rfl | assumption) (by exact all5 (by k_mem) (by k_mem) (by k_mem) (by k_mem) (by k_mem)) (by ktr_room) ?_; k_whole); intro tp9 u91 u92 h9 tk9 F9 N9; (try dsimp only); (try k_sweep); (try k_fold)))
  (k_with "my call ref" => (k_here; (try dsimp only [List.append_nil, List.nil_append, List.cons_append]); (with_reducible show wpAny _ _ (PySem.call (Value.ref 448) [Value.ref _]) _ _ _); k_dflt (refine' spec_dim1 (by k_asm) (by k_asm) (by k_asm) (by k_asm) (by k_asm) (by first | exact rfl | assumption) (by exact all4 (by k_mem) (by k_mem) (by k_mem) (by k_mem)) (by ktr_room) ?_; k_whole); intro tp9 u91 u92 h9 tk9 F9 N9; (try dsimp only); (try k_sweep); (try k_fold)))
  trivial
section
variable {prog : Program} {w : World} {p : Program} {loose : List Str} {mean : ExcName → Option Value} {mg mb : Str → Option Value}
  {dp un : Nat} {gd : Option (List Code)} {cn : Str} {cs : Scope} {a : Addr} {ccd : Value} {cl : List (Str × Addr)} {outer : List Env} {A₀ : Around} {base h₀ : Heap} {L : Addr} {m : Str → Option Value} {news : List (Addr × Obj)} {s : Shared}
  {Q E : Value → Shared → Prop}
theorem lay_spec_getm1 : True := by
  (k_with "go spec_getm1" =>
    refine wpAny_call ?_
    k_dflt (refine' semi_reads (own := [(mx, instObj 636 dmx), (dmx, dictOf (matEs w.params m1 m2 m3 M D tr) 3), (D, PySem.W.listOf #[.ref r0] nD), (r0, PySem.W.listOf #[.ref p00] g0), (tp, tupOf #[.int i ti, .int j tj])]) ?k1 ?k2 ?k3 N ?sub ?k5 ?kA ?kF ?kK ?k6 ?k7 ?k8 ?k9 ?kB ?_ ?c2 ?c3 ?c4 ?c5; (case sub => exact sub); (case kA => exact rfl); (case kF => exact rfl); (case kK => assumption); (case k1 => k_asm); (case k2 => k_asm); (case k3 => k_asm); (case k5 => k_asm); (case k6 => k_is); (case k7 => k_is); (case k8 => ktr_room); (case k9 => exact BindsTo.of_eq rfl); (case kB => exact locs rfl); (case c2 => exact rfl); (case c3 => exact rfl); (case c4 => exact rfl); (case c5 => decide))
    clear N
    intro g' L' h' FG' F' N' B' X' T' l1 hgn
    (try dsimp only)
    (try k_lift B')
    (try k_fold)
    have hzi := zero_of hi
    have hzj := zero_of hj
    subst hzi hzj
    cases tr <;> k_steps
    all_goals (
      rename News h₀ L _ [_, _, _, _, _] → News h₀ L _ news => kA
      rename News h₀ L _ _ => kN
      rename Fr h₀ L _ m => kF
      first
      | exact ret 0 _ _ _ _ _ _ p00 _ _ kF (news_cons (a := [_, _, _]) (news_sub (kA (news_sub kN (all5 (by k_mem) (by k_mem) (by k_mem) (by k_mem) (by k_mem)))) (all3 (sub2 _ (by k_mem)) (sub2 _ (by k_mem)) (sub2 _ (by k_mem)))) (kA (news_sub kN (all5 (by k_mem) (by k_mem) (by k_mem) (by k_mem) (by k_mem))))) h00 (by decide) (by decide) (by decide)))
  trivial
theorem spec_getm1 {mx dmx M D R r0 p00 : Addr} {m1 m2 m3 : Tok} {tr : Bool} {nD g0 : Nat} {tp : Addr} {i j : Int} {ti tj : Tok} {ks : List Int} {d00 c00 : Addr} {f00 e00 : Tok} {w00 : List Value} {n00 : Nat}
    (B : Below A₀ base outer h₀) (F : Fr h₀ L s.heap m) (X : (hd.heap_1 w.params).In h₀) (N : News h₀ L s.heap news) (T : Top p loose mean mg mb h₀) (hk : cs.kind = .function)
    (sub : ∀ q ∈ [(mx, instObj 636 dmx), (dmx, dictOf (matEs w.params m1 m2 m3 M D tr) 3), (D, PySem.W.listOf #[.ref r0] nD), (r0, PySem.W.listOf #[.ref p00] g0), (tp, tupOf #[.int i ti, .int j tj])], q ∈ news) (sub2 : ∀ q ∈ [(p00, instObj 424 d00), (d00, dictOf (polyEs w.params f00 e00 R c00) 2), (c00, PySem.W.listOf (List.toArray w00) n00)], q ∈ news)
    (h00 : IntsAre w00 ((acc (rot ks (210 * 0)) 280).take 256))
    (hi : 0 ≤ i ∧ i < 1) (hj : 0 ≤ j ∧ j < 1) (hroom : dp + 5 < recursionLimit)
    (ret : ∀ q d f e c ws n y h' tk', Fr h₀ L h' m → News h₀ L h' ((y, instObj 424 d) :: (d, dictOf (polyEs w.params f e R c) 2) :: (c, PySem.W.listOf (List.toArray ws) n) :: news) → IntsAre ws ((acc (rot ks (210 * q)) 280).take 256) → q ≤ 3 → (tr = true → (q : Int) = i + 2 * j) → (tr = false → (q : Int) = j + 2 * i) → Q (.ref y) { s with heap := h', toks := tk' }) :
    wpAny (model prog w) (ktrTop dp un gd cn cs L a ccd cl outer) (call (.ref 484) [.ref mx, .ref tp]) Q E s := by
  refine unbox ?_
  simp +zetaDelta (disch := (k_dflt (k_extra "go spec_getm1"))) only [↓box_true]
theorem lay_spec_getm2 : True := by
  (k_with "go spec_getm2" =>
    refine wpAny_call ?_
    k_dflt (refine' semi_reads (own := [(mx, instObj 636 dmx), (dmx, dictOf (matEs w.params m1 m2 m3 M D tr) 3), (D, PySem.W.listOf #[.ref r0, .ref r1] nD), (r0, PySem.W.listOf #[.ref p00, .ref p01] g0), (r1, PySem.W.listOf #[.ref p10, .ref p11] g1), (tp, tupOf #[.int i ti, .int j tj])]) ?k1 ?k2 ?k3 N ?sub ?k5 ?kA ?kF ?kK ?k6 ?k7 ?k8 ?k9 ?kB ?_ ?c2 ?c3 ?c4 ?c5; (case sub => exact sub); (case kA => exact rfl); (case kF => exact rfl); (case kK => assumption); (case k1 => k_asm); (case k2 => k_asm); (case k3 => k_asm); (case k5 => k_asm); (case k6 => k_is); (case k7 => k_is); (case k8 => ktr_room); (case k9 => exact BindsTo.of_eq rfl); (case kB => exact locs rfl); (case c2 => exact rfl); (case c3 => exact rfl); (case c4 => exact rfl); (case c5 => decide))
    clear N
    intro g' L' h' FG' F' N' B' X' T' l1 hgn
    (try dsimp only)
    (try k_lift B')
    (try k_fold)
    rcases zero_one hi with hzi | hzi <;> rcases zero_one hj with hzj | hzj <;> subst hzi <;> subst hzj <;> cases tr <;> k_steps
    all_goals (
      rename News h₀ L _ [_, _, _, _, _, _] → News h₀ L _ news => kA
      rename News h₀ L _ _ => kN
      rename Fr h₀ L _ m => kF
      first
      | exact ret 0 _ _ _ _ _ _ p00 _ _ kF (news_cons (a := [_, _, _]) (news_sub (kA (news_sub kN (all6 (by k_mem) (by k_mem) (by k_mem) (by k_mem) (by k_mem) (by k_mem)))) (all3 (sub2 _ (by k_mem)) (sub2 _ (by k_mem)) (sub2 _ (by k_mem)))) (kA (news_sub kN (all6 (by k_mem) (by k_mem) (by k_mem) (by k_mem) (by k_mem) (by k_mem))))) h00 (by decide) (by decide) (by decide)
      | exact ret 1 _ _ _ _ _ _ p01 _ _ kF (news_cons (a := [_, _, _]) (news_sub (kA (news_sub kN (all6 (by k_mem) (by k_mem) (by k_mem) (by k_mem) (by k_mem) (by k_mem)))) (all3 (sub2 _ (by k_mem)) (sub2 _ (by k_mem)) (sub2 _ (by k_mem)))) (kA (news_sub kN (all6 (by k_mem) (by k_mem) (by k_mem) (by k_mem) (by k_mem) (by k_mem))))) h01 (by decide) (by decide) (by decide)
      | exact ret 2 _ _ _ _ _ _ p10 _ _ kF (news_cons (a := [_, _, _]) (news_sub (kA (news_sub kN (all6 (by k_mem) (by k_mem) (by k_mem) (by k_mem) (by k_mem) (by k_mem)))) (all3 (sub2 _ (by k_mem)) (sub2 _ (by k_mem)) (sub2 _ (by k_mem)))) (kA (news_sub kN (all6 (by k_mem) (by k_mem) (by k_mem) (by k_mem) (by k_mem) (by k_mem))))) h10 (by decide) (by decide) (by decide)
      | exact ret 3 _ _ _ _ _ _ p11 _ _ kF (news_cons (a := [_, _, _]) (news_sub (kA (news_sub kN (all6 (by k_mem) (by k_mem) (by k_mem) (by k_mem) (by k_mem) (by k_mem)))) (all3 (sub2 _ (by k_mem)) (sub2 _ (by k_mem)) (sub2 _ (by k_mem)))) (kA (news_sub kN (all6 (by k_mem) (by k_mem) (by k_mem) (by k_mem) (by k_mem) (by k_mem))))) h11 (by decide) (by decide) (by decide)))
  trivial
theorem spec_getm2 {mx dmx M D R r0 r1 p00 p01 p10 p11 : Addr} {m1 m2 m3 : Tok} {tr : Bool} {nD g0 g1 : Nat} {tp : Addr} {i j : Int} {ti tj : Tok} {ks : List Int} {d00 c00 d01 c01 d10 c10 d11 c11 : Addr} {f00 e00 f01 e01 f10 e10 f11 e11 : Tok} {w00 w01 w10 w11 : List Value} {n00 n01 n10 n11 : Nat}
    (B : Below A₀ base outer h₀) (F : Fr h₀ L s.heap m) (X : (hd.heap_1 w.params).In h₀) (N : News h₀ L s.heap news) (T : Top p loose mean mg mb h₀) (hk : cs.kind = .function)
    (sub : ∀ q ∈ [(mx, instObj 636 dmx), (dmx, dictOf (matEs w.params m1 m2 m3 M D tr) 3), (D, PySem.W.listOf #[.ref r0, .ref r1] nD), (r0, PySem.W.listOf #[.ref p00, .ref p01] g0), (r1, PySem.W.listOf #[.ref p10, .ref p11] g1), (tp, tupOf #[.int i ti, .int j tj])], q ∈ news) (sub2 : ∀ q ∈ [(p00, instObj 424 d00), (d00, dictOf (polyEs w.params f00 e00 R c00) 2), (c00, PySem.W.listOf (List.toArray w00) n00), (p01, instObj 424 d01), (d01, dictOf (polyEs w.params f01 e01 R c01) 2), (c01, PySem.W.listOf (List.toArray w01) n01), (p10, instObj 424 d10), (d10, dictOf (polyEs w.params f10 e10 R c10) 2), (c10, PySem.W.listOf (List.toArray w10) n10), (p11, instObj 424 d11), (d11, dictOf (polyEs w.params f11 e11 R c11) 2), (c11, PySem.W.listOf (List.toArray w11) n11)], q ∈ news)
    (h00 : IntsAre w00 ((acc (rot ks (210 * 0)) 280).take 256)) (h01 : IntsAre w01 ((acc (rot ks (210 * 1)) 280).take 256)) (h10 : IntsAre w10 ((acc (rot ks (210 * 2)) 280).take 256)) (h11 : IntsAre w11 ((acc (rot ks (210 * 3)) 280).take 256))
    (hi : 0 ≤ i ∧ i < 2) (hj : 0 ≤ j ∧ j < 2) (hroom : dp + 5 < recursionLimit)
    (ret : ∀ q d f e c ws n y h' tk', Fr h₀ L h' m → News h₀ L h' ((y, instObj 424 d) :: (d, dictOf (polyEs w.params f e R c) 2) :: (c, PySem.W.listOf (List.toArray ws) n) :: news) → IntsAre ws ((acc (rot ks (210 * q)) 280).take 256) → q ≤ 3 → (tr = true → (q : Int) = i + 2 * j) → (tr = false → (q : Int) = j + 2 * i) → Q (.ref y) { s with heap := h', toks := tk' }) :
    wpAny (model prog w) (ktrTop dp un gd cn cs L a ccd cl outer) (call (.ref 484) [.ref mx, .ref tp]) Q E s := by
  refine unbox ?_
  simp +zetaDelta (disch := (k_dflt (k_extra "go spec_getm2"))) only [↓box_true]
end
theorem reg_GETM : True := by
  (k_with "my call ref" => (k_here; (try dsimp only [List.append_nil, List.nil_append, List.cons_append]); (with_reducible show wpAny _ _ (PySem.call (Value.ref 484) [Value.ref _, Value.ref _]) _ _ _); k_dflt (refine' spec_getm2 (by k_asm) (by k_asm) (by k_asm) (by k_asm) (by k_asm) (by first | exact rfl | assumption) (by exact all6 (by k_mem) (by k_mem) (by k_mem) (by k_mem) (by k_mem) (by k_mem)) (by exact all12 (by k_mem) (by k_mem) (by k_mem) (by k_mem) (by k_mem) (by k_mem) (by k_mem) (by k_mem) (by k_mem) (by k_mem) (by k_mem) (by k_mem)) (by assumption) (by assumption) (by assumption) (by assumption) (by assumption) (by assumption) (by ktr_room) ?_; k_whole); intro q9 d9 f9 e9 c9 w9 n9 y9 h9 tk9 F9 N9 I9 q93 q91 q90; (try dsimp only); (try k_sweep); (try k_fold)))
  (k_with "my call ref" => (k_here; (try dsimp only [List.append_nil, List.nil_append, List.cons_append]); (with_reducible show wpAny _ _ (PySem.call (Value.ref 484) [Value.ref _, Value.ref _]) _ _ _); k_dflt (refine' spec_getm1 (by k_asm) (by k_asm) (by k_asm) (by k_asm) (by k_asm) (by first | exact rfl | assumption) (by exact all5 (by k_mem) (by k_mem) (by k_mem) (by k_mem) (by k_mem)) (by exact all3 (by k_mem) (by k_mem) (by k_mem)) (by assumption) (by assumption) (by assumption) (by ktr_room) ?_; k_whole); intro q9 d9 f9 e9 c9 w9 n9 y9 h9 tk9 F9 N9 I9 q93 q91 q90; (try dsimp only); (try k_sweep); (try k_fold)))
  trivial
/-- the law's end when generators have been made: the state without them is good, and all of them are bare -/
theorem goodB {s₁ s' : Shared} {cw : ClaimW} {cl : Str → Option Addr} {mean : ExcName → Option Value} {args : List WData} {tabs : List (Addr × Addr)} {r : Result} (hT : TabsAt tabs s₁.heap) (hr : ∀ a x, cw.raises a x = false)
    (g : GoodW cw cl mean args { s₁ with heap := ghostOf s₁.heap tabs } r { s' with gens := #[] }) (hb : AllBare s'.gens) (hgr : GrownAll tabs s'.heap) : GoodWG cw cl mean args s₁ r s' := by
  obtain ⟨hc, hk, hos, _⟩ := g
  have stay : ∀ b o, b ∉ tabs.map (·.2) → s₁.heap.get? b = some o → s'.heap.get? b = some o := fun b o hn e => hk b o (ghost_ne e hn)
  have tab : ∀ b o, b ∈ tabs.map (·.2) → s₁.heap.get? b = some o → isCodeTable s₁.heap b ∧ o = tabObj #[] ∧ ∃ ps, s'.heap.get? b = some (tabObj ps) := fun b o hm e => by
    obtain ⟨q, hq, rfl⟩ := List.mem_map.mp hm
    have e2 := (hT q hq).2
    rw [e] at e2
    exact ⟨((hT q hq).1.tab (hT q hq).2).isCodeTable, Option.some.inj e2, hgr.get q hq⟩
  refine ⟨?_, ⟨fun b o e => ?_, fun b o e => ?_⟩, hos, hb⟩
  · rcases hc with ⟨v, d, as, r1, r2, r3, r4, r5⟩ | ⟨_, _, _, _, _, _, r4, _⟩
    · refine .inl ⟨v, d, as, r1, r2, r3, r4, fun q => ⟨(r5 q).1, fun a ha => ?_⟩⟩
      cases q1 : s₁.heap.get? a with
      | none => rfl
      | some o =>
        by_cases hm : a ∈ tabs.map (·.2)
        · obtain ⟨_, _, ps, hP⟩ := tab a o hm q1
          exact absurd ha (readsW_apart (h := s'.heap) hP rfl r3)
        · have e3 := (r5 q).2 a ha
          rw [show (ghostOf s₁.heap tabs).get? a = some o from ghost_ne q1 hm] at e3
          cases e3
    · rw [hr] at r4; cases r4
  · by_cases hm : b ∈ tabs.map (·.2)
    · obtain ⟨ht, rfl, ps, hP⟩ := tab b o hm e
      exact .inr (.inl ⟨ht, rfl, #[], ps, rfl, by rw [Array.empty_append]; exact hP⟩)
    · exact .inl (stay b o hm e)
  · by_cases hm : b ∈ tabs.map (·.2)
    · obtain ⟨_, _, ps, hP⟩ := tab b o hm e
      exact ⟨_, hP⟩
    · exact ⟨o, stay b o hm e⟩
theorem postB {M : Model} {A : Around} {cd : Code} {s s₁ : Shared} {cw : ClaimW} {cl : Str → Option Addr} {mean : ExcName → Option Value} {args : List WData} {tabs : List (Addr × Addr)} (hT : TabsAt tabs s₁.heap) (hr : ∀ a x, cw.raises a x = false)
    (h : codeAny M A cd (fun r s' => GoodW cw cl mean args { s₁ with heap := ghostOf s₁.heap tabs } r { s' with gens := #[] } ∧ AllBare s'.gens ∧ GrownAll tabs s'.heap) s) : codeAny M A cd (GoodWG cw cl mean args s₁) s :=
  codeAny_mono h fun _ _ ⟨g, hb, hgr⟩ => goodB hT hr g hb hgr
section
variable {prog : Program} {w : World} {A : Around} {E : Value → Shared → Prop} {s : Shared} {h₀ : Heap} {L : Addr} {m : Str → Option Value} {news : List (Addr × Obj)} {env : Env} {Q : Flow → Shared → Prop} {st : Stmt}
/-- a statement that, where b holds, sets one int name anew, and else does nothing: its two ways meet -/
theorem if_join (b : Bool) (X Y : Int) {x : Str} (_F : Fr h₀ L s.heap m) (_N : News h₀ L s.heap news) (hY : ∃ t, m x = some (.int Y t))
    (hT : b = true → wpAny (model prog w) A (exec st env) (fun f s' => f = .next ∧ ∃ t h' tk', s' = { s with heap := h', toks := tk' } ∧ Fr h₀ L h' (fun y => if y = x then some (.int X t) else m y) ∧ News h₀ L h' news) E s)
    (hF : b = false → wpAny (model prog w) A (exec st env) (fun f s' => f = .next ∧ ∃ h' tk', s' = { s with heap := h', toks := tk' } ∧ Fr h₀ L h' m ∧ News h₀ L h' news) E s)
    (h : ∀ sh t h' tk', (b = true → sh = X) → (b = false → sh = Y) → Fr h₀ L h' (fun y => if y = x then some (.int sh t) else m y) → News h₀ L h' news → Q .next { s with heap := h', toks := tk' }) :
    wpAny (model prog w) A (exec st env) Q E s := by
  cases b
  · refine wpAny_mono (hF rfl) (fun f s' hx => ?_) fun _ _ e => e
    obtain ⟨rfl, h', tk', rfl, F', N'⟩ := hx
    obtain ⟨t, hm⟩ := hY
    have e : (fun y => if y = x then some (.int Y t) else m y) = m := by
      funext y
      by_cases hy : y = x
      · rw [if_pos hy, hy, hm]
      · rw [if_neg hy]
    exact h Y t h' tk' (fun q => by cases q) (fun _ => rfl) (e.symm ▸ F') N'
  · refine wpAny_mono (hT rfl) (fun f s' hx => ?_) fun _ _ e => e
    obtain ⟨rfl, t, h', tk', rfl, F', N'⟩ := hx
    exact h X t h' tk' (fun _ => rfl) (fun q => by cases q) F' N'
end
local macro_rules | `(tactic| k_lt $h) => `(tactic| (replace $h := allLt_of $h; simp only [AllLt, and_true] at $h:ident))
local macro_rules | `(tactic| size_fits) => `(tactic| k_extra "my size_fits")
theorem reg_MHEAD : True := by
  (k_with "my size_fits" => (first | exact Nat.le_of_ble_eq_true rfl | exact told_fits (by assumption) (by assumption) (by assumption) | (simp only [Array.size_push, List.size_toArray, Array.size_append, List.length_append, List.length_cons, List.length_nil, PySem.sizeLine_eq]; omega)))
  (k_with "my call ref" => (k_here; (with_reducible show wpAny _ _ (PySem.call (Value.ref 847) _) _ _ _); k_dflt (refine' spec_cand (by k_asm) (by k_asm) (by k_asm) (by k_asm) (by k_asm) (by first | exact rfl | assumption) (by first | assumption | exact octs_in _ _ _) (by first | assumption | exact octs_len _ _ _) (by ktr_room) ?_; k_whole); intro x' h' tk' vs' n' F' N' n1 hI'; (try dsimp only); (try k_sweep); (try k_fold)))
  (k_with "my call builtin:list.append" => (k_here; (try dsimp only [List.nil_append, List.cons_append]); (with_reducible show wpAny _ _ (call (Value.builtin "list.append") [Value.ref _, _]) _ _ _); k_dflt (refine' append_K (by k_asm) (by k_asm) (by k_upd) ?_ (by first | exact Nat.le_of_ble_eq_true rfl | size_fits); k_whole); intro h' F' N'; (try dsimp only); (try k_sweep)))
  (k_with "my storeName" => (k_here; (with_reducible show wpAny _ _ (storeName _ (PySem.Str.ofString "k") _) _ _ _); (fail_if_success (with_reducible rename KSplit => hMk)); refine Stop.at ?_))
  (k_with "my exec If" => (k_here; (with_reducible show wpAny _ _ (exec (Stmt.If (Expr.Name (PySem.Str.ofString "transpose") _) _ _ _) _) _ _ _); (fail_if_success (with_reducible rename KIf => hMk)); refine Stop.at ?_))
  (k_with "my exec For" => (k_here; (with_reducible show wpAny _ _ (exec (Stmt.For (Expr.Name (PySem.Str.ofString "value") _) _ _ _ _) _) _ _ _); refine Stop.at ?_))
  (k_with "my exec For Name Call cons nil" => (k_here; (with_reducible show wpAny _ _ (exec (Stmt.For (Expr.Name (PySem.Str.ofString "z") _) _ _ _ _) _) _ _ _); (fail_if_success (with_reducible rename KLoop => hMk)); refine Stop.at ?_))
  (k_with "my call ref" => (k_here; (with_reducible show wpAny _ _ (PySem.call (Value.ref 840) _) _ _ _); refine Stop.at ?_))
  (k_with "my call ref" => (k_here; (with_reducible show wpAny _ _ (PySem.call (Value.ref 742) _ _) _ _ _); refine Stop.at ?_))
  (k_with "my compareOp NotEq ref ref" => (k_here; (with_reducible show wpAny _ _ (compareOp CmpOp.NotEq (Value.ref _) (Value.ref _)) _ _ _); refine Stop.at ?_))
  trivial
theorem asE : ∀ P, ([2, 3, 15, 17, 18, 20, 21, 29, 31, 32, 34, 35, 36, 38, 39, 41, 42, 43, 45, 46, 48, 49, 50, 52, 53, 55, 56, 57, 58, 59, 60, 61, 71, 73, 74, 76, 77, 78, 80, 81,
  83, 84, 85, 87, 88, 90, 91, 92, 95, 96, 97, 99, 100, 102, 103, 104, 106, 107, 109, 110, 111, 113, 114, 116, 117, 118, 121, 122, 123, 126, 127, 128, 131, 132, 133, 135, 136, 138, 139, 140,
  142, 143, 145, 146, 147, 149, 150, 152, 153, 154, 157, 158, 159, 161, 162, 164, 165, 166, 168, 169, 171, 172, 173, 175, 176, 178, 179, 180, 183, 184, 185, 187, 188, 190, 191, 192, 194, 195, 197, 198,
  199, 201, 202, 204, 205, 206, 208, 209, 211, 212, 213, 215, 216, 218, 219, 220, 221, 222, 223, 224, 227, 234, 237, 238, 239, 241, 242, 244, 245, 246, 247, 248, 249, 252, 253, 254, 255, 257, 258, 260,
  261, 262, 263, 265, 266, 268, 269, 270, 271, 273, 274, 276, 277, 278, 279, 280, 283, 290, 292, 293, 295, 296, 297, 299, 300, 302, 303, 304, 306, 307, 309, 310, 311, 313, 314, 316, 317, 318, 320, 321,
  323, 324, 325, 327, 328, 330, 331, 332, 334, 335, 337, 338, 339, 341, 342, 344, 345, 346, 347, 348, 351, 358, 360, 361, 363, 364, 365, 367, 368, 370, 371, 372, 374, 375, 377, 378, 379, 381, 382, 384,
  385, 386, 387, 388, 389, 391, 392, 394, 395, 396, 398, 399, 401, 402, 403, 405, 406, 408, 409, 410, 412, 413, 415, 416, 417, 420, 421, 422, 423, 424, 434, 435, 437, 438, 440, 441, 442, 444, 445, 447,
  448, 449, 451, 452, 454, 455, 456, 458, 459, 461, 462, 463, 465, 466, 468, 469, 470, 471, 473, 474, 476, 477, 478, 480, 481, 483, 484, 485, 488, 489, 490, 493, 494, 495, 498, 499, 500, 502, 503, 505,
  506, 507, 510, 511, 512, 514, 515, 517, 518, 519, 522, 523, 524, 526, 527, 529, 530, 531, 532, 533, 534, 535, 545, 547, 548, 550, 551, 552, 553, 555, 556, 558, 559, 560, 561, 563, 564, 566, 567, 568,
  570, 571, 573, 574, 575, 576, 577, 578, 579, 582, 585, 590, 591, 592, 594, 595, 597, 598, 599, 601, 602, 604, 605, 606, 608, 609, 611, 612, 613, 615, 616, 618, 619, 620, 622, 623, 625, 626, 627, 629,
  630, 632, 633, 634, 635, 636, 639, 646, 648, 649, 651, 652, 653, 654, 656, 657, 659, 660, 661, 662, 664, 665, 667, 668, 669, 670, 671, 681, 683, 684, 686, 687, 688, 690, 691, 693, 694, 695, 697, 698,
  700, 701, 702, 704, 705, 707, 708, 709, 711, 712, 714, 715, 716, 718, 719, 721, 722, 723, 725, 726, 728, 729, 730, 732, 733, 735, 736, 737, 738, 741, 742, 743, 745, 746, 748, 749, 750, 752, 753, 755,
  756, 757, 759, 760, 762, 763, 764, 766, 767, 769, 770, 771, 773, 774, 776, 777, 778, 780, 781, 783, 784, 785, 787, 788, 790, 791, 792, 794, 795, 797, 798, 799, 801, 802, 804, 805, 806, 808, 809, 811,
  812, 813, 814, 815, 816, 817, 820, 822, 823, 825, 826, 827, 829, 830, 832, 833, 834, 836, 837, 839, 840, 841, 843, 844, 846, 847, 848, 850, 851, 853, 854] : List Addr) = (hd.heap_1 P).map (·.1) := fun _ => by kernel_rfl
/-- the statements that the head keeps: all but the assignments -/
def keepS : Stmt → Bool
  | .Assign .. => false
  | _ => true
def view : Program := { PySem.Challenge.rw_yi0055_01.row.toRowW.prog with main := { PySem.Challenge.rw_yi0055_01.row.toRowW.prog.main with body := PySem.Challenge.rw_yi0055_01.row.toRowW.prog.main.body.filter keepS } }
theorem headEq {q q' : Program} {loose : List Str} {YP : World → Heap → Prop} {r : RowW} {d : DefRec} {kwd : List (Str × Expr)} {run : Value → List Value → Sem Value} (e : q = q') (hc : WalkO q' loose (XL q' []) YP r d kwd run) : WalkO q loose (XL q []) YP r d kwd run := e ▸ hc
theorem fixD {q : Program} {n : Str} {P : DefRec → List (Str × Expr) → Prop} {d0 : DefRec} {kwd0 : List (Str × Expr)} (h0 : defOf q n = some (d0, kwd0)) (h : P d0 kwd0) : ∀ d kwd, defOf q n = some (d, kwd) → P d kwd := fun d kwd h1 => by
  rw [h0] at h1
  cases h1
  exact h
theorem lay_law_walk : True := by
  (k_with "go law_walk" =>
    w_on
    refine fixD (by rfl) ?_
    w_strict (
      k_fill
      intro w s₀ s₁ mg mb G Y fa o pm cd doc dV kV ho hdd hcd hD hmg hg args vals as hpre hlay hrd hwl hlo
      have KX := km_in_of Y
      km_tabs Y
      have X := (Ground.X G).1
      have V := (Ground.X G).2
      refine Ground.open G ?_
      intro T B D TE TW
      try (refine guard_noD D (by decide +kernel) ?_; clear D)
      have hT9 : TabsAt [((839 : Addr), (835 : Addr)), (566, 562)] _ := List.forall_mem_cons.mpr ⟨⟨codeHd_of_K (c := 839) (P := 835) KX (by kernel_rfl), hT8 835 (by k_mem)⟩, List.forall_mem_cons.mpr ⟨⟨codeHd_of_K (c := 566) (P := 562) KX (by kernel_rfl), hT8 562 (by k_mem)⟩, fun _ h => nomatch h⟩⟩
      clear hmg
      wrow_args hpre hlay hrd hwl hlo
      (first | refine callC_kw (enter_call ?_) | refine enter_call ?_)
      w_top on
      refine postB hT9 (fun _ _ => rfl) ?_
      w_call any ho hdd hcd hD T F
      clear hdd
      kn_ghosts F T
      k_drop
      (try change wpAny _ _ _ _ _ _)
      (try k_fold)
      k_steps
      rename List Int => ns
      have hsp : KSplit := KSplit.mk
      have hk2 := k_two ns
      generalize hkk : 1 + (num ns 0).fmod 2 = k
      have hkr := k_cases hk2 hkk
      have hkz := k_nz hkr
      have b2 := fmod_in (num ns 2) hkr
      have b3 := fmod_in (num ns 3) hkr
      refine Stop.go ?_
      k_steps
      refine Stop.go ?_
      (with_reducible rename Fr _ _ _ _ => cF)
      (with_reducible rename News _ _ _ _ => cN)
      refine loops_join (s := ⟨_, _, _, _, _⟩) (k := k) (rho := octs ns 5 32) cF cN ?_ ?_
      · have hlp : KLoop := KLoop.mk
        rcases hkr with hk9 | hk9
        · subst hk9
          (try change wpAny _ _ _ _ _ _)
          (try k_fold)
          k_steps
          (with_reducible rename Fr _ _ _ _ => eF)
          (with_reducible rename News _ _ _ _ => eN)
          refine' Stop.go ⟨rfl, _, [_], _, _, _, rfl, fr_lost eF ?kA, ?kB, ?kC⟩
          case kA =>
            intro y h1 h2
            dsimp only
            simp only [if_neg h1, if_neg h2]
          case kB => exact all3 (eN _ (by k_mem)) (eN _ (by k_mem)) (eN _ (by k_mem))
          case kC => exact (show ByAll _ [_ ++ [0] ++ [0]] from .cons (due_ints (octs_in _ _ _) rfl rfl) .nil)
        · subst hk9
          (try change wpAny _ _ _ _ _ _)
          (try k_fold)
          k_steps
          (with_reducible rename Fr _ _ _ _ => eF)
          (with_reducible rename News _ _ _ _ => eN)
          refine' Stop.go ⟨rfl, _, [_, _, _, _], _, _, _, rfl, fr_lost eF ?kA, ?kB, ?kC⟩
          case kA =>
            intro y h1 h2
            dsimp only
            simp only [if_neg h1, if_neg h2]
          case kB => exact all3 (eN _ (by k_mem)) (eN _ (by k_mem)) (eN _ (by k_mem))
          case kC => exact (show ByAll _ [_ ++ [0] ++ [0], _ ++ [1] ++ [0], _ ++ [0] ++ [1], _ ++ [1] ++ [1]] from .cons (due_ints (octs_in _ _ _) rfl rfl) (.cons (due_ints (octs_in _ _ _) rfl rfl) (.cons (due_ints (octs_in _ _ _) rfl rfl) (.cons (due_ints (octs_in _ _ _) rfl rfl) .nil))))
      intro kU dvs dn h' tk' F9 N9 hdue
      clear cF cN
      have hnil : IntsAre [] [] := .nil
      dsimp only
      (try change wpAny _ _ _ _ _ _)
      (try k_fold)
      k_steps
      refine Stop.go ?_
      (with_reducible rename Fr _ _ _ _ => cF)
      (with_reducible rename News _ _ _ _ => cN)
      refine if_join (s := ⟨_, _, _, _, _⟩) (x := Str.ofString "shift") ((num ns 1).fmod 2 == 1) (140 * ((num ns 2).fmod k + 2 * (num ns 3).fmod k)) (140 * ((num ns 3).fmod k + 2 * (num ns 2).fmod k)) cF cN ⟨_, rfl⟩ ?_ ?_ ?_
      · intro hb
        have hki : KIf := KIf.mk
        (try change wpAny _ _ _ _ _ _)
        (try k_fold)
        k_steps
        all_goals assumption
      · intro hb
        have hki : KIf := KIf.mk
        (try change wpAny _ _ _ _ _ _)
        (try k_fold)
        k_steps
        all_goals assumption
      intro sh t h' tk' hs1 hs0 F9 N9
      clear cF cN
      (k_with "state" => (first | exact st_told0 | exact st_told1 (by assumption) (by assumption) (by assumption) | exact st_told2 (by assumption) (by assumption) (by assumption)))
      have hshb := sh_in hs1 hs0 hkr b2 b3
      have hsh0 : 0 ≤ sh := hshb.1
      dsimp only
      (try change wpAny _ _ _ _ _ _)
      (try k_fold)
      k_steps
      refine Stop.go ?_
      (with_reducible rename Fr _ _ _ _ => lF')
      (with_unfolding_all refine' For_invVF lF' ?k1 ?k2 ?_; (case k1 => exact rfl); (case k2 => exact rfl))
      iterate 9 walk1
      dsimp only
      iterate 7 walk1
      dsimp only
      (with_reducible rename Fr _ _ _ _ => cF)
      (with_reducible rename News _ _ _ _ => cN)
      (with_reducible rename IntsAre _ (cands _) => cI)
      refine cut_upto (s := ⟨_, _, _, _, _⟩) cF cN (by k_mem) cI hsh0 (by rw [cands_len]; decide) ?_
      clear cF cN
      intro D1 ws1 h1 cF cN l1 cJ
      (with_reducible rename IntsAre _ (List.drop _ (cands _)) => cI2)
      refine cat_two cF cN (by k_mem) (by k_mem) cI2 cJ (by rw [List.length_drop, List.length_take, cands_len]; omega) ?_
      clear cF cN cI2 cJ l1
      intro D2 ws2 h2 F' N' l1 hI'
      (try dsimp only)
      (k_with "pyIter ref" => refine Stop.at ?_)
      k_steps
      refine Stop.go ?_
      (k_with "state" => (first | exact st_told0 | exact st_told1 (by assumption) (by assumption) (by assumption) | exact st_told2 (by assumption) (by assumption) (by assumption)))
      k_lt l1
      (with_reducible rename Fr _ _ _ _ => cF)
      (with_reducible rename News _ _ _ _ => cN)
      have N2 : News _ _ _ ([_, _, _, (835, tabObj #[]), (562, tabObj #[])]) := fun q hq => cN q ((all5 (.head _) (.tail _ (.tail _ (.tail _ (.tail _ (.head _))))) (.tail _ (.tail _ (.tail _ (.tail _ (.tail _ (.head _)))))) (by k_mem) (by k_mem)) q hq)
      clear cN
      k_state (fun pre told => told.length ≤ pre.length ∧ told = pre.filter under) "told"
      · (try k_fold)
        k_steps
      dsimp only
      (try change wpAny _ _ _ _ _ _)
      (try k_fold)
      k_steps
      refine Stop.go ?_
      (with_reducible rename Fr _ _ _ _ => cF)
      (with_reducible rename News _ _ _ _ => cN)
      have N2 : News _ _ _ ((835, tabObj #[]) :: [_, _, _, _, (562, tabObj #[])]) := fun q hq => cN q ((all6 (by k_mem) (.head _) (.tail _ (.head _)) (.tail _ (.tail _ (.tail _ (.head _)))) (.tail _ (.tail _ (.tail _ (.tail _ (.head _))))) (by k_mem)) q hq)
      clear cN
      (refine' spec_hashes ?k1 cF ?k3 N2 ?off ?k5 ?kC ?kb ?kl ?ka ?k9 ?_; (case off => exact (all5 (fun h => absurd (List.mem_singleton.mp h) (by k_ne)) (fun h => absurd (List.mem_singleton.mp h) (by k_ne)) (fun h => absurd (List.mem_singleton.mp h) (by k_ne)) (fun h => absurd (List.mem_singleton.mp h) (by k_ne)) (by decide))); (case k1 => k_asm); (case k3 => k_asm); (case k5 => k_asm); (case kC => k_asm); (case kb => exact bInts_bytesOf (octs_in _ _ _)); (case kl => exact octs_len _ _ _); (case ka => k_mem); (case k9 => ktr_room))
      clear cF N2
      intro y dy fx cx ca cb r fp t1 t2 t3 name qual params body scope clo doc pm ctv ocx oca ocb psH h' tk' F' N' n1 n2 n3 n4 n5 n6 xs
      (try dsimp only)
      (try change wpAny _ _ _ _ _ _)
      (try k_fold)
      k_steps
      refine Stop.go ?_
      (with_reducible rename Fr _ _ _ _ => cF)
      (with_reducible rename News _ _ _ _ => cN)
      (rename PySem.Obj.IsDictOf _ _ _ => hdd)
      (rename PyProof.V.FlatPairs _ _ _ => hff)
      have N2 : News _ _ _ (_ :: [_, _, _, _, _, _, _, _, _, _, _]) := fun q hq => cN q ((all12 (.tail _ (.tail _ (.tail _ (.tail _ (.tail _ (.tail _ (.tail _ (.head _)))))))) (.head _) (.tail _ (.head _)) (.tail _ (.tail _ (.head _))) (.tail _ (.tail _ (.tail _ (.head _)))) (.tail _ (.tail _ (.tail _ (.tail _ (.head _))))) (.tail _ (.tail _ (.tail _ (.tail _ (.tail _ (.head _)))))) (.tail _ (.tail _ (.tail _ (.tail _ (.tail _ (.tail _ (.head _))))))) (.tail _ (.tail _ (.tail _ (.tail _ (.tail _ (.tail _ (.tail _ (.tail _ (.head _))))))))) (.tail _ (.tail _ (.tail _ (.tail _ (.tail _ (.tail _ (.tail _ (.tail _ (.tail _ (.head _)))))))))) (.tail _ (.tail _ (.tail _ (.tail _ (.tail _ (.tail _ (.tail _ (.tail _ (.tail _ (.tail _ (.head _))))))))))) (.tail _ (.tail _ (.tail _ (.tail _ (.tail _ (.tail _ (.tail _ (.tail _ (.tail _ (.tail _ (.tail _ (.head _))))))))))))) q hq)
      clear cN
      (refine' spec_kem ?k1 cF ?k3 N2 ?k5 ?kp hdd hff ?kl ?k9 ?_; (case kp => exact ⟨by k_ne, ⟨by k_ne, ⟨by k_ne, ⟨by k_ne, ⟨by k_ne, ⟨by k_ne, ⟨by k_ne, ⟨by k_ne, ⟨by k_ne, ⟨by k_ne, ⟨by k_ne, trivial⟩⟩⟩⟩⟩⟩⟩⟩⟩⟩⟩); (case k1 => k_asm); (case k3 => k_asm); (case k5 => k_asm); (case kl => assumption); (case k9 => ktr_room))
      clear cF N2 hdd hff
      intro km dkm M dM R dR z q1 q2 q3 q4 q5 a1 a2 a3 a4 a5 a6 a7 a8 t0 t11 t12 t13 t14 u1 u2 u4 h' tk' F' N' m1 m2 m3 m4 m5 m6 lR
      (try dsimp only)
      (try change wpAny _ _ _ _ _ _)
      (try k_fold)
      k_steps
      refine Stop.go ?_
      have hns : ns.length ≤ 63 := by
        rename ¬ _ < (ns.length : Int) => hc9
        clear hs0 hs1 hshb
        omega
      (with_reducible rename Fr _ _ _ _ => cF)
      (with_reducible rename News _ _ _ _ => cN)
      rcases hkr with hk9 | hk9
      · subst hk9
        (refine' spec_gen1 ?k1 cF ?k3 cN ?k5 ?kk ?kC ?kf ?ks ?sub ?ap ?ap2 ?hG xs ?hrb ?hrl ?hks ?hkb lR ?k9 ?h0 ?_; (case k1 => k_asm); (case k3 => k_asm); (case k5 => k_asm); (case kk => exact rfl); (case kC => k_asm); (case kf => kernel_rfl); (case ks => kernel_rfl); (case sub => exact all14 (by k_mem) (by k_mem) (by k_mem) (by k_mem) (by k_mem) (by k_mem) (by k_mem) (by k_mem) (by k_mem) (by k_mem) (by k_mem) (by k_mem) (by k_mem) (by k_mem)); (case ap => exact ⟨by k_ne, ⟨by k_ne, ⟨by k_ne, ⟨by k_ne, ⟨by k_ne, ⟨by k_ne, ⟨by k_ne, ⟨by k_ne, ⟨by k_ne, ⟨by k_ne, ⟨by k_ne, ⟨by k_ne, ⟨by k_ne, trivial⟩⟩⟩⟩⟩⟩⟩⟩⟩⟩⟩⟩⟩); (case ap2 => exact ⟨by k_ne, ⟨by k_ne, ⟨by k_ne, ⟨by k_ne, ⟨by k_ne, ⟨by k_ne, ⟨by k_ne, ⟨by k_ne, ⟨by k_ne, ⟨by k_ne, ⟨by k_ne, ⟨by k_ne, trivial⟩⟩⟩⟩⟩⟩⟩⟩⟩⟩⟩⟩); (case hG => exact AllBare.of_eq hg); (case hrb => exact bInts_bytesOf (octs_in _ _ _)); (case hrl => exact octs_len _ _ _); (case hks => exact octs_len _ _ _); (case hkb => exact octs_in _ _ _); (case k9 => ktr_room); (case h0 => exact acc_count hns (by decide)))
        intro mx dmx D r0 p00 d00 c00 b00 e1 e2 e3 nD g0 f00 g00 n00 e00 w00 s' nA psT hbare hos F' Nm back hb00 hi00
        have Nu := back _ _ (by k_upd) (by k_upd)
        clear back cN cF
        have N2 := news_cons (b := [_, _, _, (835, tabObj psH), (562, tabObj psT)]) Nm (fun q hq => Nu q ((all5 (.tail _ (.tail _ (.tail _ (.tail _ (.tail _ (.tail _ (.tail _ (.tail _ (.tail _ (.tail _ (.tail _ (.tail _ (.tail _ (.head _)))))))))))))) (.tail _ (.tail _ (.tail _ (.tail _ (.tail _ (.tail _ (.tail _ (.tail _ (.tail _ (.tail _ (.tail _ (.tail _ (.tail _ (.tail _ (.head _))))))))))))))) (.tail _ (.tail _ (.tail _ (.tail _ (.tail _ (.tail _ (.tail _ (.tail _ (.tail _ (.tail _ (.tail _ (.tail _ (.tail _ (.tail _ (.tail _ (.head _)))))))))))))))) (by k_mem) (by k_mem)) q hq))
        clear Nm Nu n1 n2 n3 n4 n5 n6 m1 m2 m3 m4 m5 m6
        simp only [List.cons_append, List.nil_append] at N2
        rename _ = List.filter under _ => htold
        have htm := told_many hns htold
        have htf := told_few htold
        have b4 := fmod_256 (num ns 4)
        have hask : ByAll [.bytes b00 e00] (dueOf 1 (octs ns 5 32)) := .cons hb00 .nil
        (try change wpAny _ _ _ _ _ _)
        (try k_fold)
        k_steps
        refine Stop.go ?_
        (with_reducible rename News _ _ _ _ => cN)
        refine ne_byLists (xs := [.bytes b00 e00]) (News.isList cN (by k_mem)) (News.isList cN (by k_mem)) hask hdue (by ke_room) ?_
        k_steps
        · (with_reducible rename Fr _ _ _ _ => cF)
          exact goodW_true (end_true htold hs1 hs0 (by assumption) (by assumption) (by assumption) b4) (goodW_end cF (fun _ _ => rfl) (by wrow_post) hos rfl)
        · exact hbare
      subst hk9
      (refine' spec_gen2 ?k1 cF ?k3 cN ?k5 ?kk ?kC ?kf ?ks ?sub ?ap ?ap2 ?hG xs ?hrb ?hrl ?hks ?hkb lR ?k9 ?h0 ?h1 ?h2 ?h3 ?_; (case k1 => k_asm); (case k3 => k_asm); (case k5 => k_asm); (case kk => exact rfl); (case kC => k_asm); (case kf => kernel_rfl); (case ks => kernel_rfl); (case sub => exact all14 (by k_mem) (by k_mem) (by k_mem) (by k_mem) (by k_mem) (by k_mem) (by k_mem) (by k_mem) (by k_mem) (by k_mem) (by k_mem) (by k_mem) (by k_mem) (by k_mem)); (case ap => exact ⟨by k_ne, ⟨by k_ne, ⟨by k_ne, ⟨by k_ne, ⟨by k_ne, ⟨by k_ne, ⟨by k_ne, ⟨by k_ne, ⟨by k_ne, ⟨by k_ne, ⟨by k_ne, ⟨by k_ne, ⟨by k_ne, trivial⟩⟩⟩⟩⟩⟩⟩⟩⟩⟩⟩⟩⟩); (case ap2 => exact ⟨by k_ne, ⟨by k_ne, ⟨by k_ne, ⟨by k_ne, ⟨by k_ne, ⟨by k_ne, ⟨by k_ne, ⟨by k_ne, ⟨by k_ne, ⟨by k_ne, ⟨by k_ne, ⟨by k_ne, trivial⟩⟩⟩⟩⟩⟩⟩⟩⟩⟩⟩⟩); (case hG => exact AllBare.of_eq hg); (case hrb => exact bInts_bytesOf (octs_in _ _ _)); (case hrl => exact octs_len _ _ _); (case hks => exact octs_len _ _ _); (case hkb => exact octs_in _ _ _); (case k9 => ktr_room); (case h0 => exact acc_count hns (by decide)); (case h1 => exact acc_count hns (by decide)); (case h2 => exact acc_count hns (by decide)); (case h3 => exact acc_count hns (by decide)))
      intro mx dmx D r0 r1 p00 d00 c00 p01 d01 c01 p10 d10 c10 p11 d11 c11 b00 b01 b10 b11 e1 e2 e3 nD g0 g1 f00 g00 n00 e00 f01 g01 n01 e01 f10 g10 n10 e10 f11 g11 n11 e11 w00 w01 w10 w11 s' nA psT hbare hos F' Nm back hb00 hb01 hb10 hb11 hi00 hi01 hi10 hi11
      have Nu := back _ _ (by k_upd) (by k_upd)
      clear back cN cF
      have N2 := news_cons (b := [_, _, _, (835, tabObj psH), (562, tabObj psT)]) Nm (fun q hq => Nu q ((all5 (.tail _ (.tail _ (.tail _ (.tail _ (.tail _ (.tail _ (.tail _ (.tail _ (.tail _ (.tail _ (.tail _ (.tail _ (.tail _ (.head _)))))))))))))) (.tail _ (.tail _ (.tail _ (.tail _ (.tail _ (.tail _ (.tail _ (.tail _ (.tail _ (.tail _ (.tail _ (.tail _ (.tail _ (.tail _ (.head _))))))))))))))) (.tail _ (.tail _ (.tail _ (.tail _ (.tail _ (.tail _ (.tail _ (.tail _ (.tail _ (.tail _ (.tail _ (.tail _ (.tail _ (.tail _ (.tail _ (.head _)))))))))))))))) (by k_mem) (by k_mem)) q hq))
      clear Nm Nu n1 n2 n3 n4 n5 n6 m1 m2 m3 m4 m5 m6
      simp only [List.cons_append, List.nil_append] at N2
      rename _ = List.filter under _ => htold
      have htm := told_many hns htold
      have htf := told_few htold
      have b4 := fmod_256 (num ns 4)
      have hask : ByAll [.bytes b00 e00, .bytes b01 e01, .bytes b10 e10, .bytes b11 e11] (dueOf 2 (octs ns 5 32)) := .cons hb00 (.cons hb01 (.cons hb10 (.cons hb11 .nil)))
      (try change wpAny _ _ _ _ _ _)
      (try k_fold)
      k_steps
      refine Stop.go ?_
      (with_reducible rename News _ _ _ _ => cN)
      refine ne_byLists (xs := [.bytes b00 e00, .bytes b01 e01, .bytes b10 e10, .bytes b11 e11]) (News.isList cN (by k_mem)) (News.isList cN (by k_mem)) hask hdue (by ke_room) ?_
      k_steps
      · (with_reducible rename Fr _ _ _ _ => cF)
        exact goodW_true (end_true htold hs1 hs0 (by assumption) (by assumption) (by assumption) b4) (goodW_end cF (fun _ _ => rfl) (by wrow_post) hos rfl)
      · exact hbare))
  trivial
theorem law_walk : ∀ (d : DefRec) (kwd : List (Str × Expr)), defOf view (Str.ofString "law") = some (d, kwd) → WalkO view [Str.ofString "PolynomialRing", Str.ofString "PolynomialNTT", Str.ofString "GenericMatrix", Str.ofString "Matrix", Str.ofString "Module"] (XL view []) (kmHook hd.heap_1 [2, 3, 15, 17, 18, 20, 21, 29, 31, 32, 34, 35, 36, 38, 39, 41, 42, 43, 45, 46, 48, 49, 50, 52, 53, 55, 56, 57, 58, 59, 60, 61, 71, 73, 74, 76, 77, 78, 80, 81,
  83, 84, 85, 87, 88, 90, 91, 92, 95, 96, 97, 99, 100, 102, 103, 104, 106, 107, 109, 110, 111, 113, 114, 116, 117, 118, 121, 122, 123, 126, 127, 128, 131, 132, 133, 135, 136, 138, 139, 140,
  142, 143, 145, 146, 147, 149, 150, 152, 153, 154, 157, 158, 159, 161, 162, 164, 165, 166, 168, 169, 171, 172, 173, 175, 176, 178, 179, 180, 183, 184, 185, 187, 188, 190, 191, 192, 194, 195, 197, 198,
  199, 201, 202, 204, 205, 206, 208, 209, 211, 212, 213, 215, 216, 218, 219, 220, 221, 222, 223, 224, 227, 234, 237, 238, 239, 241, 242, 244, 245, 246, 247, 248, 249, 252, 253, 254, 255, 257, 258, 260,
  261, 262, 263, 265, 266, 268, 269, 270, 271, 273, 274, 276, 277, 278, 279, 280, 283, 290, 292, 293, 295, 296, 297, 299, 300, 302, 303, 304, 306, 307, 309, 310, 311, 313, 314, 316, 317, 318, 320, 321,
  323, 324, 325, 327, 328, 330, 331, 332, 334, 335, 337, 338, 339, 341, 342, 344, 345, 346, 347, 348, 351, 358, 360, 361, 363, 364, 365, 367, 368, 370, 371, 372, 374, 375, 377, 378, 379, 381, 382, 384,
  385, 386, 387, 388, 389, 391, 392, 394, 395, 396, 398, 399, 401, 402, 403, 405, 406, 408, 409, 410, 412, 413, 415, 416, 417, 420, 421, 422, 423, 424, 434, 435, 437, 438, 440, 441, 442, 444, 445, 447,
  448, 449, 451, 452, 454, 455, 456, 458, 459, 461, 462, 463, 465, 466, 468, 469, 470, 471, 473, 474, 476, 477, 478, 480, 481, 483, 484, 485, 488, 489, 490, 493, 494, 495, 498, 499, 500, 502, 503, 505,
  506, 507, 510, 511, 512, 514, 515, 517, 518, 519, 522, 523, 524, 526, 527, 529, 530, 531, 532, 533, 534, 535, 545, 547, 548, 550, 551, 552, 553, 555, 556, 558, 559, 560, 561, 563, 564, 566, 567, 568,
  570, 571, 573, 574, 575, 576, 577, 578, 579, 582, 585, 590, 591, 592, 594, 595, 597, 598, 599, 601, 602, 604, 605, 606, 608, 609, 611, 612, 613, 615, 616, 618, 619, 620, 622, 623, 625, 626, 627, 629,
  630, 632, 633, 634, 635, 636, 639, 646, 648, 649, 651, 652, 653, 654, 656, 657, 659, 660, 661, 662, 664, 665, 667, 668, 669, 670, 671, 681, 683, 684, 686, 687, 688, 690, 691, 693, 694, 695, 697, 698,
  700, 701, 702, 704, 705, 707, 708, 709, 711, 712, 714, 715, 716, 718, 719, 721, 722, 723, 725, 726, 728, 729, 730, 732, 733, 735, 736, 737, 738, 741, 742, 743, 745, 746, 748, 749, 750, 752, 753, 755,
  756, 757, 759, 760, 762, 763, 764, 766, 767, 769, 770, 771, 773, 774, 776, 777, 778, 780, 781, 783, 784, 785, 787, 788, 790, 791, 792, 794, 795, 797, 798, 799, 801, 802, 804, 805, 806, 808, 809, 811,
  812, 813, 814, 815, 816, 817, 820, 822, 823, 825, 826, 827, 829, 830, 832, 833, 834, 836, 837, 839, 840, 841, 843, 844, 846, 847, 848, 850, 851, 853, 854] asE [835, 562]).says PySem.Challenge.rw_yi0055_01.row.toRowW d kwd fun f vs => PySem.call f vs := by
  refine unbox ?_
  simp +zetaDelta (disch := (k_dflt (k_extra "go law_walk"))) only [↓box_true]
theorem main.tw357486453476387696 : True := trivial
theorem main.tw10044588960856096794 : True := trivial
theorem main.tw10114013102757674387 : True := trivial
theorem main.tw10123989817122485451 : True := trivial
theorem main.tw10149618387772673413 : True := trivial
theorem main.tw10169072693733980587 : True := trivial
theorem main.tw10177057350305019805 : True := trivial
theorem main.tw10199874654664476236 : True := trivial
theorem main.tw10201359505653846880 : True := trivial
theorem main.tw10210597933619972095 : True := trivial
theorem main.tw10234815189450012239 : True := trivial
theorem main.tw10255180020182114038 : True := trivial
theorem main.tw1027651156746619712 : True := trivial
theorem main.tw10298723112805639129 : True := trivial
theorem main.tw10334261112615635914 : True := trivial
theorem main.tw10363585996791799541 : True := trivial
theorem main.tw1041082287264499562 : True := trivial
theorem main.tw10418042200766032776 : True := trivial
theorem main.tw104360540948158410 : True := trivial
theorem main.tw10450603732522932521 : True := trivial
theorem main.tw10453263994017694363 : True := trivial
theorem main.tw10455743928339290457 : True := trivial
theorem main.tw10463206416058312583 : True := trivial
theorem main.tw1046443281632482020 : True := trivial
theorem main.tw10474107093616326617 : True := trivial
theorem main.tw10483362588635715401 : True := trivial
theorem main.tw10543740743216835930 : True := trivial
theorem main.tw10554957952762445534 : True := trivial
theorem main.tw10564528347858357063 : True := trivial
theorem main.tw10567084921333377638 : True := trivial
theorem main.tw10625486282989778954 : True := trivial
theorem main.tw10642606787283503386 : True := trivial
theorem main.tw10652611922669240339 : True := trivial
theorem main.tw10652863235454686790 : True := trivial
theorem main.tw10663580350406149668 : True := trivial
theorem main.tw10665089971535097683 : True := trivial
theorem main.tw10665469846841522134 : True := trivial
theorem main.tw10669944970481658594 : True := trivial
theorem main.tw10707853282979444102 : True := trivial
theorem main.tw10733517942209094403 : True := trivial
theorem main.tw10750994468655217958 : True := trivial
theorem main.tw1075715825243056693 : True := trivial
theorem main.tw10821422270917381399 : True := trivial
theorem main.tw10825349956297869744 : True := trivial
theorem main.tw10825838108423173272 : True := trivial
theorem main.tw1084220662915027778 : True := trivial
theorem main.tw10864377008497418100 : True := trivial
theorem main.tw10876229203375891673 : True := trivial
theorem main.tw10877679251791092727 : True := trivial
theorem main.tw10896356407431480244 : True := trivial
theorem main.tw10924716458440934090 : True := trivial
theorem main.tw1092785777240315536 : True := trivial
theorem main.tw10953687544409504101 : True := trivial
theorem main.tw10987386120367425466 : True := trivial
theorem main.tw1099256609624015869 : True := trivial
theorem main.tw11001617756164336837 : True := trivial
theorem main.tw11003572833241299968 : True := trivial
theorem main.tw11019096307435631222 : True := trivial
theorem main.tw11020365191643786025 : True := trivial
theorem main.tw11041547156204584376 : True := trivial
theorem main.tw11041858737867550897 : True := trivial
theorem main.tw11049269918873537771 : True := trivial
theorem main.tw11086099901593105684 : True := trivial
theorem main.tw11092141859048813250 : True := trivial
theorem main.tw11101190512080308003 : True := trivial
theorem main.tw11120327062377616369 : True := trivial
theorem main.tw11135027115929721415 : True := trivial
theorem main.tw11181722664286889309 : True := trivial
theorem main.tw11183452524601008856 : True := trivial
theorem main.tw11213863890663495067 : True := trivial
theorem main.tw11218778669853930896 : True := trivial
theorem main.tw11239335112260394413 : True := trivial
theorem main.tw11251407683458634364 : True := trivial
theorem main.tw11261727412033496967 : True := trivial
theorem main.tw1130211791997205004 : True := trivial
theorem main.tw11311155076762098589 : True := trivial
theorem main.tw11374851513655246148 : True := trivial
theorem main.tw11388154006635350966 : True := trivial
theorem main.tw11390293659975261258 : True := trivial
theorem main.tw11399646045708457374 : True := trivial
theorem main.tw11403970630465759474 : True := trivial
theorem main.tw11405101455947879731 : True := trivial
theorem main.tw11409991511011244131 : True := trivial
theorem main.tw11410963132546700228 : True := trivial
theorem main.tw11420915482230102668 : True := trivial
theorem main.tw11461230924637031220 : True := trivial
theorem main.tw11463369355524808266 : True := trivial
theorem main.tw11476092923266045095 : True := trivial
theorem main.tw11490900464029743698 : True := trivial
theorem main.tw1150287232629052791 : True := trivial
theorem main.tw11531331273489700057 : True := trivial
theorem main.tw11548542833958708988 : True := trivial
theorem main.tw11554813239044494598 : True := trivial
theorem main.tw1156462466702112376 : True := trivial
theorem main.tw1157997071576566072 : True := trivial
theorem main.tw11614107205274993552 : True := trivial
theorem main.tw11614346279706655073 : True := trivial
theorem main.tw11646826074482590764 : True := trivial
theorem main.tw11670399090076514202 : True := trivial
theorem main.tw11707585526205722907 : True := trivial
theorem main.tw11710404883906591787 : True := trivial
theorem main.tw11712081513822626495 : True := trivial
theorem main.tw11725999154989108132 : True := trivial
theorem main.tw11728771520666845194 : True := trivial
theorem main.tw11735423636902730196 : True := trivial
theorem main.tw11752208632293872130 : True := trivial
theorem main.tw11774690029378154688 : True := trivial
theorem main.tw1178595665728414349 : True := trivial
theorem main.tw11789403723227289746 : True := trivial
theorem main.tw11815829001073249272 : True := trivial
theorem main.tw11857135199678951331 : True := trivial
theorem main.tw11904941031934877020 : True := trivial
theorem main.tw1191263595243908205 : True := trivial
theorem main.tw11923525502935528744 : True := trivial
theorem main.tw11933201153402537488 : True := trivial
theorem main.tw11962923498438245051 : True := trivial
theorem main.tw11967333016625521393 : True := trivial
theorem main.tw11982392923317675503 : True := trivial
theorem main.tw11987853993630220354 : True := trivial
theorem main.tw12006131722545458140 : True := trivial
theorem main.tw12014785543569010823 : True := trivial
theorem main.tw12023146180999706270 : True := trivial
theorem main.tw12027323910402764344 : True := trivial
theorem main.tw12057704586751987240 : True := trivial
theorem main.tw12077450504624328385 : True := trivial
theorem main.tw12093647306153771053 : True := trivial
theorem main.tw12106859168716417752 : True := trivial
theorem main.tw12130321265151566525 : True := trivial
theorem main.tw12134908399292295839 : True := trivial
theorem main.tw1216228984421328439 : True := trivial
theorem main.tw12170992721606120685 : True := trivial
theorem main.tw12205347405646519318 : True := trivial
theorem main.tw12222963475772708484 : True := trivial
theorem main.tw12245857906982125569 : True := trivial
theorem main.tw12252054271945606052 : True := trivial
theorem main.tw12255313618399501761 : True := trivial
theorem main.tw12273490649430754879 : True := trivial
theorem main.tw12298629886278197574 : True := trivial
theorem main.tw12304082900475741265 : True := trivial
theorem main.tw12324921354453157484 : True := trivial
theorem main.tw12332102779922042578 : True := trivial
theorem main.tw12338497608069007261 : True := trivial
theorem main.tw12343854547171428336 : True := trivial
theorem main.tw1242282695825638017 : True := trivial
theorem main.tw12429675835336498981 : True := trivial
theorem main.tw12431561837914552411 : True := trivial
theorem main.tw12450111651097656602 : True := trivial
theorem main.tw12455012482086183272 : True := trivial
theorem main.tw12463224122652932544 : True := trivial
theorem main.tw124932867818176594 : True := trivial
theorem main.tw12518504611687188807 : True := trivial
theorem main.tw12519306246395310219 : True := trivial
theorem main.tw1253437644075932092 : True := trivial
theorem main.tw12543713266681445118 : True := trivial
theorem main.tw1255815211270559930 : True := trivial
theorem main.tw12564604832814323664 : True := trivial
theorem main.tw12570134572688502250 : True := trivial
theorem main.tw12590340796369385619 : True := trivial
theorem main.tw1259162542039736189 : True := trivial
theorem main.tw12594366453804578888 : True := trivial
theorem main.tw12608185968620612914 : True := trivial
theorem main.tw1261021989165538067 : True := trivial
theorem main.tw12623159325031504133 : True := trivial
theorem main.tw12646911602827044314 : True := trivial
theorem main.tw12653679108036650311 : True := trivial
theorem main.tw12670839924663504800 : True := trivial
theorem main.tw12675357926760492328 : True := trivial
theorem main.tw12681957500809781501 : True := trivial
theorem main.tw1270039299266317192 : True := trivial
theorem main.tw12702744160499308131 : True := trivial
theorem main.tw12732289081945773324 : True := trivial
theorem main.tw12741544251441588921 : True := trivial
theorem main.tw12747388180105724736 : True := trivial
theorem main.tw12748397558918655664 : True := trivial
theorem main.tw12751799325998411230 : True := trivial
theorem main.tw12800608258095302798 : True := trivial
theorem main.tw12839114828313443825 : True := trivial
theorem main.tw12867379429370454646 : True := trivial
theorem main.tw12870486517592710932 : True := trivial
theorem main.tw12872379398031375081 : True := trivial
theorem main.tw12885385263037960081 : True := trivial
theorem main.tw12885673836220544336 : True := trivial
theorem main.tw1289389943133740499 : True := trivial
theorem main.tw12900284412222446716 : True := trivial
theorem main.tw12909650291622432550 : True := trivial
theorem main.tw12915833801598196605 : True := trivial
theorem main.tw12922898485456448571 : True := trivial
theorem main.tw12923824779624601617 : True := trivial
theorem main.tw12927740378394474205 : True := trivial
theorem main.tw12941917028564957548 : True := trivial
theorem main.tw12959741745000181155 : True := trivial
theorem main.tw12974819211118642341 : True := trivial
theorem main.tw12987577155417789579 : True := trivial
theorem main.tw12992176717851604617 : True := trivial
theorem main.tw13077236301305049449 : True := trivial
theorem main.tw13110577991587790113 : True := trivial
theorem main.tw13110970153573199417 : True := trivial
theorem main.tw13113777628852026922 : True := trivial
theorem main.tw13116522157475607773 : True := trivial
theorem main.tw13148611719377898607 : True := trivial
theorem main.tw13154001654789283132 : True := trivial
theorem main.tw13157206579259725088 : True := trivial
theorem main.tw13180746182150919023 : True := trivial
theorem main.tw13187166440333854079 : True := trivial
theorem main.tw13194694976546938235 : True := trivial
theorem main.tw1319676515408343850 : True := trivial
theorem main.tw13219505800766818778 : True := trivial
theorem main.tw13224007501803129859 : True := trivial
theorem main.tw13227784636351994527 : True := trivial
theorem main.tw13255245976751338989 : True := trivial
theorem main.tw13260870731297125680 : True := trivial
theorem main.tw13270728482189477470 : True := trivial
theorem main.tw13293747886898857621 : True := trivial
theorem main.tw13306352142949925410 : True := trivial
theorem main.tw13313126695403321540 : True := trivial
theorem main.tw13348322127785295214 : True := trivial
theorem main.tw13350764725976880583 : True := trivial
theorem main.tw13355152605343272895 : True := trivial
theorem main.tw13402765919934010277 : True := trivial
theorem main.tw13406003279186336099 : True := trivial
theorem main.tw13447304073604360266 : True := trivial
theorem main.tw13465503431842376007 : True := trivial
theorem main.tw13503263706703578961 : True := trivial
theorem main.tw13532707612510029741 : True := trivial
theorem main.tw13547569757486424058 : True := trivial
theorem main.tw13590572293223372214 : True := trivial
theorem main.tw13591255225166038476 : True := trivial
theorem main.tw13597483153833180358 : True := trivial
theorem main.tw13626721169425172152 : True := trivial
theorem main.tw13642826006792871662 : True := trivial
theorem main.tw13667920496262714385 : True := trivial
theorem main.tw13676971244355772609 : True := trivial
theorem main.tw13689083923384677848 : True := trivial
theorem main.tw13693970394777133609 : True := trivial
theorem main.tw13713940216889387898 : True := trivial
theorem main.tw13724616953566380437 : True := trivial
theorem main.tw1372806426800153423 : True := trivial
theorem main.tw13838900630717943254 : True := trivial
theorem main.tw13876859957761632879 : True := trivial
theorem main.tw1390771862084280389 : True := trivial
theorem main.tw13914785722749861914 : True := trivial
theorem main.tw13962693860625380366 : True := trivial
theorem main.tw13965128551521907918 : True := trivial
theorem main.tw13972245371655741198 : True := trivial
theorem main.tw13978478705568000493 : True := trivial
theorem main.tw13989496423458381343 : True := trivial
theorem main.tw13995172100960836882 : True := trivial
theorem main.tw14009396871252706886 : True := trivial
theorem main.tw14020873708864708748 : True := trivial
theorem main.tw14027531716089632829 : True := trivial
theorem main.tw14060465935940456498 : True := trivial
theorem main.tw14061640607465278742 : True := trivial
theorem main.tw14064073609400967072 : True := trivial
theorem main.tw14080665800827857628 : True := trivial
theorem main.tw14097447854668400296 : True := trivial
theorem main.tw1409966394225722968 : True := trivial
theorem main.tw14106445559736802775 : True := trivial
theorem main.tw1415428593365352553 : True := trivial
theorem main.tw14161005256144132680 : True := trivial
theorem main.tw14161465996007527954 : True := trivial
theorem main.tw14168887731352723522 : True := trivial
theorem main.tw14218914174604095658 : True := trivial
theorem main.tw14235155234550121937 : True := trivial
theorem main.tw14313897822631088780 : True := trivial
theorem main.tw14327828592025367406 : True := trivial
theorem main.tw14336716466608126219 : True := trivial
theorem main.tw14364048958407549093 : True := trivial
theorem main.tw14368271195830560734 : True := trivial
theorem main.tw14377180257169084997 : True := trivial
theorem main.tw14377536511252160716 : True := trivial
theorem main.tw14439473939278146460 : True := trivial
theorem main.tw14443092014599818573 : True := trivial
theorem main.tw14489535830319231195 : True := trivial
theorem main.tw14492832472218066102 : True := trivial
theorem main.tw14504180641510445567 : True := trivial
theorem main.tw14510055921401542917 : True := trivial
theorem main.tw1453356044741674121 : True := trivial
theorem main.tw14535484193269619989 : True := trivial
theorem main.tw14539993770535171780 : True := trivial
theorem main.tw14554314840745968623 : True := trivial
theorem main.tw14562738103837258888 : True := trivial
theorem main.tw14636892021812066514 : True := trivial
theorem main.tw14637806741061077295 : True := trivial
theorem main.tw14639212616227390028 : True := trivial
theorem main.tw14640416626631428029 : True := trivial
theorem main.tw14662554035588321541 : True := trivial
theorem main.tw14666387041718499266 : True := trivial
theorem main.tw14672674291997333471 : True := trivial
theorem main.tw14698241182937546978 : True := trivial
theorem main.tw1469836325065767749 : True := trivial
theorem main.tw14722489848711283861 : True := trivial
theorem main.tw14759895335926876869 : True := trivial
theorem main.tw14771111431291430275 : True := trivial
theorem main.tw14778156417510286666 : True := trivial
theorem main.tw14788915703135433725 : True := trivial
theorem main.tw14793117695081215449 : True := trivial
theorem main.tw14798791472264738832 : True := trivial
theorem main.tw14805756002866571830 : True := trivial
theorem main.tw14814594519894181452 : True := trivial
theorem main.tw14849204138880929251 : True := trivial
theorem main.tw14859100970857779836 : True := trivial
theorem main.tw1486339892855113045 : True := trivial
theorem main.tw14864641218109852296 : True := trivial
theorem main.tw14901956458830911765 : True := trivial
theorem main.tw14907226015203709474 : True := trivial
theorem main.tw14909365282108701170 : True := trivial
theorem main.tw14992222465124788362 : True := trivial
theorem main.tw15017983477296125989 : True := trivial
theorem main.tw15022946984557111684 : True := trivial
theorem main.tw15023316991559800185 : True := trivial
theorem main.tw15060185592220127646 : True := trivial
theorem main.tw15062679425460387418 : True := trivial
theorem main.tw15079240505294077160 : True := trivial
theorem main.tw15087427406127887449 : True := trivial
theorem main.tw15097543051748444868 : True := trivial
theorem main.tw15107931421201665931 : True := trivial
theorem main.tw15109750227778091905 : True := trivial
theorem main.tw15131278010643852716 : True := trivial
theorem main.tw15136431859952498927 : True := trivial
theorem main.tw15140838672463199983 : True := trivial
theorem main.tw15187429236782110823 : True := trivial
theorem main.tw1519927702969063271 : True := trivial
theorem main.tw1519992759497675636 : True := trivial
theorem main.tw15244097889725654702 : True := trivial
theorem main.tw15270170921892066516 : True := trivial
theorem main.tw15277975159832343749 : True := trivial
theorem main.tw15282798724139172088 : True := trivial
theorem main.tw15303317825217679618 : True := trivial
theorem main.tw15312040371321221727 : True := trivial
theorem main.tw15312394840280087653 : True := trivial
theorem main.tw15326346284793698685 : True := trivial
theorem main.tw15342904991969174519 : True := trivial
theorem main.tw15350898050860989542 : True := trivial
theorem main.tw15387884906608193903 : True := trivial
theorem main.tw15461212566085484399 : True := trivial
theorem main.tw15465920861327815835 : True := trivial
theorem main.tw15467891735981029475 : True := trivial
theorem main.tw1548279923187021627 : True := trivial
theorem main.tw15485851114877660061 : True := trivial
theorem main.tw15491723280356408159 : True := trivial
theorem main.tw15510692781650021527 : True := trivial
theorem main.tw15514936471743626214 : True := trivial
theorem main.tw1552421926411342777 : True := trivial
theorem main.tw15540984915698410164 : True := trivial
theorem main.tw15554039934745177238 : True := trivial
theorem main.tw15579395750891953841 : True := trivial
theorem main.tw1558029280743786754 : True := trivial
theorem main.tw15589955886551607785 : True := trivial
theorem main.tw15595112118272840620 : True := trivial
theorem main.tw15606653302220566414 : True := trivial
theorem main.tw15616401959046598769 : True := trivial
theorem main.tw15624239662980076321 : True := trivial
theorem main.tw15642941266545998023 : True := trivial
theorem main.tw15649996292582860464 : True := trivial
theorem main.tw15670109119070698982 : True := trivial
theorem main.tw15672986146971166658 : True := trivial
theorem main.tw15684375888932747349 : True := trivial
theorem main.tw15734200111481486640 : True := trivial
theorem main.tw15734660467963936456 : True := trivial
theorem main.tw15737690656516749961 : True := trivial
theorem main.tw15768048840197415361 : True := trivial
theorem main.tw15803610866087392283 : True := trivial
theorem main.tw15806524323241146399 : True := trivial
theorem main.tw1587290215689348708 : True := trivial
theorem main.tw1590763530083325563 : True := trivial
theorem main.tw15928290008803537013 : True := trivial
theorem main.tw15949526494057022110 : True := trivial
theorem main.tw15955573374722617477 : True := trivial
theorem main.tw15957597259013190341 : True := trivial
theorem main.tw15970538086172389420 : True := trivial
theorem main.tw16008252555379753968 : True := trivial
theorem main.tw16008457594558532635 : True := trivial
theorem main.tw16022572192331126682 : True := trivial
theorem main.tw16026775910206950810 : True := trivial
theorem main.tw16033097090804400913 : True := trivial
theorem main.tw16035907590883218939 : True := trivial
theorem main.tw16046730324260685337 : True := trivial
theorem main.tw16049902774474827687 : True := trivial
theorem main.tw16057503054469045564 : True := trivial
theorem main.tw1610520696219057239 : True := trivial
theorem main.tw16128220689672181975 : True := trivial
theorem main.tw16135426469972691074 : True := trivial
theorem main.tw16136984950599521427 : True := trivial
theorem main.tw1615045767204293396 : True := trivial
theorem main.tw16153842264607907944 : True := trivial
theorem main.tw1615956725737779560 : True := trivial
theorem main.tw16187894506366716058 : True := trivial
theorem main.tw161903638078081290 : True := trivial
theorem main.tw16193401482309157537 : True := trivial
theorem main.tw16203622797070002922 : True := trivial
theorem main.tw16218864148678617972 : True := trivial
theorem main.tw16235428439501865183 : True := trivial
theorem main.tw16251939892948500945 : True := trivial
theorem main.tw1628013610222277130 : True := trivial
theorem main.tw16292202817602668162 : True := trivial
theorem main.tw16304157974115477746 : True := trivial
theorem main.tw16305672181175384284 : True := trivial
theorem main.tw16320729459185622934 : True := trivial
theorem main.tw16355746345580011080 : True := trivial
theorem main.tw16356685582667847594 : True := trivial
theorem main.tw16396084126727719574 : True := trivial
theorem main.tw16411370214107742406 : True := trivial
theorem main.tw16424990018577422225 : True := trivial
theorem main.tw16451033083921036709 : True := trivial
theorem main.tw16452447596832230105 : True := trivial
theorem main.tw1645717771770832407 : True := trivial
theorem main.tw16480584520131690045 : True := trivial
theorem main.tw16501172079758305675 : True := trivial
theorem main.tw16508919721030705984 : True := trivial
theorem main.tw16519101796099990279 : True := trivial
theorem main.tw16544489699163171333 : True := trivial
theorem main.tw16551855485269240956 : True := trivial
theorem main.tw16572128252103988241 : True := trivial
theorem main.tw16602241572910223693 : True := trivial
theorem main.tw16629339528299215175 : True := trivial
theorem main.tw16641786646906312760 : True := trivial
theorem main.tw16651728564920304373 : True := trivial
theorem main.tw16656740534632174751 : True := trivial
theorem main.tw16676564476587882173 : True := trivial
theorem main.tw16689149305811164139 : True := trivial
theorem main.tw16694328042645773840 : True := trivial
theorem main.tw16721930046160240684 : True := trivial
theorem main.tw16723884430069596700 : True := trivial
theorem main.tw16731706213750114917 : True := trivial
theorem main.tw16755849432154420019 : True := trivial
theorem main.tw16757190730947197508 : True := trivial
theorem main.tw16765925921980633802 : True := trivial
theorem main.tw1677766988990989824 : True := trivial
theorem main.tw16778611742570070204 : True := trivial
theorem main.tw16784772322866675431 : True := trivial
theorem main.tw1678875084529416142 : True := trivial
theorem main.tw16790050636404226231 : True := trivial
theorem main.tw16798207577519904205 : True := trivial
theorem main.tw16798622893749714585 : True := trivial
theorem main.tw16806246253224384389 : True := trivial
theorem main.tw16817993663026736274 : True := trivial
theorem main.tw16832360635688203351 : True := trivial
theorem main.tw16863156106696720372 : True := trivial
theorem main.tw16877947373546393871 : True := trivial
theorem main.tw16922381011570985944 : True := trivial
theorem main.tw16923884221124529275 : True := trivial
theorem main.tw16952715711813285254 : True := trivial
theorem main.tw16965079339398995527 : True := trivial
theorem main.tw17016820405989369747 : True := trivial
theorem main.tw17025424565251489684 : True := trivial
theorem main.tw17052023290607921161 : True := trivial
theorem main.tw17057053908230417247 : True := trivial
theorem main.tw17067035981215421688 : True := trivial
theorem main.tw1707505545463187130 : True := trivial
theorem main.tw17091655785135471103 : True := trivial
theorem main.tw17096532924672817327 : True := trivial
theorem main.tw17118054049896295152 : True := trivial
theorem main.tw17128291446047057950 : True := trivial
theorem main.tw17144978775634262171 : True := trivial
theorem main.tw17146568849442343683 : True := trivial
theorem main.tw17147588175821073265 : True := trivial
theorem main.tw17201416709059790184 : True := trivial
theorem main.tw17223442867436993403 : True := trivial
theorem main.tw17227442419121036007 : True := trivial
theorem main.tw17236958762192778904 : True := trivial
theorem main.tw17262041522474090127 : True := trivial
theorem main.tw17272174723667511238 : True := trivial
theorem main.tw17280665378484479262 : True := trivial
theorem main.tw17290568124846718506 : True := trivial
theorem main.tw17297283025540448806 : True := trivial
theorem main.tw17298425922696826006 : True := trivial
theorem main.tw17336282652733537790 : True := trivial
theorem main.tw17353955331779342651 : True := trivial
theorem main.tw17402982504261768225 : True := trivial
theorem main.tw17403364634526059139 : True := trivial
theorem main.tw17413556829735388813 : True := trivial
theorem main.tw17431719831054627609 : True := trivial
theorem main.tw17438294365789470252 : True := trivial
theorem main.tw17445186720391901401 : True := trivial
theorem main.tw17450470499104002142 : True := trivial
theorem main.tw17453503289922162039 : True := trivial
theorem main.tw17456035664235451855 : True := trivial
theorem main.tw17477492558424962760 : True := trivial
theorem main.tw17493723678399337961 : True := trivial
theorem main.tw17509848305552354843 : True := trivial
theorem main.tw17561526911342447988 : True := trivial
theorem main.tw17563168436475441343 : True := trivial
theorem main.tw17585224947871030625 : True := trivial
theorem main.tw17659147809683748901 : True := trivial
theorem main.tw17665120845849184447 : True := trivial
theorem main.tw17679725944135375923 : True := trivial
theorem main.tw1769060959755561668 : True := trivial
theorem main.tw17695171507069755227 : True := trivial
theorem main.tw17708487481403421675 : True := trivial
theorem main.tw17715262827843222689 : True := trivial
theorem main.tw17725498274588495791 : True := trivial
theorem main.tw17734603463515337306 : True := trivial
theorem main.tw17737603089517620647 : True := trivial
theorem main.tw1777545030009416734 : True := trivial
theorem main.tw17784085234867301975 : True := trivial
theorem main.tw1781223760143429554 : True := trivial
theorem main.tw17864028415675338326 : True := trivial
theorem main.tw17871620999419790863 : True := trivial
theorem main.tw17906638245316424091 : True := trivial
theorem main.tw17920292393507637884 : True := trivial
theorem main.tw17929197003994584715 : True := trivial
theorem main.tw17943756269633507525 : True := trivial
theorem main.tw17974016328880235120 : True := trivial
theorem main.tw18005423509665057918 : True := trivial
theorem main.tw18031918436515192882 : True := trivial
theorem main.tw18046051524673705752 : True := trivial
theorem main.tw18046886581883190830 : True := trivial
theorem main.tw18063282731904131703 : True := trivial
theorem main.tw18120430973489738927 : True := trivial
theorem main.tw18134284020713443437 : True := trivial
theorem main.tw18162592725011693541 : True := trivial
theorem main.tw18165044119631177899 : True := trivial
theorem main.tw18190005008629794160 : True := trivial
theorem main.tw18218335207050127959 : True := trivial
theorem main.tw18238007617527299592 : True := trivial
theorem main.tw1825112573515892892 : True := trivial
theorem main.tw1826329307503635854 : True := trivial
theorem main.tw18284262389922463811 : True := trivial
theorem main.tw18287795668848337631 : True := trivial
theorem main.tw18288009448212308685 : True := trivial
theorem main.tw18302796317244248524 : True := trivial
theorem main.tw18314829044154829275 : True := trivial
theorem main.tw18315214858253571532 : True := trivial
theorem main.tw18317609476662902477 : True := trivial
theorem main.tw18325589031809861271 : True := trivial
theorem main.tw18328743936084910167 : True := trivial
theorem main.tw18342001204779339714 : True := trivial
theorem main.tw18344032359734412310 : True := trivial
theorem main.tw18392154025008590481 : True := trivial
theorem main.tw18403998269306519403 : True := trivial
theorem main.tw18418235949754561950 : True := trivial
theorem main.tw18421580907717582127 : True := trivial
theorem main.tw18425317256667529438 : True := trivial
theorem main.tw18431692314602308842 : True := trivial
theorem main.tw18442785490491869365 : True := trivial
theorem main.tw18446094637698972617 : True := trivial
theorem main.tw1850612553970854742 : True := trivial
theorem main.tw1886080085820668685 : True := trivial
theorem main.tw1900339198761634783 : True := trivial
theorem main.tw1980160206288974728 : True := trivial
theorem main.tw2007339730380871907 : True := trivial
theorem main.tw2058021452347087232 : True := trivial
theorem main.tw2109110986647770594 : True := trivial
theorem main.tw2110754180369666209 : True := trivial
theorem main.tw2136821422063795447 : True := trivial
theorem main.tw2156145737304315219 : True := trivial
theorem main.tw2173562974560187446 : True := trivial
theorem main.tw2190695567426971638 : True := trivial
theorem main.tw2195194259037543316 : True := trivial
theorem main.tw221909299271738847 : True := trivial
theorem main.tw2225956059507018244 : True := trivial
theorem main.tw2238316416991798583 : True := trivial
theorem main.tw2278972029675796859 : True := trivial
theorem main.tw2279707942289718827 : True := trivial
theorem main.tw2337230598321646361 : True := trivial
theorem main.tw2341703837736514645 : True := trivial
theorem main.tw2343935838158425641 : True := trivial
theorem main.tw234599468654550697 : True := trivial
theorem main.tw2363833142923657126 : True := trivial
theorem main.tw2373237607127697691 : True := trivial
theorem main.tw2399826469436781019 : True := trivial
theorem main.tw2402762420636078793 : True := trivial
theorem main.tw2406621943657119228 : True := trivial
theorem main.tw2428412748925179849 : True := trivial
theorem main.tw244467455267321384 : True := trivial
theorem main.tw2496676261509829067 : True := trivial
theorem main.tw2524017781993486291 : True := trivial
theorem main.tw2538046985915079169 : True := trivial
theorem main.tw2542808073141276813 : True := trivial
theorem main.tw2544328076492683441 : True := trivial
theorem main.tw2564707057010578714 : True := trivial
theorem main.tw2583023086579268501 : True := trivial
theorem main.tw2599750674813586877 : True := trivial
theorem main.tw2629084897520917108 : True := trivial
theorem main.tw2647654807098235363 : True := trivial
theorem main.tw2675658811408624930 : True := trivial
theorem main.tw2702614204127132176 : True := trivial
theorem main.tw2704602940660078815 : True := trivial
theorem main.tw2714283472998740243 : True := trivial
theorem main.tw2724176850512262202 : True := trivial
theorem main.tw2729793432009153956 : True := trivial
theorem main.tw2744014450722944760 : True := trivial
theorem main.tw2750411421705246143 : True := trivial
theorem main.tw2759098988195820126 : True := trivial
theorem main.tw2794983428953441941 : True := trivial
theorem main.tw2821470743931037460 : True := trivial
theorem main.tw2852251193174398662 : True := trivial
theorem main.tw2895952525429962455 : True := trivial
theorem main.tw2900998541784483753 : True := trivial
theorem main.tw2906824675625879941 : True := trivial
theorem main.tw2921621734765799159 : True := trivial
theorem main.tw2921958311620399285 : True := trivial
theorem main.tw2923286348875671695 : True := trivial
theorem main.tw2965820268544440810 : True := trivial
theorem main.tw302440914744352476 : True := trivial
theorem main.tw3027586509356016917 : True := trivial
theorem main.tw3045742163950154196 : True := trivial
theorem main.tw3056878081241006185 : True := trivial
theorem main.tw308427716283879934 : True := trivial
theorem main.tw3137596982192898869 : True := trivial
theorem main.tw3160845607165458772 : True := trivial
theorem main.tw31828345220925962 : True := trivial
theorem main.tw3203809635103463919 : True := trivial
theorem main.tw3222223853247747169 : True := trivial
theorem main.tw3234112476842188716 : True := trivial
theorem main.tw3262662943086543052 : True := trivial
theorem main.tw326469082190230912 : True := trivial
theorem main.tw3282683096612927266 : True := trivial
theorem main.tw3288582142898991060 : True := trivial
theorem main.tw3298483428156984901 : True := trivial
theorem main.tw330327031418712150 : True := trivial
theorem main.tw3305931106042330821 : True := trivial
theorem main.tw3314904115985164895 : True := trivial
theorem main.tw3343439749351644125 : True := trivial
theorem main.tw33456957511925785 : True := trivial
theorem main.tw3370190323706015969 : True := trivial
theorem main.tw3370842686811476594 : True := trivial
theorem main.tw3374421720907634814 : True := trivial
theorem main.tw3394367416137920725 : True := trivial
theorem main.tw341453280667917650 : True := trivial
theorem main.tw3422715526262721465 : True := trivial
theorem main.tw3427950696624970785 : True := trivial
theorem main.tw3454311308915712629 : True := trivial
theorem main.tw3459380146013217038 : True := trivial
theorem main.tw3464709057266567092 : True := trivial
theorem main.tw3466206800631347469 : True := trivial
theorem main.tw3532412968194664532 : True := trivial
theorem main.tw3557749057250611081 : True := trivial
theorem main.tw3562595001068472590 : True := trivial
theorem main.tw3570300971023340979 : True := trivial
theorem main.tw358491910552652209 : True := trivial
theorem main.tw3609762217373132089 : True := trivial
theorem main.tw3613476055612923068 : True := trivial
theorem main.tw3626430660855392483 : True := trivial
theorem main.tw3627144658338631552 : True := trivial
theorem main.tw3635900802997115186 : True := trivial
theorem main.tw365850788961202214 : True := trivial
theorem main.tw3674103072598140080 : True := trivial
theorem main.tw3706830351922483016 : True := trivial
theorem main.tw3714520120236048840 : True := trivial
theorem main.tw3724484323120607773 : True := trivial
theorem main.tw372505627349444580 : True := trivial
theorem main.tw3748114642381145586 : True := trivial
theorem main.tw3796207824708393856 : True := trivial
theorem main.tw3848698983108048278 : True := trivial
theorem main.tw3864431920445960829 : True := trivial
theorem main.tw3867218068155391060 : True := trivial
theorem main.tw387501639795913443 : True := trivial
theorem main.tw3905226178654972811 : True := trivial
theorem main.tw3911810758690780188 : True := trivial
theorem main.tw3958507339218470045 : True := trivial
theorem main.tw3960113756560652017 : True := trivial
theorem main.tw3994622017586750766 : True := trivial
theorem main.tw4034048572721927537 : True := trivial
theorem main.tw4036238207498611232 : True := trivial
theorem main.tw4038153913678941442 : True := trivial
theorem main.tw4039676971129161736 : True := trivial
theorem main.tw4044139247061151142 : True := trivial
theorem main.tw4047586217144654443 : True := trivial
theorem main.tw4072190877284726289 : True := trivial
theorem main.tw4088224383575840552 : True := trivial
theorem main.tw4139100593308808776 : True := trivial
theorem main.tw4156125974679941130 : True := trivial
theorem main.tw4193505271845495863 : True := trivial
theorem main.tw4216741518440994707 : True := trivial
theorem main.tw4258463428174104133 : True := trivial
theorem main.tw4297412468100583042 : True := trivial
theorem main.tw4310270188432123100 : True := trivial
theorem main.tw4324958949535026087 : True := trivial
theorem main.tw4330594992337426955 : True := trivial
theorem main.tw4333880214566435006 : True := trivial
theorem main.tw4350604851675314991 : True := trivial
theorem main.tw4359638763739663684 : True := trivial
theorem main.tw4365514962571936147 : True := trivial
theorem main.tw4370134204219402791 : True := trivial
theorem main.tw4370652028205933106 : True := trivial
theorem main.tw4385281892830598654 : True := trivial
theorem main.tw4413345314126155841 : True := trivial
theorem main.tw4420394385881154636 : True := trivial
theorem main.tw4452170602077327944 : True := trivial
theorem main.tw4458048076830672230 : True := trivial
theorem main.tw4491334807805099456 : True := trivial
theorem main.tw4500915450034043215 : True := trivial
theorem main.tw4502447428920916452 : True := trivial
theorem main.tw451873465583785326 : True := trivial
theorem main.tw452746233719593009 : True := trivial
theorem main.tw453184122279072053 : True := trivial
theorem main.tw4540862073306924251 : True := trivial
theorem main.tw4544244032028310869 : True := trivial
theorem main.tw4561105241695004074 : True := trivial
theorem main.tw4573282807186111410 : True := trivial
theorem main.tw4585930131862741453 : True := trivial
theorem main.tw4587069139193485165 : True := trivial
theorem main.tw4605139254293405059 : True := trivial
theorem main.tw4630824681090250767 : True := trivial
theorem main.tw4637267157515435788 : True := trivial
theorem main.tw4644634924443464280 : True := trivial
theorem main.tw4650958065196391918 : True := trivial
theorem main.tw4651154628705390771 : True := trivial
theorem main.tw4681395471914393968 : True := trivial
theorem main.tw470481871638761223 : True := trivial
theorem main.tw471287901995484742 : True := trivial
theorem main.tw4719957520787936630 : True := trivial
theorem main.tw4741876487499883015 : True := trivial
theorem main.tw474381771622712015 : True := trivial
theorem main.tw4749052000479324790 : True := trivial
theorem main.tw4766233809647381661 : True := trivial
theorem main.tw480701840831765632 : True := trivial
theorem main.tw4812270449578504274 : True := trivial
theorem main.tw4817600198373253283 : True := trivial
theorem main.tw4838787530573997063 : True := trivial
theorem main.tw4839478117068044826 : True := trivial
theorem main.tw4886955015573163100 : True := trivial
theorem main.tw4900431672193113347 : True := trivial
theorem main.tw4908570168794737769 : True := trivial
theorem main.tw4924694640843408985 : True := trivial
theorem main.tw4946776927847147119 : True := trivial
theorem main.tw4948327476702027199 : True := trivial
theorem main.tw495442525896006271 : True := trivial
theorem main.tw4966469486753893531 : True := trivial
theorem main.tw49674306023711395 : True := trivial
theorem main.tw4990475226369331113 : True := trivial
theorem main.tw5004366561265856203 : True := trivial
theorem main.tw5102693214775723256 : True := trivial
theorem main.tw5104194264097766351 : True := trivial
theorem main.tw5181119749688162637 : True := trivial
theorem main.tw5203219222101121401 : True := trivial
theorem main.tw5240536507193477226 : True := trivial
theorem main.tw5240779543111244032 : True := trivial
theorem main.tw5243159528196176124 : True := trivial
theorem main.tw5250897040903982647 : True := trivial
theorem main.tw5309058905264134205 : True := trivial
theorem main.tw5343319030673445083 : True := trivial
theorem main.tw5352104535322881683 : True := trivial
theorem main.tw5372645768047454471 : True := trivial
theorem main.tw5378808338967829844 : True := trivial
theorem main.tw5396188567872606041 : True := trivial
theorem main.tw5396361742852586263 : True := trivial
theorem main.tw5400957986263281647 : True := trivial
theorem main.tw5401703158475992631 : True := trivial
theorem main.tw5418533224930618480 : True := trivial
theorem main.tw5435614590818080486 : True := trivial
theorem main.tw5436791530062809996 : True := trivial
theorem main.tw5450094653865882931 : True := trivial
theorem main.tw545269030811804461 : True := trivial
theorem main.tw5456330333991267789 : True := trivial
theorem main.tw5461779845614304980 : True := trivial
theorem main.tw5473700226181020891 : True := trivial
theorem main.tw54841869916938688 : True := trivial
theorem main.tw5502569546826302122 : True := trivial
theorem main.tw5517759331935216279 : True := trivial
theorem main.tw5518243967957118194 : True := trivial
theorem main.tw5532463470591059822 : True := trivial
theorem main.tw5534937755968359062 : True := trivial
theorem main.tw5566141238382327452 : True := trivial
theorem main.tw5567732340971880690 : True := trivial
theorem main.tw5571399437266216444 : True := trivial
theorem main.tw5585478044538960755 : True := trivial
theorem main.tw5613160597433933154 : True := trivial
theorem main.tw5616070069386785504 : True := trivial
theorem main.tw5623159541915647742 : True := trivial
theorem main.tw5638201095994319732 : True := trivial
theorem main.tw5649967823195072380 : True := trivial
theorem main.tw5665406974723832613 : True := trivial
theorem main.tw5665735395497279834 : True := trivial
theorem main.tw5671064798259553346 : True := trivial
theorem main.tw5677329702179833609 : True := trivial
theorem main.tw5768018617931124328 : True := trivial
theorem main.tw5790326737455844299 : True := trivial
theorem main.tw5797031442667253490 : True := trivial
theorem main.tw5831584030425509755 : True := trivial
theorem main.tw5839530249802149432 : True := trivial
theorem main.tw5842977544298395883 : True := trivial
theorem main.tw5870225077901225703 : True := trivial
theorem main.tw5871769198996169552 : True := trivial
theorem main.tw588950844065142505 : True := trivial
theorem main.tw5890889631881817875 : True := trivial
theorem main.tw5921134243170700561 : True := trivial
theorem main.tw5995161000843957690 : True := trivial
theorem main.tw6006917696076858104 : True := trivial
theorem main.tw6053611964639427726 : True := trivial
theorem main.tw6056095068991171605 : True := trivial
theorem main.tw6075091234017535682 : True := trivial
theorem main.tw6087835443962453003 : True := trivial
theorem main.tw6106196091520820027 : True := trivial
theorem main.tw6112859857366181021 : True := trivial
theorem main.tw613567027398061577 : True := trivial
theorem main.tw6162249291895867263 : True := trivial
theorem main.tw6164561884633627433 : True := trivial
theorem main.tw6214117541549086881 : True := trivial
theorem main.tw6222487380544312443 : True := trivial
theorem main.tw6237627108579964202 : True := trivial
theorem main.tw6254453501864316152 : True := trivial
theorem main.tw6264281720289328834 : True := trivial
theorem main.tw6283666216762299864 : True := trivial
theorem main.tw6334894449686545209 : True := trivial
theorem main.tw6341409668436394099 : True := trivial
theorem main.tw6361450105264607166 : True := trivial
theorem main.tw6384028539975533837 : True := trivial
theorem main.tw6389877041954997217 : True := trivial
theorem main.tw6404898279339705064 : True := trivial
theorem main.tw6418098437765475518 : True := trivial
theorem main.tw6437645805973890128 : True := trivial
theorem main.tw6483966928607899096 : True := trivial
theorem main.tw6508729118710982530 : True := trivial
theorem main.tw6511744376749373798 : True := trivial
theorem main.tw6516198228755648517 : True := trivial
theorem main.tw6519269512792494810 : True := trivial
theorem main.tw6535589618603614281 : True := trivial
theorem main.tw6541472054586571296 : True := trivial
theorem main.tw6542085627976250192 : True := trivial
theorem main.tw6545385358150927430 : True := trivial
theorem main.tw6557543464795787104 : True := trivial
theorem main.tw6559806142732475569 : True := trivial
theorem main.tw656089360051881306 : True := trivial
theorem main.tw6565609875121592624 : True := trivial
theorem main.tw6584820252761975732 : True := trivial
theorem main.tw6590341273101898363 : True := trivial
theorem main.tw6596593509180878263 : True := trivial
theorem main.tw6605025701479795990 : True := trivial
theorem main.tw66260789543402106 : True := trivial
theorem main.tw6632538468102435922 : True := trivial
theorem main.tw6635558491612396129 : True := trivial
theorem main.tw6639522245352263942 : True := trivial
theorem main.tw6640438233256266117 : True := trivial
theorem main.tw6655696309031964122 : True := trivial
theorem main.tw6657087868060814 : True := trivial
theorem main.tw6660377722381337597 : True := trivial
theorem main.tw6663778134991626487 : True := trivial
theorem main.tw6674386428176565332 : True := trivial
theorem main.tw6674893403203295414 : True := trivial
theorem main.tw6690441779611380620 : True := trivial
theorem main.tw6696893160125735727 : True := trivial
theorem main.tw6697339332421208802 : True := trivial
theorem main.tw6702130215012162313 : True := trivial
theorem main.tw6741292078354696603 : True := trivial
theorem main.tw6768520987592691376 : True := trivial
theorem main.tw6785657489111691699 : True := trivial
theorem main.tw6788530277367551627 : True := trivial
theorem main.tw6788695710022549768 : True := trivial
theorem main.tw6801380410627298636 : True := trivial
theorem main.tw6855474311058116810 : True := trivial
theorem main.tw6868236387235032019 : True := trivial
theorem main.tw6877560268529008848 : True := trivial
theorem main.tw6880717277089553138 : True := trivial
theorem main.tw6886502059237256666 : True := trivial
theorem main.tw6898400011967081535 : True := trivial
theorem main.tw6910295442248876197 : True := trivial
theorem main.tw6912675738884088206 : True := trivial
theorem main.tw6914184659022975773 : True := trivial
theorem main.tw6935676897619631941 : True := trivial
theorem main.tw6981580820607432535 : True := trivial
theorem main.tw6981815665589151136 : True := trivial
theorem main.tw7010351842590255796 : True := trivial
theorem main.tw7073996269223845280 : True := trivial
theorem main.tw7074144079889050967 : True := trivial
theorem main.tw7083192437325867461 : True := trivial
theorem main.tw7093617532817203218 : True := trivial
theorem main.tw7108953243070827183 : True := trivial
theorem main.tw7113585516715319716 : True := trivial
theorem main.tw7142256002058171272 : True := trivial
theorem main.tw7153082081811710619 : True := trivial
theorem main.tw716429049611869786 : True := trivial
theorem main.tw7165207203227711834 : True := trivial
theorem main.tw7173573769161785238 : True := trivial
theorem main.tw7173623326730630234 : True := trivial
theorem main.tw7186131708394509389 : True := trivial
theorem main.tw7214478077546791972 : True := trivial
theorem main.tw7221758910455160077 : True := trivial
theorem main.tw7235775444256392728 : True := trivial
theorem main.tw7237411587787531456 : True := trivial
theorem main.tw7238065321881607702 : True := trivial
theorem main.tw7268301785047649679 : True := trivial
theorem main.tw7273056430967151046 : True := trivial
theorem main.tw7293298908176781663 : True := trivial
theorem main.tw7297187181890747607 : True := trivial
theorem main.tw7298748307773712898 : True := trivial
theorem main.tw7299474751278700455 : True := trivial
theorem main.tw7332330508316399935 : True := trivial
theorem main.tw7332552209862256014 : True := trivial
theorem main.tw73751810991705359 : True := trivial
theorem main.tw7380652910202371479 : True := trivial
theorem main.tw7411558596216406370 : True := trivial
theorem main.tw7439787175107056256 : True := trivial
theorem main.tw7472237861779093752 : True := trivial
theorem main.tw7472368607099979303 : True := trivial
theorem main.tw750237026923860459 : True := trivial
theorem main.tw7554534293552944094 : True := trivial
theorem main.tw7563215957194029611 : True := trivial
theorem main.tw7590696779544312186 : True := trivial
theorem main.tw7591743695986301205 : True := trivial
theorem main.tw7623509227018997848 : True := trivial
theorem main.tw7623511443260959870 : True := trivial
theorem main.tw7624293977416268664 : True := trivial
theorem main.tw7639352225515584698 : True := trivial
theorem main.tw7647378279178456250 : True := trivial
theorem main.tw765107192605250810 : True := trivial
theorem main.tw7668756792840097458 : True := trivial
theorem main.tw7675930258259734528 : True := trivial
theorem main.tw7691172733374981047 : True := trivial
theorem main.tw7698036289167662538 : True := trivial
theorem main.tw7751025194823839400 : True := trivial
theorem main.tw7761410557224570781 : True := trivial
theorem main.tw7846812961960373227 : True := trivial
theorem main.tw7875838824674609581 : True := trivial
theorem main.tw7883848961242879871 : True := trivial
theorem main.tw7884273913378172499 : True := trivial
theorem main.tw7884331609784382070 : True := trivial
theorem main.tw7904437144335635152 : True := trivial
theorem main.tw7929128423345735474 : True := trivial
theorem main.tw7943094425149488825 : True := trivial
theorem main.tw796168687070700412 : True := trivial
theorem main.tw7972779244933481256 : True := trivial
theorem main.tw7974275031393228247 : True := trivial
theorem main.tw799486724532869496 : True := trivial
theorem main.tw8006537069960932158 : True := trivial
theorem main.tw8046773169563483271 : True := trivial
theorem main.tw8079908401900000222 : True := trivial
theorem main.tw8090509862211737132 : True := trivial
theorem main.tw8102450764968551371 : True := trivial
theorem main.tw8118072479153026202 : True := trivial
theorem main.tw8127475511531132179 : True := trivial
theorem main.tw8153860185051352139 : True := trivial
theorem main.tw8197432139958201806 : True := trivial
theorem main.tw8207831470162742035 : True := trivial
theorem main.tw8231103150381890471 : True := trivial
theorem main.tw8249873531624179374 : True := trivial
theorem main.tw8260724100714396741 : True := trivial
theorem main.tw8265370782698574782 : True := trivial
theorem main.tw8281396171620568247 : True := trivial
theorem main.tw8283060676807011144 : True := trivial
theorem main.tw833945537157984683 : True := trivial
theorem main.tw8344989883159853150 : True := trivial
theorem main.tw834873547066669988 : True := trivial
theorem main.tw8402242094647718915 : True := trivial
theorem main.tw8427638858588021438 : True := trivial
theorem main.tw8436210846270712021 : True := trivial
theorem main.tw8466321980469482115 : True := trivial
theorem main.tw8467378866343419333 : True := trivial
theorem main.tw8475525182357872103 : True := trivial
theorem main.tw8478376212529829071 : True := trivial
theorem main.tw8484041278411425421 : True := trivial
theorem main.tw8496349624203035976 : True := trivial
theorem main.tw8528285597010949478 : True := trivial
theorem main.tw8546124895413445307 : True := trivial
theorem main.tw854977524454699277 : True := trivial
theorem main.tw8557395850702784662 : True := trivial
theorem main.tw8567518541235275850 : True := trivial
theorem main.tw8624498521744291746 : True := trivial
theorem main.tw8627561154394265716 : True := trivial
theorem main.tw8634654232796393261 : True := trivial
theorem main.tw8651587035891514320 : True := trivial
theorem main.tw8652556701797213591 : True := trivial
theorem main.tw8663697691656813868 : True := trivial
theorem main.tw8681388529863501421 : True := trivial
theorem main.tw8707812797481193996 : True := trivial
theorem main.tw8708525158762292434 : True := trivial
theorem main.tw8729708805864041840 : True := trivial
theorem main.tw8828626079734051433 : True := trivial
theorem main.tw8883465813499100731 : True := trivial
theorem main.tw8903568455446660058 : True := trivial
theorem main.tw8905464785575363620 : True := trivial
theorem main.tw8905992674379837232 : True := trivial
theorem main.tw892681787802806017 : True := trivial
theorem main.tw8928990268580360915 : True := trivial
theorem main.tw8930851030842425676 : True := trivial
theorem main.tw8989776476301544223 : True := trivial
theorem main.tw9069182735580402390 : True := trivial
theorem main.tw9071729483887776986 : True := trivial
theorem main.tw9121559901702372667 : True := trivial
theorem main.tw9155575984036265788 : True := trivial
theorem main.tw9156686268802561153 : True := trivial
theorem main.tw917386388269078853 : True := trivial
theorem main.tw9184045479044318644 : True := trivial
theorem main.tw918671981122897330 : True := trivial
theorem main.tw9189880136782149556 : True := trivial
theorem main.tw9211707205177423737 : True := trivial
theorem main.tw9253799994812790149 : True := trivial
theorem main.tw9265829497004654079 : True := trivial
theorem main.tw9268297945177815525 : True := trivial
theorem main.tw9274054859765456524 : True := trivial
theorem main.tw9287587430799945685 : True := trivial
theorem main.tw9293455121233016472 : True := trivial
theorem main.tw9302470337196694018 : True := trivial
theorem main.tw9303439499767911484 : True := trivial
theorem main.tw9321267617633783869 : True := trivial
theorem main.tw9361300454564663673 : True := trivial
theorem main.tw9368617206455126095 : True := trivial
theorem main.tw9369988214560726041 : True := trivial
theorem main.tw9381277316556691805 : True := trivial
theorem main.tw9381886862466946253 : True := trivial
theorem main.tw9392487213469676918 : True := trivial
theorem main.tw9394770849952503311 : True := trivial
theorem main.tw9417822746687237092 : True := trivial
theorem main.tw9432497158254318119 : True := trivial
theorem main.tw9458421452666605423 : True := trivial
theorem main.tw9470667924834194258 : True := trivial
theorem main.tw9483120023164983764 : True := trivial
theorem main.tw9483696857397876608 : True := trivial
theorem main.tw9515011664573035354 : True := trivial
theorem main.tw9518380336195846261 : True := trivial
theorem main.tw9557352009045844224 : True := trivial
theorem main.tw9558744834307401277 : True := trivial
theorem main.tw9561784451562097942 : True := trivial
theorem main.tw9563168847844234846 : True := trivial
theorem main.tw9573086628692744296 : True := trivial
theorem main.tw9576146899423044063 : True := trivial
theorem main.tw961187720498965250 : True := trivial
theorem main.tw962193829226610041 : True := trivial
theorem main.tw9656510801202774680 : True := trivial
theorem main.tw9658885295015712986 : True := trivial
theorem main.tw9670510015898674028 : True := trivial
theorem main.tw9693634834776466397 : True := trivial
theorem main.tw9703084557020090508 : True := trivial
theorem main.tw9706551924872666739 : True := trivial
theorem main.tw9716624006974247489 : True := trivial
theorem main.tw9730157408454304684 : True := trivial
theorem main.tw9747897558166968733 : True := trivial
theorem main.tw979501456738626862 : True := trivial
theorem main.tw9805168224760091760 : True := trivial
theorem main.tw9808303207383738048 : True := trivial
theorem main.tw983542388872702638 : True := trivial
theorem main.tw9840939614602229412 : True := trivial
theorem main.tw9848185148710128376 : True := trivial
theorem main.tw9939699701984659387 : True := trivial
theorem main.tw9957550378297406723 : True := trivial
theorem main.tw9964214247947446159 : True := trivial
theorem main.tw9976160756891316704 : True := trivial
theorem main.tw9994787619460420439 : True := trivial
set_option Elab.async true in
set_option maxHeartbeats 16000000 in
theorem main : PySem.Challenge.rw_yi0055_01.Holds := by
  w_on
  o_law
  o_head (kmHook hd.heap_1 [2, 3, 15, 17, 18, 20, 21, 29, 31, 32, 34, 35, 36, 38, 39, 41, 42, 43, 45, 46, 48, 49, 50, 52, 53, 55, 56, 57, 58, 59, 60, 61, 71, 73, 74, 76, 77, 78, 80, 81,
    83, 84, 85, 87, 88, 90, 91, 92, 95, 96, 97, 99, 100, 102, 103, 104, 106, 107, 109, 110, 111, 113, 114, 116, 117, 118, 121, 122, 123, 126, 127, 128, 131, 132, 133, 135, 136, 138, 139, 140,
    142, 143, 145, 146, 147, 149, 150, 152, 153, 154, 157, 158, 159, 161, 162, 164, 165, 166, 168, 169, 171, 172, 173, 175, 176, 178, 179, 180, 183, 184, 185, 187, 188, 190, 191, 192, 194, 195, 197, 198,
    199, 201, 202, 204, 205, 206, 208, 209, 211, 212, 213, 215, 216, 218, 219, 220, 221, 222, 223, 224, 227, 234, 237, 238, 239, 241, 242, 244, 245, 246, 247, 248, 249, 252, 253, 254, 255, 257, 258, 260,
    261, 262, 263, 265, 266, 268, 269, 270, 271, 273, 274, 276, 277, 278, 279, 280, 283, 290, 292, 293, 295, 296, 297, 299, 300, 302, 303, 304, 306, 307, 309, 310, 311, 313, 314, 316, 317, 318, 320, 321,
    323, 324, 325, 327, 328, 330, 331, 332, 334, 335, 337, 338, 339, 341, 342, 344, 345, 346, 347, 348, 351, 358, 360, 361, 363, 364, 365, 367, 368, 370, 371, 372, 374, 375, 377, 378, 379, 381, 382, 384,
    385, 386, 387, 388, 389, 391, 392, 394, 395, 396, 398, 399, 401, 402, 403, 405, 406, 408, 409, 410, 412, 413, 415, 416, 417, 420, 421, 422, 423, 424, 434, 435, 437, 438, 440, 441, 442, 444, 445, 447,
    448, 449, 451, 452, 454, 455, 456, 458, 459, 461, 462, 463, 465, 466, 468, 469, 470, 471, 473, 474, 476, 477, 478, 480, 481, 483, 484, 485, 488, 489, 490, 493, 494, 495, 498, 499, 500, 502, 503, 505,
    506, 507, 510, 511, 512, 514, 515, 517, 518, 519, 522, 523, 524, 526, 527, 529, 530, 531, 532, 533, 534, 535, 545, 547, 548, 550, 551, 552, 553, 555, 556, 558, 559, 560, 561, 563, 564, 566, 567, 568,
    570, 571, 573, 574, 575, 576, 577, 578, 579, 582, 585, 590, 591, 592, 594, 595, 597, 598, 599, 601, 602, 604, 605, 606, 608, 609, 611, 612, 613, 615, 616, 618, 619, 620, 622, 623, 625, 626, 627, 629,
    630, 632, 633, 634, 635, 636, 639, 646, 648, 649, 651, 652, 653, 654, 656, 657, 659, 660, 661, 662, 664, 665, 667, 668, 669, 670, 671, 681, 683, 684, 686, 687, 688, 690, 691, 693, 694, 695, 697, 698,
    700, 701, 702, 704, 705, 707, 708, 709, 711, 712, 714, 715, 716, 718, 719, 721, 722, 723, 725, 726, 728, 729, 730, 732, 733, 735, 736, 737, 738, 741, 742, 743, 745, 746, 748, 749, 750, 752, 753, 755,
    756, 757, 759, 760, 762, 763, 764, 766, 767, 769, 770, 771, 773, 774, 776, 777, 778, 780, 781, 783, 784, 785, 787, 788, 790, 791, 792, 794, 795, 797, 798, 799, 801, 802, 804, 805, 806, 808, 809, 811,
    812, 813, 814, 815, 816, 817, 820, 822, 823, 825, 826, 827, 829, 830, 832, 833, 834, 836, 837, 839, 840, 841, 843, 844, 846, 847, 848, 850, 851, 853, 854] (fun _ => by kernel_rfl) [835, 562])
  (case hw => w_witness2)
  (case hc => exact headEq (q' := view) (by kernel_rfl) (law_walk _ _ (by kernel_rfl)))
end Mine
theorem PySem.Challenge.cw_yi0055_01_holds : PySem.Challenge.rw_yi0055_01.Holds := by
  exact Mine.main
