import PyProof.Rows.All
import PyProof.Raises
import PyProof.RulesTry
import PyProof.Seq
import PyProof.FactsAll.list_3
import PyProof.FactsAll.list_4
import PyProof.ListIndex
import PyProof.SliceList
import PyProof.Cells
import PyProof.CompFree
import PyProof.PureInt
import PyProof.DefCall
import PyProof.FactsDict
import PyProof.MeetsSeq
import PyProof.DictKinds
import PyProof.DictCalls
import PyProof.DictTruth
import PyProof.DictStraight
import PyProof.DictIter
import PyProof.DictFindH
import PyProof.TupleKey
import PyProof.DictRoadsH
import PyProof.EnumFor
import PyProof.EnumStmt
import PyProof.EnumMake
import PyProof.IsRules
import PyProof.EqKinds
import PyProof.NeData
import PyProof.StationsW
import PyProof.WalksMore
import PyProof.RangeFor
import PyProof.GenObj
import PyProof.GenComp
import PyProof.InstStore
import PyProof.LetGo
import PyProof.ListNew
import PyProof.ListTruth
import PyProof.WalkInts
import PyProof.Rows.TupIter
import PyProof.Rows.TupAssign
import PyProof.RulesDel
import PyProof.Rows.Calls2
import PyProof.Rows.AttrNodeAny
import PyProof.Rows.RuleB_floordiv
import PyProof.Rows.RuleB_mod
import PyProof.Rows.SeqIn
import PyProof.Rows.StrKeys3
import PyProof.Rows.StrTemp
import PyProof.Rows.StrRules
import PyProof.RulesDelMore
import PyProof.RulesAssignMore
import PyProof.Rows.SeqMore3
import PyProof.Rows.EqBoolInt
import PyProof.TupleOfSeq
import PyProof.Rows.SortWalk
import PyProof.Rows.Range3
import OpenK.KDescr
import OpenK.KCall
import OpenK.KWalk
import OpenK.KMore
import OpenK.KOps
import OpenK.KMeth
import KE.KCallOwn
import KE.KWithOwn
import Wide.FinOn
import OpenK.AllK
import Wide.All
import Lean
import PySem.Challenge.RW_bg0032_02
set_option Elab.async false
set_option maxRecDepth 100000
namespace Mine
open PySem PySem.W PyProof.Rows PySem.Calls Builtin
-- HD1
section
set_option maxRecDepth 100000

/-! ## the head: the top's run, by one evaluation over a tree of objects -/
theorem through_of {t : Thread} (h : endAt 0 t = none) : through t = false := by
  obtain ⟨cur, code, pos, stack⟩ := t
  unfold endAt at h
  unfold through
  cases stack with
  | cons f r => rfl
  | nil =>
    cases cur with
    | pure x => cases x <;> first | rfl | (simp at h)
    | _ => rfl

theorem seg_run {tb : String → Option Builtin} {p : Program} {w : World} {n₀ : Nat} {ann : Option Value} : ∀ {n : Nat} {s s' : Shared} {t t' : Thread}, segGo tb p w n₀ ann 0 n s t = some (s', t') → through t' = true → topRun tb p w n₀ ann (n + 1) s t = some s'
  | 0, s, s', t, t', h, k => by
    obtain ⟨rfl, rfl⟩ : s = s' ∧ t = t' := by simpa [segGo] using h
    unfold topRun
    rw [k]
  | n + 1, s, s', t, t', h, k => by
    unfold segGo at h
    unfold topRun
    cases he : endAt 0 t with
    | some f => rw [he] at h; cases h
    | none =>
      rw [he] at h
      rw [through_of he]
      cases hk : stepOk n₀ ann t with
      | false => rw [hk] at h; cases h
      | true =>
        rw [hk] at h
        cases hs : step (denote tb) p w s t with
        | halt o s₂ => rw [hs] at h; cases h
        | go s₂ t₂ => rw [hs] at h; exact seg_run h k

def insAll : List Obj → Nat → BT → Option BT
  | [], _, T => some T
  | o :: r, n, T => match ((T.ins n o).get n).isSome with
    | true => insAll r (n + 1) (T.ins n o)
    | false => none
theorem insAll_abs {life : Life} : ∀ {l : List Obj} {n : Nat} {T T' : BT}, insAll l n T = some T' → absHeap T' (n + l.length) life = ⟨(absHeap T n life).objs ++ l.toArray, life⟩
  | [], n, T, T', h => by
    obtain rfl := Option.some.inj h
    simp [absHeap]
  | o :: r, n, T, T', h => by
    unfold insAll at h
    cases e : ((T.ins n o).get n).isSome with
    | false => rw [e] at h; cases h
    | true =>
      rw [e] at h
      have ih := insAll_abs (life := life) h
      rw [List.length_cons, show n + (r.length + 1) = n + 1 + r.length by omega, ih, absHeap_ins e]
      show (⟨((absHeap T n life).objs.push o) ++ r.toArray, life⟩ : Heap) = _
      congr 1
      simp
theorem toT_abs {s : Shared} {T : BT} (h : insAll s.heap.objs.toList 0 .nil = some T) : (⟨T, s.heap.objs.size, s.heap.life, s.gens, s.drawn, s.toks, s.os⟩ : SharedT).abs = s := by
  have e := insAll_abs (life := s.heap.life) h
  rw [Nat.zero_add, Array.length_toList] at e
  unfold SharedT.abs
  dsimp only
  rw [e]
  obtain ⟨⟨⟨l⟩, life⟩, gens, drawn, toks, os⟩ := s
  simp [absHeap, BT.list]

/-- the pipeline: the opening, the fence, the top, the looks -/
def pipe {σ : Type} (IMP : (String → Option Builtin) → Program → World → Nat → SharedT → Thread → Option (SharedT × Thread))
    (SEG : (String → Option Builtin) → Program → World → Nat → Option Value → Nat → Nat → SharedT → Thread → Option (SharedT × Thread))
    (FEN : Program → Shared → Option Shared) (ST : Program → Shared × Thread) (TB : String → Option Builtin) (OS : List Str → Shared → σ) (p : Program) (as : List Addr) (m1 m2 : Nat) (w : World) : Option (Bool × σ × List (Option Obj)) :=
  match IMP TB (opening p) w m1 ⟨.nil, 0, {}, #[], {}, 1, (ST (opening p)).1.os⟩ (ST (opening p)).2 with
  | none => none
  | some (s1, t1) => match t1.atExitBegin with
    | some [] => match FEN p s1.abs with
      | none => none
      | some s0 => match insAll s0.heap.objs.toList 0 .nil with
        | none => none
        | some T0 => match s0.heap.isNs mainGlobals && s0.gens.size == 0 with
          | false => none
          | true => match SEG TB p w s0.heap.objs.size (s0.heap.nsMap mainGlobals "__annotations__") 0 m2 ⟨T0, s0.heap.objs.size, s0.heap.life, s0.gens, s0.drawn, s0.toks, s0.os⟩ (topStub p) with
            | none => none
            | some (s2, t2) => match through t2 with
              | false => none
              | true => some ((staticsOk (importedModules p.main.body) s0.heap s2.abs.heap && namesBound p s2.abs.heap && gensDone s2.abs && laidKept s0.heap s2.abs.heap) && as.all fun a => Nat.blt a s2.n && (s2.tree.get a).isSome, OS (importedModules p.main.body) s2.abs, as.map fun a => match s2.tree.get a with
                | some o => alive o
                | none => none)
    | _ => none

theorem start_abs (p : Program) : (⟨.nil, 0, {}, #[], {}, 1, (start p).1.os⟩ : SharedT).abs = (start p).1 := rfl

theorem left_of_pipe {p q : Program} {loose : List Str} {Xt : Shared → Bool} {as : List Addr} {Ya : World → List (Option Obj)} {m1 m2 : Nat} (k : Nat)
    (h : ∀ w, pipe impGoT segGoT fenceModules? start treeTable (fun mods s => openSeen q loose mods Xt true s) p as m1 m2 w = some (true, openGood q loose, Ya w)) :
    LeftO p q loose Xt (fun s => as.map s.heap.get?) Ya (m1 + 1 + (m2 + 1) + k) := fun w => by
  have h := h w
  unfold pipe at h
  cases e1 : impGoT treeTable (opening p) w m1 ⟨.nil, 0, {}, #[], {}, 1, (start (opening p)).1.os⟩ (start (opening p)).2 with
  | none => rw [e1] at h; cases h
  | some st =>
    obtain ⟨s1, t1⟩ := st
    rw [e1] at h
    dsimp only at h
    have g1 := impGo_of e1
    rw [start_abs] at g1
    have g2 : t1.atExitBegin = some [] := by
      cases e2 : t1.atExitBegin with
      | none => rw [e2] at h; cases h
      | some l =>
        rw [e2] at h
        cases l with
        | nil => rfl
        | cons a r => cases h
    rw [g2] at h
    dsimp only at h
    have i1 : importEnds treeTable (opening p) w 1 s1.abs t1 = some s1.abs := by
      unfold importEnds
      rw [g2]
    have i2 := importEnds_mono (m2 + 1 + k) _ _ _ _ (imp_go g1 i1)
    rw [← Nat.add_assoc] at i2
    cases e3 : fenceModules? p s1.abs with
    | none => rw [e3] at h; cases h
    | some s0 =>
      rw [e3] at h
      dsimp only at h
      cases e4 : insAll s0.heap.objs.toList 0 .nil with
      | none => rw [e4] at h; cases h
      | some T0 =>
        rw [e4] at h
        dsimp only at h
        cases e5 : (s0.heap.isNs mainGlobals && s0.gens.size == 0) with
        | false => rw [e5] at h; cases h
        | true =>
          rw [e5] at h
          dsimp only at h
          cases e6 : segGoT treeTable p w s0.heap.objs.size (s0.heap.nsMap mainGlobals "__annotations__") 0 m2 ⟨T0, s0.heap.objs.size, s0.heap.life, s0.gens, s0.drawn, s0.toks, s0.os⟩ (topStub p) with
          | none => rw [e6] at h; cases h
          | some st2 =>
            obtain ⟨s2, t2⟩ := st2
            rw [e6] at h
            dsimp only at h
            cases e7 : through t2 with
            | false => rw [e7] at h; cases h
            | true =>
              rw [e7] at h
              dsimp only at h
              have h := Option.some.inj h
              obtain ⟨h1, h2⟩ := Prod.mk.inj h
              obtain ⟨h2, h3⟩ := Prod.mk.inj h2
              obtain ⟨h1, h4⟩ := Bool.and_eq_true_iff.mp h1
              have r := seg_run (segGo_of e6) e7
              rw [toT_abs e4] at r
              have r' := topRun_mono (m1 + 1 + k) _ _ _ _ r
              rw [show m2 + 1 + (m1 + 1 + k) = m1 + 1 + (m2 + 1) + k by omega] at r'
              have t : topFrom treeTable p w (m1 + 1 + (m2 + 1) + k) s0 = some s2.abs := by
                unfold topFrom
                rw [e5]
                dsimp only
                rw [r']
                show (match staticsOk (importedModules p.main.body) s0.heap s2.abs.heap && namesBound p s2.abs.heap && gensDone s2.abs && laidKept s0.heap s2.abs.heap with | true => _ | false => _) = _
                rw [h1]
              unfold openEnds fencedOpening
              rw [i2]
              show ((fenceModules? p s1.abs).bind _).map _ = _
              rw [e3]
              show (topFrom treeTable p w _ s0).map _ = _
              rw [t]
              refine congrArg some (Prod.ext h2 ?_)
              show as.map s2.abs.heap.get? = Ya w
              rw [← h3]
              refine List.map_congr_left fun a ha => ?_
              obtain ⟨lt, sm⟩ := Bool.and_eq_true_iff.mp (List.all_eq_true.mp h4 a ha)
              have lt : a < s2.n := Nat.le_of_ble_eq_true lt
              cases g : s2.tree.get a with
              | some o => exact (abs_get lt g).symm ▸ rfl
              | none => rw [g] at sm; cases sm

theorem left_of_fast {IMP : (String → Option Builtin) → Program → World → Nat → SharedT → Thread → Option (SharedT × Thread)}
    {SEG : (String → Option Builtin) → Program → World → Nat → Option Value → Nat → Nat → SharedT → Thread → Option (SharedT × Thread)}
    {FEN : Program → Shared → Option Shared} {ST : Program → Shared × Thread} {TB : String → Option Builtin}
    {p q : Program} {loose : List Str} {Xt : Shared → Bool} {as : List Addr} {Ya : World → List (Option Obj)} {m1 m2 : Nat}
    (OSF : ∀ (q : Program) (loose mods : List Str) (Xt : Shared → Bool) (g0 : Bool) (s : Shared), _) (e1 : @impGoT = IMP) (e2 : @segGoT = SEG) (e3 : @fenceModules? = FEN) (e4 : @start = ST) (e5 : treeTable = TB) (e6 : @openSeen = OSF)
    (h : ∀ w, pipe IMP SEG FEN ST TB (fun mods s => OSF q loose mods Xt true s) p as m1 m2 w = some (true, openGood q loose, Ya w)) :
    LeftO p q loose Xt (fun s => as.map s.heap.get?) Ya (m1 + 1 + (m2 + 1)) := by
  subst e1 e2 e3 e4 e5 e6
  exact left_of_pipe 0 h

end
-- KF1
section
set_option maxRecDepth 100000
set_option maxHeartbeats 0
abbrev pw : Program := PySem.Challenge.pw_bg0032_02
abbrev S (s : String) : Str := Str.ofString s
def en (P : Params) (k : String) (t : Tok) (v : Value) : DictEntry := ⟨PyData.keyHash P (S k), .str (S k) t, v⟩
def inside : Stmt → List Stmt
  | .ClassDef _ _ _ b _ _ _ _ _ _ _ => b
  | .FunctionDef _ _ b _ _ _ _ _ _ _ => b
  | _ => []
def stIn (l : List Stmt) (i : Nat) : Stmt := l.getD i (.Pass default)
def stP : List Nat → Stmt
  | [i] => stIn pw.main.body i
  | [i, j] => stIn (inside (stIn pw.main.body i)) j
  | [i, j, k] => stIn (inside (stIn (inside (stIn pw.main.body i)) j)) k
  | _ => .Pass default
def paramsOf : Stmt → Arguments
  | .FunctionDef _ a _ _ _ _ _ _ _ _ => a
  | _ => default
def scopeOf : Stmt → Scope
  | .FunctionDef _ _ _ _ _ _ sc _ _ _ => sc
  | _ => default
def fnD (name qual : String) (path : List Nat) (dfl code mod : Value) : FuncData :=
  { name := S name, qualname := S qual, params := paramsOf (stP path), body := .stmts (inside (stP path)), scope := scopeOf (stP path), globals := 3, closure := [], defaults := dfl, kwdefaults := .none, doc := .none, pyModule := mod, annotations := none, code := code, closureTuple := .none, builtins := 0 }
def kf_2 (P : Params) : Obj :=
  let _ := P
  ⟨.none, none, .dict #[en P "\x69mport.loaded._collections" 185 (.bool true), en P "class._frozen_importlib.BuiltinImporter" 187 (.ref 15), en P "watched.\x69mport" 208 (.ref 19), en P "class._frozen_importlib.ModuleSpec" 218 (.ref 23), en P "sys.modules.booked-epoch" 247 (.int 4 0), en P "sys.modules.landed._collections" 248 (.bool true), en P "\x69mport.later-laid._collections" 263 (.bool true), en P "watched.library" 265 (.ref 28), en P "watched.library-objects" 0 (.str ⟨#[13, 31]⟩ 0), en P "watched.library-deep._collections" 266 (.str ⟨#[4, 0, 0, 12, 4, 0, 0, 12, 4, 0, 0, 3, 4, 0, 0, 12, 8, 4, 100, 105, 99, 116, 2]⟩ 0), en P "\x69mport.loaded._heapq" 279 (.bool true), en P "class._frozen_importlib_external._LoaderBasics" 284 (.ref 34), en P "class._frozen_importlib_external.FileLoader" 300 (.ref 39), en P "class._frozen_importlib_external.ExtensionFileLoader" 321 (.ref 44), en P "\x69mport.later-laid._heapq" 369 (.bool true)] 15, #[]⟩
def kf_3 (P : Params) : Obj :=
  let _ := P
  ⟨(.type "dict"), none, .dict #[en P "__name__" 165 (.str (S "law_bg0032_02") 2282), en P "__doc__" 166 .none, en P "__package__" 167 .none, en P "__loader__" 168 (.builtin "__main__.__loader__#opaque"), en P "__spec__" 169 .none, en P "__annotations__" 170 (.ref 6), en P "__builtins__" 171 (.ref 4), en P "__file__" 173 (.str (S "/claim/cut.py") 172), en P "__cached__" 174 .none, en P "deque" 272 (.type "collections.deque"), en P "heapify" 376 (.builtin "_heapq.heapify"), en P "heappop" 379 (.builtin "_heapq.heappop"), en P "heappush" 382 (.builtin "_heapq.heappush"), en P "_wall" 395 (.ref 60), en P "_pe_dict" 403 (.ref 67), en P "_pe_name" 410 (.ref 74), en P "ABCMeta" 436 (.ref 91), en P "_ABCLike" 479 (.ref 124), en P "_abc_plain_meta" 486 (.ref 133), en P "_abc_has_iter" 493 (.ref 140), en P "_abc_has_len" 500 (.ref 147), en P "_abc_has_contains" 507 (.ref 154), en P "_abc_is_mappingproxy" 514 (.ref 161), en P "_abc_is_builtin_collection" 521 (.ref 168), en P "Iterable" 562 (.ref 201), en P "Sized" 599 (.ref 231), en P "Container" 646 (.ref 267), en P "Collection" 676 (.ref 290), en P "Set" 833 (.ref 406), en P "Mapping" 921 (.ref 478), en P "MappingView" 989 (.ref 528), en P "KeysView" 1049 (.ref 575), en P "ItemsView" 1113 (.ref 620), en P "ValuesView" 1156 (.ref 655), en P "MutableMapping" 1245 (.ref 730), en P "Cache" 1432 (.ref 865), en P "FIFOCache" 1495 (.ref 917), en P "LRUCache" 1577 (.ref 982), en P "_TimedCache" 1754 (.ref 1128), en P "monotonic" 1764 (.ref 1137), en P "TTLCache" 1963 (.ref 1270), en P "_gt_from_lt" 1974 (.ref 1279), en P "_le_from_lt" 1983 (.ref 1286), en P "_ge_from_lt" 1992 (.ref 1293), en P "_ge_from_le" 2001 (.ref 1300), en P "_lt_from_le" 2010 (.ref 1307), en P "_gt_from_le" 2019 (.ref 1314), en P "_lt_from_gt" 2028 (.ref 1321), en P "_ge_from_gt" 2037 (.ref 1328), en P "_le_from_gt" 2046 (.ref 1335), en P "_le_from_ge" 2055 (.ref 1342), en P "_gt_from_ge" 2064 (.ref 1349), en P "_lt_from_ge" 2073 (.ref 1356), en P "total_ordering" 2084 (.ref 1363), en P "TLRUCache" 2281 (.ref 1488), en P "_law_clock" 2289 (.ref 1497), en P "_law_end" 2298 (.ref 1504), en P "_law_made" 2306 (.ref 1511), en P "law" 2312 (.ref 1516)] 59, #[]⟩
def kf_90 (P : Params) : Obj :=
  let _ := P
  ⟨(.type "dict"), none, .dict #[en P "__module__" 420 (.str (S "abc") 411), en P "__firstlineno__" 424 (.int 16 423), en P "register" 432 (.ref 88), en P "__static_attributes__" 433 (.ref 89), en P "__doc__" 434 .none] 2, #[]⟩
def kf_91 (P : Params) : Obj :=
  let _ := P
  ⟨(.type "type"), none, .cls { name := S "ABCMeta", bases := [(.type "type")], mro := [(.ref 91), (.type "type"), (.type "object")], ns := 90, qualname := S "ABCMeta", hasDict := true, slotNames := [], subclasses := [(.ref 124)], abstract := false, collection := none, hasDel := false }, #[(some (.ref 75)), none, (some (.str (S "ABCMeta") 413)), (some (.str (S "ABCMeta") 421)), (some (.builtin "type.__new__")), (some (.bool true))]⟩
def kf_123 (P : Params) : Obj :=
  let _ := P
  ⟨(.type "dict"), none, .dict #[en P "__module__" 446 (.str (S "collections.abc") 437), en P "__firstlineno__" 450 (.int 21 449), en P "__instancecheck__" 459 (.ref 107), en P "__subclasscheck__" 467 (.ref 114), en P "register" 475 (.ref 121), en P "__static_attributes__" 476 (.ref 122), en P "__doc__" 477 .none] 2, #[]⟩
def kf_124 (P : Params) : Obj :=
  let _ := P
  ⟨(.type "type"), none, .cls { name := S "_ABCLike", bases := [(.ref 91)], mro := [(.ref 124), (.ref 91), (.type "type"), (.type "object")], ns := 123, qualname := S "_ABCLike", hasDict := true, slotNames := [], subclasses := [], abstract := false, collection := none, hasDel := false }, #[(some (.ref 94)), none, (some (.str (S "_ABCLike") 439)), (some (.str (S "_ABCLike") 447)), (some (.builtin "type.__new__")), (some (.bool true))]⟩
def kf_200 (P : Params) : Obj :=
  let _ := P
  ⟨(.type "dict"), none, .dict #[en P "__module__" 529 (.str (S "collections.abc") 437), en P "__firstlineno__" 533 (.int 52 532), en P "__slots__" 534 (.ref 176), en P "__iter__" 541 (.ref 183), en P "_abc_kind" 549 (.ref 190), en P "__class_getitem__" 557 (.ref 202), en P "__static_attributes__" 558 (.ref 198), en P "__doc__" 560 .none, en P "__abstractmethods__" 567 (.ref 205)] 3, #[]⟩
def kf_201 (P : Params) : Obj :=
  let _ := P
  ⟨(.ref 124), none, .cls { name := S "Iterable", bases := [(.type "object")], mro := [(.ref 201), (.type "object")], ns := 200, qualname := S "Iterable", hasDict := false, slotNames := [], subclasses := [(.ref 290)], abstract := true, collection := none, hasDel := false }, #[none, none, (some (.str (S "Iterable") 522)), (some (.str (S "Iterable") 530)), (some (.builtin "object.__new__")), (some (.bool false))]⟩
def kf_230 (P : Params) : Obj :=
  let _ := P
  ⟨(.type "dict"), none, .dict #[en P "__module__" 575 (.str (S "collections.abc") 437), en P "__firstlineno__" 579 (.int 68 578), en P "__slots__" 580 (.ref 213), en P "__len__" 587 (.ref 220), en P "_abc_kind" 595 (.ref 227), en P "__static_attributes__" 596 (.ref 228), en P "__doc__" 597 .none, en P "__abstractmethods__" 604 (.ref 234)] 3, #[]⟩
def kf_231 (P : Params) : Obj :=
  let _ := P
  ⟨(.ref 124), none, .cls { name := S "Sized", bases := [(.type "object")], mro := [(.ref 231), (.type "object")], ns := 230, qualname := S "Sized", hasDict := false, slotNames := [], subclasses := [(.ref 290), (.ref 528)], abstract := true, collection := none, hasDel := false }, #[none, none, (some (.str (S "Sized") 568)), (some (.str (S "Sized") 576)), (some (.builtin "object.__new__")), (some (.bool false))]⟩
def kf_266 (P : Params) : Obj :=
  let _ := P
  ⟨(.type "dict"), none, .dict #[en P "__module__" 612 (.str (S "collections.abc") 437), en P "__firstlineno__" 616 (.int 80 615), en P "__slots__" 617 (.ref 242), en P "__contains__" 625 (.ref 249), en P "_abc_kind" 633 (.ref 256), en P "__class_getitem__" 641 (.ref 268), en P "__static_attributes__" 642 (.ref 264), en P "__doc__" 644 .none, en P "__abstractmethods__" 651 (.ref 271)] 3, #[]⟩
def kf_267 (P : Params) : Obj :=
  let _ := P
  ⟨(.ref 124), none, .cls { name := S "Container", bases := [(.type "object")], mro := [(.ref 267), (.type "object")], ns := 266, qualname := S "Container", hasDict := false, slotNames := [], subclasses := [(.ref 290)], abstract := true, collection := none, hasDel := false }, #[none, none, (some (.str (S "Container") 605)), (some (.str (S "Container") 613)), (some (.builtin "object.__new__")), (some (.bool false))]⟩
def kf_289 (P : Params) : Obj :=
  let _ := P
  ⟨(.type "dict"), none, .dict #[en P "__module__" 659 (.str (S "collections.abc") 437), en P "__firstlineno__" 663 (.int 95 662), en P "__slots__" 664 (.ref 279), en P "_abc_kind" 672 (.ref 286), en P "__static_attributes__" 673 (.ref 287), en P "__doc__" 674 .none, en P "__abstractmethods__" 683 (.ref 293)] 3, #[]⟩
def kf_290 (P : Params) : Obj :=
  let _ := P
  ⟨(.ref 124), none, .cls { name := S "Collection", bases := [(.ref 231), (.ref 201), (.ref 267)], mro := [(.ref 290), (.ref 231), (.ref 201), (.ref 267), (.type "object")], ns := 289, qualname := S "Collection", hasDict := false, slotNames := [], subclasses := [(.ref 406), (.ref 478), (.ref 655)], abstract := true, collection := none, hasDel := false }, #[(some (.ref 272)), none, (some (.str (S "Collection") 652)), (some (.str (S "Collection") 660)), (some (.builtin "object.__new__")), (some (.bool false))]⟩
def kf_477 (P : Params) : Obj :=
  let _ := P
  ⟨(.type "dict"), none, .dict #[en P "__module__" 848 (.str (S "collections.abc") 437), en P "__firstlineno__" 852 (.int 195 851), en P "__slots__" 853 (.ref 417), en P "__getitem__" 861 (.ref 424), en P "get" 870 (.ref 432), en P "__contains__" 878 (.ref 439), en P "keys" 885 (.ref 446), en P "items" 892 (.ref 453), en P "values" 899 (.ref 460), en P "__eq__" 907 (.ref 467), en P "__reversed__" 908 .none, en P "_abc_kind" 916 (.ref 474), en P "__static_attributes__" 917 (.ref 475), en P "__doc__" 918 .none, en P "__hash__" 919 .none, en P "__abstractmethods__" 928 (.ref 481)] 4, #[]⟩
def kf_478 (P : Params) : Obj :=
  let _ := P
  ⟨(.ref 124), none, .cls { name := S "Mapping", bases := [(.ref 290)], mro := [(.ref 478), (.ref 290), (.ref 231), (.ref 201), (.ref 267), (.type "object")], ns := 477, qualname := S "Mapping", hasDict := false, slotNames := [], subclasses := [(.ref 730)], abstract := true, collection := none, hasDel := false }, #[(some (.ref 410)), none, (some (.str (S "Mapping") 841)), (some (.str (S "Mapping") 849)), (some (.builtin "object.__new__")), (some (.bool false))]⟩
def kf_729 (P : Params) : Obj :=
  let _ := P
  ⟨(.type "dict"), none, .dict #[en P "__module__" 1164 (.str (S "collections.abc") 437), en P "__firstlineno__" 1168 (.int 319 1167), en P "__slots__" 1169 (.ref 665), en P "__setitem__" 1178 (.ref 672), en P "__delitem__" 1186 (.ref 679), en P "_MutableMapping__marker" 1187 (.ref 680), en P "pop" 1197 (.ref 688), en P "popitem" 1206 (.ref 695), en P "clear" 1213 (.ref 702), en P "update" 1224 (.ref 711), en P "setdefault" 1233 (.ref 719), en P "_abc_kind" 1241 (.ref 726), en P "__static_attributes__" 1242 (.ref 727), en P "__doc__" 1243 .none, en P "__abstractmethods__" 1254 (.ref 733)] 3, #[]⟩
def kf_730 (P : Params) : Obj :=
  let _ := P
  ⟨(.ref 124), none, .cls { name := S "MutableMapping", bases := [(.ref 478)], mro := [(.ref 730), (.ref 478), (.ref 290), (.ref 231), (.ref 201), (.ref 267), (.type "object")], ns := 729, qualname := S "MutableMapping", hasDict := false, slotNames := [], subclasses := [(.ref 865)], abstract := true, collection := none, hasDel := false }, #[(some (.ref 658)), none, (some (.str (S "MutableMapping") 1157)), (some (.str (S "MutableMapping") 1165)), (some (.builtin "object.__new__")), (some (.bool false))]⟩
def kf_741 (P : Params) : Obj :=
  let _ := P
  ⟨(.type "object"), none, .plain, #[]⟩
def kf_742 (P : Params) : Obj :=
  let _ := P
  ⟨(.type "tuple"), none, .seq #[.none] 0, #[]⟩
def kf_748 (P : Params) : Obj :=
  let _ := P
  ⟨(.type "code"), none, .fields #[(.str (S "__init__") 1271), (.str (S "Cache.__init__") 1272), (.str (S "/claim/cut.py") 1273), (.int 383 0), (.int 3 0), (.int 0 0), (.int 0 0), (.int 3 0), (.ref 743), (.bool true), (.int 383 0), (.ref 744), .none, (.ref 745), (.ref 746), (.ref 747), (.int 1277 0), (.int 383 0), (.str (S "/claim/cut.py") 1278)], #[]⟩
def kf_749 (P : Params) : Obj :=
  let _ := P
  ⟨(.type "function"), none, .func (fnD "__init__" "Cache.__init__" [34, 2] (.ref 742) (.ref 748) (.str (S "cachetools") 1255)), #[]⟩
def kf_755 (P : Params) : Obj :=
  let _ := P
  ⟨(.type "code"), none, .fields #[(.str (S "__repr__") 1280), (.str (S "Cache.__repr__") 1281), (.str (S "/claim/cut.py") 1282), (.int 394 0), (.int 1 0), (.int 0 0), (.int 0 0), (.int 3 0), (.ref 750), (.bool true), (.int 383 0), (.ref 751), .none, (.ref 752), (.ref 753), (.ref 754), (.int 1284 0), (.int 394 0), (.str (S "/claim/cut.py") 1285)], #[]⟩
def kf_756 (P : Params) : Obj :=
  let _ := P
  ⟨(.type "function"), none, .func (fnD "__repr__" "Cache.__repr__" [34, 3] .none (.ref 755) (.str (S "cachetools") 1255)), #[]⟩
def kf_762 (P : Params) : Obj :=
  let _ := P
  ⟨(.type "code"), none, .fields #[(.str (S "__getitem__") 1287), (.str (S "Cache.__getitem__") 1288), (.str (S "/claim/cut.py") 1289), (.int 397 0), (.int 2 0), (.int 0 0), (.int 0 0), (.int 3 0), (.ref 757), (.bool true), (.int 383 0), (.ref 758), .none, (.ref 759), (.ref 760), (.ref 761), (.int 1292 0), (.int 397 0), (.str (S "/claim/cut.py") 1293)], #[]⟩
def kf_763 (P : Params) : Obj :=
  let _ := P
  ⟨(.type "function"), none, .func (fnD "__getitem__" "Cache.__getitem__" [34, 4] .none (.ref 762) (.str (S "cachetools") 1255)), #[]⟩
def kf_769 (P : Params) : Obj :=
  let _ := P
  ⟨(.type "code"), none, .fields #[(.str (S "__setitem__") 1295), (.str (S "Cache.__setitem__") 1296), (.str (S "/claim/cut.py") 1297), (.int 403 0), (.int 3 0), (.int 0 0), (.int 0 0), (.int 3 0), (.ref 764), (.bool true), (.int 383 0), (.ref 765), .none, (.ref 766), (.ref 767), (.ref 768), (.int 1306 0), (.int 403 0), (.str (S "/claim/cut.py") 1307)], #[]⟩
def kf_770 (P : Params) : Obj :=
  let _ := P
  ⟨(.type "function"), none, .func (fnD "__setitem__" "Cache.__setitem__" [34, 5] .none (.ref 769) (.str (S "cachetools") 1255)), #[]⟩
def kf_776 (P : Params) : Obj :=
  let _ := P
  ⟨(.type "code"), none, .fields #[(.str (S "__delitem__") 1309), (.str (S "Cache.__delitem__") 1310), (.str (S "/claim/cut.py") 1311), (.int 437 0), (.int 2 0), (.int 0 0), (.int 0 0), (.int 3 0), (.ref 771), (.bool true), (.int 383 0), (.ref 772), .none, (.ref 773), (.ref 774), (.ref 775), (.int 1316 0), (.int 437 0), (.str (S "/claim/cut.py") 1317)], #[]⟩
def kf_777 (P : Params) : Obj :=
  let _ := P
  ⟨(.type "function"), none, .func (fnD "__delitem__" "Cache.__delitem__" [34, 6] .none (.ref 776) (.str (S "cachetools") 1255)), #[]⟩
def kf_783 (P : Params) : Obj :=
  let _ := P
  ⟨(.type "code"), none, .fields #[(.str (S "__contains__") 1319), (.str (S "Cache.__contains__") 1320), (.str (S "/claim/cut.py") 1321), (.int 447 0), (.int 2 0), (.int 0 0), (.int 0 0), (.int 3 0), (.ref 778), (.bool true), (.int 383 0), (.ref 779), .none, (.ref 780), (.ref 781), (.ref 782), (.int 1324 0), (.int 447 0), (.str (S "/claim/cut.py") 1325)], #[]⟩
def kf_784 (P : Params) : Obj :=
  let _ := P
  ⟨(.type "function"), none, .func (fnD "__contains__" "Cache.__contains__" [34, 7] .none (.ref 783) (.str (S "cachetools") 1255)), #[]⟩
def kf_790 (P : Params) : Obj :=
  let _ := P
  ⟨(.type "code"), none, .fields #[(.str (S "__missing__") 1327), (.str (S "Cache.__missing__") 1328), (.str (S "/claim/cut.py") 1329), (.int 450 0), (.int 2 0), (.int 0 0), (.int 0 0), (.int 3 0), (.ref 785), (.bool true), (.int 383 0), (.ref 786), .none, (.ref 787), (.ref 788), (.ref 789), (.int 1332 0), (.int 450 0), (.str (S "/claim/cut.py") 1333)], #[]⟩
def kf_791 (P : Params) : Obj :=
  let _ := P
  ⟨(.type "function"), none, .func (fnD "__missing__" "Cache.__missing__" [34, 8] .none (.ref 790) (.str (S "cachetools") 1255)), #[]⟩
def kf_797 (P : Params) : Obj :=
  let _ := P
  ⟨(.type "code"), none, .fields #[(.str (S "__iter__") 1335), (.str (S "Cache.__iter__") 1336), (.str (S "/claim/cut.py") 1337), (.int 453 0), (.int 1 0), (.int 0 0), (.int 0 0), (.int 3 0), (.ref 792), (.bool true), (.int 383 0), (.ref 793), .none, (.ref 794), (.ref 795), (.ref 796), (.int 1339 0), (.int 453 0), (.str (S "/claim/cut.py") 1340)], #[]⟩
def kf_798 (P : Params) : Obj :=
  let _ := P
  ⟨(.type "function"), none, .func (fnD "__iter__" "Cache.__iter__" [34, 9] .none (.ref 797) (.str (S "cachetools") 1255)), #[]⟩
def kf_804 (P : Params) : Obj :=
  let _ := P
  ⟨(.type "code"), none, .fields #[(.str (S "__len__") 1342), (.str (S "Cache.__len__") 1343), (.str (S "/claim/cut.py") 1344), (.int 456 0), (.int 1 0), (.int 0 0), (.int 0 0), (.int 3 0), (.ref 799), (.bool true), (.int 383 0), (.ref 800), .none, (.ref 801), (.ref 802), (.ref 803), (.int 1346 0), (.int 456 0), (.str (S "/claim/cut.py") 1347)], #[]⟩
def kf_805 (P : Params) : Obj :=
  let _ := P
  ⟨(.type "function"), none, .func (fnD "__len__" "Cache.__len__" [34, 10] .none (.ref 804) (.str (S "cachetools") 1255)), #[]⟩
def kf_806 (P : Params) : Obj :=
  let _ := P
  ⟨(.type "tuple"), none, .seq #[.none] 0, #[]⟩
def kf_812 (P : Params) : Obj :=
  let _ := P
  ⟨(.type "code"), none, .fields #[(.str (S "get") 1349), (.str (S "Cache.get") 1350), (.str (S "/claim/cut.py") 1351), (.int 459 0), (.int 3 0), (.int 0 0), (.int 0 0), (.int 3 0), (.ref 807), (.bool true), (.int 383 0), (.ref 808), .none, (.ref 809), (.ref 810), (.ref 811), (.int 1355 0), (.int 459 0), (.str (S "/claim/cut.py") 1356)], #[]⟩
def kf_813 (P : Params) : Obj :=
  let _ := P
  ⟨(.type "function"), none, .func (fnD "get" "Cache.get" [34, 11] (.ref 806) (.ref 812) (.str (S "cachetools") 1255)), #[]⟩
def kf_814 (P : Params) : Obj :=
  let _ := P
  ⟨(.type "tuple"), none, .seq #[(.ref 741)] 0, #[]⟩
def kf_820 (P : Params) : Obj :=
  let _ := P
  ⟨(.type "code"), none, .fields #[(.str (S "pop") 1358), (.str (S "Cache.pop") 1359), (.str (S "/claim/cut.py") 1360), (.int 465 0), (.int 3 0), (.int 0 0), (.int 0 0), (.int 3 0), (.ref 815), (.bool true), (.int 383 0), (.ref 816), .none, (.ref 817), (.ref 818), (.ref 819), (.int 1365 0), (.int 465 0), (.str (S "/claim/cut.py") 1366)], #[]⟩
def kf_821 (P : Params) : Obj :=
  let _ := P
  ⟨(.type "function"), none, .func (fnD "pop" "Cache.pop" [34, 12] (.ref 814) (.ref 820) (.str (S "cachetools") 1255)), #[]⟩
def kf_822 (P : Params) : Obj :=
  let _ := P
  ⟨(.type "tuple"), none, .seq #[.none] 0, #[]⟩
def kf_828 (P : Params) : Obj :=
  let _ := P
  ⟨(.type "code"), none, .fields #[(.str (S "setdefault") 1368), (.str (S "Cache.setdefault") 1369), (.str (S "/claim/cut.py") 1370), (.int 475 0), (.int 3 0), (.int 0 0), (.int 0 0), (.int 3 0), (.ref 823), (.bool true), (.int 383 0), (.ref 824), .none, (.ref 825), (.ref 826), (.ref 827), (.int 1375 0), (.int 475 0), (.str (S "/claim/cut.py") 1376)], #[]⟩
def kf_829 (P : Params) : Obj :=
  let _ := P
  ⟨(.type "function"), none, .func (fnD "setdefault" "Cache.setdefault" [34, 13] (.ref 822) (.ref 828) (.str (S "cachetools") 1255)), #[]⟩
def kf_835 (P : Params) : Obj :=
  let _ := P
  ⟨(.type "code"), none, .fields #[(.str (S "clear") 1378), (.str (S "Cache.clear") 1379), (.str (S "/claim/cut.py") 1380), (.int 482 0), (.int 1 0), (.int 0 0), (.int 0 0), (.int 3 0), (.ref 830), (.bool true), (.int 383 0), (.ref 831), .none, (.ref 832), (.ref 833), (.ref 834), (.int 1382 0), (.int 482 0), (.str (S "/claim/cut.py") 1383)], #[]⟩
def kf_836 (P : Params) : Obj :=
  let _ := P
  ⟨(.type "function"), none, .func (fnD "clear" "Cache.clear" [34, 14] .none (.ref 835) (.str (S "cachetools") 1255)), #[]⟩
def kf_842 (P : Params) : Obj :=
  let _ := P
  ⟨(.type "code"), none, .fields #[(.str (S "maxsize") 1385), (.str (S "Cache.maxsize") 1386), (.str (S "/claim/cut.py") 1387), (.int 485 0), (.int 1 0), (.int 0 0), (.int 0 0), (.int 3 0), (.ref 837), (.bool true), (.int 383 0), (.ref 838), .none, (.ref 839), (.ref 840), (.ref 841), (.int 1389 0), (.int 485 0), (.str (S "/claim/cut.py") 1390)], #[]⟩
def kf_843 (P : Params) : Obj :=
  let _ := P
  ⟨(.type "function"), none, .func (fnD "maxsize" "Cache.maxsize" [34, 15] .none (.ref 842) (.str (S "cachetools") 1255)), #[]⟩
def kf_844 (P : Params) : Obj :=
  let _ := P
  ⟨(.type "property"), none, .fields #[(.ref 843), .none, .none, .none, (.str (S "maxsize") 1392), (.bool false)], #[]⟩
def kf_850 (P : Params) : Obj :=
  let _ := P
  ⟨(.type "code"), none, .fields #[(.str (S "currsize") 1393), (.str (S "Cache.currsize") 1394), (.str (S "/claim/cut.py") 1395), (.int 489 0), (.int 1 0), (.int 0 0), (.int 0 0), (.int 3 0), (.ref 845), (.bool true), (.int 383 0), (.ref 846), .none, (.ref 847), (.ref 848), (.ref 849), (.int 1397 0), (.int 489 0), (.str (S "/claim/cut.py") 1398)], #[]⟩
def kf_851 (P : Params) : Obj :=
  let _ := P
  ⟨(.type "function"), none, .func (fnD "currsize" "Cache.currsize" [34, 16] .none (.ref 850) (.str (S "cachetools") 1255)), #[]⟩
def kf_852 (P : Params) : Obj :=
  let _ := P
  ⟨(.type "property"), none, .fields #[(.ref 851), .none, .none, .none, (.str (S "currsize") 1400), (.bool false)], #[]⟩
def kf_858 (P : Params) : Obj :=
  let _ := P
  ⟨(.type "code"), none, .fields #[(.str (S "getsizeof") 1401), (.str (S "Cache.getsizeof") 1402), (.str (S "/claim/cut.py") 1403), (.int 493 0), (.int 1 0), (.int 0 0), (.int 0 0), (.int 3 0), (.ref 853), (.bool true), (.int 383 0), (.ref 854), .none, (.ref 855), (.ref 856), (.ref 857), (.int 1405 0), (.int 493 0), (.str (S "/claim/cut.py") 1406)], #[]⟩
def kf_859 (P : Params) : Obj :=
  let _ := P
  ⟨(.type "function"), none, .func ({ fnD "getsizeof" "Cache.getsizeof" [34, 17] .none (.ref 858) (.str (S "cachetools") 1255) with annotations := (some 862) }), #[]⟩
def kf_861 (P : Params) : Obj :=
  let _ := P
  ⟨(.type "staticmethod"), (some 860), .fields #[(.ref 859), (.bool false)], #[]⟩
def kf_864 (P : Params) : Obj :=
  let _ := P
  ⟨(.type "dict"), none, .dict #[en P "__module__" 1264 (.str (S "cachetools") 1255), en P "__firstlineno__" 1268 (.int 379 1267), en P "_Cache__marker" 1269 (.ref 741), en P "_Cache__size" 1270 .none, en P "__init__" 1279 (.ref 749), en P "__repr__" 1286 (.ref 756), en P "__getitem__" 1294 (.ref 763), en P "__setitem__" 1308 (.ref 770), en P "__delitem__" 1318 (.ref 777), en P "__contains__" 1326 (.ref 784), en P "__missing__" 1334 (.ref 791), en P "__iter__" 1341 (.ref 798), en P "__len__" 1348 (.ref 805), en P "get" 1357 (.ref 813), en P "pop" 1367 (.ref 821), en P "setdefault" 1377 (.ref 829), en P "clear" 1384 (.ref 836), en P "maxsize" 1392 (.ref 844), en P "currsize" 1400 (.ref 852), en P "getsizeof" 1419 (.ref 861), en P "__static_attributes__" 1425 (.ref 863), en P "__dict__" 1427 (.ref 866), en P "__weakref__" 1429 (.ref 867), en P "__doc__" 1430 .none] 4, #[]⟩
def kf_865 (P : Params) : Obj :=
  let _ := P
  ⟨(.ref 124), none, .cls { name := S "Cache", bases := [(.ref 730)], mro := [(.ref 865), (.ref 730), (.ref 478), (.ref 290), (.ref 231), (.ref 201), (.ref 267), (.type "object")], ns := 864, qualname := S "Cache", hasDict := true, slotNames := [], subclasses := [(.ref 917), (.ref 982), (.ref 1128)], abstract := false, collection := none, hasDel := false }, #[(some (.ref 734)), none, (some (.str (S "Cache") 1257)), (some (.str (S "Cache") 1265)), (some (.builtin "object.__new__")), (some (.bool true))]⟩
def kf_877 (P : Params) : Obj :=
  let _ := P
  ⟨(.type "tuple"), none, .seq #[.none] 0, #[]⟩
def kf_883 (P : Params) : Obj :=
  let _ := P
  ⟨(.type "code"), none, .fields #[(.str (S "__init__") 1445), (.str (S "FIFOCache.__init__") 1446), (.str (S "/claim/cut.py") 1447), (.int 498 0), (.int 3 0), (.int 0 0), (.int 0 0), (.int 3 0), (.ref 878), (.bool true), (.int 383 0), (.ref 879), .none, (.ref 880), (.ref 881), (.ref 882), (.int 1451 0), (.int 498 0), (.str (S "/claim/cut.py") 1452)], #[]⟩
def kf_884 (P : Params) : Obj :=
  let _ := P
  ⟨(.type "function"), none, .func (fnD "__init__" "FIFOCache.__init__" [35, 0] (.ref 877) (.ref 883) (.str (S "cachetools") 1255)), #[]⟩
def kf_885 (P : Params) : Obj :=
  let _ := P
  ⟨(.type "tuple"), none, .seq #[(.ref 770)] 0, #[]⟩
def kf_891 (P : Params) : Obj :=
  let _ := P
  ⟨(.type "code"), none, .fields #[(.str (S "__setitem__") 1455), (.str (S "FIFOCache.__setitem__") 1456), (.str (S "/claim/cut.py") 1457), (.int 502 0), (.int 4 0), (.int 0 0), (.int 0 0), (.int 3 0), (.ref 886), (.bool true), (.int 383 0), (.ref 887), .none, (.ref 888), (.ref 889), (.ref 890), (.int 1462 0), (.int 502 0), (.str (S "/claim/cut.py") 1463)], #[]⟩
def kf_892 (P : Params) : Obj :=
  let _ := P
  ⟨(.type "function"), none, .func (fnD "__setitem__" "FIFOCache.__setitem__" [35, 1] (.ref 885) (.ref 891) (.str (S "cachetools") 1255)), #[]⟩
def kf_893 (P : Params) : Obj :=
  let _ := P
  ⟨(.type "tuple"), none, .seq #[(.ref 777)] 0, #[]⟩
def kf_899 (P : Params) : Obj :=
  let _ := P
  ⟨(.type "code"), none, .fields #[(.str (S "__delitem__") 1466), (.str (S "FIFOCache.__delitem__") 1467), (.str (S "/claim/cut.py") 1468), (.int 509 0), (.int 3 0), (.int 0 0), (.int 0 0), (.int 3 0), (.ref 894), (.bool true), (.int 383 0), (.ref 895), .none, (.ref 896), (.ref 897), (.ref 898), (.int 1472 0), (.int 509 0), (.str (S "/claim/cut.py") 1473)], #[]⟩
def kf_900 (P : Params) : Obj :=
  let _ := P
  ⟨(.type "function"), none, .func (fnD "__delitem__" "FIFOCache.__delitem__" [35, 2] (.ref 893) (.ref 899) (.str (S "cachetools") 1255)), #[]⟩
def kf_906 (P : Params) : Obj :=
  let _ := P
  ⟨(.type "code"), none, .fields #[(.str (S "popitem") 1475), (.str (S "FIFOCache.popitem") 1476), (.str (S "/claim/cut.py") 1477), (.int 513 0), (.int 1 0), (.int 0 0), (.int 0 0), (.int 3 0), (.ref 901), (.bool true), (.int 383 0), (.ref 902), .none, (.ref 903), (.ref 904), (.ref 905), (.int 1481 0), (.int 513 0), (.str (S "/claim/cut.py") 1482)], #[]⟩
def kf_907 (P : Params) : Obj :=
  let _ := P
  ⟨(.type "function"), none, .func (fnD "popitem" "FIFOCache.popitem" [35, 3] .none (.ref 906) (.str (S "cachetools") 1255)), #[]⟩
def kf_913 (P : Params) : Obj :=
  let _ := P
  ⟨(.type "code"), none, .fields #[(.str (S "clear") 1484), (.str (S "FIFOCache.clear") 1485), (.str (S "/claim/cut.py") 1486), (.int 523 0), (.int 1 0), (.int 0 0), (.int 0 0), (.int 3 0), (.ref 908), (.bool true), (.int 383 0), (.ref 909), .none, (.ref 910), (.ref 911), (.ref 912), (.int 1488 0), (.int 523 0), (.str (S "/claim/cut.py") 1489)], #[]⟩
def kf_914 (P : Params) : Obj :=
  let _ := P
  ⟨(.type "function"), none, .func (fnD "clear" "FIFOCache.clear" [35, 4] .none (.ref 913) (.str (S "cachetools") 1255)), #[]⟩
def kf_916 (P : Params) : Obj :=
  let _ := P
  ⟨(.type "dict"), none, .dict #[en P "__module__" 1440 (.str (S "cachetools") 1255), en P "__firstlineno__" 1444 (.int 496 1443), en P "__init__" 1453 (.ref 884), en P "__setitem__" 1464 (.ref 892), en P "__delitem__" 1474 (.ref 900), en P "popitem" 1483 (.ref 907), en P "clear" 1490 (.ref 914), en P "__static_attributes__" 1492 (.ref 915), en P "__doc__" 1493 .none] 2, #[]⟩
def kf_917 (P : Params) : Obj :=
  let _ := P
  ⟨(.ref 124), none, .cls { name := S "FIFOCache", bases := [(.ref 865)], mro := [(.ref 917), (.ref 865), (.ref 730), (.ref 478), (.ref 290), (.ref 231), (.ref 201), (.ref 267), (.type "object")], ns := 916, qualname := S "FIFOCache", hasDict := true, slotNames := [], subclasses := [], abstract := false, collection := none, hasDel := false }, #[(some (.ref 870)), none, (some (.str (S "FIFOCache") 1433)), (some (.str (S "FIFOCache") 1441)), (some (.builtin "object.__new__")), (some (.bool true))]⟩
def kf_927 (P : Params) : Obj :=
  let _ := P
  ⟨(.type "tuple"), none, .seq #[.none] 0, #[]⟩
def kf_933 (P : Params) : Obj :=
  let _ := P
  ⟨(.type "code"), none, .fields #[(.str (S "__init__") 1508), (.str (S "LRUCache.__init__") 1509), (.str (S "/claim/cut.py") 1510), (.int 527 0), (.int 3 0), (.int 0 0), (.int 0 0), (.int 3 0), (.ref 928), (.bool true), (.int 383 0), (.ref 929), .none, (.ref 930), (.ref 931), (.ref 932), (.int 1514 0), (.int 527 0), (.str (S "/claim/cut.py") 1515)], #[]⟩
def kf_934 (P : Params) : Obj :=
  let _ := P
  ⟨(.type "function"), none, .func (fnD "__init__" "LRUCache.__init__" [36, 0] (.ref 927) (.ref 933) (.str (S "cachetools") 1255)), #[]⟩
def kf_935 (P : Params) : Obj :=
  let _ := P
  ⟨(.type "tuple"), none, .seq #[(.ref 763)] 0, #[]⟩
def kf_941 (P : Params) : Obj :=
  let _ := P
  ⟨(.type "code"), none, .fields #[(.str (S "__getitem__") 1518), (.str (S "LRUCache.__getitem__") 1519), (.str (S "/claim/cut.py") 1520), (.int 531 0), (.int 3 0), (.int 0 0), (.int 0 0), (.int 3 0), (.ref 936), (.bool true), (.int 383 0), (.ref 937), .none, (.ref 938), (.ref 939), (.ref 940), (.int 1525 0), (.int 531 0), (.str (S "/claim/cut.py") 1526)], #[]⟩
def kf_942 (P : Params) : Obj :=
  let _ := P
  ⟨(.type "function"), none, .func (fnD "__getitem__" "LRUCache.__getitem__" [36, 1] (.ref 935) (.ref 941) (.str (S "cachetools") 1255)), #[]⟩
def kf_943 (P : Params) : Obj :=
  let _ := P
  ⟨(.type "tuple"), none, .seq #[(.ref 770)] 0, #[]⟩
def kf_949 (P : Params) : Obj :=
  let _ := P
  ⟨(.type "code"), none, .fields #[(.str (S "__setitem__") 1529), (.str (S "LRUCache.__setitem__") 1530), (.str (S "/claim/cut.py") 1531), (.int 539 0), (.int 4 0), (.int 0 0), (.int 0 0), (.int 3 0), (.ref 944), (.bool true), (.int 383 0), (.ref 945), .none, (.ref 946), (.ref 947), (.ref 948), (.int 1536 0), (.int 539 0), (.str (S "/claim/cut.py") 1537)], #[]⟩
def kf_950 (P : Params) : Obj :=
  let _ := P
  ⟨(.type "function"), none, .func (fnD "__setitem__" "LRUCache.__setitem__" [36, 2] (.ref 943) (.ref 949) (.str (S "cachetools") 1255)), #[]⟩
def kf_951 (P : Params) : Obj :=
  let _ := P
  ⟨(.type "tuple"), none, .seq #[(.ref 777)] 0, #[]⟩
def kf_957 (P : Params) : Obj :=
  let _ := P
  ⟨(.type "code"), none, .fields #[(.str (S "__delitem__") 1540), (.str (S "LRUCache.__delitem__") 1541), (.str (S "/claim/cut.py") 1542), (.int 543 0), (.int 3 0), (.int 0 0), (.int 0 0), (.int 3 0), (.ref 952), (.bool true), (.int 383 0), (.ref 953), .none, (.ref 954), (.ref 955), (.ref 956), (.int 1546 0), (.int 543 0), (.str (S "/claim/cut.py") 1547)], #[]⟩
def kf_958 (P : Params) : Obj :=
  let _ := P
  ⟨(.type "function"), none, .func (fnD "__delitem__" "LRUCache.__delitem__" [36, 3] (.ref 951) (.ref 957) (.str (S "cachetools") 1255)), #[]⟩
def kf_964 (P : Params) : Obj :=
  let _ := P
  ⟨(.type "code"), none, .fields #[(.str (S "popitem") 1549), (.str (S "LRUCache.popitem") 1550), (.str (S "/claim/cut.py") 1551), (.int 547 0), (.int 1 0), (.int 0 0), (.int 0 0), (.int 3 0), (.ref 959), (.bool true), (.int 383 0), (.ref 960), .none, (.ref 961), (.ref 962), (.ref 963), (.int 1555 0), (.int 547 0), (.str (S "/claim/cut.py") 1556)], #[]⟩
def kf_965 (P : Params) : Obj :=
  let _ := P
  ⟨(.type "function"), none, .func (fnD "popitem" "LRUCache.popitem" [36, 4] .none (.ref 964) (.str (S "cachetools") 1255)), #[]⟩
def kf_971 (P : Params) : Obj :=
  let _ := P
  ⟨(.type "code"), none, .fields #[(.str (S "clear") 1558), (.str (S "LRUCache.clear") 1559), (.str (S "/claim/cut.py") 1560), (.int 557 0), (.int 1 0), (.int 0 0), (.int 0 0), (.int 3 0), (.ref 966), (.bool true), (.int 383 0), (.ref 967), .none, (.ref 968), (.ref 969), (.ref 970), (.int 1562 0), (.int 557 0), (.str (S "/claim/cut.py") 1563)], #[]⟩
def kf_972 (P : Params) : Obj :=
  let _ := P
  ⟨(.type "function"), none, .func (fnD "clear" "LRUCache.clear" [36, 5] .none (.ref 971) (.str (S "cachetools") 1255)), #[]⟩
def kf_978 (P : Params) : Obj :=
  let _ := P
  ⟨(.type "code"), none, .fields #[(.str (S "__touch") 1565), (.str (S "LRUCache.__touch") 1566), (.str (S "/claim/cut.py") 1567), (.int 560 0), (.int 2 0), (.int 0 0), (.int 0 0), (.int 3 0), (.ref 973), (.bool true), (.int 383 0), (.ref 974), .none, (.ref 975), (.ref 976), (.ref 977), (.int 1570 0), (.int 560 0), (.str (S "/claim/cut.py") 1571)], #[]⟩
def kf_979 (P : Params) : Obj :=
  let _ := P
  ⟨(.type "function"), none, .func (fnD "__touch" "LRUCache.__touch" [36, 6] .none (.ref 978) (.str (S "cachetools") 1255)), #[]⟩
def kf_981 (P : Params) : Obj :=
  let _ := P
  ⟨(.type "dict"), none, .dict #[en P "__module__" 1503 (.str (S "cachetools") 1255), en P "__firstlineno__" 1507 (.int 525 1506), en P "__init__" 1516 (.ref 934), en P "__getitem__" 1527 (.ref 942), en P "__setitem__" 1538 (.ref 950), en P "__delitem__" 1548 (.ref 958), en P "popitem" 1557 (.ref 965), en P "clear" 1564 (.ref 972), en P "_LRUCache__touch" 1572 (.ref 979), en P "__static_attributes__" 1574 (.ref 980), en P "__doc__" 1575 .none] 2, #[]⟩
def kf_982 (P : Params) : Obj :=
  let _ := P
  ⟨(.ref 124), none, .cls { name := S "LRUCache", bases := [(.ref 865)], mro := [(.ref 982), (.ref 865), (.ref 730), (.ref 478), (.ref 290), (.ref 231), (.ref 201), (.ref 267), (.type "object")], ns := 981, qualname := S "LRUCache", hasDict := true, slotNames := [], subclasses := [], abstract := false, collection := none, hasDel := false }, #[(some (.ref 920)), none, (some (.str (S "LRUCache") 1496)), (some (.str (S "LRUCache") 1504)), (some (.builtin "object.__new__")), (some (.bool true))]⟩
def kf_1005 (P : Params) : Obj :=
  let _ := P
  ⟨(.type "code"), none, .fields #[(.str (S "__init__") 1602), (.str (S "_TimedCache._Timer.__init__") 1603), (.str (S "/claim/cut.py") 1604), (.int 569 0), (.int 2 0), (.int 0 0), (.int 0 0), (.int 3 0), (.ref 1000), (.bool true), (.int 383 0), (.ref 1001), .none, (.ref 1002), (.ref 1003), (.ref 1004), (.int 1607 0), (.int 569 0), (.str (S "/claim/cut.py") 1608)], #[]⟩
def kf_1006 (P : Params) : Obj :=
  let _ := P
  ⟨(.type "function"), none, .func (fnD "__init__" "_TimedCache._Timer.__init__" [37, 0, 0] .none (.ref 1005) (.str (S "cachetools") 1255)), #[]⟩
def kf_1012 (P : Params) : Obj :=
  let _ := P
  ⟨(.type "code"), none, .fields #[(.str (S "__call__") 1610), (.str (S "_TimedCache._Timer.__call__") 1611), (.str (S "/claim/cut.py") 1612), (.int 573 0), (.int 1 0), (.int 0 0), (.int 0 0), (.int 3 0), (.ref 1007), (.bool true), (.int 383 0), (.ref 1008), .none, (.ref 1009), (.ref 1010), (.ref 1011), (.int 1614 0), (.int 573 0), (.str (S "/claim/cut.py") 1615)], #[]⟩
def kf_1013 (P : Params) : Obj :=
  let _ := P
  ⟨(.type "function"), none, .func (fnD "__call__" "_TimedCache._Timer.__call__" [37, 0, 1] .none (.ref 1012) (.str (S "cachetools") 1255)), #[]⟩
def kf_1019 (P : Params) : Obj :=
  let _ := P
  ⟨(.type "code"), none, .fields #[(.str (S "__enter__") 1617), (.str (S "_TimedCache._Timer.__enter__") 1618), (.str (S "/claim/cut.py") 1619), (.int 579 0), (.int 1 0), (.int 0 0), (.int 0 0), (.int 3 0), (.ref 1014), (.bool true), (.int 383 0), (.ref 1015), .none, (.ref 1016), (.ref 1017), (.ref 1018), (.int 1622 0), (.int 579 0), (.str (S "/claim/cut.py") 1623)], #[]⟩
def kf_1020 (P : Params) : Obj :=
  let _ := P
  ⟨(.type "function"), none, .func (fnD "__enter__" "_TimedCache._Timer.__enter__" [37, 0, 2] .none (.ref 1019) (.str (S "cachetools") 1255)), #[]⟩
def kf_1026 (P : Params) : Obj :=
  let _ := P
  ⟨(.type "code"), none, .fields #[(.str (S "__exit__") 1625), (.str (S "_TimedCache._Timer.__exit__") 1626), (.str (S "/claim/cut.py") 1627), (.int 587 0), (.int 1 0), (.int 0 0), (.int 0 0), (.int 7 0), (.ref 1021), (.bool true), (.int 383 0), (.ref 1022), .none, (.ref 1023), (.ref 1024), (.ref 1025), (.int 1630 0), (.int 587 0), (.str (S "/claim/cut.py") 1631)], #[]⟩
def kf_1027 (P : Params) : Obj :=
  let _ := P
  ⟨(.type "function"), none, .func (fnD "__exit__" "_TimedCache._Timer.__exit__" [37, 0, 3] .none (.ref 1026) (.str (S "cachetools") 1255)), #[]⟩
def kf_1033 (P : Params) : Obj :=
  let _ := P
  ⟨(.type "code"), none, .fields #[(.str (S "__reduce__") 1633), (.str (S "_TimedCache._Timer.__reduce__") 1634), (.str (S "/claim/cut.py") 1635), (.int 590 0), (.int 1 0), (.int 0 0), (.int 0 0), (.int 3 0), (.ref 1028), (.bool true), (.int 383 0), (.ref 1029), .none, (.ref 1030), (.ref 1031), (.ref 1032), (.int 1637 0), (.int 590 0), (.str (S "/claim/cut.py") 1638)], #[]⟩
def kf_1034 (P : Params) : Obj :=
  let _ := P
  ⟨(.type "function"), none, .func (fnD "__reduce__" "_TimedCache._Timer.__reduce__" [37, 0, 4] .none (.ref 1033) (.str (S "cachetools") 1255)), #[]⟩
def kf_1040 (P : Params) : Obj :=
  let _ := P
  ⟨(.type "code"), none, .fields #[(.str (S "__getattr__") 1640), (.str (S "_TimedCache._Timer.__getattr__") 1641), (.str (S "/claim/cut.py") 1642), (.int 593 0), (.int 2 0), (.int 0 0), (.int 0 0), (.int 3 0), (.ref 1035), (.bool true), (.int 383 0), (.ref 1036), .none, (.ref 1037), (.ref 1038), (.ref 1039), (.int 1645 0), (.int 593 0), (.str (S "/claim/cut.py") 1646)], #[]⟩
def kf_1041 (P : Params) : Obj :=
  let _ := P
  ⟨(.type "function"), none, .func (fnD "__getattr__" "_TimedCache._Timer.__getattr__" [37, 0, 5] .none (.ref 1040) (.str (S "cachetools") 1255)), #[]⟩
def kf_1043 (P : Params) : Obj :=
  let _ := P
  ⟨(.type "dict"), none, .dict #[en P "__module__" 1597 (.str (S "cachetools") 1255), en P "__firstlineno__" 1601 (.int 567 1600), en P "__init__" 1609 (.ref 1006), en P "__call__" 1616 (.ref 1013), en P "__enter__" 1624 (.ref 1020), en P "__exit__" 1632 (.ref 1027), en P "__reduce__" 1639 (.ref 1034), en P "__getattr__" 1647 (.ref 1041), en P "__static_attributes__" 1651 (.ref 1042), en P "__dict__" 1653 (.ref 1045), en P "__weakref__" 1655 (.ref 1046), en P "__doc__" 1656 .none] 4, #[]⟩
def kf_1044 (P : Params) : Obj :=
  let _ := P
  ⟨(.type "type"), none, .cls { name := S "_Timer", bases := [(.type "object")], mro := [(.ref 1044), (.type "object")], ns := 1043, qualname := S "_TimedCache._Timer", hasDict := true, slotNames := [], subclasses := [], abstract := false, collection := none, hasDel := false }, #[none, none, (some (.str (S "_Timer") 1590)), (some (.str (S "_TimedCache._Timer") 1598)), (some (.builtin "object.__new__")), (some (.bool true))]⟩
def kf_1049 (P : Params) : Obj :=
  let _ := P
  ⟨(.type "tuple"), none, .seq #[.none] 0, #[]⟩
def kf_1055 (P : Params) : Obj :=
  let _ := P
  ⟨(.type "code"), none, .fields #[(.str (S "__init__") 1659), (.str (S "_TimedCache.__init__") 1660), (.str (S "/claim/cut.py") 1661), (.int 596 0), (.int 4 0), (.int 0 0), (.int 0 0), (.int 3 0), (.ref 1050), (.bool true), (.int 383 0), (.ref 1051), .none, (.ref 1052), (.ref 1053), (.ref 1054), (.int 1666 0), (.int 596 0), (.str (S "/claim/cut.py") 1667)], #[]⟩
def kf_1056 (P : Params) : Obj :=
  let _ := P
  ⟨(.type "function"), none, .func (fnD "__init__" "_TimedCache.__init__" [37, 1] (.ref 1049) (.ref 1055) (.str (S "cachetools") 1255)), #[]⟩
def kf_1057 (P : Params) : Obj :=
  let _ := P
  ⟨(.type "tuple"), none, .seq #[(.ref 756)] 0, #[]⟩
def kf_1063 (P : Params) : Obj :=
  let _ := P
  ⟨(.type "code"), none, .fields #[(.str (S "__repr__") 1670), (.str (S "_TimedCache.__repr__") 1671), (.str (S "/claim/cut.py") 1672), (.int 600 0), (.int 2 0), (.int 0 0), (.int 0 0), (.int 3 0), (.ref 1058), (.bool true), (.int 383 0), (.ref 1059), .none, (.ref 1060), (.ref 1061), (.ref 1062), (.int 1676 0), (.int 600 0), (.str (S "/claim/cut.py") 1677)], #[]⟩
def kf_1064 (P : Params) : Obj :=
  let _ := P
  ⟨(.type "function"), none, .func (fnD "__repr__" "_TimedCache.__repr__" [37, 2] (.ref 1057) (.ref 1063) (.str (S "cachetools") 1255)), #[]⟩
def kf_1065 (P : Params) : Obj :=
  let _ := P
  ⟨(.type "tuple"), none, .seq #[(.ref 805)] 0, #[]⟩
def kf_1071 (P : Params) : Obj :=
  let _ := P
  ⟨(.type "code"), none, .fields #[(.str (S "__len__") 1680), (.str (S "_TimedCache.__len__") 1681), (.str (S "/claim/cut.py") 1682), (.int 605 0), (.int 2 0), (.int 0 0), (.int 0 0), (.int 3 0), (.ref 1066), (.bool true), (.int 383 0), (.ref 1067), .none, (.ref 1068), (.ref 1069), (.ref 1070), (.int 1686 0), (.int 605 0), (.str (S "/claim/cut.py") 1687)], #[]⟩
def kf_1072 (P : Params) : Obj :=
  let _ := P
  ⟨(.type "function"), none, .func (fnD "__len__" "_TimedCache.__len__" [37, 3] (.ref 1065) (.ref 1071) (.str (S "cachetools") 1255)), #[]⟩
def kf_1081 (P : Params) : Obj :=
  let _ := P
  ⟨(.type "property"), none, .fields #[(.ref 1080), .none, .none, .none, (.str (S "currsize") 1698), (.bool false)], #[]⟩
def kf_1087 (P : Params) : Obj :=
  let _ := P
  ⟨(.type "code"), none, .fields #[(.str (S "timer") 1699), (.str (S "_TimedCache.timer") 1700), (.str (S "/claim/cut.py") 1701), (.int 616 0), (.int 1 0), (.int 0 0), (.int 0 0), (.int 3 0), (.ref 1082), (.bool true), (.int 383 0), (.ref 1083), .none, (.ref 1084), (.ref 1085), (.ref 1086), (.int 1703 0), (.int 616 0), (.str (S "/claim/cut.py") 1704)], #[]⟩
def kf_1088 (P : Params) : Obj :=
  let _ := P
  ⟨(.type "function"), none, .func (fnD "timer" "_TimedCache.timer" [37, 5] .none (.ref 1087) (.str (S "cachetools") 1255)), #[]⟩
def kf_1089 (P : Params) : Obj :=
  let _ := P
  ⟨(.type "property"), none, .fields #[(.ref 1088), .none, .none, .none, (.str (S "timer") 1706), (.bool false)], #[]⟩
def kf_1095 (P : Params) : Obj :=
  let _ := P
  ⟨(.type "code"), none, .fields #[(.str (S "get") 1707), (.str (S "_TimedCache.get") 1708), (.str (S "/claim/cut.py") 1709), (.int 620 0), (.int 1 0), (.int 0 0), (.int 0 0), (.int 15 0), (.ref 1090), (.bool true), (.int 383 0), (.ref 1091), .none, (.ref 1092), (.ref 1093), (.ref 1094), (.int 1713 0), (.int 620 0), (.str (S "/claim/cut.py") 1714)], #[]⟩
def kf_1096 (P : Params) : Obj :=
  let _ := P
  ⟨(.type "function"), none, .func (fnD "get" "_TimedCache.get" [37, 6] .none (.ref 1095) (.str (S "cachetools") 1255)), #[]⟩
def kf_1102 (P : Params) : Obj :=
  let _ := P
  ⟨(.type "code"), none, .fields #[(.str (S "pop") 1716), (.str (S "_TimedCache.pop") 1717), (.str (S "/claim/cut.py") 1718), (.int 624 0), (.int 1 0), (.int 0 0), (.int 0 0), (.int 15 0), (.ref 1097), (.bool true), (.int 383 0), (.ref 1098), .none, (.ref 1099), (.ref 1100), (.ref 1101), (.int 1722 0), (.int 624 0), (.str (S "/claim/cut.py") 1723)], #[]⟩
def kf_1103 (P : Params) : Obj :=
  let _ := P
  ⟨(.type "function"), none, .func (fnD "pop" "_TimedCache.pop" [37, 7] .none (.ref 1102) (.str (S "cachetools") 1255)), #[]⟩
def kf_1109 (P : Params) : Obj :=
  let _ := P
  ⟨(.type "code"), none, .fields #[(.str (S "setdefault") 1725), (.str (S "_TimedCache.setdefault") 1726), (.str (S "/claim/cut.py") 1727), (.int 628 0), (.int 1 0), (.int 0 0), (.int 0 0), (.int 15 0), (.ref 1104), (.bool true), (.int 383 0), (.ref 1105), .none, (.ref 1106), (.ref 1107), (.ref 1108), (.int 1731 0), (.int 628 0), (.str (S "/claim/cut.py") 1732)], #[]⟩
def kf_1110 (P : Params) : Obj :=
  let _ := P
  ⟨(.type "function"), none, .func (fnD "setdefault" "_TimedCache.setdefault" [37, 8] .none (.ref 1109) (.str (S "cachetools") 1255)), #[]⟩
def kf_1116 (P : Params) : Obj :=
  let _ := P
  ⟨(.type "code"), none, .fields #[(.str (S "clear") 1734), (.str (S "_TimedCache.clear") 1735), (.str (S "/claim/cut.py") 1736), (.int 632 0), (.int 1 0), (.int 0 0), (.int 0 0), (.int 3 0), (.ref 1111), (.bool true), (.int 383 0), (.ref 1112), .none, (.ref 1113), (.ref 1114), (.ref 1115), (.int 1738 0), (.int 632 0), (.str (S "/claim/cut.py") 1739)], #[]⟩
def kf_1117 (P : Params) : Obj :=
  let _ := P
  ⟨(.type "function"), none, .func (fnD "clear" "_TimedCache.clear" [37, 9] .none (.ref 1116) (.str (S "cachetools") 1255)), #[]⟩
def kf_1118 (P : Params) : Obj :=
  let _ := P
  ⟨(.type "tuple"), none, .seq #[.none] 0, #[]⟩
def kf_1124 (P : Params) : Obj :=
  let _ := P
  ⟨(.type "code"), none, .fields #[(.str (S "expire") 1741), (.str (S "_TimedCache.expire") 1742), (.str (S "/claim/cut.py") 1743), (.int 635 0), (.int 2 0), (.int 0 0), (.int 0 0), (.int 3 0), (.ref 1119), (.bool true), (.int 383 0), (.ref 1120), .none, (.ref 1121), (.ref 1122), (.ref 1123), (.int 1746 0), (.int 635 0), (.str (S "/claim/cut.py") 1747)], #[]⟩
def kf_1125 (P : Params) : Obj :=
  let _ := P
  ⟨(.type "function"), none, .func (fnD "expire" "_TimedCache.expire" [37, 10] (.ref 1118) (.ref 1124) (.str (S "cachetools") 1255)), #[]⟩
def kf_1127 (P : Params) : Obj :=
  let _ := P
  ⟨(.type "dict"), none, .dict #[en P "__module__" 1585 (.str (S "cachetools") 1255), en P "__firstlineno__" 1589 (.int 565 1588), en P "_Timer" 1658 (.ref 1044), en P "__init__" 1668 (.ref 1056), en P "__repr__" 1678 (.ref 1064), en P "__len__" 1688 (.ref 1072), en P "currsize" 1698 (.ref 1081), en P "timer" 1706 (.ref 1089), en P "get" 1715 (.ref 1096), en P "pop" 1724 (.ref 1103), en P "setdefault" 1733 (.ref 1110), en P "clear" 1740 (.ref 1117), en P "expire" 1748 (.ref 1125), en P "__static_attributes__" 1750 (.ref 1126), en P "__doc__" 1752 .none] 3, #[]⟩
def kf_1128 (P : Params) : Obj :=
  let _ := P
  ⟨(.ref 124), none, .cls { name := S "_TimedCache", bases := [(.ref 865)], mro := [(.ref 1128), (.ref 865), (.ref 730), (.ref 478), (.ref 290), (.ref 231), (.ref 201), (.ref 267), (.type "object")], ns := 1127, qualname := S "_TimedCache", hasDict := true, slotNames := [], subclasses := [(.ref 1270), (.ref 1488)], abstract := false, collection := none, hasDel := false }, #[(some (.ref 985)), none, (some (.str (S "_TimedCache") 1578)), (some (.str (S "_TimedCache") 1586)), (some (.builtin "object.__new__")), (some (.bool true))]⟩
def kf_1153 (P : Params) : Obj :=
  let _ := P
  ⟨(.type "tuple"), none, .seq #[.none, .none] 0, #[]⟩
def kf_1159 (P : Params) : Obj :=
  let _ := P
  ⟨(.type "code"), none, .fields #[(.str (S "__init__") 1796), (.str (S "TTLCache._Link.__init__") 1797), (.str (S "/claim/cut.py") 1798), (.int 646 0), (.int 3 0), (.int 0 0), (.int 0 0), (.int 3 0), (.ref 1154), (.bool true), (.int 383 0), (.ref 1155), .none, (.ref 1156), (.ref 1157), (.ref 1158), (.int 1802 0), (.int 646 0), (.str (S "/claim/cut.py") 1803)], #[]⟩
def kf_1160 (P : Params) : Obj :=
  let _ := P
  ⟨(.type "function"), none, .func (fnD "__init__" "TTLCache._Link.__init__" [41, 0, 1] (.ref 1153) (.ref 1159) (.str (S "cachetools") 1765)), #[]⟩
def kf_1166 (P : Params) : Obj :=
  let _ := P
  ⟨(.type "code"), none, .fields #[(.str (S "__reduce__") 1805), (.str (S "TTLCache._Link.__reduce__") 1806), (.str (S "/claim/cut.py") 1807), (.int 650 0), (.int 1 0), (.int 0 0), (.int 0 0), (.int 3 0), (.ref 1161), (.bool true), (.int 383 0), (.ref 1162), .none, (.ref 1163), (.ref 1164), (.ref 1165), (.int 1809 0), (.int 650 0), (.str (S "/claim/cut.py") 1810)], #[]⟩
def kf_1167 (P : Params) : Obj :=
  let _ := P
  ⟨(.type "function"), none, .func (fnD "__reduce__" "TTLCache._Link.__reduce__" [41, 0, 2] .none (.ref 1166) (.str (S "cachetools") 1765)), #[]⟩
def kf_1173 (P : Params) : Obj :=
  let _ := P
  ⟨(.type "code"), none, .fields #[(.str (S "unlink") 1812), (.str (S "TTLCache._Link.unlink") 1813), (.str (S "/claim/cut.py") 1814), (.int 653 0), (.int 1 0), (.int 0 0), (.int 0 0), (.int 3 0), (.ref 1168), (.bool true), (.int 383 0), (.ref 1169), .none, (.ref 1170), (.ref 1171), (.ref 1172), (.int 1818 0), (.int 653 0), (.str (S "/claim/cut.py") 1819)], #[]⟩
def kf_1174 (P : Params) : Obj :=
  let _ := P
  ⟨(.type "function"), none, .func (fnD "unlink" "TTLCache._Link.unlink" [41, 0, 3] .none (.ref 1173) (.str (S "cachetools") 1765)), #[]⟩
def kf_1177 (P : Params) : Obj :=
  let _ := P
  ⟨(.type "dict"), none, .dict #[en P "__module__" 1786 (.str (S "cachetools") 1765), en P "__firstlineno__" 1790 (.int 643 1789), en P "__slots__" 1795 (.ref 1152), en P "__init__" 1804 (.ref 1160), en P "__reduce__" 1811 (.ref 1167), en P "unlink" 1820 (.ref 1174), en P "__static_attributes__" 1823 (.ref 1175), en P "expires" 1825 (.ref 1179), en P "key" 1827 (.ref 1180), en P "next" 1829 (.ref 1181), en P "prev" 1831 (.ref 1182), en P "__doc__" 1832 .none] 6, #[]⟩
def kf_1178 (P : Params) : Obj :=
  let _ := P
  ⟨(.type "type"), none, .cls { name := S "_Link", bases := [(.type "object")], mro := [(.ref 1178), (.type "object")], ns := 1177, qualname := S "TTLCache._Link", hasDict := false, slotNames := [S "expires", S "key", S "next", S "prev"], subclasses := [], abstract := false, collection := none, hasDel := false }, #[none, none, (some (.str (S "_Link") 1779)), (some (.str (S "TTLCache._Link") 1787)), (some (.builtin "object.__new__")), (some (.bool false))]⟩
def kf_1179 (P : Params) : Obj :=
  let _ := P
  ⟨(.type "member_descriptor"), none, .fields #[(.str (S "expires") 1824), (.ref 1178), (.builtin "proto.slot"), (.builtin "proto.slot#set"), (.int 3 0)], #[]⟩
def kf_1180 (P : Params) : Obj :=
  let _ := P
  ⟨(.type "member_descriptor"), none, .fields #[(.str (S "key") 1826), (.ref 1178), (.builtin "proto.slot"), (.builtin "proto.slot#set"), (.int 2 0)], #[]⟩
def kf_1181 (P : Params) : Obj :=
  let _ := P
  ⟨(.type "member_descriptor"), none, .fields #[(.str (S "next") 1828), (.ref 1178), (.builtin "proto.slot"), (.builtin "proto.slot#set"), (.int 1 0)], #[]⟩
def kf_1182 (P : Params) : Obj :=
  let _ := P
  ⟨(.type "member_descriptor"), none, .fields #[(.str (S "prev") 1830), (.ref 1178), (.builtin "proto.slot"), (.builtin "proto.slot#set"), (.int 0 0)], #[]⟩
def kf_1185 (P : Params) : Obj :=
  let _ := P
  ⟨(.type "tuple"), none, .seq #[(.ref 1137), .none] 0, #[]⟩
def kf_1191 (P : Params) : Obj :=
  let _ := P
  ⟨(.type "code"), none, .fields #[(.str (S "__init__") 1835), (.str (S "TTLCache.__init__") 1836), (.str (S "/claim/cut.py") 1837), (.int 659 0), (.int 5 0), (.int 0 0), (.int 0 0), (.int 3 0), (.ref 1186), (.bool true), (.int 383 0), (.ref 1187), .none, (.ref 1188), (.ref 1189), (.ref 1190), (.int 1844 0), (.int 659 0), (.str (S "/claim/cut.py") 1845)], #[]⟩
def kf_1192 (P : Params) : Obj :=
  let _ := P
  ⟨(.type "function"), none, .func (fnD "__init__" "TTLCache.__init__" [41, 1] (.ref 1185) (.ref 1191) (.str (S "cachetools") 1765)), #[]⟩
def kf_1198 (P : Params) : Obj :=
  let _ := P
  ⟨(.type "code"), none, .fields #[(.str (S "__contains__") 1847), (.str (S "TTLCache.__contains__") 1848), (.str (S "/claim/cut.py") 1849), (.int 666 0), (.int 2 0), (.int 0 0), (.int 0 0), (.int 3 0), (.ref 1193), (.bool true), (.int 383 0), (.ref 1194), .none, (.ref 1195), (.ref 1196), (.ref 1197), (.int 1853 0), (.int 666 0), (.str (S "/claim/cut.py") 1854)], #[]⟩
def kf_1199 (P : Params) : Obj :=
  let _ := P
  ⟨(.type "function"), none, .func (fnD "__contains__" "TTLCache.__contains__" [41, 2] .none (.ref 1198) (.str (S "cachetools") 1765)), #[]⟩
def kf_1200 (P : Params) : Obj :=
  let _ := P
  ⟨(.type "tuple"), none, .seq #[(.ref 763)] 0, #[]⟩
def kf_1206 (P : Params) : Obj :=
  let _ := P
  ⟨(.type "code"), none, .fields #[(.str (S "__getitem__") 1857), (.str (S "TTLCache.__getitem__") 1858), (.str (S "/claim/cut.py") 1859), (.int 674 0), (.int 3 0), (.int 0 0), (.int 0 0), (.int 3 0), (.ref 1201), (.bool true), (.int 383 0), (.ref 1202), .none, (.ref 1203), (.ref 1204), (.ref 1205), (.int 1865 0), (.int 674 0), (.str (S "/claim/cut.py") 1866)], #[]⟩
def kf_1207 (P : Params) : Obj :=
  let _ := P
  ⟨(.type "function"), none, .func (fnD "__getitem__" "TTLCache.__getitem__" [41, 3] (.ref 1200) (.ref 1206) (.str (S "cachetools") 1765)), #[]⟩
def kf_1208 (P : Params) : Obj :=
  let _ := P
  ⟨(.type "tuple"), none, .seq #[(.ref 770)] 0, #[]⟩
def kf_1214 (P : Params) : Obj :=
  let _ := P
  ⟨(.type "code"), none, .fields #[(.str (S "__setitem__") 1869), (.str (S "TTLCache.__setitem__") 1870), (.str (S "/claim/cut.py") 1871), (.int 686 0), (.int 4 0), (.int 0 0), (.int 0 0), (.int 3 0), (.ref 1209), (.bool true), (.int 383 0), (.ref 1210), .none, (.ref 1211), (.ref 1212), (.ref 1213), (.int 1882 0), (.int 686 0), (.str (S "/claim/cut.py") 1883)], #[]⟩
def kf_1215 (P : Params) : Obj :=
  let _ := P
  ⟨(.type "function"), none, .func (fnD "__setitem__" "TTLCache.__setitem__" [41, 4] (.ref 1208) (.ref 1214) (.str (S "cachetools") 1765)), #[]⟩
def kf_1216 (P : Params) : Obj :=
  let _ := P
  ⟨(.type "tuple"), none, .seq #[(.ref 777)] 0, #[]⟩
def kf_1222 (P : Params) : Obj :=
  let _ := P
  ⟨(.type "code"), none, .fields #[(.str (S "__delitem__") 1886), (.str (S "TTLCache.__delitem__") 1887), (.str (S "/claim/cut.py") 1888), (.int 703 0), (.int 3 0), (.int 0 0), (.int 0 0), (.int 3 0), (.ref 1217), (.bool true), (.int 383 0), (.ref 1218), .none, (.ref 1219), (.ref 1220), (.ref 1221), (.int 1893 0), (.int 703 0), (.str (S "/claim/cut.py") 1894)], #[]⟩
def kf_1223 (P : Params) : Obj :=
  let _ := P
  ⟨(.type "function"), none, .func (fnD "__delitem__" "TTLCache.__delitem__" [41, 5] (.ref 1216) (.ref 1222) (.str (S "cachetools") 1765)), #[]⟩
def kf_1229 (P : Params) : Obj :=
  let _ := P
  ⟨(.type "code"), none, .fields #[(.str (S "__iter__") 1896), (.str (S "TTLCache.__iter__") 1897), (.str (S "/claim/cut.py") 1898), (.int 710 0), (.int 1 0), (.int 0 0), (.int 0 0), (.int 35 0), (.ref 1224), (.bool true), (.int 383 0), (.ref 1225), .none, (.ref 1226), (.ref 1227), (.ref 1228), (.int 1903 0), (.int 710 0), (.str (S "/claim/cut.py") 1904)], #[]⟩
def kf_1230 (P : Params) : Obj :=
  let _ := P
  ⟨(.type "function"), none, .func (fnD "__iter__" "TTLCache.__iter__" [41, 6] .none (.ref 1229) (.str (S "cachetools") 1765)), #[]⟩
def kf_1236 (P : Params) : Obj :=
  let _ := P
  ⟨(.type "code"), none, .fields #[(.str (S "__setstate__") 1906), (.str (S "TTLCache.__setstate__") 1907), (.str (S "/claim/cut.py") 1908), (.int 719 0), (.int 2 0), (.int 0 0), (.int 0 0), (.int 3 0), (.ref 1231), (.bool true), (.int 383 0), (.ref 1232), .none, (.ref 1233), (.ref 1234), (.ref 1235), (.int 1914 0), (.int 719 0), (.str (S "/claim/cut.py") 1915)], #[]⟩
def kf_1237 (P : Params) : Obj :=
  let _ := P
  ⟨(.type "function"), none, .func (fnD "__setstate__" "TTLCache.__setstate__" [41, 7] .none (.ref 1236) (.str (S "cachetools") 1765)), #[]⟩
def kf_1243 (P : Params) : Obj :=
  let _ := P
  ⟨(.type "code"), none, .fields #[(.str (S "ttl") 1917), (.str (S "TTLCache.ttl") 1918), (.str (S "/claim/cut.py") 1919), (.int 729 0), (.int 1 0), (.int 0 0), (.int 0 0), (.int 3 0), (.ref 1238), (.bool true), (.int 383 0), (.ref 1239), .none, (.ref 1240), (.ref 1241), (.ref 1242), (.int 1921 0), (.int 729 0), (.str (S "/claim/cut.py") 1922)], #[]⟩
def kf_1244 (P : Params) : Obj :=
  let _ := P
  ⟨(.type "function"), none, .func (fnD "ttl" "TTLCache.ttl" [41, 8] .none (.ref 1243) (.str (S "cachetools") 1765)), #[]⟩
def kf_1245 (P : Params) : Obj :=
  let _ := P
  ⟨(.type "property"), none, .fields #[(.ref 1244), .none, .none, .none, (.str (S "ttl") 1924), (.bool false)], #[]⟩
def kf_1246 (P : Params) : Obj :=
  let _ := P
  ⟨(.type "tuple"), none, .seq #[.none] 0, #[]⟩
def kf_1252 (P : Params) : Obj :=
  let _ := P
  ⟨(.type "code"), none, .fields #[(.str (S "expire") 1925), (.str (S "TTLCache.expire") 1926), (.str (S "/claim/cut.py") 1927), (.int 733 0), (.int 2 0), (.int 0 0), (.int 0 0), (.int 3 0), (.ref 1247), (.bool true), (.int 383 0), (.ref 1248), .none, (.ref 1249), (.ref 1250), (.ref 1251), (.int 1937 0), (.int 733 0), (.str (S "/claim/cut.py") 1938)], #[]⟩
def kf_1253 (P : Params) : Obj :=
  let _ := P
  ⟨(.type "function"), none, .func (fnD "expire" "TTLCache.expire" [41, 9] (.ref 1246) (.ref 1252) (.str (S "cachetools") 1765)), #[]⟩
def kf_1259 (P : Params) : Obj :=
  let _ := P
  ⟨(.type "code"), none, .fields #[(.str (S "popitem") 1940), (.str (S "TTLCache.popitem") 1941), (.str (S "/claim/cut.py") 1942), (.int 753 0), (.int 1 0), (.int 0 0), (.int 0 0), (.int 3 0), (.ref 1254), (.bool true), (.int 383 0), (.ref 1255), .none, (.ref 1256), (.ref 1257), (.ref 1258), (.int 1947 0), (.int 753 0), (.str (S "/claim/cut.py") 1948)], #[]⟩
def kf_1260 (P : Params) : Obj :=
  let _ := P
  ⟨(.type "function"), none, .func (fnD "popitem" "TTLCache.popitem" [41, 10] .none (.ref 1259) (.str (S "cachetools") 1765)), #[]⟩
def kf_1266 (P : Params) : Obj :=
  let _ := P
  ⟨(.type "code"), none, .fields #[(.str (S "clear") 1950), (.str (S "TTLCache.clear") 1951), (.str (S "/claim/cut.py") 1952), (.int 765 0), (.int 1 0), (.int 0 0), (.int 0 0), (.int 3 0), (.ref 1261), (.bool true), (.int 383 0), (.ref 1262), .none, (.ref 1263), (.ref 1264), (.ref 1265), (.int 1954 0), (.int 765 0), (.str (S "/claim/cut.py") 1955)], #[]⟩
def kf_1267 (P : Params) : Obj :=
  let _ := P
  ⟨(.type "function"), none, .func (fnD "clear" "TTLCache.clear" [41, 11] .none (.ref 1266) (.str (S "cachetools") 1765)), #[]⟩
def kf_1269 (P : Params) : Obj :=
  let _ := P
  ⟨(.type "dict"), none, .dict #[en P "__module__" 1774 (.str (S "cachetools") 1765), en P "__firstlineno__" 1778 (.int 641 1777), en P "_Link" 1834 (.ref 1178), en P "__init__" 1846 (.ref 1192), en P "__contains__" 1855 (.ref 1199), en P "__getitem__" 1867 (.ref 1207), en P "__setitem__" 1884 (.ref 1215), en P "__delitem__" 1895 (.ref 1223), en P "__iter__" 1905 (.ref 1230), en P "__setstate__" 1916 (.ref 1237), en P "ttl" 1924 (.ref 1245), en P "expire" 1939 (.ref 1253), en P "popitem" 1949 (.ref 1260), en P "clear" 1956 (.ref 1267), en P "__static_attributes__" 1960 (.ref 1268), en P "__doc__" 1961 .none] 2, #[]⟩
def kf_1270 (P : Params) : Obj :=
  let _ := P
  ⟨(.ref 124), none, .cls { name := S "TTLCache", bases := [(.ref 1128)], mro := [(.ref 1270), (.ref 1128), (.ref 865), (.ref 730), (.ref 478), (.ref 290), (.ref 231), (.ref 201), (.ref 267), (.type "object")], ns := 1269, qualname := S "TTLCache", hasDict := true, slotNames := [], subclasses := [], abstract := false, collection := none, hasDel := false }, #[(some (.ref 1138)), none, (some (.str (S "TTLCache") 1767)), (some (.str (S "TTLCache") 1775)), (some (.builtin "object.__new__")), (some (.bool true))]⟩
def kf_1379 (P : Params) : Obj :=
  let _ := P
  ⟨(.type "tuple"), none, .seq #[.none, .none] 0, #[]⟩
def kf_1385 (P : Params) : Obj :=
  let _ := P
  ⟨(.type "code"), none, .fields #[(.str (S "__init__") 2117), (.str (S "TLRUCache._Item.__init__") 2118), (.str (S "/claim/cut.py") 2119), (.int 866 0), (.int 3 0), (.int 0 0), (.int 0 0), (.int 3 0), (.ref 1380), (.bool true), (.int 383 0), (.ref 1381), .none, (.ref 1382), (.ref 1383), (.ref 1384), (.int 2123 0), (.int 866 0), (.str (S "/claim/cut.py") 2124)], #[]⟩
def kf_1386 (P : Params) : Obj :=
  let _ := P
  ⟨(.type "function"), none, .func (fnD "__init__" "TLRUCache._Item.__init__" [57, 1, 1] (.ref 1379) (.ref 1385) (.str (S "cachetools") 2085)), #[]⟩
def kf_1392 (P : Params) : Obj :=
  let _ := P
  ⟨(.type "code"), none, .fields #[(.str (S "__lt__") 2126), (.str (S "TLRUCache._Item.__lt__") 2127), (.str (S "/claim/cut.py") 2128), (.int 871 0), (.int 2 0), (.int 0 0), (.int 0 0), (.int 3 0), (.ref 1387), (.bool true), (.int 383 0), (.ref 1388), .none, (.ref 1389), (.ref 1390), (.ref 1391), (.int 2131 0), (.int 871 0), (.str (S "/claim/cut.py") 2132)], #[]⟩
def kf_1393 (P : Params) : Obj :=
  let _ := P
  ⟨(.type "function"), none, .func (fnD "__lt__" "TLRUCache._Item.__lt__" [57, 1, 2] .none (.ref 1392) (.str (S "cachetools") 2085)), #[]⟩
def kf_1396 (P : Params) : Obj :=
  let _ := P
  ⟨(.type "dict"), none, .dict #[en P "__module__" 2108 (.str (S "cachetools") 2085), en P "__firstlineno__" 2112 (.int 862 2111), en P "__slots__" 2116 (.ref 1378), en P "__init__" 2125 (.ref 1386), en P "__lt__" 2133 (.ref 1393), en P "__static_attributes__" 2137 (.ref 1394), en P "expires" 2139 (.ref 1398), en P "key" 2141 (.ref 1399), en P "removed" 2143 (.ref 1400), en P "__doc__" 2144 .none, en P "__gt__" 2160 (.ref 1279), en P "__le__" 2162 (.ref 1286), en P "__ge__" 2164 (.ref 1293)] 8, #[]⟩
def kf_1397 (P : Params) : Obj :=
  let _ := P
  ⟨(.type "type"), none, .cls { name := S "_Item", bases := [(.type "object")], mro := [(.ref 1397), (.type "object")], ns := 1396, qualname := S "TLRUCache._Item", hasDict := false, slotNames := [S "expires", S "key", S "removed"], subclasses := [], abstract := false, collection := none, hasDel := false }, #[none, none, (some (.str (S "_Item") 2101)), (some (.str (S "TLRUCache._Item") 2109)), (some (.builtin "object.__new__")), (some (.bool false))]⟩
def kf_1398 (P : Params) : Obj :=
  let _ := P
  ⟨(.type "member_descriptor"), none, .fields #[(.str (S "expires") 2138), (.ref 1397), (.builtin "proto.slot"), (.builtin "proto.slot#set"), (.int 2 0)], #[]⟩
def kf_1399 (P : Params) : Obj :=
  let _ := P
  ⟨(.type "member_descriptor"), none, .fields #[(.str (S "key") 2140), (.ref 1397), (.builtin "proto.slot"), (.builtin "proto.slot#set"), (.int 1 0)], #[]⟩
def kf_1400 (P : Params) : Obj :=
  let _ := P
  ⟨(.type "member_descriptor"), none, .fields #[(.str (S "removed") 2142), (.ref 1397), (.builtin "proto.slot"), (.builtin "proto.slot#set"), (.int 0 0)], #[]⟩
def kf_1404 (P : Params) : Obj :=
  let _ := P
  ⟨(.type "tuple"), none, .seq #[(.ref 1137), .none] 0, #[]⟩
def kf_1410 (P : Params) : Obj :=
  let _ := P
  ⟨(.type "code"), none, .fields #[(.str (S "__init__") 2166), (.str (S "TLRUCache.__init__") 2167), (.str (S "/claim/cut.py") 2168), (.int 874 0), (.int 5 0), (.int 0 0), (.int 0 0), (.int 3 0), (.ref 1405), (.bool true), (.int 383 0), (.ref 1406), .none, (.ref 1407), (.ref 1408), (.ref 1409), (.int 2174 0), (.int 874 0), (.str (S "/claim/cut.py") 2175)], #[]⟩
def kf_1411 (P : Params) : Obj :=
  let _ := P
  ⟨(.type "function"), none, .func (fnD "__init__" "TLRUCache.__init__" [57, 2] (.ref 1404) (.ref 1410) (.str (S "cachetools") 2085)), #[]⟩
def kf_1417 (P : Params) : Obj :=
  let _ := P
  ⟨(.type "code"), none, .fields #[(.str (S "__contains__") 2177), (.str (S "TLRUCache.__contains__") 2178), (.str (S "/claim/cut.py") 2179), (.int 880 0), (.int 2 0), (.int 0 0), (.int 0 0), (.int 3 0), (.ref 1412), (.bool true), (.int 383 0), (.ref 1413), .none, (.ref 1414), (.ref 1415), (.ref 1416), (.int 2183 0), (.int 880 0), (.str (S "/claim/cut.py") 2184)], #[]⟩
def kf_1418 (P : Params) : Obj :=
  let _ := P
  ⟨(.type "function"), none, .func (fnD "__contains__" "TLRUCache.__contains__" [57, 3] .none (.ref 1417) (.str (S "cachetools") 2085)), #[]⟩
def kf_1419 (P : Params) : Obj :=
  let _ := P
  ⟨(.type "tuple"), none, .seq #[(.ref 763)] 0, #[]⟩
def kf_1425 (P : Params) : Obj :=
  let _ := P
  ⟨(.type "code"), none, .fields #[(.str (S "__getitem__") 2187), (.str (S "TLRUCache.__getitem__") 2188), (.str (S "/claim/cut.py") 2189), (.int 888 0), (.int 3 0), (.int 0 0), (.int 0 0), (.int 3 0), (.ref 1420), (.bool true), (.int 383 0), (.ref 1421), .none, (.ref 1422), (.ref 1423), (.ref 1424), (.int 2195 0), (.int 888 0), (.str (S "/claim/cut.py") 2196)], #[]⟩
def kf_1426 (P : Params) : Obj :=
  let _ := P
  ⟨(.type "function"), none, .func (fnD "__getitem__" "TLRUCache.__getitem__" [57, 4] (.ref 1419) (.ref 1425) (.str (S "cachetools") 2085)), #[]⟩
def kf_1427 (P : Params) : Obj :=
  let _ := P
  ⟨(.type "tuple"), none, .seq #[(.ref 770)] 0, #[]⟩
def kf_1433 (P : Params) : Obj :=
  let _ := P
  ⟨(.type "code"), none, .fields #[(.str (S "__setitem__") 2199), (.str (S "TLRUCache.__setitem__") 2200), (.str (S "/claim/cut.py") 2201), (.int 900 0), (.int 4 0), (.int 0 0), (.int 0 0), (.int 3 0), (.ref 1428), (.bool true), (.int 383 0), (.ref 1429), .none, (.ref 1430), (.ref 1431), (.ref 1432), (.int 2210 0), (.int 900 0), (.str (S "/claim/cut.py") 2211)], #[]⟩
def kf_1434 (P : Params) : Obj :=
  let _ := P
  ⟨(.type "function"), none, .func (fnD "__setitem__" "TLRUCache.__setitem__" [57, 5] (.ref 1427) (.ref 1433) (.str (S "cachetools") 2085)), #[]⟩
def kf_1435 (P : Params) : Obj :=
  let _ := P
  ⟨(.type "tuple"), none, .seq #[(.ref 777)] 0, #[]⟩
def kf_1441 (P : Params) : Obj :=
  let _ := P
  ⟨(.type "code"), none, .fields #[(.str (S "__delitem__") 2214), (.str (S "TLRUCache.__delitem__") 2215), (.str (S "/claim/cut.py") 2216), (.int 915 0), (.int 3 0), (.int 0 0), (.int 0 0), (.int 3 0), (.ref 1436), (.bool true), (.int 383 0), (.ref 1437), .none, (.ref 1438), (.ref 1439), (.ref 1440), (.int 2222 0), (.int 915 0), (.str (S "/claim/cut.py") 2223)], #[]⟩
def kf_1442 (P : Params) : Obj :=
  let _ := P
  ⟨(.type "function"), none, .func (fnD "__delitem__" "TLRUCache.__delitem__" [57, 6] (.ref 1435) (.ref 1441) (.str (S "cachetools") 2085)), #[]⟩
def kf_1448 (P : Params) : Obj :=
  let _ := P
  ⟨(.type "code"), none, .fields #[(.str (S "__iter__") 2225), (.str (S "TLRUCache.__iter__") 2226), (.str (S "/claim/cut.py") 2227), (.int 923 0), (.int 1 0), (.int 0 0), (.int 0 0), (.int 35 0), (.ref 1443), (.bool true), (.int 383 0), (.ref 1444), .none, (.ref 1445), (.ref 1446), (.ref 1447), (.int 2231 0), (.int 923 0), (.str (S "/claim/cut.py") 2232)], #[]⟩
def kf_1449 (P : Params) : Obj :=
  let _ := P
  ⟨(.type "function"), none, .func (fnD "__iter__" "TLRUCache.__iter__" [57, 7] .none (.ref 1448) (.str (S "cachetools") 2085)), #[]⟩
def kf_1455 (P : Params) : Obj :=
  let _ := P
  ⟨(.type "code"), none, .fields #[(.str (S "ttu") 2234), (.str (S "TLRUCache.ttu") 2235), (.str (S "/claim/cut.py") 2236), (.int 929 0), (.int 1 0), (.int 0 0), (.int 0 0), (.int 3 0), (.ref 1450), (.bool true), (.int 383 0), (.ref 1451), .none, (.ref 1452), (.ref 1453), (.ref 1454), (.int 2238 0), (.int 929 0), (.str (S "/claim/cut.py") 2239)], #[]⟩
def kf_1456 (P : Params) : Obj :=
  let _ := P
  ⟨(.type "function"), none, .func (fnD "ttu" "TLRUCache.ttu" [57, 8] .none (.ref 1455) (.str (S "cachetools") 2085)), #[]⟩
def kf_1457 (P : Params) : Obj :=
  let _ := P
  ⟨(.type "property"), none, .fields #[(.ref 1456), .none, .none, .none, (.str (S "ttu") 2241), (.bool false)], #[]⟩
def kf_1458 (P : Params) : Obj :=
  let _ := P
  ⟨(.type "tuple"), none, .seq #[.none] 0, #[]⟩
def kf_1462 (P : Params) : Obj :=
  let _ := P
  ⟨(.type "code"), none, .fields #[(.str (S "expire") 2242), (.str (S "TLRUCache.expire") 2243), (.str (S "/claim/cut.py") 2244), (.int 933 0), (.int 2 0), (.int 0 0), (.int 0 0), (.int 3 0), (.ref 1459), (.bool true), (.int 383 0), (.ref 1460), .none, .none, .none, (.ref 1461), (.int 2245 0), (.int 933 0), (.str (S "/claim/cut.py") 2246)], #[]⟩
def kf_1463 (P : Params) : Obj :=
  let _ := P
  ⟨(.type "function"), none, .func (fnD "expire" "TLRUCache.expire" [57, 9] (.ref 1458) (.ref 1462) (.str (S "cachetools") 2085)), #[]⟩
def kf_1469 (P : Params) : Obj :=
  let _ := P
  ⟨(.type "code"), none, .fields #[(.str (S "popitem") 2248), (.str (S "TLRUCache.popitem") 2249), (.str (S "/claim/cut.py") 2250), (.int 954 0), (.int 1 0), (.int 0 0), (.int 0 0), (.int 3 0), (.ref 1464), (.bool true), (.int 383 0), (.ref 1465), .none, (.ref 1466), (.ref 1467), (.ref 1468), (.int 2255 0), (.int 954 0), (.str (S "/claim/cut.py") 2256)], #[]⟩
def kf_1470 (P : Params) : Obj :=
  let _ := P
  ⟨(.type "function"), none, .func (fnD "popitem" "TLRUCache.popitem" [57, 10] .none (.ref 1469) (.str (S "cachetools") 2085)), #[]⟩
def kf_1476 (P : Params) : Obj :=
  let _ := P
  ⟨(.type "code"), none, .fields #[(.str (S "clear") 2258), (.str (S "TLRUCache.clear") 2259), (.str (S "/claim/cut.py") 2260), (.int 966 0), (.int 1 0), (.int 0 0), (.int 0 0), (.int 3 0), (.ref 1471), (.bool true), (.int 383 0), (.ref 1472), .none, (.ref 1473), (.ref 1474), (.ref 1475), (.int 2262 0), (.int 966 0), (.str (S "/claim/cut.py") 2263)], #[]⟩
def kf_1477 (P : Params) : Obj :=
  let _ := P
  ⟨(.type "function"), none, .func (fnD "clear" "TLRUCache.clear" [57, 11] .none (.ref 1476) (.str (S "cachetools") 2085)), #[]⟩
def kf_1478 (P : Params) : Obj :=
  let _ := P
  ⟨(.type "tuple"), none, .seq #[(.ref 777)] 0, #[]⟩
def kf_1484 (P : Params) : Obj :=
  let _ := P
  ⟨(.type "code"), none, .fields #[(.str (S "__delitem") 2266), (.str (S "TLRUCache.__delitem") 2267), (.str (S "/claim/cut.py") 2268), (.int 969 0), (.int 3 0), (.int 0 0), (.int 0 0), (.int 3 0), (.ref 1479), (.bool true), (.int 383 0), (.ref 1480), .none, (.ref 1481), (.ref 1482), (.ref 1483), (.int 2272 0), (.int 969 0), (.str (S "/claim/cut.py") 2273)], #[]⟩
def kf_1485 (P : Params) : Obj :=
  let _ := P
  ⟨(.type "function"), none, .func (fnD "__delitem" "TLRUCache.__delitem" [57, 12] (.ref 1478) (.ref 1484) (.str (S "cachetools") 2085)), #[]⟩
def kf_1487 (P : Params) : Obj :=
  let _ := P
  ⟨(.type "dict"), none, .dict #[en P "__module__" 2094 (.str (S "cachetools") 2085), en P "__firstlineno__" 2098 (.int 859 2097), en P "_TLRUCache__HEAP_CLEANUP_FACTOR" 2100 (.int 2 2099), en P "_Item" 2165 (.ref 1397), en P "__init__" 2176 (.ref 1411), en P "__contains__" 2185 (.ref 1418), en P "__getitem__" 2197 (.ref 1426), en P "__setitem__" 2212 (.ref 1434), en P "__delitem__" 2224 (.ref 1442), en P "__iter__" 2233 (.ref 1449), en P "ttu" 2241 (.ref 1457), en P "expire" 2247 (.ref 1463), en P "popitem" 2257 (.ref 1470), en P "clear" 2264 (.ref 1477), en P "_TLRUCache__delitem" 2274 (.ref 1485), en P "__static_attributes__" 2278 (.ref 1486), en P "__doc__" 2279 .none] 2, #[]⟩
def kf_1488 (P : Params) : Obj :=
  let _ := P
  ⟨(.ref 124), none, .cls { name := S "TLRUCache", bases := [(.ref 1128)], mro := [(.ref 1488), (.ref 1128), (.ref 865), (.ref 730), (.ref 478), (.ref 290), (.ref 231), (.ref 201), (.ref 267), (.type "object")], ns := 1487, qualname := S "TLRUCache", hasDict := true, slotNames := [], subclasses := [], abstract := false, collection := none, hasDel := false }, #[(some (.ref 1364)), none, (some (.str (S "TLRUCache") 2087)), (some (.str (S "TLRUCache") 2095)), (some (.builtin "object.__new__")), (some (.bool true))]⟩
def kf_1496 (P : Params) : Obj :=
  let _ := P
  ⟨(.type "code"), none, .fields #[(.str (S "_law_clock") 2284), (.str (S "_law_clock") 2285), (.str (S "/claim/cut.py") 2286), (.int 977 0), (.int 0 0), (.int 0 0), (.int 0 0), (.int 3 0), (.ref 1491), (.bool true), (.int 383 0), (.ref 1492), .none, (.ref 1493), (.ref 1494), (.ref 1495), (.int 2287 0), (.int 977 0), (.str (S "/claim/cut.py") 2288)], #[]⟩
def kf_1497 (P : Params) : Obj :=
  let _ := P
  ⟨(.type "function"), none, .func (fnD "_law_clock" "_law_clock" [59] .none (.ref 1496) (.str (S "law_bg0032_02") 2282)), #[]⟩
def kf_1503 (P : Params) : Obj :=
  let _ := P
  ⟨(.type "code"), none, .fields #[(.str (S "_law_end") 2290), (.str (S "_law_end") 2291), (.str (S "/claim/cut.py") 2292), (.int 979 0), (.int 3 0), (.int 0 0), (.int 0 0), (.int 3 0), (.ref 1498), (.bool true), (.int 383 0), (.ref 1499), .none, (.ref 1500), (.ref 1501), (.ref 1502), (.int 2296 0), (.int 979 0), (.str (S "/claim/cut.py") 2297)], #[]⟩
def kf_1504 (P : Params) : Obj :=
  let _ := P
  ⟨(.type "function"), none, .func (fnD "_law_end" "_law_end" [60] .none (.ref 1503) (.str (S "law_bg0032_02") 2282)), #[]⟩
def kf_1510 (P : Params) : Obj :=
  let _ := P
  ⟨(.type "code"), none, .fields #[(.str (S "_law_made") 2299), (.str (S "_law_made") 2300), (.str (S "/claim/cut.py") 2301), (.int 981 0), (.int 2 0), (.int 0 0), (.int 0 0), (.int 3 0), (.ref 1505), (.bool true), (.int 383 0), (.ref 1506), .none, (.ref 1507), (.ref 1508), (.ref 1509), (.int 2304 0), (.int 981 0), (.str (S "/claim/cut.py") 2305)], #[]⟩
def kf_1511 (P : Params) : Obj :=
  let _ := P
  ⟨(.type "function"), none, .func (fnD "_law_made" "_law_made" [61] .none (.ref 1510) (.str (S "law_bg0032_02") 2282)), #[]⟩
def kf_1515 (P : Params) : Obj :=
  let _ := P
  ⟨(.type "code"), none, .fields #[(.str (S "law") 2307), (.str (S "law") 2308), (.str (S "/claim/cut.py") 2309), (.int 987 0), (.int 1 0), (.int 0 0), (.int 0 0), (.int 3 0), (.ref 1512), (.bool true), (.int 383 0), (.ref 1513), .none, .none, .none, (.ref 1514), (.int 2310 0), (.int 987 0), (.str (S "/claim/cut.py") 2311)], #[]⟩
def kf_1516 (P : Params) : Obj :=
  let _ := P
  ⟨(.type "function"), none, .func (fnD "law" "law" [62] .none (.ref 1515) (.str (S "law_bg0032_02") 2282)), #[]⟩
def kf (P : Params) : Frag := [(nat_lit 2, kf_2 P),
  (nat_lit 3, kf_3 P),
  (nat_lit 90, kf_90 P),
  (nat_lit 91, kf_91 P),
  (nat_lit 123, kf_123 P),
  (nat_lit 124, kf_124 P),
  (nat_lit 200, kf_200 P),
  (nat_lit 201, kf_201 P),
  (nat_lit 230, kf_230 P),
  (nat_lit 231, kf_231 P),
  (nat_lit 266, kf_266 P),
  (nat_lit 267, kf_267 P),
  (nat_lit 289, kf_289 P),
  (nat_lit 290, kf_290 P),
  (nat_lit 477, kf_477 P),
  (nat_lit 478, kf_478 P),
  (nat_lit 729, kf_729 P),
  (nat_lit 730, kf_730 P),
  (nat_lit 741, kf_741 P),
  (nat_lit 742, kf_742 P),
  (nat_lit 748, kf_748 P),
  (nat_lit 749, kf_749 P),
  (nat_lit 755, kf_755 P),
  (nat_lit 756, kf_756 P),
  (nat_lit 762, kf_762 P),
  (nat_lit 763, kf_763 P),
  (nat_lit 769, kf_769 P),
  (nat_lit 770, kf_770 P),
  (nat_lit 776, kf_776 P),
  (nat_lit 777, kf_777 P),
  (nat_lit 783, kf_783 P),
  (nat_lit 784, kf_784 P),
  (nat_lit 790, kf_790 P),
  (nat_lit 791, kf_791 P),
  (nat_lit 797, kf_797 P),
  (nat_lit 798, kf_798 P),
  (nat_lit 804, kf_804 P),
  (nat_lit 805, kf_805 P),
  (nat_lit 806, kf_806 P),
  (nat_lit 812, kf_812 P),
  (nat_lit 813, kf_813 P),
  (nat_lit 814, kf_814 P),
  (nat_lit 820, kf_820 P),
  (nat_lit 821, kf_821 P),
  (nat_lit 822, kf_822 P),
  (nat_lit 828, kf_828 P),
  (nat_lit 829, kf_829 P),
  (nat_lit 835, kf_835 P),
  (nat_lit 836, kf_836 P),
  (nat_lit 842, kf_842 P),
  (nat_lit 843, kf_843 P),
  (nat_lit 844, kf_844 P),
  (nat_lit 850, kf_850 P),
  (nat_lit 851, kf_851 P),
  (nat_lit 852, kf_852 P),
  (nat_lit 858, kf_858 P),
  (nat_lit 859, kf_859 P),
  (nat_lit 861, kf_861 P),
  (nat_lit 864, kf_864 P),
  (nat_lit 865, kf_865 P),
  (nat_lit 877, kf_877 P),
  (nat_lit 883, kf_883 P),
  (nat_lit 884, kf_884 P),
  (nat_lit 885, kf_885 P),
  (nat_lit 891, kf_891 P),
  (nat_lit 892, kf_892 P),
  (nat_lit 893, kf_893 P),
  (nat_lit 899, kf_899 P),
  (nat_lit 900, kf_900 P),
  (nat_lit 906, kf_906 P),
  (nat_lit 907, kf_907 P),
  (nat_lit 913, kf_913 P),
  (nat_lit 914, kf_914 P),
  (nat_lit 916, kf_916 P),
  (nat_lit 917, kf_917 P),
  (nat_lit 927, kf_927 P),
  (nat_lit 933, kf_933 P),
  (nat_lit 934, kf_934 P),
  (nat_lit 935, kf_935 P),
  (nat_lit 941, kf_941 P),
  (nat_lit 942, kf_942 P),
  (nat_lit 943, kf_943 P),
  (nat_lit 949, kf_949 P),
  (nat_lit 950, kf_950 P),
  (nat_lit 951, kf_951 P),
  (nat_lit 957, kf_957 P),
  (nat_lit 958, kf_958 P),
  (nat_lit 964, kf_964 P),
  (nat_lit 965, kf_965 P),
  (nat_lit 971, kf_971 P),
  (nat_lit 972, kf_972 P),
  (nat_lit 978, kf_978 P),
  (nat_lit 979, kf_979 P),
  (nat_lit 981, kf_981 P),
  (nat_lit 982, kf_982 P),
  (nat_lit 1005, kf_1005 P),
  (nat_lit 1006, kf_1006 P),
  (nat_lit 1012, kf_1012 P),
  (nat_lit 1013, kf_1013 P),
  (nat_lit 1019, kf_1019 P),
  (nat_lit 1020, kf_1020 P),
  (nat_lit 1026, kf_1026 P),
  (nat_lit 1027, kf_1027 P),
  (nat_lit 1033, kf_1033 P),
  (nat_lit 1034, kf_1034 P),
  (nat_lit 1040, kf_1040 P),
  (nat_lit 1041, kf_1041 P),
  (nat_lit 1043, kf_1043 P),
  (nat_lit 1044, kf_1044 P),
  (nat_lit 1049, kf_1049 P),
  (nat_lit 1055, kf_1055 P),
  (nat_lit 1056, kf_1056 P),
  (nat_lit 1057, kf_1057 P),
  (nat_lit 1063, kf_1063 P),
  (nat_lit 1064, kf_1064 P),
  (nat_lit 1065, kf_1065 P),
  (nat_lit 1071, kf_1071 P),
  (nat_lit 1072, kf_1072 P),
  (nat_lit 1081, kf_1081 P),
  (nat_lit 1087, kf_1087 P),
  (nat_lit 1088, kf_1088 P),
  (nat_lit 1089, kf_1089 P),
  (nat_lit 1095, kf_1095 P),
  (nat_lit 1096, kf_1096 P),
  (nat_lit 1102, kf_1102 P),
  (nat_lit 1103, kf_1103 P),
  (nat_lit 1109, kf_1109 P),
  (nat_lit 1110, kf_1110 P),
  (nat_lit 1116, kf_1116 P),
  (nat_lit 1117, kf_1117 P),
  (nat_lit 1118, kf_1118 P),
  (nat_lit 1124, kf_1124 P),
  (nat_lit 1125, kf_1125 P),
  (nat_lit 1127, kf_1127 P),
  (nat_lit 1128, kf_1128 P),
  (nat_lit 1153, kf_1153 P),
  (nat_lit 1159, kf_1159 P),
  (nat_lit 1160, kf_1160 P),
  (nat_lit 1166, kf_1166 P),
  (nat_lit 1167, kf_1167 P),
  (nat_lit 1173, kf_1173 P),
  (nat_lit 1174, kf_1174 P),
  (nat_lit 1177, kf_1177 P),
  (nat_lit 1178, kf_1178 P),
  (nat_lit 1179, kf_1179 P),
  (nat_lit 1180, kf_1180 P),
  (nat_lit 1181, kf_1181 P),
  (nat_lit 1182, kf_1182 P),
  (nat_lit 1185, kf_1185 P),
  (nat_lit 1191, kf_1191 P),
  (nat_lit 1192, kf_1192 P),
  (nat_lit 1198, kf_1198 P),
  (nat_lit 1199, kf_1199 P),
  (nat_lit 1200, kf_1200 P),
  (nat_lit 1206, kf_1206 P),
  (nat_lit 1207, kf_1207 P),
  (nat_lit 1208, kf_1208 P),
  (nat_lit 1214, kf_1214 P),
  (nat_lit 1215, kf_1215 P),
  (nat_lit 1216, kf_1216 P),
  (nat_lit 1222, kf_1222 P),
  (nat_lit 1223, kf_1223 P),
  (nat_lit 1229, kf_1229 P),
  (nat_lit 1230, kf_1230 P),
  (nat_lit 1236, kf_1236 P),
  (nat_lit 1237, kf_1237 P),
  (nat_lit 1243, kf_1243 P),
  (nat_lit 1244, kf_1244 P),
  (nat_lit 1245, kf_1245 P),
  (nat_lit 1246, kf_1246 P),
  (nat_lit 1252, kf_1252 P),
  (nat_lit 1253, kf_1253 P),
  (nat_lit 1259, kf_1259 P),
  (nat_lit 1260, kf_1260 P),
  (nat_lit 1266, kf_1266 P),
  (nat_lit 1267, kf_1267 P),
  (nat_lit 1269, kf_1269 P),
  (nat_lit 1270, kf_1270 P),
  (nat_lit 1379, kf_1379 P),
  (nat_lit 1385, kf_1385 P),
  (nat_lit 1386, kf_1386 P),
  (nat_lit 1392, kf_1392 P),
  (nat_lit 1393, kf_1393 P),
  (nat_lit 1396, kf_1396 P),
  (nat_lit 1397, kf_1397 P),
  (nat_lit 1398, kf_1398 P),
  (nat_lit 1399, kf_1399 P),
  (nat_lit 1400, kf_1400 P),
  (nat_lit 1404, kf_1404 P),
  (nat_lit 1410, kf_1410 P),
  (nat_lit 1411, kf_1411 P),
  (nat_lit 1417, kf_1417 P),
  (nat_lit 1418, kf_1418 P),
  (nat_lit 1419, kf_1419 P),
  (nat_lit 1425, kf_1425 P),
  (nat_lit 1426, kf_1426 P),
  (nat_lit 1427, kf_1427 P),
  (nat_lit 1433, kf_1433 P),
  (nat_lit 1434, kf_1434 P),
  (nat_lit 1435, kf_1435 P),
  (nat_lit 1441, kf_1441 P),
  (nat_lit 1442, kf_1442 P),
  (nat_lit 1448, kf_1448 P),
  (nat_lit 1449, kf_1449 P),
  (nat_lit 1455, kf_1455 P),
  (nat_lit 1456, kf_1456 P),
  (nat_lit 1457, kf_1457 P),
  (nat_lit 1458, kf_1458 P),
  (nat_lit 1462, kf_1462 P),
  (nat_lit 1463, kf_1463 P),
  (nat_lit 1469, kf_1469 P),
  (nat_lit 1470, kf_1470 P),
  (nat_lit 1476, kf_1476 P),
  (nat_lit 1477, kf_1477 P),
  (nat_lit 1478, kf_1478 P),
  (nat_lit 1484, kf_1484 P),
  (nat_lit 1485, kf_1485 P),
  (nat_lit 1487, kf_1487 P),
  (nat_lit 1488, kf_1488 P),
  (nat_lit 1496, kf_1496 P),
  (nat_lit 1497, kf_1497 P),
  (nat_lit 1503, kf_1503 P),
  (nat_lit 1504, kf_1504 P),
  (nat_lit 1510, kf_1510 P),
  (nat_lit 1511, kf_1511 P),
  (nat_lit 1515, kf_1515 P),
  (nat_lit 1516, kf_1516 P)]
def kfas : List Addr := [2, 3, 90, 91, 123, 124, 200, 201, 230, 231, 266, 267, 289, 290, 477, 478, 729, 730, 741, 742, 748, 749, 755, 756, 762, 763, 769, 770, 776, 777, 783, 784, 790, 791, 797, 798, 804, 805, 806, 812, 813, 814, 820, 821, 822, 828, 829, 835, 836, 842, 843, 844, 850, 851, 852, 858, 859, 861, 864, 865, 877, 883, 884, 885, 891, 892, 893, 899, 900, 906, 907, 913, 914, 916, 917, 927, 933, 934, 935, 941, 942, 943, 949, 950, 951, 957, 958, 964, 965, 971, 972, 978, 979, 981, 982, 1005, 1006, 1012, 1013, 1019, 1020, 1026, 1027, 1033, 1034, 1040, 1041, 1043, 1044, 1049, 1055, 1056, 1057, 1063, 1064, 1065, 1071, 1072, 1081, 1087, 1088, 1089, 1095, 1096, 1102, 1103, 1109, 1110, 1116, 1117, 1118, 1124, 1125, 1127, 1128, 1153, 1159, 1160, 1166, 1167, 1173, 1174, 1177, 1178, 1179, 1180, 1181, 1182, 1185, 1191, 1192, 1198, 1199, 1200, 1206, 1207, 1208, 1214, 1215, 1216, 1222, 1223, 1229, 1230, 1236, 1237, 1243, 1244, 1245, 1246, 1252, 1253, 1259, 1260, 1266, 1267, 1269, 1270, 1379, 1385, 1386, 1392, 1393, 1396, 1397, 1398, 1399, 1400, 1404, 1410, 1411, 1417, 1418, 1419, 1425, 1426, 1427, 1433, 1434, 1435, 1441, 1442, 1448, 1449, 1455, 1456, 1457, 1458, 1462, 1463, 1469, 1470, 1476, 1477, 1478, 1484, 1485, 1487, 1488, 1496, 1497, 1503, 1504, 1510, 1511, 1515, 1516]


end
-- RK1
section
set_option maxRecDepth 100000
set_option maxHeartbeats 0
def qq : Program := view pw [62]
def ll : List Str := pw.boundNames.filter fun n => !(n == ("law" : Str))
theorem runK (w : World) : pipe Fast.tw14789777615569096658 Fast.tw10295753902157049106 Fast.tw14289696077712309145 Fast.tw1435165496053646825 Fast.tw14364793385576792824 (fun mods s => Fast.tw4187177175401517315 qq ll mods (fun _ => true) true s) pw kfas 1403 13968 w = some (true, openGood qq ll, (kf w.params).map fun p => some p.2) := by
  kernel_rfl

end
-- HE1
section
set_option maxRecDepth 100000
set_option maxHeartbeats 0
theorem left1 : LeftO pw qq ll (fun _ => true) (fun s => kfas.map s.heap.get?) (fun w => (kf w.params).map fun p => some p.2) (1403 + 1 + (13968 + 1)) :=
  left_of_fast _ Fast.te14789777615569096658 Fast.te10295753902157049106 Fast.te14289696077712309145 Fast.te1435165496053646825 Fast.te14364793385576792824 Fast.te4187177175401517315 runK

end
-- HF1
section
set_option maxRecDepth 100000
set_option maxHeartbeats 400000
theorem kfas_is : ∀ P, kfas = (kf P).map (·.1) := fun P => by kernel_rfl
theorem chains : chainsOk qq = true := by kernel_rfl
theorem opens1 : (opensWell pw && (frees PySem.Challenge.rw_bg0032_02.row.toRowW && PySem.Challenge.rw_bg0032_02.row.toRowW.within.isEmpty)) = true := by decide +kernel
theorem bare1 : pw.bare := ⟨rfl, rfl, rfl, rfl, rfl, by decide +kernel⟩
theorem promised1 : PySem.Challenge.rw_bg0032_02.row.toRowW.promised := by w_witness2

end
-- HS1
section
set_option maxRecDepth 100000
set_option maxHeartbeats 0
theorem fastSaid : @OpenLaw.wellSaid = @Fast.tw9446332074065402090 := Fast.te9446332074065402090
theorem said1' : Fast.tw9446332074065402090 PySem.Challenge.rw_bg0032_02 = true := by
  kernel_rfl
theorem said1 : PySem.Challenge.rw_bg0032_02.wellSaid = true := by
  have h := said1'
  rw [← fastSaid] at h
  exact h

end
-- HG1
section
set_option maxRecDepth 100000
set_option maxHeartbeats 400000
abbrev rw1 : OpenLaw := PySem.Challenge.rw_bg0032_02
def posOf : Stmt → Pos
  | .FunctionDef _ _ _ _ _ _ _ _ _ p => p
  | _ => default
def lawD : DefRec := ⟨S "law", paramsOf (stP [62]), inside (stP [62]), scopeOf (stP [62]), posOf (stP [62])⟩
theorem defOf1 : defOf qq (S "law") = some (lawD, []) := by kernel_rfl
theorem theDef1 : pw.theDef (S "law") = some (lawD.params, lawD.body, lawD.scope) := by kernel_rfl
theorem kws1 : kwWritten? lawD.params.kwonlyargs lawD.params.kw_defaults = some [] := by kernel_rfl
theorem law_of_walk (walk : WalkO qq ll (fun _ _ => True) (fun w h => (kf w.params).In h) rw1.row.toRowW lawD [] fun f vs => PySem.call f vs) : rw1.Holds :=
  holds_law said1 fun said => PySem.W.holds_open (r := rw1.row) left1 (fun w s e => InK.of kfas_is w s e) (fun w h h' => InK.keeps w h h') (fun _ _ => trivial) (fun _ _ _ _ _ => trivial)
    defOf1 theDef1 kws1 (fun s _ => recFacts_nil rfl) rfl said (by rw [chains]; exact opens1) bare1 promised1 walk

end
-- DK1
section

/-- keys of any kind, mixed: by value (ints, texts) or tuples -/
structure AnyKind (prog : Program) (w : World) (K : Type) [DecidableEq K] where
  is : Heap → K → Value → Prop
  hash : K → Int
  draws : K → Nat
  inj : ∀ {h : Heap} {v : Value} {x y : K}, is h x v → is h y v → x = y
  keeps : ∀ {h h' : Heap} {k : K} {v : Value} {d : Addr} {o : Obj} {es ep}, is h k v → h.get? d = some o → o.data = .dict es ep → Heap.SameBut d h h' → is h' k v
  grows : ∀ {h h' : Heap} {k : K} {v : Value}, is h k v → h.StaysIn h' → is h' k v
  pyHash : ∀ {A : Around} {E : Value → Shared → Prop} {s : Shared} {k : K} {v : Value} {Q : Int → Shared → Prop}, A.units < cLine → is s.heap k v → Q (hash k) { s with toks := s.toks + draws k } →
    wpAny (model prog w) A (PySem.pyHash v) Q E s
  eqBool : ∀ {A : Around} {E : Value → Shared → Prop} {s : Shared} {x y : K} {u v : Value} {Q : Bool → Shared → Prop}, A.units < cLine → is s.heap x u → is s.heap y v → Q (decide (x = y)) s →
    wpAny (model prog w) A (PySem.eqBool u v) Q E s
  quiet : ∀ {A : Around} {E : Value → Shared → Prop} {s : Shared} {k : K} {v : Value} {Q : Bool → Shared → Prop}, is s.heap k v → Q true s → wpAny (model prog w) A (eqIsQuiet 8 v) Q E s
  ofStr : ∀ {h : Heap} {k k' : K} {x : Str} {t : Tok} {v : Value}, is h k (.str x t) → is h k' v → v.isStr x = decide (k' = k)

section
variable {prog : Program} {w : World} {K : Type} [DecidableEq K] (knd : AnyKind prog w K)
def entK (x : K × Value × Value) : DictEntry := ⟨knd.hash x.1, x.2.1, x.2.2⟩
def DictK (h : Heap) (d : Addr) (xs : List (K × Value × Value)) : Prop :=
  ∃ o es ep, h.get? d = some o ∧ o.ExactDict ∧ o.data = .dict es ep ∧ es.toList = xs.map (entK knd) ∧ (∀ x ∈ xs, knd.is h x.1 x.2.1) ∧ (xs.map (·.1)).Nodup
variable {knd}
theorem entK_at {es : Array DictEntry} {xs : List (K × Value × Value)} (he : es.toList = xs.map (entK knd)) (j : Nat) : es[j]? = (xs[j]?).map (entK knd) := by
  rw [← Array.getElem?_toList, he, List.getElem?_map]
theorem entK_size {es : Array DictEntry} {xs : List (K × Value × Value)} (he : es.toList = xs.map (entK knd)) : es.size = xs.length := by
  rw [← Array.length_toList, he, List.length_map]
theorem DictK.typeIs {s : Shared} {d : Addr} {xs : List (K × Value × Value)} (hm : DictK knd s.heap d xs) : s.TypeIs (.ref d) "dict" :=
  let ⟨o, _, _, ho, hc, _⟩ := hm; ⟨o, ho, hc.1⟩
theorem idxK_unique {xs : List (K × Value × Value)} (hn : (xs.map (·.1)).Nodup) : ∀ {i j : Nat} {k : K} {p q : Value × Value}, xs[i]? = some (k, p) → xs[j]? = some (k, q) → i = j := by
  intro i j k p q hi hj
  have hi' : (xs.map (·.1))[i]? = some k := by rw [List.getElem?_map, hi]; rfl
  have hj' : (xs.map (·.1))[j]? = some k := by rw [List.getElem?_map, hj]; rfl
  exact (List.getElem?_inj (List.getElem?_eq_some_iff.mp hi').1 hn).mp (hi'.trans hj'.symm)

variable {A : Around} {E : Value → Shared → Prop} {s : Shared}
theorem mayTellK {key : Value} {k : K} {stored : List Value} {Q : Bool → Shared → Prop} (hkey : knd.is s.heap k key)
    (hst : ∀ v ∈ stored, ∃ k', knd.is s.heap k' v) (h : Q false s) : wpAny (model prog w) A (tableMayTell key stored) Q E s := by
  unfold tableMayTell
  split
  · exact wpAny_pure h
  · refine wpAny_bind (knd.quiet hkey ?_)
    simp only [Bool.not_true, Bool.false_eq_true, if_false]
    refine wpAny_bind ?_
    refine wpAny_forIn_list _ (fun rest r s' => s' = s ∧ r = (none, ()) ∧ ∀ v ∈ rest, ∃ k', knd.is s.heap k' v) _ ?_ ?_ _ _ ⟨rfl, rfl, hst⟩
    · rintro x rest r s' ⟨rfl, rfl, hr⟩
      obtain ⟨k', hb⟩ := hr x List.mem_cons_self
      refine wpAny_bind (knd.quiet hb ?_)
      simp only [Bool.not_true, Bool.false_eq_true, if_false]
      exact wpAny_pure ⟨rfl, rfl, fun v hv => hr v (List.mem_cons_of_mem _ hv)⟩
    · rintro r s' ⟨rfl, rfl, _⟩
      exact wpAny_pure h

theorem dictFindK {d : Addr} {key : Value} {o : Obj} {es ep} {xs : List (K × Value × Value)} {k : K} {Q : Option Nat → Shared → Prop} (hu : A.units < cLine) (hkey : knd.is s.heap k key)
    (ho : s.heap.get? d = some o) (hd : o.data = .dict es ep) (he : es.toList = xs.map (entK knd)) (his : ∀ x ∈ xs, knd.is s.heap x.1 x.2.1) (hn : (xs.map (·.1)).Nodup)
    (hnone : (∀ (j : Nat) (p : Value × Value), xs[j]? ≠ some (k, p)) → Q none s) (hsome : ∀ (j : Nat) (p : Value × Value), xs[j]? = some (k, p) → Q (some j) s) :
    wpAny (model prog w) A (dictFind d key (knd.hash k)) Q E s := by
  have hsz : es.size = xs.length := entK_size he
  have haskey : ∀ (j : Nat) (p : Value × Value), xs[j]? = some (k, p) → ((es[j]?.map (·.hash)) == some (knd.hash k)) = true := by
    intro j p hj
    rw [entK_at he j, hj]
    simp [entK]
  have hmem : ∀ e ∈ es, ∃ x ∈ xs, e = entK knd x := by
    intro e hin
    have : e ∈ xs.map (entK knd) := he ▸ Array.mem_toList_iff.mpr hin
    obtain ⟨x, hx, rfl⟩ := List.mem_map.mp this
    exact ⟨x, hx, rfl⟩
  have hany : ¬ (es.any fun e => e.key == key && e.hash != knd.hash k) = true := by
    rw [← Array.any_toList, List.any_eq_true]
    rintro ⟨e, hin, hc⟩
    obtain ⟨x, hx, rfl⟩ := hmem e (Array.mem_toList_iff.mp hin)
    simp only [entK, Bool.and_eq_true, beq_iff_eq, bne_iff_ne, ne_eq] at hc
    obtain ⟨hxa, hne⟩ := hc
    have := his x hx
    rw [hxa] at this
    exact hne (by rw [knd.inj this hkey])
  have hst : ∀ v ∈ (placesWithHash es.size (fun i => es[i]?.map (·.hash)) (knd.hash k)).filterMap (fun i => es[i]?.map (·.key)), ∃ k', knd.is s.heap k' v := by
    intro v hv
    obtain ⟨i, _, hi⟩ := List.mem_filterMap.mp hv
    cases hei : es[i]? with
    | none => rw [hei] at hi; cases hi
    | some e =>
      rw [hei] at hi
      obtain rfl : e.key = v := by simpa using hi
      obtain ⟨x, hx, rfl⟩ := hmem e (Array.mem_of_getElem? hei)
      exact ⟨x.1, his x hx⟩
  have hatx : ∀ x, x < es.size → ∃ k' v' u', xs[x]? = some (k', v', u') ∧ knd.is s.heap k' v' ∧ es[x]? = some ⟨knd.hash k', v', u'⟩ := by
    intro x hlt
    obtain ⟨⟨k', b, v'⟩, hkv⟩ : ∃ y, xs[x]? = some y := ⟨xs[x]'(by rw [← hsz]; exact hlt), List.getElem?_eq_getElem _⟩
    exact ⟨k', b, v', hkv, his _ (List.mem_of_getElem? hkv), by rw [entK_at he x, hkv]; rfl⟩
  -- the loop by value
  have plain : wpAny (model prog w) A (dictWalkPlain d key (knd.hash k) es (placesWithHash es.size (fun i => es[i]?.map (·.hash)) (knd.hash k))) Q E s := by
    unfold dictWalkPlain
    refine wpAny_bind ?_
    refine wpAny_forIn_list _
      (fun rest b s' => s' = s ∧ b = (none, ()) ∧ ∃ i, rest = (List.range' i (es.size - i)).filter (fun i => (es[i]?.map (·.hash)) == some (knd.hash k)) ∧ i ≤ es.size ∧
        ∀ j p, j < i → xs[j]? ≠ some (k, p)) _ ?_ ?_ _ _
      ⟨rfl, rfl, 0, by rw [placesWithHash, List.range_eq_range', Nat.sub_zero], Nat.zero_le _, fun _ _ h => absurd h (Nat.not_lt_zero _)⟩
    · rintro x rest b s' ⟨rfl, rfl, i, hr, hi, hno⟩
      obtain ⟨hix, hxn, hpx, hskip, hrest⟩ := filter_range'_cons _ _ _ _ _ hr.symm
      have hlt : x < es.size := by omega
      obtain ⟨k', v', u', hkv, hib, hex⟩ := hatx x hlt
      have hnox : ∀ j p, j < x → xs[j]? ≠ some (k, p) := fun j p hjx hj => by
        rcases Nat.lt_or_ge j i with h | h
        · exact hno j p h hj
        · have := hskip j h hjx
          rw [haskey j p hj] at this
          exact absurd this (by decide)
      have hnext : ¬ k' = k → ∃ i, rest = (List.range' i (es.size - i)).filter (fun i => (es[i]?.map (·.hash)) == some (knd.hash k)) ∧ i ≤ es.size ∧ ∀ j p, j < i → xs[j]? ≠ some (k, p) := fun hne =>
        ⟨x + 1, by rw [hrest]; congr 2; omega, hlt, fun j p hji hj => by
          rcases Nat.lt_or_ge j x with h | h
          · exact hnox j p h hj
          · have : j = x := by omega
            subst this
            rw [hkv] at hj
            injection hj with hj
            injection hj with hj
            exact hne hj⟩
      rw [hex]
      dsimp only
      by_cases hh : (knd.hash k' == knd.hash k) = true
      · rw [if_pos hh]
        refine wpAny_bind (wpAny_dictEpoch ho hd (wpAny_bind (knd.eqBool (x := k') (y := k) hu hib hkey (wpAny_bind (wpAny_dictEpoch ho hd ?_)))))
        show wpAny _ _ (if (ep != ep) = true then _ else _) _ E _
        rw [if_neg (by simp)]
        by_cases hkk : k' = k
        · rw [decide_eq_true hkk]
          subst hkk
          exact wpAny_bind (wpAny_rule (wpAny_pure (wpAny_pure (hsome x _ hkv))))
        · rw [decide_eq_false hkk]
          exact wpAny_bind (wpAny_rule (wpAny_pure ⟨rfl, rfl, hnext hkk⟩))
      · rw [if_neg hh]
        refine wpAny_pure ⟨rfl, rfl, hnext ?_⟩
        intro hkk
        rw [hkk] at hh; simp at hh
    · rintro b s' ⟨rfl, rfl, i, hr, hi, hno⟩
      refine wpAny_pure (hnone fun j p hj => ?_)
      rcases Nat.lt_or_ge j i with h | h
      · exact hno j p h hj
      · have hjl : j < es.size := by
          rw [hsz]
          rcases Nat.lt_or_ge j xs.length with h' | h'
          · exact h'
          · rw [List.getElem?_eq_none h'] at hj; exact nomatch hj
        have := List.filter_eq_nil_iff.mp hr.symm j (List.mem_range'_1.mpr ⟨h, by omega⟩)
        rw [haskey j p hj] at this
        exact absurd rfl this
  -- the loop that asks all of one hash
  have asks : ∀ tells : Bool, tells = false → wpAny (model prog w) A (do
      let mut hit : Option Nat := none
      for i in placesWithHash es.size (fun i => es[i]?.map (·.hash)) (knd.hash k) do
        if let some e := es[i]? then
          if e.hash == knd.hash k then
            let before ← dictEpoch d (keyPart key)
            let same ← eqBool e.key key
            if (← dictEpoch d (keyPart key)) != before then unsupported "dict.changed-during-lookup"
            if same then
              if hit.isSome then unsupported "dict.find:order-among-keys-of-one-hash"
              rule "dict.find.hit"
              if ((placesWithHash es.size (fun i => es[i]?.map (·.hash)) (knd.hash k)).filterMap (fun i => es[i]?.map (·.key))).length < 2 then return some i
              hit := some i
            else
              rule "dict.find.same-hash-other-key"
              if tells && !(0 ≤ knd.hash k && knd.hash k < 32) then unsupported "dict.find:asked-again-or-not-hangs-on-the-table"
      return hit) Q E s := by
    rintro tells rfl
    refine wpAny_bind ?_
    refine wpAny_forIn_list _
      (fun rest b s' => s' = s ∧ ∃ i hit, b = (none, hit) ∧ rest = (List.range' i (es.size - i)).filter (fun i => (es[i]?.map (·.hash)) == some (knd.hash k)) ∧ i ≤ es.size ∧
        ((hit = none ∧ ∀ j p, j < i → xs[j]? ≠ some (k, p)) ∨ ∃ j p, hit = some j ∧ j < i ∧ xs[j]? = some (k, p))) _ ?_ ?_ _ _
      ⟨rfl, 0, none, rfl, by rw [placesWithHash, List.range_eq_range', Nat.sub_zero], Nat.zero_le _, .inl ⟨rfl, fun _ _ h => absurd h (Nat.not_lt_zero _)⟩⟩
    · rintro x rest b s' ⟨rfl, i, hit, rfl, hr, hi, hH⟩
      obtain ⟨hix, hxn, hpx, hskip, hrest⟩ := filter_range'_cons _ _ _ _ _ hr.symm
      have hlt : x < es.size := by omega
      have hrest' : rest = (List.range' (x + 1) (es.size - (x + 1))).filter (fun i => (es[i]?.map (·.hash)) == some (knd.hash k)) := by rw [hrest]; congr 2; omega
      obtain ⟨k', b, v', hkv, hib, hex⟩ := hatx x hlt
      have hHx : (hit = none ∧ ∀ j p, j < x → xs[j]? ≠ some (k, p)) ∨ ∃ j p, hit = some j ∧ j < x ∧ xs[j]? = some (k, p) := by
        rcases hH with ⟨h0, hno⟩ | ⟨j, p, h1, hji, hj⟩
        · refine .inl ⟨h0, fun j p hjx hj => ?_⟩
          rcases Nat.lt_or_ge j i with h | h
          · exact hno j p h hj
          · have := hskip j h hjx
            rw [haskey j p hj] at this
            exact absurd this (by decide)
        · exact .inr ⟨j, p, h1, by omega, hj⟩
      have hstay : ¬ k' = k → ((hit = none ∧ ∀ j p, j < x + 1 → xs[j]? ≠ some (k, p)) ∨ ∃ j p, hit = some j ∧ j < x + 1 ∧ xs[j]? = some (k, p)) := by
        intro hne
        rcases hHx with ⟨h0, hno⟩ | ⟨j, p, h1, hjx, hj⟩
        · refine .inl ⟨h0, fun j p hjx hj => ?_⟩
          rcases Nat.lt_or_ge j x with h | h
          · exact hno j p h hj
          · have hjx' : j = x := by omega
            subst hjx'
            rw [hkv] at hj
            injection hj with hj
            injection hj with hj
            exact hne hj
        · exact .inr ⟨j, p, h1, by omega, hj⟩
      rw [hex]
      dsimp only
      by_cases hh : (knd.hash k' == knd.hash k) = true
      · rw [if_pos hh]
        refine wpAny_bind (wpAny_dictEpoch ho hd (wpAny_bind (knd.eqBool (x := k') (y := k) hu hib hkey (wpAny_bind (wpAny_dictEpoch ho hd ?_)))))
        show wpAny _ _ (if (ep != ep) = true then _ else _) _ E _
        rw [if_neg (by simp)]
        by_cases hkk : k' = k
        · rw [decide_eq_true hkk]
          subst hkk
          rcases hHx with ⟨rfl, _⟩ | ⟨j, p, _, hjx, hj⟩
          · first | rw [if_pos rfl] | skip
            simp only [Option.isSome_none, Bool.false_eq_true, if_false]
            first | refine wpAny_bind (wpAny_pure ?_) | skip
            refine wpAny_bind (wpAny_rule ?_)
            split
            · exact wpAny_pure (wpAny_pure (hsome x _ hkv))
            · exact wpAny_pure ⟨rfl, x + 1, some x, rfl, hrest', hlt, .inr ⟨x, _, rfl, Nat.lt_succ_self x, hkv⟩⟩
          · exact absurd (idxK_unique hn hj hkv) (by omega)
        · rw [decide_eq_false hkk]
          simp only [Bool.false_eq_true, if_false]
          refine wpAny_bind (wpAny_rule ?_)
          first | rw [if_neg (by simp)] | skip
          first
            | exact wpAny_pure ⟨rfl, x + 1, hit, rfl, hrest', hlt, hstay hkk⟩
            | exact wpAny_bind (wpAny_pure (wpAny_pure ⟨rfl, x + 1, hit, rfl, hrest', hlt, hstay hkk⟩))
      · rw [if_neg hh]
        refine wpAny_pure ⟨rfl, x + 1, hit, rfl, hrest', hlt, hstay ?_⟩
        intro hkk
        rw [hkk] at hh; simp at hh
    · rintro b s' ⟨rfl, i, hit, rfl, hr, hi, hH⟩
      have hall : ∀ j, i ≤ j → j < es.size → ((es[j]?.map (·.hash)) == some (knd.hash k)) = false := by
        intro j h1 h2
        have := List.filter_eq_nil_iff.mp hr.symm j (List.mem_range'_1.mpr ⟨h1, by omega⟩)
        simpa using this
      rcases hH with ⟨rfl, hno⟩ | ⟨j, p, rfl, _, hj⟩
      · refine wpAny_pure (hnone fun j p hj => ?_)
        rcases Nat.lt_or_ge j i with h | h
        · exact hno j p h hj
        · have hjl : j < es.size := by
            rw [hsz]
            rcases Nat.lt_or_ge j xs.length with h' | h'
            · exact h'
            · rw [List.getElem?_eq_none h'] at hj; exact nomatch hj
          have := hall j h hjl
          rw [haskey j p hj] at this
          exact absurd this (by decide)
      · exact wpAny_pure (hsome j p hj)
  -- all texts
  have found : ∀ x t, key = .str x t → wpAny (model prog w) A (foundByValue d key es x) Q E s := by
    rintro x t rfl
    have hisStr : ∀ (j : Nat) (k' : K) (v' u' : Value), xs[j]? = some (k', v', u') → v'.isStr x = decide (k' = k) := fun j k' v' u' hj => knd.ofStr hkey (his _ (List.mem_of_getElem? hj))
    unfold foundByValue
    cases hf : es.findIdx? (fun e => e.key.isStr x) with
    | none =>
      refine wpAny_pure (hnone fun j p hj => ?_)
      have hnon := Array.findIdx?_eq_none_iff.mp hf
      have hx := entK_at he j
      rw [hj] at hx
      have h1 := hnon _ (Array.mem_of_getElem? hx)
      have h2 := hisStr j k p.1 p.2 hj
      rw [show (entK knd (k, p)).key = p.1 from rfl, h2] at h1
      simp at h1
    | some j =>
      obtain ⟨hlt, h1, _⟩ := Array.findIdx?_eq_some_iff_getElem.mp hf
      obtain ⟨k', v', u', hkv, hib, hex⟩ := hatx j hlt
      have hkk : k' = k := by
        have h2 := hisStr j k' v' u' hkv
        have h3 : es[j] = ⟨knd.hash k', v', u'⟩ := by
          rw [Array.getElem?_eq_getElem hlt] at hex
          exact Option.some.inj hex
        rw [h3] at h1
        dsimp only at h1
        rw [h1] at h2
        exact of_decide_eq_true h2.symm
      subst hkk
      dsimp only
      rw [hex]
      dsimp only
      refine wpAny_bind (wpAny_dictEpoch ho hd (wpAny_bind (knd.eqBool (x := k') (y := k') hu hib hkey (wpAny_bind (wpAny_dictEpoch ho hd ?_)))))
      show wpAny _ _ (if (ep != ep) = true then _ else _) _ E _
      rw [if_neg (by simp)]
      simp only [decide_true, if_true]
      exact wpAny_bind (wpAny_rule (wpAny_pure (hsome j _ hkv)))
  unfold dictFind
  try with_reducible refine wpAny_holding ?_
  refine wpAny_bind (wpAny_dictEntries ho hd ?_)
  dsimp only
  have two : ∀ x t, key = .str x t → (es.all fun e => isExactStrKey e.key) = true ∨ ¬ (es.all fun e => isExactStrKey e.key) = true := fun _ _ _ => Decidable.em _
  by_cases hall : ((key :: (placesWithHash es.size (fun i => es[i]?.map (·.hash)) (knd.hash k)).filterMap fun i => es[i]?.map (·.key)).all carriedByValue) = true
  · cases key with
    | str x t =>
      dsimp only
      rcases two x t rfl with h | h
      · rw [if_pos h]; exact found x t rfl
      · rw [if_neg h, if_pos hall]; exact plain
    | _ => dsimp only; rw [if_pos hall]; exact plain
  · by_cases hone : (((placesWithHash es.size (fun i => es[i]?.map (·.hash)) (knd.hash k)).filterMap (fun i => es[i]?.map (·.key))) == [key]) = true
    · cases key with
      | str x t =>
        dsimp only
        rcases two x t rfl with h | h
        · rw [if_pos h]; exact found x t rfl
        · rw [if_neg h, if_neg hall, if_pos hone]
          refine wpAny_bind (wpAny_pure ?_)
          rw [if_neg (by simp)]
          exact asks false rfl
      | ref a =>
        dsimp only
        rw [if_neg hall, if_neg hany, if_pos hone]
        refine wpAny_bind (wpAny_pure ?_)
        rw [if_neg (by simp)]
        exact asks false rfl
      | _ =>
        dsimp only
        rw [if_neg hall, if_pos hone]
        refine wpAny_bind (wpAny_pure ?_)
        rw [if_neg (by simp)]
        exact asks false rfl
    · cases key with
      | str x t =>
        dsimp only
        rcases two x t rfl with h | h
        · rw [if_pos h]; exact found x t rfl
        · rw [if_neg h, if_neg hall, if_neg hone]
          refine wpAny_bind (mayTellK hkey hst ?_)
          rw [if_neg (by simp)]
          exact asks false rfl
      | ref a =>
        dsimp only
        rw [if_neg hall, if_neg hany, if_neg hone]
        refine wpAny_bind (mayTellK hkey hst ?_)
        rw [if_neg (by simp)]
        exact asks false rfl
      | _ =>
        dsimp only
        rw [if_neg hall, if_neg hone]
        refine wpAny_bind (mayTellK hkey hst ?_)
        rw [if_neg (by simp)]
        exact asks false rfl
end

end
-- DK2
section
section
variable {K : Type} [DecidableEq K]
def atK (xs : List (K × Value × Value)) (k : K) : Option (Value × Value) := (xs.find? fun x => decide (x.1 = k)).map (·.2)
def putAtK (k : K) (v : Value) (x : K × Value × Value) : K × Value × Value := if x.1 = k then (x.1, x.2.1, v) else x
def putK (xs : List (K × Value × Value)) (k : K) (kv v : Value) : List (K × Value × Value) :=
  if (atK xs k).isSome then xs.map (putAtK k v) else xs ++ [(k, kv, v)]
def delK (xs : List (K × Value × Value)) (k : K) : List (K × Value × Value) := xs.filter fun x => !decide (x.1 = k)

theorem atK_of_get {xs : List (K × Value × Value)} (hn : (xs.map (·.1)).Nodup) {i : Nat} {k : K} {p : Value × Value} (hx : xs[i]? = some (k, p)) : atK xs k = some p := by
  induction xs generalizing i with
  | nil => simp at hx
  | cons x rest ih =>
    rw [List.map_cons, List.nodup_cons] at hn
    cases i with
    | zero =>
      simp only [List.getElem?_cons_zero, Option.some.injEq] at hx
      subst hx; simp [atK]
    | succ j =>
      simp only [List.getElem?_cons_succ] at hx
      have hmem : k ∈ rest.map (·.1) := List.mem_map.mpr ⟨(k, p), List.mem_of_getElem? hx, rfl⟩
      have hne : ¬ x.1 = k := fun e => hn.1 (e ▸ hmem)
      have := ih hn.2 hx
      simpa [atK, List.find?_cons, hne] using this
theorem atK_none {xs : List (K × Value × Value)} {k : K} (h : ∀ (j : Nat) (p : Value × Value), xs[j]? ≠ some (k, p)) : atK xs k = none := by
  have : (xs.find? fun x => decide (x.1 = k)) = none := by
    rw [List.find?_eq_none]
    intro x hx hk
    obtain ⟨j, hj⟩ := List.mem_iff_getElem?.mp hx
    have hk' : x.1 = k := of_decide_eq_true hk
    exact h j x.2 (by rw [hj, ← hk'])
  simp [atK, this]
theorem not_memK {xs : List (K × Value × Value)} {k : K} (h : ∀ (j : Nat) (p : Value × Value), xs[j]? ≠ some (k, p)) : k ∉ xs.map (·.1) := by
  intro hm
  obtain ⟨x, hx, rfl⟩ := List.mem_map.mp hm
  obtain ⟨j, hj⟩ := List.mem_iff_getElem?.mp hx
  exact h j x.2 hj
theorem map_putAtK_of_not_mem (xs : List (K × Value × Value)) (k : K) (v : Value) (hn : k ∉ xs.map (·.1)) : xs.map (putAtK k v) = xs := by
  induction xs with
  | nil => rfl
  | cons x xs ih =>
    simp only [List.map_cons, List.mem_cons, not_or] at hn ⊢
    rw [putAtK, if_neg (fun e => hn.1 e.symm), ih hn.2]
theorem keys_putAtK (xs : List (K × Value × Value)) (k : K) (v : Value) : (xs.map (putAtK k v)).map (·.1) = xs.map (·.1) := by
  induction xs with
  | nil => rfl
  | cons x xs ih =>
    simp only [List.map_cons, ih]
    congr 1
    unfold putAtK
    split <;> rfl
theorem modify_putAtK {β : Type} (f : K × Value × Value → β) (g : β → β) (k : K) (v : Value) (hg : ∀ a v₀, g (f (k, a, v₀)) = f (k, a, v)) :
    ∀ {xs : List (K × Value × Value)} {j : Nat} {p : Value × Value}, (xs.map (·.1)).Nodup → xs[j]? = some (k, p) → (xs.map f).modify j g = (xs.map (putAtK k v)).map f := by
  intro xs
  induction xs with
  | nil => intro j p _ hj; simp at hj
  | cons x rest ih =>
    intro j p hn hj
    rw [List.map_cons, List.nodup_cons] at hn
    cases j with
    | zero =>
      simp only [List.getElem?_cons_zero, Option.some.injEq] at hj
      subst hj
      rw [List.map_cons, List.map_cons, map_putAtK_of_not_mem rest k v hn.1, putAtK, if_pos rfl, List.map_cons]
      show g (f (k, p)) :: rest.map f = f (k, p.1, v) :: rest.map f
      rw [show (k, p) = (k, p.1, p.2) from rfl, hg]
    | succ j =>
      simp only [List.getElem?_cons_succ] at hj
      have hmem : k ∈ rest.map (·.1) := List.mem_map.mpr ⟨(k, p), List.mem_of_getElem? hj, rfl⟩
      have hne : ¬ x.1 = k := fun e => hn.1 (e ▸ hmem)
      rw [List.map_cons, List.modify_succ_cons, ih hn.2 hj, List.map_cons, List.map_cons, putAtK, if_neg hne]
theorem erase_delK : ∀ {xs : List (K × Value × Value)} {j : Nat} {k : K} {p : Value × Value}, (xs.map (·.1)).Nodup → xs[j]? = some (k, p) → xs.eraseIdx j = delK xs k := by
  intro xs
  induction xs with
  | nil => intro j k p _ hj; simp at hj
  | cons x rest ih =>
    intro j k p hn hj
    rw [List.map_cons, List.nodup_cons] at hn
    cases j with
    | zero =>
      simp only [List.getElem?_cons_zero, Option.some.injEq] at hj
      subst hj
      have : delK rest k = rest := by
        unfold delK
        rw [List.filter_eq_self]
        intro y hy
        simp only [Bool.not_eq_true', decide_eq_false_iff_not]
        intro e
        exact hn.1 (List.mem_map.mpr ⟨y, hy, e⟩)
      rw [List.eraseIdx_cons_zero]
      unfold delK at this ⊢
      rw [List.filter_cons]
      simp [this]
    | succ j =>
      simp only [List.getElem?_cons_succ] at hj
      have hmem : k ∈ rest.map (·.1) := List.mem_map.mpr ⟨(k, p), List.mem_of_getElem? hj, rfl⟩
      have hne : ¬ x.1 = k := fun e => hn.1 (e ▸ hmem)
      rw [List.eraseIdx_cons_succ, ih hn.2 hj]
      unfold delK
      rw [List.filter_cons]
      simp [hne]
theorem map_eraseIdx' {α β : Type} (f : α → β) : ∀ (l : List α) (j : Nat), (l.map f).eraseIdx j = (l.eraseIdx j).map f
  | [], _ => rfl
  | _ :: _, 0 => rfl
  | a :: l, j + 1 => by rw [List.map_cons, List.eraseIdx_cons_succ, List.eraseIdx_cons_succ, List.map_cons, map_eraseIdx' f l j]
theorem delK_nodup {xs : List (K × Value × Value)} {k : K} (hn : (xs.map (·.1)).Nodup) : ((delK xs k).map (·.1)).Nodup :=
  hn.sublist (List.Sublist.map _ List.filter_sublist)
end

section
variable {prog : Program} {w : World} {K : Type} [DecidableEq K] {knd : AnyKind prog w K} {A : Around} {E : Value → Shared → Prop} {s : Shared}
theorem dictGetK {d : Addr} {key : Value} {xs : List (K × Value × Value)} {k : K} {Q : Option Value → Shared → Prop} (hu : A.units < cLine) (hkey : knd.is s.heap k key) (hm : DictK knd s.heap d xs)
    (h : Q ((atK xs k).map (·.2)) { s with toks := s.toks + knd.draws k }) : wpAny (model prog w) A (dictGet d key) Q E s := by
  obtain ⟨o, es, ep, ho, _, hd, he, his, hn⟩ := hm
  unfold dictGet
  try with_reducible refine wpAny_holding ?_
  refine wpAny_bind (knd.pyHash hu hkey (wpAny_bind (dictFindK (s := { s with toks := s.toks + knd.draws k }) hu hkey ho hd he his hn ?_ ?_)))
  · intro hno
    rw [atK_none hno] at h
    exact wpAny_pure h
  · intro j p hj
    rw [atK_of_get hn hj] at h
    refine wpAny_bind (wpAny_dictEntries (s := { s with toks := s.toks + knd.draws k }) ho hd ?_)
    rw [entK_at he j, hj]
    exact wpAny_pure h

theorem dictSetK {d : Addr} {key : Value} {xs : List (K × Value × Value)} {k : K} {v : Value} {Q : Unit → Shared → Prop} (hu : A.units < cLine) (hkey : knd.is s.heap k key) (hm : DictK knd s.heap d xs)
    (hQ : ∀ h', DictK knd h' d (putK xs k key v) → Heap.SameBut d s.heap h' → Q () { s with heap := h', toks := s.toks + knd.draws k })
    (hsz : xs.length ≤ sizeLine) :
    wpAny (model prog w) A (dictSet d key v) Q E s := by
  obtain ⟨o, es, ep, ho, hc, hd, he, his, hn⟩ := hm
  unfold dictSet
  try with_reducible refine wpAny_holding ?_
  refine wpAny_bind (knd.pyHash hu hkey ?_)
  unfold dictSetHashed
  try with_reducible refine wpAny_holding ?_
  refine wpAny_bind (dictFindK (s := { s with toks := s.toks + knd.draws k }) hu hkey ho hd he his hn ?_ ?_)
  · intro hno
    have hnot : k ∉ xs.map (·.1) := not_memK hno
    have hput : putK xs k key v = xs ++ [(k, key, v)] := by unfold putK; rw [atK_none hno]; rfl
    refine wpAny_bind (wpAny_rule (wpAny_updateDictKeys (hz := by have e := entK_size he; omega) (s := { s with toks := s.toks + knd.draws k }) ho hd (hQ _ ⟨_, _, ep + 1, Heap.get?_update_self _ ho (Obj.isFreed_of_dict (Obj.data_mapDictKeys hd _)),
      hc.mapDictKeys _, Obj.data_mapDictKeys hd _, ?_, ?_, ?_⟩ (Heap.SameBut.update ..))))
    · rw [hput]
      simp [he, entK]
    · rw [hput]
      intro x hx
      rcases List.mem_append.mp hx with hx | hx
      · exact knd.keeps (his x hx) ho hd (Heap.SameBut.update ..)
      · simp only [List.mem_singleton] at hx
        subst hx
        exact knd.keeps hkey ho hd (Heap.SameBut.update ..)
    · rw [hput]
      rw [List.map_append, List.nodup_append]
      refine ⟨hn, by simp, ?_⟩
      intro x hx y hy
      simp only [List.map_cons, List.map_nil, List.mem_singleton] at hy
      subst hy
      exact fun e => hnot (e ▸ hx)
  · intro j p hj
    have hput : putK xs k key v = xs.map (putAtK k v) := by unfold putK; rw [atK_of_get hn hj]; rfl
    refine wpAny_bind (wpAny_rule (wpAny_bind (wpAny_updateDict (s := { s with toks := s.toks + knd.draws k }) ho hd (wpAny_point (hQ _ ⟨_, _, ep, Heap.get?_update_self _ ho (Obj.isFreed_of_dict (Obj.data_mapDict hd _)),
      hc.mapDict _, Obj.data_mapDict hd _, ?_, ?_, ?_⟩ (Heap.SameBut.update ..))))))
    · rw [hput]
      have := modify_putAtK (entK knd) (fun e : DictEntry => { e with val := v }) k v (fun _ _ => rfl) hn hj
      rw [← he] at this
      obtain ⟨l⟩ := es
      simpa using this
    · rw [hput]
      intro x hx
      obtain ⟨y, hy, rfl⟩ := List.mem_map.mp hx
      unfold putAtK
      split <;> exact knd.keeps (his y hy) ho hd (Heap.SameBut.update ..)
    · rw [hput, keys_putAtK]; exact hn

theorem takeOutK {d : Addr} {key : Value} {xs : List (K × Value × Value)} {k : K} {Q : Option DictEntry → Shared → Prop} (hu : A.units < cLine) (hkey : knd.is s.heap k key) (hm : DictK knd s.heap d xs)
    (hnone : atK xs k = none → Q none { s with toks := s.toks + knd.draws k })
    (hQ : ∀ kv v h', atK xs k = some (kv, v) → DictK knd h' d (delK xs k) → Heap.SameBut d s.heap h' → Q (some ⟨knd.hash k, kv, v⟩) { s with heap := h', toks := s.toks + knd.draws k })
    (hsz : xs.length ≤ sizeLine) :
    wpAny (model prog w) A (Builtin.Dict.takeOut d key) Q E s := by
  obtain ⟨o, es, ep, ho, hc, hd, he, his, hn⟩ := hm
  unfold Builtin.Dict.takeOut
  try with_reducible refine wpAny_holding ?_
  refine wpAny_bind (knd.pyHash hu hkey (wpAny_bind (dictFindK (s := { s with toks := s.toks + knd.draws k }) hu hkey ho hd he his hn ?_ ?_)))
  · intro hno
    exact wpAny_pure (hnone (atK_none hno))
  · intro j p hj
    refine wpAny_bind (wpAny_dictEntries (s := { s with toks := s.toks + knd.draws k }) ho hd ?_)
    rw [entK_at he j, hj]
    dsimp only [Option.map_some]
    refine wpAny_bind (wpAny_updateDictKeys (hz := by have e := entK_size he; omega) (s := { s with toks := s.toks + knd.draws k }) ho hd (wpAny_pure (hQ p.1 p.2 _ (atK_of_get hn hj) ⟨_, _, ep + 1, Heap.get?_update_self _ ho (Obj.isFreed_of_dict (Obj.data_mapDictKeys hd _)),
      hc.mapDictKeys _, Obj.data_mapDictKeys hd _, ?_, ?_, delK_nodup hn⟩ (Heap.SameBut.update ..))))
    · rw [← erase_delK hn hj]
      have hlt : j < es.size := by rw [entK_size he]; exact (List.getElem?_eq_some_iff.mp hj).1
      rw [Array.eraseIdxIfInBounds, dif_pos hlt, Array.toList_eraseIdx, he, map_eraseIdx']
    · intro x hx
      exact knd.keeps (his x (List.mem_filter.mp hx).1) ho hd (Heap.SameBut.update ..)
end

end
-- DK3
section
section
variable {prog : Program} {w : World} {K : Type} [DecidableEq K] {knd : AnyKind prog w K} {A : Around} {E : Value → Shared → Prop} {s : Shared} {d : Addr} {key : Value} {k : K} {xs : List (K × Value × Value)}

theorem inK {Q : Value → Shared → Prop} (hu : A.units + 1 < cLine) (hkey : knd.is s.heap k key) (hd : (d == sysModules) = false) (hm : DictK knd s.heap d xs)
    (h : Q (.bool (atK xs k).isSome) { s with toks := s.toks + knd.draws k }) : wpAny (model prog w) A (compareOp .In key (.ref d)) Q E s := by
  show wpAny _ _ (do return .bool (← contains (.ref d) key)) Q E s
  refine wpAny_bind ?_
  unfold contains
  try with_reducible refine wpAny_holding ?_
  refine wpAny_bind (wpAny_specialOf hm.typeIs slot_dict_contains.lookup ?_)
  show wpAny _ _ (if (some (Value.builtin "dict.__contains__") == some Value.none) = true then _ else _) _ E s
  rw [if_neg (by rw [beq_builtin_none]; exact Bool.false_ne_true)]
  refine wpAny_bind (wpAny_callSpecialUnlessNone?_slot (name := Str.ofString "__contains__") hm.typeIs slot_dict_contains
    (wpAny_call_entry slot_dict_contains hm.typeIs entry_dict_contains ?_ (args_dict_contains _ _)))
  show wpAny _ _ (dictGet d key >>= _) _ _ s
  refine wpAny_bind (dictGetK (by simpa using hu) hkey hm ?_)
  cases hf : atK xs k with
  | some p =>
    rw [hf] at h
    show wpAny _ _ (ret (.bool true)) _ _ _
    exact wpAny_pure ⟨_, rfl, wpAny_truthy_bool (wpAny_pure h)⟩
  | none =>
    rw [hf] at h
    show wpAny _ _ (Builtin.Dict.pendingKey? d key >>= _) _ _ _
    exact wpAny_bind (wpAny_pendingKey_other hd (wpAny_pure ⟨_, rfl, wpAny_truthy_bool (wpAny_pure h)⟩))

theorem getItemK {p : Value × Value} {Q : Value → Shared → Prop} (hu : A.units + 1 < cLine) (hkey : knd.is s.heap k key) (hm : DictK knd s.heap d xs) (hp : atK xs k = some p)
    (h : Q p.2 { s with toks := s.toks + knd.draws k }) : wpAny (model prog w) A (getItem (.ref d) key) Q E s := by
  unfold getItem
  try with_reducible refine wpAny_holding ?_
  refine wpAny_bind (wpAny_sequenceKey hm.typeIs (by decide) ?_)
  refine wpAny_bind (wpAny_callSpecial?_slot (name := Str.ofString "__getitem__") hm.typeIs slot_dict_getitem
    (wpAny_call_entry slot_dict_getitem hm.typeIs entry_dict_getitem ?_ (args_dict_getitem _ _)))
  show wpAny _ _ (dictGet d key >>= _) _ _ s
  refine wpAny_bind (dictGetK (by simpa using hu) hkey hm ?_)
  rw [hp]
  exact wpAny_pure ⟨p.2, rfl, wpAny_pure h⟩

theorem getItemK_missing {Q : Value → Shared → Prop} (hu : A.units + 1 < cLine) (hkey : knd.is s.heap k key) (hd : (d == sysModules) = false) (hh : A.handled = none) (hm : DictK knd s.heap d xs)
    (hp : atK xs k = none) (h : ∀ h' e, Heap.NewExc s.heap h' e "KeyError" → E (.ref e) { s with heap := h', toks := s.toks + knd.draws k }) :
    wpAny (model prog w) A (getItem (.ref d) key) Q E s := by
  unfold getItem
  try with_reducible refine wpAny_holding ?_
  refine wpAny_bind (wpAny_sequenceKey hm.typeIs (by decide) ?_)
  refine wpAny_bind (wpAny_callSpecial?_slot (name := Str.ofString "__getitem__") hm.typeIs slot_dict_getitem
    (wpAny_call_entry slot_dict_getitem hm.typeIs entry_dict_getitem ?_ (args_dict_getitem _ _)))
  show wpAny _ _ (dictGet d key >>= _) _ _ s
  refine wpAny_bind (dictGetK (by simpa using hu) hkey hm ?_)
  rw [hp]
  show wpAny _ _ (Builtin.Dict.missed d key >>= _) _ _ _
  refine wpAny_bind (wpAny_missed_other hd ?_)
  refine wpAny_bind (wpAny_typeOf (s := { s with toks := s.toks + knd.draws k }) hm.typeIs ?_)
  show wpAny _ _ (if (Value.type "dict" != Value.type "dict") = true then _ else _) _ _ _
  rw [if_neg (by decide)]
  exact wpAny_bind (wpAny_rule (wpAny_raise_newExc (A := A.in1) plainExc_KeyError hh h))

theorem setItemK {v : Value} {Q : Unit → Shared → Prop} (hu : A.units + 1 < cLine) (hkey : knd.is s.heap k key) (hm : DictK knd s.heap d xs)
    (hQ : ∀ h', DictK knd h' d (putK xs k key v) → Heap.SameBut d s.heap h' → Q () { s with heap := h', toks := s.toks + knd.draws k })
    (hsz : xs.length ≤ sizeLine) :
    wpAny (model prog w) A (setItem (.ref d) key v) Q E s := by
  unfold setItem
  try with_reducible refine wpAny_holding ?_
  refine wpAny_bind (wpAny_sequenceKey hm.typeIs (by decide) ?_)
  refine wpAny_bind (wpAny_callSpecial?_slot (name := Str.ofString "__setitem__") hm.typeIs slot_dict_setitem
    (wpAny_call_entry slot_dict_setitem hm.typeIs entry_dict_setitem ?_ (args_dict_setitem _ _ _)))
  show wpAny _ _ (Builtin.Dict.notOrdered "__setitem__" ⟨[.ref d, key, v], []⟩ >>= _) _ _ s
  refine wpAny_bind (wpAny_notOrdered_dict hm.typeIs ?_)
  show wpAny _ _ (dictSet d key v >>= _) _ _ s
  exact wpAny_bind (dictSetK (by simpa using hu) hkey hm (fun h' hm' hs' => wpAny_pure ⟨.none, rfl, wpAny_pure (hQ h' hm' hs')⟩) hsz)

theorem delItemK {p : Value × Value} {Q : Unit → Shared → Prop} (hu : A.units + 1 < cLine) (hkey : knd.is s.heap k key) (hm : DictK knd s.heap d xs) (hp : atK xs k = some p)
    (hQ : ∀ h', DictK knd h' d (delK xs k) → Heap.SameBut d s.heap h' → Q () { s with heap := h', toks := s.toks + knd.draws k })
    (hsz : xs.length ≤ sizeLine) :
    wpAny (model prog w) A (delItem (.ref d) key) Q E s := by
  unfold delItem
  try with_reducible refine wpAny_holding ?_
  refine wpAny_bind (wpAny_sequenceKey hm.typeIs (by decide) ?_)
  refine wpAny_bind (wpAny_callSpecial?_slot (name := Str.ofString "__delitem__") hm.typeIs PySem.F.slot_dict_delitem
    (wpAny_call_entry PySem.F.slot_dict_delitem hm.typeIs PySem.F.entry_dict_delitem ?_ (PySem.F.args_dict_delitem_2 _ _)))
  unfold Builtin.«dict.__delitem__»
  refine wpAny_bind ?_
  unfold Builtin.Dict.dictSlotArgs
  refine wpAny_bind (wpAny_notOrdered_dict hm.typeIs ?_)
  show wpAny _ _ (pure (Value.ref d, key)) _ _ s
  refine wpAny_pure ?_
  show wpAny _ _ (Builtin.Dict.takeOut d key >>= _) _ _ s
  refine wpAny_bind (takeOutK (by simpa using hu) hkey hm (fun hn => by rw [hn] at hp; cases hp) (fun kv v h' hat hm' hs' => ?_) hsz)
  exact wpAny_bind (wpAny_letGo (wpAny_pure ⟨.none, rfl, wpAny_pure (hQ h' hm' hs')⟩))

theorem entriesK_ne (hm : DictK knd s.heap d xs) {p : Value × Value} (hp : atK xs k = some p) : ∃ o es ep, s.heap.get? d = some o ∧ o.data = .dict es ep ∧ es.isEmpty = false := by
  obtain ⟨o, es, ep, ho, _, hd, he, _, _⟩ := hm
  refine ⟨o, es, ep, ho, hd, ?_⟩
  cases xs with
  | nil => simp [atK] at hp
  | cons x r =>
    have := entK_size he
    rw [Array.isEmpty_eq_false_iff]
    intro e
    rw [e] at this
    simp at this

theorem popK {p : Value × Value} {Q : Value → Shared → Prop} (hu : A.units + 1 < cLine) (hkey : knd.is s.heap k key) (hm : DictK knd s.heap d xs) (hp : atK xs k = some p)
    (hQ : ∀ h', DictK knd h' d (delK xs k) → Heap.SameBut d s.heap h' → Q p.2 { s with heap := h', toks := s.toks + knd.draws k })
    (hsz : xs.length ≤ sizeLine) :
    wpAny (model prog w) A (call (.builtin "dict.pop") [.ref d, key]) Q E s := by
  refine wpAny_call_entry PySem.F.slot_dict_pop hm.typeIs PySem.F.entry_dict_pop ?_ (PySem.F.args_dict_pop_2 _ _)
  unfold Builtin.«dict.pop»
  refine wpAny_bind ?_
  unfold Builtin.Dict.keyAndDefault
  refine wpAny_bind (wpAny_notOrdered_dict hm.typeIs ?_)
  show wpAny _ _ (pure (d, key, none)) _ _ s
  refine wpAny_pure ?_
  dsimp only
  by_cases hpart : (keyPart key).isSome = true
  · simp only [hpart, if_true]
    refine wpAny_bind (wpAny_pure ?_)
    simp only [Bool.false_eq_true, if_false]
    refine wpAny_bind (takeOutK (by simpa using hu) hkey hm (fun hn => by rw [hn] at hp; cases hp) (fun kv v h' hat hm' hs' => ?_) hsz)
    obtain rfl : p = (kv, v) := by rw [hat] at hp; exact (Option.some.inj hp).symm
    simp only [Option.isNone_some, Bool.false_eq_true, if_false]
    exact wpAny_bind (wpAny_letGo (wpAny_pure ⟨v, rfl, hQ h' hm' hs'⟩))
  · simp only [hpart, if_false, Bool.false_eq_true]
    obtain ⟨o, es, ep, ho, hde, hne⟩ := entriesK_ne hm hp
    refine wpAny_bind (wpAny_dictEntries ho hde ?_)
    refine wpAny_bind (wpAny_pure ?_)
    rw [hne]
    simp only [Bool.false_eq_true, if_false]
    refine wpAny_bind (takeOutK (by simpa using hu) hkey hm (fun hn => by rw [hn] at hp; cases hp) (fun kv v h' hat hm' hs' => ?_) hsz)
    obtain rfl : p = (kv, v) := by rw [hat] at hp; exact (Option.some.inj hp).symm
    simp only [Option.isNone_some, Bool.false_eq_true, if_false]
    exact wpAny_bind (wpAny_letGo (wpAny_pure ⟨v, rfl, hQ h' hm' hs'⟩))

theorem popK_missing {Q : Value → Shared → Prop} (hu : A.units + 1 < cLine) (hh : A.handled = none) (hd : (d == sysModules) = false) (hkey : knd.is s.heap k key) (hm : DictK knd s.heap d xs) (hp : atK xs k = none)
    (h : ∀ h' e t', s.toks ≤ t' → Heap.NewExc s.heap h' e "KeyError" → E (.ref e) { s with heap := h', toks := t' })
    (hsz : xs.length ≤ sizeLine) :
    wpAny (model prog w) A (call (.builtin "dict.pop") [.ref d, key]) Q E s := by
  refine wpAny_call_entry PySem.F.slot_dict_pop hm.typeIs PySem.F.entry_dict_pop ?_ (PySem.F.args_dict_pop_2 _ _)
  unfold Builtin.«dict.pop»
  refine wpAny_bind ?_
  unfold Builtin.Dict.keyAndDefault
  refine wpAny_bind (wpAny_notOrdered_dict hm.typeIs ?_)
  show wpAny _ _ (pure (d, key, none)) _ _ s
  refine wpAny_pure ?_
  dsimp only
  by_cases hpart : (keyPart key).isSome = true
  · simp only [hpart, if_true]
    refine wpAny_bind (wpAny_pure ?_)
    simp only [Bool.false_eq_true, if_false]
    refine wpAny_bind (takeOutK (by simpa using hu) hkey hm (fun hn => ?_) (fun kv v h' hat hm' hs' => by rw [hat] at hp; cases hp) hsz)
    simp only [Option.isNone_none, if_true]
    refine wpAny_bind (wpAny_missedRemoval_other hd ?_)
    exact wpAny_bind (wpAny_rule (wpAny_raise_newExc (A := A.in1) plainExc_KeyError hh (fun h' e he => h h' e _ (by simp) he)))
  · simp only [hpart, if_false, Bool.false_eq_true]
    have hdd : ∃ o es ep, s.heap.get? d = some o ∧ o.data = .dict es ep := by
      obtain ⟨o, es, ep, ho, _, hde, _⟩ := hm
      exact ⟨o, es, ep, ho, hde⟩
    obtain ⟨o, es, ep, ho, hde⟩ := hdd
    refine wpAny_bind (wpAny_dictEntries ho hde ?_)
    refine wpAny_bind (wpAny_pure ?_)
    cases es.isEmpty with
    | true =>
      simp only [if_true]
      refine wpAny_bind (wpAny_rule ?_)
      refine wpAny_bind (wpAny_pure ?_)
      simp only [Option.isNone_none, if_true]
      refine wpAny_bind (wpAny_missedRemoval_other hd ?_)
      exact wpAny_bind (wpAny_rule (wpAny_raise_newExc (A := A.in1) plainExc_KeyError hh (fun h' e he => h h' e _ (by simp) he)))
    | false =>
      simp only [Bool.false_eq_true, if_false]
      refine wpAny_bind (takeOutK (by simpa using hu) hkey hm (fun hn => ?_) (fun kv v h' hat hm' hs' => by rw [hat] at hp; cases hp) hsz)
      simp only [Option.isNone_none, if_true]
      refine wpAny_bind (wpAny_missedRemoval_other hd ?_)
      exact wpAny_bind (wpAny_rule (wpAny_raise_newExc (A := A.in1) plainExc_KeyError hh (fun h' e he => h h' e _ (by simp) he)))
end

end
-- M1
section

abbrev Cell := Obj → Prop
abbrev Cells := List (Addr × Cell)
/-- what a cell says hangs on no slots (a frame's own may change) -/
def Soft (c : Cell) : Prop := ∀ o sl, c o → c { o with slots := sl }
theorem in_tail {env : Env} {fs : List Env} {a : Addr} (h : a ∈ fs.filterMap (·.frame)) : a ∈ (env :: fs).filterMap (·.frame) := by
  rw [List.filterMap_cons]
  split
  · exact h
  · exact List.mem_cons_of_mem _ h

structure St (B : Shared) (fs : List Env) (l : Cells) (s : Shared) : Prop where
  base : B.heap.StaysIn s.heap
  has : ∀ x ∈ l, ∃ o, s.heap.get? x.1 = some o ∧ x.2 o
  nd : (l.map (·.1)).Nodup
  fresh : ∀ x ∈ l, B.heap.get? x.1 = none
  frames : s.heap.FunFrames B.heap fs
  gens : s.gens = B.gens
  drawn : s.drawn = B.drawn
  os : s.os = B.os
  low : ∃ o, B.heap.get? mainGlobals = some o
  big : ∀ x ∈ l, sysModules < x.1
  soft : ∀ x ∈ l, x.1 ∈ fs.filterMap (·.frame) → Soft x.2

theorem funFrames_less {base B h : Heap} (k : base.StaysIn B) : ∀ {l : List Env}, h.FunFrames B l → h.FunFrames base l
  | [], _ => trivial
  | _ :: _, ⟨hk, ⟨L, o, hf, hn, ho, hd⟩, hr⟩ => ⟨hk, ⟨L, o, hf, (by
      cases q : base.get? L with
      | none => rfl
      | some o => have := k L o q; rw [hn] at this; cases this), ho, hd⟩, funFrames_less k hr⟩

namespace St
variable {B : Shared} {fs : List Env} {l l' : Cells} {s : Shared}

theorem perm (S : St B fs l s) (p : l'.Perm l) : St B fs l' s :=
  ⟨S.base, fun x hx => S.has x (p.mem_iff.mp hx), (p.map _).nodup_iff.mpr S.nd, fun x hx => S.fresh x (p.mem_iff.mp hx), S.frames, S.gens, S.drawn, S.os, S.low, fun x hx => S.big x (p.mem_iff.mp hx), fun x hx => S.soft x (p.mem_iff.mp hx)⟩
theorem sub (S : St B fs l s) (p : List.Sublist l' l) : St B fs l' s :=
  ⟨S.base, fun x hx => S.has x (p.subset hx), S.nd.sublist (p.map _), fun x hx => S.fresh x (p.subset hx), S.frames, S.gens, S.drawn, S.os, S.low, fun x hx => S.big x (p.subset hx), fun x hx => S.soft x (p.subset hx)⟩
theorem tail {x : Addr × Cell} (S : St B fs (x :: l) s) : St B fs l s := S.sub (List.sublist_cons_self _ _)
theorem back {x : Addr × Cell} {p q : Cells} (S : St B fs (x :: (p ++ q)) s) : St B fs (p ++ x :: q) s := S.perm List.perm_middle
theorem front {x : Addr × Cell} {p q : Cells} (S : St B fs (p ++ x :: q) s) : St B fs (x :: (p ++ q)) s := S.perm List.perm_middle.symm
theorem toks (S : St B fs l s) (t : Nat) : St B fs l { s with toks := t } := ⟨S.base, S.has, S.nd, S.fresh, S.frames, S.gens, S.drawn, S.os, S.low, S.big, S.soft⟩
theorem pop {env : Env} (S : St B (env :: fs) l s) : St B fs l s := ⟨S.base, S.has, S.nd, S.fresh, S.frames.2.2, S.gens, S.drawn, S.os, S.low, S.big, fun x hx h => S.soft x hx (in_tail h)⟩
theorem at_ (S : St B fs l s) {i : Nat} {a : Addr} {c : Cell} (hi : l[i]? = some (a, c)) : ∃ o, s.heap.get? a = some o ∧ c o := S.has (a, c) (List.mem_of_getElem? hi)
theorem lt (S : St B fs l s) {x : Addr × Cell} (hx : x ∈ l) : x.1 < s.heap.objs.size := let ⟨_, ho, _⟩ := S.has x hx; Heap.lt_size ho
theorem ne (S : St B fs l s) {i j : Nat} {a b : Addr} {c d : Cell} (hi : l[i]? = some (a, c)) (hj : l[j]? = some (b, d)) (h : i ≠ j) : a ≠ b := fun e => by
  subst e
  have h1 : (l.map (·.1))[i]? = some a := by rw [List.getElem?_map, hi]; rfl
  have h2 : (l.map (·.1))[j]? = some a := by rw [List.getElem?_map, hj]; rfl
  exact h ((List.getElem?_inj (List.getElem?_eq_some_iff.mp h1).1 S.nd).mp (h1.trans h2.symm))

/-- one cell is written -/
theorem upd (S : St B fs l s) {i : Nat} {a : Addr} {c c' : Cell} (hi : l[i]? = some (a, c)) {h' : Heap} {o' : Obj} (t : Nat) (hs : Heap.SameBut a s.heap h') (ho : h'.get? a = some o') (hc : c' o')
    (hf : (∀ vs, o'.data ≠ .fields vs) ∨ ∃ o vs, s.heap.get? a = some o ∧ o.data = .fields vs) (hsf : a ∈ fs.filterMap (·.frame) → Soft c') : St B fs (l.set i (a, c')) { s with heap := h', toks := t } := by
  have hlen : i < l.length := (List.getElem?_eq_some_iff.mp hi).1
  have hmap : (l.set i (a, c')).map (·.1) = l.map (·.1) := by
    rw [List.map_set]
    apply List.ext_getElem?
    intro j
    rw [List.getElem?_set]
    split
    · rename_i e; subst e
      rw [List.getElem?_map, hi]
      simp [hlen]
    · rfl
  have hmem : ∀ x ∈ l.set i (a, c'), x = (a, c') ∨ (x ∈ l ∧ x.1 ≠ a) := by
    intro x hx
    obtain ⟨j, hj⟩ := List.mem_iff_getElem?.mp hx
    rw [List.getElem?_set] at hj
    split at hj
    · try rw [if_pos hlen] at hj
      exact .inl (Option.some.inj hj).symm
    · rename_i hne
      exact .inr ⟨List.mem_of_getElem? hj, fun e => by
        obtain ⟨xa, xc⟩ := x
        exact S.ne hi hj hne e.symm⟩
  refine ⟨fun b o hb => (hs.2 b fun e => ?_).trans (S.base b o hb), fun x hx => ?_, hmap ▸ S.nd, fun x hx => ?_, ?_, S.gens, S.drawn, S.os, S.low, fun x hx => ?_, fun x hx => ?_⟩
  · have := S.fresh _ (List.mem_of_getElem? hi); rw [e] at hb; rw [this] at hb; cases hb
  · rcases hmem x hx with rfl | ⟨hm, hne⟩
    · exact ⟨o', ho, hc⟩
    · obtain ⟨o, h1, h2⟩ := S.has x hm
      exact ⟨o, (hs.2 _ hne).trans h1, h2⟩
  · rcases hmem x hx with rfl | ⟨hm, hne⟩
    · exact S.fresh (a, c) (List.mem_of_getElem? hi)
    · exact S.fresh _ hm
  · have go : ∀ {fs : List Env}, s.heap.FunFrames B.heap fs → h'.FunFrames B.heap fs := by
      intro fs
      induction fs with
      | nil => intro _; trivial
      | cons env rest ih =>
        rintro ⟨hk, ⟨L, o, hL, hn, hoL, hd⟩, hr⟩
        refine ⟨hk, ?_, ih hr⟩
        by_cases e : L = a
        · subst e
          rcases hf with hf | ⟨o2, vs, h2, hd2⟩
          · exact ⟨L, o', hL, hn, ho, hf⟩
          · rw [hoL] at h2; cases h2; exact (hd vs hd2).elim
        · exact ⟨L, o, hL, hn, (hs.2 L e).trans hoL, hd⟩
    exact go S.frames
  · rcases hmem x hx with rfl | ⟨hm, hne⟩
    · exact S.big (a, c) (List.mem_of_getElem? hi)
    · exact S.big _ hm
  · rcases hmem x hx with rfl | ⟨hm, hne⟩
    · exact hsf
    · exact S.soft _ hm

/-- everything in sight is kept, the heap may have grown -/
theorem keeps (S : St B fs l s) {h' : Heap} (t : Nat) (k : ∀ b o, s.heap.get? b = some o → h'.get? b = some o) : St B fs l { s with heap := h', toks := t } :=
  ⟨fun b o hb => k b o (S.base b o hb), fun x hx => let ⟨o, h1, h2⟩ := S.has x hx; ⟨o, k _ _ h1, h2⟩, S.nd, S.fresh, S.frames.of_keeps fun b o e _ => ⟨o, k b o e, rfl⟩, S.gens, S.drawn, S.os, S.low, S.big, S.soft⟩
theorem size (S : St B fs l s) : sysModules < s.heap.objs.size := let ⟨o, ho⟩ := S.low; Nat.lt_trans (by decide) (Heap.lt_size (S.base _ o ho))

theorem none_at (S : St B fs l s) : B.heap.get? s.heap.objs.size = none := by
  cases q : B.heap.get? s.heap.objs.size with
  | none => rfl
  | some o => exact absurd (Heap.lt_size (S.base _ o q)) (Nat.lt_irrefl _)

/-- a new object at the heap's end -/
theorem grow (S : St B fs l s) {h' : Heap} {a : Addr} {o : Obj} {c : Cell} (t : Nat) (k : ∀ b o, s.heap.get? b = some o → h'.get? b = some o) (ha : s.heap.get? a = none) (hB : B.heap.get? a = none) (hm : sysModules < a)
    (ho : h'.get? a = some o) (hc : c o) : St B fs ((a, c) :: l) { s with heap := h', toks := t } := by
  have S' := S.keeps t k
  refine ⟨S'.base, fun x hx => ?_, ?_, fun x hx => ?_, S'.frames, S.gens, S.drawn, S.os, S.low, fun x hx => ?_, fun x hx h => ?_⟩
  · rcases List.mem_cons.mp hx with rfl | hx
    · exact ⟨o, ho, hc⟩
    · exact S'.has x hx
  · refine List.nodup_cons.mpr ⟨fun hm => ?_, S.nd⟩
    obtain ⟨x, hx, e⟩ := List.mem_map.mp hm
    obtain ⟨o2, h2, _⟩ := S.has x hx
    rw [e, ha] at h2; cases h2
  · rcases List.mem_cons.mp hx with rfl | hx
    · exact hB
    · exact S.fresh x hx
  · rcases List.mem_cons.mp hx with rfl | hx
    · exact hm
    · exact S.big x hx
  · rcases List.mem_cons.mp hx with rfl | hx
    · obtain ⟨_, o3, h3, _⟩ := S.frames.mem h
      rw [ha] at h3; cases h3
    · exact S.soft x hx h
theorem push (S : St B fs l s) {o : Obj} {c : Cell} (hc : c o) (t : Nat) (hfree : o.isFreed = false := by rfl) : St B fs ((s.heap.objs.size, c) :: l) { s with heap := s.heap.push o, toks := t } :=
  S.grow t (fun _ _ e => Heap.get?_push_of_some _ e) (Heap.get?_none_of_le (Nat.le_refl _)) S.none_at S.size (Heap.get?_push_size _ hfree) hc

/-- the base may be taken larger: what has become fixed joins it -/
theorem rebase (S : St B fs l s) {B' : Heap} (hB : ∃ o, B'.get? mainGlobals = some o) (hs : B'.StaysIn s.heap) (hl : ∀ x ∈ l, B'.get? x.1 = none) (hf : ∀ b ∈ fs.filterMap (·.frame), B'.get? b = none) :
    St { B with heap := B' } fs l s := by
  refine ⟨hs, S.has, S.nd, hl, ?_, S.gens, S.drawn, S.os, hB, S.big, S.soft⟩
  have go : ∀ {fs : List Env}, (∀ b ∈ fs.filterMap (·.frame), B'.get? b = none) → s.heap.FunFrames B.heap fs → s.heap.FunFrames B' fs := by
    intro fs
    induction fs with
    | nil => intro _ _; trivial
    | cons env rest ih =>
      rintro hf ⟨hk, ⟨L, o, hL, hn, hoL, hd⟩, hr⟩
      refine ⟨hk, ⟨L, o, hL, hf L (List.mem_filterMap.mpr ⟨env, List.mem_cons_self, hL⟩), hoL, hd⟩, ih (fun b hb => hf b ?_) hr⟩
      rw [List.filterMap_cons, hL]; exact List.mem_cons_of_mem _ hb
  exact go hf S.frames
/-- the base may be taken smaller again -/
theorem unbase (S : St B fs l s) {B' : Shared} (hB : ∀ b o, B'.heap.get? b = some o → B.heap.get? b = some o) (hg : B'.gens = B.gens) (hd : B'.drawn = B.drawn) (ho : B'.os = B.os) (hlow : ∃ o, B'.heap.get? mainGlobals = some o) : St B' fs l s := by
  have nn : ∀ {b}, B.heap.get? b = none → B'.heap.get? b = none := fun {b} e => by
    cases q : B'.heap.get? b with
    | none => rfl
    | some o => rw [hB b o q] at e; cases e
  exact ⟨fun b o e => S.base b o (hB b o e), S.has, S.nd, fun x hx => nn (S.fresh x hx), funFrames_less (fun b o e => hB b o e) S.frames, S.gens.trans hg.symm, S.drawn.trans hd.symm, S.os.trans ho.symm, hlow, S.big, S.soft⟩
end St


end
-- M2
section

/-! places in lists -/
inductive Upd {α : Type} : List α → α → α → List α → Prop
  | here {x y : α} {r : List α} : Upd (x :: r) x y (y :: r)
  | there {x y z : α} {r r' : List α} : Upd r x y r' → Upd (z :: r) x y (z :: r')
theorem Upd.idx {α : Type} {l l' : List α} {x y : α} (u : Upd l x y l') : ∃ i, l[i]? = some x ∧ l' = l.set i y := by
  induction u with
  | here => exact ⟨0, rfl, rfl⟩
  | there _ ih => obtain ⟨i, h1, h2⟩ := ih; exact ⟨i + 1, h1, by rw [h2]; rfl⟩
theorem Upd.mem {α : Type} {l l' : List α} {x y : α} (u : Upd l x y l') : x ∈ l := let ⟨_, h, _⟩ := u.idx; List.mem_of_getElem? h
theorem Upd.keys {α β : Type} {f : α → β} {l l' : List α} {x y : α} (u : Upd l x y l') (e : f y = f x) : l'.map f = l.map f := by
  induction u with
  | here => simp [e]
  | there _ ih => simp [ih e]

theorem lookup_of_mem {β : Type} {xs : List (Str × β)} (nd : (xs.map (·.1)).Nodup) {x : Str} {v : β} (h : (x, v) ∈ xs) : xs.lookup x = some v := by
  induction xs with
  | nil => cases h
  | cons p r ih =>
    obtain ⟨y, u⟩ := p
    rw [List.map_cons, List.nodup_cons] at nd
    rcases List.mem_cons.mp h with e | h2
    · cases e; rw [List.lookup_cons, beq_self_eq_true]
    · have hx : x ∈ r.map (·.1) := List.mem_map.mpr ⟨_, h2, rfl⟩
      have : x ≠ y := fun e => nd.1 (e ▸ hx)
      rw [List.lookup_cons, beq_eq_false_iff_ne.mpr this]
      exact ih nd.2 h2
theorem lookup_none {β : Type} {xs : List (Str × β)} {x : Str} (h : x ∉ xs.map (·.1)) : xs.lookup x = none := by
  induction xs with
  | nil => rfl
  | cons p r ih =>
    obtain ⟨y, u⟩ := p
    rw [List.map_cons, List.mem_cons, not_or] at h
    rw [List.lookup_cons, beq_eq_false_iff_ne.mpr h.1]
    exact ih h.2
theorem Upd.lookup {β : Type} {xs xs' : List (Str × β)} {x : Str} {u v : β} (p : Upd xs (x, u) (x, v) xs') (nd : (xs.map (·.1)).Nodup) (y : Str) : (if y = x then some v else xs.lookup y) = xs'.lookup y := by
  have nd' : (xs'.map (·.1)).Nodup := (p.keys (f := (·.1)) rfl) ▸ nd
  induction xs generalizing xs' with
  | nil => cases p
  | cons q r ih =>
    cases p with
    | here =>
      by_cases e : y = x
      · subst e; simp
      · rw [if_neg e, List.lookup_cons, List.lookup_cons, beq_eq_false_iff_ne.mpr e]
    | there p' =>
      obtain ⟨z, t⟩ := q
      rw [List.map_cons, List.nodup_cons] at nd nd'
      have := ih p' nd.2 nd'.2
      rw [List.lookup_cons, List.lookup_cons, ← this]
      by_cases e : y = x
      · subst e
        have : y ≠ z := fun e => nd.1 (by subst e; exact List.mem_map.mpr ⟨_, p'.mem, rfl⟩)
        rw [if_pos rfl, beq_eq_false_iff_ne.mpr this, if_pos rfl]
      · rw [if_neg e, if_neg e]
theorem lookup_cons_new {β : Type} {xs : List (Str × β)} {x : Str} {v : β} (y : Str) : (if y = x then some v else xs.lookup y) = ((x, v) :: xs).lookup y := by
  rw [List.lookup_cons]
  by_cases e : y = x
  · subst e; simp
  · rw [if_neg e, beq_eq_false_iff_ne.mpr e]

/-! what lies in a cell -/
abbrev Names := List (Str × Value)
/-- a frame's names -/
def nsC (sc : Scope) (xs : Names) : Cell := fun o => (∃ es ep, o.data = .dict es ep ∧ StrKeys es ∧ ∀ y, nsFind es y = xs.lookup y) ∧ (xs.map (·.1)).Nodup ∧ sc.kind = .function ∧ ∀ p ∈ xs, sc.names.lookup p.1 = some .local ∧ (p.1 == ("__debug__" : Str)) = false
/-- an instance's own names -/
def idC (xs : Names) : Cell := fun o => ∃ es ep, o.data = .dict es ep ∧ StrKeys es ∧ UniqKeys es ∧ (∀ y, nsFind es y = xs.lookup y) ∧ (xs.map (·.1)).Nodup
/-- an instance of a class with a dict of its own -/
def instC (C d : Addr) : Cell := fun o => o.cls = .ref C ∧ o.data = .plain ∧ o.dict = some d
/-- a dict over keys that the base knows -/
def dictC {prog : Program} {w : World} {K : Type} [DecidableEq K] (knd : AnyKind prog w K) (B : Shared) (xs : List (K × Value × Value)) : Cell := fun o =>
  ∃ es ep, o.ExactDict ∧ o.data = .dict es ep ∧ es.toList = xs.map (entK knd) ∧ (∀ x ∈ xs, knd.is B.heap x.1 x.2.1) ∧ (xs.map (·.1)).Nodup
def objC (o : Obj) : Cell := fun x => x = o
theorem soft_nsC {sc : Scope} {xs : Names} : Soft (nsC sc xs) := fun _ _ h => h
theorem soft_idC {xs : Names} : Soft (idC xs) := fun _ _ h => h
theorem soft_instC {C d : Addr} : Soft (instC C d) := fun _ _ h => h
theorem notSoft_dictC {prog : Program} {w : World} {K : Type} [DecidableEq K] {knd : AnyKind prog w K} {B : Shared} {xs : List (K × Value × Value)} : ∀ o, dictC knd B xs o → ¬ Soft (dictC knd B xs) := fun o h q => by
  obtain ⟨_, _, ⟨_, _, e⟩, _⟩ := q o #[none] h
  cases e

structure Stat (K : Frag) (h : Heap) : Prop where
  X : K.In h
  lim : h.NoLimit
  top : ∃ mg mb, h.Ns mainGlobals mg ∧ h.Ns builtinsNs mb ∧ ∀ x : Str, x ≠ "__name__" → mb x = bootBuiltins x
theorem Stat.keeps {K : Frag} {h h' : Heap} (x : Stat K h) (k : ∀ b o, h.get? b = some o → h'.get? b = some o) : Stat K h' :=
  ⟨x.X.keeps k, x.lim.keeps k, let ⟨mg, mb, h1, h2, h3⟩ := x.top; ⟨mg, mb, h1.keeps k, h2.keeps k, h3⟩⟩

section
variable {B : Shared} {fs : List Env} {l l' : Cells} {s : Shared} {L : Addr} {xs xs' : Names}
theorem St.ns {sc : Scope} (S : St B fs l s) (m : (L, nsC sc xs) ∈ l) : s.heap.Ns L (fun y => xs.lookup y) ∧ (xs.map (·.1)).Nodup ∧ sc.kind = .function ∧ ∀ p ∈ xs, sc.names.lookup p.1 = some .local ∧ (p.1 == ("__debug__" : Str)) = false := by
  obtain ⟨o, ho, ⟨es, ep, h1, h2, h3⟩, h4⟩ := S.has _ m
  exact ⟨⟨o, es, ep, ho, h1, h2, h3⟩, h4⟩
theorem St.set (S : St B fs l s) {a : Addr} {c c' : Cell} (u : Upd l (a, c) (a, c') l') {h' : Heap} {o' : Obj} (t : Nat) (hs : Heap.SameBut a s.heap h') (ho : h'.get? a = some o') (hc : c' o')
    (hf : (∀ vs, o'.data ≠ .fields vs) ∨ ∃ o vs, s.heap.get? a = some o ∧ o.data = .fields vs) (hsf : a ∈ fs.filterMap (·.frame) → Soft c') : St B fs l' { s with heap := h', toks := t } := by
  obtain ⟨i, hi, rfl⟩ := u.idx
  exact S.upd hi t hs ho hc hf hsf
end

section
variable {M : Model} {A : Around} {E : Value → Shared → Prop} {B : Shared} {fs : List Env} {l l' : Cells} {s : Shared} {name : Str} {scope : Scope} {L a : Addr} {cd : Value} {xs xs' : Names}

theorem ldS {x : Str} {pos : Pos} {v : Value} {Q : Value → Shared → Prop} (S : St B fs l s) (m : (L, nsC scope xs) ∈ l) (mv : (x, v) ∈ xs) (h : Q v s) :
    wpAny M A (eval (.Name x pos) (envOf name scope L a cd)) Q E s :=
  let ⟨n, nd, hk, hl⟩ := S.ns m
  wpAny_Name (wpAny_loadName_local hk (hl _ mv).1 n (lookup_of_mem nd mv) h) (hl _ mv).2

theorem stS {x : Str} {u v : Value} {Q : Unit → Shared → Prop} (S : St B fs l s) (m : Upd l (L, nsC scope xs) (L, nsC scope xs') l') (p : Upd xs (x, u) (x, v) xs')
    (h : ∀ s', St B fs l' s' → Q () s') : wpAny M A (storeName (envOf name scope L a cd) x v) Q E s := by
  obtain ⟨n, nd, hk, hl⟩ := S.ns m.mem
  refine wpAny_storeName_local (hl _ p.mem).1 n (fun h' hn hs => h _ ?_) (by show (scope.kind == .class || (scope.kind == .module && L != mainGlobals)) = false; rw [hk]; rfl)
  obtain ⟨o, es, ep, ho, hd, hk', hf⟩ := hn
  refine S.set m _ hs ho ⟨⟨es, ep, hd, hk', fun y => (hf y).trans (p.lookup nd y)⟩, (p.keys (f := (·.1)) rfl) ▸ nd, hk, ?_⟩ (.inl fun vs e => by rw [hd] at e; cases e) fun _ => soft_nsC
  intro q hq
  have : q.1 ∈ xs'.map (·.1) := List.mem_map.mpr ⟨q, hq, rfl⟩
  rw [p.keys (f := (·.1)) rfl] at this
  obtain ⟨r, hr, e⟩ := List.mem_map.mp this
  exact e ▸ hl r hr

theorem stSnew {x : Str} {v : Value} {Q : Unit → Shared → Prop} (S : St B fs l s) (m : Upd l (L, nsC scope xs) (L, nsC scope ((x, v) :: xs)) l')
    (h : ∀ s', St B fs l' s' → Q () s') (hx : x ∉ xs.map (·.1) := by simp only [List.map_cons, List.map_nil]; decide +kernel)
    (hl : scope.names.lookup x = some .local := by kernel_rfl) (hd : (x == ("__debug__" : Str)) = false := by decide +kernel) :
    wpAny M A (storeName (envOf name scope L a cd) x v) Q E s := by
  obtain ⟨n, nd, hk, hls⟩ := S.ns m.mem
  refine wpAny_storeName_local hl n (fun h' hn hs => h _ ?_) (by show (scope.kind == .class || (scope.kind == .module && L != mainGlobals)) = false; rw [hk]; rfl)
  obtain ⟨o, es, ep, ho, hd', hk', hf⟩ := hn
  refine S.set m _ hs ho ⟨⟨es, ep, hd', hk', fun y => (hf y).trans (lookup_cons_new y)⟩, by rw [List.map_cons]; exact List.nodup_cons.mpr ⟨hx, nd⟩, hk, fun q hq => ?_⟩ (.inl fun vs e => by rw [hd'] at e; cases e) fun _ => soft_nsC
  rcases List.mem_cons.mp hq with rfl | hq
  · exact ⟨hl, hd⟩
  · exact hls q hq

variable {K : Frag}
theorem St.stat (S : St B fs l s) (T : Stat K B.heap) : Stat K s.heap := T.keeps S.base
theorem ldG {x : Str} {pos : Pos} {v : Value} {Q : Value → Shared → Prop} (T : Stat K B.heap) (S : St B fs l s) (e : nsIn K mainGlobals x = some (some v)) (h : Q v s)
    (hk : scope.kind = .function := by rfl) (hx : scope.names.lookup x = some .globalImplicit := by kernel_rfl) (hd : (x == ("__debug__" : Str)) = false := by decide +kernel) :
    wpAny M A (eval (.Name x pos) (envOf name scope L a cd)) Q E s := by
  obtain ⟨X, _, mg, mb, h1, h2, h3⟩ := S.stat T
  exact Calls.Name_function_global hk hx (Calls.loadGlobal_global (env := envOf name scope L a cd) h1 (mg_of X h1 e) h) hd
theorem ldB {x : Str} {pos : Pos} {v : Value} {Q : Value → Shared → Prop} (T : Stat K B.heap) (S : St B fs l s) (e : nsIn K mainGlobals x = some none) (hv : bootBuiltins x = some v) (h : Q v s) (hn : x ≠ "__name__" := by decide +kernel)
    (hk : scope.kind = .function := by rfl) (hx : scope.names.lookup x = some .globalImplicit := by kernel_rfl) (hd : (x == ("__debug__" : Str)) = false := by decide +kernel) :
    wpAny M A (eval (.Name x pos) (envOf name scope L a cd)) Q E s := by
  obtain ⟨X, _, mg, mb, h1, h2, h3⟩ := S.stat T
  exact Calls.Name_function_global hk hx (Calls.loadGlobal_builtin (env := envOf name scope L a cd) h1 (mg_none_of X h1 e) h2 ((h3 x hn).trans hv) h) hd
end

end
-- M3
section
set_option maxRecDepth 100000

theorem find_of_str {es : Array DictEntry} (hk : StrKeys es) : es.toList.any (·.refKey) = false := by
  rw [List.any_eq_false]
  intro e he
  obtain ⟨n, t, h⟩ := hk e (Array.mem_toList_iff.mp he)
  simp [DictEntry.refKey, h]
theorem lookIn_id {o : Obj} {xs : Names} (h : idC xs o) (name : Str) : lookIn name o = some (xs.lookup name) := by
  obtain ⟨es, ep, hd, hk, _, hf, _⟩ := h
  have := hf name
  unfold nsFind PySem.findBy at this
  unfold lookIn
  rw [hd]
  dsimp only
  rw [← Array.find?_toList] at this
  cases q : es.toList.find? (·.key.isStr name) with
  | some e => rw [q] at this; rw [← this]; rfl
  | none => rw [q] at this; rw [← this]; simp [find_of_str hk]

section
variable {B : Shared} {fs : List Env} {l l' : Cells} {s : Shared} {x C d : Addr} {xs xs' : Names}
theorem St.inst (S : St B fs l s) (mi : (x, instC C d) ∈ l) (md : (d, idC xs) ∈ l) : ∃ ox od, InstAt s.heap x ox C (some od) ∧ ox.dict = some d ∧ idC xs od ∧ s.heap.get? d = some od := by
  obtain ⟨ox, hx, h1, h2, h3⟩ := S.has _ mi
  obtain ⟨od, hd, h4⟩ := S.has _ md
  exact ⟨ox, od, ⟨hx, h1, by unfold notCls; rw [h2], by rw [h3]; exact hd⟩, h3, h4, hd⟩
end

/-- what a class says of a name, met through an instance -/
def gets (K : Frag) (C : Addr) (name : Str) : Bool :=
  findIn K (.ref C) "__getattribute__" == some (some (.builtin "object.__getattribute__")) && hasDictIn K C
/-- an instance's own name goes first -/
def ownName (K : Frag) (C : Addr) (name : Str) : Bool :=
  gets K C name && (findIn K (.ref C) name).any fun attr => noGet K attr
/-- a plain value of the class -/
def clsName (K : Frag) (C : Addr) (name : Str) (v : Value) : Bool :=
  gets K C name && (findIn K (.ref C) name).any (fun attr => attr.any fun a => a == v && (specialIn K a "__get__").any (·.isNone) && handedIn a) && !copiedNames.contains name

section
variable {prog : Program} {w : World} {A : Around} {E : Value → Shared → Prop} {B : Shared} {fs : List Env} {l l' : Cells} {s : Shared} {K : Frag} {x C d : Addr} {xs xs' : Names} {name : Str} {v : Value} {expr : Bool}

theorem getOwn {Q : Value → Shared → Prop} (T : Stat K B.heap) (S : St B fs l s) (mi : (x, instC C d) ∈ l) (md : (d, idC xs) ∈ l) (mv : (name, v) ∈ xs) (hn : ownName K C name = true) (hv : handedIn v = true)
    (h : ∀ s', St B fs l s' → Q v s') : wpAny (model prog w) A (getAttr (.ref x) name expr) Q E s := by
  obtain ⟨ox, od, I, _, hid, _⟩ := S.inst mi md
  unfold ownName gets at hn
  rw [Bool.and_eq_true, Bool.and_eq_true] at hn
  obtain ⟨⟨h1, h2⟩, h3⟩ := hn
  obtain ⟨attr, h4, h5⟩ := any_some h3
  refine get_value (S.stat T).X I (beq_iff_eq.mp h1) (findObj_own h2 h4 h5 (by rw [lookIn_id hid, lookup_of_mem (by obtain ⟨_, _, _, _, _, _, q⟩ := hid; exact q) mv])) hv (h _ (S.toks _))

theorem getCls {Q : Value → Shared → Prop} (T : Stat K B.heap) (S : St B fs l s) (mi : (x, instC C d) ∈ l) (md : (d, idC xs) ∈ l) (hn : clsName K C name v = true) (h : ∀ s', St B fs l s' → Q v s') (mv : name ∉ xs.map (·.1) := by simp only [List.map_cons, List.map_nil]; decide +kernel) :
    wpAny (model prog w) A (getAttr (.ref x) name expr) Q E s := by
  obtain ⟨ox, od, I, _, hid, _⟩ := S.inst mi md
  unfold clsName gets at hn
  simp only [Bool.and_eq_true] at hn
  obtain ⟨⟨⟨h1, h2⟩, h3⟩, h6⟩ := hn
  obtain ⟨attr, h4, h5⟩ := any_some h3
  obtain ⟨a, rfl, h7⟩ := any_some h5
  simp only [Bool.and_eq_true, beq_iff_eq] at h7
  obtain ⟨⟨rfl, h8⟩, h9⟩ := h7
  obtain ⟨g, h10, h11⟩ := any_some h8
  have : g = none := by cases g with | none => rfl | some _ => cases h11
  subst this
  exact get_value (S.stat T).X I (beq_iff_eq.mp h1) (findObj_cls h2 h4 h10 h9 (by simpa using h6) (by rw [lookIn_id hid, lookup_none mv])) h9 (h _ (S.toks _))
end

end
-- M4
section
set_option maxRecDepth 100000
open Builtin.ObjectAttr

/-- an instance's own name may be stored plainly -/
def setsName (K : Frag) (C : Addr) (name : Str) : Bool :=
  findIn K (.ref C) "__setattr__" == some (some (.builtin "object.__setattr__")) && plainOver K C && takerIn K C name == some none && hasDictIn K C

section
variable {prog : Program} {w : World} {A : Around} {E : Value → Shared → Prop} {B : Shared} {fs : List Env} {l l' : Cells} {s : Shared} {K : Frag} {x C d : Addr} {xs xs' : Names} {name : Str} {v : Value}

theorem setGen {Q : Unit → Shared → Prop} (T : Stat K B.heap) (S : St B fs l s) (mi : (x, instC C d) ∈ l) (md : (d, idC xs) ∈ l) (hn : setsName K C name = true) (hsz : xs.length ≤ 100)
    (h : ∀ h' o t, Heap.SameBut d s.heap h' → h'.get? d = some o → (∃ es ep, o.data = .dict es ep ∧ StrKeys es ∧ UniqKeys es ∧ ∀ y, nsFind es y = if y = name then some v else xs.lookup y) → Q () { s with heap := h', toks := t }) :
    wpAny (model prog w) A (setAttr (.ref x) name v) Q E s := by
  obtain ⟨ox, od, I, hox, hid, hod⟩ := S.inst mi md
  have X := (S.stat T).X
  have X' : K.In ({ s with toks := s.toks + 1 } : Shared).heap := X
  unfold setsName at hn
  simp only [Bool.and_eq_true, beq_iff_eq] at hn
  obtain ⟨⟨⟨h1, h2⟩, h3⟩, h4⟩ := hn
  refine set_plain X I h1 (osa_open (s := { s with toks := s.toks + 1 }) X I h2 h3 fun b => ?_)
  obtain ⟨cd, hc, hd'⟩ := any_some h4
  obtain ⟨hx, hcl, hnc, -⟩ := I
  obtain ⟨oc, odi, oda, osl⟩ := ox
  dsimp only at hcl hox
  subst hcl hox
  refine wpAny_bind (wpAny_pure (wpAny_bind (wpAny_bind (wpAny_loadPart hx (wpAny_bind ((looks_clsIn X' hc).here ?_))))))
  rw [hd']
  refine wpAny_pure (a := some d) (wpAny_bind (wpAny_pure (wpAny_bind ?_)))
  obtain ⟨es, ep, e1, e2, e3, e4, e5⟩ := hid
  have hns : s.heap.Ns1 d (fun y => xs.lookup y) := ⟨od, es, ep, hod, e1, e2, e3, e4⟩
  refine wpAny_nsSet1 (s := { s with toks := s.toks + 1 }) hns fun h' hn' hs => ?_
  have hw : Within (fun y => xs.lookup y) (xs.map (·.1)) := fun y hy => by
    by_cases q : y ∈ xs.map (·.1)
    · exact q
    · exact (hy (lookup_none q)).elim
  obtain ⟨oD, esD, epD, hoD, hdD, hcD⟩ := hn'.count (Within.cons name v hw)
  refine wpAny_bind (wpAny_lookBehind hoD (by rw [hdD]; exact pastItsLine_dict (Nat.le_trans hcD (by rw [List.length_cons, List.length_map, sizeLine_eq]; omega))) ?_)
  obtain ⟨o', es', ep', g1, g2, g3, g4, g5⟩ := hn'
  exact wpAny_pure (h h' o' _ hs g1 ⟨es', ep', g2, g3, g4, g5⟩)

theorem setOwn {Q : Unit → Shared → Prop} {u : Value} (T : Stat K B.heap) (S : St B fs l s) (mi : (x, instC C d) ∈ l) (md : Upd l (d, idC xs) (d, idC xs') l') (p : Upd xs (name, u) (name, v) xs') (hn : setsName K C name = true)
    (h : ∀ s', St B fs l' s' → Q () s') (hsz : xs.length ≤ 100 := by first | decide | (simp only [List.length_cons, List.length_nil]; omega)) : wpAny (model prog w) A (setAttr (.ref x) name v) Q E s := by
  obtain ⟨_, _, _, _, ⟨_, _, _, _, _, _, nd⟩, _⟩ := S.inst mi md.mem
  refine setGen T S mi md.mem hn hsz fun h' o t hs ho ⟨es, ep, g1, g2, g3, g4⟩ => h _ ?_
  exact S.set md t hs ho ⟨es, ep, g1, g2, g3, fun y => (g4 y).trans (p.lookup nd y), (p.keys (f := (·.1)) rfl) ▸ nd⟩ (.inl fun vs e => by rw [g1] at e; cases e) fun _ => soft_idC
theorem setNew {Q : Unit → Shared → Prop} (T : Stat K B.heap) (S : St B fs l s) (mi : (x, instC C d) ∈ l) (md : Upd l (d, idC xs) (d, idC ((name, v) :: xs)) l') (hn : setsName K C name = true)
    (h : ∀ s', St B fs l' s' → Q () s') (hx : name ∉ xs.map (·.1) := by simp only [List.map_cons, List.map_nil]; decide +kernel) (hsz : xs.length ≤ 100 := by first | decide | (simp only [List.length_cons, List.length_nil]; omega)) : wpAny (model prog w) A (setAttr (.ref x) name v) Q E s := by
  obtain ⟨_, _, _, _, ⟨_, _, _, _, _, _, nd⟩, _⟩ := S.inst mi md.mem
  refine setGen T S mi md.mem hn hsz fun h' o t hs ho ⟨es, ep, g1, g2, g3, g4⟩ => h _ ?_
  exact S.set md t hs ho ⟨es, ep, g1, g2, g3, fun y => (g4 y).trans (lookup_cons_new y), by rw [List.map_cons]; exact List.nodup_cons.mpr ⟨hx, nd⟩⟩ (.inl fun vs e => by rw [g1] at e; cases e) fun _ => soft_idC
end

end
-- M5
section
set_option maxRecDepth 100000

/-- room for n calls more -/
structure Room (n : Nat) (fs : List Env) (A : Around) : Prop where
  frames : A.frames = some fs
  depth : A.depth + n < recursionLimit
  units : A.units + 8 * n < cLine
  handled : A.handled = none
namespace Room
variable {n m : Nat} {fs : List Env} {A : Around} {env : Env}
theorem deeper (r : Room (n + 1) fs A) : Room n (env :: fs) (A.deeper env) :=
  ⟨Around.frames_deeper r.frames, by have := r.depth; show A.depth + 1 + n < _; omega, by have := r.units; show A.units + 3 + 8 * n < _; omega, r.handled⟩
theorem in1 (r : Room (n + 1) fs A) : Room n fs A.in1 :=
  ⟨r.frames, by have := r.depth; show A.depth + n < _; omega, by have := r.units; show A.units + 1 + 8 * n < _; omega, r.handled⟩
theorem less (r : Room n fs A) (h : m ≤ n) : Room m fs A := ⟨r.frames, by have := r.depth; omega, by have := r.units; omega, r.handled⟩
theorem room (r : Room (n + 1) fs A) : A.depth < recursionLimit := by have := r.depth; omega
theorem u1 (r : Room (n + 1) fs A) : A.units + 1 < cLine := by have := r.units; omega
theorem u0 (r : Room (n + 1) fs A) : A.units < cLine := by have := r.units; omega
end Room

structure FnOk (K : Frag) (f : Addr) (fd : FuncData) (body : List Stmt) : Prop where
  at_ : (K.lookup f).map (·.data) = some (.func fd)
  body_ : fd.body = .stmts body
  code : codeIn K fd.code fd.qualname = true
  glob : fd.globals = mainGlobals
  clos : fd.closure = []
  blt : fd.builtins = builtinsNs
  kind : fd.scope.kind = .function
  co : fd.scope.isCoroutine = false
  cell : ∀ x ∈ fd.scope.names, x.2 ≠ .cell
abbrev fnEnv (fd : FuncData) (L f : Addr) : Env := envOf fd.qualname fd.scope L f fd.code

section
variable {prog : Program} {w : World} {A : Around} {B : Shared} {fs : List Env} {l : Cells} {s : Shared} {K : Frag} {f : Addr} {fd : FuncData} {body : List Stmt} {args : Args} {binds : List (Str × Value)} {R : Result → Shared → Prop} {n : Nat}

theorem callS {locs : Names} {names : List Str} (F : FnOk K f fd body) (T : Stat K B.heap) (S : St B fs l s) (r : Room (n + 1) fs A) (hb : BindsTo s fd args binds)
    (hnames : binds.map (·.1) = names) (hlocs : binds.reverse = locs) (hloc : (names.all fun x => fd.scope.names.lookup x == some .local && !(x == ("__debug__" : Str))) = true) (hnd : names.Nodup) (hgen : fd.scope.isGenerator = false)
    (h : ∀ L s', Room n (fnEnv fd L f :: fs) (A.deeper (fnEnv fd L f)) → St B (fnEnv fd L f :: fs) ((L, nsC fd.scope locs) :: l) s' →
      wpAny (model prog w) (A.deeper (fnEnv fd L f)) (execs body (fnEnv fd L f)) (fun fl s' => R (.ok (.ret (match fl with | .ret v => v | _ => .none))) s') (fun _ _ => False) s') :
    codeAny (model prog w) A (.call (.ref f) args) R s := by
  subst hnames hlocs
  have nd := hnd
  have hloc : ∀ p ∈ binds, fd.scope.names.lookup p.1 = some .local ∧ (p.1 == ("__debug__" : Str)) = false := fun p hp => by
    have := List.all_eq_true.mp hloc p.1 (List.mem_map.mpr ⟨p, hp, rfl⟩)
    simpa using this
  have T' := S.stat T
  obtain ⟨o, ho, hd⟩ := Option.map_eq_some_iff.mp F.at_
  have env : ∀ L, callEnv fd L f = fnEnv fd L f := fun L => by
    unfold callEnv fnEnv envOf newEnv
    rw [F.glob, F.clos, F.blt]
  refine codeAny_call_def (body := body) (binds := binds) r.room (T'.X _ _ ho) hd T'.lim (codeRec_of T'.X F.code) F.body_ hb F.cell (fun x hx => (hloc x hx).1) (fun h₀ hns hk => ?_) F.co hgen F.kind
  rw [env]
  refine wpAny_mono (h s.heap.objs.size _ r.deeper ?_) (fun _ _ x => x) (fun _ _ x => x.elim)
  obtain ⟨oL, es, ep, hL, h1, h2, h3⟩ := hns
  have S1 := S.grow (a := s.heap.objs.size) (o := oL) (c := nsC fd.scope binds.reverse) (s.toks + binds.length) hk (Heap.get?_none_of_le (Nat.le_refl _)) S.none_at S.size hL
    ⟨⟨es, ep, h1, h2, h3⟩, by rw [List.map_reverse]; exact (List.reverse_perm _).nodup_iff.mpr nd, F.kind, fun p hp => hloc p (List.mem_reverse.mp hp)⟩
  refine ⟨S1.base, S1.has, S1.nd, S1.fresh, ?_, S1.gens, S1.drawn, S1.os, S1.low, S1.big, fun x hx hm => ?_⟩
  · exact ⟨by show fd.scope.kind ≠ _; rw [F.kind]; decide, ⟨_, oL, rfl, S.none_at, hL, fun vs q => by rw [h1] at q; cases q⟩, S1.frames⟩
  · rcases List.mem_cons.mp hx with rfl | hx'
    · exact soft_nsC
    · rw [List.filterMap_cons] at hm
      rcases List.mem_cons.mp (show x.1 ∈ s.heap.objs.size :: _ from hm) with e | hm
      · have := S.lt hx'
        rw [e] at this; exact absurd this (Nat.lt_irrefl _)
      · exact S.soft x hx' hm
end

end
-- M6
section
set_option maxRecDepth 100000
end
local macro_rules | `(tactic| walk_at "m_mem") => `(tactic| repeat (first | with_reducible exact List.mem_cons_self | with_reducible refine List.mem_cons_of_mem _ ?_))
section
set_option maxRecDepth 100000
end
local macro_rules | `(tactic| walk_at "m_nin") => `(tactic| (simp only [List.map_cons, List.map_nil]; decide +kernel))
section
set_option maxRecDepth 100000
end
local macro_rules | `(tactic| walk_at "m_updt") => `(tactic| repeat (first | with_reducible exact Upd.here | with_reducible apply Upd.there))
section
set_option maxRecDepth 100000

section
variable {prog : Program} {w : World} {A : Around} {E : Value → Shared → Prop} {B : Shared} {fs : List Env} {l l' : Cells} {s : Shared} {K : Type} [DecidableEq K] {knd : AnyKind prog w K}
  {d : Addr} {xs xs' : List (K × Value × Value)} {key v : Value} {k : K}
theorem St.dict (S : St B fs l s) (m : (d, dictC knd B xs) ∈ l) : DictK knd s.heap d xs := by
  obtain ⟨o, ho, es, ep, h1, h2, h3, h4, h5⟩ := S.has _ m
  exact ⟨o, es, ep, ho, h1, h2, h3, fun x hx => knd.grows (h4 x hx) S.base, h5⟩
theorem St.keyed (S : St B fs l s) (hk : knd.is B.heap k key) : knd.is s.heap k key := knd.grows hk S.base
theorem St.notMods {c : Cell} (S : St B fs l s) (m : (d, c) ∈ l) : (d == sysModules) = false := by
  have := S.big _ m
  exact beq_eq_false_iff_ne.mpr fun e => by subst e; exact absurd this (Nat.lt_irrefl _)
theorem St.setDict (S : St B fs l s) (u : Upd l (d, dictC knd B xs) (d, dictC knd B xs') l') {h' : Heap} (t : Nat) (hm : DictK knd h' d xs') (hs : Heap.SameBut d s.heap h') (hk : ∀ x ∈ xs', knd.is B.heap x.1 x.2.1) :
    St B fs l' { s with heap := h', toks := t } := by
  obtain ⟨o, es, ep, ho, h1, h2, h3, h4, h5⟩ := hm
  exact S.set u t hs ho ⟨es, ep, h1, h2, h3, hk, h5⟩ (.inl fun vs e => by rw [h2] at e; cases e) fun hm => (notSoft_dictC _ (S.has _ u.mem).choose_spec.2 (S.soft _ u.mem hm)).elim
theorem St.keys (S : St B fs l s) (m : (d, dictC knd B xs) ∈ l) : ∀ x ∈ xs, knd.is B.heap x.1 x.2.1 := by
  obtain ⟨o, ho, es, ep, h1, h2, h3, h4, h5⟩ := S.has _ m
  exact h4

theorem inS {Q : Value → Shared → Prop} (S : St B fs l s) (m : (d, dictC knd B xs) ∈ l) (hu : A.units + 1 < cLine) (hk : knd.is B.heap k key) (h : ∀ s', St B fs l s' → Q (.bool (atK xs k).isSome) s') :
    wpAny (model prog w) A (compareOp .In key (.ref d)) Q E s :=
  inK hu (S.keyed hk) (S.notMods m) (S.dict m) (h _ (S.toks _))
end

end
-- M7
section
set_option maxRecDepth 100000

/-- a method of the class, a plain function, met through an instance -/
def methName (K : Frag) (C : Addr) (name : Str) (f : Addr) : Bool :=
  findIn K (.ref C) "__getattribute__" == some (some (.builtin "object.__getattribute__")) && findIn K (.ref C) "__getattr__" == some none && findIn K (.ref C) name == some (some (.ref f)) && typeIn K (.ref f) == some (.type "function")
/-- a function that lies plainly in a class, met through the class -/
def clsFn (K : Frag) (C : Addr) (name : Str) (f : Addr) : Bool :=
  match clsMeta K C with
  | some mc => specialIn K (.ref C) "__getattribute__" == some (some (.builtin "type.__getattribute__")) && readsIn K C mc && (findCls K (.ref C) mc name).any (fun r => match r with | .val v => v == .ref f | _ => false)
  | none => false
where clsMeta (K : Frag) (C : Addr) : Option Value := typeIn K (.ref C)

section
variable {prog : Program} {w : World} {M : Model} {A : Around} {E : Value → Shared → Prop} {B : Shared} {fs : List Env} {l l' : Cells} {s : Shared} {K : Frag} {x C d f : Addr} {xs : Names} {name : Str} {v : Value} {pl : Sem Bool} {env : Env} {pos : Pos} {first : List Value}

theorem methFn {Q : Value × List Value → Shared → Prop} (T : Stat K B.heap) (S : St B fs l s) (mi : (x, instC C d) ∈ l) (md : (d, idC xs) ∈ l) (hm : methName K C name f = true) (h : Q (.ref f, [.ref x]) s) (mv : name ∉ xs.map (·.1) := by simp only [List.map_cons, List.map_nil]; decide +kernel) :
    wpAny (model prog w) A (getMethod (.ref x) name pl) Q E s := by
  obtain ⟨ox, od, I, _, hid, _⟩ := S.inst mi md
  unfold methName at hm
  simp only [Bool.and_eq_true, beq_iff_eq] at hm
  obtain ⟨⟨⟨h1, h2⟩, h3⟩, h4⟩ := hm
  exact method_fn (S.stat T).X I h1 h2 h3 h4 (by show Option.map _ _ = _; rw [lookIn_id hid, lookup_none mv]; rfl) h

theorem methCls {Q : Value × List Value → Shared → Prop} (T : Stat K B.heap) (S : St B fs l s) (hm : clsFn K C name f = true) (h : ∀ s', St B fs l s' → Q (.ref f, []) s') :
    wpAny (model prog w) A (getMethod (.ref C) name pl) Q E s := by
  unfold clsFn at hm
  split at hm
  · rename_i mc hmc
    simp only [Bool.and_eq_true, beq_iff_eq] at hm
    obtain ⟨⟨h1, h2⟩, h3⟩ := hm
    obtain ⟨r, h4, h5⟩ := any_some h3
    split at h5
    · rename_i u
      obtain rfl := beq_iff_eq.mp h5
      exact method_cls (S.stat T).X h1 (cls_value (S.stat T).X h2 h4 rfl (h _ (S.toks _)))
    · cases h5
  · cases hm
theorem getClsFn {expr : Bool} {Q : Value → Shared → Prop} (T : Stat K B.heap) (S : St B fs l s) (hm : clsFn K C name f = true) (h : ∀ s', St B fs l s' → Q (.ref f) s') :
    wpAny (model prog w) A (getAttr (.ref C) name expr) Q E s := by
  unfold clsFn at hm
  split at hm
  · rename_i mc hmc
    simp only [Bool.and_eq_true, beq_iff_eq] at hm
    obtain ⟨⟨h1, h2⟩, h3⟩ := hm
    obtain ⟨r, h4, h5⟩ := any_some h3
    split at h5
    · rename_i u
      obtain rfl := beq_iff_eq.mp h5
      exact cls_value (S.stat T).X h2 h4 rfl (h _ (S.toks _))
    · cases h5
  · cases hm

theorem callFn {v : Value} {e : Expr} {rest : List Expr} {Q : Value → Shared → Prop} (T : Stat K B.heap) (hk : keepIn K v = true)
    (h : wpAny M A (spliced (backTo pos (starEach (e :: rest) env))) (fun vs s₁ => (∃ fs' l', St B fs' l' s₁) ∧ wpAny M A (call v (first ++ vs)) Q E s₁) E s)
    (he : starEach (e :: rest) env = (false, eval e env) :: starEach rest env := by rfl) (hplain : (backTo pos (starEach rest env)).any (·.1) = false := by rfl) :
    wpAny M A (callWith pos v first (backTo pos (starEach (e :: rest) env)) []) Q E s :=
  callWith_K T.X hk (wpAny_mono h (fun _ _ z => ⟨let ⟨_, _, S⟩ := z.1; (S.stat T).X, z.2⟩) fun _ _ z => z) he hplain
theorem callFn0 {v : Value} {Q : Value → Shared → Prop} (T : Stat K B.heap) (S : St B fs l s) (hk : keepIn K v = true)
    (h : wpAny M A (call v (first ++ [])) Q E s) : wpAny M A (callWith pos v first (backTo pos (starEach [] env)) []) Q E s :=
  callWith_K0 (S.stat T).X hk h
end

end
-- M8
section
set_option maxRecDepth 100000
section
variable {prog : Program} {w : World} {A : Around} {E : Value → Shared → Prop} {B : Shared} {fs : List Env} {l l' : Cells} {s : Shared} {K : Type} [DecidableEq K] {knd : AnyKind prog w K}
  {d : Addr} {xs xs' : List (K × Value × Value)} {key v : Value} {k : K} {env : Env}

/-- a subscript of a dict -/
theorem subD {value slice : Expr} {pos : Pos} {Q : Value → Shared → Prop}
    (h : wpAny (model prog w) A (eval value env) (fun o s₁ => wpAny (model prog w) A (eval slice env) (fun i s₂ => s₂.TypeIs o "dict" ∧ wpAny (model prog w) A (getItem o i) Q E s₂) E s₁) E s)
    (hs : ∀ o i, subscripted slice false o i = operate [o, i] (getItem o i) := by intros; rfl) :
    wpAny (model prog w) A (eval (.Subscript value slice pos) env) Q E s := by
  rw [eval_Subscript]
  refine wpAny_bind (wpAny_mono h (fun o s₁ h₁ => wpAny_bind (wpAny_holding (wpAny_mono h₁ (fun i s₂ h₂ => wpAny_bind (wpAny_standAt ?_)) fun _ _ x => x))) fun _ _ x => x)
  obtain ⟨hT, hg⟩ := h₂
  refine wpAny_bind ?_
  rw [getitemInPython_of_ne hT.not_modules]
  refine wpAny_bind (wpAny_specialOf hT slot_dict_getitem.lookup ?_)
  have fin : wpAny (model prog w) A (operate [o, i] (getItem o i)) (fun r s₃ => wpAny (model prog w) A (letTemporaryGo value o r >>= fun _ => pure r) Q E s₃) E s₂ :=
    wpAny_operating (wpAny_mono hg (fun r s₃ h₃ => wpAny_bind (wpAny_letTemporaryGo (wpAny_pure h₃))) fun _ _ x => x)
  refine wpAny_pure ?_
  rw [hs]
  exact wpAny_bind fin
theorem keysPut {P : K → Value → Prop} (h : ∀ x ∈ xs, P x.1 x.2.1) (hk : P k key) : ∀ x ∈ putK xs k key v, P x.1 x.2.1 := by
  intro x hx
  unfold putK at hx
  split at hx
  · obtain ⟨y, hy, rfl⟩ := List.mem_map.mp hx
    unfold putAtK
    split <;> exact h y hy
  · rcases List.mem_append.mp hx with hx | hx
    · exact h x hx
    · rw [List.mem_singleton.mp hx]; exact hk
theorem St.typeDict (S : St B fs l s) (m : (d, dictC knd B xs) ∈ l) : s.TypeIs (.ref d) "dict" := (S.dict m).typeIs
theorem getS {p : Value × Value} {Q : Value → Shared → Prop} (S : St B fs l s) (m : (d, dictC knd B xs) ∈ l) (hu : A.units + 1 < cLine) (hk : knd.is B.heap k key) (hp : atK xs k = some p) (h : ∀ s', St B fs l s' → Q p.2 s') :
    wpAny (model prog w) A (getItem (.ref d) key) Q E s := getItemK hu (S.keyed hk) (S.dict m) hp (h _ (S.toks _))
theorem putS {Q : Unit → Shared → Prop} (S : St B fs l s) (u : Upd l (d, dictC knd B xs) (d, dictC knd B (putK xs k key v)) l') (hu : A.units + 1 < cLine) (hk : knd.is B.heap k key) (h : ∀ s', St B fs l' s' → Q () s') (hsz : xs.length ≤ sizeLine) :
    wpAny (model prog w) A (setItem (.ref d) key v) Q E s :=
  setItemK hu (S.keyed hk) (S.dict u.mem) (fun h' hm hs => h _ (S.setDict u _ hm hs (by
    exact keysPut (S.keys u.mem) hk))) hsz
theorem delS {p : Value × Value} {Q : Unit → Shared → Prop} (S : St B fs l s) (u : Upd l (d, dictC knd B xs) (d, dictC knd B (delK xs k)) l') (hu : A.units + 1 < cLine) (hk : knd.is B.heap k key) (hp : atK xs k = some p) (h : ∀ s', St B fs l' s' → Q () s') (hsz : xs.length ≤ sizeLine) :
    wpAny (model prog w) A (delItem (.ref d) key) Q E s :=
  delItemK hu (S.keyed hk) (S.dict u.mem) hp (fun h' hm hs => h _ (S.setDict u _ hm hs (by
    exact fun x hx => S.keys u.mem x ((List.mem_filter.mp hx).1)))) hsz
end

end
-- M9
section
set_option maxRecDepth 100000
section
variable {prog : Program} {w : World} {A : Around} {E : Value → Shared → Prop} {B : Shared} {fs : List Env} {l : Cells} {s : Shared} {a b : Int} {t u : Tok} {k : Nat} {pos : Pos} {env : Env}
theorem intS {i : Int} {Q : Value → Shared → Prop} (S : St B fs l s) (h : ∀ s' t', St B fs l s' → Q (.int i t') s') : wpAny (model prog w) A (eval (.Constant (.int i) k pos) env) Q E s :=
  wpAny_Constant_int (h _ _ (S.toks _))
theorem addS {Q : Value → Shared → Prop} (S : St B fs l s) (h : ∀ s' t', St B fs l s' → Q (.int (a + b) t') s') : wpAny (model prog w) A (binaryOp .Add (.int a t) (.int b u)) Q E s := P.add_int (h _ _ (S.toks _))
theorem mulS {Q : Value → Shared → Prop} (S : St B fs l s) (hm : IntMulOk a b) (h : ∀ s' t', St B fs l s' → Q (.int (a * b) t') s') : wpAny (model prog w) A (binaryOp .Mult (.int a t) (.int b u)) Q E s := P.mul_int (h _ _ (S.toks _)) hm
theorem subS {Q : Value → Shared → Prop} (S : St B fs l s) (h : ∀ s' t', St B fs l s' → Q (.int (a - b) t') s') : wpAny (model prog w) A (binaryOp .Sub (.int a t) (.int b u)) Q E s := P.sub_int (h _ _ (S.toks _))
theorem iaddS {Q : Value → Shared → Prop} (S : St B fs l s) (h : ∀ s' t', St B fs l s' → Q (.int (a + b) t') s') : wpAny (model prog w) A (inplaceOp .Add (.int a t) (.int b u)) Q E s := P.iadd_int (h _ _ (S.toks _))
theorem isubS {Q : Value → Shared → Prop} (S : St B fs l s) (h : ∀ s' t', St B fs l s' → Q (.int (a - b) t') s') : wpAny (model prog w) A (inplaceOp .Sub (.int a t) (.int b u)) Q E s := P.isub_int (h _ _ (S.toks _))
end

end
local macro_rules | `(tactic| walk_at "m_fact") => `(tactic| kernel_rfl)
section
set_option maxRecDepth 100000

end
local macro_rules | `(tactic| walk_at "m_wk1") => `(tactic| first
  | ((with_reducible show wpAny _ _ (eval _ _) _ _ _); first
      | ((with_reducible show wpAny _ _ (eval (Expr.Compare _ [_] [_] _) _) _ _ _); refine wpAny_Compare1 ?_)
      | ((with_reducible show wpAny _ _ (eval (Expr.BinOp _ _ _ _) _) _ _ _); refine wpAny_BinOp ?_)
      | ((with_reducible show wpAny _ _ (eval (Expr.UnaryOp _ _ _) _) _ _ _); refine wpAny_UnaryOp ?_)
      | ((with_reducible show wpAny _ _ (eval (Expr.Name _ _) _) _ _ _); refine ldS (by assumption) (by walk_at "m_mem") (by walk_at "m_mem") ?_)
      | ((with_reducible show wpAny _ _ (eval (Expr.Name _ _) _) _ _ _); refine ldG (by assumption) (by assumption) (by kernel_rfl) ?_)
      | ((with_reducible show wpAny _ _ (eval (Expr.Constant Const.none _ _) _) _ _ _); refine wpAny_Constant_none ?_)
      | ((with_reducible show wpAny _ _ (eval (Expr.Constant (Const.bool _) _ _) _) _ _ _); refine wpAny_Constant_bool ?_)
      | ((with_reducible show wpAny _ _ (eval (Expr.Constant (Const.int _) _ _) _) _ _ _); refine intS (by assumption) fun s' t' S' => ?_)
      | ((with_reducible show wpAny _ _ (eval (Expr.Attribute _ _ _) _) _ _ _); refine Attribute_any_ ?_))
  | ((with_reducible show wpAny _ _ (getAttr _ _ _) _ _ _); first
      | refine getOwn (by assumption) (by assumption) (by walk_at "m_mem") (by walk_at "m_mem") (by walk_at "m_mem") (by walk_at "m_fact") (by rfl) fun s' S' => ?_
      | refine getCls (by assumption) (by assumption) (by walk_at "m_mem") (by walk_at "m_mem") (by walk_at "m_fact") (fun s' S' => ?_) (by walk_at "m_nin"))
  | ((with_reducible show wpAny _ _ (execs _ _) _ _ _); first
      | ((with_reducible show wpAny _ _ (execs (_ :: _) _) _ _ _); refine wpAny_execs_cons ?_)
      | ((with_reducible show wpAny _ _ (execs [] _) _ _ _); refine wpAny_execs_nil ?_))
  | ((with_reducible show wpAny _ _ (exec _ _) _ _ _); first
      | ((with_reducible show wpAny _ _ (exec (Stmt.Return (some _) _) _) _ _ _); refine wpAny_Return_some ?_)
      | ((with_reducible show wpAny _ _ (exec (Stmt.Return none _) _) _ _ _); refine wpAny_Return_none ?_)
      | ((with_reducible show wpAny _ _ (exec (Stmt.If _ _ _ _) _) _ _ _); refine wpAny_If ?_)
      | ((with_reducible show wpAny _ _ (exec (Stmt.Assign [Expr.Name _ _] _ _) _) _ _ _); refine wpAny_Assign_Name ?_)
      | ((with_reducible show wpAny _ _ (exec (Stmt.Assign [Expr.Attribute _ _ _] _ _) _) _ _ _); refine plainObj_wpAny_Assign_Attribute ?_)
      | ((with_reducible show wpAny _ _ (exec (Stmt.Assign [Expr.Subscript _ _ _] _ _) _) _ _ _); refine wpAny_Assign_Subscript ?_)
      | ((with_reducible show wpAny _ _ (exec (Stmt.AugAssign (Expr.Attribute _ _ _) _ _ _) _) _ _ _); refine wpAny_AugAssign_AttributeAny ?_)
      | ((with_reducible show wpAny _ _ (exec (Stmt.Pass _) _) _ _ _); refine wpAny_Pass ?_)
      | ((with_reducible show wpAny _ _ (exec (Stmt.Delete _ _) _) _ _ _); refine wpAny_Delete ?_)
      | ((with_reducible show wpAny _ _ (exec (Stmt.Expr _ _) _) _ _ _); refine wpAny_Expr_any ?_))
  | ((with_reducible show wpAny _ _ (storeName _ _ _) _ _ _); first
      | refine stS (by assumption) (by walk_at "m_updt") (by walk_at "m_updt") fun s' S' => ?_
      | refine stSnew (by assumption) (by walk_at "m_updt") fun s' S' => ?_)
  | ((with_reducible show wpAny _ _ (isTrue _ _ _) _ _ _); first
      | ((with_reducible show wpAny _ _ (isTrue (Expr.Compare _ [_] [_] _) _ _) _ _ _); refine wpAny_isTrue_Compare1 ?_)
      | ((with_reducible show wpAny _ _ (isTrue (Expr.UnaryOp UnaryOp.Not _ _) _ _) _ _ _); refine wpAny_isTrue_Not ?_)
      | ((with_reducible show wpAny _ _ (isTrue (Expr.BoolOp _ _ _) _ _) _ _ _); refine wpAny_isTrue_BoolOp ?_)
      | ((with_reducible show wpAny _ _ (isTrue (Expr.Name _ _) _ _) _ _ _); refine wpAny_isTrue_value ?_)
      | ((with_reducible show wpAny _ _ (isTrue (Expr.Attribute _ _ _) _ _) _ _ _); refine wpAny_isTrue_value ?_)
      | ((with_reducible show wpAny _ _ (isTrue (Expr.Call _ _ _ _) _ _) _ _ _); refine wpAny_isTrue_value ?_))
  | ((with_reducible show wpAny _ _ (compareOp _ _ _) _ _ _); first
      | ((with_reducible show wpAny _ _ (compareOp CmpOp.Lt (Value.int _ _) (Value.int _ _)) _ _ _); refine P.lt_int ?_)
      | ((with_reducible show wpAny _ _ (compareOp CmpOp.Gt (Value.int _ _) (Value.int _ _)) _ _ _); refine P.gt_int ?_)
      | ((with_reducible show wpAny _ _ (compareOp CmpOp.Eq (Value.int _ _) (Value.int _ _)) _ _ _); refine P.eq_int ?_)
      | ((with_reducible show wpAny _ _ (compareOp CmpOp.NotEq (Value.int _ _) (Value.int _ _)) _ _ _); refine P.ne_int ?_)
      | ((with_reducible show wpAny _ _ (compareOp CmpOp.Is _ Value.none) _ _ _); refine is_none ?_)
      | ((with_reducible show wpAny _ _ (compareOp CmpOp.IsNot _ Value.none) _ _ _); refine isNot_none ?_))
  | ((with_reducible show wpAny _ _ (truthy _) _ _ _); first
      | ((with_reducible show wpAny _ _ (truthy (Value.bool _)) _ _ _); refine wpAny_truthy_bool ?_)
      | ((with_reducible show wpAny _ _ (truthy (Value.int _ _)) _ _ _); refine P.truthy_int ?_))
  | ((with_reducible show wpAny _ _ (setAttr _ _ _) _ _ _); first
      | refine setOwn (by assumption) (by assumption) (by walk_at "m_mem") (by walk_at "m_updt") (by walk_at "m_updt") (by walk_at "m_fact") (fun s' S' => ?_)
      | refine setNew (by assumption) (by assumption) (by walk_at "m_mem") (by walk_at "m_updt") (by walk_at "m_fact") (fun s' S' => ?_) (by walk_at "m_nin"))
  | ((with_reducible show wpAny _ _ (binaryOp _ _ _) _ _ _); first
      | ((with_reducible show wpAny _ _ (binaryOp Operator.Add (Value.int _ _) (Value.int _ _)) _ _ _); refine addS (by assumption) fun s' t' S' => ?_)
      | ((with_reducible show wpAny _ _ (binaryOp Operator.Sub (Value.int _ _) (Value.int _ _)) _ _ _); refine subS (by assumption) fun s' t' S' => ?_))
  | ((with_reducible show wpAny _ _ (inplaceOp _ _ _) _ _ _); first
      | ((with_reducible show wpAny _ _ (inplaceOp Operator.Add (Value.int _ _) (Value.int _ _)) _ _ _); refine iaddS (by assumption) fun s' t' S' => ?_)
      | ((with_reducible show wpAny _ _ (inplaceOp Operator.Sub (Value.int _ _) (Value.int _ _)) _ _ _); refine isubS (by assumption) fun s' t' S' => ?_))
  | ((with_reducible show wpAny _ _ (allTrue _ _ _) _ _ _); first
      | ((with_reducible show wpAny _ _ (allTrue BoolOp.And (_ :: _) _) _ _ _); refine wpAny_allTrue_And_cons ?_)
      | ((with_reducible show wpAny _ _ (allTrue BoolOp.And [] _) _ _ _); refine wpAny_allTrue_And_nil ?_)
      | ((with_reducible show wpAny _ _ (allTrue BoolOp.Or (_ :: _) _) _ _ _); refine wpAny_allTrue_Or_cons ?_)
      | ((with_reducible show wpAny _ _ (allTrue BoolOp.Or [] _) _ _ _); refine wpAny_allTrue_Or_nil ?_))
  | ((with_reducible show wpAny _ _ (deleteEach _ _) _ _ _); first
      | ((with_reducible show wpAny _ _ (deleteEach (_ :: _) _) _ _ _); refine wpAny_deleteEach_cons ?_)
      | ((with_reducible show wpAny _ _ (deleteEach [] _) _ _ _); refine wpAny_deleteEach_nil ?_))
  | ((with_reducible show wpAny _ _ (delete _ _) _ _ _); first
      | ((with_reducible show wpAny _ _ (delete (Expr.Subscript _ _ _) _) _ _ _); refine wpAny_delete_Subscript ?_)))
section
set_option maxRecDepth 100000
end
local macro_rules | `(tactic| walk_at "m_wk") => `(tactic| repeat walk_at "m_wk1")
section
set_option maxRecDepth 100000

end
-- M10
section
set_option maxRecDepth 100000
section
variable {prog : Program} {w : World} {A : Around} {E : Value → Shared → Prop} {s : Shared} {env : Env} {test : Expr} {body : List Stmt} {pos : Pos}
/-- a loop by a measure that goes down, without a break -/
theorem whileS {Q : Flow → Shared → Prop} (I : Nat → Shared → Prop)
    (turn : ∀ n s, I n s → wpAny (model prog w) A (isTrue test env (eval test env)) (fun b s₂ =>
      if b = true then wpAny (model prog w) A (execs body env) (fun f s₃ => match f with
        | .next => ∃ m, m < n ∧ I m s₃
        | .cont => ∃ m, m < n ∧ I m s₃
        | .brk => False
        | .ret v => Q (.ret v) s₃) (fun _ _ => False) s₂ else Q .next s₂) (fun _ _ => False) s)
    (n : Nat) (h : I n s) : wpAny (model prog w) A (exec (.While test body [] pos) env) Q E s := by
  refine wpAny_While (codeAny_whileLoop I (fun n s hI => wpAny_mono (turn n s hI) (fun b s₂ hb => ?_) fun _ _ x => x.elim) n h)
  cases b with
  | true =>
    rw [if_pos rfl] at hb
    simp only [if_true]
    refine wpAny_mono hb (fun f s₃ h₃ => ?_) fun _ _ x => x.elim
    cases f with
    | next => exact h₃
    | cont => exact h₃
    | brk => exact h₃.elim
    | ret v => exact h₃
  | false =>
    rw [if_neg (by decide)] at hb
    simp only [Bool.false_eq_true, if_false]
    exact wpAny_execs_nil hb
/-- a loop that is not entered -/
theorem whileNo {Q : Flow → Shared → Prop} (h : wpAny (model prog w) A (isTrue test env (eval test env)) (fun b s₂ => b = false ∧ Q .next s₂) (fun _ _ => False) s) :
    wpAny (model prog w) A (exec (.While test body [] pos) env) Q E s :=
  whileS (fun _ s' => s' = s) (fun n s' e => by subst e; exact wpAny_mono h (fun b s₂ hb => by rw [hb.1, if_neg (by decide)]; exact hb.2) fun _ _ x => x) 0 rfl
/-- a loop of one turn -/
theorem whileOnce {Q : Flow → Shared → Prop} (P : Shared → Prop)
    (h : wpAny (model prog w) A (isTrue test env (eval test env)) (fun b s₂ => b = true ∧ wpAny (model prog w) A (execs body env) (fun f s₃ => f = .next ∧ P s₃) (fun _ _ => False) s₂) (fun _ _ => False) s)
    (h2 : ∀ s', P s' → wpAny (model prog w) A (isTrue test env (eval test env)) (fun b s₂ => b = false ∧ Q .next s₂) (fun _ _ => False) s') :
    wpAny (model prog w) A (exec (.While test body [] pos) env) Q E s := by
  refine whileS (fun n s' => (n = 1 ∧ s' = s) ∨ (n = 0 ∧ P s')) (fun n s' hI => ?_) 1 (.inl ⟨rfl, rfl⟩)
  rcases hI with ⟨rfl, rfl⟩ | ⟨rfl, hP⟩
  · refine wpAny_mono h (fun b s₂ hb => ?_) fun _ _ x => x
    rw [hb.1, if_pos rfl]
    refine wpAny_mono hb.2 (fun f s₃ h₃ => ?_) fun _ _ x => x
    rw [h₃.1]
    exact ⟨0, Nat.one_pos, .inr ⟨rfl, h₃.2⟩⟩
  · exact wpAny_mono (h2 s' hP) (fun b s₂ hb => by rw [hb.1, if_neg (by decide)]; exact hb.2) fun _ _ x => x
end

end
-- M11
section
set_option maxRecDepth 100000
/-- a special method of the class, a plain function -/
def specFn (K : Frag) (C : Addr) (name : Str) (f : Addr) : Bool := findIn K (.ref C) name == some (some (.ref f)) && isFn K (.ref f)
section
variable {prog : Program} {w : World} {M : Model} {A : Around} {E : Value → Shared → Prop} {B : Shared} {fs : List Env} {l l' : Cells} {s : Shared} {K : Frag} {x C d f : Addr} {xs : Names} {v key : Value}
theorem delOwn {Q : Unit → Shared → Prop} (T : Stat K B.heap) (S : St B fs l s) (mi : (x, instC C d) ∈ l) (md : (d, idC xs) ∈ l) (hq : noSeq K C = true) (hs : specFn K C (Str.ofString "__delitem__") f = true)
    (h : wpAny (model prog w) A (call (.ref f) [.ref x, key]) (fun _ s' => Q () s') E s) : wpAny (model prog w) A (delItem (.ref x) key) Q E s := by
  obtain ⟨ox, od, I, _, hid, _⟩ := S.inst mi md
  have X := (S.stat T).X
  unfold specFn isFn at hs
  simp only [Bool.and_eq_true, beq_iff_eq] at hs
  unfold delItem sequenceKey
  refine wpAny_holding (wpAny_bind (wpAny_bind (I.type.here ?_)))
  refine wpAny_bind ((anyM_none X hq).here ?_)
  rw [if_pos (show (!false) = true from rfl)]
  exact wpAny_pure (wpAny_bind (special_fn X I hs.1 hs.2 (wpAny_mono h (fun _ _ z => wpAny_pure z) fun _ _ z => z)))
theorem setOwnItem {Q : Unit → Shared → Prop} (T : Stat K B.heap) (S : St B fs l s) (mi : (x, instC C d) ∈ l) (md : (d, idC xs) ∈ l) (hq : noSeq K C = true) (hs : specFn K C (Str.ofString "__setitem__") f = true)
    (h : wpAny (model prog w) A (call (.ref f) [.ref x, key, v]) (fun _ s' => Q () s') E s) : wpAny (model prog w) A (setItem (.ref x) key v) Q E s := by
  obtain ⟨ox, od, I, _, hid, _⟩ := S.inst mi md
  have X := (S.stat T).X
  unfold specFn isFn at hs
  simp only [Bool.and_eq_true, beq_iff_eq] at hs
  unfold setItem sequenceKey
  refine wpAny_holding (wpAny_bind (wpAny_bind (I.type.here ?_)))
  refine wpAny_bind ((anyM_none X hq).here ?_)
  rw [if_pos (show (!false) = true from rfl)]
  exact wpAny_pure (wpAny_bind (special_fn X I hs.1 hs.2 (wpAny_mono h (fun _ _ z => wpAny_pure z) fun _ _ z => z)))
theorem inOwn {Q : Value → Shared → Prop} (T : Stat K B.heap) (S : St B fs l s) (mi : (x, instC C d) ∈ l) (md : (d, idC xs) ∈ l) (hs : specFn K C (Str.ofString "__contains__") f = true)
    (h : wpAny (model prog w) A (call (.ref f) [.ref x, key]) (fun r s' => wpAny (model prog w) A (truthy r) (fun b => Q (.bool b)) E s') E s) : wpAny (model prog w) A (compareOp .In key (.ref x)) Q E s := by
  obtain ⟨ox, od, I, _, hid, _⟩ := S.inst mi md
  have X := (S.stat T).X
  unfold specFn at hs
  simp only [Bool.and_eq_true, beq_iff_eq] at hs
  refine wpAny_bind ?_
  unfold contains
  refine wpAny_holding (wpAny_bind (wpAny_bind (I.type.here ((looks_findIn X hs.1).here ?_))))
  rw [if_neg (by simp)]
  exact wpAny_bind (unlessNone_K X I hs.1 hs.2 (wpAny_mono h (fun _ _ z => wpAny_mono z (fun _ _ z => wpAny_pure z) fun _ _ z => z) fun _ _ z => z))
end

end
-- M12
section
set_option maxRecDepth 100000
theorem entry_iter : entryFor table "iter" = some Builtin.«iter» := entryFor_of_fast (by kernel_rfl)
theorem entry_next : entryFor table "next" = some Builtin.«next» := entryFor_of_fast (by kernel_rfl)
theorem args_iter (a : Value) : argsOk "iter" ⟨[a], []⟩ := by unfold argsOk; kernel_rfl
theorem args_next (a : Value) : argsOk "next" ⟨[a], []⟩ := by unfold argsOk; kernel_rfl
/-- an iterator over a dict's keys -/
def itC (d : Addr) (i n ep : Nat) : Cell := fun o => o.cls = .type "dict_keyiterator" ∧ o.data = .fields #[.ref d, .int i 0, .int n 0, .int ep 0]
section
variable {prog : Program} {w : World} {A : Around} {E : Value → Shared → Prop} {B : Shared} {fs : List Env} {l l' : Cells} {s : Shared} {K : Type} [DecidableEq K] {knd : AnyKind prog w K}
  {d it : Addr} {xs : List (K × Value × Value)} {key v : Value} {k : K} {i ep : Nat} {p : Value × Value}
def EpochIs (h : Heap) (d : Addr) (ep : Nat) : Prop := ∃ o es, h.get? d = some o ∧ o.data = .dict es ep
theorem iterS {Q : Value → Shared → Prop} (S : St B fs l s) (m : (d, dictC knd B xs) ∈ l)
    (h : ∀ I s' ep, St B fs ((I, itC d 0 xs.length ep) :: l) s' → EpochIs s'.heap d ep → Q (.ref I) s') : wpAny (model prog w) A (call (.builtin "iter") [.ref d]) Q E s := by
  obtain ⟨o, es, ep, ho, hc, hdat, he, his, hn⟩ := S.dict m
  have hT : s.TypeIs (.ref d) "dict" := ⟨o, ho, hc.1⟩
  refine call_function_entry (by decide +kernel) (by decide +kernel) entry_iter (args_iter _) ?_
  unfold Builtin.«iter»
  refine wpAny_bind (m := someArgs "iter" 1 2 _) (wpAny_of_eq (a := [Value.ref d]) (by first | rfl | kernel_rfl!) ?_)
  show wpAny _ _ (pyIter (.ref d) >>= _) _ _ _
  refine wpAny_bind (wpAny_pyIter_slot hT PySem.F.slot_dict_iter (wpAny_call_entry PySem.F.slot_dict_iter hT PySem.F.entry_dict_iter ?_ (PySem.F.args_dict_iter_1 _)))
  unfold Builtin.«dict.__iter__»
  refine wpAny_bind ?_
  unfold Builtin.Dict.dictSlotNone
  refine wpAny_bind (wpAny_notOrdered_dict hT ?_)
  show wpAny _ _ (pure (Value.ref d)) _ _ s
  refine wpAny_pure ?_
  show wpAny _ _ (Builtin.Dict.showsAll d >>= _) _ _ s
  unfold Builtin.Dict.showsAll
  rw [if_neg (by rw [S.notMods m]; exact Bool.false_ne_true)]
  refine wpAny_bind (wpAny_pure ?_)
  refine wpAny_bind (wpAny_dictEntries ho hdat ?_)
  refine wpAny_bind (wpAny_dictEpoch ho hdat ?_)
  refine wpAny_bind (wpAny_newObj_type (wpAny_pure ⟨_, rfl, "dict_keyiterator", _, ⟨_, Heap.get?_push_size _ rfl, rfl⟩, PySem.F.slot_dict_keyiterator_next.lookup, ?_⟩))
  refine wpAny_pure ⟨_, rfl, h s.heap.objs.size _ ep (S.push (c := itC d 0 xs.length ep) ⟨rfl, by simp [rawInt, entK_size he]⟩ s.toks) ⟨o, es, Heap.get?_push_of_some _ ho, hdat⟩⟩

theorem nextS {Q : Value → Shared → Prop} (S : St B fs l s) (m : (d, dictC knd B xs) ∈ l) (u : Upd l (it, itC d i xs.length ep) (it, itC d (i + 1) xs.length ep) l') (he : EpochIs s.heap d ep) (hx : xs[i]? = some (k, p))
    (h : ∀ s', St B fs l' s' → EpochIs s'.heap d ep → Q p.1 s') : wpAny (model prog w) A (call (.builtin "next") [.ref it]) Q E s := by
  obtain ⟨io, hio, hcl, hdt⟩ := S.has _ u.mem
  have hitT : s.TypeIs (.ref it) "dict_keyiterator" := ⟨io, hio, hcl⟩
  obtain ⟨o, es, ep', hod, hc, hdd, hes, his, hn⟩ := S.dict m
  obtain ⟨o2, es2, ho2, hd2⟩ := he
  obtain rfl : o = o2 := by rw [hod] at ho2; exact Option.some.inj ho2
  obtain ⟨rfl, rfl⟩ : es2 = es ∧ ep' = ep := by rw [hdd] at hd2; cases hd2; exact ⟨rfl, rfl⟩
  refine call_function_entry (by decide +kernel) (by decide +kernel) entry_next (args_next _) ?_
  unfold Builtin.«next»
  refine wpAny_bind (m := someArgs "next" 1 2 _) (wpAny_of_eq (a := [Value.ref it]) (by first | rfl | kernel_rfl!) ?_)
  dsimp only
  refine wpAny_bind (wpAny_specialOf (name := Str.ofString "__next__") hitT PySem.F.slot_dict_keyiterator_next.lookup ?_)
  rw [if_neg (by decide)]
  refine wpAny_bind (wpAny_callSpecial?_slot (name := Str.ofString "__next__") hitT PySem.F.slot_dict_keyiterator_next
    (wpAny_call_entry PySem.F.slot_dict_keyiterator_next hitT PySem.F.entry_dict_keyiterator_next ?_ (PySem.F.args_dict_keyiterator_next_1 _)))
  refine wpAny_bind (wpAny_pure ?_)
  refine wpAny_bind ?_
  refine wpAny_bind ?_
  first | refine wpAny_bind (wpAny_typeNameOfWhole_keyiter hitT (wpAny_pure ?_)) | refine wpAny_bind (wpAny_typeNameOf_keyiter hitT (wpAny_pure ?_))
  refine wpAny_bind (wpAny_fieldsOf hio hdt ?_)
  have hown : Builtin.Dict_items.ownsTuple "dict_keyiterator" = false := by decide
  simp only [hown, Bool.false_eq_true, if_false]
  show wpAny _ _ (if (Value.ref d == Value.none) = true then _ else _) _ _ s
  rw [if_neg (show ¬ ((Value.ref d == Value.none) = true) from Bool.false_ne_true)]
  refine wpAny_bind (wpAny_pure ?_)
  refine wpAny_bind (wpAny_dictEntries hod hdd ?_)
  have hsz : es2.size = xs.length := entK_size hes
  rw [if_neg (by rw [hsz]; simp)]
  refine wpAny_bind (wpAny_pure ?_)
  refine wpAny_bind (wpAny_dictEpoch hod hdd ?_)
  rw [if_neg (by simp)]
  refine wpAny_pure ?_
  have hlt : i < xs.length := (List.getElem?_eq_some_iff.mp hx).1
  have hlt' : i < es2.size := by rw [hsz]; exact hlt
  have hkey : es2[i].key = p.1 := by
    have := entK_at hes i
    rw [hx, Array.getElem?_eq_getElem hlt'] at this
    have := Option.some.inj this
    rw [this]; rfl
  simp only [show ¬ ((i : Int) < 0) from by omega, if_false, Int.toNat_natCast, Array.getElem?_eq_getElem hlt']
  refine wpAny_bind ?_
  first | refine wpAny_bind (wpAny_typeNameOfWhole_keyiter hitT (wpAny_pure ?_)) | refine wpAny_bind (wpAny_typeNameOf_keyiter hitT (wpAny_pure ?_))
  refine wpAny_bind (wpAny_isOneOf_keyiter hitT ?_)
  show wpAny _ _ (setField (.ref it) 1 (rawInt ((i : Int) + 1)) >>= _) _ _ s
  refine wpAny_bind (wpAny_setField hio hdt (by simp) ?_)
  have hg := Heap.get?_update_self (Obj.mapFields (·.setIfInBounds 1 (rawInt ((i : Int) + 1)))) hio (Obj.isFreed_of_fields (Obj.data_mapFields hdt _))
  have S' := S.set u (h' := s.heap.update it (Obj.mapFields (·.setIfInBounds 1 (rawInt ((i : Int) + 1))))) s.toks (Heap.SameBut.update ..) hg ⟨(Obj.cls_mapFields ..).trans hcl, by rw [Obj.data_mapFields hdt]; simp [rawInt]⟩ (.inr ⟨io, _, hio, hdt⟩) fun _ _ _ h => h
  have hne : d ≠ it := fun e => by subst e; rw [hod] at hio; cases hio; rw [hdd] at hdt; cases hdt
  refine wpAny_bind (wpAny_holding ?_)
  refine wpAny_bind (wpAny_isOneOf_keyiter (s := { s with heap := s.heap.update it (Obj.mapFields (·.setIfInBounds 1 (rawInt ((i : Int) + 1)))) }) ⟨_, hg, (Obj.cls_mapFields ..).trans hcl⟩ ?_)
  show wpAny _ _ (pure es2[i].key) _ _ _
  refine wpAny_pure (wpAny_pure ⟨_, rfl, ?_⟩)
  rw [hkey]
  exact wpAny_pure ⟨_, rfl, h _ S' ⟨o, es2, (Heap.SameBut.update s.heap it _).2 d hne |>.trans hod, hdd⟩⟩
end

end
-- M13
section
set_option maxRecDepth 100000
section
variable {prog : Program} {w : World} {A : Around} {E : Value → Shared → Prop} {B : Shared} {fs : List Env} {l l' : Cells} {s : Shared} {K : Type} [DecidableEq K] {knd : AnyKind prog w K}
  {d : Addr} {xs : List (K × Value × Value)} {key v : Value} {k : K} {p : Value × Value} {pl : Sem Bool}
theorem dictPopM {Q : Value × List Value → Shared → Prop} (S : St B fs l s) (m : (d, dictC knd B xs) ∈ l) (h : Q (.builtin "dict.pop", [.ref d]) s) : wpAny (model prog w) A (getMethod (.ref d) (Str.ofString "pop") pl) Q E s := by
  obtain ⟨o, es, ep, ho, hc, _⟩ := S.dict m
  exact getMethod_builtin ⟨o, ho, hc.1⟩ PySem.F.plainAttrs_dict PySem.F.slot_dict_pop PySem.F.type_dict_pop (fun a e => by cases e; exact ⟨o, ho, hc.2.1⟩) h
theorem popS {Q : Value → Shared → Prop} (S : St B fs l s) (u : Upd l (d, dictC knd B xs) (d, dictC knd B (delK xs k)) l') (hu : A.units + 1 < cLine) (hk : knd.is B.heap k key) (hp : atK xs k = some p) (h : ∀ s', St B fs l' s' → Q p.2 s') (hsz : xs.length ≤ sizeLine) :
    wpAny (model prog w) A (call (.builtin "dict.pop") [.ref d, key]) Q E s :=
  popK hu (S.keyed hk) (S.dict u.mem) hp (fun h' hm hs => h _ (S.setDict u _ hm hs (fun x hx => S.keys u.mem x (List.mem_filter.mp hx).1))) hsz
/-- a builtin's method called with arguments -/
theorem callB {M : Model} {env : Env} {pos : Pos} {id : String} {first : List Value} {e : Expr} {rest : List Expr} {Q : Value → Shared → Prop}
    (h : wpAny M A (spliced (backTo pos (starEach (e :: rest) env))) (fun vs s₁ => wpAny M A (call (.builtin id) (first ++ vs)) Q E s₁) E s)
    (he : starEach (e :: rest) env = (false, eval e env) :: starEach rest env := by rfl) (hplain : (backTo pos (starEach rest env)).any (·.1) = false := by rfl) :
    wpAny M A (callWith pos (.builtin id) first (backTo pos (starEach (e :: rest) env)) []) Q E s := by
  rw [he] at h ⊢
  exact callWith_builtin (by show (false || (backTo pos (starEach rest env)).any (·.1)) = false; rw [hplain]; rfl) (evalArgs_plain h)
end

end
-- M14
section
set_option maxRecDepth 100000
/-- a staticmethod of the class, met through an instance -/
def statName (K : Frag) (C : Addr) (name : Str) (f : Addr) : Bool :=
  findIn K (.ref C) "__getattribute__" == some (some (.builtin "object.__getattribute__")) && findIn K (.ref C) "__getattr__" == some none && hasDictIn K C && !copiedNames.contains name &&
  (findIn K (.ref C) name).any fun a => match a with
    | some (.ref p) => specialIn K (.ref p) "__get__" == some (some (.builtin "staticmethod.__get__")) && takesIn K (.ref p) == some false && (recIn K p "staticmethod").any fun vs => vs.head? == some (.ref f)
    | _ => false
section
variable {prog : Program} {w : World} {A : Around} {E : Value → Shared → Prop} {B : Shared} {fs : List Env} {l l' : Cells} {s : Shared} {K : Frag} {x C d f : Addr} {xs xs' : Names} {name : Str} {expr : Bool}
theorem getStat {Q : Value → Shared → Prop} (T : Stat K B.heap) (S : St B fs l s) (mi : (x, instC C d) ∈ l) (md : (d, idC xs) ∈ l) (hn : statName K C name f = true) (h : ∀ s', St B fs l s' → Q (.ref f) s') (mv : name ∉ xs.map (·.1) := by simp only [List.map_cons, List.map_nil]; decide +kernel) :
    wpAny (model prog w) A (getAttr (.ref x) name expr) Q E s := by
  obtain ⟨ox, od, I, _, hid, _⟩ := S.inst mi md
  have X := (S.stat T).X
  unfold statName at hn
  simp only [Bool.and_eq_true, beq_iff_eq, Bool.not_eq_true'] at hn
  obtain ⟨⟨⟨⟨h1, h2⟩, h3⟩, h4⟩, h5⟩ := hn
  obtain ⟨a, h6, h7⟩ := any_some h5
  split at h7
  · rename_i p
    simp only [Bool.and_eq_true, beq_iff_eq] at h7
    obtain ⟨⟨h8, h9⟩, h10⟩ := h7
    obtain ⟨vs, h11, h12⟩ := any_some h10
    cases vs with
    | nil => cases h12
    | cons y r =>
      obtain rfl : y = .ref f := by simpa using h12
      obtain ⟨cd, hc, hd⟩ := any_some h3
      have ho : PySem.W.ownOf cd (some od) name = some none := by unfold PySem.W.ownOf; rw [if_pos hd]; show lookIn name od = _; rw [lookIn_id hid, lookup_none mv]
      have hf : findObj K C (some od) name = some (.bind (.builtin "staticmethod.__get__") (.ref p)) := by
        unfold findObj
        rw [hc, Option.bind_some, h6, Option.bind_some]
        simp only [h8, h9, ho, h4, Option.bind_some, Bool.false_and, Bool.false_eq_true, if_false]
      refine get_bind X I h1 hf h2 (wpAny_call (sm_get (s := { s with toks := s.toks + 1 }) X h11 ?_))
      exact handed_on rfl (h _ (S.toks _))
  · cases h7
end

end
-- M15
section
set_option maxRecDepth 100000

theorem frames_of {h base : Heap} : ∀ {l : List Env}, h.FunFrames base l → ∀ env ∈ l, ∃ L, env.frame = some L ∧ L ∈ l.filterMap (·.frame)
  | [], _, _, hm => nomatch hm
  | e :: r, ⟨_, ⟨L, o, hf, _⟩, hr⟩, env, hm => by
    rw [List.filterMap_cons, hf]
    rcases List.mem_cons.mp hm with rfl | hm
    · exact ⟨L, hf, List.mem_cons_self⟩
    · obtain ⟨L', h1, h2⟩ := frames_of hr env hm
      exact ⟨L', h1, List.mem_cons_of_mem _ h2⟩
theorem funFrames_other {h base base' : Heap} : ∀ {l : List Env}, h.FunFrames base l → (∀ a ∈ l.filterMap (·.frame), base'.get? a = none) → h.FunFrames base' l
  | [], _, _ => trivial
  | _ :: _, ⟨hk, ⟨L, o, hf, hn, ho, hd⟩, hr⟩, hb => by
    rw [List.filterMap_cons, hf] at hb
    exact ⟨hk, ⟨L, o, hf, hb L List.mem_cons_self, ho, hd⟩, funFrames_other hr fun a ha => hb a (List.mem_cons_of_mem _ ha)⟩

section
variable {prog : Program} {w : World} {A : Around} {B : Shared} {fs : List Env} {l : Cells} {s : Shared} {env : Env} {e : Addr} {h' : Heap} {t' : Nat} {X : String} {t : Expr} {b₀ : Stmt} {suite : List Stmt} {pos : Pos} {rest : List ExceptHandler} {Q : Flow → Shared → Prop}
/-- a built-in exception that came up in this very frame is caught by its first clause -/
theorem caughtS (S : St B (env :: fs) l s) (hfr : A.frames = some (env :: fs)) (hne : Heap.NewExc s.heap h' e X)
    (hexc : isSubtype (.type X) (.type "BaseException") = pure true) (hnt : isSubtype (.type ((Manifest.find? X).elim "type" fun y => y.metatype)) (.type "tuple") = pure false) (hsub : isSubtype (.type X) (.type X) = pure true)
    (hname : ∀ s' (Q' : Value → Shared → Prop), St B (env :: fs) l s' → Q' (.type X) s' → wpAny (model prog w) (A.mark (some (.ref e))) (eval t env) Q' (fun _ _ => False) s')
    (k : ∀ s', St B (env :: fs) l s' → wpAny (model prog w) (A.mark (some (.ref e))) (execs (b₀ :: suite) env) Q (fun _ _ => False) s') {E : Value → Shared → Prop} :
    wpAny (model prog w) A (noteFrame (.ref e) env) (fun _ s₂ => wpAny (model prog w) A (setFlight (.ref e) none) (fun _ s₃ =>
        wpAny (model prog w) A (handleBy (.ref e) env (.ExceptHandler (some t) none (b₀ :: suite) pos :: rest)) Q E s₃) E s₂) E { s with heap := h', toks := t' } := by
  obtain ⟨hkeep, hnew, ob, tt, he, hcls, hd⟩ := hne
  let F := (env :: fs).filterMap (·.frame)
  have nF : e ∉ F := fun hm => by
    obtain ⟨_, o, ho, _⟩ := S.frames.mem hm
    rw [hnew] at ho; cases ho
  let base := hideAll s.heap F
  have hb0 : ∀ a ∈ F, base.get? a = none := fun a ha => hideAll_none F ha
  have hbs : base.StaysIn h' := fun b o ho => hkeep b o (of_hideAll F ho)
  have hbe : base.get? e = none := by
    cases q : base.get? e with
    | none => rfl
    | some o => have := of_hideAll F q; rw [hnew] at this; cases this
  have S' := S.keeps t' hkeep
  have hfl : h'.FunFrames base (env :: fs) := funFrames_other S'.frames hb0
  -- what the later heaps keep
  have fin : ∀ h'', base.StaysIn h'' → h''.FunFrames base (env :: fs) → (∀ b o, h'.get? b = some o → (∀ vs, o.data ≠ .fields vs) → ∃ sl, h''.get? b = some { o with slots := sl }) → ∀ t, St B (env :: fs) l { s with heap := h'', toks := t } := by
    intro h'' k1 k2 k3 t
    refine ⟨fun b o hb => k1 b o (hideAll_get F (S.base b o hb) fun hm => ?_), fun x hx => ?_, S.nd, S.fresh, ?_, S.gens, S.drawn, S.os, S.low, S.big, S.soft⟩
    · have := (S.frames.mem hm).1
      rw [hb] at this; cases this
    · obtain ⟨o, h1, h2⟩ := S.has x hx
      by_cases hm : x.1 ∈ F
      · obtain ⟨_, o', ho', hdat⟩ := S.frames.mem hm
        rw [h1] at ho'; cases ho'
        obtain ⟨sl, hsl⟩ := k3 _ _ (hkeep _ _ h1) hdat
        exact ⟨_, hsl, S.soft x hx hm o sl h2⟩
      · exact ⟨o, k1 _ _ (hideAll_get F h1 hm), h2⟩
    · exact funFrames_other k2 fun a ha => (S.frames.mem ha).1
  obtain ⟨hkd, ⟨L, oL, hL, _⟩, _⟩ := S.frames
  unfold noteFrame
  simp only [hL]
  refine wpAny_bind (wpAny_field he hd (show (#[tt, Value.none, Value.none, Value.none, Value.bool false, Value.none] : Array Value)[1]? = some Value.none from rfl) ?_)
  rw [if_neg (show ¬ ((Value.none != Value.none) = true) from by decide)]
  refine wpAny_mono (wpAny_entryW (s := { s with heap := h', toks := t' }) (e := e) (a0 := tt) hfr hfl hL he hbs hbe hd (by simp) rfl (Q := fun _ s₂ => ∃ h2, s₂ = { s with heap := h2, toks := t' } ∧ Heap.NotedW base (env :: fs) e ob.cls tt (rawInt L) h' h2) fun h2 hN => ⟨h2, rfl, hN⟩) ?_ fun _ _ z => z
  rintro _ s₂ ⟨h2, rfl, k1, k2, k3, k4⟩
  refine wpAny_setFlight_noneW (s := { s with heap := h2, toks := t' }) k1 k2 k3 fun h3 j1 j2 j3 j4 => ?_
  have up3 : ∀ b o, h'.get? b = some o → (∀ vs, o.data ≠ .fields vs) → ∃ sl, h3.get? b = some { o with slots := sl } := fun b o ho hn => by
    obtain ⟨sl, hs⟩ := k4 b o ho hn
    exact ⟨sl, j4 _ _ hs hn⟩
  refine wpAny_handleBy_builtin (X := X) (T := X) (b := true) hexc hnt hsub (wpAny_mono (hname _ _ (fin h3 j1 j2 up3 t') ?_) (fun _ _ z => z) fun _ _ z => z.elim)
  obtain ⟨oe, ho, hc⟩ := j3.at.there
  refine ⟨rfl, ⟨oe, ho, hc.trans hcls⟩, ?_⟩
  rw [if_pos rfl]
  refine wpAny_setFlight_noneW (s := { s with heap := h3, toks := t' }) j1 j2 j3.at fun h4 i1 i2 i3 i4 => ?_
  refine wpAny_mono (k _ (fin h4 i1 i2 (fun b o ho hn => ?_) t')) (fun _ _ z => z) fun _ _ z => z.elim
  obtain ⟨sl, hs⟩ := up3 b o ho hn
  exact ⟨sl, i4 _ _ hs hn⟩
end

end
-- M16
section
set_option maxRecDepth 100000
open Builtin.ObjectAttr Builtin.Getset_descriptor
/-- an instance of a class with slots -/
def slotC (C d : Addr) (sl : Array (Option Value)) : Cell := fun o => o.cls = .ref C ∧ o.data = .plain ∧ o.dict = some d ∧ o.slots = sl
theorem notSoft_slotC {C d : Addr} {sl : Array (Option Value)} : ∀ o, slotC C d sl o → ¬ Soft (slotC C d sl) := fun o h q => by
  have h1 := (q o (sl.push none) h).2.2.2
  have : (sl.push none).size = sl.size := congrArg Array.size h1
  rw [Array.size_push] at this; omega
def slotName (K : Frag) (C : Addr) (name : Str) (i : Nat) : Bool :=
  plainGet K C name && (clsIn K C).isSome && (findIn K (.ref C) name).any fun a => match a with
    | some (.ref p) => specialIn K (.ref p) "__get__" == some (some (.builtin "member_descriptor.__get__")) && takesIn K (.ref p) == some true && slotIn K p C == some i
    | _ => false
def slotSet (K : Frag) (C : Addr) (name : Str) (i : Nat) : Bool :=
  findIn K (.ref C) "__setattr__" == some (some (.builtin "object.__setattr__")) && plainOver K C && (takerIn K C name).any fun a => match a with
    | some (.ref p) => typeIn K (.ref p) == some (.type "member_descriptor") && slotIn K p C == some i
    | _ => false
def propName (K : Frag) (C : Addr) (name : Str) (f : Addr) : Bool :=
  plainGet K C name && (clsIn K C).isSome && (findIn K (.ref C) name).any fun a => match a with
    | some (.ref p) => specialIn K (.ref p) "__get__" == some (some (.builtin "property.__get__")) && takesIn K (.ref p) == some true && (recIn K p "property").any (fun vs => vs.head? == some (.ref f))
    | _ => false

section
variable {prog : Program} {w : World} {A : Around} {E : Value → Shared → Prop} {B : Shared} {fs : List Env} {cD : Cell} {l l' : Cells} {s : Shared} {K : Frag} {x C d f : Addr} {xs xs' : Names} {name : Str} {v : Value} {sl : Array (Option Value)} {expr : Bool} {i : Nat}
theorem St.slot (S : St B fs l s) (mi : (x, slotC C d sl) ∈ l) (md : (d, cD) ∈ l) : ∃ ox od, InstAt s.heap x ox C (some od) ∧ ox.dict = some d ∧ ox.slots = sl ∧ ox.data = .plain := by
  obtain ⟨ox, hx, h1, h2, h3, h4⟩ := S.has _ mi
  obtain ⟨od, hd, h5⟩ := S.has _ md
  exact ⟨ox, od, ⟨hx, h1, by unfold notCls; rw [h2], by rw [h3]; exact hd⟩, h3, h4, h2⟩
theorem St.instP (S : St B fs l s) (mi : (x, instC C d) ∈ l) (md : (d, cD) ∈ l) : ∃ ox od, InstAt s.heap x ox C (some od) ∧ ox.data = .plain := by
  obtain ⟨ox, hx, h1, h2, h3⟩ := S.has _ mi
  obtain ⟨od, hd, h5⟩ := S.has _ md
  exact ⟨ox, od, ⟨hx, h1, by unfold notCls; rw [h2], by rw [h3]; exact hd⟩, h2⟩

theorem getSlot {Q : Value → Shared → Prop} (T : Stat K B.heap) (S : St B fs l s) (mi : (x, slotC C d sl) ∈ l) (md : (d, cD) ∈ l) (hn : slotName K C name i = true) (hv : (sl[i]?).join = some v) (hh : handedIn v = true)
    (h : ∀ s', St B fs l s' → Q v s') : wpAny (model prog w) A (getAttr (.ref x) name expr) Q E s := by
  obtain ⟨ox, od, I, _, hsl, _⟩ := S.slot mi md
  have X := (S.stat T).X
  unfold slotName at hn
  simp only [Bool.and_eq_true, beq_iff_eq] at hn
  obtain ⟨⟨h1, h2⟩, h3⟩ := hn
  obtain ⟨a, h4, h5⟩ := any_some h3
  split at h5
  · rename_i p
    simp only [Bool.and_eq_true, beq_iff_eq] at h5
    obtain ⟨⟨h6, h7⟩, h8⟩ := h5
    exact get_bind X I (plainGet_of h1).1 (findObj_data h2 h4 h6 h7) (plainGet_of h1).2 (wpAny_call (slot_get (s := { s with toks := s.toks + 1 }) X I h8 (by rw [hsl]; exact hv) (handed_on hh (h _ (S.toks _)))))
  · cases h5

theorem getProp {Q : Value → Shared → Prop} (T : Stat K B.heap) (S : St B fs l s) (mi : (x, instC C d) ∈ l) (md : (d, cD) ∈ l) (hn : propName K C name f = true)
    (h : ∀ s', St B fs l s' → codeAny (model prog w) A.in1 (.call (.ref f) ⟨[.ref x], []⟩) (fun r s' => ∃ v, r = .ok (.ret v) ∧ handedIn v = true ∧ Q v s') s') : wpAny (model prog w) A (getAttr (.ref x) name expr) Q E s := by
  obtain ⟨ox, od, I, _⟩ := S.instP mi md
  have X := (S.stat T).X
  unfold propName at hn
  simp only [Bool.and_eq_true, beq_iff_eq] at hn
  obtain ⟨⟨h1, h2⟩, h3⟩ := hn
  obtain ⟨a, h4, h5⟩ := any_some h3
  split at h5
  · rename_i p
    simp only [Bool.and_eq_true, beq_iff_eq] at h5
    obtain ⟨⟨h6, h7⟩, h8⟩ := h5
    obtain ⟨vs, h9, h10⟩ := any_some h8
    cases vs with
    | nil => cases h10
    | cons y r =>
      obtain rfl : y = .ref f := by simpa using h10
      refine get_bind X I (plainGet_of h1).1 (findObj_data h2 h4 h6 h7) (plainGet_of h1).2 (wpAny_call (prop_get (s := { s with toks := s.toks + 1 }) X h9 (codeAny_mono (h _ (S.toks _)) fun r s' z => ?_)))
      obtain ⟨v, rfl, hh, q⟩ := z
      exact handed_on hh q
  · cases h5

theorem slot_set' {ox : Obj} {od : Option Obj} {p : Addr} {R : Result → Shared → Prop} (X : K.In s.heap) (I : InstAt s.heap x ox C od) (hp : slotIn K p C = some i) (hi : i < 1000)
    (h : R (.ok (.ret .none)) { s with heap := s.heap.update x (fun o => { o with slots := (o.slots ++ Array.replicate (i + 1 - o.slots.size) none).setIfInBounds i (some v) }) }) :
    codeAny (model prog w) A (.call (.builtin "member_descriptor.__set__") ⟨[.ref p, .ref x, v], []⟩) R s := by
  obtain ⟨n, tn, owner, behind, tb, d, sl, cd, ho, hc, hm, hb, rfl⟩ := slot_of X hp
  obtain ⟨hh, g, dr, t, os⟩ := s
  have L0 := I.type (M := model prog w)
  have L1 := looks_mroIn (M := model prog w) X hm
  have L2 : Looks (model prog w) hh (Slots.slotNamesOf (.ref C)) cd.slotNames := (looks_clsIn X hc).andThen .now
  have hx := I.at_
  dsimp only at ho hx L0 L1
  have f0 := looks_field (M := model prog w) ho 0 (v := .str n tn) rfl
  have f1 := looks_field (M := model prog w) ho 1 (v := owner) rfl
  have f3 := looks_field (M := model prog w) ho 3 (v := .builtin "proto.slot#set") rfl
  have f4 := looks_field (M := model prog w) ho 4 (v := .int behind tb) rfl
  refine codeAny_call_builtin KF.slot_mset.plain KF.entry_mset (KF.slot_mset.check _ _ _ _ _ _ _ _ ⟨_, ho, rfl⟩ (KF.args_mset _ _ _) ?_)
  unfold Builtin.«member_descriptor.__set__» descrSet descrStoreThrough descrCheckInstance descrNameAndClass isInstance
  have f5 : Looks (model prog w) hh (descrItself (.ref p)) [.ref p] := ((Looks.ld (part := none) ho).andThen .now).andThen (Looks.of_pure (by kernel_rfl))
  repeat lk
  refine ⟨Code.quiet_builtin _ (by decide +kernel), codeAny_builtin KF.entry_slotset ?_⟩
  unfold Builtin.«proto.slot#set» Slots.target
  repeat lk
  rw [if_neg hb]
  refine wpAny_pure (wpAny_bind ?_)
  unfold setSlotAt
  dsimp only
  rw [if_neg (by rw [sizeLine_eq]; omega)]
  exact wpAny_updatePart hx (wpAny_pure h)

theorem setSlot {Q : Unit → Shared → Prop} {sl' : Array (Option Value)} (T : Stat K B.heap) (S : St B fs l s) (u : Upd l (x, slotC C d sl) (x, slotC C d sl') l') (md : (d, cD) ∈ l) (hn : slotSet K C name i = true)
    (he : (sl ++ Array.replicate (i + 1 - sl.size) none).setIfInBounds i (some v) = sl') (h : ∀ s', St B fs l' s' → Q () s') (hi : i < 1000 := by decide) : wpAny (model prog w) A (setAttr (.ref x) name v) Q E s := by
  obtain ⟨ox, od, I, hdi, hsl, hpl⟩ := S.slot u.mem md
  have X := (S.stat T).X
  unfold slotSet at hn
  simp only [Bool.and_eq_true, beq_iff_eq] at hn
  obtain ⟨⟨h1, h2⟩, h3⟩ := hn
  obtain ⟨a, h4, h5⟩ := any_some h3
  split at h5
  · rename_i p
    simp only [Bool.and_eq_true, beq_iff_eq] at h5
    obtain ⟨h6, h7⟩ := h5
    have hx := I.at_
    refine set_plain X I h1 (osa_descr (s := { s with toks := s.toks + 1 }) KF.slot_mset X I h2 h4 h6 (slot_set' (s := { s with toks := s.toks + 1 }) X I h7 hi (h _ ?_)))
    have hnf : ({ ox with slots := sl' } : Obj).isFreed = false := by
      obtain ⟨c, dd, da, s0⟩ := ox
      dsimp only at hpl
      subst hpl; rfl
    have hup : (s.heap.update x (fun o => { o with slots := (o.slots ++ Array.replicate (i + 1 - o.slots.size) none).setIfInBounds i (some v) })).get? x = some { ox with slots := sl' } := by
      have e : ({ ox with slots := sl' } : Obj) = (fun o : Obj => { o with slots := (o.slots ++ Array.replicate (i + 1 - o.slots.size) none).setIfInBounds i (some v) }) ox := by
        show _ = ({ ox with slots := (ox.slots ++ Array.replicate (i + 1 - ox.slots.size) none).setIfInBounds i (some v) } : Obj)
        rw [hsl, he]
      rw [e] at hnf ⊢
      exact Heap.get?_update_self _ hx hnf
    exact S.set u _ (Heap.SameBut.update ..) hup ⟨I.cls, hpl, hdi, rfl⟩ (.inl fun vs e => by have e : ox.data = .fields vs := e; rw [hpl] at e; cases e)
      fun hm => (notSoft_slotC _ (S.has _ u.mem).choose_spec.2 (S.soft _ u.mem hm)).elim
  · cases h5

/-- a new instance -/
theorem makeS {rest : List Value} {kw : List (Str × Value)} {fI : Addr} {R : Result → Shared → Prop} (c : Addr → Cell) (T : Stat K B.heap) (S : St B fs l s) (hm : makesIn K C = true)
    (hi : findIn K (.ref C) "__init__" = some (some (.ref fI))) (hf : typeIn K (.ref fI) = some (.type "function")) (hc : ∀ dx, c dx (instObj C dx))
    (h : ∀ x dx s', St B fs ((x, c dx) :: (dx, idC []) :: l) s' →
      codeAny (model prog w) (A.under (.builtin "type.__call__" ⟨.ref C :: rest, kw⟩)) (.call (.ref fI) ⟨.ref x :: rest, kw⟩) (InitBack x R) s') :
    codeAny (model prog w) A (.call (.ref C) ⟨rest, kw⟩) R s := by
  have X := (S.stat T).X
  have S1 := S.push (o := emptyDict) (c := idC []) ⟨#[], 0, rfl, fun e he => by simp at he, List.Pairwise.nil, fun y => rfl, List.nodup_nil⟩ s.toks
  have S2 := S1.push (o := instObj C s.heap.objs.size) (c := c s.heap.objs.size) (hc _) s.toks
  rw [Heap.size_push] at S2
  obtain ⟨hh, g, dd, t, os⟩ := s
  exact make_core (makes_of X hm) (looks_findIn X hi) (fun self => bind_fn X self hf) (.inl rfl) (h _ hh.objs.size _ S2)
end

end
-- M17
section
set_option maxRecDepth 100000
open Builtin.ObjectAttr
/-- a name met by the attribute's plain road, called -/
def usualName (K : Frag) (C : Addr) (name : Str) : Bool :=
  findIn K (.ref C) "__getattribute__" == some (some (.builtin "object.__getattribute__")) &&
  ((findIn K (.ref C) "__getattr__").any (·.isSome) || (findIn K (.ref C) "__getattr__" == some none && (findIn K (.ref C) name).any fun r => r.all fun a => (typeIn K a).any fun t => t != .type "function" && t != .type "method_descriptor" && t != .type "wrapper_descriptor"))
section
variable {prog : Program} {w : World} {A : Around} {E : Value → Shared → Prop} {B : Shared} {fs : List Env} {cD : Cell} {l l' : Cells} {s : Shared} {K : Frag} {x C d f : Addr} {xs xs' : Names} {name : Str} {v : Value} {pl : Sem Bool} {env : Env} {pos : Pos}
theorem methUsual {Q : Value × List Value → Shared → Prop} (T : Stat K B.heap) (S : St B fs l s) (mi : (x, instC C d) ∈ l) (md : (d, cD) ∈ l) (hm : usualName K C name = true)
    (h : wpAny (model prog w) A (getAttr (.ref x) name) (fun v => Q (v, [])) E s) : wpAny (model prog w) A (getMethod (.ref x) name pl) Q E s := by
  obtain ⟨ox, od, I, _⟩ := S.instP mi md
  have X := (S.stat T).X
  unfold usualName at hm
  rw [Bool.and_eq_true, Bool.or_eq_true, beq_iff_eq] at hm
  obtain ⟨h1, h2⟩ := hm
  rcases h2 with h2 | h2
  · have hcan := PySem.F.canon_object_ga
    obtain ⟨g, h3, h4⟩ := any_some h2
    unfold getMethod specialOf
    refine wpAny_bind (wpAny_bind (I.type.here ((looks_findIn X h1).here ?_)))
    dsimp only
    rw [hcan, if_neg (by decide)]
    refine wpAny_bind (wpAny_bind (I.type.here ((looks_findIn X h3).here ?_)))
    rw [if_pos h4]
    exact wpAny_bind (wpAny_mono h (fun _ _ z => wpAny_pure z) fun _ _ z => z)
  · rw [Bool.and_eq_true, beq_iff_eq] at h2
    obtain ⟨r, h4, h5⟩ := any_some h2.2
    exact method_usual X I h1 h2.1 h4 h5 h

/-- what a function's call leaves, as a value -/
def Back (Q : Value → Shared → Prop) (E : Value → Shared → Prop) : Result → Shared → Prop := fun r s' => match r with
  | .ok (.ret v) => Q v s'
  | .ok _ => False
  | .error e => E e s'

theorem callInst0 {Q : Value → Shared → Prop} (T : Stat K B.heap) (S : St B fs l s) (mi : (x, instC C d) ∈ l) (md : (d, cD) ∈ l) (hs : specFn K C (Str.ofString "__call__") f = true) (hfn : fnIn K f = true)
    (h : codeAny (model prog w) A (.call (.ref f) ⟨[.ref x], []⟩) (Back Q E) s) : wpAny (model prog w) A (callWith pos (.ref x) [] (backTo pos (starEach [] env)) []) Q E s := by
  obtain ⟨ox, od, I, hp⟩ := S.instP mi md
  have X := (S.stat T).X
  unfold specFn at hs
  simp only [Bool.and_eq_true, beq_iff_eq] at hs
  exact kco_callWith0 X I hp hs.1 (wpAny_call (kco_code X I hp hs.1 hs.2 hfn h))

theorem withIn {Q : Flow → Shared → Prop} {fe fx : Addr} {y : Str} {py : Pos} {body : List Stmt} (T : Stat K B.heap) (S : St B fs l s) (mi : (x, instC C d) ∈ l) (md : (d, cD) ∈ l) (he : specFn K C (Str.ofString "__enter__") fe = true) (hx : specFn K C (Str.ofString "__exit__") fx = true)
    (h : wpAny (model prog w) A (call (.ref fe) [.ref x]) (fun v s₂ => wpAny (model prog w) A (storeName env y v) (fun _ s₃ => wpAny (model prog w) A (execs body env) (fun f s₄ => wpAny (model prog w) A (call (.ref fx) [.ref x, .none, .none, .none]) (fun _ s₅ => Q f s₅) E s₄) (fun _ _ => False) s₃) (fun _ _ => False) s₂) E s) :
    KwIn prog w A E env pos (some y) py body Q (.ref x) s := by
  obtain ⟨ox, od, I, _⟩ := S.instP mi md
  unfold specFn at he hx
  simp only [Bool.and_eq_true, beq_iff_eq] at he hx
  exact kw_core (b := assign (.Name y py) env) (S.stat T).X I he.1 he.2 hx.1 hx.2 (wpAny_mono h (fun _ _ z => wpAny_assign_Name z) fun _ _ z => z)
theorem withIn0 {Q : Flow → Shared → Prop} {fe fx : Addr} {py : Pos} {body : List Stmt} (T : Stat K B.heap) (S : St B fs l s) (mi : (x, instC C d) ∈ l) (md : (d, cD) ∈ l) (he : specFn K C (Str.ofString "__enter__") fe = true) (hx : specFn K C (Str.ofString "__exit__") fx = true)
    (h : wpAny (model prog w) A (call (.ref fe) [.ref x]) (fun _ s₂ => wpAny (model prog w) A (execs body env) (fun f s₄ => wpAny (model prog w) A (call (.ref fx) [.ref x, .none, .none, .none]) (fun _ s₅ => Q f s₅) E s₄) (fun _ _ => False) s₂) E s) :
    KwIn prog w A E env pos none py body Q (.ref x) s := by
  obtain ⟨ox, od, I, _⟩ := S.instP mi md
  unfold specFn at he hx
  simp only [Bool.and_eq_true, beq_iff_eq] at he hx
  exact kw_core0 (S.stat T).X I he.1 he.2 hx.1 hx.2 h
end

/-! a def that takes what is left into a tuple -/
def BindsStar (s : Shared) (fd : FuncData) (args : Args) (binds : Addr → List (Str × Value)) (rest : List Value) : Prop :=
  ∀ (M : Model) (A : Around) (E : Value → Shared → Prop) (Q : List (Str × Value) → Shared → Prop), Q (binds s.heap.objs.size) { s with heap := s.heap.push { cls := .type "tuple", data := .seq rest.toArray } } → wpAny M A (bindArgs fd args) Q E s
section
variable {prog : Program} {w : World} {A : Around} {B : Shared} {fs : List Env} {cD : Cell} {l : Cells} {s : Shared} {K : Frag} {f : Addr} {fd : FuncData} {body : List Stmt} {args : Args} {R : Result → Shared → Prop} {n : Nat}
theorem callStar {binds : Addr → List (Str × Value)} {rest : List Value} {locs : Addr → Names} {names : List Str} (F : FnOk K f fd body) (T : Stat K B.heap) (S : St B fs l s) (r : Room (n + 1) fs A) (hb : BindsStar s fd args binds rest)
    (hnames : ∀ t, (binds t).map (·.1) = names) (hlocs : ∀ t, (binds t).reverse = locs t) (hloc : (names.all fun x => fd.scope.names.lookup x == some .local && !(x == ("__debug__" : Str))) = true) (hnd : names.Nodup) (hgen : fd.scope.isGenerator = false)
    (h : ∀ t L s', Room n (fnEnv fd L f :: fs) (A.deeper (fnEnv fd L f)) → St B (fnEnv fd L f :: fs) ((L, nsC fd.scope (locs t)) :: (t, objC { cls := .type "tuple", data := .seq rest.toArray }) :: l) s' →
      wpAny (model prog w) (A.deeper (fnEnv fd L f)) (execs body (fnEnv fd L f)) (fun fl s' => R (.ok (.ret (match fl with | .ret v => v | _ => .none))) s') (fun _ _ => False) s') :
    codeAny (model prog w) A (.call (.ref f) args) R s := by
  have S1 := S.push (o := { cls := .type "tuple", data := .seq rest.toArray }) (c := objC { cls := .type "tuple", data := .seq rest.toArray }) rfl s.toks
  have T' := S1.stat T
  obtain ⟨o, ho, hd⟩ := Option.map_eq_some_iff.mp F.at_
  have env : ∀ L, callEnv fd L f = fnEnv fd L f := fun L => by
    unfold callEnv fnEnv envOf newEnv
    rw [F.glob, F.clos, F.blt]
  have hl : ∀ p ∈ binds s.heap.objs.size, fd.scope.names.lookup p.1 = some .local ∧ (p.1 == ("__debug__" : Str)) = false := fun p hp => by
    have := List.all_eq_true.mp hloc p.1 (by rw [← hnames s.heap.objs.size]; exact List.mem_map.mpr ⟨p, hp, rfl⟩)
    simpa using this
  have nd : ((binds s.heap.objs.size).map (·.1)).Nodup := by rw [hnames]; exact hnd
  refine codeAny_call_function r.room ((S.stat T).X _ _ ho) hd F.co hgen F.body_ (codeRec_of (S.stat T).X F.code) (hb _ _ _ _ ?_)
  refine wpAny_newFunctionEnv F.cell (fun x hx => (hl x hx).1) (fun h₀ hns hsb => ⟨T'.lim.fresh _ hsb, codeAny_func ?_⟩) F.kind
  have hk : ∀ b o, (s.heap.push { cls := .type "tuple", data := .seq rest.toArray }).get? b = some o → h₀.get? b = some o := fun b o e => hsb.extBut b o (Nat.ne_of_lt (Heap.lt_size e)) (Heap.get?_push_of_some _ e)
  have := h s.heap.objs.size (s.heap.push { cls := .type "tuple", data := .seq rest.toArray }).objs.size { s with heap := h₀, toks := s.toks + (binds s.heap.objs.size).length } r.deeper ?_
  · rw [← env] at this
    exact wpAny_mono this (fun _ _ x => x) (fun _ _ x => x.elim)
  obtain ⟨oL, es, ep, hL, h1, h2, h3⟩ := hns
  have S2 := S1.grow (a := (s.heap.push { cls := .type "tuple", data := .seq rest.toArray }).objs.size) (o := oL) (c := nsC fd.scope (locs s.heap.objs.size)) (s.toks + (binds s.heap.objs.size).length) hk (Heap.get?_none_of_le (Nat.le_refl _)) S1.none_at S1.size hL
    ⟨⟨es, ep, h1, h2, by rw [← hlocs]; exact h3⟩, by rw [← hlocs, List.map_reverse]; exact (List.reverse_perm _).nodup_iff.mpr nd, F.kind, fun p hp => hl p (by rw [← hlocs] at hp; exact List.mem_reverse.mp hp)⟩
  refine ⟨S2.base, S2.has, S2.nd, S2.fresh, ?_, S2.gens, S2.drawn, S2.os, S2.low, S2.big, fun x hx hm => ?_⟩
  · exact ⟨by show fd.scope.kind ≠ _; rw [F.kind]; decide, ⟨_, oL, rfl, S1.none_at, hL, fun vs q => by rw [h1] at q; cases q⟩, S2.frames⟩
  · rcases List.mem_cons.mp hx with rfl | hx'
    · exact soft_nsC
    · rw [List.filterMap_cons] at hm
      rcases List.mem_cons.mp (show x.1 ∈ (s.heap.push { cls := .type "tuple", data := .seq rest.toArray }).objs.size :: _ from hm) with e | hm
      · have := S1.lt hx'
        rw [e] at this; exact absurd this (Nat.lt_irrefl _)
      · exact S1.soft x hx' hm
end

end
-- M18
section
set_option maxRecDepth 100000
/-- a list -/
def listC (vs : List Value) : Cell := fun o => o.cls = .type "list" ∧ o.dict = none ∧ (∃ n, o.data = .seq vs.toArray n) ∧ o.slots = #[]
theorem notSoft_listC {vs : List Value} : ∀ o, listC vs o → ¬ Soft (listC vs) := fun o h q => by
  have := (q o #[none] h).2.2.2
  cases this
theorem soft_objC_seq {c : Cell} : (∀ o, c o → c o) := fun _ h => h
theorem args_dict_get2 (a b : Value) : argsOk "dict.get" ⟨[a, b], []⟩ := by unfold argsOk; kernel_rfl
theorem args_dict_len1 (a : Value) : argsOk "dict.__len__" ⟨[a], []⟩ := by unfold argsOk; kernel_rfl
section
variable {prog : Program} {w : World} {A : Around} {E : Value → Shared → Prop} {B : Shared} {fs : List Env} {cD : Cell} {l l' : Cells} {s : Shared} {K : Type} [DecidableEq K] {knd : AnyKind prog w K}
  {d : Addr} {xs : List (K × Value × Value)} {key v : Value} {k : K} {p : Value × Value} {pl : Sem Bool}
theorem dictGetM {Q : Value × List Value → Shared → Prop} (S : St B fs l s) (m : (d, dictC knd B xs) ∈ l) (h : Q (.builtin "dict.get", [.ref d]) s) : wpAny (model prog w) A (getMethod (.ref d) (Str.ofString "get") pl) Q E s := by
  obtain ⟨o, es, ep, ho, hc, _⟩ := S.dict m
  exact getMethod_builtin ⟨o, ho, hc.1⟩ PySem.F.plainAttrs_dict PySem.F.slot_dict_get PySem.F.type_dict_get (fun a e => by cases e; exact ⟨o, ho, hc.2.1⟩) h
theorem dgetS {Q : Value → Shared → Prop} (S : St B fs l s) (m : (d, dictC knd B xs) ∈ l) (hu : A.units + 1 < cLine) (hk : knd.is B.heap k key) (h : ∀ s', St B fs l s' → Q (((atK xs k).map (·.2)).getD .none) s') :
    wpAny (model prog w) A (call (.builtin "dict.get") [.ref d, key]) Q E s := by
  have hm := S.dict m
  refine wpAny_call_entry PySem.F.slot_dict_get hm.typeIs PySem.F.entry_dict_get ?_ (args_dict_get2 _ _)
  show wpAny _ _ (dictGet d key >>= _) _ _ s
  refine wpAny_bind (dictGetK (by simpa using hu) (S.keyed hk) hm ?_)
  have h := h _ (S.toks (s.toks + knd.draws k))
  cases hf : (atK xs k).map (·.2) with
  | some v =>
    rw [hf] at h
    exact wpAny_pure ⟨v, rfl, h⟩
  | none =>
    rw [hf] at h
    show wpAny _ _ (Builtin.Dict.missed d key >>= _) _ _ _
    exact wpAny_bind (wpAny_missed_other (S.notMods m) (wpAny_pure ⟨.none, rfl, h⟩))
theorem dlenS {Q : Value → Shared → Prop} (S : St B fs l s) (m : (d, dictC knd B xs) ∈ l) (hfit : xs.length ≤ sizeLine) (h : ∀ s' t, St B fs l s' → Q (.int xs.length t) s') : wpAny (model prog w) A (call (.builtin "len") [.ref d]) Q E s := by
  have hm := S.dict m
  obtain ⟨o, es, ep, ho, hc, hdat, he, _⟩ := id hm
  have hsz := entK_size he
  rw [sizeLine_eq] at hfit
  refine call_function_entry kind_len plain_len entry_len (args_len1 _) ?_
  unfold Builtin.«len»
  refine wpAny_bind (m := oneArg "len" _) (wpAny_pure ?_)
  refine wpAny_bind (m := callSpecial? (.ref d) (Str.ofString "__len__")) (wpAny_callSpecial?_slot (name := Str.ofString "__len__") hm.typeIs PySem.F.slot_dict_len
    (wpAny_call_entry PySem.F.slot_dict_len hm.typeIs PySem.F.entry_dict_len ?_ (args_dict_len1 _)))
  show wpAny _ _ (dictSize d >>= _) _ _ s
  unfold dictSize
  refine wpAny_bind (wpAny_bind (wpAny_dictEntries ho hdat (wpAny_pure ?_)))
  show wpAny _ _ (Builtin.Dict.pendingCount d >>= _) _ _ s
  refine wpAny_bind (wpAny_pendingCount_other (S.notMods m) ?_)
  show wpAny _ _ (retInt ((es.size : Int) + ((0 : Nat) : Int))) _ _ _
  rw [show (es.size : Int) + ((0 : Nat) : Int) = (xs.length : Int) from by omega]
  refine wpAny_bind (wpAny_mkInt (wpAny_pure ⟨_, rfl, ?_⟩))
  refine wpAny_bind (wpAny_holding (wpAny_pure ?_))
  refine wpAny_bind (wpAny_letGo ?_)
  show wpAny _ _ (if ((xs.length : Nat) : Int) < 0 then _ else _) _ _ _
  rw [if_neg (by omega)]
  show wpAny _ _ (if ((xs.length : Nat) : Int) ≥ 2 ^ 63 then _ else _) _ _ _
  rw [if_neg (by omega)]
  refine wpAny_bind (wpAny_mkInt (wpAny_pure ⟨_, rfl, ?_⟩))
  exact h _ _ (S.toks _)
theorem getS_missing {Q : Value → Shared → Prop} (S : St B fs l s) (m : (d, dictC knd B xs) ∈ l) (hu : A.units + 1 < cLine) (hh : A.handled = none) (hk : knd.is B.heap k key) (hp : atK xs k = none)
    (h : ∀ h' e t', Heap.NewExc s.heap h' e "KeyError" → E (.ref e) { s with heap := h', toks := t' }) : wpAny (model prog w) A (getItem (.ref d) key) Q E s :=
  getItemK_missing hu (S.keyed hk) (S.notMods m) hh (S.dict m) hp fun h' e he => h h' e _ he
theorem popS_missing {Q : Value → Shared → Prop} (S : St B fs l s) (m : (d, dictC knd B xs) ∈ l) (hu : A.units + 1 < cLine) (hh : A.handled = none) (hk : knd.is B.heap k key) (hp : atK xs k = none) (hsz : xs.length ≤ sizeLine)
    (h : ∀ h' e t', Heap.NewExc s.heap h' e "KeyError" → E (.ref e) { s with heap := h', toks := t' }) : wpAny (model prog w) A (call (.builtin "dict.pop") [.ref d, key]) Q E s :=
  popK_missing hu hh (S.notMods m) (S.keyed hk) (S.dict m) hp (fun h' e t' _ he => h h' e t' he) hsz
end

section
variable {prog : Program} {w : World} {M : Model} {A : Around} {E : Value → Shared → Prop} {B : Shared} {fs : List Env} {cD : Cell} {l l' : Cells} {s : Shared} {a : Addr} {vs vs' : List Value} {v : Value} {K : Frag} {C d f : Addr} {xs : Names} {x : Addr}
theorem St.list (S : St B fs l s) (m : (a, listC vs) ∈ l) : s.heap.IsList a vs.toArray := by
  obtain ⟨o, ho, h1, _, ⟨n, h3⟩, _⟩ := S.has _ m
  exact ⟨o, ho, h1, n, h3⟩
theorem lenL {Q : Value → Shared → Prop} (S : St B fs l s) (m : (a, listC vs) ∈ l) (hfit : vs.length < 2 ^ 62) (h : ∀ s' t, St B fs l s' → Q (.int vs.length t) s') : wpAny (model prog w) A (call (.builtin "len") [.ref a]) Q E s :=
  call_len_list (S.list m) (by simp; omega) (by have := h _ (s.toks + 1) (S.toks (s.toks + 1 + 1)); simpa using this)
theorem truthL {Q : Bool → Shared → Prop} (S : St B fs l s) (m : (a, listC vs) ∈ l) (hfit : vs.length < 2 ^ 62) (h : ∀ s', St B fs l s' → Q (!vs.isEmpty) s') : wpAny (model prog w) A (truthy (.ref a)) Q E s :=
  wpAny_truthy_list (S.list m) (by simp; omega) (by have := h _ (S.toks (s.toks + 1 + 1)); simpa using this)
theorem itemL {Q : Value → Shared → Prop} {k : Int} {t : Tok} (S : St B fs l s) (m : (a, listC vs) ∈ l) (h0 : 0 ≤ k) (hfit : k < 2 ^ 63) (hx : vs[k.toNat]? = some v) (h : Q v s) : wpAny (model prog w) A (getItem (.ref a) (.int k t)) Q E s :=
  wpAny_getItem_list (S.list m) h0 hfit (by simpa using hx) h
theorem subL {Q : Value → Shared → Prop} {value slice : Expr} {k : Int} {t : Tok} (S : St B fs l s) (m : (a, listC vs) ∈ l) (h0 : 0 ≤ k) (hfit : k < 2 ^ 63) (hx : vs[k.toNat]? = some v) (h : Q v s)
    (hs : subscripted slice false (.ref a) (.int k t) = operate [.ref a, .int k t] (getItem (.ref a) (.int k t)) := by with_unfolding_all rfl) : wpAny (model prog w) A (subscriptTail value slice (.ref a) (.int k t)) Q E s :=
  tail_any (S.list m).typeIs slot_list_getitem.lookup (itemL S m h0 hfit hx h) hs
/-- an item of an instance of a class of the program's own -/
theorem subOwn {Q : Value → Shared → Prop} {value slice : Expr} {i : Value} (T : Stat K B.heap) (S : St B fs l s) (mi : (x, instC C d) ∈ l) (md : (d, cD) ∈ l) (hs : specFn K C (Str.ofString "__getitem__") f = true) (hf : fnIn K f = true)
    (h : wpAny (model prog w) A.in1 (call (.ref f) [.ref x, i]) Q E s)
    (hsl : subscripted slice true (.ref x) i = runValue (.builtin "lifetime.subscript" ⟨[.ref x, i], []⟩) := by with_unfolding_all rfl) :
    wpAny (model prog w) A (subscriptTail value slice (.ref x) i) Q E s := by
  obtain ⟨ox, od, I, _⟩ := S.instP mi md
  have X := (S.stat T).X
  unfold specFn at hs
  simp only [Bool.and_eq_true, beq_iff_eq] at hs
  have h1 := hs.1
  unfold fnIn at hf
  split at hf
  · rename_i e
    unfold subscriptTail getitemInPython
    refine wpAny_bind (wpAny_bind (wpAny_bind (I.type.here ((looks_findIn X h1).here ?_))))
    dsimp only
    refine wpAny_bind (wpAny_load (X _ _ e) (wpAny_pure ?_))
    dsimp only
    rw [hsl]
    refine wpAny_bind (wpAny_runValue (codeAny_builtin entry_sub ?_))
    unfold Builtin.«lifetime.subscript»
    refine wpAny_bind (special_fn X I h1 (beq_iff_eq.mp hs.2) (wpAny_mono h (fun v s' z => ?_) fun _ _ z => z))
    refine wpAny_pure ?_
    show wpAny (model prog w) A (letTemporaryGo value (.ref x) v >>= fun _ => pure v) Q E s'
    exact wpAny_bind (wpAny_letTemporaryGo (wpAny_pure z))
  · cases hf
/-- the length of an instance -/
theorem lenOwn {Q : Value → Shared → Prop} (T : Stat K B.heap) (S : St B fs l s) (mi : (x, instC C d) ∈ l) (md : (d, cD) ∈ l) (hs : specFn K C (Str.ofString "__len__") f = true)
    (h : wpAny (model prog w) A.in1 (call (.ref f) [.ref x]) (PySem.W.LenBack Q) E s) : wpAny (model prog w) A (call (.builtin "len") [.ref x]) Q E s := by
  obtain ⟨ox, od, I, _⟩ := S.instP mi md
  have X := (S.stat T).X
  unfold specFn at hs
  simp only [Bool.and_eq_true, beq_iff_eq] at hs
  refine Calls.call_function_entry kind_len plain_len entry_len (args_len1 _) ?_
  unfold Builtin.«len»
  refine wpAny_bind (m := oneArg "len" _) (wpAny_pure ?_)
  refine wpAny_bind (m := callSpecial? (.ref x) (Str.ofString "__len__")) (special_fn X I hs.1 (beq_iff_eq.mp hs.2) (wpAny_mono h (fun r s' hr => ?_) fun _ _ y => y))
  cases r <;> first | exact hr.elim | skip
  rename_i n u
  obtain ⟨⟨h0, h1⟩, hq⟩ := hr
  refine wpAny_bind (wpAny_holding (wpAny_pure ?_))
  refine wpAny_bind (wpAny_letGo ?_)
  show wpAny _ _ (if n < 0 then _ else _) _ _ _
  rw [if_neg (by omega)]
  show wpAny _ _ (if n ≥ 2 ^ 63 then _ else _) _ _ _
  rw [if_neg (by omega)]
  exact wpAny_bind (wpAny_mkInt (wpAny_pure ⟨_, rfl, hq⟩))
theorem sameRef {a b C C' d d' : Addr} {sl sl' : Array (Option Value)} {Q : Bool → Shared → Prop} (S : St B fs l s) (ma : (a, slotC C d sl) ∈ l) (mb : (b, slotC C' d' sl') ∈ l) (h : Q (decide (a = b)) s) : wpAny M A (isSame (.ref a) (.ref b)) Q E s := by
  by_cases e : a = b
  · subst e
    exact wpAny_isSame_ref_self (by simpa using h)
  · obtain ⟨oa, ha, hc, _⟩ := S.has _ ma
    obtain ⟨ob, hb, _⟩ := S.has _ mb
    exact wpAny_isSame_ref_other e ha hb (by rw [hc]; intro q; cases q) (by rw [decide_eq_false e] at h; exact h)
theorem isNotRef {a b C C' d d' : Addr} {sl sl' : Array (Option Value)} {Q : Value → Shared → Prop} (S : St B fs l s) (ma : (a, slotC C d sl) ∈ l) (mb : (b, slotC C' d' sl') ∈ l) (h : Q (.bool (!decide (a = b))) s) : wpAny M A (compareOp .IsNot (.ref a) (.ref b)) Q E s := by
  show wpAny M A (do return .bool (!(← isSame (.ref a) (.ref b)))) Q E s
  exact wpAny_bind (sameRef S ma mb (wpAny_pure h))
theorem isRef {a b C C' d d' : Addr} {sl sl' : Array (Option Value)} {Q : Value → Shared → Prop} (S : St B fs l s) (ma : (a, slotC C d sl) ∈ l) (mb : (b, slotC C' d' sl') ∈ l) (h : Q (.bool (decide (a = b))) s) : wpAny M A (compareOp .Is (.ref a) (.ref b)) Q E s := by
  show wpAny M A (do return .bool (← isSame (.ref a) (.ref b))) Q E s
  exact wpAny_bind (sameRef S ma mb (wpAny_pure h))
end

end
-- M19
section
set_option maxRecDepth 100000
/-- a staticmethod of the class, met through the class -/
def clsStat (K : Frag) (C : Addr) (name : Str) (f : Addr) : Bool :=
  match typeIn K (.ref C) with
  | some mc => readsIn K C mc && (findCls K (.ref C) mc name).any fun r => match r with
    | .get g (.ref p) .none (.ref C') => g == .builtin "staticmethod.__get__" && C' == C && (recIn K p "staticmethod").any fun vs => vs.head? == some (.ref f)
    | _ => false
  | none => false
section
variable {prog : Program} {w : World} {A : Around} {E : Value → Shared → Prop} {B : Shared} {fs : List Env} {l : Cells} {s : Shared} {K : Frag} {C f : Addr} {name : Str} {expr : Bool}
theorem getStatCls {Q : Value → Shared → Prop} (T : Stat K B.heap) (S : St B fs l s) (hm : clsStat K C name f = true) (h : ∀ s', St B fs l s' → Q (.ref f) s') : wpAny (model prog w) A (getAttr (.ref C) name expr) Q E s := by
  have X := (S.stat T).X
  unfold clsStat at hm
  split at hm
  · rename_i mc hmc
    rw [Bool.and_eq_true] at hm
    obtain ⟨r, h1, h2⟩ := any_some hm.2
    split at h2
    · rename_i g p C'
      simp only [Bool.and_eq_true, beq_iff_eq] at h2
      obtain ⟨⟨rfl, rfl⟩, h4⟩ := h2
      obtain ⟨vs, h5, h6⟩ := any_some h4
      cases vs with
      | nil => cases h6
      | cons y rest =>
        obtain rfl : y = .ref f := by simpa using h6
        exact cls_bind X hm.1 h1 (wpAny_call (sm_get (s := { s with toks := s.toks + 1 }) X h5 (handed_on rfl (h _ (S.toks _)))))
    · cases h2
  · cases hm
theorem bndT {fd : FuncData} {args : Args} {binds : List (Str × Value)} {t : Addr} {k : Option (Array Value) → Sem (List (Str × Value))} (T : Stat K B.heap) (S : St B fs l s) (vs : List Value) (hd : fd.defaults = .ref t) (ho : K.lookup t = some ⟨.type "tuple", none, .seq vs.toArray 0, #[]⟩)
    (h₁ : bindArgs fd args = seqItems? fd.defaults >>= k) (h₂ : k (some vs.toArray) = pure binds) : BindsTo s fd args binds :=
  binds_K (S.stat T).X hd ho rfl h₁ h₂
theorem dictNil {KT : Type} [DecidableEq KT] (knd : AnyKind prog w KT) {env : Env} {pos : Pos} {Q : Value → Shared → Prop} (S : St B fs l s) (h : ∀ d s', St B fs ((d, dictC knd B []) :: l) s' → Q (.ref d) s') : wpAny (model prog w) A (eval (.Dict [] [] pos) env) Q E s :=
  wpAny_Dict_empty (h _ _ (S.push (c := dictC knd B []) ⟨#[], 0, ⟨rfl, rfl, rfl⟩, rfl, rfl, fun _ h => (by cases h), List.nodup_nil⟩ s.toks))
theorem listNil {env : Env} {pos : Pos} {Q : Value → Shared → Prop} (S : St B fs l s) (h : ∀ d s', St B fs ((d, listC []) :: l) s' → Q (.ref d) s') : wpAny (model prog w) A (eval (.List [] pos) env) Q E s :=
  wpAny_List (spliced_nil ⟨Nat.zero_le _, h _ _ (S.push (c := listC []) ⟨rfl, rfl, ⟨0, rfl⟩, rfl⟩ s.toks)⟩)
end
/-! cells and names in another order -/
inductive Pick {α : Type} : List α → α → List α → Prop
  | here {x : α} {r : List α} : Pick (x :: r) x r
  | there {x z : α} {r r' : List α} : Pick r x r' → Pick (z :: r) x (z :: r')
theorem Pick.perm {α : Type} {l r : List α} {x : α} (p : Pick l x r) : l.Perm (x :: r) := by
  induction p with
  | here => exact .refl _
  | there _ ih => exact (List.Perm.cons _ ih).trans (.swap ..)
theorem Pick.cons {α : Type} {l r r' : List α} {x : α} (p : Pick l x r) (q : r'.Perm r) : (x :: r').Perm l := (q.cons x).trans p.perm.symm
theorem Pick.app {α : Type} {X l r : List α} {x : α} (p : Pick l x r) : Pick (X ++ l) x (X ++ r) := by
  induction X with
  | nil => exact p
  | cons c X ih => exact .there ih
theorem midCons {α : Type} {X r r' : List α} {c : α} (h : (X ++ r').Perm r) : (X ++ c :: r').Perm (c :: r) := List.perm_middle.trans (h.cons c)
end
local macro_rules | `(tactic| walk_at "m_pick") => `(tactic| repeat (first | with_reducible exact Pick.here | with_reducible apply Pick.there | with_reducible apply Pick.app))
section
set_option maxRecDepth 100000
end
local macro_rules | `(tactic| walk_at "m_pm") => `(tactic| ((repeat (with_reducible apply Pick.cons; focus (walk_at "m_pick"; done))); (repeat with_reducible apply midCons); with_reducible exact List.Perm.refl _))
section
set_option maxRecDepth 100000
theorem idC_perm {xs xs' : Names} (p : xs'.Perm xs) {o : Obj} : idC xs o → idC xs' o := by
  rintro ⟨es, ep, h1, h2, h3, h4, h5⟩
  have nd : (xs'.map (·.1)).Nodup := (p.map _).nodup_iff.mpr h5
  refine ⟨es, ep, h1, h2, h3, fun y => (h4 y).trans ?_, nd⟩
  by_cases m : y ∈ xs.map (·.1)
  · obtain ⟨q, hq, rfl⟩ := List.mem_map.mp m
    rw [lookup_of_mem h5 (v := q.2) hq, lookup_of_mem nd (v := q.2) (p.mem_iff.mpr hq)]
  · rw [lookup_none m, lookup_none (fun m' => m ((p.map _).mem_iff.mp m'))]
section
variable {B : Shared} {fs : List Env} {l l' : Cells} {s : Shared} {a : Addr} {c c' : Cell}
theorem St.imp (S : St B fs l s) (u : Upd l (a, c) (a, c') l') (h : ∀ o, c o → c' o) (hs : Soft c → Soft c') : St B fs l' s := by
  have key : ∀ x ∈ l', x ∈ l ∨ x = (a, c') := by
    have : ∀ {l l' : Cells} {p q : Addr × Cell}, Upd l p q l' → ∀ x ∈ l', x ∈ l ∨ x = q := by
      intro l l' p q u
      induction u with
      | here => intro x hx; rcases List.mem_cons.mp hx with e | e
                · exact .inr e
                · exact .inl (List.mem_cons_of_mem _ e)
      | there _ ih => intro x hx; rcases List.mem_cons.mp hx with e | e
                      · exact .inl (e ▸ List.mem_cons_self)
                      · rcases ih x e with e | e
                        · exact .inl (List.mem_cons_of_mem _ e)
                        · exact .inr e
    exact this u
  have hk : l'.map (·.1) = l.map (·.1) := u.keys (f := (·.1)) rfl
  refine ⟨S.base, fun x hx => ?_, hk ▸ S.nd, fun x hx => ?_, S.frames, S.gens, S.drawn, S.os, S.low, fun x hx => ?_, fun x hx hm => ?_⟩
  · rcases key x hx with e | rfl
    · exact S.has x e
    · obtain ⟨o, h1, h2⟩ := S.has _ u.mem
      exact ⟨o, h1, h o h2⟩
  · rcases key x hx with e | rfl
    · exact S.fresh x e
    · exact S.fresh (a, c) u.mem
  · rcases key x hx with e | rfl
    · exact S.big x e
    · exact S.big (a, c) u.mem
  · rcases key x hx with e | rfl
    · exact S.soft x e hm
    · exact hs (S.soft (a, c) u.mem hm)
theorem St.reId {xs xs' : Names} (S : St B fs l s) (u : Upd l (a, idC xs) (a, idC xs') l') (p : xs'.Perm xs) : St B fs l' s := S.imp u (fun _ h => idC_perm p h) fun _ => soft_idC
end
end
local macro_rules | `(tactic| walk_at "m_wk1") => `(tactic| ((with_reducible show wpAny _ _ (exec (Stmt.Assign [_, _] _ _) _) _ _ _); refine wpAny_Assign_two ?_))
section
set_option maxRecDepth 100000
end
local macro_rules | `(tactic| walk_at "m_wk1") => `(tactic| ((with_reducible show wpAny _ _ (assign (Expr.Name _ _) _ _) _ _ _); refine wpAny_assign_Name ?_))
section
set_option maxRecDepth 100000

end
-- M20
section
set_option maxRecDepth 100000
theorem Upd.or {α : Type} {l l' : List α} {p q : α} (u : Upd l p q l') : ∀ x ∈ l', x ∈ l ∨ x = q := by
  induction u with
  | here =>
    intro x hx
    rcases List.mem_cons.mp hx with e | e
    · exact .inr e
    · exact .inl (List.mem_cons_of_mem _ e)
  | there _ ih =>
    intro x hx
    rcases List.mem_cons.mp hx with e | e
    · exact .inl (e ▸ List.mem_cons_self)
    · rcases ih x e with e | e
      · exact .inl (List.mem_cons_of_mem _ e)
      · exact .inr e
section
variable {B : Shared} {fs : List Env} {l l' : Cells} {s : Shared} {a : Addr} {c c' : Cell}
/-- a cell's own object says more -/
theorem St.at1 (S : St B fs l s) (u : Upd l (a, c) (a, c') l') {o : Obj} (ho : s.heap.get? a = some o) (h : c' o) (hs : Soft c → Soft c') : St B fs l' s := by
  have key := u.or
  have hk : l'.map (·.1) = l.map (·.1) := u.keys (f := (·.1)) rfl
  refine ⟨S.base, fun x hx => ?_, hk ▸ S.nd, fun x hx => ?_, S.frames, S.gens, S.drawn, S.os, S.low, fun x hx => ?_, fun x hx hm => ?_⟩
  · rcases key x hx with e | rfl
    · exact S.has x e
    · exact ⟨o, ho, h⟩
  · rcases key x hx with e | rfl
    · exact S.fresh x e
    · exact S.fresh (a, c) u.mem
  · rcases key x hx with e | rfl
    · exact S.big x e
    · exact S.big (a, c) u.mem
  · rcases key x hx with e | rfl
    · exact S.soft x e hm
    · exact hs (S.soft (a, c) u.mem hm)
theorem St.choose {ι : Type} {d : ι → Cell} {m : ι → Cells} (S : St B fs l s) (hm : (a, c) ∈ l) (u : ∀ i, Upd l (a, c) (a, d i) (m i)) (h : ∀ o, c o → ∃ i, d i o) (hs : ∀ i, Soft c → Soft (d i)) : ∃ i, St B fs (m i) s := by
  obtain ⟨o, ho, hc⟩ := S.has _ hm
  obtain ⟨i, hi⟩ := h o hc
  exact ⟨i, S.at1 (u i) ho hi (hs i)⟩
end
theorem Room.make {n : Nat} {fs : List Env} {A : Around} {C : Addr} {rest : List Value} {kw : List (Str × Value)} (r : Room (n + 1) fs A) : Room n fs (A.under (.builtin "type.__call__" ⟨.ref C :: rest, kw⟩)) := by
  obtain ⟨h1, h2, h3, h4⟩ := r
  refine ⟨?_, ?_, ?_, h4⟩
  · rw [← h1]
    obtain ⟨hd, d, fr, gs, u⟩ := A
    cases fr <;> rfl
  · show A.depth + 1 + n < _; omega
  · show A.units + 1 + 8 * n < _; omega
section
variable {M : Model} {A : Around} {E : Value → Shared → Prop} {s : Shared} {env : Env}
theorem assignAttr {o : Expr} {attr : Str} {pos : Pos} {v : Value} {Q : Unit → Shared → Prop}
    (h : wpAny M A (eval o env) (fun ov s₂ => wpAny M A (setAttr ov attr v) Q E s₂) E s) : wpAny M A (assign (.Attribute o attr pos) env v) Q E s := by
  rw [assign_Attribute]
  exact wpAny_bind (wpAny_holding (wpAny_mono h (fun ov s₂ h₂ => wpAny_bind (wpAny_standAt (wpAny_bind (wpAny_holding (wpAny_mono h₂ (fun _ s₃ h₃ => wpAny_release h₃) fun _ _ z => z))))) fun _ _ z => z))
theorem assignSub {o i : Expr} {pos : Pos} {v : Value} {Q : Unit → Shared → Prop}
    (h : wpAny M A (eval o env) (fun ov s₂ => wpAny M A (eval i env) (fun iv s₃ => wpAny M A (setItem ov iv v) Q E s₃) E s₂) E s) : wpAny M A (assign (.Subscript o i pos) env v) Q E s := by
  rw [assign_Subscript]
  refine wpAny_bind (wpAny_holding (wpAny_mono h (fun ov s₂ h₂ => wpAny_bind (wpAny_holding (wpAny_mono h₂ (fun iv s₃ h₃ => ?_) fun _ _ z => z))) fun _ _ z => z))
  exact wpAny_bind (wpAny_standAt (wpAny_bind (wpAny_holding (wpAny_mono h₃ (fun _ s₄ h₄ => wpAny_release h₄) fun _ _ z => z))))
end
end
local macro_rules | `(tactic| walk_at "m_wk1") => `(tactic| ((with_reducible show wpAny _ _ (assign (Expr.Subscript _ _ _) _ _) _ _ _); refine assignSub ?_))
section
set_option maxRecDepth 100000
end
local macro_rules | `(tactic| walk_at "m_wk1") => `(tactic| ((with_reducible show wpAny _ _ (assign (Expr.Attribute _ _ _) _ _) _ _ _); refine assignAttr ?_))
section
set_option maxRecDepth 100000

end
-- M21
section
set_option maxRecDepth 100000
/-! many objects of one class with slots -/
def upd {β : Type} (f : Addr → β) (a : Addr) (v : β) : Addr → β := fun b => if b = a then v else f b
theorem upd_same {β : Type} {f : Addr → β} {a : Addr} {v : β} : upd f a v a = v := if_pos rfl
theorem upd_ne {β : Type} {f : Addr → β} {a b : Addr} {v : β} (h : b ≠ a) : upd f a v b = f b := if_neg h
def nodeCells (C : Addr) (f : Addr → Array (Option Value)) (ns : List (Addr × Addr)) : Cells := ns.flatMap fun p => [(p.1, slotC C p.2 (f p.1)), (p.2, idC [])]
theorem nodes_cons {C : Addr} {f : Addr → Array (Option Value)} {a d : Addr} {ns : List (Addr × Addr)} : nodeCells C f ((a, d) :: ns) = (a, slotC C d (f a)) :: (d, idC []) :: nodeCells C f ns := rfl
theorem nodes_congr {C : Addr} {f g : Addr → Array (Option Value)} : ∀ {ns : List (Addr × Addr)}, (∀ a ∈ ns.map (·.1), f a = g a) → nodeCells C f ns = nodeCells C g ns
  | [], _ => rfl
  | (a, d) :: r, h => by
    rw [nodes_cons, nodes_cons, h a List.mem_cons_self, nodes_congr fun b hb => h b (List.mem_cons_of_mem _ hb)]
theorem nodesM {C : Addr} {f : Addr → Array (Option Value)} {a d : Addr} {l : Cells} : ∀ {ns : List (Addr × Addr)}, (a, d) ∈ ns → (a, slotC C d (f a)) ∈ nodeCells C f ns ++ l
  | p :: r, h => by
    rcases List.mem_cons.mp h with rfl | h
    · exact List.mem_cons_self
    · exact List.mem_cons_of_mem _ (List.mem_cons_of_mem _ (nodesM h))
theorem nodesD {C : Addr} {f : Addr → Array (Option Value)} {a d : Addr} {l : Cells} : ∀ {ns : List (Addr × Addr)}, (a, d) ∈ ns → (d, idC []) ∈ nodeCells C f ns ++ l
  | p :: r, h => by
    rcases List.mem_cons.mp h with rfl | h
    · exact List.mem_cons_of_mem _ List.mem_cons_self
    · exact List.mem_cons_of_mem _ (List.mem_cons_of_mem _ (nodesD h))
theorem nodes_updG {C : Addr} {f g : Addr → Array (Option Value)} {a d : Addr} {l : Cells} (hg : ∀ b, b ≠ a → g b = f b) : ∀ {ns : List (Addr × Addr)}, (a, d) ∈ ns → (ns.map (·.1)).Nodup →
    Upd (nodeCells C f ns ++ l) (a, slotC C d (f a)) (a, slotC C d (g a)) (nodeCells C g ns ++ l)
  | p :: r, h, nd => by
    rw [List.map_cons, List.nodup_cons] at nd
    rcases List.mem_cons.mp h with rfl | h'
    · have : nodeCells C g r = nodeCells C f r := nodes_congr fun b hb => hg b fun e => nd.1 (e ▸ hb)
      rw [nodes_cons, nodes_cons, this]
      exact Upd.here
    · obtain ⟨b, e⟩ := p
      have hne : b ≠ a := fun q => nd.1 (q ▸ List.mem_map.mpr ⟨_, h', rfl⟩)
      rw [nodes_cons, nodes_cons, hg b hne]
      exact Upd.there (Upd.there (nodes_updG hg h' nd.2))
theorem nodes_sub {C : Addr} {f : Addr → Array (Option Value)} : ∀ {ns : List (Addr × Addr)}, List.Sublist (ns.map (·.1)) ((nodeCells C f ns).map (·.1))
  | [] => .slnil
  | (a, d) :: r => .cons₂ _ (.cons _ nodes_sub)
/-- the one that holds a node's dict -/
theorem node_of {ns : List (Addr × Addr)} {a : Addr} (h : a ∈ ns.map (·.1)) : ∃ d, (a, d) ∈ ns := by
  obtain ⟨⟨b, d⟩, hm, rfl⟩ := List.mem_map.mp h
  exact ⟨d, hm⟩
end
local macro_rules | `(tactic| walk_at "m_mem") => `(tactic| repeat (first | with_reducible exact List.mem_cons_self | with_reducible exact nodesM (by assumption) | with_reducible exact nodesD (by assumption) | with_reducible refine List.mem_cons_of_mem _ ?_ | with_reducible refine List.mem_append_right _ ?_))
section
set_option maxRecDepth 100000
theorem Upd.app {α : Type} {X l l' : List α} {x y : α} (u : Upd l x y l') : Upd (X ++ l) x y (X ++ l') := by
  induction X with
  | nil => exact u
  | cons c X ih => exact .there ih
end
local macro_rules | `(tactic| walk_at "m_updt") => `(tactic| repeat (first | with_reducible exact Upd.here | with_reducible apply Upd.there | with_reducible apply Upd.app))
section
set_option maxRecDepth 100000

/-- a stretch of cells is put in another's place -/
inductive Rep (X X' : Cells) : Cells → Cells → Prop
  | here {r : Cells} : Rep X X' (X ++ r) (X' ++ r)
  | there {c : Addr × Cell} {l l' : Cells} : Rep X X' l l' → Rep X X' (c :: l) (c :: l')
theorem Rep.rest {X X' l l' : Cells} (u : Rep X X' l l') : ∃ r, (X ++ r).Perm l ∧ l'.Perm (X' ++ r) := by
  induction u with
  | here => exact ⟨_, .refl _, .refl _⟩
  | @there c l l' _ ih =>
    obtain ⟨r, h1, h2⟩ := ih
    exact ⟨c :: r, List.perm_middle.trans (h1.cons c), (h2.cons c).trans List.perm_middle.symm⟩
end
local macro_rules | `(tactic| walk_at "m_rep") => `(tactic| repeat (first | with_reducible exact Rep.here | with_reducible apply Rep.there))
section
set_option maxRecDepth 100000
section
variable {B : Shared} {fs : List Env} {env : Env} {l l' : Cells} {s : Shared} {c : Cell}
/-- a function's end: its own names are dropped, the cells laid in the asked order -/
theorem St.done (L : Addr) (S : St B (env :: fs) l' s) (p : ((L, c) :: l).Perm l') : St B fs l s := St.tail (St.pop (S.perm p))
end
/-! links of a ring: when they end, their keys, the next, the one before -/
def lnk (e k nx pv : Value) : Array (Option Value) := #[some e, some k, some nx, some pv]
def lf (ev kv : Addr → Value) (nx pv : Addr → Addr) : Addr → Array (Option Value) := fun a => lnk (ev a) (kv a) (.ref (nx a)) (.ref (pv a))
section
variable {C a d : Addr} {l : Cells} {ns : List (Addr × Addr)} {ev kv : Addr → Value} {nx pv : Addr → Addr} {v : Addr} {e : Value}
theorem updNext (h : (a, d) ∈ ns) (nd : (ns.map (·.1)).Nodup) : Upd (nodeCells C (lf ev kv nx pv) ns ++ l) (a, slotC C d (lf ev kv nx pv a)) (a, slotC C d (lf ev kv (upd nx a v) pv a)) (nodeCells C (lf ev kv (upd nx a v) pv) ns ++ l) :=
  nodes_updG (f := lf ev kv nx pv) (g := lf ev kv (upd nx a v) pv) (fun b hb => by simp [lf, upd_ne hb]) h nd
theorem updPrev (h : (a, d) ∈ ns) (nd : (ns.map (·.1)).Nodup) : Upd (nodeCells C (lf ev kv nx pv) ns ++ l) (a, slotC C d (lf ev kv nx pv a)) (a, slotC C d (lf ev kv nx (upd pv a v) a)) (nodeCells C (lf ev kv nx (upd pv a v)) ns ++ l) :=
  nodes_updG (f := lf ev kv nx pv) (g := lf ev kv nx (upd pv a v)) (fun b hb => by simp [lf, upd_ne hb]) h nd
theorem updExp (h : (a, d) ∈ ns) (nd : (ns.map (·.1)).Nodup) : Upd (nodeCells C (lf ev kv nx pv) ns ++ l) (a, slotC C d (lf ev kv nx pv a)) (a, slotC C d (lf (upd ev a e) kv nx pv a)) (nodeCells C (lf (upd ev a e) kv nx pv) ns ++ l) :=
  nodes_updG (f := lf ev kv nx pv) (g := lf (upd ev a e) kv nx pv) (fun b hb => by simp [lf, upd_ne hb]) h nd
end
theorem St.freshNode {B : Shared} {fs : List Env} {l r : Cells} {s : Shared} {b C : Addr} {c : Cell} {f : Addr → Array (Option Value)} {ns : List (Addr × Addr)} (S : St B fs l s) (p : ((b, c) :: (nodeCells C f ns ++ r)).Perm l) : b ∉ ns.map (·.1) := by
  have h := (S.perm p).nd
  rw [List.map_cons, List.nodup_cons, List.map_append] at h
  exact fun hm => h.1 (List.mem_append_left _ (nodes_sub.subset hm))
theorem newNode {b d rt : Addr} {ns : List (Addr × Addr)} {ev kv : Addr → Value} {nx pv : Addr → Addr} {e key : Value} (hb : b ∉ ns.map (·.1)) (hr : rt ∈ ns.map (·.1)) (hp : pv rt ∈ ns.map (·.1)) :
    nodeCells 1178 (lf (upd ev b e) (upd kv b key) (upd (upd nx b rt) (pv rt) b) (upd (upd pv b (pv rt)) rt b)) ((b, d) :: ns) = (b, slotC 1178 d (lnk e key (.ref rt) (.ref (pv rt)))) :: (d, idC []) :: nodeCells 1178 (lf ev kv (upd nx (pv rt) b) (upd pv rt b)) ns := by
  have n1 : b ≠ pv rt := fun q => hb (q ▸ hp)
  have n2 : b ≠ rt := fun q => hb (q ▸ hr)
  have e1 : nodeCells 1178 (lf (upd ev b e) (upd kv b key) (upd (upd nx b rt) (pv rt) b) (upd (upd pv b (pv rt)) rt b)) ns = nodeCells 1178 (lf ev kv (upd nx (pv rt) b) (upd pv rt b)) ns := by
    refine nodes_congr fun a ha => ?_
    have n3 : a ≠ b := fun q => hb (q ▸ ha)
    simp [lf, upd, n3]
  rw [nodes_cons, e1]
  simp [lf, upd, n1, n2]
end
local macro_rules | `(tactic| walk_at "m_updn") => `(tactic| repeat (first | with_reducible exact Upd.here | with_reducible exact updNext (by assumption) (by assumption) | with_reducible exact updPrev (by assumption) (by assumption) | with_reducible exact updExp (by assumption) (by assumption) | with_reducible apply Upd.there | with_reducible apply Upd.app))
section
set_option maxRecDepth 100000

end
-- FN1
section
set_option maxRecDepth 100000
abbrev KK (w : World) : Frag := kf w.params
section
variable {w : World}
def fd749 : FuncData := fnD "__init__" "Cache.__init__" [34, 2] (.ref 742) (.ref 748) (.str (S "cachetools") 1255)
theorem fnOk749 : FnOk (KK w) 749 fd749 (inside (stP [34, 2])) where
  at_ := by kernel_rfl
  body_ := rfl
  code := by kernel_rfl
  glob := rfl
  clos := rfl
  blt := rfl
  kind := by kernel_rfl
  co := by kernel_rfl
  cell := by decide +kernel
def fd763 : FuncData := fnD "__getitem__" "Cache.__getitem__" [34, 4] .none (.ref 762) (.str (S "cachetools") 1255)
theorem fnOk763 : FnOk (KK w) 763 fd763 (inside (stP [34, 4])) where
  at_ := by kernel_rfl
  body_ := rfl
  code := by kernel_rfl
  glob := rfl
  clos := rfl
  blt := rfl
  kind := by kernel_rfl
  co := by kernel_rfl
  cell := by decide +kernel
def fd770 : FuncData := fnD "__setitem__" "Cache.__setitem__" [34, 5] .none (.ref 769) (.str (S "cachetools") 1255)
theorem fnOk770 : FnOk (KK w) 770 fd770 (inside (stP [34, 5])) where
  at_ := by kernel_rfl
  body_ := rfl
  code := by kernel_rfl
  glob := rfl
  clos := rfl
  blt := rfl
  kind := by kernel_rfl
  co := by kernel_rfl
  cell := by decide +kernel
def fd777 : FuncData := fnD "__delitem__" "Cache.__delitem__" [34, 6] .none (.ref 776) (.str (S "cachetools") 1255)
theorem fnOk777 : FnOk (KK w) 777 fd777 (inside (stP [34, 6])) where
  at_ := by kernel_rfl
  body_ := rfl
  code := by kernel_rfl
  glob := rfl
  clos := rfl
  blt := rfl
  kind := by kernel_rfl
  co := by kernel_rfl
  cell := by decide +kernel
def fd784 : FuncData := fnD "__contains__" "Cache.__contains__" [34, 7] .none (.ref 783) (.str (S "cachetools") 1255)
theorem fnOk784 : FnOk (KK w) 784 fd784 (inside (stP [34, 7])) where
  at_ := by kernel_rfl
  body_ := rfl
  code := by kernel_rfl
  glob := rfl
  clos := rfl
  blt := rfl
  kind := by kernel_rfl
  co := by kernel_rfl
  cell := by decide +kernel
def fd791 : FuncData := fnD "__missing__" "Cache.__missing__" [34, 8] .none (.ref 790) (.str (S "cachetools") 1255)
theorem fnOk791 : FnOk (KK w) 791 fd791 (inside (stP [34, 8])) where
  at_ := by kernel_rfl
  body_ := rfl
  code := by kernel_rfl
  glob := rfl
  clos := rfl
  blt := rfl
  kind := by kernel_rfl
  co := by kernel_rfl
  cell := by decide +kernel
def fd805 : FuncData := fnD "__len__" "Cache.__len__" [34, 10] .none (.ref 804) (.str (S "cachetools") 1255)
theorem fnOk805 : FnOk (KK w) 805 fd805 (inside (stP [34, 10])) where
  at_ := by kernel_rfl
  body_ := rfl
  code := by kernel_rfl
  glob := rfl
  clos := rfl
  blt := rfl
  kind := by kernel_rfl
  co := by kernel_rfl
  cell := by decide +kernel
def fd859 : FuncData := { fnD "getsizeof" "Cache.getsizeof" [34, 17] .none (.ref 858) (.str (S "cachetools") 1255) with annotations := (some 862) }
theorem fnOk859 : FnOk (KK w) 859 fd859 (inside (stP [34, 17])) where
  at_ := by kernel_rfl
  body_ := rfl
  code := by kernel_rfl
  glob := rfl
  clos := rfl
  blt := rfl
  kind := by kernel_rfl
  co := by kernel_rfl
  cell := by decide +kernel
def fd884 : FuncData := fnD "__init__" "FIFOCache.__init__" [35, 0] (.ref 877) (.ref 883) (.str (S "cachetools") 1255)
theorem fnOk884 : FnOk (KK w) 884 fd884 (inside (stP [35, 0])) where
  at_ := by kernel_rfl
  body_ := rfl
  code := by kernel_rfl
  glob := rfl
  clos := rfl
  blt := rfl
  kind := by kernel_rfl
  co := by kernel_rfl
  cell := by decide +kernel
def fd892 : FuncData := fnD "__setitem__" "FIFOCache.__setitem__" [35, 1] (.ref 885) (.ref 891) (.str (S "cachetools") 1255)
theorem fnOk892 : FnOk (KK w) 892 fd892 (inside (stP [35, 1])) where
  at_ := by kernel_rfl
  body_ := rfl
  code := by kernel_rfl
  glob := rfl
  clos := rfl
  blt := rfl
  kind := by kernel_rfl
  co := by kernel_rfl
  cell := by decide +kernel
def fd900 : FuncData := fnD "__delitem__" "FIFOCache.__delitem__" [35, 2] (.ref 893) (.ref 899) (.str (S "cachetools") 1255)
theorem fnOk900 : FnOk (KK w) 900 fd900 (inside (stP [35, 2])) where
  at_ := by kernel_rfl
  body_ := rfl
  code := by kernel_rfl
  glob := rfl
  clos := rfl
  blt := rfl
  kind := by kernel_rfl
  co := by kernel_rfl
  cell := by decide +kernel
def fd907 : FuncData := fnD "popitem" "FIFOCache.popitem" [35, 3] .none (.ref 906) (.str (S "cachetools") 1255)
theorem fnOk907 : FnOk (KK w) 907 fd907 (inside (stP [35, 3])) where
  at_ := by kernel_rfl
  body_ := rfl
  code := by kernel_rfl
  glob := rfl
  clos := rfl
  blt := rfl
  kind := by kernel_rfl
  co := by kernel_rfl
  cell := by decide +kernel
def fd934 : FuncData := fnD "__init__" "LRUCache.__init__" [36, 0] (.ref 927) (.ref 933) (.str (S "cachetools") 1255)
theorem fnOk934 : FnOk (KK w) 934 fd934 (inside (stP [36, 0])) where
  at_ := by kernel_rfl
  body_ := rfl
  code := by kernel_rfl
  glob := rfl
  clos := rfl
  blt := rfl
  kind := by kernel_rfl
  co := by kernel_rfl
  cell := by decide +kernel
def fd942 : FuncData := fnD "__getitem__" "LRUCache.__getitem__" [36, 1] (.ref 935) (.ref 941) (.str (S "cachetools") 1255)
theorem fnOk942 : FnOk (KK w) 942 fd942 (inside (stP [36, 1])) where
  at_ := by kernel_rfl
  body_ := rfl
  code := by kernel_rfl
  glob := rfl
  clos := rfl
  blt := rfl
  kind := by kernel_rfl
  co := by kernel_rfl
  cell := by decide +kernel
def fd950 : FuncData := fnD "__setitem__" "LRUCache.__setitem__" [36, 2] (.ref 943) (.ref 949) (.str (S "cachetools") 1255)
theorem fnOk950 : FnOk (KK w) 950 fd950 (inside (stP [36, 2])) where
  at_ := by kernel_rfl
  body_ := rfl
  code := by kernel_rfl
  glob := rfl
  clos := rfl
  blt := rfl
  kind := by kernel_rfl
  co := by kernel_rfl
  cell := by decide +kernel
def fd958 : FuncData := fnD "__delitem__" "LRUCache.__delitem__" [36, 3] (.ref 951) (.ref 957) (.str (S "cachetools") 1255)
theorem fnOk958 : FnOk (KK w) 958 fd958 (inside (stP [36, 3])) where
  at_ := by kernel_rfl
  body_ := rfl
  code := by kernel_rfl
  glob := rfl
  clos := rfl
  blt := rfl
  kind := by kernel_rfl
  co := by kernel_rfl
  cell := by decide +kernel
def fd965 : FuncData := fnD "popitem" "LRUCache.popitem" [36, 4] .none (.ref 964) (.str (S "cachetools") 1255)
theorem fnOk965 : FnOk (KK w) 965 fd965 (inside (stP [36, 4])) where
  at_ := by kernel_rfl
  body_ := rfl
  code := by kernel_rfl
  glob := rfl
  clos := rfl
  blt := rfl
  kind := by kernel_rfl
  co := by kernel_rfl
  cell := by decide +kernel
def fd979 : FuncData := fnD "__touch" "LRUCache.__touch" [36, 6] .none (.ref 978) (.str (S "cachetools") 1255)
theorem fnOk979 : FnOk (KK w) 979 fd979 (inside (stP [36, 6])) where
  at_ := by kernel_rfl
  body_ := rfl
  code := by kernel_rfl
  glob := rfl
  clos := rfl
  blt := rfl
  kind := by kernel_rfl
  co := by kernel_rfl
  cell := by decide +kernel
def fd1056 : FuncData := fnD "__init__" "_TimedCache.__init__" [37, 1] (.ref 1049) (.ref 1055) (.str (S "cachetools") 1255)
theorem fnOk1056 : FnOk (KK w) 1056 fd1056 (inside (stP [37, 1])) where
  at_ := by kernel_rfl
  body_ := rfl
  code := by kernel_rfl
  glob := rfl
  clos := rfl
  blt := rfl
  kind := by kernel_rfl
  co := by kernel_rfl
  cell := by decide +kernel
def fd1072 : FuncData := fnD "__len__" "_TimedCache.__len__" [37, 3] (.ref 1065) (.ref 1071) (.str (S "cachetools") 1255)
theorem fnOk1072 : FnOk (KK w) 1072 fd1072 (inside (stP [37, 3])) where
  at_ := by kernel_rfl
  body_ := rfl
  code := by kernel_rfl
  glob := rfl
  clos := rfl
  blt := rfl
  kind := by kernel_rfl
  co := by kernel_rfl
  cell := by decide +kernel
def fd1088 : FuncData := fnD "timer" "_TimedCache.timer" [37, 5] .none (.ref 1087) (.str (S "cachetools") 1255)
theorem fnOk1088 : FnOk (KK w) 1088 fd1088 (inside (stP [37, 5])) where
  at_ := by kernel_rfl
  body_ := rfl
  code := by kernel_rfl
  glob := rfl
  clos := rfl
  blt := rfl
  kind := by kernel_rfl
  co := by kernel_rfl
  cell := by decide +kernel
def fd1006 : FuncData := fnD "__init__" "_TimedCache._Timer.__init__" [37, 0, 0] .none (.ref 1005) (.str (S "cachetools") 1255)
theorem fnOk1006 : FnOk (KK w) 1006 fd1006 (inside (stP [37, 0, 0])) where
  at_ := by kernel_rfl
  body_ := rfl
  code := by kernel_rfl
  glob := rfl
  clos := rfl
  blt := rfl
  kind := by kernel_rfl
  co := by kernel_rfl
  cell := by decide +kernel
def fd1013 : FuncData := fnD "__call__" "_TimedCache._Timer.__call__" [37, 0, 1] .none (.ref 1012) (.str (S "cachetools") 1255)
theorem fnOk1013 : FnOk (KK w) 1013 fd1013 (inside (stP [37, 0, 1])) where
  at_ := by kernel_rfl
  body_ := rfl
  code := by kernel_rfl
  glob := rfl
  clos := rfl
  blt := rfl
  kind := by kernel_rfl
  co := by kernel_rfl
  cell := by decide +kernel
def fd1020 : FuncData := fnD "__enter__" "_TimedCache._Timer.__enter__" [37, 0, 2] .none (.ref 1019) (.str (S "cachetools") 1255)
theorem fnOk1020 : FnOk (KK w) 1020 fd1020 (inside (stP [37, 0, 2])) where
  at_ := by kernel_rfl
  body_ := rfl
  code := by kernel_rfl
  glob := rfl
  clos := rfl
  blt := rfl
  kind := by kernel_rfl
  co := by kernel_rfl
  cell := by decide +kernel
def fd1027 : FuncData := fnD "__exit__" "_TimedCache._Timer.__exit__" [37, 0, 3] .none (.ref 1026) (.str (S "cachetools") 1255)
theorem fnOk1027 : FnOk (KK w) 1027 fd1027 (inside (stP [37, 0, 3])) where
  at_ := by kernel_rfl
  body_ := rfl
  code := by kernel_rfl
  glob := rfl
  clos := rfl
  blt := rfl
  kind := by kernel_rfl
  co := by kernel_rfl
  cell := by decide +kernel
def fd1192 : FuncData := fnD "__init__" "TTLCache.__init__" [41, 1] (.ref 1185) (.ref 1191) (.str (S "cachetools") 1765)
theorem fnOk1192 : FnOk (KK w) 1192 fd1192 (inside (stP [41, 1])) where
  at_ := by kernel_rfl
  body_ := rfl
  code := by kernel_rfl
  glob := rfl
  clos := rfl
  blt := rfl
  kind := by kernel_rfl
  co := by kernel_rfl
  cell := by decide +kernel
def fd1199 : FuncData := fnD "__contains__" "TTLCache.__contains__" [41, 2] .none (.ref 1198) (.str (S "cachetools") 1765)
theorem fnOk1199 : FnOk (KK w) 1199 fd1199 (inside (stP [41, 2])) where
  at_ := by kernel_rfl
  body_ := rfl
  code := by kernel_rfl
  glob := rfl
  clos := rfl
  blt := rfl
  kind := by kernel_rfl
  co := by kernel_rfl
  cell := by decide +kernel
def fd1207 : FuncData := fnD "__getitem__" "TTLCache.__getitem__" [41, 3] (.ref 1200) (.ref 1206) (.str (S "cachetools") 1765)
theorem fnOk1207 : FnOk (KK w) 1207 fd1207 (inside (stP [41, 3])) where
  at_ := by kernel_rfl
  body_ := rfl
  code := by kernel_rfl
  glob := rfl
  clos := rfl
  blt := rfl
  kind := by kernel_rfl
  co := by kernel_rfl
  cell := by decide +kernel
def fd1215 : FuncData := fnD "__setitem__" "TTLCache.__setitem__" [41, 4] (.ref 1208) (.ref 1214) (.str (S "cachetools") 1765)
theorem fnOk1215 : FnOk (KK w) 1215 fd1215 (inside (stP [41, 4])) where
  at_ := by kernel_rfl
  body_ := rfl
  code := by kernel_rfl
  glob := rfl
  clos := rfl
  blt := rfl
  kind := by kernel_rfl
  co := by kernel_rfl
  cell := by decide +kernel
def fd1223 : FuncData := fnD "__delitem__" "TTLCache.__delitem__" [41, 5] (.ref 1216) (.ref 1222) (.str (S "cachetools") 1765)
theorem fnOk1223 : FnOk (KK w) 1223 fd1223 (inside (stP [41, 5])) where
  at_ := by kernel_rfl
  body_ := rfl
  code := by kernel_rfl
  glob := rfl
  clos := rfl
  blt := rfl
  kind := by kernel_rfl
  co := by kernel_rfl
  cell := by decide +kernel
def fd1253 : FuncData := fnD "expire" "TTLCache.expire" [41, 9] (.ref 1246) (.ref 1252) (.str (S "cachetools") 1765)
theorem fnOk1253 : FnOk (KK w) 1253 fd1253 (inside (stP [41, 9])) where
  at_ := by kernel_rfl
  body_ := rfl
  code := by kernel_rfl
  glob := rfl
  clos := rfl
  blt := rfl
  kind := by kernel_rfl
  co := by kernel_rfl
  cell := by decide +kernel
def fd1260 : FuncData := fnD "popitem" "TTLCache.popitem" [41, 10] .none (.ref 1259) (.str (S "cachetools") 1765)
theorem fnOk1260 : FnOk (KK w) 1260 fd1260 (inside (stP [41, 10])) where
  at_ := by kernel_rfl
  body_ := rfl
  code := by kernel_rfl
  glob := rfl
  clos := rfl
  blt := rfl
  kind := by kernel_rfl
  co := by kernel_rfl
  cell := by decide +kernel
def fd1160 : FuncData := fnD "__init__" "TTLCache._Link.__init__" [41, 0, 1] (.ref 1153) (.ref 1159) (.str (S "cachetools") 1765)
theorem fnOk1160 : FnOk (KK w) 1160 fd1160 (inside (stP [41, 0, 1])) where
  at_ := by kernel_rfl
  body_ := rfl
  code := by kernel_rfl
  glob := rfl
  clos := rfl
  blt := rfl
  kind := by kernel_rfl
  co := by kernel_rfl
  cell := by decide +kernel
def fd1174 : FuncData := fnD "unlink" "TTLCache._Link.unlink" [41, 0, 3] .none (.ref 1173) (.str (S "cachetools") 1765)
theorem fnOk1174 : FnOk (KK w) 1174 fd1174 (inside (stP [41, 0, 3])) where
  at_ := by kernel_rfl
  body_ := rfl
  code := by kernel_rfl
  glob := rfl
  clos := rfl
  blt := rfl
  kind := by kernel_rfl
  co := by kernel_rfl
  cell := by decide +kernel
def fd1411 : FuncData := fnD "__init__" "TLRUCache.__init__" [57, 2] (.ref 1404) (.ref 1410) (.str (S "cachetools") 2085)
theorem fnOk1411 : FnOk (KK w) 1411 fd1411 (inside (stP [57, 2])) where
  at_ := by kernel_rfl
  body_ := rfl
  code := by kernel_rfl
  glob := rfl
  clos := rfl
  blt := rfl
  kind := by kernel_rfl
  co := by kernel_rfl
  cell := by decide +kernel
def fd1418 : FuncData := fnD "__contains__" "TLRUCache.__contains__" [57, 3] .none (.ref 1417) (.str (S "cachetools") 2085)
theorem fnOk1418 : FnOk (KK w) 1418 fd1418 (inside (stP [57, 3])) where
  at_ := by kernel_rfl
  body_ := rfl
  code := by kernel_rfl
  glob := rfl
  clos := rfl
  blt := rfl
  kind := by kernel_rfl
  co := by kernel_rfl
  cell := by decide +kernel
def fd1426 : FuncData := fnD "__getitem__" "TLRUCache.__getitem__" [57, 4] (.ref 1419) (.ref 1425) (.str (S "cachetools") 2085)
theorem fnOk1426 : FnOk (KK w) 1426 fd1426 (inside (stP [57, 4])) where
  at_ := by kernel_rfl
  body_ := rfl
  code := by kernel_rfl
  glob := rfl
  clos := rfl
  blt := rfl
  kind := by kernel_rfl
  co := by kernel_rfl
  cell := by decide +kernel
def fd1434 : FuncData := fnD "__setitem__" "TLRUCache.__setitem__" [57, 5] (.ref 1427) (.ref 1433) (.str (S "cachetools") 2085)
theorem fnOk1434 : FnOk (KK w) 1434 fd1434 (inside (stP [57, 5])) where
  at_ := by kernel_rfl
  body_ := rfl
  code := by kernel_rfl
  glob := rfl
  clos := rfl
  blt := rfl
  kind := by kernel_rfl
  co := by kernel_rfl
  cell := by decide +kernel
def fd1442 : FuncData := fnD "__delitem__" "TLRUCache.__delitem__" [57, 6] (.ref 1435) (.ref 1441) (.str (S "cachetools") 2085)
theorem fnOk1442 : FnOk (KK w) 1442 fd1442 (inside (stP [57, 6])) where
  at_ := by kernel_rfl
  body_ := rfl
  code := by kernel_rfl
  glob := rfl
  clos := rfl
  blt := rfl
  kind := by kernel_rfl
  co := by kernel_rfl
  cell := by decide +kernel
def fd1463 : FuncData := fnD "expire" "TLRUCache.expire" [57, 9] (.ref 1458) (.ref 1462) (.str (S "cachetools") 2085)
theorem fnOk1463 : FnOk (KK w) 1463 fd1463 (inside (stP [57, 9])) where
  at_ := by kernel_rfl
  body_ := rfl
  code := by kernel_rfl
  glob := rfl
  clos := rfl
  blt := rfl
  kind := by kernel_rfl
  co := by kernel_rfl
  cell := by decide +kernel
def fd1470 : FuncData := fnD "popitem" "TLRUCache.popitem" [57, 10] .none (.ref 1469) (.str (S "cachetools") 2085)
theorem fnOk1470 : FnOk (KK w) 1470 fd1470 (inside (stP [57, 10])) where
  at_ := by kernel_rfl
  body_ := rfl
  code := by kernel_rfl
  glob := rfl
  clos := rfl
  blt := rfl
  kind := by kernel_rfl
  co := by kernel_rfl
  cell := by decide +kernel
def fd1386 : FuncData := fnD "__init__" "TLRUCache._Item.__init__" [57, 1, 1] (.ref 1379) (.ref 1385) (.str (S "cachetools") 2085)
theorem fnOk1386 : FnOk (KK w) 1386 fd1386 (inside (stP [57, 1, 1])) where
  at_ := by kernel_rfl
  body_ := rfl
  code := by kernel_rfl
  glob := rfl
  clos := rfl
  blt := rfl
  kind := by kernel_rfl
  co := by kernel_rfl
  cell := by decide +kernel
def fd1393 : FuncData := fnD "__lt__" "TLRUCache._Item.__lt__" [57, 1, 2] .none (.ref 1392) (.str (S "cachetools") 2085)
theorem fnOk1393 : FnOk (KK w) 1393 fd1393 (inside (stP [57, 1, 2])) where
  at_ := by kernel_rfl
  body_ := rfl
  code := by kernel_rfl
  glob := rfl
  clos := rfl
  blt := rfl
  kind := by kernel_rfl
  co := by kernel_rfl
  cell := by decide +kernel
def fd798 : FuncData := fnD "__iter__" "Cache.__iter__" [34, 9] .none (.ref 797) (.str (S "cachetools") 1255)
theorem fnOk798 : FnOk (KK w) 798 fd798 (inside (stP [34, 9])) where
  at_ := by kernel_rfl
  body_ := rfl
  code := by kernel_rfl
  glob := rfl
  clos := rfl
  blt := rfl
  kind := by kernel_rfl
  co := by kernel_rfl
  cell := by decide +kernel
def fd813 : FuncData := fnD "get" "Cache.get" [34, 11] (.ref 806) (.ref 812) (.str (S "cachetools") 1255)
theorem fnOk813 : FnOk (KK w) 813 fd813 (inside (stP [34, 11])) where
  at_ := by kernel_rfl
  body_ := rfl
  code := by kernel_rfl
  glob := rfl
  clos := rfl
  blt := rfl
  kind := by kernel_rfl
  co := by kernel_rfl
  cell := by decide +kernel
def fd821 : FuncData := fnD "pop" "Cache.pop" [34, 12] (.ref 814) (.ref 820) (.str (S "cachetools") 1255)
theorem fnOk821 : FnOk (KK w) 821 fd821 (inside (stP [34, 12])) where
  at_ := by kernel_rfl
  body_ := rfl
  code := by kernel_rfl
  glob := rfl
  clos := rfl
  blt := rfl
  kind := by kernel_rfl
  co := by kernel_rfl
  cell := by decide +kernel
def fd829 : FuncData := fnD "setdefault" "Cache.setdefault" [34, 13] (.ref 822) (.ref 828) (.str (S "cachetools") 1255)
theorem fnOk829 : FnOk (KK w) 829 fd829 (inside (stP [34, 13])) where
  at_ := by kernel_rfl
  body_ := rfl
  code := by kernel_rfl
  glob := rfl
  clos := rfl
  blt := rfl
  kind := by kernel_rfl
  co := by kernel_rfl
  cell := by decide +kernel
def fd1096 : FuncData := fnD "get" "_TimedCache.get" [37, 6] .none (.ref 1095) (.str (S "cachetools") 1255)
theorem fnOk1096 : FnOk (KK w) 1096 fd1096 (inside (stP [37, 6])) where
  at_ := by kernel_rfl
  body_ := rfl
  code := by kernel_rfl
  glob := rfl
  clos := rfl
  blt := rfl
  kind := by kernel_rfl
  co := by kernel_rfl
  cell := by decide +kernel
def fd1103 : FuncData := fnD "pop" "_TimedCache.pop" [37, 7] .none (.ref 1102) (.str (S "cachetools") 1255)
theorem fnOk1103 : FnOk (KK w) 1103 fd1103 (inside (stP [37, 7])) where
  at_ := by kernel_rfl
  body_ := rfl
  code := by kernel_rfl
  glob := rfl
  clos := rfl
  blt := rfl
  kind := by kernel_rfl
  co := by kernel_rfl
  cell := by decide +kernel
def fd1110 : FuncData := fnD "setdefault" "_TimedCache.setdefault" [37, 8] .none (.ref 1109) (.str (S "cachetools") 1255)
theorem fnOk1110 : FnOk (KK w) 1110 fd1110 (inside (stP [37, 8])) where
  at_ := by kernel_rfl
  body_ := rfl
  code := by kernel_rfl
  glob := rfl
  clos := rfl
  blt := rfl
  kind := by kernel_rfl
  co := by kernel_rfl
  cell := by decide +kernel
def fd1230 : FuncData := fnD "__iter__" "TTLCache.__iter__" [41, 6] .none (.ref 1229) (.str (S "cachetools") 1765)
theorem fnOk1230 : FnOk (KK w) 1230 fd1230 (inside (stP [41, 6])) where
  at_ := by kernel_rfl
  body_ := rfl
  code := by kernel_rfl
  glob := rfl
  clos := rfl
  blt := rfl
  kind := by kernel_rfl
  co := by kernel_rfl
  cell := by decide +kernel
def fd1449 : FuncData := fnD "__iter__" "TLRUCache.__iter__" [57, 7] .none (.ref 1448) (.str (S "cachetools") 2085)
theorem fnOk1449 : FnOk (KK w) 1449 fd1449 (inside (stP [57, 7])) where
  at_ := by kernel_rfl
  body_ := rfl
  code := by kernel_rfl
  glob := rfl
  clos := rfl
  blt := rfl
  kind := by kernel_rfl
  co := by kernel_rfl
  cell := by decide +kernel
def fd1497 : FuncData := fnD "_law_clock" "_law_clock" [59] .none (.ref 1496) (.str (S "law_bg0032_02") 2282)
theorem fnOk1497 : FnOk (KK w) 1497 fd1497 (inside (stP [59])) where
  at_ := by kernel_rfl
  body_ := rfl
  code := by kernel_rfl
  glob := rfl
  clos := rfl
  blt := rfl
  kind := by kernel_rfl
  co := by kernel_rfl
  cell := by decide +kernel
def fd1504 : FuncData := fnD "_law_end" "_law_end" [60] .none (.ref 1503) (.str (S "law_bg0032_02") 2282)
theorem fnOk1504 : FnOk (KK w) 1504 fd1504 (inside (stP [60])) where
  at_ := by kernel_rfl
  body_ := rfl
  code := by kernel_rfl
  glob := rfl
  clos := rfl
  blt := rfl
  kind := by kernel_rfl
  co := by kernel_rfl
  cell := by decide +kernel
def fd1511 : FuncData := fnD "_law_made" "_law_made" [61] .none (.ref 1510) (.str (S "law_bg0032_02") 2282)
theorem fnOk1511 : FnOk (KK w) 1511 fd1511 (inside (stP [61])) where
  at_ := by kernel_rfl
  body_ := rfl
  code := by kernel_rfl
  glob := rfl
  clos := rfl
  blt := rfl
  kind := by kernel_rfl
  co := by kernel_rfl
  cell := by decide +kernel
end

end
-- C0
section
set_option maxRecDepth 100000
abbrev aClock : Addr := 1497
abbrev fdClock : FuncData := fd1497
abbrev pathClock : List Nat := [59]
theorem fnOkClock {w : World} : FnOk (KK w) aClock fdClock (inside (stP pathClock)) := fnOk1497
abbrev aEnd : Addr := 1504
abbrev fdEnd : FuncData := fd1504
abbrev pathEnd : List Nat := [60]
theorem fnOkEnd {w : World} : FnOk (KK w) aEnd fdEnd (inside (stP pathEnd)) := fnOk1504
abbrev lifeV : Int := 9
abbrev endV : Int := 109
abbrev hcfV : Value := .int 2 2099

end
-- C1
section
set_option maxRecDepth 100000
set_option maxHeartbeats 400000
def cacheCls : List Addr := [917, 982, 1270, 1488]
theorem allC {P : Addr → Bool} (h : cacheCls.all P = true) {C : Addr} (hC : C ∈ cacheCls) : P C = true := List.all_eq_true.mp h C hC
section
variable {w : World}
theorem own_data {C : Addr} (hC : C ∈ cacheCls) : ownName (KK w) C (S "_Cache__data") = true := allC (P := fun C => ownName (KK w) C (S "_Cache__data")) (by kernel_rfl) hC
theorem own_cur {C : Addr} (hC : C ∈ cacheCls) : ownName (KK w) C (S "_Cache__currsize") = true := allC (P := fun C => ownName (KK w) C (S "_Cache__currsize")) (by kernel_rfl) hC
theorem own_max {C : Addr} (hC : C ∈ cacheCls) : ownName (KK w) C (S "_Cache__maxsize") = true := allC (P := fun C => ownName (KK w) C (S "_Cache__maxsize")) (by kernel_rfl) hC
theorem cls_size {C : Addr} (hC : C ∈ cacheCls) : clsName (KK w) C (S "_Cache__size") .none = true := allC (P := fun C => clsName (KK w) C (S "_Cache__size") .none) (by kernel_rfl) hC
theorem sets_data {C : Addr} (hC : C ∈ cacheCls) : setsName (KK w) C (S "_Cache__data") = true := allC (P := fun C => setsName (KK w) C (S "_Cache__data")) (by kernel_rfl) hC
theorem sets_cur {C : Addr} (hC : C ∈ cacheCls) : setsName (KK w) C (S "_Cache__currsize") = true := allC (P := fun C => setsName (KK w) C (S "_Cache__currsize")) (by kernel_rfl) hC
theorem sets_max {C : Addr} (hC : C ∈ cacheCls) : setsName (KK w) C (S "_Cache__maxsize") = true := allC (P := fun C => setsName (KK w) C (S "_Cache__maxsize")) (by kernel_rfl) hC

end
end
local macro_rules | `(tactic| walk_at "m_fact") => `(tactic| with_reducible exact own_data (by assumption))
section
set_option maxRecDepth 100000
set_option maxHeartbeats 400000
section
variable {w : World}
end
end
local macro_rules | `(tactic| walk_at "m_fact") => `(tactic| with_reducible exact own_cur (by assumption))
section
set_option maxRecDepth 100000
set_option maxHeartbeats 400000
section
variable {w : World}
end
end
local macro_rules | `(tactic| walk_at "m_fact") => `(tactic| with_reducible exact own_max (by assumption))
section
set_option maxRecDepth 100000
set_option maxHeartbeats 400000
section
variable {w : World}
end
end
local macro_rules | `(tactic| walk_at "m_fact") => `(tactic| with_reducible exact cls_size (by assumption))
section
set_option maxRecDepth 100000
set_option maxHeartbeats 400000
section
variable {w : World}
end
end
local macro_rules | `(tactic| walk_at "m_fact") => `(tactic| with_reducible exact sets_data (by assumption))
section
set_option maxRecDepth 100000
set_option maxHeartbeats 400000
section
variable {w : World}
end
end
local macro_rules | `(tactic| walk_at "m_fact") => `(tactic| with_reducible exact sets_cur (by assumption))
section
set_option maxRecDepth 100000
set_option maxHeartbeats 400000
section
variable {w : World}
end
end
local macro_rules | `(tactic| walk_at "m_fact") => `(tactic| with_reducible exact sets_max (by assumption))
section
set_option maxRecDepth 100000
set_option maxHeartbeats 400000
section
variable {w : World}

/-- the base class's three names, then what the class adds -/
abbrev baseN (dd : Addr) (n m : Int) (t u : Tok) (more : Names) : Names := (S "_Cache__data", .ref dd) :: (S "_Cache__currsize", .int n t) :: (S "_Cache__maxsize", .int m u) :: more

variable {A : Around} {E : Value → Shared → Prop} {B : Shared} {fs : List Env} {l : Cells} {s : Shared} {K : Type} [DecidableEq K] {knd : AnyKind pw w K} {R : Result → Shared → Prop} {n : Nat}
  {C x dx dd : Addr} {ns more : Names} {xs : List (K × Value × Value)} {key v : Value} {k : K} {sz mx : Int} {t u : Tok} {p : Value × Value}


theorem c784 (hC : C ∈ cacheCls) (T : Stat (KK w) B.heap) (r : Room (n + 3) fs A) (S₀ : St B fs ((x, instC C dx) :: (dx, idC (baseN dd sz mx t u more)) :: (dd, dictC knd B xs) :: l) s) (hk : knd.is B.heap k key)
    (h : ∀ s', St B fs ((x, instC C dx) :: (dx, idC (baseN dd sz mx t u more)) :: (dd, dictC knd B xs) :: l) s' → R (.ok (.ret (.bool (atK xs k).isSome))) s') :
    codeAny (model pw w) A (.call (.ref 784) ⟨[.ref x, key], []⟩) R s := by
  refine callS (binds := [(S "self", .ref x), (S "key", key)]) (names := [S "self", S "key"]) (locs := [(S "key", key), (S "self", .ref x)]) fnOk784 T S₀ r (BindsTo.of_eq (by kernel_rfl)) rfl rfl (by kernel_rfl) (by decide +kernel) (by kernel_rfl) fun L s' r₁ S₁ => ?_
  refine wpAny_execs_cons ?_
  walk_at "m_wk"
  refine inS (by assumption) (by walk_at "m_mem") r₁.u1 hk fun s₃ S₃ => ?_
  exact h _ (St.tail (St.pop (by assumption)))

theorem c763 (hC : C ∈ cacheCls) (T : Stat (KK w) B.heap) (r : Room (n + 3) fs A) (S₀ : St B fs ((x, instC C dx) :: (dx, idC (baseN dd sz mx t u more)) :: (dd, dictC knd B xs) :: l) s) (hk : knd.is B.heap k key) (hp : atK xs k = some p)
    (h : ∀ s', St B fs ((x, instC C dx) :: (dx, idC (baseN dd sz mx t u more)) :: (dd, dictC knd B xs) :: l) s' → R (.ok (.ret p.2)) s') :
    codeAny (model pw w) A (.call (.ref 763) ⟨[.ref x, key], []⟩) R s := by
  refine callS (binds := [(S "self", .ref x), (S "key", key)]) (names := [S "self", S "key"]) (locs := [(S "key", key), (S "self", .ref x)]) fnOk763 T S₀ r (BindsTo.of_eq (by kernel_rfl)) rfl rfl (by kernel_rfl) (by decide +kernel) (by kernel_rfl) fun L s' r₁ S₁ => ?_
  refine wpAny_execs_cons ?_
  refine wpAny_Try_except ?_
  walk_at "m_wk"
  refine subD ?_
  walk_at "m_wk"
  refine ⟨St.typeDict (by assumption) (by walk_at "m_mem"), ?_⟩
  refine getS (by assumption) (by walk_at "m_mem") r₁.u1 hk hp fun s₃ S₃ => ?_
  exact h _ (St.tail (St.pop (by assumption)))

theorem c777 (hC : C ∈ cacheCls) (T : Stat (KK w) B.heap) (r : Room (n + 3) fs A) (S₀ : St B fs ((x, instC C dx) :: (dx, idC (baseN dd sz mx t u more)) :: (dd, dictC knd B xs) :: l) s) (hns : S "_Cache__size" ∉ (baseN dd sz mx t u more).map (·.1)) (hml : more.length ≤ 50) (hsz : xs.length ≤ sizeLine) (hk : knd.is B.heap k key) (hp : atK xs k = some p)
    (h : ∀ s' t', St B fs ((x, instC C dx) :: (dx, idC (baseN dd (sz - 1) mx t' u more)) :: (dd, dictC knd B (delK xs k)) :: l) s' → R (.ok (.ret .none)) s') :
    codeAny (model pw w) A (.call (.ref 777) ⟨[.ref x, key], []⟩) R s := by
  refine callS (binds := [(S "self", .ref x), (S "key", key)]) (names := [S "self", S "key"]) (locs := [(S "key", key), (S "self", .ref x)]) fnOk777 T S₀ r (BindsTo.of_eq (by kernel_rfl)) rfl rfl (by kernel_rfl) (by decide +kernel) (by kernel_rfl) fun L s' r₁ S₁ => ?_
  refine wpAny_execs_cons ?_
  walk_at "m_wk"
  refine getCls T (by assumption) (by walk_at "m_mem") (by walk_at "m_mem") (cls_size hC) (fun s₂ S₂ => ?_) hns
  walk_at "m_wk"
  rw [if_pos (by rfl)]
  walk_at "m_wk"
  refine delS (by assumption) (by walk_at "m_updt") r₁.u1 hk hp (fun s₃ S₃ => ?_) hsz
  walk_at "m_wk"
  exact h _ _ (St.tail (St.pop (by assumption)))

/-- the key is there: its value is written -/
theorem c770_there (hC : C ∈ cacheCls) (T : Stat (KK w) B.heap) (r : Room (n + 3) fs A) (S₀ : St B fs ((x, instC C dx) :: (dx, idC (baseN dd sz mx t u more)) :: (dd, dictC knd B xs) :: l) s) (hns : S "_Cache__size" ∉ (baseN dd sz mx t u more).map (·.1)) (hml : more.length ≤ 50) (hsz : xs.length ≤ sizeLine) (hk : knd.is B.heap k key) (hp : atK xs k = some p) (hmx : 0 < mx)
    (h : ∀ s', St B fs ((x, instC C dx) :: (dx, idC (baseN dd sz mx t u more)) :: (dd, dictC knd B (putK xs k key v)) :: l) s' → R (.ok (.ret .none)) s') :
    codeAny (model pw w) A (.call (.ref 770) ⟨[.ref x, key, v], []⟩) R s := by
  refine callS (binds := [(S "self", .ref x), (S "key", key), (S "value", v)]) (names := [S "self", S "key", S "value"]) (locs := [(S "value", v), (S "key", key), (S "self", .ref x)]) fnOk770 T S₀ r (BindsTo.of_eq (by kernel_rfl)) rfl rfl (by kernel_rfl) (by decide +kernel) (by kernel_rfl) fun L s' r₁ S₁ => ?_
  refine wpAny_execs_cons ?_
  walk_at "m_wk"
  refine getCls T (by assumption) (by walk_at "m_mem") (by walk_at "m_mem") (cls_size hC) (fun s₂ S₂ => ?_) hns
  walk_at "m_wk"
  rw [if_pos (by rfl)]
  walk_at "m_wk"
  rw [if_neg (by simp; omega)]
  walk_at "m_wk"
  refine inS (by assumption) (by walk_at "m_mem") r₁.u1 hk fun s₃ S₃ => ?_
  walk_at "m_wk"
  rw [hp, if_pos (by rfl)]
  walk_at "m_wk"
  refine putS (by assumption) (by walk_at "m_updt") r₁.u1 hk (fun s₃ S₃ => ?_) hsz
  walk_at "m_wk"
  exact h _ (St.tail (St.pop (by assumption)))
end

end
-- C2
section
set_option maxRecDepth 100000
set_option maxHeartbeats 400000
section
variable {w : World} {A : Around} {E : Value → Shared → Prop} {B : Shared} {fs : List Env} {l : Cells} {s : Shared} {K : Type} [DecidableEq K] {knd : AnyKind pw w K} {R : Result → Shared → Prop} {n : Nat}
  {C x dx dd : Addr} {ns more : Names} {xs : List (K × Value × Value)} {key v : Value} {k : K} {sz mx : Int} {t u : Tok} {p : Value × Value}

/-- a new key, and there is room -/
theorem c770_new (hC : C ∈ cacheCls) (T : Stat (KK w) B.heap) (r : Room (n + 3) fs A) (S₀ : St B fs ((x, instC C dx) :: (dx, idC (baseN dd sz mx t u more)) :: (dd, dictC knd B xs) :: l) s) (hns : S "_Cache__size" ∉ (baseN dd sz mx t u more).map (·.1)) (hml : more.length ≤ 50) (hsz : xs.length ≤ sizeLine) (hk : knd.is B.heap k key) (hp : atK xs k = none) (hmx : sz < mx) (h0 : 0 ≤ sz)
    (h : ∀ s' t', St B fs ((x, instC C dx) :: (dx, idC (baseN dd (sz + 1) mx t' u more)) :: (dd, dictC knd B (putK xs k key v)) :: l) s' → R (.ok (.ret .none)) s') :
    codeAny (model pw w) A (.call (.ref 770) ⟨[.ref x, key, v], []⟩) R s := by
  refine callS (binds := [(S "self", .ref x), (S "key", key), (S "value", v)]) (names := [S "self", S "key", S "value"]) (locs := [(S "value", v), (S "key", key), (S "self", .ref x)]) fnOk770 T S₀ r (BindsTo.of_eq (by kernel_rfl)) rfl rfl (by kernel_rfl) (by decide +kernel) (by kernel_rfl) fun L s' r₁ S₁ => ?_
  refine wpAny_execs_cons ?_
  walk_at "m_wk"
  refine getCls T (by assumption) (by walk_at "m_mem") (by walk_at "m_mem") (cls_size hC) (fun s₂ S₂ => ?_) hns
  walk_at "m_wk"
  rw [if_pos (by rfl)]
  walk_at "m_wk"
  rw [if_neg (by simp; omega)]
  walk_at "m_wk"
  refine inS (by assumption) (by walk_at "m_mem") r₁.u1 hk fun s₃ S₃ => ?_
  walk_at "m_wk"
  rw [hp, if_neg (by decide)]
  walk_at "m_wk"
  refine whileNo ?_
  walk_at "m_wk"
  refine ⟨by simp; omega, ?_⟩
  walk_at "m_wk"
  refine putS (by assumption) (by walk_at "m_updt") r₁.u1 hk (fun s₃ S₃ => ?_) hsz
  walk_at "m_wk"
  exact h _ _ (St.tail (St.pop (by assumption)))

/-- what popitem of the class does to the cells, the cache full of sz things -/
def Pops (w : World) (B : Shared) (knd : AnyKind pw w K) (pf : Addr) (n : Nat) (C x dx dd : Addr) (sz mx : Int) (u : Tok) (more : Names) (xs xs' : List (K × Value × Value)) (ext ext' : Cells) : Prop :=
  ∀ (A : Around) (fs : List Env) (s : Shared) (q : Cells) (t : Tok) (R : Result → Shared → Prop), Room n fs A → St B fs ((x, instC C dx) :: (dx, idC (baseN dd sz mx t u more)) :: (dd, dictC knd B xs) :: (ext ++ q)) s →
    (∀ v s' t', St B fs ((x, instC C dx) :: (dx, idC (baseN dd (sz - 1) mx t' u more)) :: (dd, dictC knd B xs') :: (ext' ++ q)) s' → R (.ok (.ret v)) s') → codeAny (model pw w) A (.call (.ref pf) ⟨[.ref x], []⟩) R s

/-- a new key, and the cache is full: popitem makes room -/
theorem c770_full {pf : Addr} {xs' : List (K × Value × Value)} {ext ext' : Cells} (hC : C ∈ cacheCls) (T : Stat (KK w) B.heap) (r : Room (n + 3) fs A) (S₀ : St B fs ((x, instC C dx) :: (dx, idC (baseN dd sz mx t u more)) :: (dd, dictC knd B xs) :: (ext ++ l)) s)
    (hpop : Pops w B knd pf (n + 2) C x dx dd sz mx u more xs xs' ext ext') (hm : methName (KK w) C (S "popitem") pf = true) (hkp : keepIn (KK w) (.ref pf) = true)
    (hns : S "_Cache__size" ∉ (baseN dd sz mx t u more).map (·.1)) (hns2 : S "popitem" ∉ (baseN dd sz mx t u more).map (·.1)) (hml : more.length ≤ 50) (hsz : xs'.length ≤ sizeLine) (hk : knd.is B.heap k key) (hp : atK xs k = none) (hmx : sz = mx) (h0 : 0 < sz)
    (h : ∀ s' t', St B fs ((x, instC C dx) :: (dx, idC (baseN dd (sz - 1 + 1) mx t' u more)) :: (dd, dictC knd B (putK xs' k key v)) :: (ext' ++ l)) s' → R (.ok (.ret .none)) s') :
    codeAny (model pw w) A (.call (.ref 770) ⟨[.ref x, key, v], []⟩) R s := by
  refine callS (binds := [(S "self", .ref x), (S "key", key), (S "value", v)]) (names := [S "self", S "key", S "value"]) (locs := [(S "value", v), (S "key", key), (S "self", .ref x)]) fnOk770 T S₀ r (BindsTo.of_eq (by kernel_rfl)) rfl rfl (by kernel_rfl) (by decide +kernel) (by kernel_rfl) fun L s' r₁ S₁ => ?_
  refine wpAny_execs_cons ?_
  walk_at "m_wk"
  refine getCls T (by assumption) (by walk_at "m_mem") (by walk_at "m_mem") (cls_size hC) (fun s₂ S₂ => ?_) hns
  walk_at "m_wk"
  rw [if_pos (by rfl)]
  walk_at "m_wk"
  rw [if_neg (by simp; omega)]
  walk_at "m_wk"
  refine inS (by assumption) (by walk_at "m_mem") r₁.u1 hk fun s₃ S₃ => ?_
  walk_at "m_wk"
  rw [hp, if_neg (by decide)]
  walk_at "m_wk"
  refine whileOnce (fun s' => ∃ t', St B (fnEnv fd770 L 770 :: fs) ((L, nsC fd770.scope [(S "maxsize", .int mx u), (S "size", .none), (S "data", .ref dd), (S "value", v), (S "key", key), (S "self", .ref x)]) :: (x, instC C dx) :: (dx, idC (baseN dd (sz - 1) mx t' u more)) :: (dd, dictC knd B xs') :: (ext' ++ l)) s') ?_ ?_
  · walk_at "m_wk"
    refine ⟨by simp; omega, ?_⟩
    walk_at "m_wk"
    refine methodCall_KW ?_
    walk_at "m_wk"
    refine methFn T (by assumption) (by walk_at "m_mem") (by walk_at "m_mem") hm ?_ hns2
    refine callFn0 T (by assumption) hkp ?_
    refine wpAny_call ?_
    refine hpop _ _ _ _ _ _ r₁ (St.back (p := (x, instC C dx) :: (dx, idC (baseN dd sz mx t u more)) :: (dd, dictC knd B xs) :: ext) (q := l) (by assumption)) fun v s' t' S' => ?_
    walk_at "m_wk"
    exact ⟨rfl, t', St.front (p := (x, instC C dx) :: (dx, idC (baseN dd (sz - 1) mx t' u more)) :: (dd, dictC knd B xs') :: ext') (q := l) S'⟩
  rintro s' ⟨t', S'⟩
  walk_at "m_wk"
  refine ⟨by simp; omega, ?_⟩
  walk_at "m_wk"
  refine putS (by assumption) (by walk_at "m_updt") r₁.u1 hk (fun s₃ S₃ => ?_) hsz
  walk_at "m_wk"
  exact h _ _ (St.tail (St.pop (by assumption)))
end

end
-- CI
section
set_option maxRecDepth 100000
set_option maxHeartbeats 400000
section
variable {prog : Program} {M : Model} {A : Around} {E : Value → Shared → Prop} {s : Shared} {a b : Addr}
theorem isNot_same {Q : Value → Shared → Prop} (h : Q (.bool false) s) : wpAny M A (compareOp .IsNot (.ref a) (.ref a)) Q E s := by
  show wpAny M A (do return .bool (!(← isSame (.ref a) (.ref a)))) Q E s
  refine wpAny_bind ?_
  unfold isSame
  simp only [beq_self_eq_true, if_true]
  exact wpAny_pure (wpAny_pure h)
theorem is_same {Q : Value → Shared → Prop} (h : Q (.bool true) s) : wpAny M A (compareOp .Is (.ref a) (.ref a)) Q E s := by
  show wpAny M A (do return .bool (← isSame (.ref a) (.ref a))) Q E s
  refine wpAny_bind ?_
  unfold isSame
  simp only [beq_self_eq_true, if_true]
  exact wpAny_pure (wpAny_pure h)
end
end
local macro_rules | `(tactic| walk_at "m_wk1") => `(tactic| ((with_reducible show wpAny _ _ (eval (Expr.Name (Str.ofString "Cache") _) _) _ _ _); refine ldG (v := .ref 865) (by assumption) (by assumption) (by kernel_rfl) ?_))
section
set_option maxRecDepth 100000
set_option maxHeartbeats 400000
section
variable {w : World} {A : Around} {E : Value → Shared → Prop} {B : Shared} {fs : List Env} {l : Cells} {s : Shared} {K : Type} [DecidableEq K] {knd : AnyKind pw w K} {R : Result → Shared → Prop} {n : Nat}
  {C x dx dd : Addr} {mx : Int} {u : Tok}
theorem stat_getsizeof {C : Addr} (hC : C ∈ cacheCls) : statName (KK w) C (S "getsizeof") 859 = true := allC (P := fun C => statName (KK w) C (S "getsizeof") 859) (by kernel_rfl) hC
theorem c749 (knd : AnyKind pw w K) (hC : C ∈ cacheCls) (T : Stat (KK w) B.heap) (r : Room (n + 3) fs A) (S₀ : St B fs ((x, instC C dx) :: (dx, idC []) :: l) s) (hmx : 0 ≤ mx)
    (h : ∀ dd s' t, St B fs ((x, instC C dx) :: (dx, idC (baseN dd 0 mx t u [])) :: (dd, dictC knd B []) :: l) s' → R (.ok (.ret .none)) s') :
    codeAny (model pw w) A (.call (.ref 749) ⟨[.ref x, .int mx u, .none], []⟩) R s := by
  refine callS (binds := [(S "self", .ref x), (S "maxsize", .int mx u), (S "getsizeof", .none)]) (names := [S "self", S "maxsize", S "getsizeof"]) (locs := [(S "getsizeof", .none), (S "maxsize", .int mx u), (S "self", .ref x)]) fnOk749 T S₀ r (bndT T S₀ [.none] rfl (by kernel_rfl) (by rfl) (by kernel_rfl)) rfl rfl (by kernel_rfl) (by decide +kernel) (by kernel_rfl) fun L s' r₁ S₁ => ?_
  refine wpAny_execs_cons ?_
  walk_at "m_wk"
  rw [if_neg (by simp; omega)]
  walk_at "m_wk"
  rw [if_neg (by decide)]
  walk_at "m_wk"
  refine getStat T (by assumption) (by walk_at "m_mem") (by walk_at "m_mem") (stat_getsizeof hC) (fun s' S' => ?_)
  walk_at "m_wk"
  refine getStatCls (f := 859) T (by assumption) (by kernel_rfl) fun s' S' => ?_
  refine isNot_same ?_
  walk_at "m_wk"
  rw [if_neg (by decide)]
  walk_at "m_wk"
  refine dictNil knd (by assumption) fun d s' S' => ?_
  walk_at "m_wk"
  rename_i S'
  have S' := S'.reId (xs' := baseN d 0 mx _ u []) (by walk_at "m_updt") (by walk_at "m_pm")
  exact h _ _ _ (St.tail (St.pop (S'.perm (l' := (L, _) :: (x, _) :: (dx, _) :: (d, _) :: l) (by walk_at "m_pm"))))
end

end
-- F1
section
set_option maxRecDepth 100000
set_option maxHeartbeats 400000
end
local macro_rules | `(tactic| walk_at "m_wk1") => `(tactic| ((with_reducible show wpAny _ _ (eval (Expr.Name (Str.ofString "Cache") _) _) _ _ _); refine ldG (v := .ref 865) (by assumption) (by assumption) (by kernel_rfl) ?_))
section
set_option maxRecDepth 100000
set_option maxHeartbeats 400000
section
variable {w : World} {A : Around} {E : Value → Shared → Prop} {B : Shared} {fs : List Env} {l : Cells} {s : Shared} {K : Type} [DecidableEq K] {knd : AnyKind pw w K} {R : Result → Shared → Prop} {n : Nat}
  {C x dx dd od : Addr} {xs os : List (K × Value × Value)} {key v : Value} {k : K} {sz mx : Int} {t u : Tok} {p q : Value × Value}

abbrev fifoN (dd od : Addr) (sz mx : Int) (t u : Tok) : Names := baseN dd sz mx t u [(S "_FIFOCache__order", .ref od)]
abbrev fifoC (w : World) {K : Type} [DecidableEq K] (knd : AnyKind pw w K) (B : Shared) (x dx dd od : Addr) (sz mx : Int) (t u : Tok) (xs os : List (K × Value × Value)) (l : Cells) : Cells :=
  (x, instC 917 dx) :: (dx, idC (fifoN dd od sz mx t u)) :: (dd, dictC knd B xs) :: (od, dictC knd B os) :: l
theorem c917 : 917 ∈ cacheCls := by decide

theorem c900 (T : Stat (KK w) B.heap) (r : Room (n + 4) fs A) (S₀ : St B fs (fifoC w knd B x dx dd od sz mx t u xs os l) s) (hsz : xs.length ≤ sizeLine) (hso : os.length ≤ sizeLine) (hk : knd.is B.heap k key) (hp : atK xs k = some p) (hq : atK os k = some q)
    (h : ∀ s' t', St B fs (fifoC w knd B x dx dd od (sz - 1) mx t' u (delK xs k) (delK os k) l) s' → R (.ok (.ret .none)) s') :
    codeAny (model pw w) A (.call (.ref 900) ⟨[.ref x, key], []⟩) R s := by
  refine callS (binds := [(S "self", .ref x), (S "key", key), (S "cache_delitem", .ref 777)]) (names := [S "self", S "key", S "cache_delitem"]) (locs := [(S "cache_delitem", .ref 777), (S "key", key), (S "self", .ref x)]) fnOk900 T S₀ r
    (bndT T S₀ [.ref 777] rfl (by kernel_rfl) (by rfl) (by kernel_rfl)) rfl rfl (by kernel_rfl) (by decide +kernel) (by kernel_rfl) fun L s' r₁ S₁ => ?_
  refine wpAny_execs_cons ?_
  walk_at "m_wk"
  refine Call_ ?_
  walk_at "m_wk"
  refine callFn T (by kernel_rfl) ?_
  refine args_cons ?_
  walk_at "m_wk"
  refine args_cons ?_
  walk_at "m_wk"
  refine args_nil ⟨⟨_, _, by assumption⟩, wpAny_call ?_⟩
  refine c777 c917 T r₁ (St.back (p := [_, _, _]) (by assumption)) (by walk_at "m_nin") (by simp) hsz hk hp fun s' t' S' => ?_
  have S' := St.front (p := [_, _, _]) S'
  simp only [List.cons_append, List.nil_append] at S'
  walk_at "m_wk"
  refine delS (by assumption) (by walk_at "m_updt") r₁.u1 hk hq (fun s₃ S₃ => ?_) hso
  walk_at "m_wk"
  exact h _ _ (St.tail (St.pop (by assumption)))

theorem c907 {k : K} {kv ov : Value} {os' : List (K × Value × Value)} (T : Stat (KK w) B.heap) (r : Room (n + 6) fs A) (S₀ : St B fs (fifoC w knd B x dx dd od sz mx t u xs os l) s) (hsz : xs.length ≤ sizeLine) (hso : os.length ≤ sizeLine) (ho : os = (k, kv, ov) :: os') (hp : atK xs k = some p)
    (h : ∀ a s' t', St B fs ((a, objC { cls := .type "tuple", data := .seq #[kv, p.2] }) :: fifoC w knd B x dx dd od (sz - 1) mx t' u (delK xs k) (delK os k) l) s' → R (.ok (.ret (.ref a))) s') :
    codeAny (model pw w) A (.call (.ref 907) ⟨[.ref x], []⟩) R s := by
  refine callS (binds := [(S "self", .ref x)]) (names := [S "self"]) (locs := [(S "self", .ref x)]) fnOk907 T S₀ r
    (BindsTo.of_eq (by kernel_rfl)) rfl rfl (by kernel_rfl) (by decide +kernel) (by kernel_rfl) fun L s' r₁ S₁ => ?_
  have hkey : knd.is B.heap k kv := S₁.keys (d := od) (by walk_at "m_mem") (k, kv, ov) (by rw [ho]; exact List.mem_cons_self)
  have hq : atK os k = some (kv, ov) := by rw [ho]; simp [atK]
  refine wpAny_execs_cons ?_
  refine wpAny_Try_except ?_
  walk_at "m_wk"
  refine Call_ ?_
  refine ldB T (by assumption) (by kernel_rfl) PyProof.Rows.Boot.«next» ?_
  refine PyProof.Rows.callWith_builtin1 ?_
  refine args_cons ?_
  refine Call_ ?_
  refine ldB T (by assumption) (by kernel_rfl) PyProof.Rows.Boot.«iter» ?_
  refine PyProof.Rows.callWith_builtin1 ?_
  refine args_cons ?_
  walk_at "m_wk"
  refine args_nil ?_
  refine iterS (by assumption) (by walk_at "m_mem") fun I s' ep S' he => ?_
  refine args_nil ?_
  refine nextS (by assumption) (by walk_at "m_mem") (by walk_at "m_updt") he (by rw [ho]; rfl) fun s' S' he => ?_
  have S' := S'.tail
  walk_at "m_wk"
  refine methodCall_KW ?_
  walk_at "m_wk"
  refine methCls (f := 763) T (by assumption) (by kernel_rfl) fun s' S' => ?_
  refine callFn T (by kernel_rfl) ?_
  refine args_cons ?_
  walk_at "m_wk"
  refine args_cons ?_
  walk_at "m_wk"
  refine args_nil ⟨⟨_, _, by assumption⟩, wpAny_call ?_⟩
  refine c763 c917 T (r₁.less (m := n + 3) (by omega)) (St.back (p := [_, _, _]) (by assumption)) hkey hp fun s' S' => ?_
  have S' := St.front (p := [_, _, _]) S'
  simp only [List.cons_append, List.nil_append] at S'
  walk_at "m_wk"
  refine delOwn (f := 900) T (by assumption) (by walk_at "m_mem") (by walk_at "m_mem") (by kernel_rfl) (by kernel_rfl) ?_
  refine wpAny_call ?_
  refine c900 T (r₁.less (m := n + 4) (by omega)) (St.back (p := [_, _, _, _]) (by assumption)) hsz hso hkey hp hq fun s' t' S' => ?_
  have S' := St.front (p := [_, _, _, _]) S'
  simp only [List.cons_append, List.nil_append] at S'
  walk_at "m_wk"
  refine wpAny_Tuple ?_
  refine wpAny_items_cons ?_
  walk_at "m_wk"
  refine wpAny_items_cons ?_
  walk_at "m_wk"
  refine wpAny_items_nil ?_
  exact ⟨by rw [sizeLine_eq]; simp, h _ _ _ (St.push (c := objC { cls := .type "tuple", data := .seq #[kv, p.2] }) (St.tail (St.pop (by assumption))) rfl _)⟩

/-- setitem of FIFO, the key not there yet, and there is room -/
theorem c892_new (T : Stat (KK w) B.heap) (r : Room (n + 5) fs A) (S₀ : St B fs (fifoC w knd B x dx dd od sz mx t u xs os l) s) (hsz : xs.length ≤ sizeLine) (hso : os.length ≤ sizeLine) (hk : knd.is B.heap k key) (hp : atK xs k = none) (hq : atK os k = none) (hmx : sz < mx) (h0 : 0 ≤ sz)
    (h : ∀ s' t', St B fs (fifoC w knd B x dx dd od (sz + 1) mx t' u (putK xs k key v) (putK os k key .none) l) s' → R (.ok (.ret .none)) s') :
    codeAny (model pw w) A (.call (.ref 892) ⟨[.ref x, key, v], []⟩) R s := by
  refine callS (binds := [(S "self", .ref x), (S "key", key), (S "value", v), (S "cache_setitem", .ref 770)]) (names := [S "self", S "key", S "value", S "cache_setitem"]) (locs := [(S "cache_setitem", .ref 770), (S "value", v), (S "key", key), (S "self", .ref x)]) fnOk892 T S₀ r
    (bndT T S₀ [.ref 770] rfl (by kernel_rfl) (by rfl) (by kernel_rfl)) rfl rfl (by kernel_rfl) (by decide +kernel) (by kernel_rfl) fun L s' r₁ S₁ => ?_
  refine wpAny_execs_cons ?_
  walk_at "m_wk"
  refine Call_ ?_
  walk_at "m_wk"
  refine callFn T (by kernel_rfl) ?_
  refine args_cons ?_
  walk_at "m_wk"
  refine args_cons ?_
  walk_at "m_wk"
  refine args_cons ?_
  walk_at "m_wk"
  refine args_nil ⟨⟨_, _, by assumption⟩, wpAny_call ?_⟩
  refine c770_new c917 T (r₁.less (m := n + 3) (by omega)) (St.back (p := [_, _, _]) (by assumption)) (by walk_at "m_nin") (by simp) hsz hk hp hmx h0 fun s' t' S' => ?_
  have S' := St.front (p := [_, _, _]) S'
  simp only [List.cons_append, List.nil_append] at S'
  walk_at "m_wk"
  refine inS (by assumption) (by walk_at "m_mem") r₁.u1 hk fun s₃ S₃ => ?_
  walk_at "m_wk"
  rw [hq, if_neg (by decide)]
  walk_at "m_wk"
  refine putS (by assumption) (by walk_at "m_updt") r₁.u1 hk (fun s₃ S₃ => ?_) hso
  walk_at "m_wk"
  exact h _ _ (St.tail (St.pop (by assumption)))

theorem pops907 {k : K} {kv ov : Value} {os' : List (K × Value × Value)} (T : Stat (KK w) B.heap) (hsz : xs.length ≤ sizeLine) (hso : os.length ≤ sizeLine) (ho : os = (k, kv, ov) :: os') (hp : atK xs k = some p) :
    Pops w B knd 907 (n + 6) 917 x dx dd sz mx u [(S "_FIFOCache__order", .ref od)] xs (delK xs k) [(od, dictC knd B os)] [(od, dictC knd B (delK os k))] :=
  fun _ _ _ _ _ _ r S₀ h => c907 T r S₀ hsz hso ho hp fun _ _ _ S' => h _ _ _ S'.tail
end

end
-- F2
section
set_option maxRecDepth 100000
set_option maxHeartbeats 400000
section
variable {w : World} {A : Around} {E : Value → Shared → Prop} {B : Shared} {fs : List Env} {l : Cells} {s : Shared} {K : Type} [DecidableEq K] {knd : AnyKind pw w K} {R : Result → Shared → Prop} {n : Nat}
  {C x dx dd od : Addr} {xs os : List (K × Value × Value)} {key v : Value} {k : K} {sz mx : Int} {t u : Tok} {p q : Value × Value}
/-- setitem of FIFO, a new key into a full cache -/
theorem c892_full {k0 : K} {kv ov : Value} {os' : List (K × Value × Value)} (T : Stat (KK w) B.heap) (r : Room (n + 12) fs A) (S₀ : St B fs (fifoC w knd B x dx dd od sz mx t u xs os l) s) (hsz : xs.length ≤ sizeLine) (hso : os.length ≤ sizeLine)
    (ho : os = (k0, kv, ov) :: os') (hp0 : atK xs k0 = some p) (hd1 : (delK xs k0).length ≤ sizeLine) (hd2 : (delK os k0).length ≤ sizeLine) (hk : knd.is B.heap k key) (hp : atK xs k = none) (hq : atK (delK os k0) k = none) (hmx : sz = mx) (h0 : 0 < sz)
    (h : ∀ s' t', St B fs (fifoC w knd B x dx dd od (sz - 1 + 1) mx t' u (putK (delK xs k0) k key v) (putK (delK os k0) k key .none) l) s' → R (.ok (.ret .none)) s') :
    codeAny (model pw w) A (.call (.ref 892) ⟨[.ref x, key, v], []⟩) R s := by
  refine callS (binds := [(S "self", .ref x), (S "key", key), (S "value", v), (S "cache_setitem", .ref 770)]) (names := [S "self", S "key", S "value", S "cache_setitem"]) (locs := [(S "cache_setitem", .ref 770), (S "value", v), (S "key", key), (S "self", .ref x)]) fnOk892 T S₀ r
    (bndT T S₀ [.ref 770] rfl (by kernel_rfl) (by rfl) (by kernel_rfl)) rfl rfl (by kernel_rfl) (by decide +kernel) (by kernel_rfl) fun L s' r₁ S₁ => ?_
  refine wpAny_execs_cons ?_
  walk_at "m_wk"
  refine Call_ ?_
  walk_at "m_wk"
  refine callFn T (by kernel_rfl) ?_
  refine args_cons ?_
  walk_at "m_wk"
  refine args_cons ?_
  walk_at "m_wk"
  refine args_cons ?_
  walk_at "m_wk"
  refine args_nil ⟨⟨_, _, by assumption⟩, wpAny_call ?_⟩
  refine c770_full (n := n + 4) (pf := 907) (ext := [(od, dictC knd B os)]) (ext' := [(od, dictC knd B (delK os k0))]) c917 T (r₁.less (m := n + 7) (by omega)) (St.back (p := [_, _, _, _]) (by assumption))
    (pops907 T hsz hso ho hp0) (by kernel_rfl) (by kernel_rfl) (by walk_at "m_nin") (by walk_at "m_nin") (by simp) hd1 hk hp hmx h0 fun s' t' S' => ?_
  have S' := St.front (p := [_, _, _, _]) S'
  simp only [List.cons_append, List.nil_append] at S'
  walk_at "m_wk"
  refine inS (by assumption) (by walk_at "m_mem") r₁.u1 hk fun s₃ S₃ => ?_
  walk_at "m_wk"
  rw [hq, if_neg (by decide)]
  walk_at "m_wk"
  refine putS (by assumption) (by walk_at "m_updt") r₁.u1 hk (fun s₃ S₃ => ?_) hd2
  walk_at "m_wk"
  exact h _ _ (St.tail (St.pop (by assumption)))
end

end
-- FI
section
set_option maxRecDepth 100000
set_option maxHeartbeats 400000
section
variable {w : World} {A : Around} {E : Value → Shared → Prop} {B : Shared} {fs : List Env} {l : Cells} {s : Shared} {K : Type} [DecidableEq K] {knd : AnyKind pw w K} {R : Result → Shared → Prop} {n : Nat}
  {C x dx dd od : Addr} {mx : Int} {u : Tok}
theorem c884 (knd : AnyKind pw w K) (T : Stat (KK w) B.heap) (r : Room (n + 5) fs A) (S₀ : St B fs ((x, instC 917 dx) :: (dx, idC []) :: l) s) (hmx : 0 ≤ mx)
    (h : ∀ dd od s' t, St B fs (fifoC w knd B x dx dd od 0 mx t u [] [] l) s' → R (.ok (.ret .none)) s') :
    codeAny (model pw w) A (.call (.ref 884) ⟨[.ref x, .int mx u], []⟩) R s := by
  refine callS (binds := [(S "self", .ref x), (S "maxsize", .int mx u), (S "getsizeof", .none)]) (names := [S "self", S "maxsize", S "getsizeof"]) (locs := [(S "getsizeof", .none), (S "maxsize", .int mx u), (S "self", .ref x)]) fnOk884 T S₀ r (bndT T S₀ [.none] rfl (by kernel_rfl) (by rfl) (by kernel_rfl)) rfl rfl (by kernel_rfl) (by decide +kernel) (by kernel_rfl) fun L s' r₁ S₁ => ?_
  refine wpAny_execs_cons ?_
  walk_at "m_wk"
  refine methodCall_KW ?_
  walk_at "m_wk"
  refine methCls (f := 749) T (by assumption) (by kernel_rfl) fun s' S' => ?_
  refine callFn T (by kernel_rfl) ?_
  refine args_cons ?_
  walk_at "m_wk"
  refine args_cons ?_
  walk_at "m_wk"
  refine args_cons ?_
  walk_at "m_wk"
  refine args_nil ⟨⟨_, _, by assumption⟩, wpAny_call ?_⟩
  refine c749 knd c917 T (r₁.less (m := n + 3) (by omega)) (St.back (p := [_, _]) (by assumption)) hmx fun dd s' t S' => ?_
  have S' := St.front (p := [_, _, _]) S'
  simp only [List.cons_append, List.nil_append] at S'
  walk_at "m_wk"
  refine dictNil knd (by assumption) fun d s' S' => ?_
  walk_at "m_wk"
  rename_i S'
  have S' := S'.reId (xs' := fifoN dd d 0 mx _ u) (by walk_at "m_updt") (by walk_at "m_pm")
  exact h _ _ _ _ (St.tail (St.pop (S'.perm (l' := (L, _) :: fifoC w knd B x dx dd d 0 mx _ u [] [] l) (by walk_at "m_pm"))))
end

end
-- LR1
section
set_option maxRecDepth 100000
set_option maxHeartbeats 400000
section
variable {w : World} {A : Around} {E : Value → Shared → Prop} {B : Shared} {fs : List Env} {l : Cells} {s : Shared} {K : Type} [DecidableEq K] {knd : AnyKind pw w K} {R : Result → Shared → Prop} {n : Nat}
  {C x dx dd od : Addr} {xs os : List (K × Value × Value)} {key v : Value} {k : K} {sz mx : Int} {t u : Tok} {p q : Value × Value}

abbrev lruN (dd od : Addr) (sz mx : Int) (t u : Tok) : Names := baseN dd sz mx t u [(S "_LRUCache__order", .ref od)]
abbrev lruC (w : World) {K : Type} [DecidableEq K] (knd : AnyKind pw w K) (B : Shared) (x dx dd od : Addr) (sz mx : Int) (t u : Tok) (xs os : List (K × Value × Value)) (l : Cells) : Cells :=
  (x, instC 982 dx) :: (dx, idC (lruN dd od sz mx t u)) :: (dd, dictC knd B xs) :: (od, dictC knd B os) :: l
theorem c982 : 982 ∈ cacheCls := by decide

theorem c958 (T : Stat (KK w) B.heap) (r : Room (n + 4) fs A) (S₀ : St B fs (lruC w knd B x dx dd od sz mx t u xs os l) s) (hsz : xs.length ≤ sizeLine) (hso : os.length ≤ sizeLine) (hk : knd.is B.heap k key) (hp : atK xs k = some p) (hq : atK os k = some q)
    (h : ∀ s' t', St B fs (lruC w knd B x dx dd od (sz - 1) mx t' u (delK xs k) (delK os k) l) s' → R (.ok (.ret .none)) s') :
    codeAny (model pw w) A (.call (.ref 958) ⟨[.ref x, key], []⟩) R s := by
  refine callS (binds := [(S "self", .ref x), (S "key", key), (S "cache_delitem", .ref 777)]) (names := [S "self", S "key", S "cache_delitem"]) (locs := [(S "cache_delitem", .ref 777), (S "key", key), (S "self", .ref x)]) fnOk958 T S₀ r
    (bndT T S₀ [.ref 777] rfl (by kernel_rfl) (by rfl) (by kernel_rfl)) rfl rfl (by kernel_rfl) (by decide +kernel) (by kernel_rfl) fun L s' r₁ S₁ => ?_
  refine wpAny_execs_cons ?_
  walk_at "m_wk"
  refine Call_ ?_
  walk_at "m_wk"
  refine callFn T (by kernel_rfl) ?_
  refine args_cons ?_
  walk_at "m_wk"
  refine args_cons ?_
  walk_at "m_wk"
  refine args_nil ⟨⟨_, _, by assumption⟩, wpAny_call ?_⟩
  refine c777 c982 T r₁ (St.back (p := [_, _, _]) (by assumption)) (by walk_at "m_nin") (by simp) hsz hk hp fun s' t' S' => ?_
  have S' := St.front (p := [_, _, _]) S'
  simp only [List.cons_append, List.nil_append] at S'
  walk_at "m_wk"
  refine delS (by assumption) (by walk_at "m_updt") r₁.u1 hk hq (fun s₃ S₃ => ?_) hso
  walk_at "m_wk"
  exact h _ _ (St.tail (St.pop (by assumption)))

theorem c965 {k : K} {kv ov : Value} {os' : List (K × Value × Value)} (T : Stat (KK w) B.heap) (r : Room (n + 6) fs A) (S₀ : St B fs (lruC w knd B x dx dd od sz mx t u xs os l) s) (hsz : xs.length ≤ sizeLine) (hso : os.length ≤ sizeLine) (ho : os = (k, kv, ov) :: os') (hp : atK xs k = some p)
    (h : ∀ a s' t', St B fs ((a, objC { cls := .type "tuple", data := .seq #[kv, p.2] }) :: lruC w knd B x dx dd od (sz - 1) mx t' u (delK xs k) (delK os k) l) s' → R (.ok (.ret (.ref a))) s') :
    codeAny (model pw w) A (.call (.ref 965) ⟨[.ref x], []⟩) R s := by
  refine callS (binds := [(S "self", .ref x)]) (names := [S "self"]) (locs := [(S "self", .ref x)]) fnOk965 T S₀ r
    (BindsTo.of_eq (by kernel_rfl)) rfl rfl (by kernel_rfl) (by decide +kernel) (by kernel_rfl) fun L s' r₁ S₁ => ?_
  have hkey : knd.is B.heap k kv := S₁.keys (d := od) (by walk_at "m_mem") (k, kv, ov) (by rw [ho]; exact List.mem_cons_self)
  have hq : atK os k = some (kv, ov) := by rw [ho]; simp [atK]
  refine wpAny_execs_cons ?_
  refine wpAny_Try_except ?_
  walk_at "m_wk"
  refine Call_ ?_
  refine ldB T (by assumption) (by kernel_rfl) PyProof.Rows.Boot.«next» ?_
  refine PyProof.Rows.callWith_builtin1 ?_
  refine args_cons ?_
  refine Call_ ?_
  refine ldB T (by assumption) (by kernel_rfl) PyProof.Rows.Boot.«iter» ?_
  refine PyProof.Rows.callWith_builtin1 ?_
  refine args_cons ?_
  walk_at "m_wk"
  refine args_nil ?_
  refine iterS (by assumption) (by walk_at "m_mem") fun I s' ep S' he => ?_
  refine args_nil ?_
  refine nextS (by assumption) (by walk_at "m_mem") (by walk_at "m_updt") he (by rw [ho]; rfl) fun s' S' he => ?_
  have S' := S'.tail
  walk_at "m_wk"
  refine methodCall_KW ?_
  walk_at "m_wk"
  refine methCls (f := 763) T (by assumption) (by kernel_rfl) fun s' S' => ?_
  refine callFn T (by kernel_rfl) ?_
  refine args_cons ?_
  walk_at "m_wk"
  refine args_cons ?_
  walk_at "m_wk"
  refine args_nil ⟨⟨_, _, by assumption⟩, wpAny_call ?_⟩
  refine c763 c982 T (r₁.less (m := n + 3) (by omega)) (St.back (p := [_, _, _]) (by assumption)) hkey hp fun s' S' => ?_
  have S' := St.front (p := [_, _, _]) S'
  simp only [List.cons_append, List.nil_append] at S'
  walk_at "m_wk"
  refine delOwn (f := 958) T (by assumption) (by walk_at "m_mem") (by walk_at "m_mem") (by kernel_rfl) (by kernel_rfl) ?_
  refine wpAny_call ?_
  refine c958 T (r₁.less (m := n + 4) (by omega)) (St.back (p := [_, _, _, _]) (by assumption)) hsz hso hkey hp hq fun s' t' S' => ?_
  have S' := St.front (p := [_, _, _, _]) S'
  simp only [List.cons_append, List.nil_append] at S'
  walk_at "m_wk"
  refine wpAny_Tuple ?_
  refine wpAny_items_cons ?_
  walk_at "m_wk"
  refine wpAny_items_cons ?_
  walk_at "m_wk"
  refine wpAny_items_nil ?_
  exact ⟨by rw [sizeLine_eq]; simp, h _ _ _ (St.push (c := objC { cls := .type "tuple", data := .seq #[kv, p.2] }) (St.tail (St.pop (by assumption))) rfl _)⟩

theorem pops965 {k : K} {kv ov : Value} {os' : List (K × Value × Value)} (T : Stat (KK w) B.heap) (hsz : xs.length ≤ sizeLine) (hso : os.length ≤ sizeLine) (ho : os = (k, kv, ov) :: os') (hp : atK xs k = some p) :
    Pops w B knd 965 (n + 6) 982 x dx dd sz mx u [(S "_LRUCache__order", .ref od)] xs (delK xs k) [(od, dictC knd B os)] [(od, dictC knd B (delK os k))] :=
  fun _ _ _ _ _ _ r S₀ h => c965 T r S₀ hsz hso ho hp fun _ _ _ S' => h _ _ _ S'.tail
theorem c934 (knd : AnyKind pw w K) (T : Stat (KK w) B.heap) (r : Room (n + 5) fs A) (S₀ : St B fs ((x, instC 982 dx) :: (dx, idC []) :: l) s) (hmx : 0 ≤ mx)
    (h : ∀ dd od s' t, St B fs (lruC w knd B x dx dd od 0 mx t u [] [] l) s' → R (.ok (.ret .none)) s') :
    codeAny (model pw w) A (.call (.ref 934) ⟨[.ref x, .int mx u], []⟩) R s := by
  refine callS (binds := [(S "self", .ref x), (S "maxsize", .int mx u), (S "getsizeof", .none)]) (names := [S "self", S "maxsize", S "getsizeof"]) (locs := [(S "getsizeof", .none), (S "maxsize", .int mx u), (S "self", .ref x)]) fnOk934 T S₀ r (bndT T S₀ [.none] rfl (by kernel_rfl) (by rfl) (by kernel_rfl)) rfl rfl (by kernel_rfl) (by decide +kernel) (by kernel_rfl) fun L s' r₁ S₁ => ?_
  refine wpAny_execs_cons ?_
  walk_at "m_wk"
  refine methodCall_KW ?_
  walk_at "m_wk"
  refine methCls (f := 749) T (by assumption) (by kernel_rfl) fun s' S' => ?_
  refine callFn T (by kernel_rfl) ?_
  refine args_cons ?_
  walk_at "m_wk"
  refine args_cons ?_
  walk_at "m_wk"
  refine args_cons ?_
  walk_at "m_wk"
  refine args_nil ⟨⟨_, _, by assumption⟩, wpAny_call ?_⟩
  refine c749 knd c982 T (r₁.less (m := n + 3) (by omega)) (St.back (p := [_, _]) (by assumption)) hmx fun dd s' t S' => ?_
  have S' := St.front (p := [_, _, _]) S'
  simp only [List.cons_append, List.nil_append] at S'
  walk_at "m_wk"
  refine dictNil knd (by assumption) fun d s' S' => ?_
  walk_at "m_wk"
  rename_i S'
  have S' := S'.reId (xs' := lruN dd d 0 mx _ u) (by walk_at "m_updt") (by walk_at "m_pm")
  exact h _ _ _ _ (St.tail (St.pop (S'.perm (l' := (L, _) :: lruC w knd B x dx dd d 0 mx _ u [] [] l) (by walk_at "m_pm"))))
end

end
-- LR2
section
set_option maxRecDepth 100000
set_option maxHeartbeats 400000
theorem ke_exc : isSubtype (.type "KeyError") (.type "BaseException") = pure true := by rw [isSubtype_type]; kernel_rfl
theorem ke_nt : isSubtype (.type ((Manifest.find? "KeyError").elim "type" fun y => y.metatype)) (.type "tuple") = pure false := by rw [isSubtype_type]; kernel_rfl
theorem ke_sub : isSubtype (.type "KeyError") (.type "KeyError") = pure true := by rw [isSubtype_type]; kernel_rfl
section
variable {w : World} {A : Around} {E : Value → Shared → Prop} {B : Shared} {fs : List Env} {l : Cells} {s : Shared} {K : Type} [DecidableEq K] {knd : AnyKind pw w K} {R : Result → Shared → Prop} {n : Nat}
  {C x dx dd od : Addr} {xs os : List (K × Value × Value)} {key v : Value} {k : K} {sz mx : Int} {t u : Tok} {p q : Value × Value}
/-- touch, the key is there -/
theorem c979_there (T : Stat (KK w) B.heap) (r : Room (n + 3) fs A) (S₀ : St B fs (lruC w knd B x dx dd od sz mx t u xs os l) s) (hso : os.length ≤ sizeLine) (hso' : (delK os k).length ≤ sizeLine) (hk : knd.is B.heap k key) (hq : atK os k = some q)
    (h : ∀ s', St B fs (lruC w knd B x dx dd od sz mx t u xs (putK (delK os k) k key q.2) l) s' → R (.ok (.ret .none)) s') :
    codeAny (model pw w) A (.call (.ref 979) ⟨[.ref x, key], []⟩) R s := by
  refine callS (binds := [(S "self", .ref x), (S "key", key)]) (names := [S "self", S "key"]) (locs := [(S "key", key), (S "self", .ref x)]) fnOk979 T S₀ r
    (BindsTo.of_eq (by kernel_rfl)) rfl rfl (by kernel_rfl) (by decide +kernel) (by kernel_rfl) fun L s' r₁ S₁ => ?_
  refine wpAny_execs_cons ?_
  refine wpAny_Try_except ?_
  walk_at "m_wk"
  refine methodCall_KW ?_
  walk_at "m_wk"
  refine dictPopM (by assumption) (by walk_at "m_mem") ?_
  refine callB ?_
  refine args_cons ?_
  walk_at "m_wk"
  refine args_nil ?_
  refine popS (by assumption) (by walk_at "m_updt") r₁.u1 hk hq (fun s₄ S₄ => ?_) hso
  walk_at "m_wk"
  refine putS (by assumption) (by walk_at "m_updt") r₁.u1 hk (fun s₅ S₅ => ?_) hso'
  walk_at "m_wk"
  exact h _ (St.tail (St.pop (by assumption)))
/-- touch, the key is not there -/
theorem c979_new (T : Stat (KK w) B.heap) (r : Room (n + 3) fs A) (S₀ : St B fs (lruC w knd B x dx dd od sz mx t u xs os l) s) (hso : os.length ≤ sizeLine) (hk : knd.is B.heap k key) (hq : atK os k = none)
    (h : ∀ s', St B fs (lruC w knd B x dx dd od sz mx t u xs (putK os k key .none) l) s' → R (.ok (.ret .none)) s') :
    codeAny (model pw w) A (.call (.ref 979) ⟨[.ref x, key], []⟩) R s := by
  refine callS (binds := [(S "self", .ref x), (S "key", key)]) (names := [S "self", S "key"]) (locs := [(S "key", key), (S "self", .ref x)]) fnOk979 T S₀ r
    (BindsTo.of_eq (by kernel_rfl)) rfl rfl (by kernel_rfl) (by decide +kernel) (by kernel_rfl) fun L s' r₁ S₁ => ?_
  refine wpAny_execs_cons ?_
  refine wpAny_Try_except ?_
  walk_at "m_wk"
  refine methodCall_KW ?_
  walk_at "m_wk"
  refine dictPopM (by assumption) (by walk_at "m_mem") ?_
  refine callB ?_
  refine args_cons ?_
  walk_at "m_wk"
  refine args_nil ?_
  refine popS_missing (by assumption) (by walk_at "m_mem") r₁.u1 r₁.handled hk hq hso fun h' e t' he => ?_
  refine caughtS (by assumption) r₁.frames he ke_exc ke_nt ke_sub (fun s' Q' S' hq => ldB T S' (by kernel_rfl) PyProof.Rows.Boot.«KeyError» hq) fun s' S' => ?_
  walk_at "m_wk"
  refine putS (by assumption) (by walk_at "m_updt") r₁.u1 hk (fun s₅ S₅ => ?_) hso
  walk_at "m_wk"
  exact h _ (St.tail (St.pop (by assumption)))
end

end
-- TM
section
set_option maxRecDepth 100000
set_option maxHeartbeats 400000
section
variable {w : World} {A : Around} {E : Value → Shared → Prop} {B : Shared} {fs : List Env} {l : Cells} {s : Shared} {R : Result → Shared → Prop} {n : Nat} {m : Int} {tm dt : Addr}
/-- a timer's own names: the depth, the clock, the time once it was asked -/
abbrev timN (m : Int) (t : Tok) (more : Names) : Names := (S "_Timer__nesting", .int m t) :: (S "_Timer__timer", .ref aClock) :: more
abbrev timT (u : Tok) : Names := [(S "_Timer__time", .int 100 u)]
def timC (m : Int) : Cell := fun o => 0 ≤ m ∧ ((m = 0 ∧ ∃ t, idC (timN m t []) o) ∨ ∃ t u, idC (timN m t (timT u)) o)
theorem soft_timC {m : Int} : Soft (timC m) := fun _ _ h => h
abbrev timerC (tm dt : Addr) (m : Int) (l : Cells) : Cells := (tm, instC 1044 dt) :: (dt, timC m) :: l
theorem timer_open (S : St B fs l s) (hm : (dt, timC m) ∈ l) {l' : Names → Cells} (u : ∀ xs, Upd l (dt, timC m) (dt, idC xs) (l' xs)) :
    0 ≤ m ∧ ((m = 0 ∧ ∃ t, St B fs (l' (timN m t [])) s) ∨ ∃ t u, St B fs (l' (timN m t (timT u))) s) := by
  obtain ⟨o, ho, h0, h⟩ := S.has _ hm
  refine ⟨h0, ?_⟩
  rcases h with ⟨hz, t, h⟩ | ⟨t, v, h⟩
  · exact .inl ⟨hz, t, S.at1 (u _) ho h fun _ => soft_idC⟩
  · exact .inr ⟨t, v, S.at1 (u _) ho h fun _ => soft_idC⟩

theorem cClock (T : Stat (KK w) B.heap) (r : Room (n + 1) fs A) (S₀ : St B fs l s) (h : ∀ s' t, St B fs l s' → R (.ok (.ret (.int 100 t))) s') :
    codeAny (model pw w) A (.call (.ref aClock) ⟨[], []⟩) R s := by
  refine callS (binds := []) (names := []) (locs := []) fnOkClock T S₀ r (BindsTo.of_eq (by kernel_rfl)) rfl rfl (by kernel_rfl) (by decide +kernel) (by kernel_rfl) fun L s' r₁ S₁ => ?_
  refine wpAny_execs_cons ?_
  walk_at "m_wk"
  exact h _ _ (St.tail (St.pop (by assumption)))

/-- the timer, called -/
theorem c1013 (T : Stat (KK w) B.heap) (r : Room (n + 3) fs A) (S₀ : St B fs (timerC tm dt m l) s) (h : ∀ s' t, St B fs (timerC tm dt m l) s' → R (.ok (.ret (.int 100 t))) s') :
    codeAny (model pw w) A (.call (.ref 1013) ⟨[.ref tm], []⟩) R s := by
  obtain ⟨h0, ⟨hz, t, S₀⟩ | ⟨t, v, S₀⟩⟩ := timer_open (dt := dt) (m := m) S₀ (by walk_at "m_mem") (l' := fun xs => (tm, instC 1044 dt) :: (dt, idC xs) :: l) (fun xs => by walk_at "m_updt")
  · refine callS (binds := [(S "self", .ref tm)]) (names := [S "self"]) (locs := [(S "self", .ref tm)]) fnOk1013 T S₀ r (BindsTo.of_eq (by kernel_rfl)) rfl rfl (by kernel_rfl) (by decide +kernel) (by kernel_rfl) fun L s' r₁ S₁ => ?_
    refine wpAny_execs_cons ?_
    walk_at "m_wk"
    rw [if_pos (by simp [hz])]
    walk_at "m_wk"
    refine methodCall_KW ?_
    walk_at "m_wk"
    refine methUsual T (by assumption) (by walk_at "m_mem") (by walk_at "m_mem") (by kernel_rfl) ?_
    walk_at "m_wk"
    refine callFn0 T (by assumption) (by kernel_rfl) (wpAny_call (cClock T r₁ (by assumption) fun s' t' S' => ?_))
    walk_at "m_wk"
    exact h _ _ (St.imp (St.tail (St.pop S')) (by walk_at "m_updt") (fun o ho => ⟨h0, .inl ⟨hz, _, ho⟩⟩) fun _ => soft_timC)
  · refine callS (binds := [(S "self", .ref tm)]) (names := [S "self"]) (locs := [(S "self", .ref tm)]) fnOk1013 T S₀ r (BindsTo.of_eq (by kernel_rfl)) rfl rfl (by kernel_rfl) (by decide +kernel) (by kernel_rfl) fun L s' r₁ S₁ => ?_
    refine wpAny_execs_cons ?_
    walk_at "m_wk"
    by_cases hz : m = 0
    · rw [if_pos (by simp [hz])]
      walk_at "m_wk"
      refine methodCall_KW ?_
      walk_at "m_wk"
      refine methUsual T (by assumption) (by walk_at "m_mem") (by walk_at "m_mem") (by kernel_rfl) ?_
      walk_at "m_wk"
      refine callFn0 T (by assumption) (by kernel_rfl) (wpAny_call (cClock T r₁ (by assumption) fun s' t' S' => ?_))
      walk_at "m_wk"
      exact h _ _ (St.imp (St.tail (St.pop S')) (by walk_at "m_updt") (fun o ho => ⟨h0, .inr ⟨_, _, ho⟩⟩) fun _ => soft_timC)
    · rw [if_neg (by simp [hz])]
      walk_at "m_wk"
      exact h _ _ (St.imp (St.tail (St.pop (by assumption))) (by walk_at "m_updt") (fun o ho => ⟨h0, .inr ⟨_, _, ho⟩⟩) fun _ => soft_timC)
end

end
-- TM2
section
set_option maxRecDepth 100000
set_option maxHeartbeats 400000
section
variable {w : World} {A : Around} {E : Value → Shared → Prop} {B : Shared} {fs : List Env} {l : Cells} {s : Shared} {R : Result → Shared → Prop} {n : Nat} {m : Int} {tm dt : Addr}
/-- into the timer -/
theorem c1020 (T : Stat (KK w) B.heap) (r : Room (n + 3) fs A) (S₀ : St B fs (timerC tm dt m l) s) (h : ∀ s' t, St B fs (timerC tm dt (m + 1) l) s' → R (.ok (.ret (.int 100 t))) s') :
    codeAny (model pw w) A (.call (.ref 1020) ⟨[.ref tm], []⟩) R s := by
  obtain ⟨h0, ⟨hz, t, S₀⟩ | ⟨t, v, S₀⟩⟩ := timer_open (dt := dt) (m := m) S₀ (by walk_at "m_mem") (l' := fun xs => (tm, instC 1044 dt) :: (dt, idC xs) :: l) (fun xs => by walk_at "m_updt")
  · refine callS (binds := [(S "self", .ref tm)]) (names := [S "self"]) (locs := [(S "self", .ref tm)]) fnOk1020 T S₀ r (BindsTo.of_eq (by kernel_rfl)) rfl rfl (by kernel_rfl) (by decide +kernel) (by kernel_rfl) fun L s' r₁ S₁ => ?_
    refine wpAny_execs_cons ?_
    walk_at "m_wk"
    rw [if_pos (by simp [hz])]
    walk_at "m_wk"
    refine methodCall_KW ?_
    walk_at "m_wk"
    refine methUsual T (by assumption) (by walk_at "m_mem") (by walk_at "m_mem") (by kernel_rfl) ?_
    walk_at "m_wk"
    refine callFn0 T (by assumption) (by kernel_rfl) (wpAny_call (cClock T r₁ (by assumption) fun s' t' S' => ?_))
    walk_at "m_wk"
    rename_i S'
    have S' := S'.reId (xs' := timN (m + 1) _ (timT _)) (by walk_at "m_updt") (by walk_at "m_pm")
    exact h _ _ (St.imp (St.tail (St.pop S')) (by walk_at "m_updt") (fun o ho => ⟨by omega, .inr ⟨_, _, ho⟩⟩) fun _ => soft_timC)
  · refine callS (binds := [(S "self", .ref tm)]) (names := [S "self"]) (locs := [(S "self", .ref tm)]) fnOk1020 T S₀ r (BindsTo.of_eq (by kernel_rfl)) rfl rfl (by kernel_rfl) (by decide +kernel) (by kernel_rfl) fun L s' r₁ S₁ => ?_
    refine wpAny_execs_cons ?_
    walk_at "m_wk"
    by_cases hz : m = 0
    · rw [if_pos (by simp [hz])]
      walk_at "m_wk"
      refine methodCall_KW ?_
      walk_at "m_wk"
      refine methUsual T (by assumption) (by walk_at "m_mem") (by walk_at "m_mem") (by kernel_rfl) ?_
      walk_at "m_wk"
      refine callFn0 T (by assumption) (by kernel_rfl) (wpAny_call (cClock T r₁ (by assumption) fun s' t' S' => ?_))
      walk_at "m_wk"
      exact h _ _ (St.imp (St.tail (St.pop (by assumption))) (by walk_at "m_updt") (fun o ho => ⟨by omega, .inr ⟨_, _, ho⟩⟩) fun _ => soft_timC)
    · rw [if_neg (by simp [hz])]
      walk_at "m_wk"
      exact h _ _ (St.imp (St.tail (St.pop (by assumption))) (by walk_at "m_updt") (fun o ho => ⟨by omega, .inr ⟨_, _, ho⟩⟩) fun _ => soft_timC)
/-- out of the timer -/
theorem c1027 (T : Stat (KK w) B.heap) (r : Room (n + 3) fs A) (S₀ : St B fs (timerC tm dt (m + 1) l) s) (h0 : 0 ≤ m) (h : ∀ s', St B fs (timerC tm dt m l) s' → R (.ok (.ret .none)) s') :
    codeAny (model pw w) A (.call (.ref 1027) ⟨[.ref tm, .none, .none, .none], []⟩) R s := by
  obtain ⟨_, ⟨hz, _⟩ | ⟨t, v, S₀⟩⟩ := timer_open (dt := dt) (m := m + 1) S₀ (by walk_at "m_mem") (l' := fun xs => (tm, instC 1044 dt) :: (dt, idC xs) :: l) (fun xs => by walk_at "m_updt")
  · omega
  refine callStar (binds := fun t => [(S "self", .ref tm), (S "exc", .ref t)]) (rest := [.none, .none, .none]) (names := [S "self", S "exc"]) (locs := fun t => [(S "exc", .ref t), (S "self", .ref tm)]) fnOk1027 T S₀ r
    (fun M A E Q hq => ?_) (fun _ => rfl) (fun _ => rfl) (by kernel_rfl) (by decide +kernel) (by kernel_rfl) fun tt L s' r₁ S₁ => ?_
  · have e : bindArgs fd1027 ⟨[.ref tm, .none, .none, .none], []⟩ = (do let t ← newTuple [.none, .none, .none]; pure [(S "self", .ref tm), (S "exc", t)]) := by kernel_rfl
    rw [e]
    exact wpAny_bind (wpAny_newObj_type (wpAny_pure hq) (by show (3 : Nat) ≤ sizeLine; rw [sizeLine_eq]; decide))
  refine wpAny_execs_cons ?_
  walk_at "m_wk"
  rw [show m + 1 - 1 = m by omega] at *
  exact h _ (St.imp (St.tail (St.tail (St.pop (by assumption)))) (by walk_at "m_updt") (fun o ho => ⟨by omega, .inr ⟨_, _, ho⟩⟩) fun _ => soft_timC)
/-- a new timer -/
theorem c1006 (T : Stat (KK w) B.heap) (r : Room (n + 3) fs A) (S₀ : St B fs ((tm, instC 1044 dt) :: (dt, idC []) :: l) s) (h : ∀ s', St B fs (timerC tm dt 0 l) s' → R (.ok (.ret .none)) s') :
    codeAny (model pw w) A (.call (.ref 1006) ⟨[.ref tm, .ref aClock], []⟩) R s := by
  refine callS (binds := [(S "self", .ref tm), (S "timer", .ref aClock)]) (names := [S "self", S "timer"]) (locs := [(S "timer", .ref aClock), (S "self", .ref tm)]) fnOk1006 T S₀ r (BindsTo.of_eq (by kernel_rfl)) rfl rfl (by kernel_rfl) (by decide +kernel) (by kernel_rfl) fun L s' r₁ S₁ => ?_
  refine wpAny_execs_cons ?_
  walk_at "m_wk"
  exact h _ (St.imp (St.tail (St.pop (by assumption))) (by walk_at "m_updt") (fun o ho => ⟨by omega, .inl ⟨rfl, _, ho⟩⟩) fun _ => soft_timC)
end

end
-- TM3
section
set_option maxRecDepth 100000
set_option maxHeartbeats 400000
end
local macro_rules | `(tactic| walk_at "m_wk1") => `(tactic| ((with_reducible show wpAny _ _ (eval (Expr.Name (Str.ofString "_TimedCache") _) _) _ _ _); refine ldG (v := .ref 1128) (by assumption) (by assumption) (by kernel_rfl) ?_))
section
set_option maxRecDepth 100000
set_option maxHeartbeats 400000
end
local macro_rules | `(tactic| walk_at "m_fact") => `(tactic| with_reducible assumption)
section
set_option maxRecDepth 100000
set_option maxHeartbeats 400000
section
variable {w : World} {A : Around} {E : Value → Shared → Prop} {B : Shared} {fs : List Env} {l : Cells} {s : Shared} {K : Type} [DecidableEq K] {knd : AnyKind pw w K} {R : Result → Shared → Prop} {n : Nat} {m : Int} {tm dt : Addr}
  {C x dx dd od : Addr} {mx : Int} {u : Tok}
theorem c1056 (knd : AnyKind pw w K) (hC : C ∈ cacheCls) (hS : setsName (KK w) C (S "_TimedCache__timer") = true) (T : Stat (KK w) B.heap) (r : Room (n + 5) fs A) (S₀ : St B fs ((x, instC C dx) :: (dx, idC []) :: l) s) (hmx : 0 ≤ mx)
    (h : ∀ dd tm dt s' t, St B fs ((x, instC C dx) :: (dx, idC (baseN dd 0 mx t u [(S "_TimedCache__timer", .ref tm)])) :: (dd, dictC knd B []) :: timerC tm dt 0 l) s' → R (.ok (.ret .none)) s') :
    codeAny (model pw w) A (.call (.ref 1056) ⟨[.ref x, .int mx u, .ref aClock, .none], []⟩) R s := by
  refine callS (binds := [(S "self", .ref x), (S "maxsize", .int mx u), (S "timer", .ref aClock), (S "getsizeof", .none)]) (names := [S "self", S "maxsize", S "timer", S "getsizeof"]) (locs := [(S "getsizeof", .none), (S "timer", .ref aClock), (S "maxsize", .int mx u), (S "self", .ref x)]) fnOk1056 T S₀ r (bndT T S₀ [.none] rfl (by kernel_rfl) (by rfl) (by kernel_rfl)) rfl rfl (by kernel_rfl) (by decide +kernel) (by kernel_rfl) fun L s' r₁ S₁ => ?_
  refine wpAny_execs_cons ?_
  walk_at "m_wk"
  refine methodCall_KW ?_
  walk_at "m_wk"
  refine methCls (f := 749) T (by assumption) (by kernel_rfl) fun s' S' => ?_
  refine callFn T (by kernel_rfl) ?_
  refine args_cons ?_
  walk_at "m_wk"
  refine args_cons ?_
  walk_at "m_wk"
  refine args_cons ?_
  walk_at "m_wk"
  refine args_nil ⟨⟨_, _, by assumption⟩, wpAny_call ?_⟩
  refine c749 knd hC T (r₁.less (m := n + 3) (by omega)) (St.back (p := [_, _]) (by assumption)) hmx fun dd s' t S' => ?_
  have S' := St.front (p := [_, _, _]) S'
  simp only [List.cons_append, List.nil_append] at S'
  walk_at "m_wk"
  refine methodCall_KW ?_
  walk_at "m_wk"
  refine methCls (f := 1044) T (by assumption) (by kernel_rfl) fun s' S' => ?_
  refine callFn T (by kernel_rfl) ?_
  refine args_cons ?_
  walk_at "m_wk"
  refine args_nil ⟨⟨_, _, by assumption⟩, wpAny_call ?_⟩
  refine makeS (fun d => instC 1044 d) T (by assumption) (by kernel_rfl) (fI := 1006) (by kernel_rfl) (by kernel_rfl) (fun _ => ⟨rfl, rfl, rfl⟩) fun tm dt s' S' => ?_
  refine c1006 T (r₁.make.less (m := n + 3) (by omega)) S' fun s' S' => ⟨rfl, ?_⟩
  walk_at "m_wk"
  rename_i S'
  have S' := S'.reId (xs' := baseN dd 0 mx _ u [(S "_TimedCache__timer", .ref tm)]) (by walk_at "m_updt") (by walk_at "m_pm")
  exact h _ _ _ _ _ (St.tail (St.pop (S'.perm (l' := (L, _) :: (x, _) :: (dx, _) :: (dd, _) :: timerC tm dt 0 l) (by walk_at "m_pm"))))
/-- the timer of a timed cache -/
theorem c1088 {C : Addr} {xs : Names} (hO : ownName (KK w) C (S "_TimedCache__timer") = true) (T : Stat (KK w) B.heap) (r : Room (n + 1) fs A) (S₀ : St B fs l s) (mi : (x, instC C dx) ∈ l) (md : (dx, idC xs) ∈ l) (mt : (S "_TimedCache__timer", .ref tm) ∈ xs)
    (h : ∀ s', St B fs l s' → R (.ok (.ret (.ref tm))) s') : codeAny (model pw w) A (.call (.ref 1088) ⟨[.ref x], []⟩) R s := by
  refine callS (binds := [(S "self", .ref x)]) (names := [S "self"]) (locs := [(S "self", .ref x)]) fnOk1088 T S₀ r (BindsTo.of_eq (by kernel_rfl)) rfl rfl (by kernel_rfl) (by decide +kernel) (by kernel_rfl) fun L s' r₁ S₁ => ?_
  refine wpAny_execs_cons ?_
  refine wpAny_Return_some ?_
  refine Attribute_any_ ?_
  walk_at "m_wk"
  refine getOwn T (by assumption) (List.mem_cons_of_mem _ mi) (List.mem_cons_of_mem _ md) mt hO rfl fun s' S' => ?_
  exact h _ (St.tail (St.pop (by assumption)))
/-- self.timer -/
theorem timerProp {C : Addr} {xs : Names} {expr : Bool} {Q : Value → Shared → Prop} (hP : propName (KK w) C (S "timer") 1088 = true) (hO : ownName (KK w) C (S "_TimedCache__timer") = true) (T : Stat (KK w) B.heap) (r : Room (n + 2) fs A) (S₀ : St B fs l s) (mi : (x, instC C dx) ∈ l) (md : (dx, idC xs) ∈ l) (mt : (S "_TimedCache__timer", .ref tm) ∈ xs)
    (h : ∀ s', St B fs l s' → Q (.ref tm) s') : wpAny (model pw w) A (getAttr (.ref x) (S "timer") expr) Q E s :=
  getProp T S₀ mi md hP fun s' S' => c1088 hO T r.in1 S' mi md mt fun s' S' => ⟨_, rfl, rfl, h _ S'⟩
end

end
-- TT1
section
set_option maxRecDepth 100000
set_option maxHeartbeats 400000
section
variable {w : World} {A : Around} {E : Value → Shared → Prop} {B : Shared} {fs : List Env} {l l' : Cells} {s : Shared} {R : Result → Shared → Prop} {n : Nat}
  {a d : Addr} {ns : List (Addr × Addr)} {ev kv : Addr → Value} {nx pv : Addr → Addr} {v : Addr} {e : Value} {expr : Bool}
theorem lk_e : slotName (KK w) 1178 (S "expires") 0 = true := by kernel_rfl
theorem lk_k : slotName (KK w) 1178 (S "key") 1 = true := by kernel_rfl
theorem lk_n : slotName (KK w) 1178 (S "next") 2 = true := by kernel_rfl
theorem lk_p : slotName (KK w) 1178 (S "prev") 3 = true := by kernel_rfl
theorem ls_e : slotSet (KK w) 1178 (S "expires") 0 = true := by kernel_rfl
theorem ls_k : slotSet (KK w) 1178 (S "key") 1 = true := by kernel_rfl
theorem ls_n : slotSet (KK w) 1178 (S "next") 2 = true := by kernel_rfl
theorem ls_p : slotSet (KK w) 1178 (S "prev") 3 = true := by kernel_rfl
theorem getNext {Q : Value → Shared → Prop} (T : Stat (KK w) B.heap) (S₀ : St B fs l s) (m : (a, slotC 1178 d (lf ev kv nx pv a)) ∈ l) (md : (d, idC []) ∈ l) (h : ∀ s', St B fs l s' → Q (.ref (nx a)) s') : wpAny (model pw w) A (getAttr (.ref a) (S "next") expr) Q E s :=
  getSlot T S₀ m md lk_n (v := .ref (nx a)) rfl rfl h
theorem getPrev {Q : Value → Shared → Prop} (T : Stat (KK w) B.heap) (S₀ : St B fs l s) (m : (a, slotC 1178 d (lf ev kv nx pv a)) ∈ l) (md : (d, idC []) ∈ l) (h : ∀ s', St B fs l s' → Q (.ref (pv a)) s') : wpAny (model pw w) A (getAttr (.ref a) (S "prev") expr) Q E s :=
  getSlot T S₀ m md lk_p (v := .ref (pv a)) rfl rfl h
theorem getKey {Q : Value → Shared → Prop} (T : Stat (KK w) B.heap) (S₀ : St B fs l s) (m : (a, slotC 1178 d (lf ev kv nx pv a)) ∈ l) (md : (d, idC []) ∈ l) (hh : handedIn (kv a) = true) (h : ∀ s', St B fs l s' → Q (kv a) s') : wpAny (model pw w) A (getAttr (.ref a) (S "key") expr) Q E s :=
  getSlot T S₀ m md lk_k (v := kv a) rfl hh h
theorem getExp {Q : Value → Shared → Prop} (T : Stat (KK w) B.heap) (S₀ : St B fs l s) (m : (a, slotC 1178 d (lf ev kv nx pv a)) ∈ l) (md : (d, idC []) ∈ l) (he : ev a = e) (hh : handedIn e = true) (h : ∀ s', St B fs l s' → Q e s') : wpAny (model pw w) A (getAttr (.ref a) (S "expires") expr) Q E s :=
  getSlot T S₀ m md lk_e (v := e) (by show some (ev a) = _; rw [he]) hh h
theorem setNext {Q : Unit → Shared → Prop} (T : Stat (KK w) B.heap) (S₀ : St B fs l s) (u : Upd l (a, slotC 1178 d (lf ev kv nx pv a)) (a, slotC 1178 d (lf ev kv (upd nx a v) pv a)) l') (md : (d, idC []) ∈ l) (h : ∀ s', St B fs l' s' → Q () s') :
    wpAny (model pw w) A (setAttr (.ref a) (S "next") (.ref v)) Q E s :=
  setSlot T S₀ u md ls_n (by simp [lf, lnk, upd_same]) h
theorem setPrev {Q : Unit → Shared → Prop} (T : Stat (KK w) B.heap) (S₀ : St B fs l s) (u : Upd l (a, slotC 1178 d (lf ev kv nx pv a)) (a, slotC 1178 d (lf ev kv nx (upd pv a v) a)) l') (md : (d, idC []) ∈ l) (h : ∀ s', St B fs l' s' → Q () s') :
    wpAny (model pw w) A (setAttr (.ref a) (S "prev") (.ref v)) Q E s :=
  setSlot T S₀ u md ls_p (by simp [lf, lnk, upd_same]) h
theorem setExp {Q : Unit → Shared → Prop} (T : Stat (KK w) B.heap) (S₀ : St B fs l s) (u : Upd l (a, slotC 1178 d (lf ev kv nx pv a)) (a, slotC 1178 d (lf (upd ev a e) kv nx pv a)) l') (md : (d, idC []) ∈ l) (h : ∀ s', St B fs l' s' → Q () s') :
    wpAny (model pw w) A (setAttr (.ref a) (S "expires") e) Q E s :=
  setSlot T S₀ u md ls_e (by simp [lf, lnk, upd_same]) h
/-- a method met through an instance with slots -/
theorem methSlot {C x dx f : Addr} {sl : Array (Option Value)} {name : Str} {pl : Sem Bool} {Q : Value × List Value → Shared → Prop} {K : Frag} {prog : Program} (T : Stat K B.heap) (S₀ : St B fs l s) (mi : (x, slotC C dx sl) ∈ l) (md : (dx, idC []) ∈ l) (hm : methName K C name f = true) (h : Q (.ref f, [.ref x]) s) :
    wpAny (model prog w) A (getMethod (.ref x) name pl) Q E s := by
  obtain ⟨ox, hx, h1, h2, h3, _⟩ := S₀.has _ mi
  exact methFn (l := [(x, instC C dx), (dx, idC [])]) T ⟨S₀.base, fun y hy => by
      rcases List.mem_cons.mp hy with rfl | hy
      · exact ⟨ox, hx, h1, h2, h3⟩
      · rw [List.mem_singleton.mp hy]; exact S₀.has _ md, by
      have hne : x ≠ dx := fun e => by
        subst e
        obtain ⟨o, ho, es, ep, hd, _⟩ := S₀.has _ md
        rw [hx] at ho; cases ho; rw [h2] at hd; cases hd
      simp [hne], fun y hy => by
      rcases List.mem_cons.mp hy with rfl | hy
      · exact S₀.fresh (x, slotC C dx sl) mi
      · rw [List.mem_singleton.mp hy]; exact S₀.fresh _ md, S₀.frames, S₀.gens, S₀.drawn, S₀.os, S₀.low, fun y hy => by
      rcases List.mem_cons.mp hy with rfl | hy
      · exact S₀.big (x, slotC C dx sl) mi
      · rw [List.mem_singleton.mp hy]; exact S₀.big _ md, fun y hy _ => by
      rcases List.mem_cons.mp hy with rfl | hy
      · exact soft_instC
      · rw [List.mem_singleton.mp hy]; exact soft_idC⟩ (by walk_at "m_mem") (by walk_at "m_mem") hm h (by simp)

/-- a link is taken out of the ring -/
theorem c1174 (T : Stat (KK w) B.heap) (r : Room (n + 2) fs A) (nd : (ns.map (·.1)).Nodup) {dn dp : Addr} (ha : (a, d) ∈ ns) (hn : (nx a, dn) ∈ ns) (hp : (pv a, dp) ∈ ns) (S₀ : St B fs l s)
    (q : Rep (nodeCells 1178 (lf ev kv nx pv) ns) (nodeCells 1178 (lf ev kv (upd nx (pv a) (nx a)) (upd pv (nx a) (pv a))) ns) l l')
    (h : ∀ s', St B fs l' s' → R (.ok (.ret .none)) s') :
    codeAny (model pw w) A (.call (.ref 1174) ⟨[.ref a], []⟩) R s := by
  obtain ⟨l₀, q1, q2⟩ := q.rest
  have S₀ := S₀.perm q1
  refine callS (binds := [(S "self", .ref a)]) (names := [S "self"]) (locs := [(S "self", .ref a)]) fnOk1174 T S₀ r (BindsTo.of_eq (by kernel_rfl)) rfl rfl (by kernel_rfl) (by decide +kernel) (by kernel_rfl) fun L s' r₁ S₁ => ?_
  refine wpAny_execs_cons ?_
  walk_at "m_wk"
  refine getNext T (by assumption) (by walk_at "m_mem") (by walk_at "m_mem") fun s' S' => ?_
  walk_at "m_wk"
  refine getPrev T (by assumption) (by walk_at "m_mem") (by walk_at "m_mem") fun s' S' => ?_
  walk_at "m_wk"
  refine setNext T (by assumption) (by walk_at "m_updn") (by walk_at "m_mem") fun s' S' => ?_
  walk_at "m_wk"
  refine setPrev T (by assumption) (by walk_at "m_updn") (by walk_at "m_mem") fun s' S' => ?_
  walk_at "m_wk"
  exact h _ ((St.tail (St.pop (by assumption))).perm q2)
end

end
-- TT2
section
set_option maxRecDepth 100000
set_option maxHeartbeats 400000
end
local macro_rules | `(tactic| walk_at "m_wk1") => `(tactic| ((with_reducible show wpAny _ _ (eval (Expr.Name (Str.ofString "TTLCache") _) _) _ _ _); refine ldG (v := .ref 1270) (by assumption) (by assumption) (by kernel_rfl) ?_))
section
set_option maxRecDepth 100000
set_option maxHeartbeats 400000
section
variable {w : World} {A : Around} {E : Value → Shared → Prop} {B : Shared} {fs : List Env} {l l' : Cells} {s : Shared} {R : Result → Shared → Prop} {n : Nat} {K : Type} [DecidableEq K] {knd : AnyKind pw w K}
  {a d : Addr} {ns : List (Addr × Addr)} {ev kv : Addr → Value} {nx pv : Addr → Addr} {v : Addr} {e key : Value} {expr : Bool} {x dx dd tm dt rt ld : Addr} {mx sz m : Int} {t u tl : Tok} {xs ls : List (K × Value × Value)}
theorem c1160_0 (T : Stat (KK w) B.heap) (r : Room (n + 2) fs A) (S₀ : St B fs ((a, slotC 1178 d #[]) :: (d, idC []) :: l) s) (h : ∀ s', St B fs ((a, slotC 1178 d #[some .none, some .none]) :: (d, idC []) :: l) s' → R (.ok (.ret .none)) s') :
    codeAny (model pw w) A (.call (.ref 1160) ⟨[.ref a], []⟩) R s := by
  refine callS (binds := [(S "self", .ref a), (S "key", .none), (S "expires", .none)]) (names := [S "self", S "key", S "expires"]) (locs := [(S "expires", .none), (S "key", .none), (S "self", .ref a)]) fnOk1160 T S₀ r (bndT T S₀ [.none, .none] rfl (by kernel_rfl) (by rfl) (by kernel_rfl)) rfl rfl (by kernel_rfl) (by decide +kernel) (by kernel_rfl) fun L s' r₁ S₁ => ?_
  refine wpAny_execs_cons ?_
  walk_at "m_wk"
  refine setSlot T (by assumption) (by walk_at "m_updt") (by walk_at "m_mem") ls_k rfl fun s' S' => ?_
  walk_at "m_wk"
  refine setSlot T (by assumption) (by walk_at "m_updt") (by walk_at "m_mem") ls_e rfl fun s' S' => ?_
  walk_at "m_wk"
  exact h _ (St.tail (St.pop (by assumption)))
theorem c1160_1 (T : Stat (KK w) B.heap) (r : Room (n + 2) fs A) (S₀ : St B fs ((a, slotC 1178 d #[]) :: (d, idC []) :: l) s) (h : ∀ s', St B fs ((a, slotC 1178 d #[some .none, some key]) :: (d, idC []) :: l) s' → R (.ok (.ret .none)) s') :
    codeAny (model pw w) A (.call (.ref 1160) ⟨[.ref a, key], []⟩) R s := by
  refine callS (binds := [(S "self", .ref a), (S "key", key), (S "expires", .none)]) (names := [S "self", S "key", S "expires"]) (locs := [(S "expires", .none), (S "key", key), (S "self", .ref a)]) fnOk1160 T S₀ r (bndT T S₀ [.none, .none] rfl (by kernel_rfl) (by rfl) (by kernel_rfl)) rfl rfl (by kernel_rfl) (by decide +kernel) (by kernel_rfl) fun L s' r₁ S₁ => ?_
  refine wpAny_execs_cons ?_
  walk_at "m_wk"
  refine setSlot T (by assumption) (by walk_at "m_updt") (by walk_at "m_mem") ls_k rfl fun s' S' => ?_
  walk_at "m_wk"
  refine setSlot T (by assumption) (by walk_at "m_updt") (by walk_at "m_mem") ls_e rfl fun s' S' => ?_
  walk_at "m_wk"
  exact h _ (St.tail (St.pop (by assumption)))

abbrev ttlN (dd tm rt ld : Addr) (sz mx : Int) (t u tl : Tok) : Names := baseN dd sz mx t u [(S "_TimedCache__timer", .ref tm), (S "_TTLCache__root", .ref rt), (S "_TTLCache__links", .ref ld), (S "_TTLCache__ttl", .int lifeV tl)]
abbrev ttlC (w : World) {K : Type} [DecidableEq K] (knd : AnyKind pw w K) (B : Shared) (x dx dd tm dt rt ld : Addr) (sz mx : Int) (t u tl : Tok) (m : Int) (xs ls : List (K × Value × Value)) (ev kv : Addr → Value) (nx pv : Addr → Addr) (ns : List (Addr × Addr)) (l : Cells) : Cells :=
  (x, instC 1270 dx) :: (dx, idC (ttlN dd tm rt ld sz mx t u tl)) :: (dd, dictC knd B xs) :: (tm, instC 1044 dt) :: (dt, timC m) :: (ld, dictC knd B ls) :: (nodeCells 1178 (lf ev kv nx pv) ns ++ l)
theorem c1270 : 1270 ∈ cacheCls := by decide

theorem c1192 (knd : AnyKind pw w K) (T : Stat (KK w) B.heap) (r : Room (n + 7) fs A) (S₀ : St B fs ((x, instC 1270 dx) :: (dx, idC []) :: l) s) (hmx : 0 ≤ mx)
    (h : ∀ dd tm dt rt ld dr s' t, St B fs (ttlC w knd B x dx dd tm dt rt ld 0 mx t u tl 0 [] [] (fun _ => .none) (fun _ => .none) (fun _ => rt) (fun _ => rt) [(rt, dr)] l) s' → R (.ok (.ret .none)) s') :
    codeAny (model pw w) A (.call (.ref 1192) ⟨[.ref x, .int mx u, .int lifeV tl, .ref aClock], []⟩) R s := by
  refine callS (binds := [(S "self", .ref x), (S "maxsize", .int mx u), (S "ttl", .int lifeV tl), (S "timer", .ref aClock), (S "getsizeof", .none)]) (names := [S "self", S "maxsize", S "ttl", S "timer", S "getsizeof"]) (locs := [(S "getsizeof", .none), (S "timer", .ref aClock), (S "ttl", .int lifeV tl), (S "maxsize", .int mx u), (S "self", .ref x)]) fnOk1192 T S₀ r (bndT T S₀ [.ref 1137, .none] rfl (by kernel_rfl) (by rfl) (by kernel_rfl)) rfl rfl (by kernel_rfl) (by decide +kernel) (by kernel_rfl) fun L s' r₁ S₁ => ?_
  refine wpAny_execs_cons ?_
  walk_at "m_wk"
  refine methodCall_KW ?_
  walk_at "m_wk"
  refine methCls (f := 1056) T (by assumption) (by kernel_rfl) fun s' S' => ?_
  refine callFn T (by kernel_rfl) ?_
  refine args_cons ?_
  walk_at "m_wk"
  refine args_cons ?_
  walk_at "m_wk"
  refine args_cons ?_
  walk_at "m_wk"
  refine args_cons ?_
  walk_at "m_wk"
  refine args_nil ⟨⟨_, _, by assumption⟩, wpAny_call ?_⟩
  refine c1056 knd c1270 (by kernel_rfl) T (r₁.less (m := n + 5) (by omega)) (St.back (p := [_, _]) (by assumption)) hmx fun dd tm dt s' t S' => ?_
  have S' := St.front (p := [_, _, _, _, _]) S'
  simp only [List.cons_append, List.nil_append] at S'
  walk_at "m_wk"
  refine methodCall_KW ?_
  walk_at "m_wk"
  refine methCls (f := 1178) T (by assumption) (by kernel_rfl) fun s' S' => ?_
  refine callFn0 T (by assumption) (by kernel_rfl) (wpAny_call ?_)
  refine makeS (fun d => slotC 1178 d #[]) T (by assumption) (by kernel_rfl) (fI := 1160) (by kernel_rfl) (by kernel_rfl) (fun _ => ⟨rfl, rfl, rfl, rfl⟩) fun rt dr s' S' => ?_
  refine c1160_0 T (r₁.make.less (m := n + 2) (by omega)) S' fun s' S' => ⟨rfl, ?_⟩
  walk_at "m_wk"
  refine setSlot (sl' := #[some .none, some .none, none, some (.ref rt)]) T (by assumption) (by walk_at "m_updt") (by walk_at "m_mem") ls_p rfl fun s' S' => ?_
  walk_at "m_wk"
  refine setSlot (sl' := lf (fun _ => .none) (fun _ => .none) (fun _ => rt) (fun _ => rt) rt) T (by assumption) (by walk_at "m_updt") (by walk_at "m_mem") ls_n rfl fun s' S' => ?_
  walk_at "m_wk"
  refine dictNil knd (by assumption) fun ld s' S' => ?_
  walk_at "m_wk"
  have S' := St.reId (a := dx) (xs' := ttlN dd tm rt ld 0 mx _ u _) (by assumption) (by walk_at "m_updt") (by walk_at "m_pm")
  exact h _ _ _ _ _ dr _ _ (St.tail (St.pop (S'.perm (l' := (L, _) :: (x, _) :: (dx, _) :: (dd, _) :: (tm, _) :: (dt, _) :: (ld, _) :: (rt, slotC 1178 dr (lf (fun _ => .none) (fun _ => .none) (fun _ => rt) (fun _ => rt) rt)) :: (dr, _) :: l) (by walk_at "m_pm"))))
end

end
-- TT3
section
set_option maxRecDepth 100000
set_option maxHeartbeats 400000
section
variable {w : World} {A : Around} {E : Value → Shared → Prop} {B : Shared} {fs : List Env} {l l' : Cells} {s : Shared} {R : Result → Shared → Prop} {n : Nat} {K : Type} [DecidableEq K] {knd : AnyKind pw w K}
  {a d : Addr} {ns : List (Addr × Addr)} {ev kv : Addr → Value} {nx pv : Addr → Addr} {v : Addr} {e key : Value} {expr : Bool} {x dx dd tm dt rt ld : Addr} {mx sz m : Int} {t u tl te : Tok} {xs ls : List (K × Value × Value)} {k : K} {p : Value × Value} {lv : Value}
/-- self.timer() -/
theorem timerCall {C : Addr} {ys : Names} {l : Cells} {env : Env} {pos : Pos} {Q : Value → Shared → Prop} (hP : propName (KK w) C (S "timer") 1088 = true) (hO : ownName (KK w) C (S "_TimedCache__timer") = true)
    (T : Stat (KK w) B.heap) (r : Room n fs A) (hn : 3 ≤ n) {l' : Cells} (S₀ : St B fs l s) (mi : (x, instC C dx) ∈ l) (md : (dx, idC ys) ∈ l) (mt : (S "_TimedCache__timer", .ref tm) ∈ ys) (p : (timerC tm dt m l').Perm l)
    (hU : usualName (KK w) C (S "timer") = true) (h : ∀ s' t, St B fs l s' → Q (.int 100 t) s') {pl : Sem Bool} :
    wpAny (model pw w) A (getMethod (.ref x) (S "timer") pl) (fun fx s₁ => wpAny (model pw w) A (callWith pos fx.1 fx.2 (backTo pos (starEach [] env)) []) Q E s₁) E s := by
  refine methUsual T S₀ mi md hU (timerProp hP hO T (r.less (m := 0 + 2) (by omega)) S₀ mi md mt fun s' S' => ?_)
  have mtm : (tm, instC 1044 dt) ∈ l := p.mem_iff.mp (by walk_at "m_mem")
  have mdt : (dt, timC m) ∈ l := p.mem_iff.mp (by walk_at "m_mem")
  exact callInst0 T S' mtm mdt (f := 1013) (by kernel_rfl) (by kernel_rfl) (c1013 T (r.less (m := 0 + 3) (by omega)) (S'.perm p) fun s' t S' => h _ _ (S'.perm p.symm))
end

end
-- TT4
section
set_option maxRecDepth 100000
set_option maxHeartbeats 400000
end
local macro_rules | `(tactic| walk_at "m_tcall") => `(tactic| (refine methodCall_KW ?_; walk_at "m_wk"; refine timerCall (by kernel_rfl) (by kernel_rfl) (by assumption) (by assumption) (by omega) (by assumption) (by walk_at "m_mem") (by walk_at "m_mem") (by walk_at "m_mem") (by walk_at "m_pm") (by kernel_rfl) fun s' t S' => ?_))
section
set_option maxRecDepth 100000
set_option maxHeartbeats 400000
section
variable {w : World} {A : Around} {E : Value → Shared → Prop} {B : Shared} {fs : List Env} {l l' : Cells} {s : Shared} {R : Result → Shared → Prop} {n : Nat} {K : Type} [DecidableEq K] {knd : AnyKind pw w K}
  {a d : Addr} {ns : List (Addr × Addr)} {ev kv : Addr → Value} {nx pv : Addr → Addr} {v : Addr} {e key : Value} {expr : Bool} {x dx dd tm dt rt ld : Addr} {mx sz m : Int} {t u tl te : Tok} {xs ls : List (K × Value × Value)} {k : K} {p : Value × Value} {lv : Value}
theorem c1199_there (T : Stat (KK w) B.heap) (r : Room (n + 5) fs A) (S₀ : St B fs (ttlC w knd B x dx dd tm dt rt ld sz mx t u tl m xs ls ev kv nx pv ns l) s) (hk : knd.is B.heap k key) (hq : atK ls k = some (lv, .ref a)) (ha : (a, d) ∈ ns) (he : ev a = .int endV te)
    (h : ∀ s', St B fs (ttlC w knd B x dx dd tm dt rt ld sz mx t u tl m xs ls ev kv nx pv ns l) s' → R (.ok (.ret (.bool true))) s') :
    codeAny (model pw w) A (.call (.ref 1199) ⟨[.ref x, key], []⟩) R s := by
  refine callS (binds := [(S "self", .ref x), (S "key", key)]) (names := [S "self", S "key"]) (locs := [(S "key", key), (S "self", .ref x)]) fnOk1199 T S₀ r (BindsTo.of_eq (by kernel_rfl)) rfl rfl (by kernel_rfl) (by decide +kernel) (by kernel_rfl) fun L s' r₁ S₁ => ?_
  refine wpAny_execs_cons ?_
  refine wpAny_Try_except ?_
  walk_at "m_wk"
  refine subD ?_
  walk_at "m_wk"
  refine ⟨St.typeDict (d := ld) (by assumption) (by walk_at "m_mem"), ?_⟩
  refine getS (by assumption) (by walk_at "m_mem") r₁.u1 hk hq fun s₃ S₃ => ?_
  walk_at "m_wk"
  walk_at "m_tcall"
  walk_at "m_wk"
  refine getExp T (by assumption) (by walk_at "m_mem") (by walk_at "m_mem") he rfl fun s' S' => ?_
  walk_at "m_wk"
  exact h _ (St.done L S' (by walk_at "m_pm"))
/-- the key is not there -/
theorem c1199_not (T : Stat (KK w) B.heap) (r : Room (n + 5) fs A) (S₀ : St B fs (ttlC w knd B x dx dd tm dt rt ld sz mx t u tl m xs ls ev kv nx pv ns l) s) (hk : knd.is B.heap k key) (hq : atK ls k = none)
    (h : ∀ s', St B fs (ttlC w knd B x dx dd tm dt rt ld sz mx t u tl m xs ls ev kv nx pv ns l) s' → R (.ok (.ret (.bool false))) s') :
    codeAny (model pw w) A (.call (.ref 1199) ⟨[.ref x, key], []⟩) R s := by
  refine callS (binds := [(S "self", .ref x), (S "key", key)]) (names := [S "self", S "key"]) (locs := [(S "key", key), (S "self", .ref x)]) fnOk1199 T S₀ r (BindsTo.of_eq (by kernel_rfl)) rfl rfl (by kernel_rfl) (by decide +kernel) (by kernel_rfl) fun L s' r₁ S₁ => ?_
  refine wpAny_execs_cons ?_
  refine wpAny_Try_except ?_
  walk_at "m_wk"
  refine subD ?_
  walk_at "m_wk"
  refine ⟨St.typeDict (d := ld) (by assumption) (by walk_at "m_mem"), ?_⟩
  refine getS_missing (d := ld) (by assumption) (by walk_at "m_mem") r₁.u1 r₁.handled hk hq fun h' e t' he => ?_
  refine caughtS (by assumption) r₁.frames he ke_exc ke_nt ke_sub (fun s' Q' S' hq => ldB T S' (by kernel_rfl) PyProof.Rows.Boot.«KeyError» hq) fun s' S' => ?_
  walk_at "m_wk"
  exact h _ (St.done L S' (by walk_at "m_pm"))
/-- getitem of TTL, the key is there -/
theorem c1207 (T : Stat (KK w) B.heap) (r : Room (n + 5) fs A) (S₀ : St B fs (ttlC w knd B x dx dd tm dt rt ld sz mx t u tl m xs ls ev kv nx pv ns l) s) (hk : knd.is B.heap k key) (hp : atK xs k = some p) (hq : atK ls k = some (lv, .ref a)) (ha : (a, d) ∈ ns) (he : ev a = .int endV te) (hso : ls.length ≤ sizeLine) (hso' : (delK ls k).length ≤ sizeLine)
    (h : ∀ s', St B fs (ttlC w knd B x dx dd tm dt rt ld sz mx t u tl m xs (putK (delK ls k) k key (.ref a)) ev kv nx pv ns l) s' → R (.ok (.ret p.2)) s') :
    codeAny (model pw w) A (.call (.ref 1207) ⟨[.ref x, key], []⟩) R s := by
  refine callS (binds := [(S "self", .ref x), (S "key", key), (S "cache_getitem", .ref 763)]) (names := [S "self", S "key", S "cache_getitem"]) (locs := [(S "cache_getitem", .ref 763), (S "key", key), (S "self", .ref x)]) fnOk1207 T S₀ r (bndT T S₀ [.ref 763] rfl (by kernel_rfl) (by rfl) (by kernel_rfl)) rfl rfl (by kernel_rfl) (by decide +kernel) (by kernel_rfl) fun L s' r₁ S₁ => ?_
  refine wpAny_execs_cons ?_
  walk_at "m_wk"
  refine wpAny_Try_except ?_
  walk_at "m_wk"
  refine subD ?_
  walk_at "m_wk"
  refine ⟨St.typeDict (d := ld) (by assumption) (by walk_at "m_mem"), ?_⟩
  refine getS (by assumption) (by walk_at "m_mem") r₁.u1 hk hq fun s₃ S₃ => ?_
  walk_at "m_wk"
  refine methodCall_KW ?_
  walk_at "m_wk"
  refine dictPopM (d := ld) (by assumption) (by walk_at "m_mem") ?_
  refine callB ?_
  refine args_cons ?_
  walk_at "m_wk"
  refine args_nil ?_
  refine popS (d := ld) (by assumption) (by walk_at "m_updt") r₁.u1 hk hq (fun s₄ S₄ => ?_) hso
  walk_at "m_wk"
  refine putS (d := ld) (by assumption) (by walk_at "m_updt") r₁.u1 hk (fun s₅ S₅ => ?_) hso'
  walk_at "m_wk"
  walk_at "m_tcall"
  walk_at "m_wk"
  refine getExp T (by assumption) (by walk_at "m_mem") (by walk_at "m_mem") he rfl fun s' S' => ?_
  walk_at "m_wk"
  rw [if_pos (by decide)]
  walk_at "m_wk"
  refine Call_ ?_
  walk_at "m_wk"
  refine callFn T (by kernel_rfl) ?_
  refine args_cons ?_
  walk_at "m_wk"
  refine args_cons ?_
  walk_at "m_wk"
  refine args_nil ⟨⟨_, _, by assumption⟩, wpAny_call ?_⟩
  refine c763 c1270 T (r₁.less (m := n + 3) (by omega)) (S'.perm (l' := (x, _) :: (dx, _) :: (dd, _) :: _) (by walk_at "m_pm")) hk hp fun s' S' => ?_
  walk_at "m_wk"
  exact h _ (St.done L S' (by walk_at "m_pm"))
/-- nothing has come to its end -/
theorem c1253 (T : Stat (KK w) B.heap) (r : Room (n + 3) fs A) (S₀ : St B fs (ttlC w knd B x dx dd tm dt rt ld sz mx t u tl m xs ls ev kv nx pv ns l) s) {dr da : Addr} (hr : (rt, dr) ∈ ns) (ha : (nx rt, da) ∈ ns) (he : nx rt ≠ rt → ∃ te, ev (nx rt) = .int endV te)
    (h : ∀ s' v, St B fs (ttlC w knd B x dx dd tm dt rt ld sz mx t u tl m xs ls ev kv nx pv ns l) s' → R (.ok (.ret v)) s') :
    codeAny (model pw w) A (.call (.ref 1253) ⟨[.ref x, .int 100 te], []⟩) R s := by
  refine callS (binds := [(S "self", .ref x), (S "time", .int 100 te)]) (names := [S "self", S "time"]) (locs := [(S "time", .int 100 te), (S "self", .ref x)]) fnOk1253 T S₀ r (bndT T S₀ [.none] rfl (by kernel_rfl) (by rfl) (by kernel_rfl)) rfl rfl (by kernel_rfl) (by decide +kernel) (by kernel_rfl) fun L s' r₁ S₁ => ?_
  refine wpAny_execs_cons ?_
  walk_at "m_wk"
  rw [if_neg (by simp)]
  walk_at "m_wk"
  refine getNext T (by assumption) (by walk_at "m_mem") (by walk_at "m_mem") fun s' S' => ?_
  walk_at "m_wk"
  refine isRef (by assumption) (by walk_at "m_mem") (by walk_at "m_mem") ?_
  walk_at "m_wk"
  by_cases q : nx rt = rt
  · rw [decide_eq_true q]
    walk_at "m_wk"
    rw [if_pos rfl, if_pos rfl]
    walk_at "m_wk"
    refine listNil (by assumption) fun b s' S' => ?_
    exact h _ _ (St.done L S'.tail (by walk_at "m_pm"))
  · rw [decide_eq_false q]
    walk_at "m_wk"
    rw [if_neg (by decide)]
    walk_at "m_wk"
    obtain ⟨te, he⟩ := he q
    refine getExp T (by assumption) (by walk_at "m_mem") (by walk_at "m_mem") he rfl fun s' S' => ?_
    walk_at "m_wk"
    rw [if_pos (by decide), if_pos rfl]
    walk_at "m_wk"
    refine listNil (by assumption) fun b s' S' => ?_
    exact h _ _ (St.done L S'.tail (by walk_at "m_pm"))
end

end
-- TT5
section
set_option maxRecDepth 100000
set_option maxHeartbeats 400000
end
local macro_rules | `(tactic| walk_at "m_twith") => `(tactic| (refine kw_execN ?_; walk_at "m_wk1"; walk_at "m_wk1"; refine timerProp (by kernel_rfl) (by kernel_rfl) (by assumption) (Room.less (m := 0 + 2) (by assumption) (by omega)) (by assumption) (by walk_at "m_mem") (by walk_at "m_mem") (by walk_at "m_mem") fun s' S' => ?_; refine withIn (by assumption) (by assumption) (fe := 1020) (fx := 1027) (by walk_at "m_mem") (by walk_at "m_mem") (by kernel_rfl) (by kernel_rfl) ?_; refine wpAny_call (c1020 (by assumption) (Room.less (m := 0 + 3) (by assumption) (by omega)) (St.perm (by assumption) (by walk_at "m_pm")) fun s' t S' => ?_)))
section
set_option maxRecDepth 100000
set_option maxHeartbeats 400000
end
local macro_rules | `(tactic| walk_at "m_tout") => `(tactic| (refine wpAny_call (c1027 (by assumption) (Room.less (m := 0 + 3) (by assumption) (by omega)) (St.perm (by assumption) (by walk_at "m_pm")) (by assumption) fun s' S' => ?_)))
section
set_option maxRecDepth 100000
set_option maxHeartbeats 400000
section
variable {w : World} {A : Around} {E : Value → Shared → Prop} {B : Shared} {fs : List Env} {l l' : Cells} {s : Shared} {R : Result → Shared → Prop} {n : Nat} {K : Type} [DecidableEq K] {knd : AnyKind pw w K}
  {a d : Addr} {ns : List (Addr × Addr)} {ev kv : Addr → Value} {nx pv : Addr → Addr} {v : Addr} {e key : Value} {expr : Bool} {x dx dd tm dt rt ld : Addr} {mx sz m : Int} {t u tl te : Tok} {xs ls : List (K × Value × Value)} {k : K} {p : Value × Value} {lv : Value}
theorem c1223 (T : Stat (KK w) B.heap) (r : Room (n + 5) fs A) (S₀ : St B fs (ttlC w knd B x dx dd tm dt rt ld sz mx t u tl m xs ls ev kv nx pv ns l) s) (nd : (ns.map (·.1)).Nodup) (hk : knd.is B.heap k key) (hp : atK xs k = some p) (hq : atK ls k = some (lv, .ref a)) {dn dp : Addr} (ha : (a, d) ∈ ns) (hn : (nx a, dn) ∈ ns) (hpv : (pv a, dp) ∈ ns) (he : ev a = .int endV te)
    (hsz : xs.length ≤ sizeLine) (hso : ls.length ≤ sizeLine)
    (h : ∀ s' t', St B fs (ttlC w knd B x dx dd tm dt rt ld (sz - 1) mx t' u tl m (delK xs k) (delK ls k) ev kv (upd nx (pv a) (nx a)) (upd pv (nx a) (pv a)) ns l) s' → R (.ok (.ret .none)) s') :
    codeAny (model pw w) A (.call (.ref 1223) ⟨[.ref x, key], []⟩) R s := by
  refine callS (binds := [(S "self", .ref x), (S "key", key), (S "cache_delitem", .ref 777)]) (names := [S "self", S "key", S "cache_delitem"]) (locs := [(S "cache_delitem", .ref 777), (S "key", key), (S "self", .ref x)]) fnOk1223 T S₀ r (bndT T S₀ [.ref 777] rfl (by kernel_rfl) (by rfl) (by kernel_rfl)) rfl rfl (by kernel_rfl) (by decide +kernel) (by kernel_rfl) fun L s' r₁ S₁ => ?_
  refine wpAny_execs_cons ?_
  walk_at "m_wk"
  refine Call_ ?_
  walk_at "m_wk"
  refine callFn T (by kernel_rfl) ?_
  refine args_cons ?_
  walk_at "m_wk"
  refine args_cons ?_
  walk_at "m_wk"
  refine args_nil ⟨⟨_, _, by assumption⟩, wpAny_call ?_⟩
  refine c777 c1270 T (r₁.less (m := n + 3) (by omega)) (St.perm (by assumption) (by walk_at "m_pm")) (by walk_at "m_nin") (by simp) hsz hk hp fun s' t' S' => ?_
  walk_at "m_wk"
  refine methodCall_KW ?_
  walk_at "m_wk"
  refine dictPopM (d := ld) (by assumption) (by walk_at "m_mem") ?_
  refine callB ?_
  refine args_cons ?_
  walk_at "m_wk"
  refine args_nil ?_
  refine popS (d := ld) (by assumption) (by walk_at "m_updt") r₁.u1 hk hq (fun s₄ S₄ => ?_) hso
  walk_at "m_wk"
  refine methodCall_KW ?_
  walk_at "m_wk"
  refine methSlot (f := 1174) T (by assumption) (by walk_at "m_mem") (by walk_at "m_mem") (by kernel_rfl) ?_
  refine callFn0 T (by assumption) (by kernel_rfl) (wpAny_call ?_)
  refine c1174 T (r₁.less (m := n + 2) (by omega)) nd ha hn hpv (by assumption) (by walk_at "m_rep") fun s' S' => ?_
  walk_at "m_wk"
  walk_at "m_tcall"
  walk_at "m_wk"
  refine getExp T (by assumption) (by walk_at "m_mem") (by walk_at "m_mem") he rfl fun s' S' => ?_
  walk_at "m_wk"
  rw [if_neg (by decide)]
  walk_at "m_wk"
  exact h _ _ (St.done L S' (by walk_at "m_pm"))
end

end
-- TT6
section
set_option maxRecDepth 100000
set_option maxHeartbeats 400000
section
variable {w : World} {A : Around} {E : Value → Shared → Prop} {B : Shared} {fs : List Env} {l l' : Cells} {s : Shared} {R : Result → Shared → Prop} {n : Nat} {K : Type} [DecidableEq K] {knd : AnyKind pw w K}
  {a d : Addr} {ns : List (Addr × Addr)} {ev kv : Addr → Value} {nx pv : Addr → Addr} {v : Addr} {e key : Value} {expr : Bool} {x dx dd tm dt rt ld : Addr} {mx sz m : Int} {t u tl te : Tok} {xs ls : List (K × Value × Value)} {k : K} {p : Value × Value} {lv : Value}
/-- the first of the links is taken and handed out -/
theorem c1260 {ls' : List (K × Value × Value)} (T : Stat (KK w) B.heap) (r : Room (n + 8) fs A) (S₀ : St B fs (ttlC w knd B x dx dd tm dt rt ld sz mx t u tl m xs ls ev kv nx pv ns l) s) (h0 : 0 ≤ m) (nd : (ns.map (·.1)).Nodup) (hl : ls = (k, lv, .ref a) :: ls') (hp : atK xs k = some p)
    {dn dp dr da : Addr} (ha : (a, d) ∈ ns) (hn : (nx a, dn) ∈ ns) (hpv : (pv a, dp) ∈ ns) (he : ev a = .int endV te) (hrt : (rt, dr) ∈ ns) (hfa : (nx rt, da) ∈ ns) (hfe : nx rt ≠ rt → ∃ te, ev (nx rt) = .int endV te) (hsz : xs.length ≤ sizeLine) (hso : ls.length ≤ sizeLine)
    (h : ∀ b s' t', St B fs ((b, objC { cls := .type "tuple", data := .seq #[lv, p.2] }) :: ttlC w knd B x dx dd tm dt rt ld (sz - 1) mx t' u tl m (delK xs k) (delK ls k) ev kv (upd nx (pv a) (nx a)) (upd pv (nx a) (pv a)) ns l) s' → R (.ok (.ret (.ref b))) s') :
    codeAny (model pw w) A (.call (.ref 1260) ⟨[.ref x], []⟩) R s := by
  refine callS (binds := [(S "self", .ref x)]) (names := [S "self"]) (locs := [(S "self", .ref x)]) fnOk1260 T S₀ r (BindsTo.of_eq (by kernel_rfl)) rfl rfl (by kernel_rfl) (by decide +kernel) (by kernel_rfl) fun L s' r₁ S₁ => ?_
  have hkey : knd.is B.heap k lv := S₁.keys (d := ld) (by walk_at "m_mem") (k, lv, .ref a) (by rw [hl]; exact List.mem_cons_self)
  have hq : atK ls k = some (lv, .ref a) := by rw [hl]; simp [atK]
  refine wpAny_execs_cons ?_
  walk_at "m_twith"
  walk_at "m_wk"
  refine methodCall_KW ?_
  walk_at "m_wk"
  refine methFn (f := 1253) T (by assumption) (by walk_at "m_mem") (by walk_at "m_mem") (by kernel_rfl) ?_ (by walk_at "m_nin")
  refine callFn T (by kernel_rfl) ?_
  refine args_cons ?_
  walk_at "m_wk"
  refine args_nil ⟨⟨_, _, by assumption⟩, wpAny_call ?_⟩
  refine c1253 T (r₁.less (m := n + 3) (by omega)) (St.perm (by assumption) (by walk_at "m_pm")) hrt hfa hfe fun s' v S' => ?_
  walk_at "m_wk"
  refine wpAny_Try_except ?_
  walk_at "m_wk"
  refine Call_ ?_
  refine ldB T (by assumption) (by kernel_rfl) PyProof.Rows.Boot.«next» ?_
  refine PyProof.Rows.callWith_builtin1 ?_
  refine args_cons ?_
  refine Call_ ?_
  refine ldB T (by assumption) (by kernel_rfl) PyProof.Rows.Boot.«iter» ?_
  refine PyProof.Rows.callWith_builtin1 ?_
  refine args_cons ?_
  walk_at "m_wk"
  refine args_nil ?_
  refine iterS (d := ld) (by assumption) (by walk_at "m_mem") fun I s' ep S' he => ?_
  refine args_nil ?_
  refine nextS (d := ld) (by assumption) (by walk_at "m_mem") (by walk_at "m_updt") he (by rw [hl]; rfl) fun s' S' he => ?_
  have S' := S'.tail
  walk_at "m_wk"
  refine methodCall_KW ?_
  walk_at "m_wk"
  refine methCls (f := 763) T (by assumption) (by kernel_rfl) fun s' S' => ?_
  refine callFn T (by kernel_rfl) ?_
  refine args_cons ?_
  walk_at "m_wk"
  refine args_cons ?_
  walk_at "m_wk"
  refine args_nil ⟨⟨_, _, by assumption⟩, wpAny_call ?_⟩
  refine c763 c1270 T (r₁.less (m := n + 3) (by omega)) (St.perm (l' := (x, _) :: (dx, _) :: (dd, _) :: _) (by assumption) (by walk_at "m_pm")) hkey hp fun s' S' => ?_
  walk_at "m_wk"
  refine delOwn (f := 1223) T (by assumption) (by walk_at "m_mem") (by walk_at "m_mem") (by kernel_rfl) (by kernel_rfl) ?_
  refine wpAny_call ?_
  refine c1223 (d := d) (dn := dn) (dp := dp) T (r₁.less (m := n + 5) (by omega)) (St.perm (by assumption) (by walk_at "m_pm")) nd hkey hp hq ha hn hpv (by assumption) hsz hso fun s' t' S' => ?_
  walk_at "m_wk"
  refine wpAny_Tuple ?_
  refine wpAny_items_cons ?_
  walk_at "m_wk"
  refine wpAny_items_cons ?_
  walk_at "m_wk"
  refine wpAny_items_nil ?_
  refine ⟨by rw [sizeLine_eq]; simp, ?_⟩
  have S' := St.push (c := objC { cls := .type "tuple", data := .seq #[lv, p.2] }) S' (o := { cls := .type "tuple", data := .seq #[lv, p.2] }) rfl s'.toks
  walk_at "m_wk"
  walk_at "m_tout"
  exact h _ _ _ (St.done L (by assumption) (by walk_at "m_pm"))
end

end
-- TT7
section
set_option maxRecDepth 100000
set_option maxHeartbeats 400000
section
variable {w : World} {A : Around} {E : Value → Shared → Prop} {B : Shared} {fs : List Env} {l l' : Cells} {s : Shared} {R : Result → Shared → Prop} {n : Nat} {K : Type} [DecidableEq K] {knd : AnyKind pw w K}
  {a d : Addr} {ns : List (Addr × Addr)} {ev kv : Addr → Value} {nx pv nx' pv' : Addr → Addr} {e key v : Value} {expr : Bool} {x dx dd tm dt rt ld : Addr} {mx sz sz' m : Int} {t u tl te : Tok} {xs ls xs' ls' : List (K × Value × Value)} {k : K} {p : Value × Value} {lv : Value}
/-- what Cache.__setitem__ does to a TTL cache's cells -/
def TSets (w : World) (B : Shared) (knd : AnyKind pw w K) (n : Nat) (x dx dd tm dt rt ld : Addr) (key v : Value) (sz sz' mx : Int) (u tl : Tok) (m : Int) (xs ls xs' ls' : List (K × Value × Value)) (ev kv : Addr → Value) (nx pv nx' pv' : Addr → Addr) (ns : List (Addr × Addr)) : Prop :=
  ∀ (A : Around) (fs : List Env) (s : Shared) (q : Cells) (t : Tok) (R : Result → Shared → Prop), Room n fs A → St B fs (ttlC w knd B x dx dd tm dt rt ld sz mx t u tl m xs ls ev kv nx pv ns q) s →
    (∀ s' t', St B fs (ttlC w knd B x dx dd tm dt rt ld sz' mx t' u tl m xs' ls' ev kv nx' pv' ns q) s' → R (.ok (.ret .none)) s') → codeAny (model pw w) A (.call (.ref 770) ⟨[.ref x, key, v], []⟩) R s

/-- setitem of TTL, a new key -/
theorem c1215_new (T : Stat (KK w) B.heap) {n' : Nat} (hn' : n' ≤ n + 5) (r : Room (n + 6) fs A) (S₀ : St B fs (ttlC w knd B x dx dd tm dt rt ld sz mx t u tl m xs ls ev kv nx pv ns l) s) (h0 : 0 ≤ m) (nd : (ns.map (·.1)).Nodup) (hk : knd.is B.heap k key)
    (hset : TSets w B knd n' x dx dd tm dt rt ld key v sz sz' mx u tl (m + 1) xs ls xs' ls' ev kv nx pv nx' pv' ns) (hq : atK ls' k = none)
    {dr da dp : Addr} (hrt : (rt, dr) ∈ ns) (hfa : (nx rt, da) ∈ ns) (hpv : (pv' rt, dp) ∈ ns) (hfe : nx rt ≠ rt → ∃ te, ev (nx rt) = .int endV te) (hso : ls'.length ≤ sizeLine)
    (h : ∀ s' t' te a d, a ∉ ns.map (·.1) → St B fs (ttlC w knd B x dx dd tm dt rt ld sz' mx t' u tl m xs' (putK ls' k key (.ref a)) (upd ev a (.int endV te)) (upd kv a key) (upd (upd nx' a rt) (pv' rt) a) (upd (upd pv' a (pv' rt)) rt a) ((a, d) :: ns) l) s' → R (.ok (.ret .none)) s') :
    codeAny (model pw w) A (.call (.ref 1215) ⟨[.ref x, key, v], []⟩) R s := by
  refine callS (binds := [(S "self", .ref x), (S "key", key), (S "value", v), (S "cache_setitem", .ref 770)]) (names := [S "self", S "key", S "value", S "cache_setitem"]) (locs := [(S "cache_setitem", .ref 770), (S "value", v), (S "key", key), (S "self", .ref x)]) fnOk1215 T S₀ r
    (bndT T S₀ [.ref 770] rfl (by kernel_rfl) (by rfl) (by kernel_rfl)) rfl rfl (by kernel_rfl) (by decide +kernel) (by kernel_rfl) fun L s' r₁ S₁ => ?_
  refine wpAny_execs_cons ?_
  walk_at "m_twith"
  walk_at "m_wk"
  refine methodCall_KW ?_
  walk_at "m_wk"
  refine methFn (f := 1253) T (by assumption) (by walk_at "m_mem") (by walk_at "m_mem") (by kernel_rfl) ?_ (by walk_at "m_nin")
  refine callFn T (by kernel_rfl) ?_
  refine args_cons ?_
  walk_at "m_wk"
  refine args_nil ⟨⟨_, _, by assumption⟩, wpAny_call ?_⟩
  refine c1253 T (r₁.less (m := n + 3) (by omega)) (St.perm (by assumption) (by walk_at "m_pm")) hrt hfa hfe fun s' v' S' => ?_
  walk_at "m_wk"
  refine Call_ ?_
  walk_at "m_wk"
  refine callFn T (by kernel_rfl) ?_
  refine args_cons ?_
  walk_at "m_wk"
  refine args_cons ?_
  walk_at "m_wk"
  refine args_cons ?_
  walk_at "m_wk"
  refine args_nil ⟨⟨_, _, by assumption⟩, wpAny_call ?_⟩
  refine hset _ _ _ _ _ _ (r₁.less (m := n') (by omega)) (St.perm (by assumption) (by walk_at "m_pm")) fun s' t' S' => ?_
  walk_at "m_wk"
  walk_at "m_tout"
  walk_at "m_wk"
  refine methodCall_KW ?_
  walk_at "m_wk"
  refine dictGetM (d := ld) (by assumption) (by walk_at "m_mem") ?_
  refine callB ?_
  refine args_cons ?_
  walk_at "m_wk"
  refine args_nil ?_
  refine dgetS (d := ld) (by assumption) (by walk_at "m_mem") r₁.u1 hk fun s' S' => ?_
  rw [hq]
  dsimp only [Option.map_none, Option.getD_none]
  walk_at "m_wk"
  rw [if_pos (by rfl)]
  walk_at "m_wk"
  refine methodCall_KW ?_
  walk_at "m_wk"
  refine methCls (f := 1178) T (by assumption) (by kernel_rfl) fun s' S' => ?_
  refine callFn T (by kernel_rfl) ?_
  refine args_cons ?_
  walk_at "m_wk"
  refine args_nil ⟨⟨_, _, by assumption⟩, wpAny_call ?_⟩
  refine makeS (fun d => slotC 1178 d #[]) T (by assumption) (by kernel_rfl) (fI := 1160) (by kernel_rfl) (by kernel_rfl) (fun _ => ⟨rfl, rfl, rfl, rfl⟩) fun b d s' S' => ?_
  refine c1160_1 T (r₁.make.less (m := n + 2) (by omega)) S' fun s' S' => ⟨rfl, ?_⟩
  walk_at "m_wk"
  refine putS (d := ld) (by assumption) (by walk_at "m_updt") r₁.u1 hk (fun s₅ S₅ => ?_) hso
  walk_at "m_wk"
  refine setSlot (sl' := #[some (.int (100 + lifeV) _), some key]) T (by assumption) (by walk_at "m_updt") (by walk_at "m_mem") ls_e rfl fun s' S' => ?_
  walk_at "m_wk"
  refine setSlot (sl' := #[some (.int (100 + lifeV) _), some key, some (.ref rt)]) T (by assumption) (by walk_at "m_updt") (by walk_at "m_mem") ls_n rfl fun s' S' => ?_
  walk_at "m_wk"
  refine getPrev T (by assumption) (by walk_at "m_mem") (by walk_at "m_mem") fun s' S' => ?_
  walk_at "m_wk"
  refine setSlot (sl' := lnk (.int (100 + lifeV) _) key (.ref rt) (.ref (pv' rt))) T (by assumption) (by walk_at "m_updt") (by walk_at "m_mem") ls_p rfl fun s' S' => ?_
  walk_at "m_wk"
  refine setNext T (by assumption) (by walk_at "m_updn") (by walk_at "m_mem") fun s' S' => ?_
  walk_at "m_wk"
  refine setPrev T (by assumption) (by walk_at "m_updn") (by walk_at "m_mem") fun s' S' => ?_
  walk_at "m_wk"
  have hb : b ∉ ns.map (·.1) := St.freshNode S' (by walk_at "m_pm")
  have hmr : rt ∈ ns.map (·.1) := List.mem_map.mpr ⟨_, hrt, rfl⟩
  have hmp : pv' rt ∈ ns.map (·.1) := List.mem_map.mpr ⟨_, hpv, rfl⟩
  have S2 := St.done L (l := (x, _) :: (dx, _) :: (dd, _) :: (tm, _) :: (dt, _) :: (ld, _) :: (b, _) :: (d, _) :: (nodeCells 1178 (lf ev kv (upd nx' (pv' rt) b) (upd pv' rt b)) ns ++ l)) S' (by walk_at "m_pm")
  refine' h _ _ _ b d hb ?k
  case k =>
    unfold ttlC
    rw [newNode hb hmr hmp]
    exact S2
end

end
-- TT8
section
set_option maxRecDepth 100000
set_option maxHeartbeats 400000
section
variable {w : World} {A : Around} {E : Value → Shared → Prop} {B : Shared} {fs : List Env} {l l' : Cells} {s : Shared} {R : Result → Shared → Prop} {n : Nat} {K : Type} [DecidableEq K] {knd : AnyKind pw w K}
  {a d : Addr} {ns : List (Addr × Addr)} {ev kv : Addr → Value} {nx pv nx' pv' : Addr → Addr} {e key v : Value} {expr : Bool} {x dx dd tm dt rt ld : Addr} {mx sz sz' m : Int} {t u tl te : Tok} {xs ls xs' ls' : List (K × Value × Value)} {k : K} {p : Value × Value} {lv : Value}
theorem tsets_room (T : Stat (KK w) B.heap) (hsz : xs.length ≤ sizeLine) (hk : knd.is B.heap k key) (hp : atK xs k = none) (hmx : sz < mx) (h0 : 0 ≤ sz) :
    TSets w B knd (n + 3) x dx dd tm dt rt ld key v sz (sz + 1) mx u tl m xs ls (putK xs k key v) ls ev kv nx pv nx pv ns :=
  fun _ _ _ _ _ _ r S₀ h => c770_new c1270 T r S₀ (by walk_at "m_nin") (by simp) hsz hk hp hmx h0 fun _ _ S' => h _ _ S'
theorem tsets_there (T : Stat (KK w) B.heap) (hsz : xs.length ≤ sizeLine) (hk : knd.is B.heap k key) (hp : atK xs k = some p) (hmx : 0 < mx) :
    TSets w B knd (n + 3) x dx dd tm dt rt ld key v sz sz mx u tl m xs ls (putK xs k key v) ls ev kv nx pv nx pv ns :=
  fun _ _ _ _ _ _ r S₀ h => c770_there c1270 T r S₀ (by walk_at "m_nin") (by simp) hsz hk hp hmx fun _ S' => h _ _ S'
theorem pops1260 {k0 : K} {ls' : List (K × Value × Value)} (T : Stat (KK w) B.heap) (h0 : 0 ≤ m) (nd : (ns.map (·.1)).Nodup) (hl : ls = (k0, lv, .ref a) :: ls') (hp : atK xs k0 = some p)
    {dn dp dr da : Addr} (ha : (a, d) ∈ ns) (hn : (nx a, dn) ∈ ns) (hpv : (pv a, dp) ∈ ns) (he : ev a = .int endV te) (hrt : (rt, dr) ∈ ns) (hfa : (nx rt, da) ∈ ns) (hfe : nx rt ≠ rt → ∃ te, ev (nx rt) = .int endV te) (hsz : xs.length ≤ sizeLine) (hso : ls.length ≤ sizeLine) :
    Pops w B knd 1260 (n + 8) 1270 x dx dd sz mx u [(S "_TimedCache__timer", .ref tm), (S "_TTLCache__root", .ref rt), (S "_TTLCache__links", .ref ld), (S "_TTLCache__ttl", .int lifeV tl)] xs (delK xs k0)
      ((tm, instC 1044 dt) :: (dt, timC m) :: (ld, dictC knd B ls) :: nodeCells 1178 (lf ev kv nx pv) ns) ((tm, instC 1044 dt) :: (dt, timC m) :: (ld, dictC knd B (delK ls k0)) :: nodeCells 1178 (lf ev kv (upd nx (pv a) (nx a)) (upd pv (nx a) (pv a))) ns) :=
  fun _ _ _ _ _ _ r S₀ h => c1260 (d := d) (dn := dn) (dp := dp) (dr := dr) (da := da) T r S₀ h0 nd hl hp ha hn hpv he hrt hfa hfe hsz hso fun _ _ _ S' => h _ _ _ S'.tail
theorem tsets_full {k0 : K} {ls' : List (K × Value × Value)} (T : Stat (KK w) B.heap) (h0 : 0 ≤ m) (nd : (ns.map (·.1)).Nodup) (hl : ls = (k0, lv, .ref a) :: ls') (hp0 : atK xs k0 = some p)
    {dn dp dr da : Addr} (ha : (a, d) ∈ ns) (hn : (nx a, dn) ∈ ns) (hpv : (pv a, dp) ∈ ns) (he : ev a = .int endV te) (hrt : (rt, dr) ∈ ns) (hfa : (nx rt, da) ∈ ns) (hfe : nx rt ≠ rt → ∃ te, ev (nx rt) = .int endV te) (hsz : xs.length ≤ sizeLine) (hso : ls.length ≤ sizeLine)
    (hd1 : (delK xs k0).length ≤ sizeLine) (hk : knd.is B.heap k key) (hp : atK xs k = none) (hmx : sz = mx) (hs0 : 0 < sz) :
    TSets w B knd (n + 9) x dx dd tm dt rt ld key v sz (sz - 1 + 1) mx u tl m xs ls (putK (delK xs k0) k key v) (delK ls k0) ev kv nx pv (upd nx (pv a) (nx a)) (upd pv (nx a) (pv a)) ns :=
  fun _ _ _ _ _ _ r S₀ h => c770_full (n := n + 6) c1270 T r S₀ (pops1260 (d := d) (dn := dn) (dp := dp) (dr := dr) (da := da) T h0 nd hl hp0 ha hn hpv he hrt hfa hfe hsz hso) (by kernel_rfl) (by kernel_rfl) (by walk_at "m_nin") (by walk_at "m_nin") (by simp) hd1 hk hp hmx hs0 fun _ _ S' => h _ _ S'
end

end
-- TT9
section
set_option maxRecDepth 100000
set_option maxHeartbeats 400000
section
variable {w : World} {A : Around} {E : Value → Shared → Prop} {B : Shared} {fs : List Env} {l l' : Cells} {s : Shared} {R : Result → Shared → Prop} {n : Nat} {K : Type} [DecidableEq K] {knd : AnyKind pw w K}
  {a : Addr} {ns : List (Addr × Addr)} {ev kv : Addr → Value} {nx pv nx' pv' : Addr → Addr} {e key v : Value} {expr : Bool} {x dx dd tm dt rt ld : Addr} {mx sz sz' m : Int} {t u tl te : Tok} {xs ls xs' ls' : List (K × Value × Value)} {k : K} {p : Value × Value} {lv : Value}
/-- setitem of TTL, the key is there -/
theorem c1215_there (T : Stat (KK w) B.heap) {n' : Nat} (hn' : n' ≤ n + 5) (r : Room (n + 6) fs A) (S₀ : St B fs (ttlC w knd B x dx dd tm dt rt ld sz mx t u tl m xs ls ev kv nx pv ns l) s) (h0 : 0 ≤ m) (nd : (ns.map (·.1)).Nodup) (hk : knd.is B.heap k key)
    (hset : TSets w B knd n' x dx dd tm dt rt ld key v sz sz' mx u tl (m + 1) xs ls xs' ls' ev kv nx pv nx' pv' ns) (hq : atK ls' k = some (lv, .ref a))
    {dr da d dn dp dq : Addr} (hrt : (rt, dr) ∈ ns) (hfa : (nx rt, da) ∈ ns) (hfe : nx rt ≠ rt → ∃ te, ev (nx rt) = .int endV te) (ha : (a, d) ∈ ns) (hn : (nx' a, dn) ∈ ns) (hpv : (pv' a, dp) ∈ ns) (hrp : (upd pv' (nx' a) (pv' a) rt, dq) ∈ ns) (hso : ls'.length ≤ sizeLine) (hso' : (delK ls' k).length ≤ sizeLine)
    (h : ∀ s' t' te, St B fs (ttlC w knd B x dx dd tm dt rt ld sz' mx t' u tl m xs' (putK (delK ls' k) k key (.ref a)) (upd ev a (.int endV te)) kv (upd (upd (upd nx' (pv' a) (nx' a)) a rt) (upd pv' (nx' a) (pv' a) rt) a) (upd (upd (upd pv' (nx' a) (pv' a)) a (upd pv' (nx' a) (pv' a) rt)) rt a) ns l) s' → R (.ok (.ret .none)) s') :
    codeAny (model pw w) A (.call (.ref 1215) ⟨[.ref x, key, v], []⟩) R s := by
  refine callS (binds := [(S "self", .ref x), (S "key", key), (S "value", v), (S "cache_setitem", .ref 770)]) (names := [S "self", S "key", S "value", S "cache_setitem"]) (locs := [(S "cache_setitem", .ref 770), (S "value", v), (S "key", key), (S "self", .ref x)]) fnOk1215 T S₀ r
    (bndT T S₀ [.ref 770] rfl (by kernel_rfl) (by rfl) (by kernel_rfl)) rfl rfl (by kernel_rfl) (by decide +kernel) (by kernel_rfl) fun L s' r₁ S₁ => ?_
  refine wpAny_execs_cons ?_
  walk_at "m_twith"
  walk_at "m_wk"
  refine methodCall_KW ?_
  walk_at "m_wk"
  refine methFn (f := 1253) T (by assumption) (by walk_at "m_mem") (by walk_at "m_mem") (by kernel_rfl) ?_ (by walk_at "m_nin")
  refine callFn T (by kernel_rfl) ?_
  refine args_cons ?_
  walk_at "m_wk"
  refine args_nil ⟨⟨_, _, by assumption⟩, wpAny_call ?_⟩
  refine c1253 T (r₁.less (m := n + 3) (by omega)) (St.perm (by assumption) (by walk_at "m_pm")) hrt hfa hfe fun s' v' S' => ?_
  walk_at "m_wk"
  refine Call_ ?_
  walk_at "m_wk"
  refine callFn T (by kernel_rfl) ?_
  refine args_cons ?_
  walk_at "m_wk"
  refine args_cons ?_
  walk_at "m_wk"
  refine args_cons ?_
  walk_at "m_wk"
  refine args_nil ⟨⟨_, _, by assumption⟩, wpAny_call ?_⟩
  refine hset _ _ _ _ _ _ (r₁.less (m := n') (by omega)) (St.perm (by assumption) (by walk_at "m_pm")) fun s' t' S' => ?_
  walk_at "m_wk"
  walk_at "m_tout"
  walk_at "m_wk"
  refine methodCall_KW ?_
  walk_at "m_wk"
  refine dictGetM (d := ld) (by assumption) (by walk_at "m_mem") ?_
  refine callB ?_
  refine args_cons ?_
  walk_at "m_wk"
  refine args_nil ?_
  refine dgetS (d := ld) (by assumption) (by walk_at "m_mem") r₁.u1 hk fun s' S' => ?_
  rw [hq]
  dsimp only [Option.map_some, Option.getD_some]
  walk_at "m_wk"
  rw [if_neg (by simp)]
  walk_at "m_wk"
  refine methodCall_KW ?_
  walk_at "m_wk"
  refine dictPopM (d := ld) (by assumption) (by walk_at "m_mem") ?_
  refine callB ?_
  refine args_cons ?_
  walk_at "m_wk"
  refine args_nil ?_
  refine popS (d := ld) (by assumption) (by walk_at "m_updt") r₁.u1 hk hq (fun s₄ S₄ => ?_) hso
  walk_at "m_wk"
  refine putS (d := ld) (by assumption) (by walk_at "m_updt") r₁.u1 hk (fun s₅ S₅ => ?_) hso'
  walk_at "m_wk"
  refine methodCall_KW ?_
  walk_at "m_wk"
  refine methSlot (f := 1174) T (by assumption) (by walk_at "m_mem") (by walk_at "m_mem") (by kernel_rfl) ?_
  refine callFn0 T (by assumption) (by kernel_rfl) (wpAny_call ?_)
  refine c1174 T (r₁.less (m := n + 2) (by omega)) nd ha hn hpv (by assumption) (by walk_at "m_rep") fun s' S' => ?_
  walk_at "m_wk"
  refine setExp T (by assumption) (by walk_at "m_updn") (by walk_at "m_mem") fun s' S' => ?_
  walk_at "m_wk"
  refine setNext T (by assumption) (by walk_at "m_updn") (by walk_at "m_mem") fun s' S' => ?_
  walk_at "m_wk"
  refine getPrev T (by assumption) (by walk_at "m_mem") (by walk_at "m_mem") fun s' S' => ?_
  walk_at "m_wk"
  refine setPrev T (by assumption) (by walk_at "m_updn") (by walk_at "m_mem") fun s' S' => ?_
  walk_at "m_wk"
  refine setNext T (by assumption) (by walk_at "m_updn") (by walk_at "m_mem") fun s' S' => ?_
  walk_at "m_wk"
  refine setPrev T (by assumption) (by walk_at "m_updn") (by walk_at "m_mem") fun s' S' => ?_
  walk_at "m_wk"
  rw [show (100 + lifeV : Int) = endV from rfl] at S'
  exact h _ _ _ (St.done L S' (by walk_at "m_pm"))
end

end
-- TTA
section
set_option maxRecDepth 100000
set_option maxHeartbeats 400000
section
variable {w : World} {A : Around} {E : Value → Shared → Prop} {B : Shared} {fs : List Env} {l l' : Cells} {s : Shared} {R : Result → Shared → Prop} {n : Nat} {K : Type} [DecidableEq K] {knd : AnyKind pw w K} {C : Addr} {more : Names}
  {a d : Addr} {ns : List (Addr × Addr)} {ev kv : Addr → Value} {nx pv nx' pv' : Addr → Addr} {e key v : Value} {expr : Bool} {x dx dd tm dt rt ld : Addr} {mx sz sz' m : Int} {t u tl te : Tok} {xs ls xs' ls' : List (K × Value × Value)} {k : K} {p : Value × Value} {lv : Value}
/-- the length of the base class -/
theorem c805 (hC : C ∈ cacheCls) (T : Stat (KK w) B.heap) (r : Room (n + 3) fs A) (S₀ : St B fs ((x, instC C dx) :: (dx, idC (baseN dd sz mx t u more)) :: (dd, dictC knd B xs) :: l) s) (hsz : xs.length ≤ sizeLine)
    (h : ∀ s' t', St B fs ((x, instC C dx) :: (dx, idC (baseN dd sz mx t u more)) :: (dd, dictC knd B xs) :: l) s' → R (.ok (.ret (.int xs.length t'))) s') :
    codeAny (model pw w) A (.call (.ref 805) ⟨[.ref x], []⟩) R s := by
  refine callS (binds := [(S "self", .ref x)]) (names := [S "self"]) (locs := [(S "self", .ref x)]) fnOk805 T S₀ r (BindsTo.of_eq (by kernel_rfl)) rfl rfl (by kernel_rfl) (by decide +kernel) (by kernel_rfl) fun L s' r₁ S₁ => ?_
  refine wpAny_execs_cons ?_
  walk_at "m_wk"
  refine Call_ ?_
  refine ldB T (by assumption) (by kernel_rfl) PyProof.Rows.Boot.«len» ?_
  refine PyProof.Rows.callWith_builtin1 ?_
  refine args_cons ?_
  walk_at "m_wk"
  refine args_nil ?_
  refine dlenS (by assumption) (by walk_at "m_mem") hsz fun s' t' S' => ?_
  exact h _ _ (St.tail (St.pop S'))
/-- the length of a TTL cache -/
theorem c1072_ttl (T : Stat (KK w) B.heap) (r : Room (n + 5) fs A) (S₀ : St B fs (ttlC w knd B x dx dd tm dt rt ld sz mx t u tl m xs ls ev kv nx pv ns l) s) (h0 : 0 ≤ m)
    {dr da : Addr} (hrt : (rt, dr) ∈ ns) (hfa : (nx rt, da) ∈ ns) (hfe : nx rt ≠ rt → ∃ te, ev (nx rt) = .int endV te) (hsz : xs.length ≤ sizeLine)
    (h : ∀ s' t', St B fs (ttlC w knd B x dx dd tm dt rt ld sz mx t u tl m xs ls ev kv nx pv ns l) s' → R (.ok (.ret (.int xs.length t'))) s') :
    codeAny (model pw w) A (.call (.ref 1072) ⟨[.ref x], []⟩) R s := by
  refine callS (binds := [(S "self", .ref x), (S "cache_len", .ref 805)]) (names := [S "self", S "cache_len"]) (locs := [(S "cache_len", .ref 805), (S "self", .ref x)]) fnOk1072 T S₀ r (bndT T S₀ [.ref 805] rfl (by kernel_rfl) (by rfl) (by kernel_rfl)) rfl rfl (by kernel_rfl) (by decide +kernel) (by kernel_rfl) fun L s' r₁ S₁ => ?_
  refine wpAny_execs_cons ?_
  refine kw_execN ?_
  walk_at "m_wk"
  refine withIn (by assumption) (by assumption) (fe := 1020) (fx := 1027) (by walk_at "m_mem") (by walk_at "m_mem") (by kernel_rfl) (by kernel_rfl) ?_
  refine wpAny_call (c1020 (by assumption) (r₁.less (m := 0 + 3) (by omega)) (St.perm (by assumption) (by walk_at "m_pm")) fun s' t S' => ?_)
  walk_at "m_wk"
  refine methodCall_KW ?_
  walk_at "m_wk"
  refine methFn (f := 1253) T (by assumption) (by walk_at "m_mem") (by walk_at "m_mem") (by kernel_rfl) ?_ (by walk_at "m_nin")
  refine callFn T (by kernel_rfl) ?_
  refine args_cons ?_
  walk_at "m_wk"
  refine args_nil ⟨⟨_, _, by assumption⟩, wpAny_call ?_⟩
  refine c1253 T (r₁.less (m := n + 3) (by omega)) (St.perm (by assumption) (by walk_at "m_pm")) hrt hfa hfe fun s' v' S' => ?_
  walk_at "m_wk"
  refine Call_ ?_
  walk_at "m_wk"
  refine callFn T (by kernel_rfl) ?_
  refine args_cons ?_
  walk_at "m_wk"
  refine args_nil ⟨⟨_, _, by assumption⟩, wpAny_call ?_⟩
  refine c805 c1270 T (r₁.less (m := n + 3) (by omega)) (St.perm (by assumption) (by walk_at "m_pm")) hsz fun s' t' S' => ?_
  walk_at "m_wk"
  walk_at "m_tout"
  exact h _ _ (St.done L (by assumption) (by walk_at "m_pm"))
end

end
-- M22
section
set_option maxRecDepth 100000
theorem iteT {c : Bool} {a b : Prop} (hc : c = true) (h : a) : if c = true then a else b := by rw [if_pos hc]; exact h
theorem iteF {c : Bool} {a b : Prop} (hc : c = false) (h : b) : if c = true then a else b := by rw [hc, if_neg Bool.false_ne_true]; exact h
end
local macro_rules | `(tactic| walk_at "m_wki") => `(tactic| repeat (first | walk_at "m_wk1" | ((with_reducible show ite _ _ _); first | refine iteT rfl ?_ | refine iteF rfl ?_)))
section
set_option maxRecDepth 100000
theorem funFrames_at {h h' base : Heap} : ∀ {l : List Env}, h.FunFrames base l → (∀ b ∈ l.filterMap (·.frame), h'.get? b = h.get? b) → h'.FunFrames base l
  | [], _, _ => trivial
  | _ :: _, ⟨hk, ⟨L, o, hf, hn, ho, hd⟩, hr⟩, hb => by
    rw [List.filterMap_cons, hf] at hb
    exact ⟨hk, ⟨L, o, hf, hn, (hb L List.mem_cons_self).trans ho, hd⟩, funFrames_at hr fun b hm => hb b (List.mem_cons_of_mem _ hm)⟩
section
variable {B : Shared} {fs : List Env} {l l' : Cells} {s : Shared} {a : Addr} {c : Cell} {h' : Heap}
/-- all but one cell is kept, that one is dropped -/
theorem St.but (S : St B fs ((a, c) :: l) s) (hf : a ∉ fs.filterMap (·.frame)) (t : Nat) (k : Heap.ExtBut a s.heap h') : St B fs l { s with heap := h', toks := t } := by
  have hB := S.fresh _ List.mem_cons_self
  have hn := (List.nodup_cons.mp S.nd).1
  refine ⟨fun b o hb => k b o (fun e => by subst e; rw [hB] at hb; cases hb) (S.base b o hb), fun x hx => ?_, S.tail.nd, S.tail.fresh, funFrames_at S.frames fun b hb => ?_, S.gens, S.drawn, S.os, S.low, S.tail.big, S.tail.soft⟩
  · obtain ⟨o, h1, h2⟩ := S.has x (List.mem_cons_of_mem _ hx)
    exact ⟨o, k _ _ (fun e => hn (e ▸ List.mem_map.mpr ⟨x, hx, rfl⟩)) h1, h2⟩
  · obtain ⟨_, o, ho, _⟩ := S.frames.mem hb
    rw [ho]
    exact k _ _ (fun e => hf (e ▸ hb)) ho
end
theorem slots_mapSeq (o : Obj) (f : Array Value → Array Value) : (o.mapSeq f).slots = o.slots := by
  obtain ⟨c, d, dt, sl⟩ := o; cases dt <;> rfl
theorem dict_mapSeq (o : Obj) (f : Array Value → Array Value) : (o.mapSeq f).dict = o.dict := by
  obtain ⟨c, d, dt, sl⟩ := o; cases dt <;> rfl
/-- an iterator over a list -/
def litC (a : Addr) (i : Nat) : Cell := fun o => o.cls = .type "list_iterator" ∧ o.data = .fields #[.ref a, .int i 0]
section
variable {prog : Program} {w : World} {A : Around} {E : Value → Shared → Prop} {B : Shared} {fs : List Env} {l l' : Cells} {s : Shared} {a it D : Addr} {vs ys : List Value} {v : Value} {i : Nat}
theorem St.fields_off {c : Cell} (S : St B fs l s) (m : (it, c) ∈ l) (hc : ∀ o, c o → ∃ vs, o.data = .fields vs) : it ∉ fs.filterMap (·.frame) := fun hm => by
  obtain ⟨_, o, ho, hd⟩ := S.frames.mem hm
  obtain ⟨o', ho', hc'⟩ := S.has _ m
  rw [ho] at ho'; cases ho'
  obtain ⟨vs, h⟩ := hc _ hc'
  exact hd vs h
theorem iterL {Q : Value → Shared → Prop} (S : St B fs l s) (m : (a, listC vs) ∈ l) (h : ∀ it s', St B fs ((it, litC a 0) :: l) s' → Q (.ref it) s') : wpAny (model prog w) A (pyIter (.ref a)) Q E s :=
  wpAny_pyIter_list (S.list m) (h _ _ (S.push (c := litC a 0) ⟨rfl, rfl⟩ s.toks))
theorem iterIt {Q : Value → Shared → Prop} (S : St B fs l s) (m : (it, litC a i) ∈ l) (h : Q (.ref it) s) : wpAny (model prog w) A (pyIter (.ref it)) Q E s := by
  obtain ⟨o, ho, h1, h2⟩ := S.has _ m
  exact wpAny_pyIter_listiter ⟨o, ho, h1, h2⟩ h
theorem nextL {Q : Option Value → Shared → Prop} (S : St B fs l s) (u : Upd l (it, litC a i) (it, litC a (i + 1)) l') (m : (a, listC vs) ∈ l) (hx : vs[i]? = some v) (h : ∀ s', St B fs l' s' → Q (some v) s') :
    wpAny (model prog w) A (pyNext (.ref it)) Q E s := by
  obtain ⟨o, ho, h1, h2⟩ := S.has _ u.mem
  refine wpAny_pyNext_list_item ⟨o, ho, h1, h2⟩ (S.list m) (x := v) (by simpa using hx) fun h' hit hs => h _ ?_
  obtain ⟨o', ho', h1', h2'⟩ := hit
  exact S.set u s.toks hs ho' ⟨h1', h2'⟩ (.inr ⟨o, _, ho, h2⟩) fun hm => (S.fields_off u.mem (fun o h => ⟨_, h.2⟩) hm).elim
theorem endL {Q : Option Value → Shared → Prop} (hh : A.handled = none) (S : St B fs ((it, litC a i) :: l) s) (m : (a, listC vs) ∈ l) (hx : vs.length ≤ i) (h : ∀ s', St B fs l s' → Q none s') :
    wpAny (model prog w) A (pyNext (.ref it)) Q E s := by
  obtain ⟨o, ho, h1, h2⟩ := S.has _ List.mem_cons_self
  refine wpAny_pyNext_list_end hh ⟨o, ho, h1, h2⟩ (S.tail.list m) (by simpa using hx) fun h' hs => h _ (S.but (S.fields_off List.mem_cons_self fun o h => ⟨_, h.2⟩) s.toks hs)
theorem appendL {Q : Value → Shared → Prop} (S : St B fs l s) (u : Upd l (D, listC ys) (D, listC (ys ++ [v])) l') (hsz : ys.length ≤ sizeLine) (h : ∀ s', St B fs l' s' → Q .none s') :
    wpAny (model prog w) A (call (.builtin "list.append") [.ref D, v]) Q E s := by
  obtain ⟨o, ho, h1, h2, ⟨n, h3⟩, h4⟩ := S.has _ u.mem
  obtain ⟨n', hd'⟩ := Obj.data_mapSeq h3 (·.push v)
  refine wpAny_call_entry slot_list_append (S.list u.mem).typeIs entry_list_append ?_ (args_list_append _ _)
  show wpAny _ _ (updateSeq D (·.push v) >>= fun _ => ret .none) _ _ s
  refine wpAny_bind ?_
  refine wpAny_updateSeq ho h3 (wpAny_pure ⟨.none, rfl, h _ ?_⟩) (by simp; omega)
  refine S.set u s.toks (Heap.SameBut.update ..) (Heap.get?_update_self _ ho (Obj.isFreed_of_seq hd')) ⟨(Obj.cls_mapSeq ..).trans h1, (dict_mapSeq ..).trans h2, ⟨n', by rw [hd']; simp⟩, (slots_mapSeq ..).trans h4⟩ (.inl fun vs e => by rw [hd'] at e; cases e) fun hm => (notSoft_listC _ ⟨h1, h2, ⟨n, h3⟩, h4⟩ (S.soft _ u.mem hm)).elim

/-- a list comprehension's end -/
def CompR (B : Shared) (fs : List Env) (sc : Scope) (C D : Addr) (Q : Value → Shared → Prop) (r : Result) (s' : Shared) : Prop :=
  r = .ok .next ∧ ∃ l' xs, St B fs ((C, nsC sc xs) :: l') s' ∧ ∀ s'', St B fs l' s'' → Q (.ref D) s''
theorem compS {env : Env} {elt target iter : Expr} {ifs : List Expr} {scope : Scope} {pos : Pos} {cl : List (Str × Addr)} {Q : Value → Shared → Prop}
    (hclos : closureFor scope env = pure cl) (hkind : scope.kind = .function) (hcell : ∀ y ∈ scope.names, y.2 ≠ .cell) (hnames : ∀ y ∈ scope.names, y.2 = .local → scope.names.lookup y.1 = some .local)
    (h : wpAny (model prog w) A (eval iter env) (fun xv s₁ => wpAny (model prog w) A (pyIter xv) (fun it s₂ => ∃ l, St B fs l s₂ ∧
      ∀ C D s₃, St B fs ((C, nsC (relabel scope env) []) :: (D, listC []) :: l) s₃ → (∀ P E', P it s₃ → wpAny (model prog w) A (pyIter it) P E' s₃) ∧
        codeAny (model prog w) A (.compLoop (.ListComp elt [⟨target, iter, ifs, 0⟩] scope pos) 0 it (.ref D) (compEnvC scope cl C env)) (CompR B fs (relabel scope env) C D Q) s₃) E s₁) E s)
    (hs : ∀ x, foldedSetIterable iter env x = pure x := by intro _; rfl) :
    wpAny (model prog w) A (eval (.ListComp elt [⟨target, iter, ifs, 0⟩] scope pos) env) Q E s := by
  rw [eval_ListComp]
  refine wpAny_comprehension_free (use := none) rfl hs hclos hkind hnames (wpAny_mono h (fun xv s₁ h₁ => wpAny_mono h₁ (fun it s₂ h₂ => ?_) fun _ _ e => e) fun _ _ e => e)
  obtain ⟨l, S, hl⟩ := h₂
  refine wpAny_newObj_type (wpAny_newFunctionEnv hcell (by intro y hy; simp at hy) (fun h₁ hns hsb => ?_) hkind)
  have S1 := S.push (o := { cls := .type "list", data := .seq ([] : List Value).toArray }) (c := listC []) ⟨rfl, rfl, ⟨0, rfl⟩, rfl⟩ s₂.toks
  have hk : ∀ b o, (s₂.heap.push { cls := .type "list", data := .seq ([] : List Value).toArray }).get? b = some o → h₁.get? b = some o := fun b o e => hsb.extBut b o (Nat.ne_of_lt (Heap.lt_size e)) (Heap.get?_push_of_some _ e)
  obtain ⟨oL, es, ep, hL, d1, d2, d3⟩ := hns
  have S2 := S1.grow (a := (s₂.heap.push { cls := .type "list", data := .seq ([] : List Value).toArray }).objs.size) (o := oL) (c := nsC (relabel scope env) []) (s₂.toks + 0) hk (Heap.get?_none_of_le (Nat.le_refl _)) S1.none_at S1.size hL
    ⟨⟨es, ep, d1, d2, fun y => d3 y⟩, List.nodup_nil, hkind, fun p hp => nomatch hp⟩
  have hCf : (s₂.heap.push { cls := .type "list", data := .seq ([] : List Value).toArray }).objs.size ∉ fs.filterMap (·.frame) := fun hm => by
    obtain ⟨_, o, ho, _⟩ := S1.frames.mem hm
    exact absurd (Heap.lt_size ho) (Nat.lt_irrefl _)
  obtain ⟨h1, h2⟩ := hl _ _ _ S2
  have fin : ∀ r s', CompR B fs (relabel scope env) (s₂.heap.push { cls := .type "list", data := .seq ([] : List Value).toArray }).objs.size s₂.heap.objs.size Q r s' →
      compPost (model prog w) A E none Q (.ref s₂.heap.objs.size) (s₂.heap.push { cls := .type "list", data := .seq ([] : List Value).toArray }).objs.size r s' := by
    rintro r s' ⟨rfl, l', xs, S', hq⟩
    refine ⟨_, (S'.ns List.mem_cons_self).1, fun h' hs' => hq _ (S'.but hCf s'.toks hs'.extBut)⟩
  exact codeAny_compStart_list (codeAny_mono h2 fin) (h1 _ _ (codeAny_mono h2 fin))
end

end
-- M26
section
set_option maxRecDepth 100000
section
variable {M : Model} {A : Around} {E : Value → Shared → Prop} {B : Shared} {fs : List Env} {l l' : Cells} {s : Shared} {env : Env} {scope : Scope} {cl : List (Str × Addr)} {C : Addr} {xs xs' : Names} {x : Str} {v u : Value} {pos : Pos}
/-- names of a comprehension's own -/
theorem ldX {Q : Value → Shared → Prop} (S : St B fs l s) (m : (C, nsC (relabel scope env) xs) ∈ l) (mv : (x, v) ∈ xs) (h : Q v s) : wpAny M A (eval (.Name x pos) (compEnvC scope cl C env)) Q E s :=
  let ⟨n, nd, hk, hl⟩ := S.ns m
  wpAny_Name (wpAny_loadName_local hk (hl _ mv).1 n (lookup_of_mem nd mv) h) (hl _ mv).2
theorem stX {Q : Unit → Shared → Prop} (S : St B fs l s) (m : Upd l (C, nsC (relabel scope env) xs) (C, nsC (relabel scope env) xs') l') (p : Upd xs (x, u) (x, v) xs') (h : ∀ s', St B fs l' s' → Q () s') :
    wpAny M A (storeName (compEnvC scope cl C env) x v) Q E s := by
  obtain ⟨n, nd, hk, hl⟩ := S.ns m.mem
  refine wpAny_storeName_local (hl _ p.mem).1 n (fun h' hn hs => h _ ?_) (by show ((relabel scope env).kind == .class || ((relabel scope env).kind == .module && C != env.globals)) = false; rw [hk]; rfl)
  obtain ⟨o, es, ep, ho, hd, hk', hf⟩ := hn
  refine S.set m _ hs ho ⟨⟨es, ep, hd, hk', fun y => (hf y).trans (p.lookup nd y)⟩, (p.keys (f := (·.1)) rfl) ▸ nd, hk, ?_⟩ (.inl fun vs e => by rw [hd] at e; cases e) fun _ => soft_nsC
  intro q hq
  have : q.1 ∈ xs'.map (·.1) := List.mem_map.mpr ⟨q, hq, rfl⟩
  rw [p.keys (f := (·.1)) rfl] at this
  obtain ⟨r, hr, e⟩ := List.mem_map.mp this
  exact e ▸ hl r hr
theorem stXnew {Q : Unit → Shared → Prop} (S : St B fs l s) (m : Upd l (C, nsC (relabel scope env) xs) (C, nsC (relabel scope env) ((x, v) :: xs)) l') (hx : x ∉ xs.map (·.1)) (hl : scope.names.lookup x = some .local) (hd : (x == ("__debug__" : Str)) = false) (h : ∀ s', St B fs l' s' → Q () s') :
    wpAny M A (storeName (compEnvC scope cl C env) x v) Q E s := by
  obtain ⟨n, nd, hk, hls⟩ := S.ns m.mem
  have hl' : (relabel scope env).names.lookup x = some .local := lookup_relabel_local hl
  refine wpAny_storeName_local hl' n (fun h' hn hs => h _ ?_) (by show ((relabel scope env).kind == .class || ((relabel scope env).kind == .module && C != env.globals)) = false; rw [hk]; rfl)
  obtain ⟨o, es, ep, ho, hd', hk', hf⟩ := hn
  refine S.set m _ hs ho ⟨⟨es, ep, hd', hk', fun y => (hf y).trans (lookup_cons_new y)⟩, by rw [List.map_cons]; exact List.nodup_cons.mpr ⟨hx, nd⟩, hk, fun q hq => ?_⟩ (.inl fun vs e => by rw [hd'] at e; cases e) fun _ => soft_nsC
  rcases List.mem_cons.mp hq with rfl | hq
  · exact ⟨hl', hd⟩
  · exact hls q hq
end
end
local macro_rules | `(tactic| walk_at "m_wk1") => `(tactic| ((with_reducible show wpAny _ _ (eval (Expr.Name _ _) (compEnvC _ _ _ _)) _ _ _); refine ldX (by assumption) (by walk_at "m_mem") (by walk_at "m_mem") ?_))
section
set_option maxRecDepth 100000
end
local macro_rules | `(tactic| walk_at "m_wk1") => `(tactic| ((with_reducible show wpAny _ _ (storeName (compEnvC _ _ _ _) _ _) _ _ _); first | refine stX (by assumption) (by walk_at "m_updt") (by walk_at "m_updt") (fun s' S' => ?_) | refine stXnew (by assumption) (by walk_at "m_updt") (by walk_at "m_nin") (by kernel_rfl) (by decide +kernel) (fun s' S' => ?_)))
section
set_option maxRecDepth 100000
section
variable {prog : Program} {w : World} {A : Around} {E : Value → Shared → Prop} {B : Shared} {fs : List Env} {l l' : Cells} {s : Shared} {a I C D : Addr} {vs ys : List Value} {v : Value} {i : Nat}
theorem notedF {α : Type} {t : Sem α} {Q : α → Shared → Prop} {E' : Value → Shared → Prop} (h : wpAny (model prog w) A t Q (fun _ _ => False) s) : wpAny (model prog w) A t Q E' s := wpAny_mono h (fun _ _ z => z) fun _ _ z => z.elim
/-- a list comprehension over a list, one name -/
theorem compList {env : Env} {elt iter : Expr} {x : Str} {px : Pos} {ifs : List Expr} {scope : Scope} {pos : Pos} {cl : List (Str × Addr)} {Q : Value → Shared → Prop} {rest₀ : Cells} (P : Nat → List Value → Cells → Prop)
    (hx : scope.names.lookup x = some .local) (hd : (x == ("__debug__" : Str)) = false) (hh : A.handled = none)
    (S : St B fs ((I, litC a 0) :: (C, nsC (relabel scope env) []) :: (D, listC []) :: rest₀) s) (h0 : P 0 [] rest₀) (ha : ∀ i ys rest, P i ys rest → (a, listC vs) ∈ rest ∧ ys.length ≤ sizeLine)
    (step : ∀ i v ys rest s, vs[i]? = some v → P i ys rest → St B fs ((I, litC a (i + 1)) :: (C, nsC (relabel scope env) [(x, v)]) :: (D, listC ys) :: rest) s →
      wpAny (model prog w) A (forIn ifs true fun c r => if r = true then do let ok ← isTrue c (compEnvC scope cl C env) (eval c (compEnvC scope cl C env)); pure (ForInStep.yield ok) else pure (ForInStep.yield r)) (fun ok s₃ =>
        if ok = true then wpAny (model prog w) A (eval elt (compEnvC scope cl C env)) (fun y s₄ => ∃ rest', P (i + 1) (ys ++ [y]) rest' ∧ St B fs ((I, litC a (i + 1)) :: (C, nsC (relabel scope env) [(x, v)]) :: (D, listC ys) :: rest') s₄) (fun _ _ => False) s₃
        else ∃ rest', P (i + 1) ys rest' ∧ St B fs ((I, litC a (i + 1)) :: (C, nsC (relabel scope env) [(x, v)]) :: (D, listC ys) :: rest') s₃) (fun _ _ => False) s)
    (fin : ∀ ys rest s, P vs.length ys rest → St B fs ((D, listC ys) :: rest) s → Q (.ref D) s) :
    codeAny (model prog w) A (.compLoop (.ListComp elt [⟨.Name x px, iter, ifs, 0⟩] scope pos) 0 (.ref I) (.ref D) (compEnvC scope cl C env)) (CompR B fs (relabel scope env) C D Q) s := by
  refine codeAny_compLoop_tests (fun n s => ∃ i ys rest zs, i ≤ vs.length ∧ n = vs.length - i ∧ (zs = [] ∨ ∃ v, zs = [(x, v)]) ∧ P i ys rest ∧ St B fs ((I, litC a i) :: (C, nsC (relabel scope env) zs) :: (D, listC ys) :: rest) s) ?_ _ ⟨0, [], rest₀, [], Nat.zero_le _, rfl, .inl rfl, h0, S⟩
  rintro n s ⟨i, ys, rest, zs, hi, rfl, hz, hP, S⟩
  obtain ⟨hm, hsz⟩ := ha i ys rest hP
  by_cases hlt : i < vs.length
  · refine nextL (v := vs[i]) S Upd.here (List.mem_cons_of_mem _ (List.mem_cons_of_mem _ (List.mem_cons_of_mem _ hm))) (List.getElem?_eq_getElem hlt) fun s' S' => ?_
    have go : ∀ s', St B fs ((I, litC a (i + 1)) :: (C, nsC (relabel scope env) [(x, vs[i])]) :: (D, listC ys) :: rest) s' →
        wpAny (model prog w) A (forIn ifs true fun c r => if r = true then do let ok ← isTrue c (compEnvC scope cl C env) (eval c (compEnvC scope cl C env)); pure (ForInStep.yield ok) else pure (ForInStep.yield r)) (fun ok s₃ =>
            if ok = true then wpAny (model prog w) A (eval elt (compEnvC scope cl C env)) (fun x_1 s₄ =>
              wpAny (model prog w) A (call (.builtin "list.append") [.ref D, x_1]) (fun _ s₅ => ∃ m, m < vs.length - i ∧ ∃ i ys rest zs, i ≤ vs.length ∧ m = vs.length - i ∧ (zs = [] ∨ ∃ v, zs = [(x, v)]) ∧ P i ys rest ∧ St B fs ((I, litC a i) :: (C, nsC (relabel scope env) zs) :: (D, listC ys) :: rest) s₅) (notedBy (model prog w) A (compEnvC scope cl C env) fun e s' => CompR B fs (relabel scope env) C D Q (.error e) s') s₄) (notedBy (model prog w) A (compEnvC scope cl C env) fun e s' => CompR B fs (relabel scope env) C D Q (.error e) s') s₃
            else ∃ m, m < vs.length - i ∧ ∃ i ys rest zs, i ≤ vs.length ∧ m = vs.length - i ∧ (zs = [] ∨ ∃ v, zs = [(x, v)]) ∧ P i ys rest ∧ St B fs ((I, litC a i) :: (C, nsC (relabel scope env) zs) :: (D, listC ys) :: rest) s₃) (notedBy (model prog w) A (compEnvC scope cl C env) fun e s' => CompR B fs (relabel scope env) C D Q (.error e) s') s' := by
      intro s' S'
      refine wpAny_mono (step i vs[i] ys rest s' (List.getElem?_eq_getElem hlt) hP S') (fun ok s₃ h₃ => ?_) fun _ _ z => z.elim
      cases ok with
      | true =>
        rw [if_pos rfl] at h₃ ⊢
        refine wpAny_mono h₃ (fun y s₄ h₄ => ?_) fun _ _ z => z.elim
        obtain ⟨rest', hP', S₄⟩ := h₄
        exact appendL S₄ (Upd.there (Upd.there Upd.here)) hsz fun s₅ S₅ => ⟨vs.length - (i + 1), by omega, i + 1, ys ++ [y], rest', _, hlt, rfl, .inr ⟨_, rfl⟩, hP', S₅⟩
      | false =>
        rw [if_neg Bool.false_ne_true] at h₃ ⊢
        obtain ⟨rest', hP', S₄⟩ := h₃
        exact ⟨vs.length - (i + 1), by omega, i + 1, ys, rest', _, hlt, rfl, .inr ⟨_, rfl⟩, hP', S₄⟩
    rcases hz with rfl | ⟨u, rfl⟩
    · exact wpAny_assign_Name (stXnew S' (Upd.there Upd.here) (by simp) hx hd go)
    · exact wpAny_assign_Name (stX S' (Upd.there Upd.here) Upd.here go)
  · obtain rfl : i = vs.length := by omega
    refine endL hh S (List.mem_cons_of_mem _ (List.mem_cons_of_mem _ hm)) (Nat.le_refl _) fun s' S' => ?_
    exact ⟨rfl, _, zs, S', fun s'' S'' => fin ys rest s'' hP S''⟩
end

end
-- N1
section
set_option maxRecDepth 100000
section
variable {B : Shared} {fs : List Env} {l l' X : Cells} {s : Shared} {a : Addr} {c : Cell} {h' : Heap} {o : Obj}
/-- some cells are dropped, all else is kept -/
theorem St.buts (S : St B fs (X ++ l) s) (hf : ∀ x ∈ X, x.1 ∉ fs.filterMap (·.frame)) (t : Nat) (k : ∀ b o, b ∉ X.map (·.1) → s.heap.get? b = some o → h'.get? b = some o) : St B fs l { s with heap := h', toks := t } := by
  have nd := S.nd
  rw [List.map_append, List.nodup_append] at nd
  refine ⟨fun b o hb => k b o (fun hm => ?_) (S.base b o hb), fun x hx => ?_, nd.2.1, fun x hx => S.fresh x (List.mem_append_right _ hx), funFrames_at S.frames fun b hb => ?_, S.gens, S.drawn, S.os, S.low, fun x hx => S.big x (List.mem_append_right _ hx), fun x hx => S.soft x (List.mem_append_right _ hx)⟩
  · obtain ⟨x, hx, rfl⟩ := List.mem_map.mp hm
    rw [S.fresh x (List.mem_append_left _ hx)] at hb; cases hb
  · obtain ⟨o, h1, h2⟩ := S.has x (List.mem_append_right _ hx)
    exact ⟨o, k _ _ (fun hm => nd.2.2 _ hm _ (List.mem_map.mpr ⟨x, hx, rfl⟩) rfl) h1, h2⟩
  · obtain ⟨_, o, ho, _⟩ := S.frames.mem hb
    rw [ho]
    exact k _ _ (fun hm => by obtain ⟨x, hx, e⟩ := List.mem_map.mp hm; exact hf x hx (e ▸ hb)) ho
/-- what lies in the heap joins the ledger -/
theorem St.adopt (S : St B fs l s) (ho : s.heap.get? a = some o) (hc : c o) (hB : B.heap.get? a = none) (hm : sysModules < a) (hn : a ∉ l.map (·.1)) (hf : a ∉ fs.filterMap (·.frame)) : St B fs ((a, c) :: l) s :=
  ⟨S.base, fun x hx => by rcases List.mem_cons.mp hx with rfl | hx; (· exact ⟨o, ho, hc⟩); (· exact S.has x hx), List.nodup_cons.mpr ⟨hn, S.nd⟩, fun x hx => by rcases List.mem_cons.mp hx with rfl | hx; (· exact hB); (· exact S.fresh x hx),
    S.frames, S.gens, S.drawn, S.os, S.low, fun x hx => by rcases List.mem_cons.mp hx with rfl | hx; (· exact hm); (· exact S.big x hx), fun x hx h => by rcases List.mem_cons.mp hx with rfl | hx; (· exact (hf h).elim); (· exact S.soft x hx h)⟩
theorem St.new_not (S : St B fs l s) (ha : s.heap.objs.size ≤ a) : a ∉ l.map (·.1) ∧ a ∉ fs.filterMap (·.frame) ∧ B.heap.get? a = none ∧ sysModules < a := by
  refine ⟨fun hm => ?_, fun hm => ?_, ?_, Nat.lt_of_lt_of_le S.size ha⟩
  · obtain ⟨x, hx, e⟩ := List.mem_map.mp hm
    have := S.lt hx
    rw [e] at this; exact absurd (Nat.lt_of_lt_of_le this ha) (Nat.lt_irrefl _)
  · obtain ⟨_, o, ho, _⟩ := S.frames.mem hm
    exact absurd (Nat.lt_of_lt_of_le (Heap.lt_size ho) ha) (Nat.lt_irrefl _)
  · cases q : B.heap.get? a with
    | none => rfl
    | some o => exact absurd (Nat.lt_of_lt_of_le (Heap.lt_size (S.base _ o q)) ha) (Nat.lt_irrefl _)
end
/-- enumerate over a list's iterator -/
def enC (it : Addr) (i : Nat) (old : Value) : Cell := fun o => o = { cls := .type "enumerate", dict := none, data := .fields #[.none, .bool false, .ref it, rawInt i, .none, old], slots := #[] }
def rgC (a b c : Int) (t u v : Tok) : Cell := fun o => o = { cls := .type "range", dict := none, data := .fields #[.int a t, .int b u, .int c v], slots := #[] }
def ritC (x left : Int) : Cell := fun o => o = { cls := .type "range_iterator", dict := none, data := .fields #[rawInt x, rawInt left, rawInt 1], slots := #[] }
section
variable {prog : Program} {w : World} {A : Around} {E : Value → Shared → Prop} {B : Shared} {fs : List Env} {l l' : Cells} {s : Shared} {a e it : Addr} {vs : List Value} {v old : Value} {i : Nat}
theorem enumS {Q : Value → Shared → Prop} (S : St B fs l s) (m : (a, listC vs) ∈ l) (h : ∀ e it s', St B fs ((e, enC it 0 .none) :: (it, litC a 0) :: l) s' → Q (.ref e) s') : wpAny (model prog w) A (call (.type "enumerate") [.ref a]) Q E s := by
  refine call_enumerate_list (S.list m) fun h' he hit hz hk => ?_
  obtain ⟨o, ho, h1, h2⟩ := hit
  have n1 := S.new_not (a := s.heap.objs.size) (Nat.le_refl _)
  have n2 := S.new_not (a := s.heap.objs.size + 1) (Nat.le_succ _)
  have S1 := (S.keeps (h' := h') s.toks hk).adopt (c := litC a 0) ho ⟨h1, h2⟩ n1.2.2.1 n1.2.2.2 n1.1 n1.2.1
  have S2 := S1.adopt (c := enC s.heap.objs.size 0 .none) he rfl n2.2.2.1 n2.2.2.2 (by
    rw [List.map_cons, List.mem_cons, not_or]; exact ⟨Nat.succ_ne_self _, n2.1⟩) n2.2.1
  exact h _ _ _ S2
theorem enumDraw {env : Env} {xi xv : Str} {pi pv tp : Pos} {x1} {Q : Shared → Prop} (hh : A.handled = none) (S : St B fs ((e, enC it i old) :: (it, litC a i) :: l) s) (m : (a, listC vs) ∈ l) (hx : vs[i]? = some v)
    (h : ∀ t s', St B fs ((e, enC it (i + 1) v) :: (it, litC a (i + 1)) :: l) s' → wpAny (model prog w) A (assign (.Name xi pi) env (.int i t)) (fun _ s₁ => wpAny (model prog w) A (assign (.Name xv pv) env v) (fun _ s₂ => Q s₂) E s₁) E s') :
    wpAny (model prog w) A (pyNext (.ref e)) (fun r s₁ => ∃ x, r = some x ∧ wpAny (model prog w) A (letOwnedTupleGo (.Tuple [.Name xi pi, .Name xv pv] x1 tp) (.ref e) x) (fun _ s₂ => wpAny (model prog w) A (assign (.Tuple [.Name xi pi, .Name xv pv] x1 tp) env x) (fun _ s₃ => Q s₃) E s₂) E s₁) E s := by
  have mem2 : ∀ x ∈ [(e, enC it i old), (it, litC a i)], x ∈ (e, enC it i old) :: (it, litC a i) :: l := fun x hx => by
    rcases List.mem_cons.mp hx with rfl | hx
    · exact .head _
    · rw [List.mem_singleton.mp hx]; exact .tail _ (.head _)
  have nd := S.nd
  simp only [List.map_cons, List.nodup_cons, List.mem_cons, not_or] at nd
  obtain ⟨oe, he, rfl⟩ := S.has _ (mem2 _ (.head _))
  obtain ⟨oi, hoi, i1, i2⟩ := S.has _ (mem2 _ (.tail _ (.head _)))
  have fe := S.fields_off (mem2 _ (.head _)) fun o h => ⟨_, congrArg Obj.data h⟩
  have fi := S.fields_off (mem2 _ (.tail _ (.head _))) fun o h => ⟨_, h.2⟩
  have be := S.fresh _ (mem2 _ (.head _))
  have bi := S.fresh _ (mem2 _ (.tail _ (.head _)))
  have ge := S.big _ (mem2 _ (.head _))
  have gi := S.big _ (mem2 _ (.tail _ (.head _)))
  have hel : e < s.heap.objs.size := Heap.lt_size he
  refine wpAny_pyNext_enum_item he ⟨oi, hoi, i1, i2⟩ (S.list (List.mem_cons_of_mem _ (List.mem_cons_of_mem _ m))) (x := v) (by simpa using hx) nd.1.1 fun h₁ heo hit₁ ht₁ hz₁ hk₁ => ⟨_, rfl, ?_⟩
  refine wpAny_letOwnedTupleGo_enum (i := (i : Int) + 1) heo fun h₂ he₂ hs₂ => ?_
  replace hs₂ : Heap.SameBut e h₁ h₂ := hs₂
  have ht₂ : IsTup h₂ s.heap.objs.size #[.int i s.toks, v] := ⟨_, (hs₂.2 _ (Nat.ne_of_gt hel)).trans ht₁, rfl, _, rfl⟩
  refine assign_Tuple_tuple hh ht₂ rfl rfl fun h₃ hx₃ => ?_
  replace hx₃ : Heap.ExtBut h₂.objs.size h₂ h₃ := hx₃
  have hz₂ : h₂.objs.size = s.heap.objs.size + 1 := hs₂.1.trans hz₁
  have k3 : ∀ b o, h₂.get? b = some o → h₃.get? b = some o := fun b o hb => hx₃ b o (Nat.ne_of_lt (Heap.lt_size hb)) hb
  have S0 := St.buts (X := [(e, enC it i old), (it, litC a i)]) (h' := h₃) S (fun x hx => by
    rcases List.mem_cons.mp hx with rfl | hx
    · exact fe
    · rw [List.mem_singleton.mp hx]; exact fi) (s.toks + 1) (fun b o hb ho => by
      simp only [List.map_cons, List.map_nil, List.mem_cons, List.not_mem_nil, or_false, not_or] at hb
      exact k3 b o (hs₂.extBut b o hb.1 (hk₁ b o hb.1 hb.2 ho)))
  obtain ⟨oi', hoi', j1, j2⟩ := hit₁
  have S1 := S0.adopt (a := it) (c := litC a (i + 1)) (k3 _ _ ((hs₂.2 it (fun q => nd.1.1 q.symm)).trans hoi')) ⟨j1, j2⟩ bi gi nd.2.1 fi
  have S2 := S1.adopt (a := e) (c := enC it (i + 1) v) (k3 _ _ he₂) rfl be ge (by rw [List.map_cons, List.mem_cons, not_or]; exact nd.1) fe
  exact assignInOrder_cons (wpAny_mono (h _ _ S2) (fun _ s₁ h₁ => assignInOrder_cons (wpAny_mono h₁ (fun _ s₂ h₂ => assignInOrder_nil h₂) fun _ _ z => z)) fun _ _ z => z)
theorem enumStop {Q : Option Value → Shared → Prop} (hh : A.handled = none) (S : St B fs ((e, enC it i old) :: (it, litC a i) :: l) s) (m : (a, listC vs) ∈ l) (hx : vs.length ≤ i) (h : ∀ s', St B fs l s' → Q none s') :
    wpAny (model prog w) A (pyNext (.ref e)) Q E s := by
  have mem2 : ∀ x ∈ [(e, enC it i old), (it, litC a i)], x ∈ (e, enC it i old) :: (it, litC a i) :: l := fun x hx => by
    rcases List.mem_cons.mp hx with rfl | hx
    · exact .head _
    · rw [List.mem_singleton.mp hx]; exact .tail _ (.head _)
  obtain ⟨oe, he, rfl⟩ := S.has _ (mem2 _ (.head _))
  obtain ⟨oi, hoi, i1, i2⟩ := S.has _ (mem2 _ (.tail _ (.head _)))
  have fe := S.fields_off (mem2 _ (.head _)) fun o h => ⟨_, congrArg Obj.data h⟩
  have fi := S.fields_off (mem2 _ (.tail _ (.head _))) fun o h => ⟨_, h.2⟩
  refine wpAny_pyNext_enum_end hh he ⟨oi, hoi, i1, i2⟩ (S.list (List.mem_cons_of_mem _ (List.mem_cons_of_mem _ m))) (by simpa using hx) fun h₁ hs => h _ ?_
  exact St.buts (X := [(e, enC it i old), (it, litC a i)]) (h' := h₁) S (fun x hx => by
    rcases List.mem_cons.mp hx with rfl | hx
    · exact fe
    · rw [List.mem_singleton.mp hx]; exact fi) s.toks fun b o hb ho => by
      simp only [List.map_cons, List.map_nil, List.mem_cons, List.not_mem_nil, or_false, not_or] at hb
      exact hs b o hb.2 ho
theorem iterEnum {Q : Value → Shared → Prop} (S : St B fs l s) (m : (e, enC it i old) ∈ l) (h : Q (.ref e) s) : wpAny (model prog w) A (pyIter (.ref e)) Q E s := by
  obtain ⟨o, ho, rfl⟩ := S.has _ m
  exact wpAny_pyIter_enum ho h
theorem rangeS {n : Int} {t : Tok} {Q : Value → Shared → Prop} (S : St B fs l s) (h : ∀ r t₁ t₂ s', St B fs ((r, rgC 0 n 1 t₁ t t₂) :: l) s' → Q (.ref r) s') : wpAny (model prog w) A (call (.type "range") [.int n t]) Q E s :=
  call_range_1 (h _ s.toks (s.toks + 1) _ (S.push (c := rgC 0 n 1 s.toks t (s.toks + 1)) rfl (s.toks + 1 + 1)))
theorem iterRange {n : Nat} {k : Int} {t u v : Tok} {r : Addr} {Q : Value → Shared → Prop} (S : St B fs l s) (hk : k = n) (m : (r, rgC 0 k 1 t u v) ∈ l) (hn : n < 1000) (h : ∀ i s', St B fs ((i, ritC 0 n) :: l) s' → Q (.ref i) s') : wpAny (model prog w) A (pyIter (.ref r)) Q E s := by
  subst hk
  obtain ⟨o, ho, rfl⟩ := S.has _ m
  refine wpAny_pyIter_range ho (small_one (by omega) (by omega) (by omega) (by omega)) (h _ _ ?_)
  exact S.push (c := ritC 0 n) (by
    show _ = _
    rw [rangeSize_one, show (if (0 : Int) < n then (n : Int) - 0 else 0) = n by split <;> omega]) s.toks
theorem iterRg {x left : Int} {I : Addr} {Q : Value → Shared → Prop} (S : St B fs l s) (m : (I, ritC x left) ∈ l) (h : Q (.ref I) s) : wpAny (model prog w) A (pyIter (.ref I)) Q E s := by
  obtain ⟨o, ho, rfl⟩ := S.has _ m
  exact wpAny_pyIter_rangeiter ho h
theorem nextRange {x left : Int} {I : Addr} {Q : Option Value → Shared → Prop} (S : St B fs ((I, ritC x left) :: l) s) (hl : 0 < left) (h : ∀ t s', St B fs ((I, ritC (x + 1) (left - 1)) :: l) s' → Q (some (.int x t)) s') : wpAny (model prog w) A (pyNext (.ref I)) Q E s := by
  obtain ⟨o, ho, rfl⟩ := S.has _ List.mem_cons_self
  have fI := S.fields_off List.mem_cons_self fun o h => ⟨_, congrArg Obj.data h⟩
  refine wpAny_pyNext_range_item ho hl fun h' hr hs => h _ _ ?_
  exact S.set Upd.here _ hs hr rfl (.inr ⟨_, _, ho, rfl⟩) fun hm => (fI hm).elim
theorem endRange {x left : Int} {I : Addr} {Q : Option Value → Shared → Prop} (hh : A.handled = none) (S : St B fs ((I, ritC x left) :: l) s) (hl : left ≤ 0) (h : ∀ s', St B fs l s' → Q none s') : wpAny (model prog w) A (pyNext (.ref I)) Q E s := by
  obtain ⟨o, ho, rfl⟩ := S.has _ List.mem_cons_self
  have fI := S.fields_off List.mem_cons_self fun o h => ⟨_, congrArg Obj.data h⟩
  exact wpAny_pyNext_range_end hh ho hl fun h' hs => h _ (S.but fI _ hs)
end

end
-- N2
section
set_option maxRecDepth 100000
abbrev NoE : Value → Shared → Prop := fun _ _ => False
section
variable {prog : Program} {w : World} {A : Around} {E : Value → Shared → Prop} {B : Shared} {fs : List Env} {l : Cells} {s : Shared} {a e it I : Addr} {vs : List Value} {R : Result → Shared → Prop}
/-- one turn of a loop over enumerate: what is left when the body has run -/
def TurnE (fs : List Env) (e it a : Addr) (P : Nat → Shared → Cells → Prop) (R : Result → Shared → Prop) (i : Nat) (f : Flow) (s : Shared) : Prop :=
  match f with
  | .next | .cont => ∃ B' l' old, P (i + 1) B' l' ∧ St B' fs ((e, enC it (i + 1) old) :: (it, litC a (i + 1)) :: l') s
  | .brk => R (.ok .next) s
  | .ret v => R (.ok (.ret v)) s
theorem forEnum {env : Env} {xi xv : Str} {pi pv tp : Pos} {x1} {body : List Stmt} (P : Nat → Shared → Cells → Prop) (hh : A.handled = none) (S : St B fs ((e, enC it 0 .none) :: (it, litC a 0) :: l) s) (h0 : P 0 B l) (hm : ∀ i B l, P i B l → (a, listC vs) ∈ l)
    (step : ∀ i v t B l s old, vs[i]? = some v → P i B l → St B fs ((e, enC it (i + 1) old) :: (it, litC a (i + 1)) :: l) s →
      wpAny (model prog w) A (assign (.Name xi pi) env (.int i t)) (fun _ s₁ => wpAny (model prog w) A (assign (.Name xv pv) env v) (fun _ s₂ => wpAny (model prog w) A (execs body env) (TurnE fs e it a P R i) NoE s₂) NoE s₁) NoE s)
    (fin : ∀ B l s, P vs.length B l → St B fs l s → R (.ok .next) s) :
    codeAny (model prog w) A (.forLoop (.Tuple [.Name xi pi, .Name xv pv] x1 tp) (.ref e) body [] env) R s := by
  refine codeAny_forLoop_any (fun n s => ∃ i B l old, i ≤ vs.length ∧ n = vs.length - i ∧ P i B l ∧ St B fs ((e, enC it i old) :: (it, litC a i) :: l) s) ?_ _ ⟨0, B, l, .none, Nat.zero_le _, rfl, h0, S⟩
  rintro n s ⟨i, B, l, old, hi, rfl, hP, S⟩
  by_cases hlt : i < vs.length
  · refine wpAny_mono (enumDraw (E := NoE) (x1 := x1) (tp := tp) hh S (hm _ _ _ hP) (List.getElem?_eq_getElem hlt) fun t s' S' => step i vs[i] t B l s' _ (List.getElem?_eq_getElem hlt) hP S') (fun r s₁ h₁ => ?_) fun _ _ z => z.elim
    obtain ⟨x, rfl, h₁⟩ := h₁
    refine wpAny_mono h₁ (fun _ s₂ h₂ => wpAny_mono h₂ (fun _ s₃ h₃ => wpAny_mono h₃ (fun f s₄ h₄ => ?_) fun _ _ z => z.elim) fun _ _ z => z.elim) fun _ _ z => z.elim
    cases f with
    | next => obtain ⟨B', l', old', hP', S'⟩ := h₄; exact ⟨vs.length - (i + 1), by omega, i + 1, B', l', old', hlt, rfl, hP', S'⟩
    | cont => obtain ⟨B', l', old', hP', S'⟩ := h₄; exact ⟨vs.length - (i + 1), by omega, i + 1, B', l', old', hlt, rfl, hP', S'⟩
    | brk => exact h₄
    | ret v => exact h₄
  · obtain rfl : i = vs.length := by omega
    exact enumStop hh S (hm _ _ _ hP) (Nat.le_refl _) fun s' S' => wpAny_execs_nil (fin _ _ _ hP S')
def TurnR (fs : List Env) (I : Addr) (n : Nat) (P : Nat → Shared → Cells → Prop) (R : Result → Shared → Prop) (i : Nat) (f : Flow) (s : Shared) : Prop :=
  match f with
  | .next | .cont => ∃ B' l', P (i + 1) B' l' ∧ St B' fs ((I, ritC ((i + 1 : Nat) : Int) ((n : Int) - ((i + 1 : Nat) : Int))) :: l') s
  | .brk => R (.ok .next) s
  | .ret v => R (.ok (.ret v)) s
theorem forRange {env : Env} {x : Str} {px : Pos} {body : List Stmt} {n : Nat} (P : Nat → Shared → Cells → Prop) (hh : A.handled = none) (S : St B fs ((I, ritC 0 n) :: l) s) (h0 : P 0 B l)
    (step : ∀ i t B l s, i < n → P i B l → St B fs ((I, ritC ((i + 1 : Nat) : Int) ((n : Int) - ((i + 1 : Nat) : Int))) :: l) s →
      wpAny (model prog w) A (assign (.Name x px) env (.int i t)) (fun _ s₁ => wpAny (model prog w) A (execs body env) (TurnR fs I n P R i) NoE s₁) NoE s)
    (fin : ∀ B l s, P n B l → St B fs l s → R (.ok .next) s) :
    codeAny (model prog w) A (.forLoop (.Name x px) (.ref I) body [] env) R s := by
  refine codeAny_forLoop (fun m s => ∃ i B l, i ≤ n ∧ m = n - i ∧ P i B l ∧ St B fs ((I, ritC (i : Int) ((n : Int) - (i : Int))) :: l) s) ?_ _ ⟨0, B, l, Nat.zero_le _, rfl, h0, by simpa using S⟩
  rintro m s ⟨i, B, l, hi, rfl, hP, S⟩
  by_cases hlt : i < n
  · refine nextRange S (by omega) fun t s' S' => ?_
    have e1 : (i : Int) + 1 = ((i + 1 : Nat) : Int) := by push_cast; rfl
    have e2 : (n : Int) - (i : Int) - 1 = (n : Int) - ((i + 1 : Nat) : Int) := by push_cast; omega
    rw [e1, e2] at S'
    refine wpAny_mono (step i t B l s' hlt hP S') (fun _ s₁ h₁ => wpAny_mono h₁ (fun f s₂ h₂ => ?_) fun _ _ z => z.elim) fun _ _ z => z.elim
    cases f with
    | next => obtain ⟨B', l', hP', S'⟩ := h₂; exact ⟨n - (i + 1), by omega, i + 1, B', l', hlt, rfl, hP', S'⟩
    | cont => obtain ⟨B', l', hP', S'⟩ := h₂; exact ⟨n - (i + 1), by omega, i + 1, B', l', hlt, rfl, hP', S'⟩
    | brk => exact h₂
    | ret v => exact h₂
  · obtain rfl : i = n := by omega
    exact endRange hh S (by omega) fun s' S' => wpAny_execs_nil (fin _ _ _ hP S')

/-- a list comprehension's loop: any target, tests -/
theorem compLoopT {elt target iter : Expr} {ifs : List Expr} {scope : Scope} {pos : Pos} {it acc : Value} {env : Env} (I : Nat → Shared → Prop)
    (turn : ∀ n s, I n s → wpAny (model prog w) A (pyNext it) (fun r s₁ => match r with
      | none => R (.ok .next) s₁
      | some v => wpAny (model prog w) A (letOwnedTupleGo target it v) (fun _ s₁' => wpAny (model prog w) A (assign target env v) (fun _ s₂ =>
          wpAny (model prog w) A (forIn ifs true fun c r => if r = true then do let ok ← isTrue c env (eval c env); pure (ForInStep.yield ok) else pure (ForInStep.yield r)) (fun ok s₃ =>
            if ok = true then wpAny (model prog w) A (eval elt env) (fun x s₄ =>
              wpAny (model prog w) A (call (.builtin "list.append") [acc, x]) (fun _ s₅ => ∃ m, m < n ∧ I m s₅) NoE s₄) NoE s₃
            else ∃ m, m < n ∧ I m s₃) NoE s₂) NoE s₁') NoE s₁) NoE s)
    (n : Nat) (h : I n s) : codeAny (model prog w) A (.compLoop (.ListComp elt [⟨target, iter, ifs, 0⟩] scope pos) 0 it acc env) R s := by
  refine codeAny_loop rfl I (fun n s hI => ?_) n h
  show wpAny _ A ((compTurn (.ListComp elt [⟨target, iter, ifs, 0⟩] scope pos) 0 it acc env).onRaise (fun x => do noteFrame x env; theTreesLotGoes x)) _ _ s
  refine wpAny_noted ?_
  rw [compTurn_list]
  refine wpAny_bind (wpAny_standAt (wpAny_bind (wpAny_mono (turn n s hI) (fun r s₁ h₁ => ?_) fun _ _ h' => h'.elim)))
  cases r with
  | none => exact wpAny_pure h₁
  | some v =>
    refine wpAny_bind (wpAny_mono h₁ (fun _ s₁' h₁' => ?_) fun _ _ h' => h'.elim)
    refine wpAny_bind (wpAny_mono h₁' (fun _ s₂ h₂ => wpAny_bind (wpAny_mono h₂ (fun ok s₃ h₃ => ?_) fun _ _ h' => h'.elim)) fun _ _ h' => h'.elim)
    cases ok with
    | false => exact wpAny_pure ⟨rfl, h₃⟩
    | true =>
      exact wpAny_bind (wpAny_bind (wpAny_mono h₃ (fun x s₄ h₄ => wpAny_bind (wpAny_mono h₄ (fun _ s₅ h₅ => wpAny_pure (wpAny_pure ⟨rfl, h₅⟩)) fun _ _ h' => h'.elim)) fun _ _ h' => h'.elim))
section
variable {α : Type}
theorem updApp {l l' X : Cells} {x y : Addr × Cell} (u : Upd l x y l') : Upd (X ++ l) x y (X ++ l') := by
  induction X with
  | nil => exact u
  | cons c X ih => exact .there ih
/-- a list comprehension, whatever it draws from -/
theorem compGen {env : Env} {elt target iter : Expr} {ifs : List Expr} {scope : Scope} {pos : Pos} {cl : List (Str × Addr)} {Q : Value → Shared → Prop} {rest₀ : Cells} {n : Nat} {C D : Addr} (ic : Nat → Cell) (X : Nat → Value → Cells) (nm : Nat → α → Names)
    (P : Nat → List Value → Cells → Prop) (V : Nat → α → Prop)
    (draw : ∀ i zs old l s (Q : Shared → Prop), i < n → (zs = [] ∨ ∃ j v, zs = nm j v) → (∃ ys rest, P i ys rest ∧ l = (D, listC ys) :: rest) → St B fs (X i old ++ (C, nsC (relabel scope env) zs) :: l) s →
      (∀ v old s', V i v → St B fs (X (i + 1) old ++ (C, nsC (relabel scope env) (nm i v)) :: l) s' → Q s') →
      wpAny (model prog w) A (pyNext (.ref I)) (fun r s₁ => ∃ x, r = some x ∧ wpAny (model prog w) A (letOwnedTupleGo target (.ref I) x) (fun _ s₂ => wpAny (model prog w) A (assign target (compEnvC scope cl C env) x) (fun _ s₃ => Q s₃) NoE s₂) NoE s₁) NoE s)
    (stop : ∀ zs old ys rest s, P n ys rest → St B fs (X n old ++ (C, nsC (relabel scope env) zs) :: (D, listC ys) :: rest) s → wpAny (model prog w) A (pyNext (.ref I)) (fun r s₁ => r = none ∧ St B fs ((C, nsC (relabel scope env) zs) :: (D, listC ys) :: rest) s₁) NoE s)
    {old₀ : Value} (S : St B fs (X 0 old₀ ++ (C, nsC (relabel scope env) []) :: (D, listC []) :: rest₀) s) (h0 : P 0 [] rest₀) (hz : ∀ i ys rest, P i ys rest → ys.length ≤ sizeLine)
    (step : ∀ i v old ys rest s, i < n → V i v → P i ys rest → St B fs (X (i + 1) old ++ (C, nsC (relabel scope env) (nm i v)) :: (D, listC ys) :: rest) s →
      wpAny (model prog w) A (forIn ifs true fun c r => if r = true then do let ok ← isTrue c (compEnvC scope cl C env) (eval c (compEnvC scope cl C env)); pure (ForInStep.yield ok) else pure (ForInStep.yield r)) (fun ok s₃ =>
        if ok = true then wpAny (model prog w) A (eval elt (compEnvC scope cl C env)) (fun y s₄ => ∃ rest', P (i + 1) (ys ++ [y]) rest' ∧ St B fs (X (i + 1) old ++ (C, nsC (relabel scope env) (nm i v)) :: (D, listC ys) :: rest') s₄) NoE s₃
        else ∃ rest', P (i + 1) ys rest' ∧ St B fs (X (i + 1) old ++ (C, nsC (relabel scope env) (nm i v)) :: (D, listC ys) :: rest') s₃) NoE s)
    (fin : ∀ ys rest s, P n ys rest → St B fs ((D, listC ys) :: rest) s → Q (.ref D) s) :
    codeAny (model prog w) A (.compLoop (.ListComp elt [⟨target, iter, ifs, 0⟩] scope pos) 0 (.ref I) (.ref D) (compEnvC scope cl C env)) (CompR B fs (relabel scope env) C D Q) s := by
  refine compLoopT (fun m s => ∃ i ys rest zs old, i ≤ n ∧ m = n - i ∧ (zs = [] ∨ ∃ j v, zs = nm j v) ∧ P i ys rest ∧ St B fs (X i old ++ (C, nsC (relabel scope env) zs) :: (D, listC ys) :: rest) s) ?_ _ ⟨0, [], rest₀, [], old₀, Nat.zero_le _, rfl, .inl rfl, h0, S⟩
  rintro m s ⟨i, ys, rest, zs, old, hi, rfl, hzs, hP, S⟩
  by_cases hlt : i < n
  · have go : ∀ v old' s', V i v → St B fs (X (i + 1) old' ++ (C, nsC (relabel scope env) (nm i v)) :: (D, listC ys) :: rest) s' →
        wpAny (model prog w) A (forIn ifs true fun c r => if r = true then do let ok ← isTrue c (compEnvC scope cl C env) (eval c (compEnvC scope cl C env)); pure (ForInStep.yield ok) else pure (ForInStep.yield r)) (fun ok s₃ =>
            if ok = true then wpAny (model prog w) A (eval elt (compEnvC scope cl C env)) (fun x s₄ =>
              wpAny (model prog w) A (call (.builtin "list.append") [.ref D, x]) (fun _ s₅ => ∃ m, m < n - i ∧ ∃ i ys rest zs old, i ≤ n ∧ m = n - i ∧ (zs = [] ∨ ∃ j v, zs = nm j v) ∧ P i ys rest ∧ St B fs (X i old ++ (C, nsC (relabel scope env) zs) :: (D, listC ys) :: rest) s₅) NoE s₄) NoE s₃
            else ∃ m, m < n - i ∧ ∃ i ys rest zs old, i ≤ n ∧ m = n - i ∧ (zs = [] ∨ ∃ j v, zs = nm j v) ∧ P i ys rest ∧ St B fs (X i old ++ (C, nsC (relabel scope env) zs) :: (D, listC ys) :: rest) s₃) NoE s' := by
      intro v old' s' hv S'
      refine wpAny_mono (step i v old' ys rest s' hlt hv hP S') (fun ok s₃ h₃ => ?_) fun _ _ z => z.elim
      cases ok with
      | true =>
        rw [if_pos rfl] at h₃ ⊢
        refine wpAny_mono h₃ (fun y s₄ h₄ => ?_) fun _ _ z => z.elim
        obtain ⟨rest', hP', S₄⟩ := h₄
        refine appendL S₄ (updApp (Upd.there Upd.here)) (hz _ _ _ hP) fun s₅ S₅ => ⟨n - (i + 1), by omega, i + 1, ys ++ [y], rest', _, old', hlt, rfl, .inr ⟨_, _, rfl⟩, hP', S₅⟩
      | false =>
        rw [if_neg Bool.false_ne_true] at h₃ ⊢
        obtain ⟨rest', hP', S₄⟩ := h₃
        exact ⟨n - (i + 1), by omega, i + 1, ys, rest', _, old', hlt, rfl, .inr ⟨_, _, rfl⟩, hP', S₄⟩
    refine wpAny_mono (draw i zs old _ s (fun s' => wpAny (model prog w) A (forIn ifs true fun c r => if r = true then do let ok ← isTrue c (compEnvC scope cl C env) (eval c (compEnvC scope cl C env)); pure (ForInStep.yield ok) else pure (ForInStep.yield r)) (fun ok s₃ =>
            if ok = true then wpAny (model prog w) A (eval elt (compEnvC scope cl C env)) (fun x s₄ =>
              wpAny (model prog w) A (call (.builtin "list.append") [.ref D, x]) (fun _ s₅ => ∃ m, m < n - i ∧ ∃ i ys rest zs old, i ≤ n ∧ m = n - i ∧ (zs = [] ∨ ∃ j v, zs = nm j v) ∧ P i ys rest ∧ St B fs (X i old ++ (C, nsC (relabel scope env) zs) :: (D, listC ys) :: rest) s₅) NoE s₄) NoE s₃
            else ∃ m, m < n - i ∧ ∃ i ys rest zs old, i ≤ n ∧ m = n - i ∧ (zs = [] ∨ ∃ j v, zs = nm j v) ∧ P i ys rest ∧ St B fs (X i old ++ (C, nsC (relabel scope env) zs) :: (D, listC ys) :: rest) s₃) NoE s') hlt hzs ⟨ys, rest, hP, rfl⟩ S go) (fun r s₁ h₁ => ?_) fun _ _ z => z
    obtain ⟨x, rfl, h₁⟩ := h₁
    exact h₁
  · obtain rfl : i = n := by omega
    refine wpAny_mono (stop zs old ys rest s hP S) (fun r s₁ h₁ => ?_) fun _ _ z => z
    obtain ⟨rfl, S₁⟩ := h₁
    exact ⟨rfl, _, zs, S₁, fun s'' S'' => fin ys rest s'' hP S''⟩
end
end

end
-- N3
section
set_option maxRecDepth 100000
section
variable {prog : Program} {w : World} {A : Around} {E : Value → Shared → Prop} {B : Shared} {fs : List Env} {l : Cells} {s : Shared} {a e it I C D : Addr} {vs : List Value} {n : Nat}
theorem compRange {env : Env} {elt iter : Expr} {x : Str} {px : Pos} {ifs : List Expr} {scope : Scope} {pos : Pos} {cl : List (Str × Addr)} {Q : Value → Shared → Prop} {rest₀ : Cells} (P : Nat → List Value → Cells → Prop)
    (hx : scope.names.lookup x = some .local) (hd : (x == ("__debug__" : Str)) = false) (hh : A.handled = none)
    (S : St B fs ((I, ritC 0 n) :: (C, nsC (relabel scope env) []) :: (D, listC []) :: rest₀) s) (h0 : P 0 [] rest₀) (hz : ∀ i ys rest, P i ys rest → ys.length ≤ sizeLine)
    (step : ∀ i t ys rest s, i < n → P i ys rest → St B fs ((I, ritC ((i + 1 : Nat) : Int) ((n : Int) - ((i + 1 : Nat) : Int))) :: (C, nsC (relabel scope env) [(x, .int i t)]) :: (D, listC ys) :: rest) s →
      wpAny (model prog w) A (forIn ifs true fun c r => if r = true then do let ok ← isTrue c (compEnvC scope cl C env) (eval c (compEnvC scope cl C env)); pure (ForInStep.yield ok) else pure (ForInStep.yield r)) (fun ok s₃ =>
        if ok = true then wpAny (model prog w) A (eval elt (compEnvC scope cl C env)) (fun y s₄ => ∃ rest', P (i + 1) (ys ++ [y]) rest' ∧ St B fs ((I, ritC ((i + 1 : Nat) : Int) ((n : Int) - ((i + 1 : Nat) : Int))) :: (C, nsC (relabel scope env) [(x, .int i t)]) :: (D, listC ys) :: rest') s₄) NoE s₃
        else ∃ rest', P (i + 1) ys rest' ∧ St B fs ((I, ritC ((i + 1 : Nat) : Int) ((n : Int) - ((i + 1 : Nat) : Int))) :: (C, nsC (relabel scope env) [(x, .int i t)]) :: (D, listC ys) :: rest') s₃) NoE s)
    (fin : ∀ ys rest s, P n ys rest → St B fs ((D, listC ys) :: rest) s → Q (.ref D) s) :
    codeAny (model prog w) A (.compLoop (.ListComp elt [⟨.Name x px, iter, ifs, 0⟩] scope pos) 0 (.ref I) (.ref D) (compEnvC scope cl C env)) (CompR B fs (relabel scope env) C D Q) s := by
  refine compGen (α := Tok) (ic := fun _ _ => True) (fun i _ => [(I, ritC (i : Int) ((n : Int) - (i : Int)))]) (fun i t => [(x, .int i t)]) P (fun _ _ => True) (n := n) (rest₀ := rest₀) (old₀ := .none) ?_ ?_ (by simpa using S) h0 hz (fun i t old ys rest s hi _ hP S => step i t ys rest s hi hP S) fin
  · intro i zs old l s Q hi hzs hl S k
    refine nextRange S (by omega) fun t s' S' => ⟨_, rfl, ?_⟩
    have e1 : (i : Int) + 1 = ((i + 1 : Nat) : Int) := by push_cast; rfl
    have e2 : (n : Int) - (i : Int) - 1 = (n : Int) - ((i + 1 : Nat) : Int) := by push_cast; omega
    rw [e1, e2] at S'
    refine wpAny_of_eq (a := ()) rfl (wpAny_assign_Name ?_)
    rcases hzs with rfl | ⟨j, u, rfl⟩
    · exact stXnew S' (Upd.there Upd.here) (by simp) hx hd fun s'' S'' => k t .none s'' trivial S''
    · exact stX S' (Upd.there Upd.here) Upd.here fun s'' S'' => k t .none s'' trivial S''
  · intro zs old ys rest s hP S
    exact endRange hh S (by omega) fun s' S' => ⟨rfl, S'⟩
theorem compEnum {env : Env} {elt iter : Expr} {xi xv : Str} {pi pv tp : Pos} {x1} {ifs : List Expr} {scope : Scope} {pos : Pos} {cl : List (Str × Addr)} {Q : Value → Shared → Prop} {rest₀ : Cells} (P : Nat → List Value → Cells → Prop)
    (hxi : scope.names.lookup xi = some .local) (hdi : (xi == ("__debug__" : Str)) = false) (hxv : scope.names.lookup xv = some .local) (hdv : (xv == ("__debug__" : Str)) = false) (hne : xv ≠ xi) (hh : A.handled = none)
    (S : St B fs ((e, enC it 0 .none) :: (it, litC a 0) :: (C, nsC (relabel scope env) []) :: (D, listC []) :: rest₀) s) (h0 : P 0 [] rest₀) (ha : ∀ i ys rest, P i ys rest → (a, listC vs) ∈ rest ∧ ys.length ≤ sizeLine)
    (step : ∀ i v t old ys rest s, vs[i]? = some v → P i ys rest → St B fs ((e, enC it (i + 1) old) :: (it, litC a (i + 1)) :: (C, nsC (relabel scope env) [(xv, v), (xi, .int i t)]) :: (D, listC ys) :: rest) s →
      wpAny (model prog w) A (forIn ifs true fun c r => if r = true then do let ok ← isTrue c (compEnvC scope cl C env) (eval c (compEnvC scope cl C env)); pure (ForInStep.yield ok) else pure (ForInStep.yield r)) (fun ok s₃ =>
        if ok = true then wpAny (model prog w) A (eval elt (compEnvC scope cl C env)) (fun y s₄ => ∃ rest', P (i + 1) (ys ++ [y]) rest' ∧ St B fs ((e, enC it (i + 1) old) :: (it, litC a (i + 1)) :: (C, nsC (relabel scope env) [(xv, v), (xi, .int i t)]) :: (D, listC ys) :: rest') s₄) NoE s₃
        else ∃ rest', P (i + 1) ys rest' ∧ St B fs ((e, enC it (i + 1) old) :: (it, litC a (i + 1)) :: (C, nsC (relabel scope env) [(xv, v), (xi, .int i t)]) :: (D, listC ys) :: rest') s₃) NoE s)
    (fin : ∀ ys rest s, P vs.length ys rest → St B fs ((D, listC ys) :: rest) s → Q (.ref D) s) :
    codeAny (model prog w) A (.compLoop (.ListComp elt [⟨.Tuple [.Name xi pi, .Name xv pv] x1 tp, iter, ifs, 0⟩] scope pos) 0 (.ref e) (.ref D) (compEnvC scope cl C env)) (CompR B fs (relabel scope env) C D Q) s := by
  refine compGen (α := Value × Tok) (ic := fun _ _ => True) (fun i old => [(e, enC it i old), (it, litC a i)]) (fun i v => [(xv, v.1), (xi, .int i v.2)]) P (fun i v => vs[i]? = some v.1) (n := vs.length) (rest₀ := rest₀) (old₀ := .none) ?_ ?_ S h0 (fun i ys rest hP => (ha i ys rest hP).2)
    (fun i v old ys rest s hi hv hP S => step i v.1 v.2 old ys rest s hv hP S) fin
  · intro i zs old l s Q hi hzs hl S k
    obtain ⟨ys, rest, hP, rfl⟩ := hl
    refine enumDraw (E := NoE) hh S (List.mem_cons_of_mem _ (List.mem_cons_of_mem _ (ha i ys rest hP).1)) (List.getElem?_eq_getElem hi) fun t s' S' => ?_
    rcases hzs with rfl | ⟨j, u, rfl⟩
    · refine wpAny_assign_Name (stXnew S' (Upd.there (Upd.there Upd.here)) (by simp) hxi hdi fun s₂ S₂ => wpAny_assign_Name (stXnew S₂ (Upd.there (Upd.there Upd.here)) (by simpa using hne) hxv hdv fun s₃ S₃ => ?_))
      exact k (vs[i], t) _ s₃ (List.getElem?_eq_getElem hi) S₃
    · refine wpAny_assign_Name (stX S' (Upd.there (Upd.there Upd.here)) (Upd.there Upd.here) fun s₂ S₂ => wpAny_assign_Name (stX S₂ (Upd.there (Upd.there Upd.here)) Upd.here fun s₃ S₃ => ?_))
      exact k (vs[i], t) _ s₃ (List.getElem?_eq_getElem hi) S₃
  · intro zs old ys rest s hP S
    exact enumStop hh S (List.mem_cons_of_mem _ (List.mem_cons_of_mem _ (ha _ ys rest hP).1)) (Nat.le_refl _) fun s' S' => ⟨rfl, S'⟩
end

end
-- N4
section
set_option maxRecDepth 100000
/-- the frame of a function with cells -/
def cenv (sc : Scope) (q : Str) (L fa : Addr) (cd : Value) : Env := newEnv sc L mainGlobals (cellsFrom (L + 1) sc.names []) (q ++ ".<locals>.") (some fa) cd none builtinsNs
def cellC (v : Option Value) : Cell := fun o => o.data = .cell v
theorem soft_cellC {v : Option Value} : Soft (cellC v) := fun _ _ h => h
def cellsN (L : Addr) : Nat → Cells
  | 0 => []
  | n + 1 => (L + 1 + n, cellC none) :: cellsN L n
theorem mem_cellsN {L : Addr} : ∀ {n : Nat} {x : Addr × Cell}, x ∈ cellsN L n → ∃ i, i < n ∧ x = (L + 1 + i, cellC none)
  | n + 1, x, h => by
    rcases List.mem_cons.mp h with rfl | h
    · exact ⟨n, Nat.lt_succ_self _, rfl⟩
    · obtain ⟨i, hi, e⟩ := mem_cellsN h; exact ⟨i, Nat.lt_succ_of_lt hi, e⟩
section
variable {M : Model} {A : Around} {E : Value → Shared → Prop} {B : Shared} {fs : List Env} {l l' : Cells} {s : Shared} {q : Str} {sc : Scope} {L fa c : Addr} {cd : Value} {xs xs' : Names}
theorem St.cell {v : Option Value} (S : St B fs l s) (m : (c, cellC v) ∈ l) : s.heap.IsCell c v := let ⟨o, ho, h⟩ := S.has _ m; ⟨o, ho, h⟩
theorem ldV {x : Str} {pos : Pos} {v : Value} {Q : Value → Shared → Prop} (S : St B fs l s) (m : (L, nsC sc xs) ∈ l) (mv : (x, v) ∈ xs) (h : Q v s) :
    wpAny M A (eval (.Name x pos) (cenv sc q L fa cd)) Q E s :=
  let ⟨n, nd, hk, hl⟩ := S.ns m
  wpAny_Name (wpAny_loadName_local hk (hl _ mv).1 n (lookup_of_mem nd mv) h) (hl _ mv).2
theorem ldK {x : Str} {pos : Pos} {v : Value} {Q : Value → Shared → Prop} (S : St B fs l s) (m : (c, cellC (some v)) ∈ l) (hc : (cellsFrom (L + 1) sc.names []).lookup x = some c) (hl : sc.names.lookup x = some .cell) (hd : (x == ("__debug__" : Str)) = false) (hk : sc.kind = .function) (h : Q v s) :
    wpAny M A (eval (.Name x pos) (cenv sc q L fa cd)) Q E s :=
  wpAny_Name (wpAny_loadName_cell hk hl hc (S.cell m) h) hd
theorem stV {x : Str} {u v : Value} {Q : Unit → Shared → Prop} (S : St B fs l s) (m : Upd l (L, nsC sc xs) (L, nsC sc xs') l') (p : Upd xs (x, u) (x, v) xs') (h : ∀ s', St B fs l' s' → Q () s') :
    wpAny M A (storeName (cenv sc q L fa cd) x v) Q E s := by
  obtain ⟨n, nd, hk, hl⟩ := S.ns m.mem
  refine wpAny_storeName_local (hl _ p.mem).1 n (fun h' hn hs => h _ ?_) (by show (sc.kind == .class || (sc.kind == .module && L != mainGlobals)) = false; rw [hk]; rfl)
  obtain ⟨o, es, ep, ho, hd, hk', hf⟩ := hn
  refine S.set m _ hs ho ⟨⟨es, ep, hd, hk', fun y => (hf y).trans (p.lookup nd y)⟩, (p.keys (f := (·.1)) rfl) ▸ nd, hk, ?_⟩ (.inl fun vs e => by rw [hd] at e; cases e) fun _ => soft_nsC
  intro q hq
  have : q.1 ∈ xs'.map (·.1) := List.mem_map.mpr ⟨q, hq, rfl⟩
  rw [p.keys (f := (·.1)) rfl] at this
  obtain ⟨r, hr, e⟩ := List.mem_map.mp this
  exact e ▸ hl r hr
theorem stVnew {x : Str} {v : Value} {Q : Unit → Shared → Prop} (S : St B fs l s) (m : Upd l (L, nsC sc xs) (L, nsC sc ((x, v) :: xs)) l') (h : ∀ s', St B fs l' s' → Q () s') (hx : x ∉ xs.map (·.1))
    (hl : sc.names.lookup x = some .local) (hd : (x == ("__debug__" : Str)) = false) :
    wpAny M A (storeName (cenv sc q L fa cd) x v) Q E s := by
  obtain ⟨n, nd, hk, hls⟩ := S.ns m.mem
  refine wpAny_storeName_local hl n (fun h' hn hs => h _ ?_) (by show (sc.kind == .class || (sc.kind == .module && L != mainGlobals)) = false; rw [hk]; rfl)
  obtain ⟨o, es, ep, ho, hd', hk', hf⟩ := hn
  refine S.set m _ hs ho ⟨⟨es, ep, hd', hk', fun y => (hf y).trans (lookup_cons_new y)⟩, by rw [List.map_cons]; exact List.nodup_cons.mpr ⟨hx, nd⟩, hk, fun q hq => ?_⟩ (.inl fun vs e => by rw [hd'] at e; cases e) fun _ => soft_nsC
  rcases List.mem_cons.mp hq with rfl | hq
  · exact ⟨hl, hd⟩
  · exact hls q hq
theorem stK {x : Str} {u : Option Value} {v : Value} {Q : Unit → Shared → Prop} (S : St B fs l s) (hc : (cellsFrom (L + 1) sc.names []).lookup x = some c) (m : Upd l (c, cellC u) (c, cellC (some v)) l') (hl : sc.names.lookup x = some .cell) (hk : sc.kind = .function) (h : ∀ s', St B fs l' s' → Q () s') :
    wpAny M A (storeName (cenv sc q L fa cd) x v) Q E s := by
  refine wpAny_storeName_cell hk hl hc (S.cell m.mem) fun h' hc' hs => h _ ?_
  obtain ⟨o, ho, hd⟩ := hc'
  exact S.set m _ hs ho hd (.inl fun vs e => by rw [hd] at e; cases e) fun _ => soft_cellC
variable {K : Frag}
theorem ldVG {x : Str} {pos : Pos} {v : Value} {Q : Value → Shared → Prop} (T : Stat K B.heap) (S : St B fs l s) (e : nsIn K mainGlobals x = some (some v)) (hx : sc.names.lookup x = some .globalImplicit) (hd : (x == ("__debug__" : Str)) = false) (hk : sc.kind = .function) (h : Q v s) :
    wpAny M A (eval (.Name x pos) (cenv sc q L fa cd)) Q E s := by
  obtain ⟨X, _, mg, mb, h1, h2, h3⟩ := S.stat T
  exact Calls.Name_function_global hk hx (Calls.loadGlobal_global (env := cenv sc q L fa cd) h1 (mg_of X h1 e) h) hd
theorem ldVB {x : Str} {pos : Pos} {v : Value} {Q : Value → Shared → Prop} (T : Stat K B.heap) (S : St B fs l s) (e : nsIn K mainGlobals x = some none) (hv : bootBuiltins x = some v) (hn : x ≠ "__name__") (hx : sc.names.lookup x = some .globalImplicit) (hd : (x == ("__debug__" : Str)) = false) (hk : sc.kind = .function) (h : Q v s) :
    wpAny M A (eval (.Name x pos) (cenv sc q L fa cd)) Q E s := by
  obtain ⟨X, _, mg, mb, h1, h2, h3⟩ := S.stat T
  exact Calls.Name_function_global hk hx (Calls.loadGlobal_builtin (env := cenv sc q L fa cd) h1 (mg_none_of X h1 e) h2 ((h3 x hn).trans hv) h) hd
/-- in a comprehension inside: the cell of the function around it -/
theorem ldXK {env : Env} {scope : Scope} {cl : List (Str × Addr)} {C : Addr} {x : Str} {pos : Pos} {v : Value} {Q : Value → Shared → Prop} (S : St B fs l s) (m : (c, cellC (some v)) ∈ l) (hl : (relabel scope env).names.lookup x = some .cell) (hc : cl.lookup x = some c) (hd : (x == ("__debug__" : Str)) = false) (hk : scope.kind = .function) (h : Q v s) :
    wpAny M A (eval (.Name x pos) (compEnvC scope cl C env)) Q E s :=
  wpAny_Name (wpAny_loadName_cell hk hl hc (S.cell m) h) hd
theorem ldXB {scope : Scope} {cl : List (Str × Addr)} {C : Addr} {x : Str} {pos : Pos} {v : Value} {Q : Value → Shared → Prop} (T : Stat K B.heap) (S : St B fs l s) (e : nsIn K mainGlobals x = some none) (hv : bootBuiltins x = some v) (hn : x ≠ "__name__") (hx : (relabel scope (cenv sc q L fa cd)).names.lookup x = some .globalImplicit) (hd : (x == ("__debug__" : Str)) = false) (hk : scope.kind = .function) (h : Q v s) :
    wpAny M A (eval (.Name x pos) (compEnvC scope cl C (cenv sc q L fa cd))) Q E s := by
  obtain ⟨X, _, mg, mb, h1, h2, h3⟩ := S.stat T
  exact Calls.Name_function_global hk hx (Calls.loadGlobal_builtin (env := compEnvC scope cl C (cenv sc q L fa cd)) h1 (mg_none_of X h1 e) h2 ((h3 x hn).trans hv) h) hd
end
section
variable {prog : Program} {w : World} {A : Around} {B : Shared} {fs : List Env} {l : Cells} {s : Shared} {K : Frag} {f : Addr} {fd : FuncData} {o : Obj} {body : List Stmt} {vals : List Value} {x : Str} {v : Value} {R : Result → Shared → Prop} {n k : Nat}
theorem St.adoptN {L : Addr} (S : St B fs l s) (hL : ∀ a, L < a → a ∉ l.map (·.1) ∧ a ∉ fs.filterMap (·.frame) ∧ B.heap.get? a = none ∧ sysModules < a) : ∀ {k : Nat}, (∀ i, i < k → s.heap.IsCell (L + 1 + i) none) → St B fs (cellsN L k ++ l) s
  | 0, _ => S
  | k + 1, h => by
    have S' := S.adoptN hL (k := k) fun i hi => h i (Nat.lt_succ_of_lt hi)
    obtain ⟨o, ho, hd⟩ := h k (Nat.lt_succ_self _)
    have := hL (L + 1 + k) (Nat.lt_of_lt_of_le (Nat.lt_succ_self L) (Nat.le_add_right _ _))
    refine S'.adopt ho hd this.2.2.1 this.2.2.2 (fun hm => ?_) this.2.1
    rw [List.map_append, List.mem_append] at hm
    rcases hm with hm | hm
    · obtain ⟨y, hy, e⟩ := List.mem_map.mp hm
      obtain ⟨i, hi, rfl⟩ := mem_cellsN hy
      have e' : i = k := Nat.add_left_cancel (n := L + 1) e
      exact absurd hi (by rw [e']; exact Nat.lt_irrefl _)
    · exact this.1 hm
theorem callC (ho : s.heap.get? f = some o) (hd : o.data = .func fd) (hcd : s.heap.CodeRec fd.code fd.qualname) (hbody : fd.body = .stmts body) (hclo : fd.closure = []) (hg : fd.globals = mainGlobals) (hbl : fd.builtins = builtinsNs)
    (T : Stat K B.heap) (S : St B fs l s) (r : Room (n + 1) fs A) (hbind : bindArgs fd ⟨vals, []⟩ = pure [(x, v)]) (hx : fd.scope.names.lookup x = some .local) (hdx : (x == ("__debug__" : Str)) = false)
    (hcell : ∀ L i, i < k → ∃ n, (cellsFrom (L + 1) fd.scope.names []).lookup n = some (L + 1 + i)) (hco : fd.scope.isCoroutine = false) (hgen : fd.scope.isGenerator = false) (hk : fd.scope.kind = .function)
    (h : ∀ L s', Room n (cenv fd.scope fd.qualname L f fd.code :: fs) (A.deeper (cenv fd.scope fd.qualname L f fd.code)) → St B (cenv fd.scope fd.qualname L f fd.code :: fs) (cellsN L k ++ (L, nsC fd.scope [(x, v)]) :: l) s' →
      wpAny (model prog w) (A.deeper (cenv fd.scope fd.qualname L f fd.code)) (execs body (cenv fd.scope fd.qualname L f fd.code)) (fun fl s' => R (.ok (.ret (match fl with | .ret v => v | _ => .none))) s') NoE s') :
    codeAny (model prog w) A (.call (.ref f) ⟨vals, []⟩) R s := by
  have T' := S.stat T
  have env : ∀ L, callEnvC fd L f = cenv fd.scope fd.qualname L f fd.code := fun L => by
    unfold callEnvC cenv; rw [hg, hbl]
  refine codeAny_call_cells (body := body) r.room ho hd T'.lim hcd hbody hbind hclo (fun y hy => .inl ?_) (fun s₁ I => ?_) hco hgen hk
  · rw [List.mem_singleton.mp hy]; exact hx
  rw [env] at I ⊢
  have hkind : (cenv fd.scope fd.qualname s.heap.objs.size f fd.code).kindOf x = some .local := hx
  have hkn : ((cenv fd.scope fd.qualname s.heap.objs.size f fd.code).kindOf x = some NameKind.local) = True := eq_true hkind
  simp only [bindL, bindC, hkn, if_true] at I
  obtain ⟨h', tk, rfl⟩ := I.toInCall.same
  obtain ⟨oL, es, ep, hL, h1, h2, h3⟩ := I.toInCall.ns
  have hnew := fun a (ha : s.heap.objs.size ≤ a) => S.new_not (a := a) ha
  have n0 := hnew _ (Nat.le_refl _)
  have S0 := (S.keeps (h' := h') tk I.toInCall.keep).adopt (a := s.heap.objs.size) (c := nsC fd.scope [(x, v)]) hL ⟨⟨es, ep, h1, h2, fun y => (h3 y).trans ?_⟩, by simp, hk, fun p hp => by rw [List.mem_singleton.mp hp]; exact ⟨hx, hdx⟩⟩ n0.2.2.1 n0.2.2.2 n0.1 n0.2.1
  · have S1 := S0.adoptN (L := s.heap.objs.size) (k := k) (fun a ha => by
      have := hnew a (Nat.le_of_lt ha)
      refine ⟨fun hm => ?_, this.2⟩
      rw [List.map_cons, List.mem_cons] at hm
      rcases hm with e | hm
      · exact absurd ha (by rw [e]; exact Nat.lt_irrefl _)
      · exact this.1 hm) fun i hi => by
        obtain ⟨nm, hn⟩ := hcell s.heap.objs.size i hi
        exact I.cell nm _ hn
    refine wpAny_mono (h s.heap.objs.size _ r.deeper ?_) (fun _ _ z => z) fun _ _ z => z.elim
    refine ⟨S1.base, S1.has, S1.nd, S1.fresh, ?_, S1.gens, S1.drawn, S1.os, S1.low, S1.big, fun y hy hm => ?_⟩
    · exact ⟨by show fd.scope.kind ≠ _; rw [hk]; decide, ⟨_, oL, rfl, n0.2.2.1, hL, fun vs q => by rw [h1] at q; cases q⟩, S1.frames⟩
    · rcases List.mem_append.mp hy with hy' | hy'
      · obtain ⟨i, hi, rfl⟩ := mem_cellsN hy'
        exact soft_cellC
      · rcases List.mem_cons.mp hy' with rfl | hy''
        · exact soft_nsC
        · rw [List.filterMap_cons] at hm
          rcases List.mem_cons.mp (show y.1 ∈ s.heap.objs.size :: _ from hm) with e | hm
          · have := S.lt hy''
            rw [e] at this; exact absurd this (Nat.lt_irrefl _)
          · exact S.soft y hy'' hm
  · show (if y = x then some v else none) = [(x, v)].lookup y
    rw [List.lookup_cons]
    by_cases e : y = x
    · subst e; simp
    · rw [if_neg e, beq_eq_false_iff_ne.mpr e]; rfl
end

end
-- IF1
section
section
variable {K : Type} [DecidableEq K] {xs : List (K × Value × Value)} {st : List (K × Value)} {k k' : K} {kv v : Value}
/-- a cache as it answers: keys and values, in the order in which they go -/
def vAt (st : List (K × Value)) (k : K) : Option Value := (st.find? fun x => decide (x.1 = k)).map (·.2)
def dropS (st : List (K × Value)) (k : K) : List (K × Value) := st.filter fun x => !decide (x.1 = k)
theorem atK_isSome : (atK xs k).isSome = true ↔ k ∈ xs.map (·.1) := by
  unfold atK
  rw [Option.isSome_map, List.find?_isSome]
  constructor
  · rintro ⟨x, hx, e⟩
    exact List.mem_map.mpr ⟨x, hx, of_decide_eq_true e⟩
  · intro h
    obtain ⟨x, hx, rfl⟩ := List.mem_map.mp h
    exact ⟨x, hx, decide_eq_true rfl⟩
theorem atK_eq_none : atK xs k = none ↔ k ∉ xs.map (·.1) := by
  rw [← atK_isSome]
  cases atK xs k <;> simp
theorem vAt_isSome : (vAt st k).isSome = true ↔ k ∈ st.map (·.1) := by
  unfold vAt
  rw [Option.isSome_map, List.find?_isSome]
  constructor
  · rintro ⟨x, hx, e⟩
    exact List.mem_map.mpr ⟨x, hx, of_decide_eq_true e⟩
  · intro h
    obtain ⟨x, hx, rfl⟩ := List.mem_map.mp h
    exact ⟨x, hx, decide_eq_true rfl⟩
theorem vAt_eq_none : vAt st k = none ↔ k ∉ st.map (·.1) := by
  rw [← vAt_isSome]
  cases vAt st k <;> simp
theorem find_filter_ne {α : Type} (f : α → K) (l : List α) : ((l.filter fun x => !decide (f x = k)).find? fun x => decide (f x = k')) = if k' = k then none else l.find? fun x => decide (f x = k') := by
  induction l with
  | nil => simp
  | cons x r ih =>
    rw [List.filter_cons]
    by_cases h : f x = k
    · simp only [h, decide_true, Bool.not_true, Bool.false_eq_true, if_false, ih, List.find?_cons]
      by_cases h2 : k' = k
      · simp [h2]
      · have : ¬ k = k' := fun e => h2 e.symm
        simp [h2, this]
    · simp only [h, decide_false, Bool.not_false, if_true, List.find?_cons, ih]
      by_cases h2 : k' = k
      · subst h2; simp [h]
      · by_cases h3 : f x = k' <;> simp [h2, h3]
theorem atK_del : atK (delK xs k) k' = if k' = k then none else atK xs k' := by
  unfold atK delK
  rw [find_filter_ne]
  split <;> rfl
theorem vAt_drop : vAt (dropS st k) k' = if k' = k then none else vAt st k' := by
  unfold vAt dropS
  rw [find_filter_ne]
  split <;> rfl
theorem vAt_snoc (h : k ∉ st.map (·.1)) : vAt (st ++ [(k, v)]) k' = if k' = k then some v else vAt st k' := by
  unfold vAt
  rw [List.find?_append]
  by_cases e : k' = k
  · subst e
    have : (st.find? fun x => decide (x.1 = k')) = none := by
      rw [List.find?_eq_none]
      intro x hx hk
      exact h (List.mem_map.mpr ⟨x, hx, of_decide_eq_true hk⟩)
    simp [this]
  · have : ¬ k = k' := fun q => e q.symm
    simp [e, this]
theorem atK_put : (atK (putK xs k kv v) k').map (·.2) = if k' = k then some v else (atK xs k').map (·.2) := by
  unfold putK
  split
  · rename_i hs
    unfold atK at hs ⊢
    have e : ∀ x, (fun x : K × Value × Value => decide (x.1 = k')) (putAtK k v x) = decide (x.1 = k') := fun x => by unfold putAtK; split <;> rfl
    rw [List.find?_map]
    have e2 : ((fun x : K × Value × Value => decide (x.1 = k')) ∘ putAtK k v) = fun x => decide (x.1 = k') := funext e
    rw [e2]
    by_cases q : k' = k
    · subst q
      cases hf : xs.find? fun x => decide (x.1 = k') with
      | none => rw [hf] at hs; cases hs
      | some y =>
        have := of_decide_eq_true (List.find?_some (p := fun x : K × Value × Value => decide (x.1 = k')) hf)
        simp [putAtK, this]
    · cases hf : xs.find? fun x => decide (x.1 = k') with
      | none => simp [q]
      | some y =>
        have := of_decide_eq_true (List.find?_some (p := fun x : K × Value × Value => decide (x.1 = k')) hf)
        have n : ¬ y.1 = k := fun e => q (this.symm.trans e)
        simp [putAtK, n, q]
  · rename_i hs
    unfold atK at hs ⊢
    rw [List.find?_append]
    by_cases q : k' = k
    · subst q
      cases hf : xs.find? fun x => decide (x.1 = k') with
      | none => simp
      | some y => rw [hf] at hs; simp at hs
    · have : ¬ k = k' := fun e => q e.symm
      simp [q, this]
theorem keys_put_new (h : atK xs k = none) : (putK xs k kv v).map (·.1) = xs.map (·.1) ++ [k] := by
  unfold putK; rw [h]; simp
theorem keys_put_there (h : (atK xs k).isSome = true) : (putK xs k kv v).map (·.1) = xs.map (·.1) := by
  unfold putK; rw [if_pos h, keys_putAtK]
theorem keys_del : (delK xs k).map (·.1) = (xs.map (·.1)).filter fun x => !decide (x = k) := by
  unfold delK
  rw [List.filter_map]; rfl
theorem keys_drop : (dropS st k).map (·.1) = (st.map (·.1)).filter fun x => !decide (x = k) := by
  unfold dropS
  rw [List.filter_map]; rfl
/-- a dict and a cache's answers agree -/
structure Agree (xs : List (K × Value × Value)) (st : List (K × Value)) : Prop where
  len : xs.length = st.length
  val : ∀ k, (atK xs k).map (·.2) = vAt st k
theorem Agree.no (h : Agree xs st) (e : vAt st k = none) : atK xs k = none := by
  have := h.val k
  rw [e] at this
  cases q : atK xs k with
  | none => rfl
  | some p => rw [q] at this; cases this
theorem Agree.yes (h : Agree xs st) (e : vAt st k = some v) : ∃ kv, atK xs k = some (kv, v) := by
  have := h.val k
  rw [e] at this
  cases q : atK xs k with
  | none => rw [q] at this; cases this
  | some p => rw [q] at this; cases this; exact ⟨p.1, rfl⟩
theorem filter_one {l : List K} (nd : l.Nodup) (h : k ∈ l) : (l.filter fun x => !decide (x = k)).length + 1 = l.length := by
  induction l with
  | nil => cases h
  | cons x r ih =>
    rw [List.nodup_cons] at nd
    by_cases e : x = k
    · subst e
      have : (r.filter fun y => !decide (y = x)) = r := by
        rw [List.filter_eq_self]
        intro y hy
        have : y ≠ x := fun q => nd.1 (q ▸ hy)
        simp [this]
      simp [this]
    · have hr : k ∈ r := by
        rcases List.mem_cons.mp h with q | q
        · exact (e q.symm).elim
        · exact q
      simp only [List.filter_cons, e, decide_false, Bool.not_false, if_true, List.length_cons]
      rw [ih nd.2 hr]
theorem len_drop (nd : (st.map (·.1)).Nodup) (h : k ∈ st.map (·.1)) : (dropS st k).length + 1 = st.length := by
  have := filter_one nd h
  rw [← keys_drop, List.length_map, List.length_map] at this
  exact this
theorem len_del (nd : (xs.map (·.1)).Nodup) (h : k ∈ xs.map (·.1)) : (delK xs k).length + 1 = xs.length := by
  have := filter_one nd h
  rw [← keys_del, List.length_map, List.length_map] at this
  exact this
theorem Agree.mem (h : Agree xs st) : k ∈ xs.map (·.1) ↔ k ∈ st.map (·.1) := by
  rw [← atK_isSome, ← vAt_isSome, ← h.val k, Option.isSome_map]
theorem Agree.del (h : Agree xs st) (nx : (xs.map (·.1)).Nodup) (nd : (st.map (·.1)).Nodup) (hk : k ∈ st.map (·.1)) : Agree (delK xs k) (dropS st k) where
  len := by have := len_drop nd hk; have := len_del nx (h.mem.mpr hk); have := h.len; omega
  val := fun k' => by
    rw [atK_del, vAt_drop, ← h.val k']
    split <;> rfl
theorem Agree.new (h : Agree xs st) (hk : k ∉ st.map (·.1)) : Agree (putK xs k kv v) (st ++ [(k, v)]) where
  len := by
    have := congrArg List.length (keys_put_new (kv := kv) (v := v) (h.no (vAt_eq_none.mpr hk)))
    simp only [List.length_map, List.length_append, List.length_singleton] at this ⊢
    rw [this, h.len]
  val := fun k' => by rw [atK_put, vAt_snoc hk, h.val k']
theorem nodup_drop (nd : (st.map (·.1)).Nodup) : ((dropS st k).map (·.1)).Nodup := by
  rw [keys_drop]; exact nd.filter _
theorem not_mem_drop : k ∉ (dropS st k).map (·.1) := by
  rw [keys_drop]; simp
theorem Agree.there (h : Agree xs st) (nd : (st.map (·.1)).Nodup) (hk : k ∈ st.map (·.1)) : Agree (putK xs k kv v) (dropS st k ++ [(k, v)]) where
  len := by
    have := congrArg List.length (keys_put_there (kv := kv) (v := v) (atK_isSome.mpr (h.mem.mpr hk)))
    have := len_drop nd hk
    have := h.len
    simp only [List.length_map, List.length_append, List.length_singleton] at *
    omega
  val := fun k' => by
    rw [atK_put, vAt_snoc not_mem_drop, vAt_drop, h.val k']
    split <;> rfl
theorem Agree.touch (h : Agree xs st) (nd : (st.map (·.1)).Nodup) (hk : vAt st k = some v) : Agree xs (dropS st k ++ [(k, v)]) where
  len := by
    have hm : k ∈ st.map (·.1) := vAt_isSome.mp (by rw [hk]; rfl)
    have := len_drop nd hm
    have := h.len
    simp only [List.length_append, List.length_singleton] at *
    omega
  val := fun k' => by
    rw [vAt_snoc not_mem_drop, vAt_drop, h.val k']
    split
    · rename_i e; rw [e, hk]
    · rfl
theorem drop_head {v0 : Value} {st' : List (K × Value)} (nd : (((k, v0) :: st').map (·.1)).Nodup) : dropS ((k, v0) :: st') k = st' := by
  rw [List.map_cons, List.nodup_cons] at nd
  unfold dropS
  rw [List.filter_cons]
  simp only [decide_true, Bool.not_true, Bool.false_eq_true, if_false]
  rw [List.filter_eq_self]
  intro y hy
  have : y.1 ≠ k := fun q => nd.1 (List.mem_map.mpr ⟨y, hy, q⟩)
  simp [this]
theorem vAt_head {v0 : Value} {st' : List (K × Value)} : vAt ((k, v0) :: st') k = some v0 := by simp [vAt]
end

end
-- RG
section
section
/-- each leads to the next -/
def Chn (nx : Addr → Addr) : List Addr → Prop
  | x :: y :: r => nx x = y ∧ Chn nx (y :: r)
  | _ => True
variable {nx pv f g : Addr → Addr} {rt a b x y : Addr} {as p q : List Addr}
theorem Chn.app : ∀ {p : List Addr} {x : Addr} {r : List Addr}, Chn nx (p ++ x :: r) ↔ Chn nx (p ++ [x]) ∧ Chn nx (x :: r)
  | [], x, r => ⟨fun h => ⟨trivial, h⟩, fun h => h.2⟩
  | [z], x, r => ⟨fun h => ⟨⟨h.1, trivial⟩, h.2⟩, fun h => ⟨h.1.1, h.2⟩⟩
  | z :: w :: p, x, r => by
    have := Chn.app (p := w :: p) (x := x) (r := r)
    exact ⟨fun h => ⟨⟨h.1, (this.mp h.2).1⟩, (this.mp h.2).2⟩, fun h => ⟨h.1.1, this.mpr ⟨h.1.2, h.2⟩⟩⟩
theorem Chn.congr : ∀ {l : List Addr}, (∀ x ∈ l.dropLast, f x = g x) → Chn f l → Chn g l
  | [], _, _ => trivial
  | [_], _, _ => trivial
  | x :: y :: r, h, c => ⟨(h x (by simp)).symm.trans c.1, Chn.congr (fun z hz => h z (by simp [List.dropLast] at hz ⊢; exact .inr hz)) c.2⟩
theorem Chn.next : ∀ {l : List Addr}, Chn nx l → ∀ x ∈ l.dropLast, nx x ∈ l
  | [], _, x, h => by simp at h
  | [_], _, x, h => by simp at h
  | z :: y :: r, c, x, h => by
    rw [List.dropLast_cons_of_ne_nil (by simp)] at h
    rcases List.mem_cons.mp h with rfl | h
    · rw [c.1]; simp
    · exact List.mem_cons_of_mem _ (Chn.next c.2 x h)
structure Ring (nx pv : Addr → Addr) (rt : Addr) (as : List Addr) : Prop where
  chn : Chn nx (rt :: (as ++ [rt]))
  nd : (rt :: as).Nodup
  inv : ∀ a ∈ rt :: as, pv (nx a) = a
theorem snoc_of {α : Type} (x : α) (l : List α) : ∃ P u, x :: l = P ++ [u] := ⟨_, _, (List.dropLast_concat_getLast (List.cons_ne_nil x l)).symm⟩
theorem cons_of {α : Type} (x : α) (l : List α) : ∃ v Q, l ++ [x] = v :: Q := by
  cases l with
  | nil => exact ⟨x, [], rfl⟩
  | cons y r => exact ⟨y, r ++ [x], rfl⟩
theorem Ring.unlink (h : Ring nx pv rt as) (ha : a ∈ as) : ∃ as', as.Perm (a :: as') ∧ Ring (upd nx (pv a) (nx a)) (upd pv (nx a) (pv a)) rt as' := by
  obtain ⟨p, q, rfl⟩ := List.append_of_mem ha
  obtain ⟨hc, hn, hi⟩ := h
  obtain ⟨P, u, hP⟩ := snoc_of rt p
  obtain ⟨v, Q, hQ⟩ := cons_of rt q
  have e1 : rt :: (p ++ a :: q ++ [rt]) = P ++ u :: a :: v :: Q := by
    rw [List.append_assoc, List.cons_append, ← List.cons_append, hP, hQ]; simp
  rw [e1] at hc
  obtain ⟨c1, c2, c3, c4⟩ := Chn.app.mp hc
  have e2 : rt :: (p ++ a :: q) = P ++ [u] ++ a :: q := by rw [← hP]; rfl
  rw [e2] at hn hi
  have hpa : pv a = u := by rw [← c2]; exact hi u (by simp)
  have hpv : pv v = a := by rw [← c3]; exact hi a (by simp)
  have n1 : u ∉ P ∧ u ∉ q ∧ u ≠ a ∧ a ∉ P ∧ a ∉ q := by
    simp only [List.nodup_append, List.nodup_cons, List.mem_append, List.mem_cons, List.not_mem_nil, or_false] at hn
    obtain ⟨⟨_, _, h3⟩, ⟨h4, h5⟩, h6⟩ := hn
    exact ⟨fun m => h3 u m u rfl rfl, fun m => h6 u (.inr rfl) u (.inr m) rfl, fun e => h6 u (.inr rfl) a (.inl rfl) e, fun m => h6 a (.inl m) a (.inl rfl) rfl, h4⟩
  rw [hpa, c3]
  refine ⟨p ++ q, List.perm_middle, ?_, ?_, ?_⟩
  · have e3 : rt :: (p ++ q ++ [rt]) = P ++ u :: v :: Q := by rw [List.append_assoc, ← List.cons_append, hP, hQ]; simp
    rw [e3]
    refine Chn.app.mpr ⟨Chn.congr (fun x hx => ?_) c1, by simp [upd], Chn.congr (fun x hx => ?_) c4⟩
    · have hx : x ∈ P := by simpa using hx
      have : x ≠ u := fun e => n1.1 (e ▸ hx)
      simp [upd, this]
    · rw [← hQ] at hx
      have hx : x ∈ q := by simpa using hx
      have : x ≠ u := fun e => n1.2.1 (e ▸ hx)
      simp [upd, this]
  · have : rt :: (p ++ q) = P ++ [u] ++ q := by rw [← hP]; rfl
    rw [this]
    exact hn.sublist ((List.sublist_cons_self a q).append_left _)
  · intro x hx
    have e4 : rt :: (p ++ q) = P ++ [u] ++ q := by rw [← hP]; rfl
    rw [e4] at hx
    have hx2 : x ∈ P ++ [u] ++ a :: q := by
      rcases List.mem_append.mp hx with h | h
      · exact List.mem_append_left _ h
      · exact List.mem_append_right _ (List.mem_cons_of_mem _ h)
    have hxa : x ≠ a := fun e => by
      subst e
      simp only [List.mem_append, List.mem_singleton] at hx
      rcases hx with (h | h) | h
      · exact n1.2.2.2.1 h
      · exact n1.2.2.1 h.symm
      · exact n1.2.2.2.2 h
    by_cases q : x = u
    · subst q; simp [upd]
    · have : nx x ≠ v := fun e => hxa (by rw [← hi x hx2, e, hpv])
      simp [upd, q, this, hi x hx2]
theorem Ring.insert (h : Ring nx pv rt as) (hb : b ∉ rt :: as) : Ring (upd (upd nx b rt) (pv rt) b) (upd (upd pv b (pv rt)) rt b) rt (as ++ [b]) := by
  obtain ⟨hc, hn, hi⟩ := h
  have hcl : ∀ x ∈ rt :: as, nx x ∈ rt :: as := fun x hx => by
    have := Chn.next hc x (by rw [← List.cons_append, List.dropLast_concat]; exact hx)
    rw [← List.cons_append] at this
    simp only [List.mem_append, List.mem_singleton] at this
    rcases this with h | h
    · exact h
    · rw [h]; simp
  obtain ⟨P, u, hP⟩ := snoc_of rt as
  have e1 : rt :: (as ++ [rt]) = P ++ u :: [rt] := by rw [← List.cons_append, hP]; simp
  rw [e1] at hc
  obtain ⟨c1, c2, _⟩ := Chn.app.mp hc
  have hpr : pv rt = u := by rw [← c2]; exact hi u (by rw [hP]; simp)
  rw [hpr]
  have hbu : b ≠ u := fun e => hb (by rw [hP, e]; simp)
  have hbr : b ≠ rt := fun e => hb (by rw [e]; simp)
  have huP : u ∉ P := by
    rw [hP] at hn
    simp only [List.nodup_append, List.mem_singleton] at hn
    exact fun m => hn.2.2 u m u rfl rfl
  refine ⟨?_, ?_, ?_⟩
  · have e2 : rt :: (as ++ [b] ++ [rt]) = P ++ u :: b :: [rt] := by rw [List.append_assoc, ← List.cons_append, hP]; simp
    rw [e2]
    refine Chn.app.mpr ⟨Chn.congr (fun x hx => ?_) c1, by simp [upd], by simp [upd, hbu], trivial⟩
    have hx : x ∈ P := by simpa using hx
    have h1 : x ≠ u := fun e => huP (e ▸ hx)
    have h2 : x ≠ b := fun e => hb (by rw [hP, ← e]; simp [hx])
    simp [upd, h1, h2]
  · rw [← List.cons_append, List.nodup_append]
    exact ⟨hn, by simp, fun x hx y hy e => by rw [List.mem_singleton] at hy; subst hy e; exact hb hx⟩
  · intro x hx
    rw [← List.cons_append] at hx
    rcases List.mem_append.mp hx with hx | hx
    · by_cases q : x = u
      · subst q; simp [upd, hbr]
      · have h2 : x ≠ b := fun e => hb (e ▸ hx)
        have h3 : nx x ≠ rt := fun e => q (by rw [← hi x hx, e, hpr])
        have h4 : nx x ≠ b := fun e => hb (e ▸ hcl x hx)
        simp [upd, q, h2, h3, h4, hi x hx]
    · rw [List.mem_singleton] at hx
      subst hx
      simp [upd, hbu]
theorem Ring.nil : Ring (fun _ => rt) (fun _ => rt) rt [] := ⟨⟨rfl, trivial⟩, by simp, by simp⟩
end
section
variable {K : Type} [DecidableEq K] {xs : List (K × Value × Value)} {k : K} {kv u v : Value} {a b : Addr}
/-- the address that lies as a value -/
def adr (e : K × Value × Value) : Addr := match e.2.2 with | .ref a => a | _ => 0
theorem del_none (h : k ∉ xs.map (·.1)) : delK xs k = xs := by
  unfold delK
  rw [List.filter_eq_self]
  intro e he
  have : e.1 ≠ k := fun q => h (List.mem_map.mpr ⟨e, he, q⟩)
  simp [this]
theorem perm_del : ∀ {xs : List (K × Value × Value)}, (xs.map (·.1)).Nodup → atK xs k = some (kv, .ref a) → (xs.map adr).Perm (a :: (delK xs k).map adr)
  | [], _, h => by simp [atK] at h
  | e :: r, nd, h => by
    rw [List.map_cons, List.nodup_cons] at nd
    by_cases q : e.1 = k
    · have : e.2 = (kv, .ref a) := by simpa [atK, q] using h
      have e2 : delK (e :: r) k = r := by
        have := del_none (xs := r) (k := k) (q ▸ nd.1)
        unfold delK at this ⊢
        rw [List.filter_cons]
        simp [q, this]
      rw [e2, List.map_cons]
      have : adr e = a := by unfold adr; rw [this]
      rw [this]
    · have h2 : atK r k = some (kv, .ref a) := by simpa [atK, q] using h
      have e2 : delK (e :: r) k = e :: delK r k := by unfold delK; rw [List.filter_cons]; simp [q]
      rw [e2, List.map_cons, List.map_cons]
      exact ((perm_del nd.2 h2).cons _).trans (.swap ..)
theorem put_new (h : atK xs k = none) : putK xs k kv v = xs ++ [(k, kv, v)] := by unfold putK; rw [h]; simp
theorem at_del : atK (delK xs k) k = none := by rw [atK_del, if_pos rfl]
theorem put_del : putK (delK xs k) k kv v = delK xs k ++ [(k, kv, v)] := put_new at_del
theorem put_put {kv' : Value} : putK (putK (delK xs k) k kv u) k kv' v = putK (delK xs k) k kv v := by
  rw [put_del, put_del]
  unfold putK
  have hs : (atK (delK xs k ++ [(k, kv, u)]) k).isSome = true := by rw [atK_isSome]; simp
  rw [if_pos hs, List.map_append]
  have h0 : ∀ e ∈ delK xs k, putAtK k v e = e := fun e he => by
    have : e.1 ≠ k := by simpa using (List.mem_filter.mp he).2
    unfold putAtK; rw [if_neg this]
  rw [List.map_congr_left (g := _root_.id) (fun e he => h0 e he), List.map_id]
  simp [putAtK]
theorem adr_mk : adr ((k, kv, .ref a) : K × Value × Value) = a := rfl
end

end
-- M23
section
set_option maxRecDepth 100000
theorem entry_sift : entryFor table "_heapq.heapify.sift" = some Builtin.«_heapq.heapify.sift» := entryFor_of_tree (by kernel_rfl)
theorem entry_hpush : entryFor table "_heapq.heappush" = some Builtin.«_heapq.heappush» := entryFor_of_tree (by kernel_rfl)
theorem entry_hpop : entryFor table "_heapq.heappop" = some Builtin.«_heapq.heappop» := entryFor_of_tree (by kernel_rfl)
theorem entry_hify : entryFor table "_heapq.heapify" = some Builtin.«_heapq.heapify» := entryFor_of_tree (by kernel_rfl)
theorem plain_sift : plainId "_heapq.heapify.sift" = true := by decide +kernel
section
variable {prog : Program} {w : World} {A : Around} {E : Value → Shared → Prop} {B : Shared} {fs : List Env} {l l' : Cells} {s : Shared} {K : Frag} {C x d f b : Addr} {cD : Cell} {sl : Array (Option Value)}
theorem inst_slot (S : St B fs l s) (mi : (x, slotC C d sl) ∈ l) (md : (d, cD) ∈ l) : ∃ ox od, InstAt s.heap x ox C (some od) := let ⟨ox, od, I, _⟩ := S.slot mi md; ⟨ox, od, I⟩
/-- two of one class compared by the class's own method -/
theorem ltSame {Q : Value → Shared → Prop} {d' : Addr} {cD' : Cell} {sl' : Array (Option Value)} (hu : A.units < cLine) (T : Stat K B.heap) (S : St B fs l s) (mi : (x, slotC C d sl) ∈ l) (md : (d, cD) ∈ l) (mb : (b, slotC C d' sl') ∈ l) (mdb : (d', cD') ∈ l)
    (hs : specFn K C (Str.ofString "__lt__") f = true) (h : wpAny (model prog w) A (call (.ref f) [.ref x, .ref b]) (PySem.W.CmpBack Q) E s) : wpAny (model prog w) A (richCompare .Lt (.ref x) (.ref b)) Q E s := by
  obtain ⟨ox, od, I⟩ := inst_slot S mi md
  obtain ⟨ob, odb, Ib⟩ := inst_slot S mb mdb
  have X := (S.stat T).X
  unfold specFn at hs
  simp only [Bool.and_eq_true, beq_iff_eq] at hs
  unfold richCompare
  simp only [oneThing_ref]
  refine wpAny_holding (wpAny_bind (wpAny_cRoomFor hu (wpAny_bind (I.type.here (wpAny_bind (Ib.type.here ?_))))))
  simp only [bne_self_eq_false, Bool.false_eq_true, if_false]
  refine wpAny_bind (wpAny_pure ?_)
  simp only [Bool.false_eq_true, if_false]
  unfold tryCompare
  refine wpAny_bind (wpAny_bind (ifBound_K X I hs.1 hs.2 (wpAny_mono h (fun v s' hv => ?_) fun _ _ e => e)))
  cases v <;> first | exact hv.elim | exact wpAny_pure (wpAny_pure hv)
end
/-- items that all end at one time -/
def ItemsOk (l : Cells) (vs : List Value) : Prop := ∀ v ∈ vs, ∃ a d sl te, v = .ref a ∧ (a, slotC 1397 d sl) ∈ l ∧ (d, idC []) ∈ l ∧ (sl[0]?).join = some (.int endV te)
section
variable {w : World} {A : Around} {E : Value → Shared → Prop} {B : Shared} {fs : List Env} {l l' : Cells} {s : Shared} {R : Result → Shared → Prop} {n : Nat} {vs : List Value} {x y : Value}
theorem c1393 {a b d d' : Addr} {sl sl' : Array (Option Value)} {te te' : Tok} (T : Stat (KK w) B.heap) (r : Room (n + 2) fs A) (S₀ : St B fs l s) (ma : (a, slotC 1397 d sl) ∈ l) (md : (d, idC []) ∈ l) (mb : (b, slotC 1397 d' sl') ∈ l) (md' : (d', idC []) ∈ l)
    (h1 : (sl[0]?).join = some (.int endV te)) (h2 : (sl'[0]?).join = some (.int endV te')) (h : ∀ s', St B fs l s' → R (.ok (.ret (.bool false))) s') :
    codeAny (model pw w) A (.call (.ref 1393) ⟨[.ref a, .ref b], []⟩) R s := by
  refine callS (binds := [(S "self", .ref a), (S "other", .ref b)]) (names := [S "self", S "other"]) (locs := [(S "other", .ref b), (S "self", .ref a)]) fnOk1393 T S₀ r (BindsTo.of_eq (by kernel_rfl)) rfl rfl (by kernel_rfl) (by decide +kernel) (by kernel_rfl) fun L s' r₁ S₁ => ?_
  refine wpAny_execs_cons ?_
  refine wpAny_Return_some (wpAny_Compare1 ?_)
  refine Attribute_any_ ?_
  walk_at "m_wk"
  refine getSlot T (by assumption) (List.mem_cons_of_mem _ ma) (List.mem_cons_of_mem _ md) (by kernel_rfl) h1 rfl fun s' S' => ?_
  refine Attribute_any_ ?_
  walk_at "m_wk"
  refine getSlot T (by assumption) (List.mem_cons_of_mem _ mb) (List.mem_cons_of_mem _ md') (by kernel_rfl) h2 rfl fun s' S' => ?_
  walk_at "m_wk"
  exact h _ (St.tail (St.pop S'))
theorem lessF {Q : Bool → Shared → Prop} (T : Stat (KK w) B.heap) (r : Room (n + 3) fs A) (S₀ : St B fs l s) (hi : ItemsOk l vs) (mx : x ∈ vs) (my : y ∈ vs) (h : ∀ s', St B fs l s' → Q false s') :
    wpAny (model pw w) A (do truthOfDropped (← richCompare .Lt x y)) Q E s := by
  obtain ⟨a, d, sl, te, rfl, ma, md, he⟩ := hi x mx
  obtain ⟨b, d', sl', te', rfl, mb, md', he'⟩ := hi y my
  refine wpAny_bind (ltSame (f := 1393) r.u0 T S₀ ma md mb md' (by kernel_rfl) (wpAny_call (c1393 T (r.less (m := n + 2) (by omega)) S₀ ma md mb md' he he' fun s' S' => ?_)))
  exact wpAny_truthy_bool (h _ S')
end

end
-- M24
section
set_option maxRecDepth 100000
theorem swap_perm {vs : List Value} {i j : Nat} {x y : Value} (hi : vs[i]? = some x) (hj : vs[j]? = some y) : ((vs.set i y).set j x).Perm vs := by
  have h1 := (List.getElem?_eq_some_iff.mp hi).1
  have h2 := (List.getElem?_eq_some_iff.mp hj).1
  have e1 : vs[i] = x := (List.getElem?_eq_some_iff.mp hi).2
  have e2 : vs[j] = y := (List.getElem?_eq_some_iff.mp hj).2
  rw [List.perm_iff_count]
  intro a
  by_cases hij : i = j
  · subst hij
    have : x = y := by rw [← e1, ← e2]
    subst this
    rw [List.set_set, ← e1, List.set_getElem_self]
  · rw [List.count_set, List.count_set]
    · have : (vs.set i y)[j]'(by simpa using h2) = y := by rw [List.getElem_set_ne hij]; exact e2
      rw [this, e1]
      have c1 : (vs[i] == a) = true → 0 < List.count a vs := fun e => List.count_pos_iff.mpr (by rw [← eq_of_beq e]; exact List.getElem_mem h1)
      rw [e1] at c1
      split <;> split <;> simp_all <;> omega
    · exact h1
    · simpa using h2
section
variable {w : World} {A : Around} {E : Value → Shared → Prop} {B : Shared} {fs : List Env} {l : Cells} {s : Shared} {R : Result → Shared → Prop} {n : Nat} {vs : List Value} {x y res : Value} {od : Addr}
theorem itemsOk_perm {vs' : List Value} (h : ItemsOk l vs) (p : vs'.Perm vs) : ItemsOk l vs' := fun v hv => h v (p.mem_iff.mp hv)
theorem itemsOk_cons {c : Addr × Cell} (h : ItemsOk l vs) : ItemsOk (c :: l) vs := fun v hv => by
  obtain ⟨a, d, sl, te, h1, h2, h3, h4⟩ := h v hv
  exact ⟨a, d, sl, te, h1, List.mem_cons_of_mem _ h2, List.mem_cons_of_mem _ h3, h4⟩
theorem seqS {M : Model} {Q : Option (Array Value) → Shared → Prop} (S : St B fs l s) (m : (od, listC vs) ∈ l) (h : Q (some vs.toArray) s) : wpAny M A (seqItems? (.ref od)) Q E s := by
  obtain ⟨o, ho, _, _, ⟨n, hd⟩, _⟩ := S.has _ m
  exact wpAny_seqItems ho hd h
theorem updSeqS {M : Model} {l' : Cells} {g : Array Value → Array Value} {vs' : List Value} {Q : Unit → Shared → Prop} (S : St B fs l s) (u : Upd l (od, listC vs) (od, listC vs') l') (hg : g vs.toArray = vs'.toArray) (hz : vs.length ≤ 1000) (hz' : vs'.length ≤ 1001) (h : ∀ s', St B fs l' s' → Q () s') :
    wpAny M A (updateSeq od g) Q E s := by
  obtain ⟨o, ho, h1, h2, ⟨n, h3⟩, h4⟩ := S.has _ u.mem
  obtain ⟨n', hd'⟩ := Obj.data_mapSeq h3 g
  refine wpAny_updateSeq ho h3 (h _ ?_) (by rw [sizeLine_eq]; simp; omega) (by rw [hg, sizeLine_eq]; simp; omega)
  exact S.set u s.toks (Heap.SameBut.update ..) (Heap.get?_update_self _ ho (Obj.isFreed_of_seq hd')) ⟨(Obj.cls_mapSeq ..).trans h1, (dict_mapSeq ..).trans h2, ⟨n', by rw [hd', hg]⟩, (slots_mapSeq ..).trans h4⟩ (.inl fun vs e => by rw [hd'] at e; cases e) fun hm => (notSoft_listC _ ⟨h1, h2, ⟨n, h3⟩, h4⟩ (S.soft _ u.mem hm)).elim
/-- one turn of the heap's sift: nothing is ever less, so the end is a rearrangement -/
theorem sift (T : Stat (KK w) B.heap) (r : Room (n + 6) fs A) : ∀ (a m : Nat) (down : Bool) (pos top : Nat) (after : Int) (vs : List Value) (s : Shared) (R : Result → Shared → Prop),
    (after + 1).toNat = a → -1 ≤ after → (if down then vs.length - pos + 1 else 0) = m → pos < vs.length → top < vs.length → after < vs.length → vs.length ≤ 1000 → ItemsOk l vs → St B fs ((od, listC vs) :: l) s →
    (∀ vs' s', vs'.Perm vs → St B fs ((od, listC vs') :: l) s' → R (.ok (.ret res)) s') →
    codeAny (model pw w) A (.builtin "_heapq.heapify.sift" ⟨[.ref od, .bool false, .bool down, rawInt pos, rawInt top, res, rawInt after], []⟩) R s := by
  intro a
  induction a using Nat.strongRecOn with
  | _ a iha =>
    intro m
    induction m using Nat.strongRecOn with
    | _ m ihm =>
      intro down pos top after vs s R ha ha1 hm hpos htop haf hlen hi S h
      refine codeAny_builtin entry_sift ?_
      rw [Around.under_plainId plain_sift]
      unfold Builtin.«_heapq.heapify.sift»
      k_delta "heapqSwap"
      k_delta "heapqLess"
      k_delta "heapqSift"
      k_delta "heapqAt"
      k_delta "heapqItems"
      simp only [rawInt, Int.toNat_natCast]
      have sft : ∀ (b : Bool) (p t : Nat) (af : Int), Value.int (p : Int) 0 = rawInt p := fun _ _ _ _ => rfl
      refine wpAny_bind (wpAny_bind (seqS S List.mem_cons_self (wpAny_pure ?_)))
      skip
      have less : ∀ (x y : Value) (s : Shared) (k : Bool → Sem PySem.Fin) (Q : PySem.Fin → Shared → Prop) (E : Value → Shared → Prop), x ∈ vs → y ∈ vs → St B fs ((od, listC vs) :: l) s →
          (∀ s', St B fs ((od, listC vs) :: l) s' → wpAny (model pw w) A.in1 (k false) Q E s') →
          wpAny (model pw w) A.in1 ((do
            let less ← holding [x, y] (do truthOfDropped (← richCompare .Lt x y))
            if (← (do let __x ← seqItems? (Value.ref od); match __x with | some xs => pure xs | x => unsupported "internal:_heapq")).size != vs.toArray.size then rule "_heapq.size-changed"; raiseError "RuntimeError" "list changed size during iteration"
            return less) >>= k) Q E s := by
        intro x y s k Q E hx hy S hq
        refine wpAny_bind (wpAny_bind (wpAny_holding (lessF T r.in1 S (itemsOk_cons hi) hx hy fun s' S' => ?_)))
        refine wpAny_bind (wpAny_bind (seqS S' List.mem_cons_self (wpAny_pure ?_)))
        simp only [bne_self_eq_false, Bool.false_eq_true, if_false]
        exact wpAny_pure (hq _ S')
      have swp : ∀ (c p : Nat) (s : Shared) (k : Unit → Sem PySem.Fin) (Q : PySem.Fin → Shared → Prop) (E : Value → Shared → Prop), c < vs.length → p < vs.length → St B fs ((od, listC vs) :: l) s →
          (∀ vs' s', vs'.Perm vs → St B fs ((od, listC vs') :: l) s' → wpAny (model pw w) A.in1 (k ()) Q E s') →
          wpAny (model pw w) A.in1 ((do
            let xs ← (do let __x ← seqItems? (Value.ref od); match __x with | some xs => pure xs | x => unsupported "internal:_heapq")
            let x ← (match xs[c]? with | some v => pure v | none => unsupported "internal:_heapq.index")
            let y ← (match xs[p]? with | some v => pure v | none => unsupported "internal:_heapq.index")
            updateSeq od fun xs => (xs.setIfInBounds c y).setIfInBounds p x) >>= k) Q E s := by
        intro c p s k Q E hc hp S hq
        refine wpAny_bind (wpAny_bind (wpAny_bind (seqS S List.mem_cons_self (wpAny_pure ?_))))
        rw [List.getElem?_toArray, List.getElem?_toArray, List.getElem?_eq_getElem hc, List.getElem?_eq_getElem hp]
        refine wpAny_bind (wpAny_pure (wpAny_bind (wpAny_pure ?_)))
        have e : ((vs.toArray.setIfInBounds c vs[p]).setIfInBounds p vs[c]) = ((vs.set c vs[p]).set p vs[c]).toArray := by simp
        exact updSeqS S Upd.here (vs' := (vs.set c vs[p]).set p vs[c]) e hlen (by simp; omega) fun s' S' => hq _ _ (swap_perm (List.getElem?_eq_getElem hc) (List.getElem?_eq_getElem hp)) S'
      have agn : ∀ (a' m' : Nat) (b : Bool) (p t : Nat) (af : Int) (vs' : List Value) (s : Shared), (a' < a ∨ (a' = a ∧ m' < m)) → (af + 1).toNat = a' → -1 ≤ af → (if b then vs'.length - p + 1 else 0) = m' → p < vs.length → t < vs.length → af < vs.length → vs'.Perm vs → St B fs ((od, listC vs') :: l) s →
          wpAny (model pw w) A.in1 (again (.builtin "_heapq.heapify.sift" ⟨[.ref od, .bool false, .bool b, .int p 0, .int t 0, res, .int af 0], []⟩))
            (fun fin s' => match fin with | .done f => R (.ok f) s' | .again c' => c'.quiet = true ∧ codeAny (model pw w) A c' R s') (fun e s' => R (.error e) s') s := by
        intro a' m' b p t af vs' s hlt e1 e2 e3 e4 e5 e6 e7 S
        have el := e7.length_eq
        refine wpAny_pure ⟨plainId_quiet plain_sift _, ?_⟩
        rcases hlt with hlt | ⟨rfl, hlt⟩
        · exact iha a' hlt m' b p t af vs' s R e1 e2 e3 (by omega) (by omega) (by omega) (by omega) (itemsOk_perm hi e7) S fun vs'' s' q S' => h vs'' s' (q.trans e7) S'
        · exact ihm m' hlt b p t af vs' s R e1 e2 e3 (by omega) (by omega) (by omega) (by omega) (itemsOk_perm hi e7) S fun vs'' s' q S' => h vs'' s' (q.trans e7) S'
      have ends : ∀ s, St B fs ((od, listC vs) :: l) s → wpAny (model pw w) A.in1 (if after < 0 then ret res else again (.builtin "_heapq.heapify.sift" ⟨[.ref od, .bool false, .bool true, .int after.toNat 0, .int after.toNat 0, res, .int (after - 1) 0], []⟩))
            (fun fin s' => match fin with | .done f => R (.ok f) s' | .again c' => c'.quiet = true ∧ codeAny (model pw w) A c' R s') (fun e s' => R (.error e) s') s := by
        intro s S
        by_cases ha0 : after < 0
        · rw [if_pos ha0]
          exact wpAny_pure (h _ _ (.refl _) S)
        · rw [if_neg ha0]
          exact agn _ _ true _ _ _ vs s (.inl (by omega)) rfl (by omega) rfl (by omega) (by omega) (by omega) (.refl _) S
      cases down with
      | true =>
        simp only [if_true, List.size_toArray, Bool.false_eq_true, if_false]
        simp only [if_true] at hm
        by_cases hp : pos < vs.length / 2
        · rw [if_pos hp]
          by_cases hl : 2 * pos + 1 + 1 < vs.length
          · rw [if_pos hl, List.getElem?_toArray, List.getElem?_toArray, List.getElem?_eq_getElem (show 2 * pos + 1 < vs.length by omega), List.getElem?_eq_getElem hl]
            refine wpAny_bind (wpAny_pure (wpAny_bind (wpAny_pure ?_)))
            refine less _ _ _ _ _ _ (List.getElem_mem _) (List.getElem_mem _) S fun s' S' => ?_
            simp only [Bool.not_false, if_true]
            refine swp _ _ _ _ _ _ hl hpos S' fun vs' s' q S' => ?_
            exact agn _ _ true _ _ _ vs' s' (.inr ⟨ha, by have := q.length_eq; rw [if_pos rfl]; omega⟩) rfl ha1 rfl (by omega) htop haf q S'
          · rw [if_neg hl]
            refine swp _ _ _ _ _ _ (by omega) hpos S fun vs' s' q S' => ?_
            exact agn _ _ true _ _ _ vs' s' (.inr ⟨ha, by have := q.length_eq; rw [if_pos rfl]; omega⟩) rfl ha1 rfl (by omega) htop haf q S'
        · rw [if_neg hp]
          exact agn _ _ false _ _ _ vs s (.inr ⟨ha, by rw [if_neg (by decide)]; omega⟩) rfl ha1 rfl hpos htop haf (.refl _) S
      | false =>
        simp only [Bool.false_eq_true, if_false, List.size_toArray]
        by_cases hp : pos > top
        · rw [if_pos hp, List.getElem?_toArray, List.getElem?_toArray, List.getElem?_eq_getElem hpos, List.getElem?_eq_getElem (show (pos - 1) / 2 < vs.length by omega)]
          refine wpAny_bind (wpAny_pure (wpAny_bind (wpAny_pure ?_)))
          refine less _ _ _ _ _ _ (List.getElem_mem _) (List.getElem_mem _) S fun s' S' => ?_
          simp only [Bool.false_eq_true, if_false]
          exact ends _ S'
        · rw [if_neg hp]
          exact ends _ S
end

end
-- M25
section
set_option maxRecDepth 100000
section
variable {prog : Program} {w : World} {A : Around} {E : Value → Shared → Prop} {s : Shared}
/-- a builtin function that may go on as another -/
theorem callAgain {id : String} {b : Builtin} {args : List Value} {Q : Value → Shared → Prop} (hk : builtinKind id = none) (hp : plainId id = true)
    (hb : entryFor table id = some b) (ha : argsOk id ⟨args, []⟩)
    (hc : wpAny (model prog w) A.in1 (b ⟨args, []⟩) (fun fin s' => match fin with
      | .done f => Back Q E (.ok f) s'
      | .again c' => c'.quiet = true ∧ codeAny (model prog w) A c' (Back Q E) s') E s) : wpAny (model prog w) A (call (.builtin id) args) Q E s := by
  refine wpAny_call (codeAny_call_builtin hp hb ?_)
  simp only [checkBuiltinCall, hk]
  have fin : wpAny (model prog w) A.in1 (b ⟨args, []⟩) (fun fin s' => match fin with
      | .done f => (match (Except.ok f : Result) with | .ok (.ret v) => Q v s' | .ok _ => False | .error e => E e s')
      | .again c' => c'.quiet = true ∧ codeAny (model prog w) A c' (fun r s' => match r with | .ok (.ret v) => Q v s' | .ok _ => False | .error e => E e s') s') E s := hc
  cases hsig : Manifest.signature? id with
  | none => exact wpAny_pure fin
  | some sig =>
    simp only [argsOk, hsig] at ha
    have h2 : Bind.checkArgs id sig ⟨args, []⟩ = pure () := ha
    show wpAny _ A.in1 (Bind.checkArgs id sig ⟨args, []⟩) _ _ s
    rw [h2]; exact wpAny_pure fin
end
theorem kind_hpush : builtinKind "_heapq.heappush" = none := by decide +kernel
theorem kind_hpop : builtinKind "_heapq.heappop" = none := by decide +kernel
theorem kind_hify : builtinKind "_heapq.heapify" = none := by decide +kernel
theorem plain_hpush : plainId "_heapq.heappush" = true := by decide +kernel
theorem plain_hpop : plainId "_heapq.heappop" = true := by decide +kernel
theorem plain_hify : plainId "_heapq.heapify" = true := by decide +kernel
theorem args_hpush (a b : Value) : argsOk "_heapq.heappush" ⟨[a, b], []⟩ := by unfold argsOk; kernel_rfl
theorem args_hpop (a : Value) : argsOk "_heapq.heappop" ⟨[a], []⟩ := by unfold argsOk; kernel_rfl
theorem args_hify (a : Value) : argsOk "_heapq.heapify" ⟨[a], []⟩ := by unfold argsOk; kernel_rfl
section
variable {w : World} {A : Around} {E : Value → Shared → Prop} {B : Shared} {fs : List Env} {l : Cells} {s : Shared} {n : Nat} {vs : List Value} {v : Value} {od : Addr} {Q : Value → Shared → Prop}
theorem hpushS (T : Stat (KK w) B.heap) (r : Room (n + 7) fs A) (S : St B fs ((od, listC vs) :: l) s) (hi : ItemsOk l (vs ++ [v])) (hlen : vs.length < 1000)
    (h : ∀ vs' s', vs'.Perm (vs ++ [v]) → St B fs ((od, listC vs') :: l) s' → Q .none s') : wpAny (model pw w) A (call (.builtin "_heapq.heappush") [.ref od, v]) Q E s := by
  refine callAgain kind_hpush plain_hpush entry_hpush (args_hpush _ _) ?_
  unfold Builtin.«_heapq.heappush»
  k_delta "heapqTwo"
  k_delta "heapqList"
  k_delta "heapqSift"
  k_delta "heapqItems"
  refine wpAny_bind (wpAny_bind (m := noKeywords _ _) (wpAny_pure (wpAny_bind (m := checkCount _ _ _ _) (wpAny_of_eq (a := ()) (by kernel_rfl) ?_))))
  refine wpAny_bind (wpAny_bind (wpAny_isInstance (T := "list") (b := true) (S.list List.mem_cons_self).typeIs sub_list_self ?_))
  simp only [if_true]
  refine wpAny_pure (wpAny_pure ?_)
  dsimp only
  refine wpAny_bind (updSeqS S Upd.here (vs' := vs ++ [v]) (by simp) (by omega) (by simp; omega) fun s' S' => ?_)
  refine wpAny_bind (wpAny_bind (seqS S' List.mem_cons_self (wpAny_pure ?_)))
  have hs := sift (od := od) (res := .none) (n := n + 1) T r 0 0 false (vs ++ [v]).length.pred 0 (-1) (vs ++ [v]) s' (Back Q E) (by decide) (by decide) rfl (by simp) (by simp) (by simp; omega) (by simp; omega) hi S' fun vs' s' p S' => h vs' s' p S'
  refine wpAny_pure ⟨plainId_quiet plain_sift _, ?_⟩
  have e : (vs ++ [v]).toArray.size - 1 = (vs ++ [v]).length.pred := by simp
  rw [e]
  exact hs
theorem hpopS {v0 : Value} {vs : List Value} (T : Stat (KK w) B.heap) (r : Room (n + 7) fs A) (S : St B fs ((od, listC (v0 :: vs)) :: l) s) (hi : ItemsOk l (v0 :: vs)) (hlen : vs.length < 1000)
    (h : ∀ vs' s', vs'.Perm vs → St B fs ((od, listC vs') :: l) s' → Q v0 s') : wpAny (model pw w) A (call (.builtin "_heapq.heappop") [.ref od]) Q E s := by
  refine callAgain kind_hpop plain_hpop entry_hpop (args_hpop _) ?_
  unfold Builtin.«_heapq.heappop»
  k_delta "heapqPop"
  k_delta "heapqOne"
  k_delta "heapqList"
  k_delta "heapqSift"
  k_delta "heapqAt"
  k_delta "heapqItems"
  refine wpAny_bind (wpAny_bind (m := oneArg _ _) (wpAny_pure ?_))
  refine wpAny_bind (wpAny_bind (wpAny_isInstance (T := "list") (b := true) (S.list List.mem_cons_self).typeIs sub_list_self ?_))
  simp only [if_true]
  refine wpAny_pure (wpAny_pure ?_)
  dsimp only
  refine wpAny_bind (wpAny_bind (seqS S List.mem_cons_self (wpAny_pure ?_)))
  have hb : ∀ (u : Value) (us : List Value), ((u :: us).toArray).back? = some ((u :: us).getLast (List.cons_ne_nil _ _)) := fun u us => by
    rw [List.back?_toArray]; rfl
  rw [hb]
  dsimp only
  refine wpAny_bind (updSeqS S Upd.here (vs' := (v0 :: vs).dropLast) (by simp) (by simp; omega) (by simp; omega) fun s' S' => ?_)
  cases vs with
  | nil =>
    rw [if_pos (by rfl)]
    exact wpAny_pure (h [] s' (.refl _) S')
  | cons v1 vt =>
    rw [if_neg (by simp)]
    refine wpAny_bind (wpAny_pure ?_)
    have hd : (v0 :: v1 :: vt).dropLast = v0 :: (v1 :: vt).dropLast := rfl
    have hlast : (v0 :: v1 :: vt).getLast (List.cons_ne_nil _ _) = (v1 :: vt).getLast (List.cons_ne_nil _ _) := rfl
    rw [hd] at S'
    refine wpAny_bind (updSeqS S' Upd.here (vs' := (v1 :: vt).getLast (List.cons_ne_nil _ _) :: (v1 :: vt).dropLast) (by simp [hlast]) (by simp; simp at hlen; omega) (by simp; simp at hlen; omega) fun s' S' => ?_)
    have p : ((v1 :: vt).getLast (List.cons_ne_nil _ _) :: (v1 :: vt).dropLast).Perm (v1 :: vt) := by
      have := List.dropLast_concat_getLast (List.cons_ne_nil v1 vt)
      exact (List.perm_append_comm (l₁ := [_])).trans (by rw [this])
    have hi' : ItemsOk l ((v1 :: vt).getLast (List.cons_ne_nil _ _) :: (v1 :: vt).dropLast) := fun v hv => hi v (List.mem_cons_of_mem _ (p.mem_iff.mp hv))
    refine wpAny_pure ⟨plainId_quiet plain_sift _, ?_⟩
    exact sift (od := od) (res := v0) (n := n + 1) T r 0 _ true 0 0 (-1) _ s' (Back Q E) (by decide) (by decide) rfl (by simp) (by simp) (by simp; omega) (by simp; simp at hlen; omega) hi' S' fun vs' s' q S' => h vs' s' (q.trans p) S'
theorem hifyS (T : Stat (KK w) B.heap) (r : Room (n + 7) fs A) (S : St B fs ((od, listC vs) :: l) s) (hi : ItemsOk l vs) (hlen : vs.length < 1000)
    (h : ∀ vs' s', vs'.Perm vs → St B fs ((od, listC vs') :: l) s' → Q .none s') : wpAny (model pw w) A (call (.builtin "_heapq.heapify") [.ref od]) Q E s := by
  refine callAgain kind_hify plain_hify entry_hify (args_hify _) ?_
  unfold Builtin.«_heapq.heapify»
  k_delta "heapqHeapify"
  k_delta "heapqOne"
  k_delta "heapqList"
  k_delta "heapqSift"
  k_delta "heapqItems"
  refine wpAny_bind (wpAny_bind (m := oneArg _ _) (wpAny_pure ?_))
  refine wpAny_bind (wpAny_bind (wpAny_isInstance (T := "list") (b := true) (S.list List.mem_cons_self).typeIs sub_list_self ?_))
  simp only [if_true]
  refine wpAny_pure (wpAny_pure ?_)
  dsimp only
  refine wpAny_bind (wpAny_bind (seqS S List.mem_cons_self (wpAny_pure ?_)))
  simp only [List.size_toArray]
  rw [if_neg (by omega)]
  by_cases h2 : vs.length < 2
  · rw [if_pos h2]
    exact wpAny_pure (h _ _ (.refl _) S)
  · rw [if_neg h2]
    refine wpAny_pure ⟨plainId_quiet plain_sift _, ?_⟩
    have e : ((vs.length / 2 : Nat) : Int) - 2 = ((vs.length / 2 : Nat) : Int) - 2 := rfl
    exact sift (od := od) (res := .none) (n := n + 1) T r _ _ true (vs.length / 2 - 1) (vs.length / 2 - 1) (((vs.length / 2 : Nat) : Int) - 2) vs s (Back Q E) rfl (by omega) rfl (by omega) (by omega) (by omega) (by omega) hi S fun vs' s' q S' => h vs' s' q S'
end

end
-- TL1
section
set_option maxRecDepth 100000
set_option maxHeartbeats 400000
end
local macro_rules | `(tactic| walk_at "m_wk1") => `(tactic| ((with_reducible show wpAny _ _ (eval (Expr.Name (Str.ofString "TLRUCache") _) _) _ _ _); refine ldG (v := .ref 1488) (by assumption) (by assumption) (by kernel_rfl) ?_))
section
set_option maxRecDepth 100000
set_option maxHeartbeats 400000
end
local macro_rules | `(tactic| walk_at "m_wk1") => `(tactic| ((with_reducible show wpAny _ _ (eval (Expr.Name (Str.ofString "heappop") _) _) _ _ _); refine ldG (v := .builtin "_heapq.heappop") (by assumption) (by assumption) (by kernel_rfl) ?_))
section
set_option maxRecDepth 100000
set_option maxHeartbeats 400000
end
local macro_rules | `(tactic| walk_at "m_wk1") => `(tactic| ((with_reducible show wpAny _ _ (eval (Expr.Name (Str.ofString "heappush") _) _) _ _ _); refine ldG (v := .builtin "_heapq.heappush") (by assumption) (by assumption) (by kernel_rfl) ?_))
section
set_option maxRecDepth 100000
set_option maxHeartbeats 400000
end
local macro_rules | `(tactic| walk_at "m_wk1") => `(tactic| ((with_reducible show wpAny _ _ (eval (Expr.Name (Str.ofString "heapify") _) _) _ _ _); refine ldG (v := .builtin "_heapq.heapify") (by assumption) (by assumption) (by kernel_rfl) ?_))
section
set_option maxRecDepth 100000
set_option maxHeartbeats 400000
/-- what is said of an item -/
def itf (ev kv : Addr → Value) (rv : Addr → Bool) : Addr → Array (Option Value) := fun a => #[some (ev a), some (kv a), some (.bool (rv a))]
theorem updRem {C a d : Addr} {l : Cells} {ns : List (Addr × Addr)} {ev kv : Addr → Value} {rv : Addr → Bool} {b : Bool} (h : (a, d) ∈ ns) (nd : (ns.map (·.1)).Nodup) :
    Upd (nodeCells C (itf ev kv rv) ns ++ l) (a, slotC C d (itf ev kv rv a)) (a, slotC C d (itf ev kv (upd rv a b) a)) (nodeCells C (itf ev kv (upd rv a b)) ns ++ l) :=
  nodes_updG (f := itf ev kv rv) (g := itf ev kv (upd rv a b)) (fun b hb => by simp [itf, upd_ne hb]) h nd
end
local macro_rules | `(tactic| walk_at "m_updn") => `(tactic| repeat (first | with_reducible exact Upd.here | with_reducible exact updRem (by assumption) (by assumption) | with_reducible apply Upd.there | with_reducible apply Upd.app))
section
set_option maxRecDepth 100000
set_option maxHeartbeats 400000
section
variable {w : World} {A : Around} {E : Value → Shared → Prop} {B : Shared} {fs : List Env} {l l' : Cells} {s : Shared} {R : Result → Shared → Prop} {n : Nat} {K : Type} [DecidableEq K] {knd : AnyKind pw w K}
  {a d : Addr} {ns : List (Addr × Addr)} {ev kv : Addr → Value} {rv : Addr → Bool} {v : Addr} {e key : Value} {expr : Bool} {x dx dd tm dt it od : Addr} {mx sz m : Int} {t u te : Tok} {xs is_ : List (K × Value × Value)} {os : List Addr}
theorem li_e : slotName (KK w) 1397 (S "expires") 0 = true := by kernel_rfl
theorem li_k : slotName (KK w) 1397 (S "key") 1 = true := by kernel_rfl
theorem li_r : slotName (KK w) 1397 (S "removed") 2 = true := by kernel_rfl
theorem si_e : slotSet (KK w) 1397 (S "expires") 0 = true := by kernel_rfl
theorem si_k : slotSet (KK w) 1397 (S "key") 1 = true := by kernel_rfl
theorem si_r : slotSet (KK w) 1397 (S "removed") 2 = true := by kernel_rfl
theorem getRem {Q : Value → Shared → Prop} {b : Bool} (T : Stat (KK w) B.heap) (S₀ : St B fs l s) (m : (a, slotC 1397 d (itf ev kv rv a)) ∈ l) (md : (d, idC []) ∈ l) (hb : rv a = b) (h : ∀ s', St B fs l s' → Q (.bool b) s') : wpAny (model pw w) A (getAttr (.ref a) (S "removed") expr) Q E s :=
  getSlot T S₀ m md li_r (v := .bool b) (by show some (Value.bool (rv a)) = _; rw [hb]) rfl h
theorem getIExp {Q : Value → Shared → Prop} (T : Stat (KK w) B.heap) (S₀ : St B fs l s) (m : (a, slotC 1397 d (itf ev kv rv a)) ∈ l) (md : (d, idC []) ∈ l) (he : ev a = e) (hh : handedIn e = true) (h : ∀ s', St B fs l s' → Q e s') : wpAny (model pw w) A (getAttr (.ref a) (S "expires") expr) Q E s :=
  getSlot T S₀ m md li_e (v := e) (by show some (ev a) = _; rw [he]) hh h
theorem setRem {Q : Unit → Shared → Prop} {b : Bool} (T : Stat (KK w) B.heap) (S₀ : St B fs l s) (u : Upd l (a, slotC 1397 d (itf ev kv rv a)) (a, slotC 1397 d (itf ev kv (upd rv a b) a)) l') (md : (d, idC []) ∈ l) (h : ∀ s', St B fs l' s' → Q () s') :
    wpAny (model pw w) A (setAttr (.ref a) (S "removed") (.bool b)) Q E s :=
  setSlot T S₀ u md si_r (by simp [itf, upd_same]) h

abbrev tlruN (dd tm it od : Addr) (sz mx : Int) (t u : Tok) : Names := baseN dd sz mx t u [(S "_TimedCache__timer", .ref tm), (S "_TLRUCache__items", .ref it), (S "_TLRUCache__order", .ref od), (S "_TLRUCache__ttu", .ref aEnd)]
abbrev tlruC (w : World) {K : Type} [DecidableEq K] (knd : AnyKind pw w K) (B : Shared) (x dx dd tm dt it od : Addr) (sz mx : Int) (t u : Tok) (m : Int) (xs is_ : List (K × Value × Value)) (os : List Addr) (ev kv : Addr → Value) (rv : Addr → Bool) (ns : List (Addr × Addr)) (l : Cells) : Cells :=
  (x, instC 1488 dx) :: (dx, idC (tlruN dd tm it od sz mx t u)) :: (dd, dictC knd B xs) :: (tm, instC 1044 dt) :: (dt, timC m) :: (it, dictC knd B is_) :: (od, listC (os.map .ref)) :: (nodeCells 1397 (itf ev kv rv) ns ++ l)
theorem c1488 : 1488 ∈ cacheCls := by decide

/-- a new item -/
theorem c1386 (T : Stat (KK w) B.heap) (r : Room (n + 2) fs A) (S₀ : St B fs ((a, slotC 1397 d #[]) :: (d, idC []) :: l) s) (h : ∀ s', St B fs ((a, slotC 1397 d #[some e, some key, some (.bool false)]) :: (d, idC []) :: l) s' → R (.ok (.ret .none)) s') :
    codeAny (model pw w) A (.call (.ref 1386) ⟨[.ref a, key, e], []⟩) R s := by
  refine callS (binds := [(S "self", .ref a), (S "key", key), (S "expires", e)]) (names := [S "self", S "key", S "expires"]) (locs := [(S "expires", e), (S "key", key), (S "self", .ref a)]) fnOk1386 T S₀ r (bndT T S₀ [.none, .none] rfl (by kernel_rfl) (by rfl) (by kernel_rfl)) rfl rfl (by kernel_rfl) (by decide +kernel) (by kernel_rfl) fun L s' r₁ S₁ => ?_
  refine wpAny_execs_cons ?_
  walk_at "m_wk"
  refine setSlot (sl' := #[none, some key]) T (by assumption) (by walk_at "m_updt") (by walk_at "m_mem") si_k rfl fun s' S' => ?_
  walk_at "m_wk"
  refine setSlot (sl' := #[some e, some key]) T (by assumption) (by walk_at "m_updt") (by walk_at "m_mem") si_e rfl fun s' S' => ?_
  walk_at "m_wk"
  refine setSlot (sl' := #[some e, some key, some (.bool false)]) T (by assumption) (by walk_at "m_updt") (by walk_at "m_mem") si_r rfl fun s' S' => ?_
  walk_at "m_wk"
  exact h _ (St.tail (St.pop (by assumption)))

theorem c1411 (knd : AnyKind pw w K) (T : Stat (KK w) B.heap) (r : Room (n + 7) fs A) (S₀ : St B fs ((x, instC 1488 dx) :: (dx, idC []) :: l) s) (hmx : 0 ≤ mx)
    (h : ∀ dd tm dt it od s' t, St B fs (tlruC w knd B x dx dd tm dt it od 0 mx t u 0 [] [] [] (fun _ => .none) (fun _ => .none) (fun _ => true) [] l) s' → R (.ok (.ret .none)) s') :
    codeAny (model pw w) A (.call (.ref 1411) ⟨[.ref x, .int mx u, .ref aEnd, .ref aClock], []⟩) R s := by
  refine callS (binds := [(S "self", .ref x), (S "maxsize", .int mx u), (S "ttu", .ref aEnd), (S "timer", .ref aClock), (S "getsizeof", .none)]) (names := [S "self", S "maxsize", S "ttu", S "timer", S "getsizeof"]) (locs := [(S "getsizeof", .none), (S "timer", .ref aClock), (S "ttu", .ref aEnd), (S "maxsize", .int mx u), (S "self", .ref x)]) fnOk1411 T S₀ r (bndT T S₀ [.ref 1137, .none] rfl (by kernel_rfl) (by rfl) (by kernel_rfl)) rfl rfl (by kernel_rfl) (by decide +kernel) (by kernel_rfl) fun L s' r₁ S₁ => ?_
  refine wpAny_execs_cons ?_
  walk_at "m_wk"
  refine methodCall_KW ?_
  walk_at "m_wk"
  refine methCls (f := 1056) T (by assumption) (by kernel_rfl) fun s' S' => ?_
  refine callFn T (by kernel_rfl) ?_
  refine args_cons ?_
  walk_at "m_wk"
  refine args_cons ?_
  walk_at "m_wk"
  refine args_cons ?_
  walk_at "m_wk"
  refine args_cons ?_
  walk_at "m_wk"
  refine args_nil ⟨⟨_, _, by assumption⟩, wpAny_call ?_⟩
  refine c1056 knd c1488 (by kernel_rfl) T (r₁.less (m := n + 5) (by omega)) (St.perm (by assumption) (by walk_at "m_pm")) hmx fun dd tm dt s' t S' => ?_
  walk_at "m_wk"
  refine dictNil knd (by assumption) fun it s' S' => ?_
  walk_at "m_wk"
  refine listNil (by assumption) fun od s' S' => ?_
  walk_at "m_wk"
  have S' := St.reId (a := dx) (xs' := tlruN dd tm it od 0 mx _ u) (by assumption) (by walk_at "m_updt") (by walk_at "m_pm")
  have S2 := St.done L (l := (x, _) :: (dx, _) :: (dd, _) :: (tm, _) :: (dt, _) :: (it, _) :: (od, _) :: l) S' (by walk_at "m_pm")
  exact h _ _ _ _ _ _ _ S2
end

end
-- TL2
section
set_option maxRecDepth 100000
set_option maxHeartbeats 400000
/-- of a list of items some that were removed are gone, the others may lie in another order -/
def Shed (rv : Addr → Bool) (os' os : List Addr) : Prop := ∃ rest, (rest ++ os').Perm os ∧ ∀ a ∈ rest, rv a = true
theorem Shed.refl {rv : Addr → Bool} {os : List Addr} : Shed rv os os := ⟨[], .refl _, fun _ h => nomatch h⟩
theorem Shed.trans {rv : Addr → Bool} {a b c : List Addr} (h1 : Shed rv a b) (h2 : Shed rv b c) : Shed rv a c := by
  obtain ⟨r1, p1, q1⟩ := h1
  obtain ⟨r2, p2, q2⟩ := h2
  refine ⟨r2 ++ r1, ?_, fun x hx => (List.mem_append.mp hx).elim (q2 x) (q1 x)⟩
  rw [List.append_assoc]
  exact (p1.append_left r2).trans p2
theorem Shed.perm {rv : Addr → Bool} {a a' b : List Addr} (h : Shed rv a b) (p : a'.Perm a) : Shed rv a' b := by
  obtain ⟨r, p1, q1⟩ := h
  exact ⟨r, (p.append_left r).trans p1, q1⟩
theorem Shed.mem {rv : Addr → Bool} {os' os : List Addr} (h : Shed rv os' os) {a : Addr} (ha : a ∈ os') : a ∈ os := by
  obtain ⟨r, p, _⟩ := h
  exact p.mem_iff.mp (List.mem_append_right _ ha)
theorem Shed.length {rv : Addr → Bool} {os' os : List Addr} (h : Shed rv os' os) : os'.length ≤ os.length := by
  obtain ⟨r, p, _⟩ := h
  have := p.length_eq
  rw [List.length_append] at this; omega
theorem Shed.filter {rv : Addr → Bool} {os : List Addr} : Shed rv (os.filter fun a => !rv a) os := by
  refine ⟨os.filter rv, ?_, fun a ha => (List.mem_filter.mp ha).2⟩
  exact List.filter_append_perm rv os
theorem perm_of_map {α β : Type} {f : α → β} {xs : List α} {l : List β} (p : l.Perm (xs.map f)) : ∃ ys : List α, ys.Perm xs ∧ l = ys.map f := by
  have key : ∀ {l m : List β}, l.Perm m → ∀ xs : List α, l = xs.map f → ∃ ys : List α, ys.Perm xs ∧ m = ys.map f := by
    intro l m p
    induction p with
    | nil =>
      intro xs e
      cases xs with
      | nil => exact ⟨[], .refl _, rfl⟩
      | cons => cases e
    | cons x _ ih =>
      intro xs e
      cases xs with
      | nil => cases e
      | cons y ys =>
        rw [List.map_cons] at e
        obtain ⟨rfl, rfl⟩ := List.cons.inj e
        obtain ⟨zs, q, rfl⟩ := ih ys rfl
        exact ⟨y :: zs, q.cons y, rfl⟩
    | swap x y l =>
      intro xs e
      match xs, e with
      | a :: b :: ys, e =>
        rw [List.map_cons, List.map_cons] at e
        obtain ⟨e1, e⟩ := List.cons.inj e
        obtain ⟨e2, e3⟩ := List.cons.inj e
        exact ⟨b :: a :: ys, .swap .., by rw [e1, e2, e3]; rfl⟩
    | trans _ _ ih1 ih2 =>
      intro xs e
      obtain ⟨ys, q1, rfl⟩ := ih1 xs e
      obtain ⟨zs, q2, rfl⟩ := ih2 ys rfl
      exact ⟨zs, q2.trans q1, rfl⟩
  exact key p.symm xs rfl
section
variable {w : World} {A : Around} {E : Value → Shared → Prop} {B : Shared} {fs : List Env} {l l' : Cells} {s : Shared} {R : Result → Shared → Prop} {n : Nat} {K : Type} [DecidableEq K] {knd : AnyKind pw w K}
  {a d : Addr} {ns : List (Addr × Addr)} {ev kv : Addr → Value} {rv : Addr → Bool} {v : Addr} {e key : Value} {expr : Bool} {x dx dd tm dt it od : Addr} {mx sz m : Int} {t u te : Tok} {xs is_ : List (K × Value × Value)} {os : List Addr}
theorem items_ok (hm : ∀ a ∈ os, a ∈ ns.map (·.1)) (he : ∀ a ∈ ns.map (·.1), ∃ te, ev a = .int endV te) : ItemsOk (nodeCells 1397 (itf ev kv rv) ns ++ l) (os.map .ref) := by
  intro v hv
  obtain ⟨a, ha, rfl⟩ := List.mem_map.mp hv
  obtain ⟨d, hd⟩ := node_of (hm a ha)
  obtain ⟨te, hte⟩ := he a (hm a ha)
  exact ⟨a, d, _, te, rfl, nodesM hd, nodesD hd, by show some (ev a) = _; rw [hte]⟩
/-- the end of expire: the removed ones at the top go -/
theorem expire_rest {L : Addr} {Q : Flow → Shared → Prop} (T : Stat (KK w) B.heap) (r : Room (n + 8) (fnEnv fd1463 L 1463 :: fs) A) 
    (hm : ∀ a ∈ os, a ∈ ns.map (·.1)) (he : ∀ a ∈ ns.map (·.1), ∃ te, ev a = .int endV te) (hlen : os.length < 900)
    (S₀ : St B (fnEnv fd1463 L 1463 :: fs) ((od, listC (os.map .ref)) :: (nodeCells 1397 (itf ev kv rv) ns ++ (L, nsC fd1463.scope [(S "order", .ref od), (S "items", .ref it), (S "time", .int 100 te), (S "self", .ref x)]) :: l)) s)
    (h : ∀ os' c v s', Shed rv os' os → St B (fnEnv fd1463 L 1463 :: fs) ((od, listC (os'.map .ref)) :: (nodeCells 1397 (itf ev kv rv) ns ++ (L, c) :: l)) s' → Q (.ret v) s') :
    wpAny (model pw w) A (execs ((inside (stP [57, 9])).drop 4) (fnEnv fd1463 L 1463)) Q (fun _ _ => False) s := by
  refine wpAny_execs_cons ?_
  walk_at "m_wk"
  refine truthL (a := od) (by assumption) (by walk_at "m_mem") (by simp; omega) fun s' S' => ?_
  cases os with
  | nil =>
    walk_at "m_wk"
    rw [if_pos (by rfl), if_pos rfl]
    walk_at "m_wk"
    refine listNil (by assumption) fun b s' S' => ?_
    exact h [] _ _ _ .refl (S'.tail.perm (by walk_at "m_pm"))
  | cons a os' =>
    obtain ⟨d, hd⟩ := node_of (hm a List.mem_cons_self)
    obtain ⟨te', he'⟩ := he a (hm a List.mem_cons_self)
    walk_at "m_wki"
    refine Subscript_ ?_
    walk_at "m_wki"
    refine subL (a := od) (vs := (a :: os').map .ref) (by assumption) (by walk_at "m_mem") (by decide) (by decide) rfl ?_
    refine getRem (b := rv a) T (by assumption) (by walk_at "m_mem") (by walk_at "m_mem") rfl fun s' S' => ?_
    cases hra : rv a with
    | false =>
      walk_at "m_wki"
      refine Subscript_ ?_
      walk_at "m_wki"
      refine subL (a := od) (vs := (a :: os').map .ref) (by assumption) (by walk_at "m_mem") (by decide) (by decide) rfl ?_
      refine getIExp T (by assumption) (by walk_at "m_mem") (by walk_at "m_mem") he' rfl fun s' S' => ?_
      walk_at "m_wki"
      refine listNil (by assumption) fun b s' S' => ?_
      exact h (a :: os') _ _ _ .refl (S'.tail.perm (by walk_at "m_pm"))
    | true =>
      walk_at "m_wki"
      refine listNil (by assumption) fun b s' S' => ?_
      walk_at "m_wki"
      refine getClsFn (f := 777) T (by assumption) (by kernel_rfl) fun s' S' => ?_
      walk_at "m_wki"
      refine getClsFn (f := 763) T (by assumption) (by kernel_rfl) fun s' S' => ?_
      walk_at "m_wki"
      rename_i S'
      refine whileS (fun n s => ∃ os2 itm, os2.length = n ∧ Shed rv os2 (a :: os') ∧ (itm = [] ∨ ∃ v, itm = [(S "item", v)]) ∧
        St B (fnEnv fd1463 L 1463 :: fs) ((od, listC (os2.map .ref)) :: (b, listC []) :: (nodeCells 1397 (itf ev kv rv) ns ++ (L, nsC fd1463.scope (itm ++ [(S "cache_getitem", .ref 763), (S "cache_delitem", .ref 777), (S "expired", .ref b), (S "order", .ref od), (S "items", .ref it), (S "time", .int 100 te), (S "self", .ref x)])) :: l)) s)
        ?_ _ ⟨a :: os', [], rfl, .refl, .inl rfl, by simp only [List.nil_append]; exact S'.perm (by walk_at "m_pm")⟩
      rintro n' s' ⟨os2, itm, rfl, hsh, hitm, S'⟩
      have hl2 := hsh.length
      simp only [List.length_cons] at hl2 hlen
      have fin : ∀ s', St B (fnEnv fd1463 L 1463 :: fs) ((od, listC (os2.map .ref)) :: (b, listC []) :: (nodeCells 1397 (itf ev kv rv) ns ++ (L, nsC fd1463.scope (itm ++ [(S "cache_getitem", .ref 763), (S "cache_delitem", .ref 777), (S "expired", .ref b), (S "order", .ref od), (S "items", .ref it), (S "time", .int 100 te), (S "self", .ref x)])) :: l)) s' → Q (.ret (.ref b)) s' :=
        fun s' S' => h os2 _ _ s' hsh (S'.sub (.cons_cons _ (.cons _ (.refl _))))
      rcases hitm with rfl | ⟨vi, rfl⟩ <;> simp only [List.nil_append, List.cons_append] at S' fin
      all_goals
        walk_at "m_wki"
        refine truthL (a := od) (by assumption) (by walk_at "m_mem") (by simp; omega) fun s' S' => ?_
        cases os2 with
        | nil =>
          walk_at "m_wki"
          exact fin _ (by assumption)
        | cons c os3 =>
          obtain ⟨dc, hdc⟩ := node_of (hm c (hsh.mem List.mem_cons_self))
          obtain ⟨tc, htc⟩ := he c (hm c (hsh.mem List.mem_cons_self))
          walk_at "m_wki"
          refine Subscript_ ?_
          walk_at "m_wki"
          refine subL (a := od) (vs := (c :: os3).map .ref) (by assumption) (by walk_at "m_mem") (by decide) (by decide) rfl ?_
          refine getRem (b := rv c) T (by assumption) (by walk_at "m_mem") (by walk_at "m_mem") rfl fun s' S' => ?_
          cases hrc : rv c with
          | false =>
            walk_at "m_wki"
            refine Subscript_ ?_
            walk_at "m_wki"
            refine subL (a := od) (vs := (c :: os3).map .ref) (by assumption) (by walk_at "m_mem") (by decide) (by decide) rfl ?_
            refine getIExp T (by assumption) (by walk_at "m_mem") (by walk_at "m_mem") htc rfl fun s' S' => ?_
            walk_at "m_wki"
            exact fin _ (by assumption)
          | true =>
            walk_at "m_wki"
            refine Call_ ?_
            walk_at "m_wki"
            refine PyProof.Rows.callWith_builtin1 ?_
            refine args_cons ?_
            walk_at "m_wki"
            refine args_nil ?_
            refine hpopS (n := n) (v0 := .ref c) (vs := os3.map .ref) T (r.less (by omega)) (by assumption : St B _ ((od, listC ((c :: os3).map .ref)) :: _) _) (itemsOk_cons (items_ok (os := c :: os3) (fun a ha => hm a (hsh.mem ha)) he)) (by simp; simp at hl2; omega) fun vs' s' p S' => ?_
            obtain ⟨os4, p4, rfl⟩ := perm_of_map p
            walk_at "m_wki"
            refine getRem (b := true) T (by assumption) (by walk_at "m_mem") (by walk_at "m_mem") hrc fun s' S' => ?_
            walk_at "m_wki"
            have hsh4 : Shed rv os4 (a :: os') := by
              refine Shed.trans (b := c :: os3) ?_ hsh
              exact ⟨[c], (p4.cons c), fun a ha => by rw [List.mem_singleton.mp ha]; exact hrc⟩
            refine ⟨os4.length, by rw [p4.length_eq]; simp, os4, [(S "item", .ref c)], rfl, hsh4, .inr ⟨_, rfl⟩, ?_⟩
            simp only [List.cons_append, List.nil_append]
            assumption
end

end
-- IFM
section
section
variable {prog : Program} {w : World} {K : Type} [DecidableEq K] {knd : AnyKind prog w K} {B : Shared} {k : K} {key lv : Value} {a b rt tm : Addr} {τ : Option Addr} {N : List Addr}
/-- the ring of a TTL cache: each link once, its key the dict's -/
structure TtlMore (knd : AnyKind prog w K) (B : Shared) (ls : List (K × Value × Value)) (rt : Addr) (kv : Addr → Value) (nx pv : Addr → Addr) (tm : Addr) (τ : Option Addr) : Prop where
  tim : ∀ a, τ = some a → tm = a
  ring : ∃ as, as.Perm (ls.map adr) ∧ Ring nx pv rt as
  key : ∀ e ∈ ls, knd.is B.heap e.1 (kv (adr e))
/-- the order of a TLRU cache: what is not removed is just the items, each once -/
structure TlruMore (knd : AnyKind prog w K) (B : Shared) (is_ : List (K × Value × Value)) (os : List Addr) (kv : Addr → Value) (rv : Addr → Bool) (tm : Addr) (τ : Option Addr) : Prop where
  tim : ∀ a, τ = some a → tm = a
  live : (os.filter fun a => !rv a).Perm (is_.map adr)
  nd : (is_.map adr).Nodup
  key : ∀ e ∈ is_, knd.is B.heap e.1 (kv (adr e))
theorem at_mem' {xs : List (K × Value × Value)} {k : K} {p : Value × Value} (h : atK xs k = some p) : (k, p) ∈ xs := by
  unfold atK at h
  obtain ⟨e, he, rfl⟩ := Option.map_eq_some_iff.mp h
  have hk : e.1 = k := of_decide_eq_true (List.find?_some (p := fun x : K × Value × Value => decide (x.1 = k)) he)
  have := List.mem_of_find?_eq_some he
  obtain ⟨e1, e2⟩ := e
  dsimp only at hk
  subst hk
  exact this
theorem key_del {ls : List (K × Value × Value)} {P : K × Value × Value → Prop} (h : ∀ e ∈ ls, P e) : ∀ e ∈ delK ls k, P e := fun e he => h e (List.mem_filter.mp he).1
namespace TtlMore
variable {ls : List (K × Value × Value)} {kv : Addr → Value} {nx pv : Addr → Addr}
theorem nil : TtlMore knd B ([] : List (K × Value × Value)) rt kv (fun _ => rt) (fun _ => rt) tm none := ⟨fun _ h => (nomatch h), ⟨[], .refl _, Ring.nil⟩, fun _ h => nomatch h⟩
theorem mem (h : TtlMore knd B ls rt kv nx pv tm τ) (nd : (ls.map (·.1)).Nodup) (hq : atK ls k = some (lv, .ref a)) : ∃ as as', as.Perm (ls.map adr) ∧ Ring nx pv rt as ∧ a ∈ as ∧ as.Perm (a :: as') ∧ as'.Perm ((delK ls k).map adr) ∧ Ring (upd nx (pv a) (nx a)) (upd pv (nx a) (pv a)) rt as' := by
  obtain ⟨as, p, r⟩ := h.ring
  have p2 := perm_del nd hq
  have ha : a ∈ as := (p.trans p2).mem_iff.mpr (by simp)
  obtain ⟨as', q, r'⟩ := r.unlink ha
  exact ⟨as, as', p, r, ha, q, List.Perm.cons_inv (q.symm.trans (p.trans p2)), r'⟩
theorem unlink (h : TtlMore knd B ls rt kv nx pv tm τ) (nd : (ls.map (·.1)).Nodup) (hq : atK ls k = some (lv, .ref a)) : TtlMore knd B (delK ls k) rt kv (upd nx (pv a) (nx a)) (upd pv (nx a) (pv a)) tm τ :=
  let ⟨_, as', _, _, _, _, p, r⟩ := h.mem nd hq
  ⟨h.tim, ⟨as', p, r⟩, key_del h.key⟩
theorem keyAt (h : TtlMore knd B ls rt kv nx pv tm τ) (hq : atK ls k = some (lv, .ref a)) : knd.is B.heap k (kv a) := h.key _ (at_mem' hq)
theorem touch (h : TtlMore knd B ls rt kv nx pv tm τ) (nd : (ls.map (·.1)).Nodup) (hq : atK ls k = some (lv, .ref a)) : TtlMore knd B (putK (delK ls k) k key (.ref a)) rt kv nx pv tm τ := by
  obtain ⟨as, p, r⟩ := h.ring
  rw [put_del]
  refine ⟨h.tim, ⟨as, ?_, r⟩, fun e he => ?_⟩
  · rw [List.map_append]
    exact (p.trans (perm_del nd hq)).trans (List.perm_append_comm (l₁ := [a]))
  · rcases List.mem_append.mp he with he | he
    · exact key_del h.key e he
    · rw [List.mem_singleton.mp he]; exact h.keyAt hq
theorem insert (h : TtlMore knd B ls rt kv nx pv tm τ) (hq : atK ls k = none) (hk : knd.is B.heap k key) (hb : b ∉ N) (hr : rt ∈ N) (hl : ∀ e ∈ ls, ∃ a, e.2.2 = .ref a ∧ a ∈ N ∧ a ≠ rt) :
    TtlMore knd B (putK ls k key (.ref b)) rt (upd kv b key) (upd (upd nx b rt) (pv rt) b) (upd (upd pv b (pv rt)) rt b) tm τ := by
  obtain ⟨as, p, r⟩ := h.ring
  have had : ∀ e ∈ ls, adr e ∈ N := fun e he => by
    obtain ⟨a, h1, h2, _⟩ := hl e he
    unfold adr; rw [h1]; exact h2
  have hbr : b ∉ rt :: as := fun hm => by
    rcases List.mem_cons.mp hm with e | hm
    · exact hb (e ▸ hr)
    · obtain ⟨e, he, rfl⟩ := List.mem_map.mp (p.mem_iff.mp hm)
      exact hb (had e he)
  rw [put_new hq]
  refine ⟨h.tim, ⟨as ++ [b], ?_, r.insert hbr⟩, fun e he => ?_⟩
  · rw [List.map_append]; exact p.append_right _
  · rcases List.mem_append.mp he with he | he
    · have : adr e ≠ b := fun q => hb (q ▸ had e he)
      rw [upd_ne this]; exact h.key e he
    · rw [List.mem_singleton.mp he]
      show knd.is B.heap k (upd kv b key b)
      rw [upd_same]; exact hk
theorem there (h : TtlMore knd B ls rt kv nx pv tm τ) (nd : (ls.map (·.1)).Nodup) (hq : atK ls k = some (lv, .ref a)) :
    TtlMore knd B (putK (delK ls k) k key (.ref a)) rt kv (upd (upd (upd nx (pv a) (nx a)) a rt) (upd pv (nx a) (pv a) rt) a) (upd (upd (upd pv (nx a) (pv a)) a (upd pv (nx a) (pv a) rt)) rt a) tm τ := by
  obtain ⟨as, as', p, r, ha, q, p', r'⟩ := h.mem nd hq
  have hb : a ∉ rt :: as' := fun hm => by
    have nd2 : (rt :: a :: as').Nodup := (q.cons rt).nodup_iff.mp r.nd
    simp only [List.nodup_cons, List.mem_cons, not_or] at nd2
    rcases List.mem_cons.mp hm with e | hm
    · exact nd2.1.1 e.symm
    · exact nd2.2.1 hm
  rw [put_del]
  refine ⟨h.tim, ⟨as' ++ [a], ?_, r'.insert hb⟩, fun e he => ?_⟩
  · rw [List.map_append]; exact p'.append_right _
  · rcases List.mem_append.mp he with he | he
    · exact key_del h.key e he
    · rw [List.mem_singleton.mp he]; exact h.keyAt hq
theorem grow {B' : Shared} (h : TtlMore knd B ls rt kv nx pv tm τ) (hB : B.heap.StaysIn B'.heap) : TtlMore knd B' ls rt kv nx pv tm τ := ⟨h.tim, h.ring, fun e he => knd.grows (h.key e he) hB⟩
end TtlMore
namespace TlruMore
variable {is_ : List (K × Value × Value)} {os os' os'' : List Addr} {kv : Addr → Value} {rv : Addr → Bool}
theorem nil : TlruMore knd B ([] : List (K × Value × Value)) [] kv rv tm none := ⟨fun _ h => (nomatch h), .refl _, List.nodup_nil, fun _ h => nomatch h⟩
theorem shed (h : TlruMore knd B is_ os kv rv tm τ) (hs : Shed rv os' os) : TlruMore knd B is_ os' kv rv tm τ := by
  obtain ⟨rest, p, hr⟩ := hs
  refine ⟨h.tim, ?_, h.nd, h.key⟩
  have := p.filter fun a => !rv a
  rw [List.filter_append] at this
  have e : (rest.filter fun a => !rv a) = [] := by
    rw [List.filter_eq_nil_iff]
    intro a ha
    simp [hr a ha]
  rw [e, List.nil_append] at this
  exact this.trans h.live
theorem keyAt (h : TlruMore knd B is_ os kv rv tm τ) (hq : atK is_ k = some (lv, .ref a)) : knd.is B.heap k (kv a) := h.key _ (at_mem' hq)
theorem touch (h : TlruMore knd B is_ os kv rv tm τ) (nd : (is_.map (·.1)).Nodup) (hq : atK is_ k = some (lv, .ref a)) : TlruMore knd B (putK (delK is_ k) k key (.ref a)) os kv rv tm τ := by
  rw [put_del]
  have p : (is_.map adr).Perm ((delK is_ k ++ [((k, key, Value.ref a) : K × Value × Value)]).map adr) := by
    rw [List.map_append]
    exact (perm_del nd hq).trans (List.perm_append_comm (l₁ := [a]))
  refine ⟨h.tim, h.live.trans p, p.nodup_iff.mp h.nd, fun e he => ?_⟩
  rcases List.mem_append.mp he with he | he
  · exact key_del h.key e he
  · rw [List.mem_singleton.mp he]; exact h.keyAt hq
theorem del (h : TlruMore knd B is_ os kv rv tm τ) (nd : (is_.map (·.1)).Nodup) (hq : atK is_ k = some (lv, .ref a)) : TlruMore knd B (delK is_ k) os kv (upd rv a true) tm τ := by
  have p := perm_del nd hq
  have nd2 := p.nodup_iff.mp h.nd
  rw [List.nodup_cons] at nd2
  refine ⟨h.tim, ?_, nd2.2, key_del h.key⟩
  have e1 : (os.filter fun b => !upd rv a true b) = ((os.filter fun b => !rv b).filter fun b => !decide (b = a)) := by
    rw [List.filter_filter]
    congr 1
    funext b
    by_cases q : b = a
    · subst q; simp [upd_same]
    · simp [upd_ne q, q]
  have e2 : ((a :: (delK is_ k).map adr).filter fun b => !decide (b = a)) = (delK is_ k).map adr := by
    rw [List.filter_cons]
    simp only [decide_true, Bool.not_true, Bool.false_eq_true, if_false]
    rw [List.filter_eq_self]
    intro b hb
    have : b ≠ a := fun q => nd2.1 (q ▸ hb)
    simp [this]
  rw [e1, ← e2]
  exact (h.live.trans p).filter _
theorem insert (h : TlruMore knd B is_ os kv rv tm τ) (hq : atK is_ k = none) (hk : knd.is B.heap k key) (p : os''.Perm (os ++ [b])) (hb : b ∉ N) (ho : ∀ a ∈ os, a ∈ N) (hl : ∀ e ∈ is_, ∃ a, e.2.2 = .ref a ∧ a ∈ N) :
    TlruMore knd B (putK is_ k key (.ref b)) os'' (upd kv b key) (upd rv b false) tm τ := by
  have had : ∀ e ∈ is_, adr e ∈ N := fun e he => by
    obtain ⟨a, h1, h2⟩ := hl e he
    unfold adr; rw [h1]; exact h2
  rw [put_new hq]
  refine ⟨h.tim, ?_, ?_, fun e he => ?_⟩
  · refine (p.filter _).trans ?_
    rw [List.filter_append, List.map_append]
    have e1 : (os.filter fun a => !upd rv b false a) = os.filter fun a => !rv a := by
      refine List.filter_congr fun a ha => ?_
      have : a ≠ b := fun q => hb (q ▸ ho a ha)
      rw [upd_ne this]
    have e2 : ([b].filter fun a => !upd rv b false a) = [b] := by simp [upd_same]
    rw [e1, e2]
    exact h.live.append_right _
  · rw [List.map_append, List.nodup_append]
    refine ⟨h.nd, by simp, fun x hx y hy e => ?_⟩
    obtain ⟨z, hz, rfl⟩ := List.mem_map.mp hx
    simp only [List.map_cons, List.map_nil, List.mem_singleton, adr_mk] at hy
    subst hy
    exact hb (e ▸ had z hz)
  · rcases List.mem_append.mp he with he | he
    · have : adr e ≠ b := fun q => hb (q ▸ had e he)
      rw [upd_ne this]; exact h.key e he
    · rw [List.mem_singleton.mp he]
      show knd.is B.heap k (upd kv b key b)
      rw [upd_same]; exact hk
theorem grow {B' : Shared} (h : TlruMore knd B is_ os kv rv tm τ) (hB : B.heap.StaysIn B'.heap) : TlruMore knd B' is_ os kv rv tm τ := ⟨h.tim, h.live, h.nd, fun e he => knd.grows (h.key e he) hB⟩
end TlruMore
end

end
-- F3
section
set_option maxRecDepth 100000
set_option maxHeartbeats 400000
section
variable {w : World} {A : Around} {E : Value → Shared → Prop} {B : Shared} {fs : List Env} {l : Cells} {s : Shared} {K : Type} [DecidableEq K] {knd : AnyKind pw w K} {R : Result → Shared → Prop} {n : Nat}
  {C x dx dd od : Addr} {xs os : List (K × Value × Value)} {key v : Value} {k : K} {sz mx : Int} {t u : Tok} {p q : Value × Value}
/-- setitem of FIFO, the key is there -/
theorem c892_there (T : Stat (KK w) B.heap) (r : Room (n + 5) fs A) (S₀ : St B fs (fifoC w knd B x dx dd od sz mx t u xs os l) s) (hsz : xs.length ≤ sizeLine) (hso : os.length ≤ sizeLine) (hso' : (delK os k).length ≤ sizeLine) (hk : knd.is B.heap k key) (hp : atK xs k = some p) (hq : atK os k = some q) (hmx : 0 < mx)
    (h : ∀ s', St B fs (fifoC w knd B x dx dd od sz mx t u (putK xs k key v) (putK (delK os k) k key q.2) l) s' → R (.ok (.ret .none)) s') :
    codeAny (model pw w) A (.call (.ref 892) ⟨[.ref x, key, v], []⟩) R s := by
  refine callS (binds := [(S "self", .ref x), (S "key", key), (S "value", v), (S "cache_setitem", .ref 770)]) (names := [S "self", S "key", S "value", S "cache_setitem"]) (locs := [(S "cache_setitem", .ref 770), (S "value", v), (S "key", key), (S "self", .ref x)]) fnOk892 T S₀ r
    (bndT T S₀ [.ref 770] rfl (by kernel_rfl) (by rfl) (by kernel_rfl)) rfl rfl (by kernel_rfl) (by decide +kernel) (by kernel_rfl) fun L s' r₁ S₁ => ?_
  refine wpAny_execs_cons ?_
  walk_at "m_wk"
  refine Call_ ?_
  walk_at "m_wk"
  refine callFn T (by kernel_rfl) ?_
  refine args_cons ?_
  walk_at "m_wk"
  refine args_cons ?_
  walk_at "m_wk"
  refine args_cons ?_
  walk_at "m_wk"
  refine args_nil ⟨⟨_, _, by assumption⟩, wpAny_call ?_⟩
  refine c770_there c917 T (r₁.less (m := n + 3) (by omega)) (St.back (p := [_, _, _]) (by assumption)) (by walk_at "m_nin") (by simp) hsz hk hp hmx fun s' S' => ?_
  have S' := St.front (p := [_, _, _]) S'
  simp only [List.cons_append, List.nil_append] at S'
  walk_at "m_wk"
  refine inS (by assumption) (by walk_at "m_mem") r₁.u1 hk fun s₃ S₃ => ?_
  walk_at "m_wk"
  rw [hq, if_pos (by rfl)]
  walk_at "m_wk"
  refine methodCall_KW ?_
  walk_at "m_wk"
  refine dictPopM (by assumption) (by walk_at "m_mem") ?_
  refine callB ?_
  refine args_cons ?_
  walk_at "m_wk"
  refine args_nil ?_
  refine popS (by assumption) (by walk_at "m_updt") r₁.u1 hk hq (fun s₄ S₄ => ?_) hso
  walk_at "m_wk"
  refine putS (by assumption) (by walk_at "m_updt") r₁.u1 hk (fun s₅ S₅ => ?_) hso'
  walk_at "m_wk"
  exact h _ (St.tail (St.pop (by assumption)))
end

end
-- LR3
section
set_option maxRecDepth 100000
set_option maxHeartbeats 400000
section
variable {w : World} {A : Around} {E : Value → Shared → Prop} {B : Shared} {fs : List Env} {l : Cells} {s : Shared} {K : Type} [DecidableEq K] {knd : AnyKind pw w K} {R : Result → Shared → Prop} {n : Nat}
  {C x dx dd od : Addr} {xs os : List (K × Value × Value)} {key v : Value} {k : K} {sz mx : Int} {t u : Tok} {p q : Value × Value}
/-- getitem of LRU, the key is there -/
theorem c942 (T : Stat (KK w) B.heap) (r : Room (n + 5) fs A) (S₀ : St B fs (lruC w knd B x dx dd od sz mx t u xs os l) s) (hso : os.length ≤ sizeLine) (hso' : (delK os k).length ≤ sizeLine) (hk : knd.is B.heap k key) (hp : atK xs k = some p) (hq : atK os k = some q)
    (h : ∀ s', St B fs (lruC w knd B x dx dd od sz mx t u xs (putK (delK os k) k key q.2) l) s' → R (.ok (.ret p.2)) s') :
    codeAny (model pw w) A (.call (.ref 942) ⟨[.ref x, key], []⟩) R s := by
  refine callS (binds := [(S "self", .ref x), (S "key", key), (S "cache_getitem", .ref 763)]) (names := [S "self", S "key", S "cache_getitem"]) (locs := [(S "cache_getitem", .ref 763), (S "key", key), (S "self", .ref x)]) fnOk942 T S₀ r
    (bndT T S₀ [.ref 763] rfl (by kernel_rfl) (by rfl) (by kernel_rfl)) rfl rfl (by kernel_rfl) (by decide +kernel) (by kernel_rfl) fun L s' r₁ S₁ => ?_
  refine wpAny_execs_cons ?_
  walk_at "m_wk"
  refine Call_ ?_
  walk_at "m_wk"
  refine callFn T (by kernel_rfl) ?_
  refine args_cons ?_
  walk_at "m_wk"
  refine args_cons ?_
  walk_at "m_wk"
  refine args_nil ⟨⟨_, _, by assumption⟩, wpAny_call ?_⟩
  refine c763 c982 T (r₁.less (m := n + 3) (by omega)) (St.back (p := [_, _, _]) (by assumption)) hk hp fun s' S' => ?_
  have S' := St.front (p := [_, _, _]) S'
  simp only [List.cons_append, List.nil_append] at S'
  walk_at "m_wk"
  refine wpAny_Try_except ?_
  walk_at "m_wk"
  refine methodCall_KW ?_
  walk_at "m_wk"
  refine dictPopM (by assumption) (by walk_at "m_mem") ?_
  refine callB ?_
  refine args_cons ?_
  walk_at "m_wk"
  refine args_nil ?_
  refine popS (by assumption) (by walk_at "m_updt") r₁.u1 hk hq (fun s₄ S₄ => ?_) hso
  walk_at "m_wk"
  refine putS (by assumption) (by walk_at "m_updt") r₁.u1 hk (fun s₅ S₅ => ?_) hso'
  walk_at "m_wk"
  exact h _ (St.tail (St.pop (by assumption)))
/-- setitem of LRU, the key is not there, and there is room -/
theorem c950_new (T : Stat (KK w) B.heap) (r : Room (n + 5) fs A) (S₀ : St B fs (lruC w knd B x dx dd od sz mx t u xs os l) s) (hsz : xs.length ≤ sizeLine) (hso : os.length ≤ sizeLine) (hk : knd.is B.heap k key) (hp : atK xs k = none) (hq : atK os k = none) (hmx : sz < mx) (h0 : 0 ≤ sz)
    (h : ∀ s' t, St B fs (lruC w knd B x dx dd od (sz + 1) mx t u (putK xs k key v) (putK os k key .none) l) s' → R (.ok (.ret .none)) s') :
    codeAny (model pw w) A (.call (.ref 950) ⟨[.ref x, key, v], []⟩) R s := by
  refine callS (binds := [(S "self", .ref x), (S "key", key), (S "value", v), (S "cache_setitem", .ref 770)]) (names := [S "self", S "key", S "value", S "cache_setitem"]) (locs := [(S "cache_setitem", .ref 770), (S "value", v), (S "key", key), (S "self", .ref x)]) fnOk950 T S₀ r
    (bndT T S₀ [.ref 770] rfl (by kernel_rfl) (by rfl) (by kernel_rfl)) rfl rfl (by kernel_rfl) (by decide +kernel) (by kernel_rfl) fun L s' r₁ S₁ => ?_
  refine wpAny_execs_cons ?_
  walk_at "m_wk"
  refine Call_ ?_
  walk_at "m_wk"
  refine callFn T (by kernel_rfl) ?_
  refine args_cons ?_
  walk_at "m_wk"
  refine args_cons ?_
  walk_at "m_wk"
  refine args_cons ?_
  walk_at "m_wk"
  refine args_nil ⟨⟨_, _, by assumption⟩, wpAny_call ?_⟩
  refine c770_new c982 T (r₁.less (m := n + 3) (by omega)) (St.back (p := [_, _, _]) (by assumption)) (by walk_at "m_nin") (by simp) hsz hk hp hmx h0 fun s' t' S' => ?_
  have S' := St.front (p := [_, _, _]) S'
  simp only [List.cons_append, List.nil_append] at S'
  walk_at "m_wk"
  refine methodCall_KW ?_
  walk_at "m_wk"
  refine methFn (f := 979) T (by assumption) (by walk_at "m_mem") (by walk_at "m_mem") (by kernel_rfl) ?_ (by walk_at "m_nin")
  refine callFn T (by kernel_rfl) ?_
  refine args_cons ?_
  walk_at "m_wk"
  refine args_nil ⟨⟨_, _, by assumption⟩, wpAny_call ?_⟩
  refine c979_new T (r₁.less (m := n + 3) (by omega)) (St.back (p := [_, _, _, _]) (by assumption)) hso hk hq fun s' S' => ?_
  have S' := St.front (p := [_, _, _, _]) S'
  simp only [List.cons_append, List.nil_append] at S'
  walk_at "m_wk"
  exact h _ _ (St.tail (St.pop (by assumption)))
/-- setitem of LRU, the key is there -/
theorem c950_there (T : Stat (KK w) B.heap) (r : Room (n + 5) fs A) (S₀ : St B fs (lruC w knd B x dx dd od sz mx t u xs os l) s) (hsz : xs.length ≤ sizeLine) (hso : os.length ≤ sizeLine) (hso' : (delK os k).length ≤ sizeLine) (hk : knd.is B.heap k key) (hp : atK xs k = some p) (hq : atK os k = some q) (hmx : 0 < mx)
    (h : ∀ s', St B fs (lruC w knd B x dx dd od sz mx t u (putK xs k key v) (putK (delK os k) k key q.2) l) s' → R (.ok (.ret .none)) s') :
    codeAny (model pw w) A (.call (.ref 950) ⟨[.ref x, key, v], []⟩) R s := by
  refine callS (binds := [(S "self", .ref x), (S "key", key), (S "value", v), (S "cache_setitem", .ref 770)]) (names := [S "self", S "key", S "value", S "cache_setitem"]) (locs := [(S "cache_setitem", .ref 770), (S "value", v), (S "key", key), (S "self", .ref x)]) fnOk950 T S₀ r
    (bndT T S₀ [.ref 770] rfl (by kernel_rfl) (by rfl) (by kernel_rfl)) rfl rfl (by kernel_rfl) (by decide +kernel) (by kernel_rfl) fun L s' r₁ S₁ => ?_
  refine wpAny_execs_cons ?_
  walk_at "m_wk"
  refine Call_ ?_
  walk_at "m_wk"
  refine callFn T (by kernel_rfl) ?_
  refine args_cons ?_
  walk_at "m_wk"
  refine args_cons ?_
  walk_at "m_wk"
  refine args_cons ?_
  walk_at "m_wk"
  refine args_nil ⟨⟨_, _, by assumption⟩, wpAny_call ?_⟩
  refine c770_there c982 T (r₁.less (m := n + 3) (by omega)) (St.back (p := [_, _, _]) (by assumption)) (by walk_at "m_nin") (by simp) hsz hk hp hmx fun s' S' => ?_
  have S' := St.front (p := [_, _, _]) S'
  simp only [List.cons_append, List.nil_append] at S'
  walk_at "m_wk"
  refine methodCall_KW ?_
  walk_at "m_wk"
  refine methFn (f := 979) T (by assumption) (by walk_at "m_mem") (by walk_at "m_mem") (by kernel_rfl) ?_ (by walk_at "m_nin")
  refine callFn T (by kernel_rfl) ?_
  refine args_cons ?_
  walk_at "m_wk"
  refine args_nil ⟨⟨_, _, by assumption⟩, wpAny_call ?_⟩
  refine c979_there T (r₁.less (m := n + 3) (by omega)) (St.back (p := [_, _, _, _]) (by assumption)) hso hso' hk hq fun s' S' => ?_
  have S' := St.front (p := [_, _, _, _]) S'
  simp only [List.cons_append, List.nil_append] at S'
  walk_at "m_wk"
  exact h _ (St.tail (St.pop (by assumption)))
/-- setitem of LRU, a new key into a full cache -/
theorem c950_full {k0 : K} {kv ov : Value} {os' : List (K × Value × Value)} (T : Stat (KK w) B.heap) (r : Room (n + 12) fs A) (S₀ : St B fs (lruC w knd B x dx dd od sz mx t u xs os l) s) (hsz : xs.length ≤ sizeLine) (hso : os.length ≤ sizeLine) (ho : os = (k0, kv, ov) :: os') (hp0 : atK xs k0 = some p) (hd1 : (delK xs k0).length ≤ sizeLine) (hd2 : (delK os k0).length ≤ sizeLine) (hk : knd.is B.heap k key) (hp : atK xs k = none) (hq : atK (delK os k0) k = none) (hmx : sz = mx) (h0 : 0 < sz)
    (h : ∀ s' t, St B fs (lruC w knd B x dx dd od (sz - 1 + 1) mx t u (putK (delK xs k0) k key v) (putK (delK os k0) k key .none) l) s' → R (.ok (.ret .none)) s') :
    codeAny (model pw w) A (.call (.ref 950) ⟨[.ref x, key, v], []⟩) R s := by
  refine callS (binds := [(S "self", .ref x), (S "key", key), (S "value", v), (S "cache_setitem", .ref 770)]) (names := [S "self", S "key", S "value", S "cache_setitem"]) (locs := [(S "cache_setitem", .ref 770), (S "value", v), (S "key", key), (S "self", .ref x)]) fnOk950 T S₀ r
    (bndT T S₀ [.ref 770] rfl (by kernel_rfl) (by rfl) (by kernel_rfl)) rfl rfl (by kernel_rfl) (by decide +kernel) (by kernel_rfl) fun L s' r₁ S₁ => ?_
  refine wpAny_execs_cons ?_
  walk_at "m_wk"
  refine Call_ ?_
  walk_at "m_wk"
  refine callFn T (by kernel_rfl) ?_
  refine args_cons ?_
  walk_at "m_wk"
  refine args_cons ?_
  walk_at "m_wk"
  refine args_cons ?_
  walk_at "m_wk"
  refine args_nil ⟨⟨_, _, by assumption⟩, wpAny_call ?_⟩
  refine c770_full (n := n + 4) (pf := 965) (ext := [(od, dictC knd B os)]) (ext' := [(od, dictC knd B (delK os k0))]) c982 T (r₁.less (m := n + 7) (by omega)) (St.back (p := [_, _, _, _]) (by assumption))
    (pops965 T hsz hso ho hp0) (by kernel_rfl) (by kernel_rfl) (by walk_at "m_nin") (by walk_at "m_nin") (by simp) hd1 hk hp hmx h0 fun s' t' S' => ?_
  have S' := St.front (p := [_, _, _, _]) S'
  simp only [List.cons_append, List.nil_append] at S'
  walk_at "m_wk"
  refine methodCall_KW ?_
  walk_at "m_wk"
  refine methFn (f := 979) T (by assumption) (by walk_at "m_mem") (by walk_at "m_mem") (by kernel_rfl) ?_ (by walk_at "m_nin")
  refine callFn T (by kernel_rfl) ?_
  refine args_cons ?_
  walk_at "m_wk"
  refine args_nil ⟨⟨_, _, by assumption⟩, wpAny_call ?_⟩
  refine c979_new T (r₁.less (m := n + 3) (by omega)) (St.back (p := [_, _, _, _]) (by assumption)) hd2 hk hq fun s' S' => ?_
  have S' := St.front (p := [_, _, _, _]) S'
  simp only [List.cons_append, List.nil_append] at S'
  walk_at "m_wk"
  exact h _ _ (St.tail (St.pop (by assumption)))
end

end
-- TL3
section
set_option maxRecDepth 100000
set_option maxHeartbeats 400000
section
variable {w : World} {A : Around} {E : Value → Shared → Prop} {B : Shared} {fs : List Env} {l l' : Cells} {s : Shared} {R : Result → Shared → Prop} {n : Nat} {K : Type} [DecidableEq K] {knd : AnyKind pw w K}
  {a d : Addr} {ns : List (Addr × Addr)} {ev kv : Addr → Value} {rv : Addr → Bool} {v : Addr} {e key : Value} {expr : Bool} {x dx dd tm dt it od : Addr} {mx sz m : Int} {t u te : Tok} {xs is_ : List (K × Value × Value)} {os : List Addr}
theorem intMulSmall {a : Int} : IntMulOk a 2 := .of_right (intBits_le_64 (by decide) (by decide))
theorem own_hcf : clsName (KK w) 1488 (S "_TLRUCache__HEAP_CLEANUP_FACTOR") hcfV = true := by kernel_rfl
theorem c1463 (T : Stat (KK w) B.heap) (r : Room (n + 9) fs A) (S₀ : St B fs (tlruC w knd B x dx dd tm dt it od sz mx t u m xs is_ os ev kv rv ns l) s) (hm : ∀ a ∈ os, a ∈ ns.map (·.1)) (he : ∀ a ∈ ns.map (·.1), ∃ te, ev a = .int endV te) (hlen : os.length < 900) (hsi : is_.length < 900)
    (h : ∀ od' os' v s', Shed rv os' os → St B fs (tlruC w knd B x dx dd tm dt it od' sz mx t u m xs is_ os' ev kv rv ns l) s' → R (.ok (.ret v)) s') :
    codeAny (model pw w) A (.call (.ref 1463) ⟨[.ref x, .int 100 te], []⟩) R s := by
  refine callS (binds := [(S "self", .ref x), (S "time", .int 100 te)]) (names := [S "self", S "time"]) (locs := [(S "time", .int 100 te), (S "self", .ref x)]) fnOk1463 T S₀ r (bndT T S₀ [.none] rfl (by kernel_rfl) (by rfl) (by kernel_rfl)) rfl rfl (by kernel_rfl) (by decide +kernel) (by kernel_rfl) fun L s' r₁ S₁ => ?_
  have rest : ∀ od1 os1 s1, Shed rv os1 os → St B (fnEnv fd1463 L 1463 :: fs) ((L, nsC fd1463.scope [(S "order", .ref od1), (S "items", .ref it), (S "time", .int 100 te), (S "self", .ref x)]) :: tlruC w knd B x dx dd tm dt it od1 sz mx t u m xs is_ os1 ev kv rv ns l) s1 →
      wpAny (model pw w) (A.deeper (fnEnv fd1463 L 1463)) (execs ((inside (stP [57, 9])).drop 4) (fnEnv fd1463 L 1463)) (fun fl s' => R (.ok (.ret (match fl with | .ret v => v | _ => .none))) s') (fun _ _ => False) s1 := by
    intro od1 os1 s1 hsh S1
    have hl1 := hsh.length
    refine expire_rest (n := n) T (r₁.less (by omega)) (fun a ha => hm a (hsh.mem ha)) he (by omega) (S1.perm (by walk_at "m_pm")) fun os' c v s' hsh' S' => ?_
    exact h od1 os' v s' (hsh'.trans hsh) (St.done L S' (by walk_at "m_pm"))
  refine wpAny_execs_cons ?_
  walk_at "m_wki"
  refine Call_ ?_
  refine ldB T (by assumption) (by kernel_rfl) PyProof.Rows.Boot.«len» ?_
  refine PyProof.Rows.callWith_builtin1 ?_
  refine args_cons ?_
  walk_at "m_wki"
  refine args_nil ?_
  refine lenL (a := od) (by assumption) (by walk_at "m_mem") (by simp; omega) fun s' t' S' => ?_
  walk_at "m_wki"
  refine Call_ ?_
  refine ldB T (by assumption) (by kernel_rfl) PyProof.Rows.Boot.«len» ?_
  refine PyProof.Rows.callWith_builtin1 ?_
  refine args_cons ?_
  walk_at "m_wki"
  refine args_nil ?_
  refine dlenS (d := it) (by assumption) (by walk_at "m_mem") (by rw [sizeLine_eq]; omega) fun s' t' S' => ?_
  walk_at "m_wki"
  refine getCls T (by assumption) (by walk_at "m_mem") (by walk_at "m_mem") own_hcf (fun s' S' => ?_) (by walk_at "m_nin")
  refine mulS (by assumption) intMulSmall fun s' t' S' => ?_
  walk_at "m_wki"
  by_cases hc : (is_.length : Int) * 2 < (os.map Value.ref).length
  · rw [if_pos (by simpa using hc)]
    walk_at "m_wki"
    refine compS (B := B) (fs := fnEnv fd1463 L 1463 :: fs) (cl := []) (closureFor_none (by decide +kernel)) rfl (by decide +kernel) (by decide +kernel) ?_
    walk_at "m_wki"
    refine iterL (a := od) (by assumption) (by walk_at "m_mem") fun I s' S' => ?_
    refine ⟨_, S', fun C D s₃ S₃ => ⟨fun P E' hp => iterIt S₃ (by walk_at "m_mem") hp, ?_⟩⟩
    refine compList (vs := os.map .ref) (fun i ys rest => rest = (L, nsC fd1463.scope [(S "order", .ref od), (S "items", .ref it), (S "time", .int 100 te), (S "self", .ref x)]) :: tlruC w knd B x dx dd tm dt it od sz mx t u m xs is_ os ev kv rv ns l ∧ ys = ((os.take i).filter fun a => !rv a).map .ref)
      (by kernel_rfl) (by decide +kernel) r₁.handled (S₃.perm (by walk_at "m_pm")) ⟨rfl, rfl⟩ ?_ ?_ ?_
    · rintro i ys rest ⟨rfl, rfl⟩
      refine ⟨(by walk_at "m_mem" : (od, listC (os.map .ref)) ∈ _), ?_⟩
      have := List.length_filter_le (fun a => !rv a) (os.take i)
      rw [List.length_take] at this
      rw [List.length_map, sizeLine_eq]; omega
    · rintro i v ys rest s hv ⟨rfl, rfl⟩ S
      rw [List.getElem?_map] at hv
      obtain ⟨a, ha, rfl⟩ := Option.map_eq_some_iff.mp hv
      obtain ⟨d, hd⟩ := node_of (hm a (List.mem_of_getElem? ha))
      refine wpAny_tests_one ?_
      walk_at "m_wki"
      refine getRem (b := rv a) T (by assumption) (by walk_at "m_mem") (by walk_at "m_mem") rfl fun s' S' => ?_
      walk_at "m_wki"
      have e := take_succ_filter (fun a => !rv a) os i a ha
      cases hr : rv a with
      | true =>
        refine iteF rfl ⟨_, ⟨rfl, ?_⟩, S'⟩
        rw [e]; simp [hr]
      | false =>
        refine iteT rfl ?_
        walk_at "m_wki"
        refine ⟨_, ⟨rfl, ?_⟩, by assumption⟩
        rw [e]; simp [hr]
    · rintro ys rest s ⟨rfl, rfl⟩ S
      rw [List.length_map, List.take_length] at S
      walk_at "m_wki"
      refine Call_ ?_
      walk_at "m_wki"
      refine PyProof.Rows.callWith_builtin1 ?_
      refine args_cons ?_
      walk_at "m_wki"
      refine args_nil ?_
      have hf := List.length_filter_le (fun a => !rv a) os
      have hm1 : ∀ a ∈ os.filter (fun a => !rv a), a ∈ ns.map (·.1) := fun a ha => hm a (List.mem_filter.mp ha).1
      refine hifyS (n := n + 1) T (r₁.less (by omega)) (St.perm (l' := (D, listC ((os.filter fun a => !rv a).map .ref)) :: (nodeCells 1397 (itf ev kv rv) ns ++ _)) (by assumption) (by walk_at "m_pm")) (items_ok hm1 he) (by rw [List.length_map]; omega) fun vs' s' p S' => ?_
      obtain ⟨os4, p4, rfl⟩ := perm_of_map p
      refine wpAny_execs_nil ?_
      exact rest D os4 s' (Shed.filter.perm p4) ((S'.perm (l' := (od, _) :: (L, _) :: tlruC w knd B x dx dd tm dt it D sz mx t u m xs is_ os4 ev kv rv ns l) (by walk_at "m_pm")).tail)
  · rw [if_neg (by simpa using hc)]
    refine wpAny_execs_nil ?_
    exact rest od os _ .refl (by assumption)
end

end
-- TL4
section
set_option maxRecDepth 100000
set_option maxHeartbeats 400000
section
variable {w : World} {A : Around} {E : Value → Shared → Prop} {B : Shared} {fs : List Env} {l l' : Cells} {s : Shared} {R : Result → Shared → Prop} {n : Nat} {K : Type} [DecidableEq K] {knd : AnyKind pw w K}
  {a d : Addr} {ns : List (Addr × Addr)} {ev kv : Addr → Value} {rv : Addr → Bool} {v : Addr} {e key : Value} {expr : Bool} {x dx dd tm dt it od : Addr} {mx sz m : Int} {t u te : Tok} {xs is_ : List (K × Value × Value)} {os : List Addr} {k : K} {p : Value × Value} {lv : Value}
theorem c1418_there (T : Stat (KK w) B.heap) (r : Room (n + 5) fs A) (S₀ : St B fs (tlruC w knd B x dx dd tm dt it od sz mx t u m xs is_ os ev kv rv ns l) s) (hk : knd.is B.heap k key) (hq : atK is_ k = some (lv, .ref a)) (ha : (a, d) ∈ ns) (he : ev a = .int endV te)
    (h : ∀ s', St B fs (tlruC w knd B x dx dd tm dt it od sz mx t u m xs is_ os ev kv rv ns l) s' → R (.ok (.ret (.bool true))) s') :
    codeAny (model pw w) A (.call (.ref 1418) ⟨[.ref x, key], []⟩) R s := by
  refine callS (binds := [(S "self", .ref x), (S "key", key)]) (names := [S "self", S "key"]) (locs := [(S "key", key), (S "self", .ref x)]) fnOk1418 T S₀ r (BindsTo.of_eq (by kernel_rfl)) rfl rfl (by kernel_rfl) (by decide +kernel) (by kernel_rfl) fun L s' r₁ S₁ => ?_
  refine wpAny_execs_cons ?_
  refine wpAny_Try_except ?_
  walk_at "m_wk"
  refine subD ?_
  walk_at "m_wk"
  refine ⟨St.typeDict (d := it) (by assumption) (by walk_at "m_mem"), ?_⟩
  refine getS (d := it) (by assumption) (by walk_at "m_mem") r₁.u1 hk hq fun s₃ S₃ => ?_
  walk_at "m_wk"
  walk_at "m_tcall"
  walk_at "m_wk"
  refine getIExp T (by assumption) (by walk_at "m_mem") (by walk_at "m_mem") he rfl fun s' S' => ?_
  walk_at "m_wk"
  exact h _ (St.done L S' (by walk_at "m_pm"))
/-- the key is not there -/
theorem c1418_not (T : Stat (KK w) B.heap) (r : Room (n + 5) fs A) (S₀ : St B fs (tlruC w knd B x dx dd tm dt it od sz mx t u m xs is_ os ev kv rv ns l) s) (hk : knd.is B.heap k key) (hq : atK is_ k = none)
    (h : ∀ s', St B fs (tlruC w knd B x dx dd tm dt it od sz mx t u m xs is_ os ev kv rv ns l) s' → R (.ok (.ret (.bool false))) s') :
    codeAny (model pw w) A (.call (.ref 1418) ⟨[.ref x, key], []⟩) R s := by
  refine callS (binds := [(S "self", .ref x), (S "key", key)]) (names := [S "self", S "key"]) (locs := [(S "key", key), (S "self", .ref x)]) fnOk1418 T S₀ r (BindsTo.of_eq (by kernel_rfl)) rfl rfl (by kernel_rfl) (by decide +kernel) (by kernel_rfl) fun L s' r₁ S₁ => ?_
  refine wpAny_execs_cons ?_
  refine wpAny_Try_except ?_
  walk_at "m_wk"
  refine subD ?_
  walk_at "m_wk"
  refine ⟨St.typeDict (d := it) (by assumption) (by walk_at "m_mem"), ?_⟩
  refine getS_missing (d := it) (by assumption) (by walk_at "m_mem") r₁.u1 r₁.handled hk hq fun h' e t' he => ?_
  refine caughtS (by assumption) r₁.frames he ke_exc ke_nt ke_sub (fun s' Q' S' hq => ldB T S' (by kernel_rfl) PyProof.Rows.Boot.«KeyError» hq) fun s' S' => ?_
  walk_at "m_wk"
  exact h _ (St.done L S' (by walk_at "m_pm"))
/-- getitem of TLRU, the key is there -/
theorem c1426 (T : Stat (KK w) B.heap) (r : Room (n + 5) fs A) (S₀ : St B fs (tlruC w knd B x dx dd tm dt it od sz mx t u m xs is_ os ev kv rv ns l) s) (hk : knd.is B.heap k key) (hp : atK xs k = some p) (hq : atK is_ k = some (lv, .ref a)) (ha : (a, d) ∈ ns) (he : ev a = .int endV te) (hso : is_.length ≤ sizeLine) (hso' : (delK is_ k).length ≤ sizeLine)
    (h : ∀ s', St B fs (tlruC w knd B x dx dd tm dt it od sz mx t u m xs (putK (delK is_ k) k key (.ref a)) os ev kv rv ns l) s' → R (.ok (.ret p.2)) s') :
    codeAny (model pw w) A (.call (.ref 1426) ⟨[.ref x, key], []⟩) R s := by
  refine callS (binds := [(S "self", .ref x), (S "key", key), (S "cache_getitem", .ref 763)]) (names := [S "self", S "key", S "cache_getitem"]) (locs := [(S "cache_getitem", .ref 763), (S "key", key), (S "self", .ref x)]) fnOk1426 T S₀ r (bndT T S₀ [.ref 763] rfl (by kernel_rfl) (by rfl) (by kernel_rfl)) rfl rfl (by kernel_rfl) (by decide +kernel) (by kernel_rfl) fun L s' r₁ S₁ => ?_
  refine wpAny_execs_cons ?_
  walk_at "m_wk"
  refine wpAny_Try_except ?_
  walk_at "m_wk"
  refine subD ?_
  walk_at "m_wk"
  refine ⟨St.typeDict (d := it) (by assumption) (by walk_at "m_mem"), ?_⟩
  refine getS (d := it) (by assumption) (by walk_at "m_mem") r₁.u1 hk hq fun s₃ S₃ => ?_
  walk_at "m_wk"
  refine methodCall_KW ?_
  walk_at "m_wk"
  refine dictPopM (d := it) (by assumption) (by walk_at "m_mem") ?_
  refine callB ?_
  refine args_cons ?_
  walk_at "m_wk"
  refine args_nil ?_
  refine popS (d := it) (by assumption) (by walk_at "m_updt") r₁.u1 hk hq (fun s₄ S₄ => ?_) hso
  walk_at "m_wk"
  refine putS (d := it) (by assumption) (by walk_at "m_updt") r₁.u1 hk (fun s₅ S₅ => ?_) hso'
  walk_at "m_wk"
  walk_at "m_tcall"
  walk_at "m_wk"
  refine getIExp T (by assumption) (by walk_at "m_mem") (by walk_at "m_mem") he rfl fun s' S' => ?_
  walk_at "m_wk"
  rw [if_pos (by decide)]
  walk_at "m_wk"
  refine Call_ ?_
  walk_at "m_wk"
  refine callFn T (by kernel_rfl) ?_
  refine args_cons ?_
  walk_at "m_wk"
  refine args_cons ?_
  walk_at "m_wk"
  refine args_nil ⟨⟨_, _, by assumption⟩, wpAny_call ?_⟩
  refine c763 c1488 T (r₁.less (m := n + 3) (by omega)) (S'.perm (l' := (x, _) :: (dx, _) :: (dd, _) :: _) (by walk_at "m_pm")) hk hp fun s' S' => ?_
  walk_at "m_wk"
  exact h _ (St.done L S' (by walk_at "m_pm"))
end

end
-- TL5
section
set_option maxRecDepth 100000
set_option maxHeartbeats 400000
section
variable {w : World} {A : Around} {E : Value → Shared → Prop} {B : Shared} {fs : List Env} {l l' : Cells} {s : Shared} {R : Result → Shared → Prop} {n : Nat} {K : Type} [DecidableEq K] {knd : AnyKind pw w K}
  {a d : Addr} {ns : List (Addr × Addr)} {ev kv : Addr → Value} {rv : Addr → Bool} {v : Addr} {e key : Value} {expr : Bool} {x dx dd tm dt it od : Addr} {mx sz m : Int} {t u te : Tok} {xs is_ : List (K × Value × Value)} {os : List Addr} {k : K} {p : Value × Value} {lv : Value}
theorem c1442 (T : Stat (KK w) B.heap) (r : Room (n + 5) fs A) (S₀ : St B fs (tlruC w knd B x dx dd tm dt it od sz mx t u m xs is_ os ev kv rv ns l) s) (h0 : 0 ≤ m) (nd : (ns.map (·.1)).Nodup) (hk : knd.is B.heap k key) (hp : atK xs k = some p) (hq : atK is_ k = some (lv, .ref a)) (ha : (a, d) ∈ ns) (he : ev a = .int endV te)
    (hsz : xs.length ≤ sizeLine) (hso : is_.length ≤ sizeLine)
    (h : ∀ s' t', St B fs (tlruC w knd B x dx dd tm dt it od (sz - 1) mx t' u m (delK xs k) (delK is_ k) os ev kv (upd rv a true) ns l) s' → R (.ok (.ret .none)) s') :
    codeAny (model pw w) A (.call (.ref 1442) ⟨[.ref x, key], []⟩) R s := by
  refine callS (binds := [(S "self", .ref x), (S "key", key), (S "cache_delitem", .ref 777)]) (names := [S "self", S "key", S "cache_delitem"]) (locs := [(S "cache_delitem", .ref 777), (S "key", key), (S "self", .ref x)]) fnOk1442 T S₀ r (bndT T S₀ [.ref 777] rfl (by kernel_rfl) (by rfl) (by kernel_rfl)) rfl rfl (by kernel_rfl) (by decide +kernel) (by kernel_rfl) fun L s' r₁ S₁ => ?_
  refine wpAny_execs_cons ?_
  walk_at "m_twith"
  walk_at "m_wki"
  refine Call_ ?_
  walk_at "m_wki"
  refine callFn T (by kernel_rfl) ?_
  refine args_cons ?_
  walk_at "m_wki"
  refine args_cons ?_
  walk_at "m_wki"
  refine args_nil ⟨⟨_, _, by assumption⟩, wpAny_call ?_⟩
  refine c777 c1488 T (r₁.less (m := n + 3) (by omega)) (St.perm (l' := (x, _) :: (dx, _) :: (dd, _) :: _) (by assumption) (by walk_at "m_pm")) (by walk_at "m_nin") (by simp) hsz hk hp fun s' t' S' => ?_
  walk_at "m_wki"
  walk_at "m_tout"
  walk_at "m_wki"
  refine methodCall_KW ?_
  walk_at "m_wki"
  refine dictPopM (d := it) (by assumption) (by walk_at "m_mem") ?_
  refine callB ?_
  refine args_cons ?_
  walk_at "m_wki"
  refine args_nil ?_
  refine popS (d := it) (by assumption) (by walk_at "m_updt") r₁.u1 hk hq (fun s₄ S₄ => ?_) hso
  walk_at "m_wki"
  refine setRem T (by assumption) (by walk_at "m_updn") (by walk_at "m_mem") fun s' S' => ?_
  walk_at "m_wki"
  refine getIExp T (by assumption) (by walk_at "m_mem") (by walk_at "m_mem") he rfl fun s' S' => ?_
  walk_at "m_wki"
  exact h _ _ (St.done L S' (by walk_at "m_pm"))
theorem c1470 {is' : List (K × Value × Value)} (T : Stat (KK w) B.heap) (r : Room (n + 11) fs A) (S₀ : St B fs (tlruC w knd B x dx dd tm dt it od sz mx t u m xs is_ os ev kv rv ns l) s) (h0 : 0 ≤ m) (nd : (ns.map (·.1)).Nodup) (hl : is_ = (k, lv, .ref a) :: is') (hp : atK xs k = some p)
    (ha : (a, d) ∈ ns) (hm : ∀ a ∈ os, a ∈ ns.map (·.1)) (he : ∀ a ∈ ns.map (·.1), ∃ te, ev a = .int endV te) (hlen : os.length < 900) (hsz : xs.length ≤ sizeLine) (hso : is_.length < 900)
    (h : ∀ b od' os' s' t', Shed rv os' os → St B fs ((b, objC { cls := .type "tuple", data := .seq #[lv, p.2] }) :: tlruC w knd B x dx dd tm dt it od' (sz - 1) mx t' u m (delK xs k) (delK is_ k) os' ev kv (upd rv a true) ns l) s' → R (.ok (.ret (.ref b))) s') :
    codeAny (model pw w) A (.call (.ref 1470) ⟨[.ref x], []⟩) R s := by
  refine callS (binds := [(S "self", .ref x)]) (names := [S "self"]) (locs := [(S "self", .ref x)]) fnOk1470 T S₀ r (BindsTo.of_eq (by kernel_rfl)) rfl rfl (by kernel_rfl) (by decide +kernel) (by kernel_rfl) fun L s' r₁ S₁ => ?_
  have hkey : knd.is B.heap k lv := S₁.keys (d := it) (by walk_at "m_mem") (k, lv, .ref a) (by rw [hl]; exact List.mem_cons_self)
  have hq : atK is_ k = some (lv, .ref a) := by rw [hl]; simp [atK]
  obtain ⟨te, hte⟩ := he a (List.mem_map.mpr ⟨_, ha, rfl⟩)
  refine wpAny_execs_cons ?_
  walk_at "m_twith"
  walk_at "m_wki"
  refine methodCall_KW ?_
  walk_at "m_wki"
  refine methFn (f := 1463) T (by assumption) (by walk_at "m_mem") (by walk_at "m_mem") (by kernel_rfl) ?_ (by walk_at "m_nin")
  refine callFn T (by kernel_rfl) ?_
  refine args_cons ?_
  walk_at "m_wki"
  refine args_nil ⟨⟨_, _, by assumption⟩, wpAny_call ?_⟩
  refine c1463 T (r₁.less (m := n + 9) (by omega)) (St.perm (by assumption) (by walk_at "m_pm")) hm he hlen hso fun od' os' v s' hsh S' => ?_
  walk_at "m_wki"
  refine wpAny_Try_except ?_
  walk_at "m_wki"
  refine Call_ ?_
  refine ldB T (by assumption) (by kernel_rfl) PyProof.Rows.Boot.«next» ?_
  refine PyProof.Rows.callWith_builtin1 ?_
  refine args_cons ?_
  refine Call_ ?_
  refine ldB T (by assumption) (by kernel_rfl) PyProof.Rows.Boot.«iter» ?_
  refine PyProof.Rows.callWith_builtin1 ?_
  refine args_cons ?_
  walk_at "m_wki"
  refine args_nil ?_
  refine iterS (d := it) (by assumption) (by walk_at "m_mem") fun I s' ep S' he => ?_
  refine args_nil ?_
  refine nextS (d := it) (by assumption) (by walk_at "m_mem") (by walk_at "m_updt") he (by rw [hl]; rfl) fun s' S' he => ?_
  have S' := S'.tail
  walk_at "m_wki"
  refine methodCall_KW ?_
  walk_at "m_wki"
  refine methCls (f := 763) T (by assumption) (by kernel_rfl) fun s' S' => ?_
  refine callFn T (by kernel_rfl) ?_
  refine args_cons ?_
  walk_at "m_wki"
  refine args_cons ?_
  walk_at "m_wki"
  refine args_nil ⟨⟨_, _, by assumption⟩, wpAny_call ?_⟩
  refine c763 c1488 T (r₁.less (m := n + 3) (by omega)) (St.perm (l' := (x, _) :: (dx, _) :: (dd, _) :: _) (by assumption) (by walk_at "m_pm")) hkey hp fun s' S' => ?_
  walk_at "m_wki"
  refine delOwn (f := 1442) T (by assumption) (by walk_at "m_mem") (by walk_at "m_mem") (by kernel_rfl) (by kernel_rfl) ?_
  refine wpAny_call ?_
  refine c1442 (d := d) T (r₁.less (m := n + 5) (by omega)) (St.perm (by assumption) (by walk_at "m_pm")) (by omega) nd hkey hp hq ha hte hsz (by rw [sizeLine_eq]; omega) fun s' t' S' => ?_
  walk_at "m_wki"
  refine wpAny_Tuple ?_
  refine wpAny_items_cons ?_
  walk_at "m_wki"
  refine wpAny_items_cons ?_
  walk_at "m_wki"
  refine wpAny_items_nil ?_
  refine ⟨by rw [sizeLine_eq]; simp, ?_⟩
  have S' := St.push (c := objC { cls := .type "tuple", data := .seq #[lv, p.2] }) S' (o := { cls := .type "tuple", data := .seq #[lv, p.2] }) rfl s'.toks
  walk_at "m_wki"
  walk_at "m_tout"
  exact h _ _ _ _ _ hsh (St.done L (by assumption) (by walk_at "m_pm"))
/-- the length of a TLRU cache -/
theorem c1072_tlru (T : Stat (KK w) B.heap) (r : Room (n + 12) fs A) (S₀ : St B fs (tlruC w knd B x dx dd tm dt it od sz mx t u m xs is_ os ev kv rv ns l) s) (h0 : 0 ≤ m)
    (hm : ∀ a ∈ os, a ∈ ns.map (·.1)) (he : ∀ a ∈ ns.map (·.1), ∃ te, ev a = .int endV te) (hlen : os.length < 900) (hsz : xs.length ≤ sizeLine) (hso : is_.length < 900)
    (h : ∀ od' os' s' t', Shed rv os' os → St B fs (tlruC w knd B x dx dd tm dt it od' sz mx t u m xs is_ os' ev kv rv ns l) s' → R (.ok (.ret (.int xs.length t'))) s') :
    codeAny (model pw w) A (.call (.ref 1072) ⟨[.ref x], []⟩) R s := by
  refine callS (binds := [(S "self", .ref x), (S "cache_len", .ref 805)]) (names := [S "self", S "cache_len"]) (locs := [(S "cache_len", .ref 805), (S "self", .ref x)]) fnOk1072 T S₀ r (bndT T S₀ [.ref 805] rfl (by kernel_rfl) (by rfl) (by kernel_rfl)) rfl rfl (by kernel_rfl) (by decide +kernel) (by kernel_rfl) fun L s' r₁ S₁ => ?_
  refine wpAny_execs_cons ?_
  refine kw_execN ?_
  walk_at "m_wki"
  refine withIn (by assumption) (by assumption) (fe := 1020) (fx := 1027) (by walk_at "m_mem") (by walk_at "m_mem") (by kernel_rfl) (by kernel_rfl) ?_
  refine wpAny_call (c1020 (by assumption) (r₁.less (m := 0 + 3) (by omega)) (St.perm (by assumption) (by walk_at "m_pm")) fun s' t S' => ?_)
  walk_at "m_wki"
  refine methodCall_KW ?_
  walk_at "m_wki"
  refine methFn (f := 1463) T (by assumption) (by walk_at "m_mem") (by walk_at "m_mem") (by kernel_rfl) ?_ (by walk_at "m_nin")
  refine callFn T (by kernel_rfl) ?_
  refine args_cons ?_
  walk_at "m_wki"
  refine args_nil ⟨⟨_, _, by assumption⟩, wpAny_call ?_⟩
  refine c1463 T (r₁.less (m := n + 9) (by omega)) (St.perm (by assumption) (by walk_at "m_pm")) hm he hlen hso fun od' os' v s' hsh S' => ?_
  walk_at "m_wki"
  refine Call_ ?_
  walk_at "m_wki"
  refine callFn T (by kernel_rfl) ?_
  refine args_cons ?_
  walk_at "m_wki"
  refine args_nil ⟨⟨_, _, by assumption⟩, wpAny_call ?_⟩
  refine c805 c1488 T (r₁.less (m := n + 3) (by omega)) (St.perm (l' := (x, _) :: (dx, _) :: (dd, _) :: _) (by assumption) (by walk_at "m_pm")) hsz fun s' t' S' => ?_
  walk_at "m_wki"
  walk_at "m_tout"
  exact h _ _ _ _ hsh (St.done L (by assumption) (by walk_at "m_pm"))
end

end
-- TL6
section
set_option maxRecDepth 100000
set_option maxHeartbeats 400000
section
variable {w : World} {A : Around} {E : Value → Shared → Prop} {B : Shared} {fs : List Env} {l l' : Cells} {s : Shared} {R : Result → Shared → Prop} {n : Nat} {K : Type} [DecidableEq K] {knd : AnyKind pw w K}
  {a d : Addr} {ns : List (Addr × Addr)} {ev kv : Addr → Value} {rv rv' : Addr → Bool} {e key v : Value} {expr : Bool} {x dx dd tm dt it od : Addr} {mx sz sz' m : Int} {t u te : Tok} {xs is_ xs' is' : List (K × Value × Value)} {os : List Addr} {k : K} {p : Value × Value} {lv : Value}
theorem stNewItem {r : Cells} {b : Addr} (S : St B fs ((b, slotC 1397 d #[some e, some key, some (.bool false)]) :: (d, idC []) :: (nodeCells 1397 (itf ev kv rv) ns ++ r)) s) (hb : b ∉ ns.map (·.1)) :
    St B fs (nodeCells 1397 (itf (upd ev b e) (upd kv b key) (upd rv b false)) ((b, d) :: ns) ++ r) s := by
  have e1 : nodeCells 1397 (itf (upd ev b e) (upd kv b key) (upd rv b false)) ns = nodeCells 1397 (itf ev kv rv) ns := by
    refine nodes_congr fun a ha => ?_
    have n3 : a ≠ b := fun q => hb (q ▸ ha)
    simp [itf, upd, n3]
  rw [nodes_cons, e1]
  simpa [itf, upd] using S
/-- the law's end of a life -/
theorem cEnd (T : Stat (KK w) B.heap) (r : Room (n + 1) fs A) (S₀ : St B fs l s) (h : ∀ s' t, St B fs l s' → R (.ok (.ret (.int endV t))) s') :
    codeAny (model pw w) A (.call (.ref aEnd) ⟨[key, v, .int 100 te], []⟩) R s := by
  refine callS (binds := [(S "key", key), (S "value", v), (S "moment", .int 100 te)]) (names := [S "key", S "value", S "moment"]) (locs := [(S "moment", .int 100 te), (S "value", v), (S "key", key)]) fnOkEnd T S₀ r (BindsTo.of_eq (by kernel_rfl)) rfl rfl (by kernel_rfl) (by decide +kernel) (by kernel_rfl) fun L s' r₁ S₁ => ?_
  refine wpAny_execs_cons ?_
  walk_at "m_wki"
  exact h _ _ (St.tail (St.pop (by assumption)))
/-- what Cache.__setitem__ does to a TLRU cache's cells -/
def USets (w : World) (B : Shared) (knd : AnyKind pw w K) (n : Nat) (x dx dd tm dt it : Addr) (key v : Value) (sz sz' mx : Int) (u : Tok) (m : Int) (xs is_ xs' is' : List (K × Value × Value)) (os : List Addr) (P : List Addr → Prop) (ev kv : Addr → Value) (rv rv' : Addr → Bool) (ns : List (Addr × Addr)) : Prop :=
  ∀ (A : Around) (fs : List Env) (s : Shared) (q : Cells) (t : Tok) (od : Addr) (os₁ : List Addr) (R : Result → Shared → Prop), Room n fs A → Shed rv os₁ os → St B fs (tlruC w knd B x dx dd tm dt it od sz mx t u m xs is_ os₁ ev kv rv ns q) s →
    (∀ s' t' od' os', P os' → St B fs (tlruC w knd B x dx dd tm dt it od' sz' mx t' u m xs' is' os' ev kv rv' ns q) s' → R (.ok (.ret .none)) s') → codeAny (model pw w) A (.call (.ref 770) ⟨[.ref x, key, v], []⟩) R s
/-- setitem of TLRU, a new key -/
theorem c1434_new {P : List Addr → Prop} (T : Stat (KK w) B.heap) {n' : Nat} (hn' : n' ≤ n + 11) (r : Room (n + 12) fs A) (S₀ : St B fs (tlruC w knd B x dx dd tm dt it od sz mx t u m xs is_ os ev kv rv ns l) s) (h0 : 0 ≤ m) (nd : (ns.map (·.1)).Nodup) (hk : knd.is B.heap k key)
    (hset : USets w B knd n' x dx dd tm dt it key v sz sz' mx u (m + 1) xs is_ xs' is' os P ev kv rv rv' ns) (hq : atK is' k = none)
    (hm : ∀ a ∈ os, a ∈ ns.map (·.1)) (hP : ∀ os', P os' → (∀ a ∈ os', a ∈ ns.map (·.1)) ∧ os'.length < 900) (he : ∀ a ∈ ns.map (·.1), ∃ te, ev a = .int endV te) (hlen : os.length < 900) (hso : is_.length < 900) (hso' : is'.length < 900)
    (h : ∀ s' t' te b d od' os' os'', b ∉ ns.map (·.1) → P os' → os''.Perm (os' ++ [b]) → St B fs (tlruC w knd B x dx dd tm dt it od' sz' mx t' u m xs' (putK is' k key (.ref b)) os'' (upd ev b (.int endV te)) (upd kv b key) (upd rv' b false) ((b, d) :: ns) l) s' → R (.ok (.ret .none)) s') :
    codeAny (model pw w) A (.call (.ref 1434) ⟨[.ref x, key, v], []⟩) R s := by
  refine callS (binds := [(S "self", .ref x), (S "key", key), (S "value", v), (S "cache_setitem", .ref 770)]) (names := [S "self", S "key", S "value", S "cache_setitem"]) (locs := [(S "cache_setitem", .ref 770), (S "value", v), (S "key", key), (S "self", .ref x)]) fnOk1434 T S₀ r
    (bndT T S₀ [.ref 770] rfl (by kernel_rfl) (by rfl) (by kernel_rfl)) rfl rfl (by kernel_rfl) (by decide +kernel) (by kernel_rfl) fun L s' r₁ S₁ => ?_
  refine wpAny_execs_cons ?_
  walk_at "m_twith"
  walk_at "m_wki"
  refine methodCall_KW ?_
  walk_at "m_wki"
  refine methFn (f := 1463) T (by assumption) (by walk_at "m_mem") (by walk_at "m_mem") (by kernel_rfl) ?_ (by walk_at "m_nin")
  refine callFn T (by kernel_rfl) ?_
  refine args_cons ?_
  walk_at "m_wki"
  refine args_nil ⟨⟨_, _, by assumption⟩, wpAny_call ?_⟩
  refine c1463 T (r₁.less (m := n + 9) (by omega)) (St.perm (by assumption) (by walk_at "m_pm")) hm he hlen hso fun od₁ os₁ v' s' hsh S' => ?_
  walk_at "m_wki"
  refine methodCall_KW ?_
  walk_at "m_wki"
  refine methUsual T (by assumption) (by walk_at "m_mem") (by walk_at "m_mem") (by kernel_rfl) ?_
  walk_at "m_wki"
  refine callFn T (by kernel_rfl) ?_
  refine args_cons ?_
  walk_at "m_wki"
  refine args_cons ?_
  walk_at "m_wki"
  refine args_cons ?_
  walk_at "m_wki"
  refine args_nil ⟨⟨_, _, by assumption⟩, wpAny_call ?_⟩
  refine cEnd T (r₁.less (m := n + 1) (by omega)) (by assumption) fun s' t' S' => ?_
  walk_at "m_wki"
  refine Call_ ?_
  walk_at "m_wki"
  refine callFn T (by kernel_rfl) ?_
  refine args_cons ?_
  walk_at "m_wki"
  refine args_cons ?_
  walk_at "m_wki"
  refine args_cons ?_
  walk_at "m_wki"
  refine args_nil ⟨⟨_, _, by assumption⟩, wpAny_call ?_⟩
  refine hset _ _ _ _ _ _ os₁ _ (r₁.less (m := n') (by omega)) hsh (St.perm (by assumption) (by walk_at "m_pm")) fun s' t' od₂ os₂ hP₂ S' => ?_
  walk_at "m_wki"
  walk_at "m_tout"
  walk_at "m_wki"
  refine methodCall_KW ?_
  walk_at "m_wki"
  refine dictGetM (d := it) (by assumption) (by walk_at "m_mem") ?_
  refine callB ?_
  refine args_cons ?_
  walk_at "m_wki"
  refine args_nil ?_
  refine dgetS (d := it) (by assumption) (by walk_at "m_mem") r₁.u1 hk fun s' S' => ?_
  rw [hq]
  dsimp only [Option.map_none, Option.getD_none]
  walk_at "m_wki"
  refine methodCall_KW ?_
  walk_at "m_wki"
  refine methCls (f := 1397) T (by assumption) (by kernel_rfl) fun s' S' => ?_
  refine callFn T (by kernel_rfl) ?_
  refine args_cons ?_
  walk_at "m_wki"
  refine args_cons ?_
  walk_at "m_wki"
  refine args_nil ⟨⟨_, _, by assumption⟩, wpAny_call ?_⟩
  refine makeS (fun d => slotC 1397 d #[]) T (by assumption) (by kernel_rfl) (fI := 1386) (by kernel_rfl) (by kernel_rfl) (fun _ => ⟨rfl, rfl, rfl, rfl⟩) fun b d s' S' => ?_
  refine c1386 T (r₁.make.less (m := n + 2) (by omega)) S' fun s' S' => ⟨rfl, ?_⟩
  walk_at "m_wki"
  refine putS (d := it) (by assumption) (by walk_at "m_updt") r₁.u1 hk (fun s₅ S₅ => ?_) (by rw [sizeLine_eq]; omega)
  walk_at "m_wki"
  rename_i S'
  have hb : b ∉ ns.map (·.1) := St.freshNode S' (by walk_at "m_pm")
  have hos := hP os₂ hP₂
  have S2 := stNewItem (d := d) (S'.perm (l' := (b, _) :: (d, _) :: (nodeCells 1397 (itf ev kv rv') ns ++ _)) (by walk_at "m_pm")) hb
  refine Call_ ?_
  walk_at "m_wki"
  refine callB ?_
  refine args_cons ?_
  walk_at "m_wki"
  refine args_cons ?_
  walk_at "m_wki"
  refine args_nil ?_
  have hm2 : ∀ a ∈ os₂ ++ [b], a ∈ ((b, d) :: ns).map (·.1) := fun a ha => by
    rcases List.mem_append.mp ha with ha | ha
    · exact List.mem_cons_of_mem _ (hos.1 a ha)
    · rw [List.mem_singleton.mp ha]; exact List.mem_cons_self
  have he2 : ∀ (tk : Tok), ∀ a ∈ ((b, d) :: ns).map (·.1), ∃ te, upd ev b (.int endV tk) a = .int endV te := fun tk a ha => by
    by_cases q : a = b
    · exact ⟨tk, by subst q; exact upd_same⟩
    · rw [upd_ne q]
      rcases List.mem_cons.mp ha with ha | ha
      · exact (q ha).elim
      · exact he a ha
  refine hpushS (n := n + 3) (vs := os₂.map .ref) T (r₁.less (by omega)) (St.perm (l' := (od₂, _) :: (nodeCells 1397 _ ((b, d) :: ns) ++ _)) (by assumption) (by walk_at "m_pm")) ?_ (by rw [List.length_map]; omega) fun vs' s' p S' => ?_
  · rw [show os₂.map Value.ref ++ [.ref b] = (os₂ ++ [b]).map Value.ref by simp]
    exact items_ok hm2 (he2 _)
  · rw [show os₂.map Value.ref ++ [.ref b] = (os₂ ++ [b]).map Value.ref by simp] at p
    obtain ⟨os3, p3, rfl⟩ := perm_of_map p
    walk_at "m_wki"
    exact h _ _ _ b d od₂ os₂ os3 hb hP₂ p3 (St.done L S' (by walk_at "m_pm"))
end

end
-- C3
section
set_option maxRecDepth 100000
set_option maxHeartbeats 400000
section
variable {w : World} {A : Around} {E : Value → Shared → Prop} {B : Shared} {fs : List Env} {l : Cells} {s : Shared} {K : Type} [DecidableEq K] {knd : AnyKind pw w K} {R : Result → Shared → Prop} {n : Nat}
  {C x dx dd : Addr} {ns more : Names} {xs : List (K × Value × Value)} {key v : Value} {k : K} {sz mx : Int} {t u : Tok} {p : Value × Value}
/-- what popitem of the class does to the cells, where other names and cells may come out -/
def PopsG (w : World) (B : Shared) (knd : AnyKind pw w K) (pf : Addr) (n : Nat) (C x dx dd : Addr) (sz mx : Int) (u : Tok) (more : Names) (xs xs' : List (K × Value × Value)) (ext : Cells) (G : Names → Cells → Prop) : Prop :=
  ∀ (A : Around) (fs : List Env) (s : Shared) (q : Cells) (t : Tok) (R : Result → Shared → Prop), Room n fs A → St B fs ((x, instC C dx) :: (dx, idC (baseN dd sz mx t u more)) :: (dd, dictC knd B xs) :: (ext ++ q)) s →
    (∀ v s' t' more' ext', G more' ext' → St B fs ((x, instC C dx) :: (dx, idC (baseN dd (sz - 1) mx t' u more')) :: (dd, dictC knd B xs') :: (ext' ++ q)) s' → R (.ok (.ret v)) s') → codeAny (model pw w) A (.call (.ref pf) ⟨[.ref x], []⟩) R s
/-- a new key, and the cache is full: popitem makes room -/
theorem c770_fullG {pf : Addr} {xs' : List (K × Value × Value)} {ext : Cells} {G : Names → Cells → Prop} (hC : C ∈ cacheCls) (T : Stat (KK w) B.heap) (r : Room (n + 3) fs A) (S₀ : St B fs ((x, instC C dx) :: (dx, idC (baseN dd sz mx t u more)) :: (dd, dictC knd B xs) :: (ext ++ l)) s)
    (hpop : PopsG w B knd pf (n + 2) C x dx dd sz mx u more xs xs' ext G) (hm : methName (KK w) C (S "popitem") pf = true) (hkp : keepIn (KK w) (.ref pf) = true)
    (hns : S "_Cache__size" ∉ (baseN dd sz mx t u more).map (·.1)) (hns2 : S "popitem" ∉ (baseN dd sz mx t u more).map (·.1)) (hml : more.length ≤ 50) (hG : ∀ more' ext', G more' ext' → more'.length ≤ 50) (hsz : xs'.length ≤ sizeLine) (hk : knd.is B.heap k key) (hp : atK xs k = none) (hmx : sz = mx) (h0 : 0 < sz)
    (h : ∀ s' t' more' ext', G more' ext' → St B fs ((x, instC C dx) :: (dx, idC (baseN dd (sz - 1 + 1) mx t' u more')) :: (dd, dictC knd B (putK xs' k key v)) :: (ext' ++ l)) s' → R (.ok (.ret .none)) s') :
    codeAny (model pw w) A (.call (.ref 770) ⟨[.ref x, key, v], []⟩) R s := by
  refine callS (binds := [(S "self", .ref x), (S "key", key), (S "value", v)]) (names := [S "self", S "key", S "value"]) (locs := [(S "value", v), (S "key", key), (S "self", .ref x)]) fnOk770 T S₀ r (BindsTo.of_eq (by kernel_rfl)) rfl rfl (by kernel_rfl) (by decide +kernel) (by kernel_rfl) fun L s' r₁ S₁ => ?_
  refine wpAny_execs_cons ?_
  walk_at "m_wk"
  refine getCls T (by assumption) (by walk_at "m_mem") (by walk_at "m_mem") (cls_size hC) (fun s₂ S₂ => ?_) hns
  walk_at "m_wk"
  rw [if_pos (by rfl)]
  walk_at "m_wk"
  rw [if_neg (by simp; omega)]
  walk_at "m_wk"
  refine inS (by assumption) (by walk_at "m_mem") r₁.u1 hk fun s₃ S₃ => ?_
  walk_at "m_wk"
  rw [hp, if_neg (by decide)]
  walk_at "m_wk"
  refine whileOnce (fun s' => ∃ t' more' ext', G more' ext' ∧ St B (fnEnv fd770 L 770 :: fs) ((L, nsC fd770.scope [(S "maxsize", .int mx u), (S "size", .none), (S "data", .ref dd), (S "value", v), (S "key", key), (S "self", .ref x)]) :: (x, instC C dx) :: (dx, idC (baseN dd (sz - 1) mx t' u more')) :: (dd, dictC knd B xs') :: (ext' ++ l)) s') ?_ ?_
  · walk_at "m_wk"
    refine ⟨by simp; omega, ?_⟩
    walk_at "m_wk"
    refine methodCall_KW ?_
    walk_at "m_wk"
    refine methFn T (by assumption) (by walk_at "m_mem") (by walk_at "m_mem") hm ?_ hns2
    refine callFn0 T (by assumption) hkp ?_
    refine wpAny_call ?_
    refine hpop _ _ _ _ _ _ r₁ (St.back (p := (x, instC C dx) :: (dx, idC (baseN dd sz mx t u more)) :: (dd, dictC knd B xs) :: ext) (q := l) (by assumption)) fun v s' t' more' ext' hg S' => ?_
    walk_at "m_wk"
    exact ⟨rfl, t', more', ext', hg, St.front (p := (x, instC C dx) :: (dx, idC (baseN dd (sz - 1) mx t' u more')) :: (dd, dictC knd B xs') :: ext') (q := l) S'⟩
  rintro s' ⟨t', more', ext', hg, S'⟩
  have hml' := hG _ _ hg
  walk_at "m_wk"
  refine ⟨by simp; omega, ?_⟩
  walk_at "m_wk"
  refine putS (by assumption) (by walk_at "m_updt") r₁.u1 hk (fun s₃ S₃ => ?_) hsz
  walk_at "m_wk"
  exact h _ _ _ _ hg (St.tail (St.pop (by assumption)))
end

end
-- TL7
section
set_option maxRecDepth 100000
set_option maxHeartbeats 400000
section
variable {w : World} {A : Around} {E : Value → Shared → Prop} {B : Shared} {fs : List Env} {l l' : Cells} {s : Shared} {R : Result → Shared → Prop} {n : Nat} {K : Type} [DecidableEq K] {knd : AnyKind pw w K}
  {a d : Addr} {ns : List (Addr × Addr)} {ev kv : Addr → Value} {rv rv' : Addr → Bool} {e key v : Value} {expr : Bool} {x dx dd tm dt it od : Addr} {mx sz sz' m : Int} {t u te : Tok} {xs is_ xs' is' : List (K × Value × Value)} {os : List Addr} {k : K} {p : Value × Value} {lv : Value}
theorem usets_room (T : Stat (KK w) B.heap) (hsz : xs.length ≤ sizeLine) (hk : knd.is B.heap k key) (hp : atK xs k = none) (hmx : sz < mx) (h0 : 0 ≤ sz) :
    USets w B knd (n + 3) x dx dd tm dt it key v sz (sz + 1) mx u m xs is_ (putK xs k key v) is_ os (fun os' => Shed rv os' os) ev kv rv rv ns :=
  fun _ _ _ _ _ _ _ _ r hsh S₀ h => c770_new c1488 T r S₀ (by walk_at "m_nin") (by simp) hsz hk hp hmx h0 fun _ _ S' => h _ _ _ _ hsh S'
theorem usets_there (T : Stat (KK w) B.heap) (hsz : xs.length ≤ sizeLine) (hk : knd.is B.heap k key) (hp : atK xs k = some p) (hmx : 0 < mx) :
    USets w B knd (n + 3) x dx dd tm dt it key v sz sz mx u m xs is_ (putK xs k key v) is_ os (fun os' => Shed rv os' os) ev kv rv rv ns :=
  fun _ _ _ _ _ _ _ _ r hsh S₀ h => c770_there c1488 T r S₀ (by walk_at "m_nin") (by simp) hsz hk hp hmx fun _ S' => h _ _ _ _ hsh S'
theorem usets_full {k0 : K} {is'' : List (K × Value × Value)} (T : Stat (KK w) B.heap) (h0 : 0 ≤ m) (nd : (ns.map (·.1)).Nodup) (hl : is_ = (k0, lv, .ref a) :: is'') (hp0 : atK xs k0 = some p)
    (ha : (a, d) ∈ ns) (hm : ∀ a ∈ os, a ∈ ns.map (·.1)) (he : ∀ a ∈ ns.map (·.1), ∃ te, ev a = .int endV te) (hlen : os.length < 900) (hsz : xs.length ≤ sizeLine) (hso : is_.length < 900)
    (hd1 : (delK xs k0).length ≤ sizeLine) (hk : knd.is B.heap k key) (hp : atK xs k = none) (hmx : sz = mx) (hs0 : 0 < sz) :
    USets w B knd (n + 12) x dx dd tm dt it key v sz (sz - 1 + 1) mx u m xs is_ (putK (delK xs k0) k key v) (delK is_ k0) os (fun os' => Shed rv os' os) ev kv rv (upd rv a true) ns := by
  intro A fs s q t od os₁ R r hsh S₀ h
  have hl1 := hsh.length
  refine c770_fullG (n := n + 9) (pf := 1470) (ext := (tm, instC 1044 dt) :: (dt, timC m) :: (it, dictC knd B is_) :: (od, listC (os₁.map .ref)) :: nodeCells 1397 (itf ev kv rv) ns)
    (G := fun more' ext' => ∃ od' os', Shed rv os' os ∧ more' = [(S "_TimedCache__timer", .ref tm), (S "_TLRUCache__items", .ref it), (S "_TLRUCache__order", .ref od'), (S "_TLRUCache__ttu", .ref aEnd)] ∧ ext' = (tm, instC 1044 dt) :: (dt, timC m) :: (it, dictC knd B (delK is_ k0)) :: (od', listC (os'.map .ref)) :: nodeCells 1397 (itf ev kv (upd rv a true)) ns)
    c1488 T r S₀ ?_ (by kernel_rfl) (by kernel_rfl) (by walk_at "m_nin") (by walk_at "m_nin") (by simp) (fun more' ext' hg => ?_) hd1 hk hp hmx hs0 (fun s' t' more' ext' hg S' => ?_)
  · intro A' fs' s' q' t' R' r' S' h'
    exact c1470 (d := d) T r' S' h0 nd hl hp0 ha (fun a ha => hm a (hsh.mem ha)) he (by omega) hsz hso fun b od' os' s' t' hsh' S' => h' _ _ _ _ _ ⟨od', os', hsh'.trans hsh, rfl, rfl⟩ S'.tail
  · obtain ⟨_, _, _, rfl, _⟩ := hg
    simp
  · obtain ⟨od', os', hsh', rfl, rfl⟩ := hg
    exact h _ _ _ _ hsh' S'
/-- setitem of TLRU, the key is there -/
theorem c1434_there {P : List Addr → Prop} (T : Stat (KK w) B.heap) {n' : Nat} (hn' : n' ≤ n + 11) (r : Room (n + 12) fs A) (S₀ : St B fs (tlruC w knd B x dx dd tm dt it od sz mx t u m xs is_ os ev kv rv ns l) s) (h0 : 0 ≤ m) (nd : (ns.map (·.1)).Nodup) (hk : knd.is B.heap k key)
    (hset : USets w B knd n' x dx dd tm dt it key v sz sz' mx u (m + 1) xs is_ xs' is' os P ev kv rv rv' ns) (hq : atK is' k = some (lv, .ref a)) (ha : (a, d) ∈ ns) (hso2 : (delK is' k).length < 900) (hso3 : (putK (delK is' k) k key (.ref a)).length < 900)
    (hm : ∀ a ∈ os, a ∈ ns.map (·.1)) (hP : ∀ os', P os' → (∀ a ∈ os', a ∈ ns.map (·.1)) ∧ os'.length < 900) (he : ∀ a ∈ ns.map (·.1), ∃ te, ev a = .int endV te) (hlen : os.length < 900) (hso : is_.length < 900) (hso' : is'.length < 900)
    (h : ∀ s' t' te b d' od' os' os'', b ∉ ns.map (·.1) → P os' → os''.Perm (os' ++ [b]) → St B fs (tlruC w knd B x dx dd tm dt it od' sz' mx t' u m xs' (putK (putK (delK is' k) k key (.ref a)) k key (.ref b)) os'' (upd ev b (.int endV te)) (upd kv b key) (upd (upd rv' a true) b false) ((b, d') :: ns) l) s' → R (.ok (.ret .none)) s') :
    codeAny (model pw w) A (.call (.ref 1434) ⟨[.ref x, key, v], []⟩) R s := by
  refine callS (binds := [(S "self", .ref x), (S "key", key), (S "value", v), (S "cache_setitem", .ref 770)]) (names := [S "self", S "key", S "value", S "cache_setitem"]) (locs := [(S "cache_setitem", .ref 770), (S "value", v), (S "key", key), (S "self", .ref x)]) fnOk1434 T S₀ r
    (bndT T S₀ [.ref 770] rfl (by kernel_rfl) (by rfl) (by kernel_rfl)) rfl rfl (by kernel_rfl) (by decide +kernel) (by kernel_rfl) fun L s' r₁ S₁ => ?_
  refine wpAny_execs_cons ?_
  walk_at "m_twith"
  walk_at "m_wki"
  refine methodCall_KW ?_
  walk_at "m_wki"
  refine methFn (f := 1463) T (by assumption) (by walk_at "m_mem") (by walk_at "m_mem") (by kernel_rfl) ?_ (by walk_at "m_nin")
  refine callFn T (by kernel_rfl) ?_
  refine args_cons ?_
  walk_at "m_wki"
  refine args_nil ⟨⟨_, _, by assumption⟩, wpAny_call ?_⟩
  refine c1463 T (r₁.less (m := n + 9) (by omega)) (St.perm (by assumption) (by walk_at "m_pm")) hm he hlen hso fun od₁ os₁ v' s' hsh S' => ?_
  walk_at "m_wki"
  refine methodCall_KW ?_
  walk_at "m_wki"
  refine methUsual T (by assumption) (by walk_at "m_mem") (by walk_at "m_mem") (by kernel_rfl) ?_
  walk_at "m_wki"
  refine callFn T (by kernel_rfl) ?_
  refine args_cons ?_
  walk_at "m_wki"
  refine args_cons ?_
  walk_at "m_wki"
  refine args_cons ?_
  walk_at "m_wki"
  refine args_nil ⟨⟨_, _, by assumption⟩, wpAny_call ?_⟩
  refine cEnd T (r₁.less (m := n + 1) (by omega)) (by assumption) fun s' t' S' => ?_
  walk_at "m_wki"
  refine Call_ ?_
  walk_at "m_wki"
  refine callFn T (by kernel_rfl) ?_
  refine args_cons ?_
  walk_at "m_wki"
  refine args_cons ?_
  walk_at "m_wki"
  refine args_cons ?_
  walk_at "m_wki"
  refine args_nil ⟨⟨_, _, by assumption⟩, wpAny_call ?_⟩
  refine hset _ _ _ _ _ _ os₁ _ (r₁.less (m := n') (by omega)) hsh (St.perm (by assumption) (by walk_at "m_pm")) fun s' t' od₂ os₂ hP₂ S' => ?_
  walk_at "m_wki"
  walk_at "m_tout"
  walk_at "m_wki"
  refine methodCall_KW ?_
  walk_at "m_wki"
  refine dictGetM (d := it) (by assumption) (by walk_at "m_mem") ?_
  refine callB ?_
  refine args_cons ?_
  walk_at "m_wki"
  refine args_nil ?_
  refine dgetS (d := it) (by assumption) (by walk_at "m_mem") r₁.u1 hk fun s' S' => ?_
  rw [hq]
  dsimp only [Option.map_some, Option.getD_some]
  walk_at "m_wki"
  refine setRem T (by assumption) (by walk_at "m_updn") (by walk_at "m_mem") fun s' S' => ?_
  walk_at "m_wki"
  refine methodCall_KW ?_
  walk_at "m_wki"
  refine dictPopM (d := it) (by assumption) (by walk_at "m_mem") ?_
  refine callB ?_
  refine args_cons ?_
  walk_at "m_wki"
  refine args_nil ?_
  refine popS (d := it) (by assumption) (by walk_at "m_updt") r₁.u1 hk hq (fun s₄ S₄ => ?_) (by rw [sizeLine_eq]; omega)
  walk_at "m_wki"
  refine putS (d := it) (by assumption) (by walk_at "m_updt") r₁.u1 hk (fun s₅ S₅ => ?_) (by rw [sizeLine_eq]; omega)
  walk_at "m_wki"
  refine methodCall_KW ?_
  walk_at "m_wki"
  refine methCls (f := 1397) T (by assumption) (by kernel_rfl) fun s' S' => ?_
  refine callFn T (by kernel_rfl) ?_
  refine args_cons ?_
  walk_at "m_wki"
  refine args_cons ?_
  walk_at "m_wki"
  refine args_nil ⟨⟨_, _, by assumption⟩, wpAny_call ?_⟩
  refine makeS (fun d => slotC 1397 d #[]) T (by assumption) (by kernel_rfl) (fI := 1386) (by kernel_rfl) (by kernel_rfl) (fun _ => ⟨rfl, rfl, rfl, rfl⟩) fun b d' s' S' => ?_
  refine c1386 T (r₁.make.less (m := n + 2) (by omega)) S' fun s' S' => ⟨rfl, ?_⟩
  walk_at "m_wki"
  refine putS (d := it) (by assumption) (by walk_at "m_updt") r₁.u1 hk (fun s₅ S₅ => ?_) (by rw [sizeLine_eq]; exact Nat.le_of_lt (Nat.lt_trans hso3 (by decide)))
  walk_at "m_wki"
  rename_i S'
  have hb : b ∉ ns.map (·.1) := St.freshNode S' (by walk_at "m_pm")
  have hos := hP os₂ hP₂
  have S2 := stNewItem (d := d') (S'.perm (l' := (b, _) :: (d', _) :: (nodeCells 1397 (itf ev kv (upd rv' a true)) ns ++ _)) (by walk_at "m_pm")) hb
  refine Call_ ?_
  walk_at "m_wki"
  refine callB ?_
  refine args_cons ?_
  walk_at "m_wki"
  refine args_cons ?_
  walk_at "m_wki"
  refine args_nil ?_
  have hm2 : ∀ a ∈ os₂ ++ [b], a ∈ ((b, d') :: ns).map (·.1) := fun a ha => by
    rcases List.mem_append.mp ha with ha | ha
    · exact List.mem_cons_of_mem _ (hos.1 a ha)
    · rw [List.mem_singleton.mp ha]; exact List.mem_cons_self
  have he2 : ∀ (tk : Tok), ∀ a ∈ ((b, d') :: ns).map (·.1), ∃ te, upd ev b (.int endV tk) a = .int endV te := fun tk a ha => by
    by_cases q : a = b
    · exact ⟨tk, by subst q; exact upd_same⟩
    · rw [upd_ne q]
      rcases List.mem_cons.mp ha with ha | ha
      · exact (q ha).elim
      · exact he a ha
  refine hpushS (n := n + 3) (vs := os₂.map .ref) T (r₁.less (by omega)) (St.perm (l' := (od₂, _) :: (nodeCells 1397 _ ((b, d') :: ns) ++ _)) (by assumption) (by walk_at "m_pm")) ?_ (by rw [List.length_map]; omega) fun vs' s' p S' => ?_
  · rw [show os₂.map Value.ref ++ [.ref b] = (os₂ ++ [b]).map Value.ref by simp]
    exact items_ok hm2 (he2 _)
  · rw [show os₂.map Value.ref ++ [.ref b] = (os₂ ++ [b]).map Value.ref by simp] at p
    obtain ⟨os3, p3, rfl⟩ := perm_of_map p
    walk_at "m_wki"
    exact h _ _ _ b d' od₂ os₂ os3 hb hP₂ p3 (St.done L S' (by walk_at "m_pm"))
end

end
-- IF2
section
set_option maxRecDepth 100000
set_option maxHeartbeats 400000
inductive Kind
  | fifo | lru | ttl | tlru
def clsOf : Kind → Addr
  | .fifo => 917 | .lru => 982 | .ttl => 1270 | .tlru => 1488
def inF : Kind → Addr
  | .fifo => 784 | .lru => 784 | .ttl => 1199 | .tlru => 1418
def getF : Kind → Addr
  | .fifo => 763 | .lru => 942 | .ttl => 1207 | .tlru => 1426
def setF : Kind → Addr
  | .fifo => 892 | .lru => 950 | .ttl => 1215 | .tlru => 1434
def delF : Kind → Addr
  | .fifo => 900 | .lru => 958 | .ttl => 1223 | .tlru => 1442
def popF : Kind → Addr
  | .fifo => 907 | .lru => 965 | .ttl => 1260 | .tlru => 1470
def lenF : Kind → Addr
  | .fifo => 805 | .lru => 805 | .ttl => 1072 | .tlru => 1072
section
variable {K : Type} [DecidableEq K]
def touchS (kd : Kind) (st : List (K × Value)) (k : K) (v : Value) : List (K × Value) := match kd with
  | .fifo => st
  | _ => dropS st k ++ [(k, v)]
def roomS (pl : Nat) (st : List (K × Value)) : List (K × Value) := if st.length < pl then st else st.tail
/-- the ring of a TTL cache, as far as it is asked -/
structure TtlOk (ls : List (K × Value × Value)) (rt : Addr) (ns : List (Addr × Addr)) (ev : Addr → Value) (nx pv : Addr → Addr) : Prop where
  hnd : (ns.map (·.1)).Nodup
  hrt : rt ∈ ns.map (·.1)
  hnx : ∀ a ∈ ns.map (·.1), nx a ∈ ns.map (·.1)
  hpv : ∀ a ∈ ns.map (·.1), pv a ∈ ns.map (·.1)
  hev : ∀ a ∈ ns.map (·.1), a ≠ rt → ∃ te, ev a = .int endV te
  hlk : ∀ e ∈ ls, ∃ a, e.2.2 = .ref a ∧ a ∈ ns.map (·.1) ∧ a ≠ rt
structure TlruOk (is_ : List (K × Value × Value)) (os : List Addr) (ns : List (Addr × Addr)) (ev : Addr → Value) (cnt : Nat) : Prop where
  hnd : (ns.map (·.1)).Nodup
  hev : ∀ a ∈ ns.map (·.1), ∃ te, ev a = .int endV te
  hos : ∀ a ∈ os, a ∈ ns.map (·.1)
  hlen : os.length ≤ cnt
  hlk : ∀ e ∈ is_, ∃ a, e.2.2 = .ref a ∧ a ∈ ns.map (·.1)
theorem mem_put {xs : List (K × Value × Value)} {k : K} {kv v : Value} {e : K × Value × Value} (h : e ∈ putK xs k kv v) : e.2.2 = v ∨ e ∈ xs := by
  unfold putK at h
  split at h
  · obtain ⟨y, hy, rfl⟩ := List.mem_map.mp h
    unfold putAtK
    split
    · exact .inl rfl
    · exact .inr hy
  · rcases List.mem_append.mp h with h | h
    · exact .inr h
    · rw [List.mem_singleton.mp h]; exact .inl rfl
theorem mem_del {xs : List (K × Value × Value)} {k : K} {e : K × Value × Value} (h : e ∈ delK xs k) : e ∈ xs := (List.mem_filter.mp h).1
theorem mem_upd {f : Addr → Addr} {N : List Addr} {a v b : Addr} (hv : v ∈ N) (h : f b ∈ N) : upd f a v b ∈ N := by
  unfold upd; split
  · exact hv
  · exact h
theorem at_mem {xs : List (K × Value × Value)} {k : K} {p : Value × Value} (h : atK xs k = some p) : ∃ e ∈ xs, e.1 = k ∧ e.2 = p := by
  unfold atK at h
  obtain ⟨e, he, rfl⟩ := Option.map_eq_some_iff.mp h
  exact ⟨e, List.mem_of_find?_eq_some he, of_decide_eq_true (List.find?_some (p := fun x : K × Value × Value => decide (x.1 = k)) he), rfl⟩
namespace TtlOk
variable {ls : List (K × Value × Value)} {rt : Addr} {ns : List (Addr × Addr)} {ev : Addr → Value} {nx pv : Addr → Addr} {k : K} {kv : Value} {a b d : Addr} {e : Value}
theorem unlink (h : TtlOk ls rt ns ev nx pv) (ha : a ∈ ns.map (·.1)) : TtlOk (delK ls k) rt ns ev (upd nx (pv a) (nx a)) (upd pv (nx a) (pv a)) :=
  ⟨h.hnd, h.hrt, fun b hb => mem_upd (h.hnx a ha) (h.hnx b hb), fun b hb => mem_upd (h.hpv a ha) (h.hpv b hb), h.hev, fun e he => h.hlk e (mem_del he)⟩
theorem touch (h : TtlOk ls rt ns ev nx pv) (ha : a ∈ ns.map (·.1)) (hr : a ≠ rt) : TtlOk (putK (delK ls k) k kv (.ref a)) rt ns ev nx pv :=
  ⟨h.hnd, h.hrt, h.hnx, h.hpv, h.hev, fun e he => by
    rcases mem_put he with q | q
    · exact ⟨a, q, ha, hr⟩
    · exact h.hlk e (mem_del q)⟩
theorem insert (h : TtlOk ls rt ns ev nx pv) (hb : b ∉ ns.map (·.1)) {te : Tok} (he : e = .int endV te) :
    TtlOk (putK ls k kv (.ref b)) rt ((b, d) :: ns) (upd ev b e) (upd (upd nx b rt) (pv rt) b) (upd (upd pv b (pv rt)) rt b) := by
  have hm : ∀ c ∈ ns.map (·.1), c ∈ ((b, d) :: ns).map (·.1) := fun c hc => List.mem_cons_of_mem _ hc
  refine ⟨List.nodup_cons.mpr ⟨hb, h.hnd⟩, hm _ h.hrt, fun c hc => ?_, fun c hc => ?_, fun c hc hr => ?_, fun e' he' => ?_⟩
  · rcases List.mem_cons.mp hc with rfl | hc
    · refine mem_upd List.mem_cons_self ?_
      rw [upd_same]; exact hm _ h.hrt
    · exact mem_upd List.mem_cons_self (mem_upd (hm _ h.hrt) (hm _ (h.hnx c hc)))
  · rcases List.mem_cons.mp hc with rfl | hc
    · refine mem_upd List.mem_cons_self ?_
      rw [upd_same]; exact hm _ (h.hpv _ h.hrt)
    · exact mem_upd List.mem_cons_self (mem_upd (hm _ (h.hpv _ h.hrt)) (hm _ (h.hpv c hc)))
  · by_cases q : c = b
    · subst q; exact ⟨te, by rw [upd_same, he]⟩
    · rw [upd_ne q]
      rcases List.mem_cons.mp hc with hc | hc
      · exact (q hc).elim
      · exact h.hev c hc hr
  · rcases mem_put he' with q | q
    · exact ⟨b, q, List.mem_cons_self, fun e => hb (e ▸ h.hrt)⟩
    · obtain ⟨a, h1, h2, h3⟩ := h.hlk e' q
      exact ⟨a, h1, hm _ h2, h3⟩
theorem first (h : TtlOk ls rt ns ev nx pv) : ∃ dr da, (rt, dr) ∈ ns ∧ (nx rt, da) ∈ ns ∧ (nx rt ≠ rt → ∃ te, ev (nx rt) = .int endV te) := by
  obtain ⟨dr, hr⟩ := node_of h.hrt
  obtain ⟨da, ha⟩ := node_of (h.hnx _ h.hrt)
  exact ⟨dr, da, hr, ha, fun q => h.hev _ (h.hnx _ h.hrt) q⟩
theorem link (h : TtlOk ls rt ns ev nx pv) {p : Value × Value} (hp : atK ls k = some p) : ∃ a d dn dp te, p.2 = .ref a ∧ (a, d) ∈ ns ∧ (nx a, dn) ∈ ns ∧ (pv a, dp) ∈ ns ∧ ev a = .int endV te ∧ a ≠ rt := by
  obtain ⟨e, he, _, rfl⟩ := at_mem hp
  obtain ⟨a, h1, h2, h3⟩ := h.hlk e he
  obtain ⟨d, hd⟩ := node_of h2
  obtain ⟨dn, hdn⟩ := node_of (h.hnx a h2)
  obtain ⟨dp, hdp⟩ := node_of (h.hpv a h2)
  obtain ⟨te, hte⟩ := h.hev a h2 h3
  exact ⟨a, d, dn, dp, te, h1, hd, hdn, hdp, hte, h3⟩
end TtlOk
theorem TlruOk.link {is_ : List (K × Value × Value)} {os : List Addr} {ns : List (Addr × Addr)} {ev : Addr → Value} {cnt : Nat} {k : K} {p : Value × Value} (h : TlruOk is_ os ns ev cnt) (hp : atK is_ k = some p) : ∃ a d te, p.2 = .ref a ∧ (a, d) ∈ ns ∧ ev a = .int endV te := by
  obtain ⟨e, he, _, rfl⟩ := at_mem hp
  obtain ⟨a, h1, h2⟩ := h.hlk e he
  obtain ⟨d, hd⟩ := node_of h2
  obtain ⟨te, hte⟩ := h.hev a h2
  exact ⟨a, d, te, h1, hd, hte⟩
end
/-- the cells of a cache of a kind that answers as st -/
def CRep (w : World) (B : Shared) {K : Type} [DecidableEq K] (knd : AnyKind pw w K) (x : Addr) (pl cnt : Nat) (st : List (K × Value)) (c : Cells) (m : Int) (τ : Option Addr) : Kind → Prop
  | .fifo => ∃ dx dd od t u xs os, c = fifoC w knd B x dx dd od st.length pl t u xs os [] ∧ Agree xs st ∧ os.map (·.1) = st.map (·.1)
  | .lru => ∃ dx dd od t u xs os, c = lruC w knd B x dx dd od st.length pl t u xs os [] ∧ Agree xs st ∧ os.map (·.1) = st.map (·.1)
  | .ttl => ∃ dx dd tm dt rt ld t u tl xs ls ev kv nx pv ns, c = (x, instC 1270 dx) :: (dx, idC (ttlN dd tm rt ld st.length pl t u tl)) :: (dd, dictC knd B xs) :: (tm, instC 1044 dt) :: (dt, timC m) :: (ld, dictC knd B ls) :: nodeCells 1178 (lf ev kv nx pv) ns ∧
      Agree xs st ∧ ls.map (·.1) = st.map (·.1) ∧ TtlOk ls rt ns ev nx pv ∧ TtlMore knd B ls rt kv nx pv tm τ
  | .tlru => ∃ dx dd tm dt it od t u xs is_ os ev kv rv ns, c = (x, instC 1488 dx) :: (dx, idC (tlruN dd tm it od st.length pl t u)) :: (dd, dictC knd B xs) :: (tm, instC 1044 dt) :: (dt, timC m) :: (it, dictC knd B is_) :: (od, listC (os.map .ref)) :: nodeCells 1397 (itf ev kv rv) ns ∧
      Agree xs st ∧ is_.map (·.1) = st.map (·.1) ∧ TlruOk is_ os ns ev cnt ∧ TlruMore knd B is_ os kv rv tm τ
/-- a cache that stands in the heap -/
structure Cach (w : World) (B : Shared) {K : Type} [DecidableEq K] (knd : AnyKind pw w K) (kd : Kind) (x : Addr) (pl cnt : Nat) (st : List (K × Value)) (c : Cells) (m : Int := 0) (τ : Option Addr := none) : Prop where
  rep : CRep w B knd x pl cnt st c m τ kd
  nd : (st.map (·.1)).Nodup
  len : st.length ≤ pl
  pl : pl ≤ 100
section
variable {w : World} {A : Around} {E : Value → Shared → Prop} {B : Shared} {fs : List Env} {l c : Cells} {s : Shared} {R : Result → Shared → Prop} {n : Nat} {K : Type} [DecidableEq K] {knd : AnyKind pw w K} {kd : Kind}
  {x : Addr} {pl cnt : Nat} {st st' : List (K × Value)} {key kv v : Value} {k : K} {m : Int} {τ : Option Addr}
theorem Cach.inst (C : Cach w B knd kd x pl cnt st c m τ) : ∃ dx ns, (x, instC (clsOf kd) dx) ∈ c ∧ (dx, idC ns) ∈ c := by
  cases kd with
  | fifo => obtain ⟨dx, dd, od, t, u, xs, os, rfl, _⟩ := C.rep; exact ⟨dx, _, .head _, .tail _ (.head _)⟩
  | lru => obtain ⟨dx, dd, od, t, u, xs, os, rfl, _⟩ := C.rep; exact ⟨dx, _, .head _, .tail _ (.head _)⟩
  | ttl => obtain ⟨dx, dd, tm, dt, rt, ld, t, u, tl, xs, ls, ev, kv, nx, pv, ns, rfl, _⟩ := C.rep; exact ⟨dx, _, .head _, .tail _ (.head _)⟩
  | tlru => obtain ⟨dx, dd, tm, dt, it, od, t, u, xs, is_, os, ev, kv, rv, ns, rfl, _⟩ := C.rep; exact ⟨dx, _, .head _, .tail _ (.head _)⟩
theorem len_keys {xs : List (K × Value × Value)} (e : xs.map (·.1) = st.map (·.1)) : xs.length = st.length := by
  have := congrArg List.length e
  simpa using this
theorem has_key {xs : List (K × Value × Value)} (e : xs.map (·.1) = st.map (·.1)) (h : vAt st k = some v) : ∃ q, atK xs k = some q := by
  have : (atK xs k).isSome = true := atK_isSome.mpr (by rw [e]; exact vAt_isSome.mp (by rw [h]; rfl))
  exact Option.isSome_iff_exists.mp this
theorem no_key {xs : List (K × Value × Value)} (e : xs.map (·.1) = st.map (·.1)) (h : vAt st k = none) : atK xs k = none :=
  atK_eq_none.mpr (by rw [e]; exact vAt_eq_none.mp h)
/-- «key in cache» -/
theorem opIn (C : Cach w B knd kd x pl cnt st c m τ) (T : Stat (KK w) B.heap) (r : Room (n + 20) fs A) (S₀ : St B fs (c ++ l) s) (hk : knd.is B.heap k key)
    (h : ∀ s' c', Cach w B knd kd x pl cnt st c' m τ → St B fs (c' ++ l) s' → R (.ok (.ret (.bool (vAt st k).isSome))) s') (hm : 0 ≤ m := by first | decide | assumption) : codeAny (model pw w) A (.call (.ref (inF kd)) ⟨[.ref x, key], []⟩) R s := by
  have C0 := C
  obtain ⟨rep, nd, hlen, hpl⟩ := C
  cases kd with
  | fifo =>
    obtain ⟨dx, dd, od, t, u, xs, os, rfl, ag, ek⟩ := rep
    refine c784 (n := n) c917 T (r.less (by omega)) S₀ hk fun s' S' => ?_
    have := h _ _ C0 S'
    rwa [← ag.val, Option.isSome_map] at this
  | lru =>
    obtain ⟨dx, dd, od, t, u, xs, os, rfl, ag, ek⟩ := rep
    refine c784 (n := n) c982 T (r.less (by omega)) S₀ hk fun s' S' => ?_
    have := h _ _ C0 S'
    rwa [← ag.val, Option.isSome_map] at this
  | ttl =>
    obtain ⟨dx, dd, tm, dt, rt, ld, t, u, tl, xs, ls, ev, kv, nx, pv, ns, rfl, ag, ek, ok, om⟩ := rep
    cases hv : vAt st k with
    | none =>
      refine c1199_not (n := n) T (r.less (by omega)) S₀ hk (no_key ek hv) fun s' S' => ?_
      have := h _ _ C0 S'
      rwa [hv] at this
    | some v =>
      obtain ⟨⟨lv, p2⟩, hq⟩ := has_key ek hv
      obtain ⟨a, d, dn, dp, te, rfl, ha, hn, hp, he, _⟩ := ok.link hq
      refine c1199_there (n := n) T (r.less (by omega)) S₀ hk hq ha he fun s' S' => ?_
      have := h _ _ C0 S'
      rwa [hv] at this
  | tlru =>
    obtain ⟨dx, dd, tm, dt, it, od, t, u, xs, is_, os, ev, kv, rv, ns, rfl, ag, ek, ok, om⟩ := rep
    cases hv : vAt st k with
    | none =>
      refine c1418_not (n := n) T (r.less (by omega)) S₀ hk (no_key ek hv) fun s' S' => ?_
      have := h _ _ C0 S'
      rwa [hv] at this
    | some v =>
      obtain ⟨⟨lv, p2⟩, hq⟩ := has_key ek hv
      obtain ⟨a, d, te, rfl, ha, he⟩ := ok.link hq
      refine c1418_there (n := n) T (r.less (by omega)) S₀ hk hq ha he fun s' S' => ?_
      have := h _ _ C0 S'
      rwa [hv] at this
end

end
-- IF3
section
set_option maxRecDepth 100000
set_option maxHeartbeats 400000
section
variable {K : Type} [DecidableEq K] {xs : List (K × Value × Value)} {st : List (K × Value)} {k : K} {kv v u : Value}
theorem small {n : Nat} (h : n ≤ 101) : n ≤ sizeLine := by rw [sizeLine_eq]; omega
theorem keys_touch (e : xs.map (·.1) = st.map (·.1)) : (putK (delK xs k) k kv u).map (·.1) = (dropS st k ++ [(k, v)]).map (·.1) := by
  have hn : atK (delK xs k) k = none := by rw [atK_del, if_pos rfl]
  rw [keys_put_new hn, List.map_append, keys_del, keys_drop, e]; rfl
theorem keys_new (e : xs.map (·.1) = st.map (·.1)) (h : vAt st k = none) : (putK xs k kv u).map (·.1) = (st ++ [(k, v)]).map (·.1) := by
  rw [keys_put_new (no_key e h), List.map_append, e]; rfl
theorem keys_del_head {k0 : K} {v0 : Value} {st' : List (K × Value)} (e : xs.map (·.1) = ((k0, v0) :: st').map (·.1)) (nd : (((k0, v0) :: st').map (·.1)).Nodup) : (delK xs k0).map (·.1) = st'.map (·.1) := by
  rw [keys_del, e, ← keys_drop, drop_head nd]
theorem head_of {k0 : K} {v0 : Value} {st' : List (K × Value)} (e : xs.map (·.1) = ((k0, v0) :: st').map (·.1)) : ∃ kv u xs', xs = (k0, kv, u) :: xs' := by
  cases xs with
  | nil => cases e
  | cons y r =>
    obtain ⟨a, b, c⟩ := y
    rw [List.map_cons, List.map_cons] at e
    obtain ⟨rfl, _⟩ := List.cons.inj e
    exact ⟨b, c, r, rfl⟩
theorem nd_snoc (nd : (st.map (·.1)).Nodup) (h : k ∉ st.map (·.1)) : ((st ++ [(k, v)]).map (·.1)).Nodup := by
  rw [List.map_append, List.nodup_append]
  exact ⟨nd, by simp, fun a ha b hb => by
    simp only [List.map_cons, List.map_nil, List.mem_singleton] at hb
    subst hb
    exact fun e => h (e ▸ ha)⟩
theorem nd_tail {k0 : K} {v0 : Value} {st' : List (K × Value)} (nd : (((k0, v0) :: st').map (·.1)).Nodup) : (st'.map (·.1)).Nodup := (List.nodup_cons.mp nd).2
theorem Agree.head {k0 : K} {v0 : Value} {st' : List (K × Value)} (h : Agree xs ((k0, v0) :: st')) (nx : (xs.map (·.1)).Nodup) (nd : (((k0, v0) :: st').map (·.1)).Nodup) : Agree (delK xs k0) st' := by
  have := h.del nx nd (k := k0) List.mem_cons_self
  rwa [drop_head nd] at this
end
section
variable {w : World} {A : Around} {E : Value → Shared → Prop} {B : Shared} {fs : List Env} {l c : Cells} {s : Shared} {R : Result → Shared → Prop} {n : Nat} {K : Type} [DecidableEq K] {knd : AnyKind pw w K} {kd : Kind}
  {x : Addr} {pl cnt : Nat} {st st' : List (K × Value)} {key kv v : Value} {k : K} {m : Int} {τ : Option Addr}
theorem len_touch (C : (st.map (·.1)).Nodup) (hv : vAt st k = some v) : (dropS st k ++ [(k, v)]).length = st.length := by
  have := len_drop C (vAt_isSome.mp (by rw [hv]; rfl))
  rw [List.length_append, List.length_singleton]; omega
theorem nd_touch (nd : (st.map (·.1)).Nodup) : ((dropS st k ++ [(k, v)]).map (·.1)).Nodup := nd_snoc (nodup_drop nd) not_mem_drop
/-- «cache[key]», the key is there -/
theorem opGet (C : Cach w B knd kd x pl cnt st c m τ) (T : Stat (KK w) B.heap) (r : Room (n + 20) fs A) (S₀ : St B fs (c ++ l) s) (hk : knd.is B.heap k key) (hv : vAt st k = some v)
    (h : ∀ s' c', Cach w B knd kd x pl cnt (touchS kd st k v) c' m τ → St B fs (c' ++ l) s' → R (.ok (.ret v)) s') (hm : 0 ≤ m := by first | decide | assumption) : codeAny (model pw w) A (.call (.ref (getF kd)) ⟨[.ref x, key], []⟩) R s := by
  have C0 := C
  obtain ⟨rep, nd, hlen, hpl⟩ := C
  have e := len_touch nd hv
  have nd' := nd_touch (k := k) (v := v) nd
  cases kd with
  | fifo =>
    obtain ⟨dx, dd, od, t, u, xs, os, rfl, ag, ek⟩ := rep
    obtain ⟨kv, hp⟩ := ag.yes hv
    exact c763 (n := n) c917 T (r.less (by omega)) S₀ hk hp fun s' S' => h _ _ C0 S'
  | lru =>
    obtain ⟨dx, dd, od, t, u, xs, os, rfl, ag, ek⟩ := rep
    obtain ⟨kv, hp⟩ := ag.yes hv
    obtain ⟨q, hq⟩ := has_key ek hv
    have lo := len_keys ek
    have ld : (delK os k).length ≤ 101 := by have := List.length_filter_le (fun x : K × Value × Value => !decide (x.1 = k)) os; unfold delK; omega
    exact c942 (n := n) T (r.less (by omega)) S₀ (small (by omega)) (small ld) hk hp hq fun s' S' => h _ _ ⟨⟨dx, dd, od, t, u, xs, _, rfl, ag.touch nd hv, keys_touch ek⟩, nd', by show (dropS st k ++ [(k, v)]).length ≤ pl; omega, hpl⟩ (by show St B fs (lruC w knd B x dx dd od ((dropS st k ++ [(k, v)]).length : Nat) pl t u xs _ l) s'; rw [e]; exact S')
  | ttl =>
    obtain ⟨dx, dd, tm, dt, rt, ld, t, u, tl, xs, ls, ev, kv, nx, pv, ns, rfl, ag, ek, ok, om⟩ := rep
    obtain ⟨kv', hp⟩ := ag.yes hv
    obtain ⟨⟨lv, p2⟩, hq⟩ := has_key ek hv
    obtain ⟨a, d, dn, dp, te, rfl, ha, hn, hpv, he, hr⟩ := ok.link hq
    have lo := len_keys ek
    have ld' : (delK ls k).length ≤ 101 := by have := List.length_filter_le (fun x : K × Value × Value => !decide (x.1 = k)) ls; unfold delK; omega
    exact c1207 (n := n) T (r.less (by omega)) S₀ hk hp hq ha he (small (by omega)) (small ld') fun s' S' => h _ _ ⟨⟨dx, dd, tm, dt, rt, ld, t, u, tl, xs, _, ev, kv, nx, pv, ns, rfl, ag.touch nd hv, keys_touch ek, ok.touch (List.mem_map.mpr ⟨_, ha, rfl⟩) hr, om.touch (by rw [ek]; exact nd) hq⟩, nd', by show (dropS st k ++ [(k, v)]).length ≤ pl; omega, hpl⟩
      (by show St B fs (ttlC w knd B x dx dd tm dt rt ld ((dropS st k ++ [(k, v)]).length : Nat) pl t u tl m xs _ ev kv nx pv ns l) s'; rw [e]; exact S')
  | tlru =>
    obtain ⟨dx, dd, tm, dt, it, od, t, u, xs, is_, os, ev, kv, rv, ns, rfl, ag, ek, ok, om⟩ := rep
    obtain ⟨kv', hp⟩ := ag.yes hv
    obtain ⟨⟨lv, p2⟩, hq⟩ := has_key ek hv
    obtain ⟨a, d, te, rfl, ha, he⟩ := ok.link hq
    have lo := len_keys ek
    have ld' : (delK is_ k).length ≤ 101 := by have := List.length_filter_le (fun x : K × Value × Value => !decide (x.1 = k)) is_; unfold delK; omega
    exact c1426 (n := n) T (r.less (by omega)) S₀ hk hp hq ha he (small (by omega)) (small ld') fun s' S' => h _ _ ⟨⟨dx, dd, tm, dt, it, od, t, u, xs, _, os, ev, kv, rv, ns, rfl, ag.touch nd hv, keys_touch ek, ⟨ok.hnd, ok.hev, ok.hos, ok.hlen, fun e he => by
        rcases mem_put he with q | q
        · exact ⟨a, q, List.mem_map.mpr ⟨_, ha, rfl⟩⟩
        · exact ok.hlk e (mem_del q)⟩, om.touch (by rw [ek]; exact nd) hq⟩, nd', by show (dropS st k ++ [(k, v)]).length ≤ pl; omega, hpl⟩
      (by show St B fs (tlruC w knd B x dx dd tm dt it od ((dropS st k ++ [(k, v)]).length : Nat) pl t u m xs _ os ev kv rv ns l) s'; rw [e]; exact S')
/-- «len(cache)» -/
theorem opLen (C : Cach w B knd kd x pl cnt st c m τ) (hc : cnt < 800) (T : Stat (KK w) B.heap) (r : Room (n + 20) fs A) (S₀ : St B fs (c ++ l) s)
    (h : ∀ s' c' t, Cach w B knd kd x pl cnt st c' m τ → St B fs (c' ++ l) s' → R (.ok (.ret (.int st.length t))) s') (hm : 0 ≤ m := by first | decide | assumption) : codeAny (model pw w) A (.call (.ref (lenF kd)) ⟨[.ref x], []⟩) R s := by
  have C0 := C
  obtain ⟨rep, nd, hlen, hpl⟩ := C
  cases kd with
  | fifo =>
    obtain ⟨dx, dd, od, t, u, xs, os, rfl, ag, ek⟩ := rep
    have := ag.len
    exact c805 (n := n) c917 T (r.less (by omega)) S₀ (small (by omega)) fun s' t' S' => by rw [ag.len]; exact h _ _ _ C0 S'
  | lru =>
    obtain ⟨dx, dd, od, t, u, xs, os, rfl, ag, ek⟩ := rep
    have := ag.len
    exact c805 (n := n) c982 T (r.less (by omega)) S₀ (small (by omega)) fun s' t' S' => by rw [ag.len]; exact h _ _ _ C0 S'
  | ttl =>
    obtain ⟨dx, dd, tm, dt, rt, ld, t, u, tl, xs, ls, ev, kv, nx, pv, ns, rfl, ag, ek, ok, om⟩ := rep
    have := ag.len
    obtain ⟨dr, da, h1, h2, h3⟩ := ok.first
    exact c1072_ttl (n := n) T (r.less (by omega)) S₀ (by omega) h1 h2 h3 (small (by omega)) fun s' t' S' => by rw [ag.len]; exact h _ _ _ C0 S'
  | tlru =>
    obtain ⟨dx, dd, tm, dt, it, od, t, u, xs, is_, os, ev, kv, rv, ns, rfl, ag, ek, ok, om⟩ := rep
    have := ag.len
    have := len_keys ek
    have := ok.hlen
    exact c1072_tlru (n := n) T (r.less (by omega)) S₀ (by omega) ok.hos ok.hev (by omega) (small (by omega)) (by omega) fun od' os' s' t' hsh S' => by
      rw [ag.len]
      have := hsh.length
      exact h _ _ _ ⟨⟨dx, dd, tm, dt, it, od', t, u, xs, is_, os', ev, kv, rv, ns, rfl, ag, ek, ⟨ok.hnd, ok.hev, fun a ha => ok.hos a (hsh.mem ha), by omega, ok.hlk⟩, om.shed hsh⟩, nd, hlen, hpl⟩ S'
end

end
-- IF4
section
set_option maxRecDepth 100000
set_option maxHeartbeats 800000
section
variable {w : World} {A : Around} {E : Value → Shared → Prop} {B : Shared} {fs : List Env} {l c : Cells} {s : Shared} {R : Result → Shared → Prop} {n : Nat} {K : Type} [DecidableEq K] {knd : AnyKind pw w K} {kd : Kind}
  {x : Addr} {pl cnt : Nat} {st st' : List (K × Value)} {key kv v : Value} {k : K} {m : Int} {τ : Option Addr}
theorem St.dictNd {d : Addr} {xs : List (K × Value × Value)} (S : St B fs l s) (m : (d, dictC knd B xs) ∈ l) : (xs.map (·.1)).Nodup := by
  obtain ⟨o, ho, es, ep, h1, h2, h3, h4, h5⟩ := S.has _ m
  exact h5
theorem roomS_room (h : st.length < pl) : roomS pl st = st := if_pos h
theorem roomS_full {k0 : K} {v0 : Value} (h : ((k0, v0) :: st').length = pl) : roomS pl ((k0, v0) :: st') = st' := if_neg (by omega)
theorem not_mem_tail {k0 : K} {v0 : Value} {st' : List (K × Value)} (h : vAt ((k0, v0) :: st') k = none) : k ∉ st'.map (·.1) := fun hm => vAt_eq_none.mp h (List.mem_cons_of_mem _ hm)
theorem TlruOk.insert {is_ : List (K × Value × Value)} {os os' os'' : List Addr} {ns : List (Addr × Addr)} {ev : Addr → Value} {rv : Addr → Bool} {kv : Value} {b d : Addr} {te : Tok} (ok : TlruOk is_ os ns ev cnt) (hb : b ∉ ns.map (·.1)) (hsh : Shed rv os' os) (p : os''.Perm (os' ++ [b])) :
    TlruOk (putK is_ k kv (.ref b)) os'' ((b, d) :: ns) (upd ev b (.int endV te)) (cnt + 1) where
  hnd := List.nodup_cons.mpr ⟨hb, ok.hnd⟩
  hev := fun a ha => by
    by_cases q : a = b
    · subst q; exact ⟨te, upd_same⟩
    · rw [upd_ne q]
      rcases List.mem_cons.mp ha with ha | ha
      · exact (q ha).elim
      · exact ok.hev a ha
  hos := fun a ha => by
    rcases List.mem_append.mp (p.mem_iff.mp ha) with ha | ha
    · exact List.mem_cons_of_mem _ (ok.hos a (hsh.mem ha))
    · rw [List.mem_singleton.mp ha]; exact List.mem_cons_self
  hlen := by have := p.length_eq; have := hsh.length; have := ok.hlen; rw [List.length_append, List.length_singleton] at *; omega
  hlk := fun e he => by
    rcases mem_put he with q | q
    · exact ⟨b, q, List.mem_cons_self⟩
    · obtain ⟨a, q1, q2⟩ := ok.hlk e q
      exact ⟨a, q1, List.mem_cons_of_mem _ q2⟩
theorem TlruOk.shed {is_ : List (K × Value × Value)} {os os' : List Addr} {ns : List (Addr × Addr)} {ev : Addr → Value} {rv : Addr → Bool} (ok : TlruOk is_ os ns ev cnt) (hsh : Shed rv os' os) : TlruOk (delK is_ k) os' ns ev cnt :=
  ⟨ok.hnd, ok.hev, fun a ha => ok.hos a (hsh.mem ha), by have := hsh.length; have := ok.hlen; omega, fun e he => ok.hlk e (mem_del he)⟩
/-- «cache[key] = value», a new key -/
theorem opSet (C : Cach w B knd kd x pl cnt st c m τ) (hc : cnt < 800) (h0 : 0 < pl) (T : Stat (KK w) B.heap) (r : Room (n + 20) fs A) (S₀ : St B fs (c ++ l) s) (hk : knd.is B.heap k key) (hv : vAt st k = none)
    (h : ∀ s' c', Cach w B knd kd x pl (cnt + 1) (roomS pl st ++ [(k, v)]) c' m τ → St B fs (c' ++ l) s' → R (.ok (.ret .none)) s') (hm : 0 ≤ m := by first | decide | assumption) : codeAny (model pw w) A (.call (.ref (setF kd)) ⟨[.ref x, key, v], []⟩) R s := by
  obtain ⟨rep, nd, hlen, hpl⟩ := C
  have hnk := vAt_eq_none.mp hv
  by_cases hroom : st.length < pl
  · rw [roomS_room hroom] at h
    have nd' := nd_snoc (v := v) nd hnk
    have el : ((st ++ [(k, v)]).length : Int) = (st.length : Int) + 1 := by simp
    have el' : (st ++ [(k, v)]).length ≤ pl := by simp; omega
    cases kd with
    | fifo =>
      obtain ⟨dx, dd, od, t, u, xs, os, rfl, ag, ek⟩ := rep
      have := ag.len
      have := len_keys ek
      exact c892_new (n := n) T (r.less (by omega)) S₀ (small (by omega)) (small (by omega)) hk (ag.no hv) (no_key ek hv) (by omega) (by omega) fun s' t' S' =>
        h _ _ ⟨⟨dx, dd, od, t', u, _, _, rfl, ag.new hnk, keys_new ek hv⟩, nd', el', hpl⟩ (by show St B fs (fifoC w knd B x dx dd od ((st ++ [(k, v)]).length : Nat) pl t' u _ _ l) s'; rw [el]; exact S')
    | lru =>
      obtain ⟨dx, dd, od, t, u, xs, os, rfl, ag, ek⟩ := rep
      have := ag.len
      have := len_keys ek
      exact c950_new (n := n) T (r.less (by omega)) S₀ (small (by omega)) (small (by omega)) hk (ag.no hv) (no_key ek hv) (by omega) (by omega) fun s' t' S' =>
        h _ _ ⟨⟨dx, dd, od, t', u, _, _, rfl, ag.new hnk, keys_new ek hv⟩, nd', el', hpl⟩ (by show St B fs (lruC w knd B x dx dd od ((st ++ [(k, v)]).length : Nat) pl t' u _ _ l) s'; rw [el]; exact S')
    | ttl =>
      obtain ⟨dx, dd, tm, dt, rt, ld, t, u, tl, xs, ls, ev, kv, nx, pv, ns, rfl, ag, ek, ok, om⟩ := rep
      have := ag.len
      have := len_keys ek
      obtain ⟨dr, da, h1, h2, h3⟩ := ok.first
      obtain ⟨dp, h4⟩ := node_of (ok.hpv _ ok.hrt)
      exact c1215_new (n := n) T (n' := n + 3) (by omega) (r.less (by omega)) S₀ (by omega) ok.hnd hk (tsets_room T (small (by omega)) hk (ag.no hv) (by omega) (by omega)) (no_key ek hv) h1 h2 h4 h3 (small (by omega)) fun s' t' te a d hb S' =>
        h _ _ ⟨⟨dx, dd, tm, dt, rt, ld, t', u, tl, _, _, _, _, _, _, _, rfl, ag.new hnk, keys_new ek hv, ok.insert hb rfl, om.insert (no_key ek hv) hk hb ok.hrt ok.hlk⟩, nd', el', hpl⟩ (by show St B fs (ttlC w knd B x dx dd tm dt rt ld ((st ++ [(k, v)]).length : Nat) pl t' u tl m _ _ _ _ _ _ _ l) s'; rw [el]; exact S')
    | tlru =>
      obtain ⟨dx, dd, tm, dt, it, od, t, u, xs, is_, os, ev, kv, rv, ns, rfl, ag, ek, ok, om⟩ := rep
      have := ag.len
      have := len_keys ek
      have hlo := ok.hlen
      exact c1434_new (n := n) T (n' := n + 3) (by omega) (r.less (by omega)) S₀ (by omega) ok.hnd hk (usets_room T (small (by omega)) hk (ag.no hv) (by omega) (by omega)) (no_key ek hv) ok.hos (fun os' hsh => ⟨fun a ha => ok.hos a (hsh.mem ha), by have := hsh.length; omega⟩) ok.hev (by omega) (by omega) (by omega) fun s' t' te b d od' os' os'' hb hsh p S' =>
        h _ _ ⟨⟨dx, dd, tm, dt, it, od', t', u, _, _, os'', _, _, _, _, rfl, ag.new hnk, keys_new ek hv, ok.insert hb hsh p, (om.shed hsh).insert (no_key ek hv) hk p hb (fun a ha => ok.hos a (hsh.mem ha)) ok.hlk⟩, nd', el', hpl⟩ (by show St B fs (tlruC w knd B x dx dd tm dt it od' ((st ++ [(k, v)]).length : Nat) pl t' u m _ _ _ _ _ _ _ l) s'; rw [el]; exact S')
  · have hfull : st.length = pl := by omega
    obtain ⟨k0, v0, st', rfl⟩ : ∃ k0 v0 st', st = (k0, v0) :: st' := by
      cases st with
      | nil => simp at hfull; omega
      | cons y r => exact ⟨y.1, y.2, r, rfl⟩
    rw [roomS_full hfull] at h
    have hnt := not_mem_tail hv
    have nd' := nd_snoc (v := v) (nd_tail nd) hnt
    have el : ((st' ++ [(k, v)]).length : Int) = (((k0, v0) :: st').length : Int) - 1 + 1 := by simp only [List.length_append, List.length_singleton, List.length_cons, List.length_nil]; omega
    have el' : (st' ++ [(k, v)]).length ≤ pl := by simp only [List.length_append, List.length_singleton, List.length_cons, List.length_nil] at hfull ⊢; omega
    have e0 : vAt ((k0, v0) :: st') k0 = some v0 := vAt_head
    have hv' : vAt st' k = none := vAt_eq_none.mpr hnt
    cases kd with
    | fifo =>
      obtain ⟨dx, dd, od, t, u, xs, os, rfl, ag, ek⟩ := rep
      have := ag.len
      have := len_keys ek
      obtain ⟨kv0, hp0⟩ := ag.yes e0
      obtain ⟨kv1, ov, os', ho⟩ := head_of ek
      have ag' := ag.head (St.dictNd (knd := knd) (xs := xs) (d := dd) S₀ (.tail _ (.tail _ (.head _)))) nd
      have ek' := keys_del_head ek nd
      have l1 := ag'.len
      have l2 := len_keys ek'
      simp only [List.length_cons] at *
      exact c892_full (n := n) T (r.less (by omega)) S₀ (small (by omega)) (small (by omega)) ho hp0 (small (by omega)) (small (by omega)) hk (ag.no hv) (no_key ek' hv') (by omega) (by omega) fun s' t' S' =>
        h _ _ ⟨⟨dx, dd, od, t', u, _, _, rfl, ag'.new hnt, keys_new ek' hv'⟩, nd', el', hpl⟩ (by show St B fs (fifoC w knd B x dx dd od ((st' ++ [(k, v)]).length : Nat) pl t' u _ _ l) s'; rw [el]; exact S')
    | lru =>
      obtain ⟨dx, dd, od, t, u, xs, os, rfl, ag, ek⟩ := rep
      have := ag.len
      have := len_keys ek
      obtain ⟨kv0, hp0⟩ := ag.yes e0
      obtain ⟨kv1, ov, os', ho⟩ := head_of ek
      have ag' := ag.head (St.dictNd (knd := knd) (xs := xs) (d := dd) S₀ (.tail _ (.tail _ (.head _)))) nd
      have ek' := keys_del_head ek nd
      have l1 := ag'.len
      have l2 := len_keys ek'
      simp only [List.length_cons] at *
      exact c950_full (n := n) T (r.less (by omega)) S₀ (small (by omega)) (small (by omega)) ho hp0 (small (by omega)) (small (by omega)) hk (ag.no hv) (no_key ek' hv') (by omega) (by omega) fun s' t' S' =>
        h _ _ ⟨⟨dx, dd, od, t', u, _, _, rfl, ag'.new hnt, keys_new ek' hv'⟩, nd', el', hpl⟩ (by show St B fs (lruC w knd B x dx dd od ((st' ++ [(k, v)]).length : Nat) pl t' u _ _ l) s'; rw [el]; exact S')
    | ttl =>
      obtain ⟨dx, dd, tm, dt, rt, ld, t, u, tl, xs, ls, ev, kv, nx, pv, ns, rfl, ag, ek, ok, om⟩ := rep
      have := ag.len
      have := len_keys ek
      obtain ⟨dr, da, h1, h2, h3⟩ := ok.first
      obtain ⟨kv0, hp0⟩ := ag.yes e0
      obtain ⟨kv1, ov, ls', ho⟩ := head_of ek
      have hq0 : atK ls k0 = some (kv1, ov) := by rw [ho]; simp [atK]
      obtain ⟨a, d, dn, dpa, te, rfl, ha, hn, hpa, he, hra⟩ := ok.link hq0
      have ok' := ok.unlink (k := k0) (List.mem_map.mpr ⟨_, ha, rfl⟩)
      obtain ⟨dp, h4⟩ := node_of (ok'.hpv _ ok'.hrt)
      have ag' := ag.head (St.dictNd (knd := knd) (xs := xs) (d := dd) S₀ (.tail _ (.tail _ (.head _)))) nd
      have ek' := keys_del_head ek nd
      have l1 := ag'.len
      have l2 := len_keys ek'
      simp only [List.length_cons] at *
      exact c1215_new (n := n + 4) T (n' := n + 9) (by omega) (r.less (by omega)) S₀ (by omega) ok.hnd hk (tsets_full (n := n) (d := d) T (by omega) ok.hnd ho hp0 ha hn hpa he h1 h2 h3 (small (by omega)) (small (by omega)) (small (by omega)) hk (ag.no hv) (by omega) (by omega)) (no_key ek' hv') h1 h2 h4 h3 (small (by omega)) fun s' t' te b d hb S' =>
        h _ _ ⟨⟨dx, dd, tm, dt, rt, ld, t', u, tl, _, _, _, _, _, _, _, rfl, ag'.new hnt, keys_new ek' hv', ok'.insert hb rfl, (om.unlink (by rw [ek]; exact nd) hq0).insert (no_key ek' hv') hk hb ok'.hrt ok'.hlk⟩, nd', el', hpl⟩ (by show St B fs (ttlC w knd B x dx dd tm dt rt ld ((st' ++ [(k, v)]).length : Nat) pl t' u tl m _ _ _ _ _ _ _ l) s'; rw [el]; exact S')
    | tlru =>
      obtain ⟨dx, dd, tm, dt, it, od, t, u, xs, is_, os, ev, kv, rv, ns, rfl, ag, ek, ok, om⟩ := rep
      have := ag.len
      have := len_keys ek
      have hlo := ok.hlen
      obtain ⟨kv0, hp0⟩ := ag.yes e0
      obtain ⟨kv1, ov, is', ho⟩ := head_of ek
      have hq0 : atK is_ k0 = some (kv1, ov) := by rw [ho]; simp [atK]
      obtain ⟨a, d, te, rfl, ha, he⟩ := ok.link hq0
      have ag' := ag.head (St.dictNd (knd := knd) (xs := xs) (d := dd) S₀ (.tail _ (.tail _ (.head _)))) nd
      have ek' := keys_del_head ek nd
      have l1 := ag'.len
      have l2 := len_keys ek'
      simp only [List.length_cons] at *
      exact c1434_new (n := n + 1) T (n' := n + 12) (by omega) (r.less (by omega)) S₀ (by omega) ok.hnd hk (usets_full (n := n) (d := d) T (by omega) ok.hnd ho hp0 ha ok.hos ok.hev (by omega) (small (by omega)) (by omega) (small (by omega)) hk (ag.no hv) (by omega) (by omega)) (no_key ek' hv') ok.hos (fun os' hsh => ⟨fun a ha => ok.hos a (hsh.mem ha), by have := hsh.length; omega⟩) ok.hev (by omega) (by omega) (by omega) fun s' t' te b d od' os' os'' hb hsh p S' =>
        h _ _ ⟨⟨dx, dd, tm, dt, it, od', t', u, _, _, os'', _, _, _, _, rfl, ag'.new hnt, keys_new ek' hv', (ok.shed hsh).insert hb (Shed.refl (rv := rv)) p, ((om.shed hsh).del (by rw [ek]; exact nd) hq0).insert (no_key ek' hv') hk p hb (fun a ha => ok.hos a (hsh.mem ha)) fun e he => ok.hlk e (mem_del he)⟩, nd', el', hpl⟩ (by show St B fs (tlruC w knd B x dx dd tm dt it od' ((st' ++ [(k, v)]).length : Nat) pl t' u m _ _ _ _ _ _ _ l) s'; rw [el]; exact S')
end

end
-- IF5
section
set_option maxRecDepth 100000
set_option maxHeartbeats 800000
section
variable {w : World} {A : Around} {E : Value → Shared → Prop} {B : Shared} {fs : List Env} {l c : Cells} {s : Shared} {R : Result → Shared → Prop} {n : Nat} {K : Type} [DecidableEq K] {knd : AnyKind pw w K} {kd : Kind}
  {x : Addr} {pl cnt : Nat} {st st' : List (K × Value)} {key kv v : Value} {k : K} {m : Int} {τ : Option Addr}
abbrev pairC (a b : Value) : Cell := objC { cls := .type "tuple", data := .seq #[a, b] }
/-- «cache.popitem()» of a cache that is not empty -/
theorem opPop {k0 : K} {v0 : Value} (C : Cach w B knd kd x pl cnt ((k0, v0) :: st') c m τ) (hc : cnt < 800) (T : Stat (KK w) B.heap) (r : Room (n + 20) fs A) (S₀ : St B fs (c ++ l) s)
    (h : ∀ b kv s' c', knd.is B.heap k0 kv → Cach w B knd kd x pl cnt st' c' m τ → St B fs ((b, pairC kv v0) :: (c' ++ l)) s' → R (.ok (.ret (.ref b))) s') (hm : 0 ≤ m := by first | decide | assumption) : codeAny (model pw w) A (.call (.ref (popF kd)) ⟨[.ref x], []⟩) R s := by
  obtain ⟨rep, nd, hlen, hpl⟩ := C
  have nd' := nd_tail nd
  have e0 : vAt ((k0, v0) :: st') k0 = some v0 := vAt_head
  have el : (st'.length : Int) = (((k0, v0) :: st').length : Int) - 1 := by simp only [List.length_cons]; omega
  have el' : st'.length ≤ pl := by simp only [List.length_cons] at hlen; omega
  cases kd with
  | fifo =>
    obtain ⟨dx, dd, od, t, u, xs, os, rfl, ag, ek⟩ := rep
    have := ag.len
    have := len_keys ek
    obtain ⟨kv0, hp0⟩ := ag.yes e0
    obtain ⟨kv1, ov, os', ho⟩ := head_of ek
    have ag' := ag.head (St.dictNd (knd := knd) (xs := xs) (d := dd) S₀ (.tail _ (.tail _ (.head _)))) nd
    have hkey : knd.is B.heap k0 kv1 := S₀.keys (d := od) (.tail _ (.tail _ (.tail _ (.head _)))) (k0, kv1, ov) (by rw [ho]; exact List.mem_cons_self)
    exact c907 (n := n) T (r.less (by omega)) S₀ (small (by omega)) (small (by omega)) ho hp0 fun b s' t' S' => h b kv1 _ _ hkey ⟨⟨dx, dd, od, t', u, _, _, rfl, ag', keys_del_head ek nd⟩, nd', el', hpl⟩
      (by show St B fs ((b, _) :: fifoC w knd B x dx dd od (st'.length : Nat) pl t' u _ _ l) s'; rw [el]; exact S')
  | lru =>
    obtain ⟨dx, dd, od, t, u, xs, os, rfl, ag, ek⟩ := rep
    have := ag.len
    have := len_keys ek
    obtain ⟨kv0, hp0⟩ := ag.yes e0
    obtain ⟨kv1, ov, os', ho⟩ := head_of ek
    have ag' := ag.head (St.dictNd (knd := knd) (xs := xs) (d := dd) S₀ (.tail _ (.tail _ (.head _)))) nd
    have hkey : knd.is B.heap k0 kv1 := S₀.keys (d := od) (.tail _ (.tail _ (.tail _ (.head _)))) (k0, kv1, ov) (by rw [ho]; exact List.mem_cons_self)
    exact c965 (n := n) T (r.less (by omega)) S₀ (small (by omega)) (small (by omega)) ho hp0 fun b s' t' S' => h b kv1 _ _ hkey ⟨⟨dx, dd, od, t', u, _, _, rfl, ag', keys_del_head ek nd⟩, nd', el', hpl⟩
      (by show St B fs ((b, _) :: lruC w knd B x dx dd od (st'.length : Nat) pl t' u _ _ l) s'; rw [el]; exact S')
  | ttl =>
    obtain ⟨dx, dd, tm, dt, rt, ld, t, u, tl, xs, ls, ev, kv, nx, pv, ns, rfl, ag, ek, ok, om⟩ := rep
    have := ag.len
    have := len_keys ek
    obtain ⟨dr, da, h1, h2, h3⟩ := ok.first
    obtain ⟨kv0, hp0⟩ := ag.yes e0
    obtain ⟨kv1, ov, ls', ho⟩ := head_of ek
    have hq0 : atK ls k0 = some (kv1, ov) := by rw [ho]; simp [atK]
    obtain ⟨a, d, dn, dpa, te, rfl, ha, hn, hpa, he, hra⟩ := ok.link hq0
    have ag' := ag.head (St.dictNd (knd := knd) (xs := xs) (d := dd) S₀ (.tail _ (.tail _ (.head _)))) nd
    have hkey : knd.is B.heap k0 kv1 := S₀.keys (d := ld) (.tail _ (.tail _ (.tail _ (.tail _ (.tail _ (.head _)))))) (k0, kv1, .ref a) (by rw [ho]; exact List.mem_cons_self)
    exact c1260 (n := n) (d := d) T (r.less (by omega)) S₀ (by omega) ok.hnd ho hp0 ha hn hpa he h1 h2 h3 (small (by omega)) (small (by omega)) fun b s' t' S' =>
      h b kv1 _ _ hkey ⟨⟨dx, dd, tm, dt, rt, ld, t', u, tl, _, _, _, _, _, _, _, rfl, ag', keys_del_head ek nd, ok.unlink (List.mem_map.mpr ⟨_, ha, rfl⟩), om.unlink (by rw [ek]; exact nd) hq0⟩, nd', el', hpl⟩
      (by show St B fs ((b, _) :: ttlC w knd B x dx dd tm dt rt ld (st'.length : Nat) pl t' u tl m _ _ _ _ _ _ _ l) s'; rw [el]; exact S')
  | tlru =>
    obtain ⟨dx, dd, tm, dt, it, od, t, u, xs, is_, os, ev, kv, rv, ns, rfl, ag, ek, ok, om⟩ := rep
    have := ag.len
    have := len_keys ek
    have hlo := ok.hlen
    obtain ⟨kv0, hp0⟩ := ag.yes e0
    obtain ⟨kv1, ov, is', ho⟩ := head_of ek
    have hq0 : atK is_ k0 = some (kv1, ov) := by rw [ho]; simp [atK]
    obtain ⟨a, d, te, rfl, ha, he⟩ := ok.link hq0
    have ag' := ag.head (St.dictNd (knd := knd) (xs := xs) (d := dd) S₀ (.tail _ (.tail _ (.head _)))) nd
    have hkey : knd.is B.heap k0 kv1 := S₀.keys (d := it) (.tail _ (.tail _ (.tail _ (.tail _ (.tail _ (.head _)))))) (k0, kv1, .ref a) (by rw [ho]; exact List.mem_cons_self)
    exact c1470 (n := n) (d := d) T (r.less (by omega)) S₀ (by omega) ok.hnd ho hp0 ha ok.hos ok.hev (by omega) (small (by omega)) (by omega) fun b od' os' s' t' hsh S' =>
      h b kv1 _ _ hkey ⟨⟨dx, dd, tm, dt, it, od', t', u, _, _, os', _, _, _, _, rfl, ag', keys_del_head ek nd, ok.shed hsh, (om.shed hsh).del (by rw [ek]; exact nd) hq0⟩, nd', el', hpl⟩
      (by show St B fs ((b, _) :: tlruC w knd B x dx dd tm dt it od' (st'.length : Nat) pl t' u m _ _ _ _ _ _ _ l) s'; rw [el]; exact S')
/-- a new cache -/
def newArgs (pl : Nat) (u tl : Tok) : Kind → List Value
  | .fifo => [.int pl u] | .lru => [.int pl u] | .ttl => [.int pl u, .int lifeV tl, .ref aClock] | .tlru => [.int pl u, .ref aEnd, .ref aClock]
theorem agree_nil : Agree ([] : List (K × Value × Value)) [] := ⟨rfl, fun _ => rfl⟩
theorem opNew (knd : AnyKind pw w K) {u tl : Tok} (hpl : pl ≤ 100) (T : Stat (KK w) B.heap) (r : Room (n + 20) fs A) (S₀ : St B fs l s)
    (h : ∀ x c s', Cach w B knd kd x pl 0 [] c → St B fs (c ++ l) s' → R (.ok (.ret (.ref x))) s') : codeAny (model pw w) A (.call (.ref (clsOf kd)) ⟨newArgs pl u tl kd, []⟩) R s := by
  have r' : ∀ {C : Addr} {rest : List Value}, Room (n + 19) fs (A.under (.builtin "type.__call__" ⟨.ref C :: rest, []⟩)) := r.make
  cases kd with
  | fifo =>
    refine makeS (fun d => instC 917 d) T S₀ (by kernel_rfl) (fI := 884) (by kernel_rfl) (by kernel_rfl) (fun _ => ⟨rfl, rfl, rfl⟩) fun x dx s' S' => ?_
    exact c884 (n := n) knd T (r'.less (by omega)) S' (by omega) fun dd od s' t S' => ⟨rfl, h x _ _ ⟨⟨dx, dd, od, t, _, _, _, rfl, agree_nil, rfl⟩, List.nodup_nil, Nat.zero_le _, hpl⟩ S'⟩
  | lru =>
    refine makeS (fun d => instC 982 d) T S₀ (by kernel_rfl) (fI := 934) (by kernel_rfl) (by kernel_rfl) (fun _ => ⟨rfl, rfl, rfl⟩) fun x dx s' S' => ?_
    exact c934 (n := n) knd T (r'.less (by omega)) S' (by omega) fun dd od s' t S' => ⟨rfl, h x _ _ ⟨⟨dx, dd, od, t, _, _, _, rfl, agree_nil, rfl⟩, List.nodup_nil, Nat.zero_le _, hpl⟩ S'⟩
  | ttl =>
    refine makeS (fun d => instC 1270 d) T S₀ (by kernel_rfl) (fI := 1192) (by kernel_rfl) (by kernel_rfl) (fun _ => ⟨rfl, rfl, rfl⟩) fun x dx s' S' => ?_
    exact c1192 (n := n) knd T (r'.less (by omega)) S' (by omega) fun dd tm dt rt ld dr s' t S' => ⟨rfl, h x _ _ ⟨⟨dx, dd, tm, dt, rt, ld, t, _, _, _, _, _, _, _, _, [(rt, dr)], rfl, agree_nil, rfl,
      ⟨by simp, by simp, fun a _ => by simp, fun a _ => by simp, fun a ha hr => by simp at ha; exact (hr ha).elim, fun e he => (by cases he)⟩, TtlMore.nil⟩, List.nodup_nil, Nat.zero_le _, hpl⟩ S'⟩
  | tlru =>
    refine makeS (fun d => instC 1488 d) T S₀ (by kernel_rfl) (fI := 1411) (by kernel_rfl) (by kernel_rfl) (fun _ => ⟨rfl, rfl, rfl⟩) fun x dx s' S' => ?_
    exact c1411 (n := n) knd T (r'.less (by omega)) S' (by omega) fun dd tm dt it od s' t S' => ⟨rfl, h x _ _ ⟨⟨dx, dd, tm, dt, it, od, t, _, _, _, [], _, _, _, [], rfl, agree_nil, rfl,
      ⟨by simp, fun a ha => (by cases ha), fun a ha => (by cases ha), Nat.le_refl _, fun e he => (by cases he)⟩, TlruMore.nil⟩, List.nodup_nil, Nat.zero_le _, hpl⟩ S'⟩
end

end
-- N5
section
set_option maxRecDepth 100000
/-- the base has grown -/
structure Ext (B B' : Shared) : Prop where
  heap : B.heap.StaysIn B'.heap
  gens : B'.gens = B.gens
  drawn : B'.drawn = B.drawn
  os : B'.os = B.os
theorem Ext.refl (B : Shared) : Ext B B := ⟨fun _ _ h => h, rfl, rfl, rfl⟩
theorem Ext.trans {B B' B'' : Shared} (x : Ext B B') (y : Ext B' B'') : Ext B B'' := ⟨fun b o h => y.heap b o (x.heap b o h), y.gens.trans x.gens, y.drawn.trans x.drawn, y.os.trans x.os⟩
inductive Weak : Cells → Cells → Prop
  | nil : Weak [] []
  | cons {a : Addr} {c c' : Cell} {l l' : Cells} : (∀ o, c o → c' o) → (∀ o, c o → Soft c → Soft c') → Weak l l' → Weak ((a, c) :: l) ((a, c') :: l')
theorem Weak.refl : ∀ l : Cells, Weak l l
  | [] => .nil
  | (_, _) :: l => .cons (fun _ h => h) (fun _ _ h => h) (Weak.refl l)
theorem Weak.keep {x : Addr × Cell} {l l' : Cells} (h : Weak l l') : Weak (x :: l) (x :: l') := .cons (fun _ h => h) (fun _ _ h => h) h
theorem Weak.app {l l' m m' : Cells} (h : Weak l l') (h' : Weak m m') : Weak (l ++ m) (l' ++ m') := by
  induction h with
  | nil => exact h'
  | cons h1 h2 _ ih => exact .cons h1 h2 ih
theorem Weak.keys {l l' : Cells} (h : Weak l l') : l'.map (·.1) = l.map (·.1) := by
  induction h with
  | nil => rfl
  | cons _ _ _ ih => simp [ih]
theorem Weak.back {l l' : Cells} (h : Weak l l') : ∀ x ∈ l', ∃ c, (x.1, c) ∈ l ∧ (∀ o, c o → x.2 o) ∧ ∀ o, c o → Soft c → Soft x.2 := by
  induction h with
  | nil => intro x hx; cases hx
  | cons h1 h2 _ ih =>
    intro x hx
    rcases List.mem_cons.mp hx with rfl | hx
    · exact ⟨_, .head _, h1, h2⟩
    · obtain ⟨c, hc, r⟩ := ih x hx
      exact ⟨c, .tail _ hc, r⟩
section
variable {B B' : Shared} {fs : List Env} {l l' X : Cells} {s : Shared}
theorem St.weak (S : St B fs l s) (h : Weak l l') : St B fs l' s := by
  have hk := h.keys
  refine ⟨S.base, fun x hx => ?_, hk ▸ S.nd, fun x hx => ?_, S.frames, S.gens, S.drawn, S.os, S.low, fun x hx => ?_, fun x hx hm => ?_⟩
  all_goals obtain ⟨c, hc, h1, h2⟩ := h.back x hx
  · obtain ⟨o, ho, hco⟩ := S.has _ hc
    exact ⟨o, ho, h1 o hco⟩
  · exact S.fresh (x.1, c) hc
  · exact S.big (x.1, c) hc
  · obtain ⟨o, ho, hco⟩ := S.has _ hc
    exact h2 o hco (S.soft (x.1, c) hc hm)
/-- fixed cells join the base -/
theorem St.join (S : St B fs (X ++ l) s) (hf : ∀ b ∈ fs.filterMap (·.frame), b ∈ l.map (·.1)) : ∃ B', Ext B B' ∧ (∀ x ∈ X, ∃ o, B'.heap.get? x.1 = some o ∧ x.2 o) ∧ St B' fs l s := by
  have nd := S.nd
  rw [List.map_append, List.nodup_append] at nd
  have Sl : St B fs l s := S.sub (List.sublist_append_right _ _)
  have out : ∀ b o, B.heap.get? b = some o → b ∉ l.map (·.1) := fun b o hb hm => by
    obtain ⟨x, hx, rfl⟩ := List.mem_map.mp hm
    rw [Sl.fresh x hx] at hb; cases hb
  refine ⟨{ B with heap := hideAll s.heap (l.map (·.1)) }, ⟨fun b o hb => hideAll_get _ (S.base b o hb) (out b o hb), rfl, rfl, rfl⟩, fun x hx => ?_, Sl.rebase ?_ (fun b o hb => of_hideAll _ hb) (fun x hx => hideAll_none _ (List.mem_map_of_mem hx)) fun b hb => hideAll_none _ (hf b hb)⟩
  · obtain ⟨o, ho, hc⟩ := S.has x (List.mem_append_left _ hx)
    exact ⟨o, hideAll_get _ ho fun hm => nd.2.2 _ (List.mem_map_of_mem hx) _ hm rfl, hc⟩
  · obtain ⟨o, ho⟩ := S.low
    exact ⟨o, hideAll_get _ (S.base _ o ho) (out _ o ho)⟩
theorem St.back_to {B₀ : Shared} (S : St B fs l s) (x : Ext B₀ B) (hlow : ∃ o, B₀.heap.get? mainGlobals = some o) : St B₀ fs l s := S.unbase x.heap x.gens.symm x.drawn.symm x.os.symm hlow
end
section
variable {prog : Program} {w : World} {B B' : Shared} {K : Type} [DecidableEq K]
theorem Weak.dict {knd : AnyKind prog w K} {a : Addr} {xs : List (K × Value × Value)} {l l' : Cells} (hB : B.heap.StaysIn B'.heap) (h : Weak l l') : Weak ((a, dictC knd B xs) :: l) ((a, dictC knd B' xs) :: l') :=
  .cons (fun o ⟨es, ep, h1, h2, h3, h4, h5⟩ => ⟨es, ep, h1, h2, h3, fun x hx => knd.grows (h4 x hx) hB, h5⟩) (fun o h q => (notSoft_dictC o h q).elim) h
theorem Cach.rebase {w : World} {knd : AnyKind pw w K} {kd : Kind} {x : Addr} {pl cnt : Nat} {st : List (K × Value)} {c : Cells} (C : Cach w B knd kd x pl cnt st c) (hB : B.heap.StaysIn B'.heap) : ∃ c', Weak c c' ∧ Cach w B' knd kd x pl cnt st c' := by
  obtain ⟨rep, nd, hlen, hpl⟩ := C
  cases kd with
  | fifo =>
    obtain ⟨dx, dd, od, t, u, xs, os, rfl, r⟩ := rep
    exact ⟨_, .keep (.keep (.dict hB (.dict hB .nil))), ⟨⟨dx, dd, od, t, u, xs, os, rfl, r⟩, nd, hlen, hpl⟩⟩
  | lru =>
    obtain ⟨dx, dd, od, t, u, xs, os, rfl, r⟩ := rep
    exact ⟨_, .keep (.keep (.dict hB (.dict hB .nil))), ⟨⟨dx, dd, od, t, u, xs, os, rfl, r⟩, nd, hlen, hpl⟩⟩
  | ttl =>
    obtain ⟨dx, dd, tm, dt, rt, ld, t, u, tl, xs, ls, ev, kv, nx, pv, ns, rfl, r1, r2, r3, om⟩ := rep
    exact ⟨_, .keep (.keep (.dict hB (.keep (.keep (.dict hB (.refl _)))))), ⟨⟨dx, dd, tm, dt, rt, ld, t, u, tl, xs, ls, ev, kv, nx, pv, ns, rfl, r1, r2, r3, om.grow hB⟩, nd, hlen, hpl⟩⟩
  | tlru =>
    obtain ⟨dx, dd, tm, dt, it, od, t, u, xs, is_, os, ev, kv, rv, ns, rfl, r1, r2, r3, om⟩ := rep
    exact ⟨_, .keep (.keep (.dict hB (.keep (.keep (.dict hB (.refl _)))))), ⟨⟨dx, dd, tm, dt, it, od, t, u, xs, is_, os, ev, kv, rv, ns, rfl, r1, r2, r3, om.grow hB⟩, nd, hlen, hpl⟩⟩
end

end
-- KY
section
open PySem.SeqAt
/-- ints and texts -/
abbrev Atom := Int ⊕ Str
def Atom.is : Atom → Value → Bool
  | .inl i, v => Value.isInt i v
  | .inr x, v => Value.isStrOf x v
theorem Atom.shape {a : Atom} {v : Value} (h : Atom.is a v = true) : (∃ i t, a = .inl i ∧ v = .int i t) ∨ ∃ x t, a = .inr x ∧ v = .str x t := by
  cases a with
  | inl i => obtain ⟨t, rfl⟩ := Value.isInt_shape h; exact .inl ⟨i, t, rfl, rfl⟩
  | inr x => obtain ⟨t, rfl⟩ := Value.isStrOf_shape h; exact .inr ⟨x, t, rfl, rfl⟩
def atomKind (prog : Program) (w : World) : KeyKind prog w Atom where
  is := Atom.is
  hash := fun | .inl i => hashInt i | .inr x => hashStr w x
  inj := fun v a b ha hb => by
    rcases Atom.shape ha with ⟨i, t, rfl, rfl⟩ | ⟨x, t, rfl, rfl⟩
    · rcases Atom.shape hb with ⟨j, u, rfl, e⟩ | ⟨y, u, rfl, e⟩
      · cases e; rfl
      · cases e
    · rcases Atom.shape hb with ⟨j, u, rfl, e⟩ | ⟨y, u, rfl, e⟩
      · cases e
      · cases e; rfl
  byValue := fun k v h => by
    rcases Atom.shape h with ⟨i, t, rfl, rfl⟩ | ⟨x, t, rfl, rfl⟩ <;> rfl
  pyHash := fun hv h => by
    rcases Atom.shape hv with ⟨i, t, rfl, rfl⟩ | ⟨x, t, rfl, rfl⟩
    · exact wpAny_pyHash_int h
    · exact wpAny_pyHash_str h
  eqBool := fun hu hv h => by
    rcases Atom.shape hu with ⟨i, t, rfl, rfl⟩ | ⟨x, t, rfl, rfl⟩
    · rcases Atom.shape hv with ⟨j, u, rfl, rfl⟩ | ⟨y, u, rfl, rfl⟩
      · refine wpAny_eqBool_int ?_
        rwa [show (i == j) = decide ((Sum.inl i : Atom) = Sum.inl j) by rw [Bool.eq_iff_iff]; simp]
      · exact EqAt.int_str i t y u _ _ _ _ (by simpa using h)
    · rcases Atom.shape hv with ⟨j, u, rfl, rfl⟩ | ⟨y, u, rfl, rfl⟩
      · exact EqAt.str_int x t j u _ _ _ _ (by simpa using h)
      · refine wpAny_eqBool_str ?_
        rwa [show decide (x = y) = decide ((Sum.inr x : Atom) = Sum.inr y) by rw [Bool.eq_iff_iff]; simp]
  «strs» := fun k x t v h => by
    rcases Atom.shape h with ⟨i, u, rfl, e⟩ | ⟨y, u, rfl, e⟩
    · cases e
    · cases e; cases v <;> rfl

/-- ints, texts, and tuples of them -/
abbrev Key := Atom ⊕ List Atom
def keyIs (prog : Program) (w : World) (h : Heap) : Key → Value → Prop
  | .inl a, v => Atom.is a v = true
  | .inr l, v => ∃ a, v = .ref a ∧ IsTupleKey (atomKind prog w) h l a
theorem isTuple_of {prog : Program} {w : World} {h : Heap} {l : List Atom} {a : Addr} (x : IsTupleKey (atomKind prog w) h l a) : ∃ items, h.IsTuple a items := by
  obtain ⟨o, items, n, h1, h2, h3, _⟩ := x
  exact ⟨items, o, h1, h2, n, h3⟩
def keyKind (prog : Program) (w : World) : AnyKind prog w Key where
  is := keyIs prog w
  hash := fun | .inl a => (atomKind prog w).hash a | .inr l => tupleKeyHash (atomKind prog w) l
  draws := fun | .inl _ => 1 | .inr l => l.length + 1
  inj := fun {h v x y} hx hy => by
    cases x with
    | inl a =>
      cases y with
      | inl b => rw [(atomKind prog w).inj v a b hx hy]
      | inr l => obtain ⟨p, rfl, _⟩ := hy; rcases Atom.shape hx with ⟨_, _, _, e⟩ | ⟨_, _, _, e⟩ <;> cases e
    | inr m =>
      obtain ⟨p, rfl, hm⟩ := hx
      cases y with
      | inl b => rcases Atom.shape hy with ⟨_, _, _, e⟩ | ⟨_, _, _, e⟩ <;> cases e
      | inr l => obtain ⟨q, e, hl⟩ := hy; cases e; rw [hm.inj hl]
  keeps := fun {h h' k v d o es ep} hx ho hd hs => by
    cases k with
    | inl a => exact hx
    | inr m => obtain ⟨p, rfl, hm⟩ := hx; exact ⟨p, rfl, hm.keeps ho hd hs⟩
  grows := fun {h h' k v} hx hs => by
    cases k with
    | inl a => exact hx
    | inr m => obtain ⟨p, rfl, o, items, n, h1, h2, h3, h4⟩ := hx; exact ⟨p, rfl, o, items, n, hs _ _ h1, h2, h3, h4⟩
  pyHash := fun {A E s k v Q} hu hx h => by
    cases k with
    | inl a => exact (atomKind prog w).pyHash hx h
    | inr m => obtain ⟨p, rfl, hm⟩ := hx; exact wpAny_pyHash_tuple hu hm h
  eqBool := fun {A E s x y u v Q} hu hx hy h => by
    cases x with
    | inl a =>
      cases y with
      | inl b => exact (atomKind prog w).eqBool hx hy (by rwa [show decide (a = b) = decide ((Sum.inl a : Key) = Sum.inl b) by rw [Bool.eq_iff_iff]; simp])
      | inr l =>
        obtain ⟨p, rfl, hl⟩ := hy
        obtain ⟨_, ht⟩ := isTuple_of hl
        rcases Atom.shape hx with ⟨_, _, _, rfl⟩ | ⟨_, _, _, rfl⟩
        · exact EqAt.int_tuple _ _ ht hu _ _ _ _ (by simpa using h)
        · exact EqAt.str_tuple _ _ ht hu _ _ _ _ (by simpa using h)
    | inr m =>
      obtain ⟨p, rfl, hm⟩ := hx
      cases y with
      | inl b =>
        obtain ⟨_, ht⟩ := isTuple_of hm
        rcases Atom.shape hy with ⟨_, _, _, rfl⟩ | ⟨_, _, _, rfl⟩
        · exact EqAt.tuple_int _ _ ht hu _ _ _ _ (by simpa using h)
        · exact EqAt.tuple_str _ _ ht hu _ _ _ _ (by simpa using h)
      | inr l =>
        obtain ⟨q, rfl, hl⟩ := hy
        exact wpAny_eqBool_tuple hu hm hl (by rwa [show decide (m = l) = decide ((Sum.inr m : Key) = Sum.inr l) by rw [Bool.eq_iff_iff]; simp])
  quiet := fun {A E s k v Q} hx h => by
    cases k with
    | inl a => rw [eqIsQuiet_byValue _ ((atomKind prog w).byValue a v hx)]; exact wpAny_pure h
    | inr m => obtain ⟨p, rfl, hm⟩ := hx; exact wpAny_eqIsQuiet_tuple hm h
  ofStr := fun {h k k' x t v} hx hy => by
    cases k with
    | inr m => obtain ⟨p, e, _⟩ := hx; cases e
    | inl a =>
      rcases Atom.shape hx with ⟨_, _, _, e⟩ | ⟨y, u, rfl, e⟩
      · cases e
      · cases e
        cases k' with
        | inl b =>
          rcases Atom.shape hy with ⟨_, _, rfl, rfl⟩ | ⟨z, u, rfl, rfl⟩
          · simp [Value.isStr]
          · rw [Bool.eq_iff_iff]; simp [Value.isStr]
        | inr l => obtain ⟨q, rfl, _⟩ := hy; simp [Value.isStr]
/-- a table of keys -/
def pullKind {prog : Program} {w : World} {K J : Type} [DecidableEq K] [DecidableEq J] (knd : AnyKind prog w K) (f : J → K) (hf : ∀ x y, f x = f y → x = y) : AnyKind prog w J where
  is := fun h k v => knd.is h (f k) v
  hash := fun k => knd.hash (f k)
  draws := fun k => knd.draws (f k)
  inj := fun hx hy => hf _ _ (knd.inj hx hy)
  keeps := fun hx ho hd hs => knd.keeps hx ho hd hs
  grows := fun hx hs => knd.grows hx hs
  pyHash := fun hu hx h => knd.pyHash hu hx h
  eqBool := fun {A E s x y u v Q} hu hx hy h => knd.eqBool hu hx hy (by rwa [show decide (f x = f y) = decide (x = y) by rw [Bool.eq_iff_iff]; simp; exact ⟨hf _ _, fun e => e ▸ rfl⟩])
  quiet := fun hx h => knd.quiet hx h
  ofStr := fun {h k k' x t v} hx hy => by
    rw [knd.ofStr hx hy, Bool.eq_iff_iff]; simp; exact ⟨hf _ _, fun e => e ▸ rfl⟩

end
-- N6
section
set_option maxRecDepth 100000
section
variable {prog : Program} {w : World} {A : Around} {E : Value → Shared → Prop} {B : Shared} {fs : List Env} {l l' : Cells} {s : Shared} {a b : Addr} {vs ws : List Value} {v : Value} {i : Nat} {env : Env}
/-- a slice of a list -/
theorem sliceS {value : Expr} {lower upper : Option Expr} {p pos : Pos} {Q : Value → Shared → Prop}
    (h : wpAny (model prog w) A (eval value env) (fun o s₁ => wpAny (model prog w) A (evalPart lower env) (fun vl s₂ => wpAny (model prog w) A (evalPart upper env) (fun vu s₃ =>
      ∃ l items lo hi L, o = .ref l ∧ St B fs L s₃ ∧ s₃.heap.IsList l items ∧ items.size ≤ sizeLine ∧ IsPart vl lo ∧ IsPart vu hi ∧ ∀ D s', St B fs ((D, listC (slicePick items lo hi none).toList) :: L) s' → Q (.ref D) s') E s₂) E s₁) E s)
    (ht : ∀ o r, letTemporaryGo value o r = pure () := by intro _ _; rfl) : wpAny (model prog w) A (eval (.Subscript value (.Slice lower upper none p) pos) env) Q E s := by
  refine wpAny_Subscript_list_slice (wpAny_mono h (fun o s₁ h₁ => wpAny_mono h₁ (fun vl s₂ h₂ => wpAny_mono h₂ (fun vu s₃ h₃ => ?_) fun _ _ e => e) fun _ _ e => e) fun _ _ e => e) ht
  obtain ⟨l, items, lo, hi, L, rfl, S, hl, hsz, pl, pu, hQ⟩ := h₃
  refine ⟨l, items, lo, hi, rfl, hl, hsz, pl, pu, ?_⟩
  have S1 := S.keeps (h' := s₃.heap.push { cls := .type "slice", data := .fields #[vl, vu, .none] }) s₃.toks (fun _ _ e => Heap.get?_push_of_some _ e)
  have S2 := S1.push (o := { cls := .type "list", data := .seq (slicePick items lo hi none) }) (c := listC (slicePick items lo hi none).toList) ⟨rfl, rfl, ⟨0, by simp⟩, rfl⟩ s₃.toks
  have e : (s₃.heap.push { cls := .type "slice", data := .fields #[vl, vu, .none] }).objs.size = s₃.heap.objs.size + 1 := Heap.size_push ..
  have := hQ _ _ S2
  rw [show ({ s₃ with heap := s₃.heap.push { cls := .type "slice", data := .fields #[vl, vu, .none] }, toks := s₃.toks } : Shared).heap.objs.size = s₃.heap.objs.size + 1 from e] at this
  exact this
/-- a list display -/
theorem listDisp {elts : List Expr} {pos : Pos} {Q : Value → Shared → Prop} (h : wpAny (model prog w) A (spliced (backTo pos (starEach elts env))) (fun vs s₁ => vs.length ≤ sizeLine ∧ ∃ l, St B fs l s₁ ∧ ∀ d s', St B fs ((d, listC vs) :: l) s' → Q (.ref d) s') E s) :
    wpAny (model prog w) A (eval (.List elts pos) env) Q E s :=
  wpAny_List (wpAny_mono h (fun vs s₁ ⟨h1, l, S, h2⟩ => ⟨h1, h2 _ _ (S.push (c := listC vs) ⟨rfl, rfl, ⟨0, rfl⟩, rfl⟩ s₁.toks)⟩) fun _ _ z => z)
theorem tupDisp {elts : List Expr} {k : Nat} {pos : Pos} {Q : Value → Shared → Prop} (h : wpAny (model prog w) A (spliced (backTo pos (starEach elts env))) (fun vs s₁ => vs.length ≤ sizeLine ∧ ∃ l, St B fs l s₁ ∧ ∀ d s', St B fs ((d, objC { cls := .type "tuple", data := .seq vs.toArray }) :: l) s' → Q (.ref d) s') E s) :
    wpAny (model prog w) A (eval (.Tuple elts k pos) env) Q E s :=
  wpAny_Tuple (wpAny_mono h (fun vs s₁ ⟨h1, l, S, h2⟩ => ⟨h1, h2 _ _ (S.push (c := objC { cls := .type "tuple", data := .seq vs.toArray }) rfl s₁.toks)⟩) fun _ _ z => z)
theorem addLists {Q : Value → Shared → Prop} (S : St B fs l s) (ma : (a, listC vs) ∈ l) (mb : (b, listC ws) ∈ l) (hsz : vs.length + ws.length ≤ sizeLine) (h : ∀ d s', St B fs ((d, listC (vs ++ ws)) :: l) s' → Q (.ref d) s') :
    wpAny (model prog w) A (binaryOp .Add (.ref a) (.ref b)) Q E s := by
  obtain ⟨⟨cls, dd, data, sl⟩, ho, hc, n, hd⟩ := S.list ma
  obtain ⟨⟨cls2, dd2, data2, sl2⟩, ho2, hc2, n2, hd2⟩ := S.list mb
  simp only at hc hd hc2 hd2
  subst hc hd hc2 hd2
  have e : vs.toArray ++ ws.toArray = (vs ++ ws).toArray := by simp
  refine concat_meets ⟨_, ho, rfl⟩ ⟨_, ho2, rfl⟩ noFill_list_add seq_list_add PySem.F.slot_list_add PySem.F.entry_list_add (PySem.F.args_list_add_2 _ _) (list_addW a b vs.toArray ws.toArray n n2 dd dd2 sl sl2 (by simpa using hsz)) ⟨ho, ho2, ?_⟩
  rw [e]
  exact h _ _ (S.push (c := listC (vs ++ ws)) ⟨rfl, rfl, ⟨0, rfl⟩, rfl⟩ s.toks)
theorem modS {x y : Int} {t u : Tok} {Q : Value → Shared → Prop} (S : St B fs l s) (hy : y ≠ 0) (h : ∀ s' t', St B fs l s' → Q (.int (x.fmod y) t') s') : wpAny (model prog w) A (binaryOp .Mod (.int x t) (.int y u)) Q E s :=
  mod_int' hy (h _ _ (S.toks _))
theorem strS {x : Str} {k : Nat} {pos : Pos} {Q : Value → Shared → Prop} (S : St B fs l s) (h : ∀ s' t', St B fs l s' → Q (.str x t') s') : wpAny (model prog w) A (eval (.Constant (.str x) k pos) env) Q E s :=
  wpAny_Constant_str (h _ _ (S.toks _))
theorem addStr {x y : Str} {t u : Tok} {Q : Value → Shared → Prop} (S : St B fs l s) (hsz : x.length + y.length ≤ sizeLine) (h : ∀ s' t', St B fs l s' → Q (.str (x ++ y) t') s') : wpAny (model prog w) A (binaryOp .Add (.str x t) (.str y u)) Q E s :=
  add_str (fun t' tk => h _ t' (S.toks tk)) hsz
theorem strInt {x : Int} {t : Tok} {Q : Value → Shared → Prop} (S : St B fs l s) (h0 : 0 ≤ x) (h1 : x < 2000000) (h : ∀ s' t', St B fs l s' → Q (.str (toString x) t') s') : wpAny (model prog w) A (call (.type "str") [.int x t]) Q E s :=
  str_of_int_fit (N := 2000000) (by split <;> omega) (by decide) fun _ => h _ _ (S.toks _)
end

end
-- IF6
section
set_option maxRecDepth 100000
set_option maxHeartbeats 800000
section
variable {w : World} {A : Around} {E : Value → Shared → Prop} {B : Shared} {fs : List Env} {l c : Cells} {s : Shared} {R : Result → Shared → Prop} {n : Nat} {K : Type} [DecidableEq K] {knd : AnyKind pw w K} {kd : Kind}
  {x : Addr} {pl cnt : Nat} {st st' : List (K × Value)} {key kv v u : Value} {k : K} {m : Int} {τ : Option Addr} {xs : List (K × Value × Value)}
theorem keys_gone (e : xs.map (·.1) = st.map (·.1)) : (delK xs k).map (·.1) = (dropS st k).map (·.1) := by rw [keys_del, keys_drop, e]
/-- «del cache[key]», the key is there -/
theorem opDel (C : Cach w B knd kd x pl cnt st c m τ) (hc : cnt < 800) (T : Stat (KK w) B.heap) (r : Room (n + 20) fs A) (S₀ : St B fs (c ++ l) s) (hk : knd.is B.heap k key) (hv : vAt st k = some v)
    (h : ∀ s' c', Cach w B knd kd x pl cnt (dropS st k) c' m τ → St B fs (c' ++ l) s' → R (.ok (.ret .none)) s') (hm : 0 ≤ m := by first | decide | assumption) : codeAny (model pw w) A (.call (.ref (delF kd)) ⟨[.ref x, key], []⟩) R s := by
  obtain ⟨rep, nd, hlen, hpl⟩ := C
  have hm : k ∈ st.map (·.1) := vAt_isSome.mp (by rw [hv]; rfl)
  have e1 := len_drop nd hm
  have nd' := nodup_drop (k := k) nd
  have el : ((dropS st k).length : Int) = (st.length : Int) - 1 := by omega
  have el' : (dropS st k).length ≤ pl := by omega
  cases kd with
  | fifo =>
    obtain ⟨dx, dd, od, t, u, xs, os, rfl, ag, ek⟩ := rep
    have := ag.len
    have := len_keys ek
    obtain ⟨kv, hp⟩ := ag.yes hv
    obtain ⟨q, hq⟩ := has_key ek hv
    refine c900 (n := n) T (r.less (by omega)) S₀ (small (by omega)) (small (by omega)) hk hp hq fun s' t' S' => h _ _ ⟨⟨dx, dd, od, t', u, _, _, rfl, ag.del (St.dictNd (knd := knd) (xs := xs) (d := dd) S₀ (.tail _ (.tail _ (.head _)))) nd hm, keys_gone ek⟩, nd', el', hpl⟩ (by rw [el]; exact S')
  | lru =>
    obtain ⟨dx, dd, od, t, u, xs, os, rfl, ag, ek⟩ := rep
    have := ag.len
    have := len_keys ek
    obtain ⟨kv, hp⟩ := ag.yes hv
    obtain ⟨q, hq⟩ := has_key ek hv
    refine c958 (n := n) T (r.less (by omega)) S₀ (small (by omega)) (small (by omega)) hk hp hq fun s' t' S' => h _ _ ⟨⟨dx, dd, od, t', u, _, _, rfl, ag.del (St.dictNd (knd := knd) (xs := xs) (d := dd) S₀ (.tail _ (.tail _ (.head _)))) nd hm, keys_gone ek⟩, nd', el', hpl⟩ (by rw [el]; exact S')
  | ttl =>
    obtain ⟨dx, dd, tm, dt, rt, ld, t, u, tl, xs, ls, ev, kv, nx, pv, ns, rfl, ag, ek, ok, om⟩ := rep
    have := ag.len
    have := len_keys ek
    obtain ⟨kz, hp⟩ := ag.yes hv
    obtain ⟨⟨lv, p2⟩, hq⟩ := has_key ek hv
    obtain ⟨a, d, dn, dp, te, rfl, ha, hn, hpv, he, hr⟩ := ok.link hq
    refine c1223 (n := n) T (r.less (by omega)) S₀ ok.hnd hk hp hq ha hn hpv he (small (by omega)) (small (by omega)) fun s' t' S' => h _ _ ⟨⟨dx, dd, tm, dt, rt, ld, t', u, tl, _, _, ev, kv, _, _, ns, rfl, ag.del (St.dictNd (knd := knd) (xs := xs) (d := dd) S₀ (.tail _ (.tail _ (.head _)))) nd hm, keys_gone ek, ok.unlink (List.mem_map.mpr ⟨_, ha, rfl⟩), om.unlink (by rw [ek]; exact nd) hq⟩, nd', el', hpl⟩ (by rw [el]; exact S')
  | tlru =>
    obtain ⟨dx, dd, tm, dt, it, od, t, u, xs, is_, os, ev, kv, rv, ns, rfl, ag, ek, ok, om⟩ := rep
    have := ag.len
    have := len_keys ek
    obtain ⟨kz, hp⟩ := ag.yes hv
    obtain ⟨⟨lv, p2⟩, hq⟩ := has_key ek hv
    obtain ⟨a, d, te, rfl, ha, he⟩ := ok.link hq
    refine c1442 (n := n) T (r.less (by omega)) S₀ (by omega) ok.hnd hk hp hq ha he (small (by omega)) (small (by omega)) fun s' t' S' => h _ _ ⟨⟨dx, dd, tm, dt, it, od, t', u, _, _, os, ev, kv, _, ns, rfl, ag.del (St.dictNd (knd := knd) (xs := xs) (d := dd) S₀ (.tail _ (.tail _ (.head _)))) nd hm, keys_gone ek, ⟨ok.hnd, ok.hev, ok.hos, ok.hlen, fun e he => ok.hlk e (mem_del he)⟩, om.del (by rw [ek]; exact nd) hq⟩, nd', el', hpl⟩ (by rw [el]; exact S')
end

end
-- IF7
section
set_option maxRecDepth 100000
set_option maxHeartbeats 800000
section
variable {w : World} {A : Around} {E : Value → Shared → Prop} {B : Shared} {fs : List Env} {l c : Cells} {s : Shared} {R : Result → Shared → Prop} {n : Nat} {K : Type} [DecidableEq K] {knd : AnyKind pw w K} {kd : Kind}
  {x : Addr} {pl cnt : Nat} {st st' : List (K × Value)} {key kv v v' u : Value} {k : K} {m : Int} {τ : Option Addr} {xs : List (K × Value × Value)}
/-- «cache[key] = value», the key is there (caches without a clock) -/
theorem opSetThere0 (C : Cach w B knd kd x pl cnt st c m τ) (h0 : 0 < pl) (hkd : kd = .fifo ∨ kd = .lru) (T : Stat (KK w) B.heap) (r : Room (n + 20) fs A) (S₀ : St B fs (c ++ l) s) (hk : knd.is B.heap k key) (hv : vAt st k = some v')
    (h : ∀ s' c', Cach w B knd kd x pl cnt (dropS st k ++ [(k, v)]) c' m τ → St B fs (c' ++ l) s' → R (.ok (.ret .none)) s') (hm : 0 ≤ m := by first | decide | assumption) : codeAny (model pw w) A (.call (.ref (setF kd)) ⟨[.ref x, key, v], []⟩) R s := by
  obtain ⟨rep, nd, hlen, hpl⟩ := C
  have hm : k ∈ st.map (·.1) := vAt_isSome.mp (by rw [hv]; rfl)
  have e1 := len_drop nd hm
  have nd' := nd_touch (k := k) (v := v) nd
  have el : (dropS st k ++ [(k, v)]).length = st.length := by rw [List.length_append, List.length_singleton]; omega
  rcases hkd with rfl | rfl
  · obtain ⟨dx, dd, od, t, u, xs, os, rfl, ag, ek⟩ := rep
    have := ag.len
    have := len_keys ek
    have hdl : (delK os k).length ≤ os.length := List.length_filter_le _ _
    obtain ⟨kv, hp⟩ := ag.yes hv
    obtain ⟨q, hq⟩ := has_key ek hv
    exact c892_there (n := n) T (r.less (by omega)) S₀ (small (by omega)) (small (by omega)) (small (by omega)) hk hp hq (by omega) fun s' S' => h _ _ ⟨⟨dx, dd, od, t, u, _, _, rfl, ag.there nd hm, keys_touch ek⟩, nd', by omega, hpl⟩ (by rw [el]; exact S')
  · obtain ⟨dx, dd, od, t, u, xs, os, rfl, ag, ek⟩ := rep
    have := ag.len
    have := len_keys ek
    have hdl : (delK os k).length ≤ os.length := List.length_filter_le _ _
    obtain ⟨kv, hp⟩ := ag.yes hv
    obtain ⟨q, hq⟩ := has_key ek hv
    exact c950_there (n := n) T (r.less (by omega)) S₀ (small (by omega)) (small (by omega)) (small (by omega)) hk hp hq (by omega) fun s' S' => h _ _ ⟨⟨dx, dd, od, t, u, _, _, rfl, ag.there nd hm, keys_touch ek⟩, nd', by omega, hpl⟩ (by rw [el]; exact S')
end

end
-- IF8
section
set_option maxRecDepth 100000
set_option maxHeartbeats 800000
section
variable {w : World} {A : Around} {E : Value → Shared → Prop} {B : Shared} {fs : List Env} {l c : Cells} {s : Shared} {R : Result → Shared → Prop} {n : Nat} {K : Type} [DecidableEq K] {knd : AnyKind pw w K} {kd : Kind}
  {x : Addr} {pl cnt : Nat} {st st' : List (K × Value)} {key kv v v' u : Value} {k : K} {m : Int} {τ : Option Addr} {xs : List (K × Value × Value)}
theorem opSetThere1 (C : Cach w B knd .ttl x pl cnt st c m τ) (h0 : 0 < pl) (T : Stat (KK w) B.heap) (r : Room (n + 20) fs A) (S₀ : St B fs (c ++ l) s) (hk : knd.is B.heap k key) (hv : vAt st k = some v')
    (h : ∀ s' c', Cach w B knd .ttl x pl cnt (dropS st k ++ [(k, v)]) c' m τ → St B fs (c' ++ l) s' → R (.ok (.ret .none)) s') (hm : 0 ≤ m := by first | decide | assumption) : codeAny (model pw w) A (.call (.ref (setF .ttl)) ⟨[.ref x, key, v], []⟩) R s := by
  obtain ⟨rep, nd, hlen, hpl⟩ := C
  have hm : k ∈ st.map (·.1) := vAt_isSome.mp (by rw [hv]; rfl)
  have e1 := len_drop nd hm
  have nd' := nd_touch (k := k) (v := v) nd
  have el : (dropS st k ++ [(k, v)]).length = st.length := by rw [List.length_append, List.length_singleton]; omega
  obtain ⟨dx, dd, tm, dt, rt, ld, t, u, tl, xs, ls, ev, kv, nx, pv, ns, rfl, ag, ek, ok, om⟩ := rep
  have := ag.len
  have := len_keys ek
  have hdl : (delK ls k).length ≤ ls.length := List.length_filter_le _ _
  obtain ⟨kz, hp⟩ := ag.yes hv
  obtain ⟨⟨lv, p2⟩, hq⟩ := has_key ek hv
  obtain ⟨a, d, dn, dp, te, rfl, ha, hn, hpv, he, hr⟩ := ok.link hq
  obtain ⟨dr, da, h1, h2, h3⟩ := ok.first
  have ma : a ∈ ns.map (·.1) := List.mem_map.mpr ⟨_, ha, rfl⟩
  have mp : upd pv (nx a) (pv a) rt ∈ ns.map (·.1) := mem_upd (ok.hpv a ma) (ok.hpv rt ok.hrt)
  obtain ⟨dq, h4⟩ := node_of mp
  refine c1215_there (n := n) T (n' := n + 3) (by omega) (r.less (by omega)) S₀ (by omega) ok.hnd hk (tsets_there T (small (by omega)) hk hp (by omega)) hq h1 h2 h3 ha hn hpv h4 (small (by omega)) (small (by omega)) fun s' t' te' S' =>
    h _ _ ⟨⟨dx, dd, tm, dt, rt, ld, t', u, tl, _, _, _, _, _, _, ns, rfl, ag.there nd hm, keys_touch ek, ?_, om.there (by rw [ek]; exact nd) hq⟩, nd', by omega, hpl⟩ (by rw [el]; exact S')
  exact ⟨ok.hnd, ok.hrt, fun b hb => mem_upd ma (mem_upd ok.hrt (mem_upd (ok.hnx a ma) (ok.hnx b hb))), fun b hb => mem_upd ma (mem_upd mp (mem_upd (ok.hpv a ma) (ok.hpv b hb))), fun b hb hbr => by
    by_cases q : b = a
    · subst q; exact ⟨te', upd_same⟩
    · rw [upd_ne q]; exact ok.hev b hb hbr, fun e he => by
    rcases mem_put he with q | q
    · exact ⟨a, q, ma, hr⟩
    · exact ok.hlk e (mem_del q)⟩
end

end
-- IF9
section
set_option maxRecDepth 100000
set_option maxHeartbeats 800000
section
variable {w : World} {A : Around} {E : Value → Shared → Prop} {B : Shared} {fs : List Env} {l c : Cells} {s : Shared} {R : Result → Shared → Prop} {n : Nat} {K : Type} [DecidableEq K] {knd : AnyKind pw w K} {kd : Kind}
  {x : Addr} {pl cnt : Nat} {st st' : List (K × Value)} {key kv v v' u : Value} {k : K} {m : Int} {τ : Option Addr} {xs : List (K × Value × Value)}
theorem opSetThere2 (C : Cach w B knd .tlru x pl cnt st c m τ) (hc : cnt < 800) (h0 : 0 < pl) (T : Stat (KK w) B.heap) (r : Room (n + 20) fs A) (S₀ : St B fs (c ++ l) s) (hk : knd.is B.heap k key) (hv : vAt st k = some v')
    (h : ∀ s' c', Cach w B knd .tlru x pl (cnt + 1) (dropS st k ++ [(k, v)]) c' m τ → St B fs (c' ++ l) s' → R (.ok (.ret .none)) s') (hm : 0 ≤ m := by first | decide | assumption) : codeAny (model pw w) A (.call (.ref (setF .tlru)) ⟨[.ref x, key, v], []⟩) R s := by
  obtain ⟨rep, nd, hlen, hpl⟩ := C
  have hm : k ∈ st.map (·.1) := vAt_isSome.mp (by rw [hv]; rfl)
  have e1 := len_drop nd hm
  have nd' := nd_touch (k := k) (v := v) nd
  have el : (dropS st k ++ [(k, v)]).length = st.length := by rw [List.length_append, List.length_singleton]; omega
  obtain ⟨dx, dd, tm, dt, it, od, t, u, xs, is_, os, ev, kv, rv, ns, rfl, ag, ek, ok, om⟩ := rep
  have := ag.len
  have := len_keys ek
  have hlo := ok.hlen
  have hdl : (delK is_ k).length ≤ is_.length := List.length_filter_le _ _
  obtain ⟨kz, hp⟩ := ag.yes hv
  obtain ⟨⟨lv, p2⟩, hq⟩ := has_key ek hv
  obtain ⟨a, d, te, rfl, ha, he⟩ := ok.link hq
  have e1 : ∀ (u' : Value), (putK (delK is_ k) k key u').length ≤ is_.length + 1 := fun u' => by rw [put_del, List.length_append, List.length_singleton]; omega
  refine c1434_there (n := n) (P := fun os' => Shed rv os' os) T (n' := n + 3) (by omega) (r.less (by omega)) S₀ (by omega) ok.hnd hk (usets_there T (small (by omega)) hk hp (by omega)) hq ha (by omega) (by have := e1 (.ref a); omega) ok.hos (fun os' hsh => ⟨fun a ha => ok.hos a (hsh.mem ha), by have := hsh.length; omega⟩) ok.hev (by omega) (by omega) (by omega) fun s' t' te b d' od' os' os'' hb hsh p S' => ?_
  rw [put_put] at S'
  exact h _ _ ⟨⟨dx, dd, tm, dt, it, od', t', u, _, _, os'', _, _, _, _, rfl, ag.there nd hm, keys_touch ek, (ok.shed hsh).insert hb (Shed.refl (rv := rv)) p, ((om.shed hsh).del (by rw [ek]; exact nd) hq).insert at_del hk p hb (fun a ha => ok.hos a (hsh.mem ha)) fun e he => ok.hlk e (mem_del he)⟩, nd', by omega, hpl⟩ (by rw [el]; exact S')
end

end
-- SK1
section
set_option maxRecDepth 100000
abbrev kwObj : Obj := { cls := .type "dict", data := .dict #[] }
section
variable {prog : Program} {w : World} {A : Around} {E : Value → Shared → Prop} {B : Shared} {fs : List Env} {l l' : Cells} {s : Shared} {t d m x : Addr} {rest : List Value}
theorem mergeEmpty {Q : Unit → Shared → Prop} (S : St B fs l s) (md : (d, objC kwObj) ∈ l) (mm : (m, objC kwObj) ∈ l) (h : Q () s) : wpAny (model prog w) A (mergeMapping d (.ref m) true) Q E s := by
  obtain ⟨o, ho, rfl⟩ := S.has _ mm
  obtain ⟨o', ho', rfl⟩ := S.has _ md
  have hT : s.TypeIs (.ref m) "dict" := ⟨_, ho, rfl⟩
  have hm := S.notMods mm
  unfold mergeMapping
  refine wpAny_bind (wpAny_isInstance hT isSubtype_dict_dict ?_)
  dsimp only
  rw [if_pos rfl]
  refine wpAny_bind (wpAny_specialOf hT PySem.F.slot_dict_iter.lookup ?_)
  have e : (some (Value.builtin "dict.__iter__") == some (Value.builtin "dict.__iter__")) = true := by decide
  rw [e]
  refine wpAny_bind (wpAny_pure ?_)
  dsimp only
  rw [if_neg (by rw [hm]; exact Bool.false_ne_true)]
  refine wpAny_bind (wpAny_dictEntries ho' rfl ?_)
  rw [if_pos (by rfl)]
  refine wpAny_bind (wpAny_dictEntries ho rfl ?_)
  refine wpAny_bind (wpAny_of_eq (a := PUnit.unit) (by rfl) ?_)
  refine wpAny_bind (wpAny_dictEntries ho rfl ?_)
  refine wpAny_bind (wpAny_dictEpoch ho rfl ?_)
  refine wpAny_bind (wpAny_of_eq (a := PUnit.unit) (by rfl) ?_)
  exact wpAny_pure h
theorem mergedOne {f : Value} {t₃ : Sem Value} {Q : Addr → Shared → Prop} (S : St B fs l s)
    (h : ∀ d s', St B fs ((d, objC kwObj) :: l) s' → wpAny (model prog w) A t₃ (fun v s₁ => ∃ m l', v = .ref m ∧ (m, objC kwObj) ∈ l' ∧ (d, objC kwObj) ∈ l' ∧ St B fs l' s₁ ∧ Q d s₁) E s') : wpAny (model prog w) A (mergedKeywords f [(none, t₃)]) Q E s := by
  unfold mergedKeywords
  refine wpAny_bind (wpAny_alloc ?_)
  have S1 := S.push (o := kwObj) (c := objC kwObj) rfl s.toks
  refine wpAny_bind (wpAny_holding ?_)
  dsimp only
  rw [List.forIn_cons]
  refine wpAny_bind (wpAny_bind ?_)
  refine wpAny_bind (wpAny_of_eq (a := ()) (by rfl) ?_)
  refine wpAny_bind (wpAny_mono (h _ _ S1) (fun v s₁ h₁ => ?_) fun _ _ z => ?_)
  · obtain ⟨m, l', rfl, mm, md, S', hQ⟩ := h₁
    refine wpAny_bind (wpAny_onRaise (wpAny_holding (wpAny_tryCatch (wpAny_onRaise (mergeEmpty S' md mm (wpAny_pure ?_))))))
    refine wpAny_of_eq (a := []) (by rfl) ?_
    refine wpAny_bind (wpAny_of_eq (a := ()) (by rfl) ?_)
    exact wpAny_pure (wpAny_pure hQ)
  · exact z
theorem kwNone {f : Value} {Q : List (Str × Value) → Shared → Prop} (S : St B fs l s) (md : (d, objC kwObj) ∈ l) (h : Q [] s) : wpAny (model prog w) A (keywordsIn f d) Q E s := by
  obtain ⟨o, ho, rfl⟩ := S.has _ md
  unfold keywordsIn
  refine wpAny_bind (wpAny_dictEntries ho rfl ?_)
  refine wpAny_bind (wpAny_of_eq (a := []) (by rfl) ?_)
  exact wpAny_pure h
/-- «f(x, *args, **kwargs)»: args a tuple, kwargs empty -/
theorem callStarred {K : Frag} {f : Value} {pos : Pos} {first : List Value} {t₁ t₂ t₃ : Sem Value} {Q : Value → Shared → Prop} (T : Stat K B.heap) (hk : keepIn K f = true) (hsz : rest.length ≤ sizeLine)
    (h : wpAny (model prog w) A t₁ (fun v₁ s₁ => wpAny (model prog w) A t₂ (fun v₂ s₂ => ∃ t l, v₂ = .ref t ∧ (t, objC { cls := .type "tuple", data := .seq rest.toArray }) ∈ l ∧ St B fs l s₂ ∧
      ∀ d s₃, St B fs ((d, objC kwObj) :: l) s₃ → wpAny (model prog w) A t₃ (fun v₃ s₄ => ∃ m l', v₃ = .ref m ∧ (m, objC kwObj) ∈ l' ∧ (d, objC kwObj) ∈ l' ∧ St B fs l' s₄ ∧ wpAny (model prog w) A (call f (first ++ (v₁ :: rest))) Q E s₄) E s₃) E s₁) E s) :
    wpAny (model prog w) A (callWith pos f first [(false, t₁), (true, t₂)] [(none, t₃)]) Q E s := by
  unfold callWith
  refine wpAny_bind (wpAny_holding ?_)
  unfold evalArgs
  refine wpAny_bind ?_
  unfold spliced
  refine wpAny_bind (wpAny_mono h (fun v₁ s₁ h₁ => ?_) fun _ _ z => z)
  rw [if_neg Bool.false_ne_true]
  refine wpAny_bind (wpAny_pure (wpAny_bind (wpAny_holding ?_)))
  unfold spliced
  refine wpAny_bind (wpAny_mono h₁ (fun v₂ s₂ h₂ => ?_) fun _ _ z => z)
  obtain ⟨t, l, rfl, mt, S₂, h₃⟩ := h₂
  obtain ⟨o, ho, rfl⟩ := S₂.has _ mt
  have hT : s₂.TypeIs (.ref t) "tuple" := ⟨_, ho, rfl⟩
  rw [if_pos rfl]
  refine wpAny_bind ?_
  unfold notIterableAtAll
  refine wpAny_bind (wpAny_specialOf hT slot_tuple_iter.lookup ?_)
  refine wpAny_pure ?_
  rw [if_neg Bool.false_ne_true]
  dsimp only
  refine wpAny_bind (wpAny_collect_seq t (.inr rfl) ho rfl rfl (fun h' hk' => ?_) (by simpa using hsz))
  have S₃ := S₂.keeps s₂.toks hk'
  refine wpAny_bind (wpAny_holding ?_)
  unfold spliced
  refine wpAny_pure (wpAny_pure ?_)
  refine wpAny_pure (wpAny_bind (wpAny_pure ?_))
  dsimp only
  refine wpAny_holding ?_
  rw [if_neg (by simp)]
  have e0 : [v₁] ++ (rest.toArray.toList ++ []) = v₁ :: rest := by simp
  refine wpAny_bind (mergedOne S₃ fun d s₃ S₄ => wpAny_mono (h₃ d s₃ S₄) (fun v₃ s₄ h₄ => ?_) fun _ _ z => z)
  obtain ⟨m, l', rfl, mm, md, S₅, h₅⟩ := h₄
  refine ⟨m, l', rfl, mm, md, S₅, ?_⟩
  refine wpAny_bind (wpAny_pure ?_)
  refine wpAny_bind (wpAny_holding (kwNone S₅ md ?_))
  refine wpAny_pure ?_
  rw [e0]
  refine wpAny_bind (wpAny_standAt ?_)
  obtain ⟨k, hk', L⟩ := keeps_K (M := model prog w) hk s₄.heap (S₅.stat T).X
  refine wpAny_bind (L.here ?_)
  have tail : ∀ {t : Sem Value}, wpAny (model prog w) A t Q E s₄ → wpAny (model prog w) A (t >>= fun r => holding [r] point >>= fun _ => pure r) Q E s₄ :=
    fun ht => wpAny_bind (wpAny_mono ht (fun r s₂ hr => wpAny_bind (wpAny_holding (wpAny_point (wpAny_pure hr)))) fun _ _ x => x)
  rcases hk' with rfl | rfl | rfl
  · exact tail (Calls.wpAny_keep h₅)
  · exact tail (wpAny_operating h₅)
  · exact tail (wpAny_operating h₅)
end
section
variable {prog : Program} {w : World} {A : Around} {B : Shared} {fs : List Env} {cD : Cell} {l : Cells} {s : Shared} {K : Frag} {f : Addr} {fd : FuncData} {body : List Stmt} {args : Args} {R : Result → Shared → Prop} {n : Nat}
/-- a def that takes what is left into a tuple, and keywords into a dict (none are given) -/
def BindsStar2 (s : Shared) (fd : FuncData) (args : Args) (binds : Addr → Addr → List (Str × Value)) (rest : List Value) : Prop :=
  ∀ (M : Model) (A : Around) (E : Value → Shared → Prop) (Q : List (Str × Value) → Shared → Prop), Q (binds s.heap.objs.size (s.heap.objs.size + 1)) { s with heap := (s.heap.push { cls := .type "tuple", data := .seq rest.toArray }).push kwObj } → wpAny M A (bindArgs fd args) Q E s
theorem callStar2 {binds : Addr → Addr → List (Str × Value)} {rest : List Value} {locs : Addr → Addr → Names} {names : List Str} (F : FnOk K f fd body) (T : Stat K B.heap) (S : St B fs l s) (r : Room (n + 1) fs A) (hb : BindsStar2 s fd args binds rest)
    (hnames : ∀ t d, (binds t d).map (·.1) = names) (hlocs : ∀ t d, (binds t d).reverse = locs t d) (hloc : (names.all fun x => fd.scope.names.lookup x == some .local && !(x == ("__debug__" : Str))) = true) (hnd : names.Nodup) (hgen : fd.scope.isGenerator = false)
    (h : ∀ t d L s', Room n (fnEnv fd L f :: fs) (A.deeper (fnEnv fd L f)) → St B (fnEnv fd L f :: fs) ((L, nsC fd.scope (locs t d)) :: (d, objC kwObj) :: (t, objC { cls := .type "tuple", data := .seq rest.toArray }) :: l) s' →
      wpAny (model prog w) (A.deeper (fnEnv fd L f)) (execs body (fnEnv fd L f)) (fun fl s' => R (.ok (.ret (match fl with | .ret v => v | _ => .none))) s') (fun _ _ => False) s') :
    codeAny (model prog w) A (.call (.ref f) args) R s := by
  let tO : Obj := { cls := .type "tuple", data := .seq rest.toArray }
  have S0 := S.push (o := tO) (c := objC tO) rfl s.toks
  have S1 := S0.push (o := kwObj) (c := objC kwObj) rfl s.toks
  have hsz1 : (s.heap.push tO).objs.size = s.heap.objs.size + 1 := Heap.size_push ..
  dsimp only at S1
  rw [hsz1] at S1
  have T' := S1.stat T
  obtain ⟨o, ho, hd⟩ := Option.map_eq_some_iff.mp F.at_
  have env : ∀ L, callEnv fd L f = fnEnv fd L f := fun L => by
    unfold callEnv fnEnv envOf newEnv
    rw [F.glob, F.clos, F.blt]
  generalize hbs : binds s.heap.objs.size (s.heap.objs.size + 1) = bs at *
  have hl : ∀ p ∈ bs, fd.scope.names.lookup p.1 = some .local ∧ (p.1 == ("__debug__" : Str)) = false := fun p hp => by
    have := List.all_eq_true.mp hloc p.1 (by rw [← hnames s.heap.objs.size (s.heap.objs.size + 1), hbs]; exact List.mem_map.mpr ⟨p, hp, rfl⟩)
    simpa using this
  have nd : (bs.map (·.1)).Nodup := by rw [← hbs, hnames]; exact hnd
  have hlo : bs.reverse = locs s.heap.objs.size (s.heap.objs.size + 1) := by rw [← hbs, hlocs]
  refine codeAny_call_function r.room ((S.stat T).X _ _ ho) hd F.co hgen F.body_ (codeRec_of (S.stat T).X F.code) (hb _ _ _ _ ?_)
  rw [hbs]
  refine wpAny_newFunctionEnv F.cell (fun x hx => (hl x hx).1) (fun h₀ hns hsb => ⟨T'.lim.fresh _ hsb, codeAny_func ?_⟩) F.kind
  have hk : ∀ b o, ((s.heap.push tO).push kwObj).get? b = some o → h₀.get? b = some o := fun b o e => hsb.extBut b o (Nat.ne_of_lt (Heap.lt_size e)) (Heap.get?_push_of_some _ e)
  have := h s.heap.objs.size (s.heap.objs.size + 1) ((s.heap.push tO).push kwObj).objs.size { s with heap := h₀, toks := s.toks + bs.length } r.deeper ?_
  · rw [← env] at this
    exact wpAny_mono this (fun _ _ x => x) (fun _ _ x => x.elim)
  obtain ⟨oL, es, ep, hL, h1, h2, h3⟩ := hns
  have S2 := S1.grow (a := ((s.heap.push tO).push kwObj).objs.size) (o := oL) (c := nsC fd.scope (locs s.heap.objs.size (s.heap.objs.size + 1))) (s.toks + bs.length) hk (Heap.get?_none_of_le (Nat.le_refl _)) S1.none_at S1.size hL
    ⟨⟨es, ep, h1, h2, by rw [← hlo]; exact h3⟩, by rw [← hlo, List.map_reverse]; exact (List.reverse_perm _).nodup_iff.mpr nd, F.kind, fun p hp => hl p (by rw [← hlo] at hp; exact List.mem_reverse.mp hp)⟩
  refine ⟨S2.base, S2.has, S2.nd, S2.fresh, ?_, S2.gens, S2.drawn, S2.os, S2.low, S2.big, fun x hx hm => ?_⟩
  · exact ⟨by show fd.scope.kind ≠ _; rw [F.kind]; decide, ⟨_, oL, rfl, S1.none_at, hL, fun vs q => by rw [h1] at q; cases q⟩, S2.frames⟩
  · rcases List.mem_cons.mp hx with rfl | hx'
    · exact soft_nsC
    · rw [List.filterMap_cons] at hm
      rcases List.mem_cons.mp (show x.1 ∈ ((s.heap.push tO).push kwObj).objs.size :: _ from hm) with e | hm
      · have := S1.lt hx'
        rw [e] at this; exact absurd this (Nat.lt_irrefl _)
      · exact S1.soft x hx' hm
end

end
-- W1
section
set_option maxRecDepth 100000
set_option maxHeartbeats 800000
section
variable {w : World} {A : Around} {E : Value → Shared → Prop} {B : Shared} {fs : List Env} {l c : Cells} {s : Shared} {x : Addr} {n pl cnt : Nat} {K : Type} [DecidableEq K] {knd : AnyKind pw w K} {kd : Kind} {st st' : List (K × Value)} {k : K} {key v : Value} {m : Int} {τ : Option Addr}
theorem spIn : specFn (KK w) (clsOf kd) (Str.ofString "__contains__") (inF kd) = true := by cases kd <;> kernel_rfl
theorem spGet : specFn (KK w) (clsOf kd) (Str.ofString "__getitem__") (getF kd) = true := by cases kd <;> kernel_rfl
theorem fnGet : fnIn (KK w) (getF kd) = true := by cases kd <;> kernel_rfl
theorem spSet : specFn (KK w) (clsOf kd) (Str.ofString "__setitem__") (setF kd) = true := by cases kd <;> kernel_rfl
theorem spLen : specFn (KK w) (clsOf kd) (Str.ofString "__len__") (lenF kd) = true := by cases kd <;> kernel_rfl
theorem sqSet : noSeq (KK w) (clsOf kd) = true := by cases kd <;> kernel_rfl
theorem cacheIn {Q : Value → Shared → Prop} (C : Cach w B knd kd x pl cnt st c m τ) (T : Stat (KK w) B.heap) (r : Room (n + 20) fs A) (S₀ : St B fs (c ++ l) s) (hk : knd.is B.heap k key)
    (h : ∀ s' c', Cach w B knd kd x pl cnt st c' m τ → St B fs (c' ++ l) s' → Q (.bool (vAt st k).isSome) s') (hm : 0 ≤ m := by first | decide | assumption) : wpAny (model pw w) A (compareOp .In key (.ref x)) Q E s := by
  obtain ⟨dx, ns, mi, md⟩ := C.inst
  refine inOwn T S₀ (List.mem_append_left _ mi) (List.mem_append_left _ md) spIn (wpAny_call (opIn (n := n) C T r S₀ hk fun s' c' C' S' => ?_))
  exact wpAny_truthy_bool (h s' c' C' S')
theorem cacheGet {value slice : Expr} {Q : Value → Shared → Prop} (C : Cach w B knd kd x pl cnt st c m τ) (T : Stat (KK w) B.heap) (r : Room (n + 21) fs A) (S₀ : St B fs (c ++ l) s) (hk : knd.is B.heap k key) (hv : vAt st k = some v)
    (h : ∀ s' c', Cach w B knd kd x pl cnt (touchS kd st k v) c' m τ → St B fs (c' ++ l) s' → Q v s')
    (hsl : subscripted slice true (.ref x) key = runValue (.builtin "lifetime.subscript" ⟨[.ref x, key], []⟩) := by with_unfolding_all rfl) (hm : 0 ≤ m := by first | decide | assumption) : wpAny (model pw w) A (subscriptTail value slice (.ref x) key) Q E s := by
  obtain ⟨dx, ns, mi, md⟩ := C.inst
  exact subOwn T S₀ (List.mem_append_left _ mi) (List.mem_append_left _ md) spGet fnGet (wpAny_call (opGet (n := n) C T r.in1 S₀ hk hv fun s' c' C' S' => h s' c' C' S')) hsl
theorem cacheSet {Q : Unit → Shared → Prop} (C : Cach w B knd kd x pl cnt st c m τ) (hc : cnt < 800) (h0 : 0 < pl) (T : Stat (KK w) B.heap) (r : Room (n + 20) fs A) (S₀ : St B fs (c ++ l) s) (hk : knd.is B.heap k key) (hv : vAt st k = none)
    (h : ∀ s' c', Cach w B knd kd x pl (cnt + 1) (roomS pl st ++ [(k, v)]) c' m τ → St B fs (c' ++ l) s' → Q () s') (hm : 0 ≤ m := by first | decide | assumption) : wpAny (model pw w) A (setItem (.ref x) key v) Q E s := by
  obtain ⟨dx, ns, mi, md⟩ := C.inst
  exact setOwnItem T S₀ (List.mem_append_left _ mi) (List.mem_append_left _ md) sqSet spSet (wpAny_call (opSet (n := n) C hc h0 T r S₀ hk hv fun s' c' C' S' => h s' c' C' S'))
theorem cacheLen {Q : Value → Shared → Prop} (C : Cach w B knd kd x pl cnt st c m τ) (hc : cnt < 800) (T : Stat (KK w) B.heap) (r : Room (n + 21) fs A) (S₀ : St B fs (c ++ l) s)
    (h : ∀ s' c' t, Cach w B knd kd x pl cnt st c' m τ → St B fs (c' ++ l) s' → Q (.int st.length t) s') (hm : 0 ≤ m := by first | decide | assumption) : wpAny (model pw w) A (call (.builtin "len") [.ref x]) Q E s := by
  obtain ⟨dx, ns, mi, md⟩ := C.inst
  refine lenOwn T S₀ (List.mem_append_left _ mi) (List.mem_append_left _ md) spLen (wpAny_call (opLen (n := n) C hc T r.in1 S₀ fun s' c' t C' S' => ?_))
  have h1 := C'.len
  have h2 := C'.pl
  exact ⟨⟨by omega, by omega⟩, h _ c' _ C' (S'.toks _)⟩
theorem mthPop : methName (KK w) (clsOf kd) (Str.ofString "popitem") (popF kd) = true := by cases kd <;> kernel_rfl
theorem kpPop : keepIn (KK w) (.ref (popF kd)) = true := by cases kd <;> kernel_rfl
theorem Cach.instPop (C : Cach w B knd kd x pl cnt st c m τ) : ∃ dx ns, (x, instC (clsOf kd) dx) ∈ c ∧ (dx, idC ns) ∈ c ∧ Str.ofString "popitem" ∉ ns.map (·.1) := by
  cases kd with
  | fifo => obtain ⟨dx, dd, od, t, u, xs, os, rfl, _⟩ := C.rep; exact ⟨dx, _, .head _, .tail _ (.head _), by walk_at "m_nin"⟩
  | lru => obtain ⟨dx, dd, od, t, u, xs, os, rfl, _⟩ := C.rep; exact ⟨dx, _, .head _, .tail _ (.head _), by walk_at "m_nin"⟩
  | ttl => obtain ⟨dx, dd, tm, dt, rt, ld, t, u, tl, xs, ls, ev, kv, nx, pv, ns, rfl, _⟩ := C.rep; exact ⟨dx, _, .head _, .tail _ (.head _), by walk_at "m_nin"⟩
  | tlru => obtain ⟨dx, dd, tm, dt, it, od, t, u, xs, is_, os, ev, kv, rv, ns, rfl, _⟩ := C.rep; exact ⟨dx, _, .head _, .tail _ (.head _), by walk_at "m_nin"⟩
theorem cachePop {env : Env} {pl' : Sem Bool} {pos : Pos} {k0 : K} {v0 : Value} {Q : Value → Shared → Prop} (C : Cach w B knd kd x pl cnt ((k0, v0) :: st') c m τ) (hc : cnt < 800) (T : Stat (KK w) B.heap) (r : Room (n + 20) fs A) (S₀ : St B fs (c ++ l) s)
    (h : ∀ b kv s' c', knd.is B.heap k0 kv → Cach w B knd kd x pl cnt st' c' m τ → St B fs ((b, pairC kv v0) :: (c' ++ l)) s' → Q (.ref b) s') (hm : 0 ≤ m := by first | decide | assumption) :
    wpAny (model pw w) A (getMethod (.ref x) (Str.ofString "popitem") pl') (fun fx s₁ => wpAny (model pw w) A (callWith pos fx.1 fx.2 (backTo pos (starEach [] env)) []) Q E s₁) E s := by
  obtain ⟨dx, ns, mi, md, mn⟩ := C.instPop
  refine methFn T S₀ (List.mem_append_left _ mi) (List.mem_append_left _ md) mthPop ?_ mn
  refine callFn0 T S₀ kpPop (wpAny_call ?_)
  exact opPop (n := n) C hc T r S₀ fun b kv s' c' hk C' S' => h b kv s' c' hk C' S'
end
section
variable {w : World} {A : Around} {E : Value → Shared → Prop} {B : Shared} {fs : List Env} {l c : Cells} {s : Shared} {R : Result → Shared → Prop} {x : Addr} {n pl cnt : Nat} {K : Type} [DecidableEq K] {knd : AnyKind pw w K} {kd : Kind} {st st' : List (K × Value)} {k : K} {key v v' : Value} {m : Int} {τ : Option Addr}
theorem Cach.more (C : Cach w B knd kd x pl cnt st c m τ) : Cach w B knd kd x pl (cnt + 1) st c m τ := by
  obtain ⟨rep, nd, hlen, hpl⟩ := C
  refine ⟨?_, nd, hlen, hpl⟩
  cases kd with
  | fifo => exact rep
  | lru => exact rep
  | ttl => exact rep
  | tlru =>
    obtain ⟨dx, dd, tm, dt, it, od, t, u, xs, is_, os, ev, kv, rv, ns, rfl, ag, ek, ok, om⟩ := rep
    exact ⟨dx, dd, tm, dt, it, od, t, u, xs, is_, os, ev, kv, rv, ns, rfl, ag, ek, ⟨ok.hnd, ok.hev, ok.hos, Nat.le_succ_of_le ok.hlen, ok.hlk⟩, om⟩
/-- a cache's answers after «cache[k] = v» -/
def setS (pl : Nat) (st : List (K × Value)) (k : K) (v : Value) : List (K × Value) := if (vAt st k).isSome = true then dropS st k ++ [(k, v)] else roomS pl st ++ [(k, v)]
theorem opPut (C : Cach w B knd kd x pl cnt st c m τ) (hc : cnt < 800) (h0 : 0 < pl) (T : Stat (KK w) B.heap) (r : Room (n + 20) fs A) (S₀ : St B fs (c ++ l) s) (hk : knd.is B.heap k key)
    (h : ∀ s' c', Cach w B knd kd x pl (cnt + 1) (setS pl st k v) c' m τ → St B fs (c' ++ l) s' → R (.ok (.ret .none)) s') (hm : 0 ≤ m := by first | decide | assumption) : codeAny (model pw w) A (.call (.ref (setF kd)) ⟨[.ref x, key, v], []⟩) R s := by
  unfold setS at h
  cases hv : vAt st k with
  | none =>
    rw [hv, if_neg (by simp)] at h
    exact opSet (n := n) C hc h0 T r S₀ hk hv h
  | some v' =>
    rw [hv, if_pos (show (some v').isSome = true from rfl)] at h
    cases kd with
    | fifo => exact opSetThere0 (n := n) C h0 (.inl rfl) T r S₀ hk hv fun s' c' C' S' => h s' c' C'.more S'
    | lru => exact opSetThere0 (n := n) C h0 (.inr rfl) T r S₀ hk hv fun s' c' C' S' => h s' c' C'.more S'
    | ttl => exact opSetThere1 (n := n) C h0 T r S₀ hk hv fun s' c' C' S' => h s' c' C'.more S'
    | tlru => exact opSetThere2 (n := n) C hc h0 T r S₀ hk hv h
theorem cachePut {Q : Unit → Shared → Prop} (C : Cach w B knd kd x pl cnt st c m τ) (hc : cnt < 800) (h0 : 0 < pl) (T : Stat (KK w) B.heap) (r : Room (n + 20) fs A) (S₀ : St B fs (c ++ l) s) (hk : knd.is B.heap k key)
    (h : ∀ s' c', Cach w B knd kd x pl (cnt + 1) (setS pl st k v) c' m τ → St B fs (c' ++ l) s' → Q () s') (hm : 0 ≤ m := by first | decide | assumption) : wpAny (model pw w) A (setItem (.ref x) key v) Q E s := by
  obtain ⟨dx, ns, mi, md⟩ := C.inst
  exact setOwnItem T S₀ (List.mem_append_left _ mi) (List.mem_append_left _ md) sqSet spSet (wpAny_call (opPut (n := n) C hc h0 T r S₀ hk fun s' c' C' S' => h s' c' C' S'))
theorem spDel : specFn (KK w) (clsOf kd) (Str.ofString "__delitem__") (delF kd) = true := by cases kd <;> kernel_rfl
theorem cacheDel {Q : Unit → Shared → Prop} (C : Cach w B knd kd x pl cnt st c m τ) (hc : cnt < 800) (T : Stat (KK w) B.heap) (r : Room (n + 20) fs A) (S₀ : St B fs (c ++ l) s) (hk : knd.is B.heap k key) (hv : vAt st k = some v)
    (h : ∀ s' c', Cach w B knd kd x pl cnt (dropS st k) c' m τ → St B fs (c' ++ l) s' → Q () s') (hm : 0 ≤ m := by first | decide | assumption) : wpAny (model pw w) A (delItem (.ref x) key) Q E s := by
  obtain ⟨dx, ns, mi, md⟩ := C.inst
  exact delOwn T S₀ (List.mem_append_left _ mi) (List.mem_append_left _ md) sqSet spDel (wpAny_call (opDel (n := n) C hc T r S₀ hk hv fun s' c' C' S' => h s' c' C' S'))
end

end
-- W2
section
set_option maxRecDepth 100000
set_option maxHeartbeats 800000
section
variable {w : World} {A : Around} {E : Value → Shared → Prop} {B : Shared} {fs : List Env} {l c : Cells} {s : Shared} {R : Result → Shared → Prop} {x : Addr} {n pl cnt : Nat} {K : Type} [DecidableEq K] {knd : AnyKind pw w K} {kd : Kind} {st st' : List (K × Value)} {k : K} {key v v' dv : Value} {m : Int} {τ : Option Addr}
theorem drop_drop : dropS (dropS st k) k = dropS st k := by
  unfold dropS
  rw [List.filter_filter]
  simp
theorem drop_touch : dropS (touchS kd st k v) k = dropS st k := by
  have e : dropS (dropS st k ++ [(k, v)]) k = dropS st k := by
    have h : dropS (dropS st k ++ [(k, v)]) k = dropS (dropS st k) k ++ dropS [(k, v)] k := by unfold dropS; rw [List.filter_append]
    rw [h, drop_drop]
    simp [dropS]
  cases kd with
  | fifo => rfl
  | lru => exact e
  | ttl => exact e
  | tlru => exact e
theorem vAt_touch (hv : vAt st k = some v) : vAt (touchS kd st k v) k = some v := by
  have e : vAt (dropS st k ++ [(k, v)]) k = some v := by rw [vAt_snoc not_mem_drop, if_pos rfl]
  cases kd with
  | fifo => exact hv
  | lru => exact e
  | ttl => exact e
  | tlru => exact e
/-- Cache.get, the key is there -/
theorem c813_yes (C : Cach w B knd kd x pl cnt st c m τ) (T : Stat (KK w) B.heap) (r : Room (n + 23) fs A) (S₀ : St B fs (c ++ l) s) (hk : knd.is B.heap k key) (hv : vAt st k = some v)
    (h : ∀ s' c', Cach w B knd kd x pl cnt (touchS kd st k v) c' m τ → St B fs (c' ++ l) s' → R (.ok (.ret v)) s') (hm : 0 ≤ m := by first | decide | assumption) : codeAny (model pw w) A (.call (.ref 813) ⟨[.ref x, key], []⟩) R s := by
  refine callS (binds := [(S "self", .ref x), (S "key", key), (S "default", .none)]) (names := [S "self", S "key", S "default"]) (locs := [(S "default", .none), (S "key", key), (S "self", .ref x)]) fnOk813 T S₀ r (bndT T S₀ [.none] rfl (by kernel_rfl) (by rfl) (by kernel_rfl)) rfl rfl (by kernel_rfl) (by decide +kernel) (by kernel_rfl) fun L s' r₁ S₁ => ?_
  refine wpAny_execs_cons ?_
  walk_at "m_wk"
  refine cacheIn (n := n) C T (r₁.less (by omega)) (S₁.perm (l' := c ++ ((L, _) :: l)) (by walk_at "m_pm")) hk fun s' c1 C1 S2 => ?_
  rw [hv]
  have S2 := S2.perm (l' := (L, _) :: (c1 ++ l)) (by walk_at "m_pm")
  clear S₁
  walk_at "m_wki"
  refine Subscript_ ?_
  walk_at "m_wk"
  refine cacheGet (n := n) C1 T (r₁.less (by omega)) (S2.perm (l' := c1 ++ ((L, _) :: l)) (by walk_at "m_pm")) hk hv fun s' c2 C2 S3 => ?_
  exact h _ c2 C2 (St.done L S3 (by walk_at "m_pm"))
/-- Cache.get, the key is not there -/
theorem c813_no (C : Cach w B knd kd x pl cnt st c m τ) (T : Stat (KK w) B.heap) (r : Room (n + 23) fs A) (S₀ : St B fs (c ++ l) s) (hk : knd.is B.heap k key) (hv : vAt st k = none)
    (h : ∀ s' c', Cach w B knd kd x pl cnt st c' m τ → St B fs (c' ++ l) s' → R (.ok (.ret .none)) s') (hm : 0 ≤ m := by first | decide | assumption) : codeAny (model pw w) A (.call (.ref 813) ⟨[.ref x, key], []⟩) R s := by
  refine callS (binds := [(S "self", .ref x), (S "key", key), (S "default", .none)]) (names := [S "self", S "key", S "default"]) (locs := [(S "default", .none), (S "key", key), (S "self", .ref x)]) fnOk813 T S₀ r (bndT T S₀ [.none] rfl (by kernel_rfl) (by rfl) (by kernel_rfl)) rfl rfl (by kernel_rfl) (by decide +kernel) (by kernel_rfl) fun L s' r₁ S₁ => ?_
  refine wpAny_execs_cons ?_
  walk_at "m_wk"
  refine cacheIn (n := n) C T (r₁.less (by omega)) (S₁.perm (l' := c ++ ((L, _) :: l)) (by walk_at "m_pm")) hk fun s' c1 C1 S2 => ?_
  rw [hv]
  have S2 := S2.perm (l' := (L, _) :: (c1 ++ l)) (by walk_at "m_pm")
  clear S₁
  walk_at "m_wki"
  exact h _ c1 C1 (St.done L S2 (by walk_at "m_pm"))
/-- Cache.setdefault, the key is there -/
theorem c829_yes (C : Cach w B knd kd x pl cnt st c m τ) (T : Stat (KK w) B.heap) (r : Room (n + 23) fs A) (S₀ : St B fs (c ++ l) s) (hk : knd.is B.heap k key) (hv : vAt st k = some v)
    (h : ∀ s' c', Cach w B knd kd x pl cnt (touchS kd st k v) c' m τ → St B fs (c' ++ l) s' → R (.ok (.ret v)) s') (hm : 0 ≤ m := by first | decide | assumption) : codeAny (model pw w) A (.call (.ref 829) ⟨[.ref x, key, dv], []⟩) R s := by
  refine callS (binds := [(S "self", .ref x), (S "key", key), (S "default", dv)]) (names := [S "self", S "key", S "default"]) (locs := [(S "default", dv), (S "key", key), (S "self", .ref x)]) fnOk829 T S₀ r (bndT T S₀ [.none] rfl (by kernel_rfl) (by rfl) (by kernel_rfl)) rfl rfl (by kernel_rfl) (by decide +kernel) (by kernel_rfl) fun L s' r₁ S₁ => ?_
  refine wpAny_execs_cons ?_
  walk_at "m_wk"
  refine cacheIn (n := n) C T (r₁.less (by omega)) (S₁.perm (l' := c ++ ((L, _) :: l)) (by walk_at "m_pm")) hk fun s' c1 C1 S2 => ?_
  rw [hv]
  have S2 := S2.perm (l' := (L, _) :: (c1 ++ l)) (by walk_at "m_pm")
  clear S₁
  walk_at "m_wki"
  refine Subscript_ ?_
  walk_at "m_wk"
  refine cacheGet (n := n) C1 T (r₁.less (by omega)) (S2.perm (l' := c1 ++ ((L, _) :: l)) (by walk_at "m_pm")) hk hv fun s' c2 C2 S3 => ?_
  have S3 := S3.perm (l' := (L, _) :: (c2 ++ l)) (by walk_at "m_pm")
  clear S2
  walk_at "m_wki"
  exact h _ c2 C2 (St.done L (by assumption) (by walk_at "m_pm"))
/-- Cache.setdefault, the key is not there -/
theorem c829_no (C : Cach w B knd kd x pl cnt st c m τ) (hc : cnt < 800) (h0 : 0 < pl) (T : Stat (KK w) B.heap) (r : Room (n + 23) fs A) (S₀ : St B fs (c ++ l) s) (hk : knd.is B.heap k key) (hv : vAt st k = none)
    (h : ∀ s' c', Cach w B knd kd x pl (cnt + 1) (setS pl st k dv) c' m τ → St B fs (c' ++ l) s' → R (.ok (.ret dv)) s') (hm : 0 ≤ m := by first | decide | assumption) : codeAny (model pw w) A (.call (.ref 829) ⟨[.ref x, key, dv], []⟩) R s := by
  refine callS (binds := [(S "self", .ref x), (S "key", key), (S "default", dv)]) (names := [S "self", S "key", S "default"]) (locs := [(S "default", dv), (S "key", key), (S "self", .ref x)]) fnOk829 T S₀ r (bndT T S₀ [.none] rfl (by kernel_rfl) (by rfl) (by kernel_rfl)) rfl rfl (by kernel_rfl) (by decide +kernel) (by kernel_rfl) fun L s' r₁ S₁ => ?_
  refine wpAny_execs_cons ?_
  walk_at "m_wk"
  refine cacheIn (n := n) C T (r₁.less (by omega)) (S₁.perm (l' := c ++ ((L, _) :: l)) (by walk_at "m_pm")) hk fun s' c1 C1 S2 => ?_
  rw [hv]
  have S2 := S2.perm (l' := (L, _) :: (c1 ++ l)) (by walk_at "m_pm")
  clear S₁
  walk_at "m_wki"
  refine cachePut (n := n) C1 hc h0 T (r₁.less (by omega)) (S2.perm (l' := c1 ++ ((L, _) :: l)) (by walk_at "m_pm")) hk fun s' c2 C2 S3 => ?_
  have S3 := S3.perm (l' := (L, _) :: (c2 ++ l)) (by walk_at "m_pm")
  clear S2
  walk_at "m_wki"
  exact h _ c2 C2 (St.done L (by assumption) (by walk_at "m_pm"))
/-- Cache.pop with a default of None, the key is there -/
theorem c821_yes (C : Cach w B knd kd x pl cnt st c m τ) (hc : cnt < 800) (T : Stat (KK w) B.heap) (r : Room (n + 23) fs A) (S₀ : St B fs (c ++ l) s) (hk : knd.is B.heap k key) (hv : vAt st k = some v)
    (h : ∀ s' c', Cach w B knd kd x pl cnt (dropS st k) c' m τ → St B fs (c' ++ l) s' → R (.ok (.ret v)) s') (hm : 0 ≤ m := by first | decide | assumption) : codeAny (model pw w) A (.call (.ref 821) ⟨[.ref x, key, .none], []⟩) R s := by
  refine callS (binds := [(S "self", .ref x), (S "key", key), (S "default", .none)]) (names := [S "self", S "key", S "default"]) (locs := [(S "default", .none), (S "key", key), (S "self", .ref x)]) fnOk821 T S₀ r (bndT T S₀ [.ref 741] rfl (by kernel_rfl) (by rfl) (by kernel_rfl)) rfl rfl (by kernel_rfl) (by decide +kernel) (by kernel_rfl) fun L s' r₁ S₁ => ?_
  refine wpAny_execs_cons ?_
  walk_at "m_wk"
  refine cacheIn (n := n) C T (r₁.less (by omega)) (S₁.perm (l' := c ++ ((L, _) :: l)) (by walk_at "m_pm")) hk fun s' c1 C1 S2 => ?_
  rw [hv]
  have S2 := S2.perm (l' := (L, _) :: (c1 ++ l)) (by walk_at "m_pm")
  clear S₁
  walk_at "m_wki"
  refine Subscript_ ?_
  walk_at "m_wk"
  refine cacheGet (n := n) C1 T (r₁.less (by omega)) (S2.perm (l' := c1 ++ ((L, _) :: l)) (by walk_at "m_pm")) hk hv fun s' c2 C2 S3 => ?_
  have S3 := S3.perm (l' := (L, _) :: (c2 ++ l)) (by walk_at "m_pm")
  clear S2
  walk_at "m_wki"
  refine cacheDel (n := n) C2 hc T (r₁.less (by omega)) (St.perm (l' := c2 ++ ((L, _) :: l)) (by assumption) (by walk_at "m_pm")) hk (vAt_touch hv) fun s' c3 C3 S4 => ?_
  rw [drop_touch] at C3
  have S4 := S4.perm (l' := (L, _) :: (c3 ++ l)) (by walk_at "m_pm")
  clear S3
  walk_at "m_wki"
  exact h _ c3 C3 (St.done L (by assumption) (by walk_at "m_pm"))
theorem spMark : clsName (KK w) (clsOf kd) (Str.ofString "_Cache__marker") (.ref 741) = true := by cases kd <;> kernel_rfl
theorem noneIs {M : Model} {a : Addr} {Q : Value → Shared → Prop} (h : Q (.bool false) s) : wpAny M A (compareOp .Is .none (.ref a)) Q E s := by
  show wpAny M A (do return .bool (← isSame .none (.ref a))) Q E s
  exact wpAny_bind (wpAny_isSame_plain rfl (wpAny_pure h))
theorem Cach.instMark (C : Cach w B knd kd x pl cnt st c m τ) : ∃ dx ns, (x, instC (clsOf kd) dx) ∈ c ∧ (dx, idC ns) ∈ c ∧ Str.ofString "_Cache__marker" ∉ ns.map (·.1) := by
  cases kd with
  | fifo => obtain ⟨dx, dd, od, t, u, xs, os, rfl, _⟩ := C.rep; exact ⟨dx, _, .head _, .tail _ (.head _), by walk_at "m_nin"⟩
  | lru => obtain ⟨dx, dd, od, t, u, xs, os, rfl, _⟩ := C.rep; exact ⟨dx, _, .head _, .tail _ (.head _), by walk_at "m_nin"⟩
  | ttl => obtain ⟨dx, dd, tm, dt, rt, ld, t, u, tl, xs, ls, ev, kv, nx, pv, ns, rfl, _⟩ := C.rep; exact ⟨dx, _, .head _, .tail _ (.head _), by walk_at "m_nin"⟩
  | tlru => obtain ⟨dx, dd, tm, dt, it, od, t, u, xs, is_, os, ev, kv, rv, ns, rfl, _⟩ := C.rep; exact ⟨dx, _, .head _, .tail _ (.head _), by walk_at "m_nin"⟩
/-- Cache.pop with a default of None, the key is not there -/
theorem c821_no (C : Cach w B knd kd x pl cnt st c m τ) (T : Stat (KK w) B.heap) (r : Room (n + 23) fs A) (S₀ : St B fs (c ++ l) s) (hk : knd.is B.heap k key) (hv : vAt st k = none)
    (h : ∀ s' c', Cach w B knd kd x pl cnt st c' m τ → St B fs (c' ++ l) s' → R (.ok (.ret .none)) s') (hm : 0 ≤ m := by first | decide | assumption) : codeAny (model pw w) A (.call (.ref 821) ⟨[.ref x, key, .none], []⟩) R s := by
  refine callS (binds := [(S "self", .ref x), (S "key", key), (S "default", .none)]) (names := [S "self", S "key", S "default"]) (locs := [(S "default", .none), (S "key", key), (S "self", .ref x)]) fnOk821 T S₀ r (bndT T S₀ [.ref 741] rfl (by kernel_rfl) (by rfl) (by kernel_rfl)) rfl rfl (by kernel_rfl) (by decide +kernel) (by kernel_rfl) fun L s' r₁ S₁ => ?_
  refine wpAny_execs_cons ?_
  walk_at "m_wk"
  refine cacheIn (n := n) C T (r₁.less (by omega)) (S₁.perm (l' := c ++ ((L, _) :: l)) (by walk_at "m_pm")) hk fun s' c1 C1 S2 => ?_
  rw [hv]
  have S2 := S2.perm (l' := (L, _) :: (c1 ++ l)) (by walk_at "m_pm")
  clear S₁
  walk_at "m_wki"
  obtain ⟨dx, ns, mi, md, mn⟩ := C1.instMark
  refine getCls T S2 (List.mem_cons_of_mem _ (List.mem_append_left _ mi)) (List.mem_cons_of_mem _ (List.mem_append_left _ md)) spMark (fun s' S3 => ?_) mn
  clear S2
  refine noneIs ?_
  walk_at "m_wki"
  exact h _ c1 C1 (St.done L (by assumption) (by walk_at "m_pm"))
end

end
-- W3
section
set_option maxRecDepth 100000
set_option maxHeartbeats 800000
section
variable {w : World} {A : Around} {E : Value → Shared → Prop} {B : Shared} {fs : List Env} {l c : Cells} {s : Shared} {R : Result → Shared → Prop} {x : Addr} {n pl cnt : Nat} {K : Type} [DecidableEq K] {knd : AnyKind pw w K} {kd : Kind} {st st' : List (K × Value)} {k : K} {key v v' dv : Value} {m : Int} {τ : Option Addr}
/-- the timer in a timed cache -/
theorem Cach.timed (C : Cach w B knd kd x pl cnt st c m τ) (hk : kd = .ttl ∨ kd = .tlru) : ∃ dx ns dd cd tm dt rest, (∀ a, τ = some a → tm = a) ∧ (S "_TimedCache__timer", .ref tm) ∈ ns ∧ c = (x, instC (clsOf kd) dx) :: (dx, idC ns) :: (dd, cd) :: (tm, instC 1044 dt) :: (dt, timC m) :: rest ∧
    ∀ m' τ', (∀ a, τ' = some a → tm = a) → Cach w B knd kd x pl cnt st ((x, instC (clsOf kd) dx) :: (dx, idC ns) :: (dd, cd) :: (tm, instC 1044 dt) :: (dt, timC m') :: rest) m' τ' := by
  obtain ⟨rep, nd, hlen, hpl⟩ := C
  rcases hk with rfl | rfl
  · obtain ⟨dx, dd, tm, dt, rt, ld, t, u, tl, xs, ls, ev, kv, nx, pv, ns, rfl, ag, ek, ok, om⟩ := rep
    exact ⟨dx, _, dd, _, tm, dt, _, om.tim, by walk_at "m_mem", rfl, fun m' τ' hτ => ⟨⟨dx, dd, tm, dt, rt, ld, t, u, tl, xs, ls, ev, kv, nx, pv, ns, rfl, ag, ek, ok, ⟨hτ, om.ring, om.key⟩⟩, nd, hlen, hpl⟩⟩
  · obtain ⟨dx, dd, tm, dt, it, od, t, u, xs, is_, os, ev, kv, rv, ns, rfl, ag, ek, ok, om⟩ := rep
    exact ⟨dx, _, dd, _, tm, dt, _, om.tim, by walk_at "m_mem", rfl, fun m' τ' hτ => ⟨⟨dx, dd, tm, dt, it, od, t, u, xs, is_, os, ev, kv, rv, ns, rfl, ag, ek, ok, ⟨hτ, om.live, om.nd, om.key⟩⟩, nd, hlen, hpl⟩⟩
theorem onTimer (hk : kd = .ttl ∨ kd = .tlru) : ownName (KK w) (clsOf kd) (S "_TimedCache__timer") = true := by rcases hk with rfl | rfl <;> kernel_rfl
theorem methodCall_St {M : Model} {env : Env} {o : Expr} {name : Str} {apos pos : Pos} {args : List Expr} {kws : List Keyword} {Q : Value → Shared → Prop}
    (h : wpAny M A (eval o env) (fun ov s₁ => wpAny M A (getAttr ov name true) (fun f s₂ => wpAny M A (callWith pos f [] (backTo pos (starEach args env)) (backToKw pos (keywordEach kws env))) Q E s₂) E s₁) E s)
    (he : eval (.Call (.Attribute o name apos) args kws pos) env = (do
      let ov ← eval o env
      standAt apos.atName
      let (f, first) ← holding [ov] (do pure (← getAttr ov name true, []))
      callWith pos f first (backTo pos (starEach args env)) (backToKw pos (keywordEach kws env))) := by rfl) :
    wpAny M A (eval (.Call (.Attribute o name apos) args kws pos) env) Q E s := by
  rw [he]
  refine wpAny_bind (wpAny_mono h (fun ov s₁ h₁ => wpAny_bind (wpAny_standAt (wpAny_bind (wpAny_holding (wpAny_bind (wpAny_mono h₁ (fun f s₂ h₂ => wpAny_pure ?_) fun _ _ x => x)))))) fun _ _ x => x)
  exact h₂
theorem callStarredE {prog : Program} {KF : Frag} {f : Value} {pos : Pos} {first rest : List Value} {t₁ t₂ t₃ : Sem Value} {as : List (Bool × Sem Value)} {kws : List (Option Str × Sem Value)} {Q : Value → Shared → Prop} (T : Stat KF B.heap) (hk : keepIn KF f = true) (hsz : rest.length ≤ sizeLine)
    (ha : as = [(false, t₁), (true, t₂)]) (hw : kws = [(none, t₃)])
    (h : wpAny (model prog w) A t₁ (fun v₁ s₁ => wpAny (model prog w) A t₂ (fun v₂ s₂ => ∃ t l, v₂ = .ref t ∧ (t, objC { cls := .type "tuple", data := .seq rest.toArray }) ∈ l ∧ St B fs l s₂ ∧
      ∀ d s₃, St B fs ((d, objC kwObj) :: l) s₃ → wpAny (model prog w) A t₃ (fun v₃ s₄ => ∃ m l', v₃ = .ref m ∧ (m, objC kwObj) ∈ l' ∧ (d, objC kwObj) ∈ l' ∧ St B fs l' s₄ ∧ wpAny (model prog w) A (call f (first ++ (v₁ :: rest))) Q E s₄) E s₃) E s₁) E s) :
    wpAny (model prog w) A (callWith pos f first as kws) Q E s := by
  subst ha hw; exact callStarred T hk hsz h
/-- _TimedCache.get: what it does is what the base class does -/
theorem c1096 {cnt' : Nat} (hkd : kd = .ttl ∨ kd = .tlru) (C : Cach w B knd kd x pl cnt st c) (T : Stat (KK w) B.heap) (r : Room (n + 26) fs A) (S₀ : St B fs (c ++ l) s)
    (inner : ∀ (tm : Addr) (A' : Around) (fs' : List Env) (s' : Shared) (l' c' : Cells) (R' : Result → Shared → Prop), Room (n + 25) fs' A' → Cach w B knd kd x pl cnt st c' 1 (some tm) → St B fs' (c' ++ l') s' →
      (∀ s'' c'', Cach w B knd kd x pl cnt' st' c'' 1 (some tm) → St B fs' (c'' ++ l') s'' → R' (.ok (.ret v)) s'') → codeAny (model pw w) A' (.call (.ref 813) ⟨[.ref x, key], []⟩) R' s')
    (h : ∀ s' c', Cach w B knd kd x pl cnt' st' c' → St B fs (c' ++ l) s' → R (.ok (.ret v)) s') : codeAny (model pw w) A (.call (.ref 1096) ⟨[.ref x, key], []⟩) R s := by
  refine callStar2 (binds := fun t d => [(S "self", .ref x), (S "args", .ref t), (S "kwargs", .ref d)]) (rest := [key]) (names := [S "self", S "args", S "kwargs"]) (locs := fun t d => [(S "kwargs", .ref d), (S "args", .ref t), (S "self", .ref x)]) fnOk1096 T S₀ r
    (fun M A E Q hq => ?_) (fun _ _ => rfl) (fun _ _ => rfl) (by kernel_rfl) (by decide +kernel) (by kernel_rfl) fun tt dk L s' r₁ S₁ => ?_
  · have e : bindArgs fd1096 ⟨[.ref x, key], []⟩ = (do let t ← newTuple [key]; let d ← alloc kwObj; pure [(S "self", .ref x), (S "args", t), (S "kwargs", .ref d)]) := by kernel_rfl
    rw [e]
    refine wpAny_bind (wpAny_newObj_type (wpAny_bind (wpAny_alloc (wpAny_pure ?_))) (by show (1 : Nat) ≤ sizeLine; rw [sizeLine_eq]; decide))
    have := hq
    rw [← Heap.size_push s.heap { cls := .type "tuple", data := .seq [key].toArray }] at this
    exact this
  obtain ⟨dx, ns, dd, cd, tm, dt, rest, _, mt, rfl, C1⟩ := C.timed hkd
  simp only [List.cons_append] at S₁
  refine wpAny_execs_cons ?_
  refine kw_exec0 ?_
  refine Attribute_any_ ?_
  walk_at "m_wk"
  refine getOwn T (by assumption) (by walk_at "m_mem") (by walk_at "m_mem") mt (onTimer hkd) rfl fun s' S' => ?_
  refine withIn0 (by assumption) (by assumption) (fe := 1020) (fx := 1027) (by walk_at "m_mem") (by walk_at "m_mem") (by kernel_rfl) (by kernel_rfl) ?_
  refine wpAny_call (c1020 (by assumption) (Room.less (m := 0 + 3) (by assumption) (by omega)) (St.perm (by assumption) (by walk_at "m_pm")) fun s' t S' => ?_)
  walk_at "m_wk"
  refine methodCall_St ?_
  walk_at "m_wk"
  refine getClsFn (f := 813) T (by assumption) (by kernel_rfl) fun s' S' => ?_
  refine callStarredE (fs := fnEnv fd1096 L 1096 :: fs) (rest := [key]) T (by kernel_rfl) (by rw [sizeLine_eq]; exact Nat.le_of_ble_eq_true rfl) rfl rfl ?_
  rw [if_neg Bool.false_ne_true]
  walk_at "m_wk"
  rw [if_pos (rfl : true = true)]
  refine wpAny_bind ?_
  walk_at "m_wk"
  refine wpAny_bind (wpAny_standAt (wpAny_pure ?_))
  refine ⟨tt, _, rfl, ?_, by assumption, fun d3 s' S' => ?_⟩
  · walk_at "m_mem"
  refine wpAny_bind ?_
  walk_at "m_wk"
  refine wpAny_bind (wpAny_standAt (wpAny_pure ?_))
  refine ⟨dk, _, rfl, ?_, ?_, by assumption, ?_⟩
  · walk_at "m_mem"
  · walk_at "m_mem"
  rw [show (0 : Int) + 1 = 1 from rfl] at S'
  have S2 := S'.perm (l' := ((x, instC (clsOf kd) dx) :: (dx, idC ns) :: (dd, cd) :: (tm, instC 1044 dt) :: (dt, timC 1) :: rest) ++ ((d3, objC kwObj) :: (L, nsC fd1096.scope [(S "kwargs", .ref dk), (S "args", .ref tt), (S "self", .ref x)]) :: (dk, objC kwObj) :: (tt, objC { cls := .type "tuple", data := .seq [key].toArray }) :: l)) (by simp only [List.cons_append]; walk_at "m_pm")
  refine wpAny_call ?_
  refine inner tm _ _ _ _ _ _ r₁ (C1 1 (some tm) fun a e => by cases e; rfl) S2 fun s' c' C' S3 => ?_
  obtain ⟨dx', ns', dd', cd', tm', dt', rest', ht, _, rfl, C2⟩ := C'.timed hkd
  obtain rfl := ht _ rfl
  simp only [List.cons_append] at S3
  rw [show timC 1 = timC (0 + 1) from rfl] at S3
  walk_at "m_wk"
  refine wpAny_call (c1027 (m := 0) T (r₁.less (m := 0 + 3) (by omega)) (S3.perm (l' := timerC tm' dt' (0 + 1) ((L, nsC fd1096.scope [(S "kwargs", .ref dk), (S "args", .ref tt), (S "self", .ref x)]) :: (d3, objC kwObj) :: (dk, objC kwObj) :: (tt, objC { cls := .type "tuple", data := .seq [key].toArray }) :: (x, instC (clsOf kd) dx') :: (dx', idC ns') :: (dd', cd') :: (rest' ++ l))) (by walk_at "m_pm")) (by decide) fun s' S4 => ?_)
  have S5 := S4.perm (l' := (L, nsC fd1096.scope [(S "kwargs", .ref dk), (S "args", .ref tt), (S "self", .ref x)]) :: (d3, objC kwObj) :: (dk, objC kwObj) :: (tt, objC { cls := .type "tuple", data := .seq [key].toArray }) :: (x, instC (clsOf kd) dx') :: (dx', idC ns') :: (dd', cd') :: (tm', instC 1044 dt') :: (dt', timC 0) :: (rest' ++ l)) (by walk_at "m_pm")
  exact h _ _ (C2 0 none fun a e => by cases e) (St.pop S5).tail.tail.tail.tail
/-- _TimedCache.pop -/
theorem c1103 {cnt' : Nat} (hkd : kd = .ttl ∨ kd = .tlru) (C : Cach w B knd kd x pl cnt st c) (T : Stat (KK w) B.heap) (r : Room (n + 26) fs A) (S₀ : St B fs (c ++ l) s)
    (inner : ∀ (tm : Addr) (A' : Around) (fs' : List Env) (s' : Shared) (l' c' : Cells) (R' : Result → Shared → Prop), Room (n + 25) fs' A' → Cach w B knd kd x pl cnt st c' 1 (some tm) → St B fs' (c' ++ l') s' →
      (∀ s'' c'', Cach w B knd kd x pl cnt' st' c'' 1 (some tm) → St B fs' (c'' ++ l') s'' → R' (.ok (.ret v)) s'') → codeAny (model pw w) A' (.call (.ref 821) ⟨[.ref x, key, .none], []⟩) R' s')
    (h : ∀ s' c', Cach w B knd kd x pl cnt' st' c' → St B fs (c' ++ l) s' → R (.ok (.ret v)) s') : codeAny (model pw w) A (.call (.ref 1103) ⟨[.ref x, key, .none], []⟩) R s := by
  refine callStar2 (binds := fun t d => [(S "self", .ref x), (S "args", .ref t), (S "kwargs", .ref d)]) (rest := [key, .none]) (names := [S "self", S "args", S "kwargs"]) (locs := fun t d => [(S "kwargs", .ref d), (S "args", .ref t), (S "self", .ref x)]) fnOk1103 T S₀ r
    (fun M A E Q hq => ?_) (fun _ _ => rfl) (fun _ _ => rfl) (by kernel_rfl) (by decide +kernel) (by kernel_rfl) fun tt dk L s' r₁ S₁ => ?_
  · have e : bindArgs fd1103 ⟨[.ref x, key, .none], []⟩ = (do let t ← newTuple [key, .none]; let d ← alloc kwObj; pure [(S "self", .ref x), (S "args", t), (S "kwargs", .ref d)]) := by kernel_rfl
    rw [e]
    refine wpAny_bind (wpAny_newObj_type (wpAny_bind (wpAny_alloc (wpAny_pure ?_))) (by show (2 : Nat) ≤ sizeLine; rw [sizeLine_eq]; decide))
    have := hq
    rw [← Heap.size_push s.heap { cls := .type "tuple", data := .seq [key, .none].toArray }] at this
    exact this
  obtain ⟨dx, ns, dd, cd, tm, dt, rest, _, mt, rfl, C1⟩ := C.timed hkd
  simp only [List.cons_append] at S₁
  refine wpAny_execs_cons ?_
  refine kw_exec0 ?_
  refine Attribute_any_ ?_
  walk_at "m_wk"
  refine getOwn T (by assumption) (by walk_at "m_mem") (by walk_at "m_mem") mt (onTimer hkd) rfl fun s' S' => ?_
  refine withIn0 (by assumption) (by assumption) (fe := 1020) (fx := 1027) (by walk_at "m_mem") (by walk_at "m_mem") (by kernel_rfl) (by kernel_rfl) ?_
  refine wpAny_call (c1020 (by assumption) (Room.less (m := 0 + 3) (by assumption) (by omega)) (St.perm (by assumption) (by walk_at "m_pm")) fun s' t S' => ?_)
  walk_at "m_wk"
  refine methodCall_St ?_
  walk_at "m_wk"
  refine getClsFn (f := 821) T (by assumption) (by kernel_rfl) fun s' S' => ?_
  refine callStarredE (fs := fnEnv fd1103 L 1103 :: fs) (rest := [key, .none]) T (by kernel_rfl) (by rw [sizeLine_eq]; exact Nat.le_of_ble_eq_true rfl) rfl rfl ?_
  rw [if_neg Bool.false_ne_true]
  walk_at "m_wk"
  rw [if_pos (rfl : true = true)]
  refine wpAny_bind ?_
  walk_at "m_wk"
  refine wpAny_bind (wpAny_standAt (wpAny_pure ?_))
  refine ⟨tt, _, rfl, ?_, by assumption, fun d3 s' S' => ?_⟩
  · walk_at "m_mem"
  refine wpAny_bind ?_
  walk_at "m_wk"
  refine wpAny_bind (wpAny_standAt (wpAny_pure ?_))
  refine ⟨dk, _, rfl, ?_, ?_, by assumption, ?_⟩
  · walk_at "m_mem"
  · walk_at "m_mem"
  rw [show (0 : Int) + 1 = 1 from rfl] at S'
  have S2 := S'.perm (l' := ((x, instC (clsOf kd) dx) :: (dx, idC ns) :: (dd, cd) :: (tm, instC 1044 dt) :: (dt, timC 1) :: rest) ++ ((d3, objC kwObj) :: (L, nsC fd1103.scope [(S "kwargs", .ref dk), (S "args", .ref tt), (S "self", .ref x)]) :: (dk, objC kwObj) :: (tt, objC { cls := .type "tuple", data := .seq [key, .none].toArray }) :: l)) (by simp only [List.cons_append]; walk_at "m_pm")
  refine wpAny_call ?_
  refine inner tm _ _ _ _ _ _ r₁ (C1 1 (some tm) fun a e => by cases e; rfl) S2 fun s' c' C' S3 => ?_
  obtain ⟨dx', ns', dd', cd', tm', dt', rest', ht, _, rfl, C2⟩ := C'.timed hkd
  obtain rfl := ht _ rfl
  simp only [List.cons_append] at S3
  rw [show timC 1 = timC (0 + 1) from rfl] at S3
  walk_at "m_wk"
  refine wpAny_call (c1027 (m := 0) T (r₁.less (m := 0 + 3) (by omega)) (S3.perm (l' := timerC tm' dt' (0 + 1) ((L, nsC fd1103.scope [(S "kwargs", .ref dk), (S "args", .ref tt), (S "self", .ref x)]) :: (d3, objC kwObj) :: (dk, objC kwObj) :: (tt, objC { cls := .type "tuple", data := .seq [key, .none].toArray }) :: (x, instC (clsOf kd) dx') :: (dx', idC ns') :: (dd', cd') :: (rest' ++ l))) (by walk_at "m_pm")) (by decide) fun s' S4 => ?_)
  have S5 := S4.perm (l' := (L, nsC fd1103.scope [(S "kwargs", .ref dk), (S "args", .ref tt), (S "self", .ref x)]) :: (d3, objC kwObj) :: (dk, objC kwObj) :: (tt, objC { cls := .type "tuple", data := .seq [key, .none].toArray }) :: (x, instC (clsOf kd) dx') :: (dx', idC ns') :: (dd', cd') :: (tm', instC 1044 dt') :: (dt', timC 0) :: (rest' ++ l)) (by walk_at "m_pm")
  exact h _ _ (C2 0 none fun a e => by cases e) (St.pop S5).tail.tail.tail.tail
/-- _TimedCache.setdefault -/
theorem c1110 {cnt' : Nat} (hkd : kd = .ttl ∨ kd = .tlru) (C : Cach w B knd kd x pl cnt st c) (T : Stat (KK w) B.heap) (r : Room (n + 26) fs A) (S₀ : St B fs (c ++ l) s)
    (inner : ∀ (tm : Addr) (A' : Around) (fs' : List Env) (s' : Shared) (l' c' : Cells) (R' : Result → Shared → Prop), Room (n + 25) fs' A' → Cach w B knd kd x pl cnt st c' 1 (some tm) → St B fs' (c' ++ l') s' →
      (∀ s'' c'', Cach w B knd kd x pl cnt' st' c'' 1 (some tm) → St B fs' (c'' ++ l') s'' → R' (.ok (.ret v)) s'') → codeAny (model pw w) A' (.call (.ref 829) ⟨[.ref x, key, dv], []⟩) R' s')
    (h : ∀ s' c', Cach w B knd kd x pl cnt' st' c' → St B fs (c' ++ l) s' → R (.ok (.ret v)) s') : codeAny (model pw w) A (.call (.ref 1110) ⟨[.ref x, key, dv], []⟩) R s := by
  refine callStar2 (binds := fun t d => [(S "self", .ref x), (S "args", .ref t), (S "kwargs", .ref d)]) (rest := [key, dv]) (names := [S "self", S "args", S "kwargs"]) (locs := fun t d => [(S "kwargs", .ref d), (S "args", .ref t), (S "self", .ref x)]) fnOk1110 T S₀ r
    (fun M A E Q hq => ?_) (fun _ _ => rfl) (fun _ _ => rfl) (by kernel_rfl) (by decide +kernel) (by kernel_rfl) fun tt dk L s' r₁ S₁ => ?_
  · have e : bindArgs fd1110 ⟨[.ref x, key, dv], []⟩ = (do let t ← newTuple [key, dv]; let d ← alloc kwObj; pure [(S "self", .ref x), (S "args", t), (S "kwargs", .ref d)]) := by kernel_rfl
    rw [e]
    refine wpAny_bind (wpAny_newObj_type (wpAny_bind (wpAny_alloc (wpAny_pure ?_))) (by show (2 : Nat) ≤ sizeLine; rw [sizeLine_eq]; decide))
    have := hq
    rw [← Heap.size_push s.heap { cls := .type "tuple", data := .seq [key, dv].toArray }] at this
    exact this
  obtain ⟨dx, ns, dd, cd, tm, dt, rest, _, mt, rfl, C1⟩ := C.timed hkd
  simp only [List.cons_append] at S₁
  refine wpAny_execs_cons ?_
  refine kw_exec0 ?_
  refine Attribute_any_ ?_
  walk_at "m_wk"
  refine getOwn T (by assumption) (by walk_at "m_mem") (by walk_at "m_mem") mt (onTimer hkd) rfl fun s' S' => ?_
  refine withIn0 (by assumption) (by assumption) (fe := 1020) (fx := 1027) (by walk_at "m_mem") (by walk_at "m_mem") (by kernel_rfl) (by kernel_rfl) ?_
  refine wpAny_call (c1020 (by assumption) (Room.less (m := 0 + 3) (by assumption) (by omega)) (St.perm (by assumption) (by walk_at "m_pm")) fun s' t S' => ?_)
  walk_at "m_wk"
  refine methodCall_St ?_
  walk_at "m_wk"
  refine getClsFn (f := 829) T (by assumption) (by kernel_rfl) fun s' S' => ?_
  refine callStarredE (fs := fnEnv fd1110 L 1110 :: fs) (rest := [key, dv]) T (by kernel_rfl) (by rw [sizeLine_eq]; exact Nat.le_of_ble_eq_true rfl) rfl rfl ?_
  rw [if_neg Bool.false_ne_true]
  walk_at "m_wk"
  rw [if_pos (rfl : true = true)]
  refine wpAny_bind ?_
  walk_at "m_wk"
  refine wpAny_bind (wpAny_standAt (wpAny_pure ?_))
  refine ⟨tt, _, rfl, ?_, by assumption, fun d3 s' S' => ?_⟩
  · walk_at "m_mem"
  refine wpAny_bind ?_
  walk_at "m_wk"
  refine wpAny_bind (wpAny_standAt (wpAny_pure ?_))
  refine ⟨dk, _, rfl, ?_, ?_, by assumption, ?_⟩
  · walk_at "m_mem"
  · walk_at "m_mem"
  rw [show (0 : Int) + 1 = 1 from rfl] at S'
  have S2 := S'.perm (l' := ((x, instC (clsOf kd) dx) :: (dx, idC ns) :: (dd, cd) :: (tm, instC 1044 dt) :: (dt, timC 1) :: rest) ++ ((d3, objC kwObj) :: (L, nsC fd1110.scope [(S "kwargs", .ref dk), (S "args", .ref tt), (S "self", .ref x)]) :: (dk, objC kwObj) :: (tt, objC { cls := .type "tuple", data := .seq [key, dv].toArray }) :: l)) (by simp only [List.cons_append]; walk_at "m_pm")
  refine wpAny_call ?_
  refine inner tm _ _ _ _ _ _ r₁ (C1 1 (some tm) fun a e => by cases e; rfl) S2 fun s' c' C' S3 => ?_
  obtain ⟨dx', ns', dd', cd', tm', dt', rest', ht, _, rfl, C2⟩ := C'.timed hkd
  obtain rfl := ht _ rfl
  simp only [List.cons_append] at S3
  rw [show timC 1 = timC (0 + 1) from rfl] at S3
  walk_at "m_wk"
  refine wpAny_call (c1027 (m := 0) T (r₁.less (m := 0 + 3) (by omega)) (S3.perm (l' := timerC tm' dt' (0 + 1) ((L, nsC fd1110.scope [(S "kwargs", .ref dk), (S "args", .ref tt), (S "self", .ref x)]) :: (d3, objC kwObj) :: (dk, objC kwObj) :: (tt, objC { cls := .type "tuple", data := .seq [key, dv].toArray }) :: (x, instC (clsOf kd) dx') :: (dx', idC ns') :: (dd', cd') :: (rest' ++ l))) (by walk_at "m_pm")) (by decide) fun s' S4 => ?_)
  have S5 := S4.perm (l' := (L, nsC fd1110.scope [(S "kwargs", .ref dk), (S "args", .ref tt), (S "self", .ref x)]) :: (d3, objC kwObj) :: (dk, objC kwObj) :: (tt, objC { cls := .type "tuple", data := .seq [key, dv].toArray }) :: (x, instC (clsOf kd) dx') :: (dx', idC ns') :: (dd', cd') :: (tm', instC 1044 dt') :: (dt', timC 0) :: (rest' ++ l)) (by walk_at "m_pm")
  exact h _ _ (C2 0 none fun a e => by cases e) (St.pop S5).tail.tail.tail.tail
end

end
-- W4
section
set_option maxRecDepth 100000
set_option maxHeartbeats 800000
def getM : Kind → Addr
  | .fifo => 813 | .lru => 813 | .ttl => 1096 | .tlru => 1096
def popM : Kind → Addr
  | .fifo => 821 | .lru => 821 | .ttl => 1103 | .tlru => 1103
def sdM : Kind → Addr
  | .fifo => 829 | .lru => 829 | .ttl => 1110 | .tlru => 1110
section
variable {w : World} {A : Around} {E : Value → Shared → Prop} {B : Shared} {fs : List Env} {l c : Cells} {s : Shared} {R : Result → Shared → Prop} {x : Addr} {n pl cnt : Nat} {K : Type} [DecidableEq K] {knd : AnyKind pw w K} {kd : Kind} {st st' : List (K × Value)} {k : K} {key v v' dv : Value} {m : Int} {τ : Option Addr}
def gotS (kd : Kind) (st : List (K × Value)) (k : K) : List (K × Value) := match vAt st k with
  | some v => touchS kd st k v
  | none => st
def sdS (kd : Kind) (pl : Nat) (st : List (K × Value)) (k : K) (dv : Value) : List (K × Value) := match vAt st k with
  | some v => touchS kd st k v
  | none => setS pl st k dv
theorem c813 (C : Cach w B knd kd x pl cnt st c m τ) (T : Stat (KK w) B.heap) (r : Room (n + 23) fs A) (S₀ : St B fs (c ++ l) s) (hk : knd.is B.heap k key)
    (h : ∀ s' c', Cach w B knd kd x pl cnt (gotS kd st k) c' m τ → St B fs (c' ++ l) s' → R (.ok (.ret ((vAt st k).getD .none))) s') (hm : 0 ≤ m := by first | decide | assumption) : codeAny (model pw w) A (.call (.ref 813) ⟨[.ref x, key], []⟩) R s := by
  unfold gotS at h
  cases hv : vAt st k with
  | none => rw [hv] at h; exact c813_no (n := n) C T r S₀ hk hv h
  | some v => rw [hv] at h; exact c813_yes (n := n) C T r S₀ hk hv h
theorem drop_none (hv : vAt st k = none) : dropS st k = st := by
  unfold dropS
  rw [List.filter_eq_self]
  intro e he
  have : e.1 ≠ k := fun q => vAt_eq_none.mp hv (List.mem_map.mpr ⟨e, he, q⟩)
  simp [this]
theorem c821 (C : Cach w B knd kd x pl cnt st c m τ) (hc : cnt < 800) (T : Stat (KK w) B.heap) (r : Room (n + 23) fs A) (S₀ : St B fs (c ++ l) s) (hk : knd.is B.heap k key)
    (h : ∀ s' c', Cach w B knd kd x pl cnt (dropS st k) c' m τ → St B fs (c' ++ l) s' → R (.ok (.ret ((vAt st k).getD .none))) s') (hm : 0 ≤ m := by first | decide | assumption) : codeAny (model pw w) A (.call (.ref 821) ⟨[.ref x, key, .none], []⟩) R s := by
  cases hv : vAt st k with
  | none => rw [hv, drop_none hv] at h; exact c821_no (n := n) C T r S₀ hk hv h
  | some v => rw [hv] at h; exact c821_yes (n := n) C hc T r S₀ hk hv h
theorem c829 (C : Cach w B knd kd x pl cnt st c m τ) (hc : cnt < 800) (h0 : 0 < pl) (T : Stat (KK w) B.heap) (r : Room (n + 23) fs A) (S₀ : St B fs (c ++ l) s) (hk : knd.is B.heap k key)
    (h : ∀ s' c', Cach w B knd kd x pl (cnt + 1) (sdS kd pl st k dv) c' m τ → St B fs (c' ++ l) s' → R (.ok (.ret ((vAt st k).getD dv))) s') (hm : 0 ≤ m := by first | decide | assumption) : codeAny (model pw w) A (.call (.ref 829) ⟨[.ref x, key, dv], []⟩) R s := by
  unfold sdS at h
  cases hv : vAt st k with
  | none => rw [hv] at h; exact c829_no (n := n) C hc h0 T r S₀ hk hv h
  | some v => rw [hv] at h; exact c829_yes (n := n) C T r S₀ hk hv fun s' c' C' S' => h s' c' C'.more S'
theorem opGetM (C : Cach w B knd kd x pl cnt st c) (T : Stat (KK w) B.heap) (r : Room (n + 26) fs A) (S₀ : St B fs (c ++ l) s) (hk : knd.is B.heap k key)
    (h : ∀ s' c', Cach w B knd kd x pl cnt (gotS kd st k) c' → St B fs (c' ++ l) s' → R (.ok (.ret ((vAt st k).getD .none))) s') : codeAny (model pw w) A (.call (.ref (getM kd)) ⟨[.ref x, key], []⟩) R s := by
  have t : ∀ (hkd : kd = .ttl ∨ kd = .tlru), codeAny (model pw w) A (.call (.ref 1096) ⟨[.ref x, key], []⟩) R s := fun hkd =>
    c1096 (n := n) hkd C T r S₀ (fun tm A' fs' s' l' c' R' r' C' S' k' => c813 (n := n) C' T (r'.less (by omega)) S' hk k') h
  cases kd with
  | fifo => exact c813 (n := n) C T (r.less (by omega)) S₀ hk h
  | lru => exact c813 (n := n) C T (r.less (by omega)) S₀ hk h
  | ttl => exact t (.inl rfl)
  | tlru => exact t (.inr rfl)
theorem opPopM (C : Cach w B knd kd x pl cnt st c) (hc : cnt < 800) (T : Stat (KK w) B.heap) (r : Room (n + 26) fs A) (S₀ : St B fs (c ++ l) s) (hk : knd.is B.heap k key)
    (h : ∀ s' c', Cach w B knd kd x pl cnt (dropS st k) c' → St B fs (c' ++ l) s' → R (.ok (.ret ((vAt st k).getD .none))) s') : codeAny (model pw w) A (.call (.ref (popM kd)) ⟨[.ref x, key, .none], []⟩) R s := by
  have t : ∀ (hkd : kd = .ttl ∨ kd = .tlru), codeAny (model pw w) A (.call (.ref 1103) ⟨[.ref x, key, .none], []⟩) R s := fun hkd =>
    c1103 (n := n) hkd C T r S₀ (fun tm A' fs' s' l' c' R' r' C' S' k' => c821 (n := n) C' hc T (r'.less (by omega)) S' hk k') h
  cases kd with
  | fifo => exact c821 (n := n) C hc T (r.less (by omega)) S₀ hk h
  | lru => exact c821 (n := n) C hc T (r.less (by omega)) S₀ hk h
  | ttl => exact t (.inl rfl)
  | tlru => exact t (.inr rfl)
theorem opSdM (C : Cach w B knd kd x pl cnt st c) (hc : cnt < 800) (h0 : 0 < pl) (T : Stat (KK w) B.heap) (r : Room (n + 26) fs A) (S₀ : St B fs (c ++ l) s) (hk : knd.is B.heap k key)
    (h : ∀ s' c', Cach w B knd kd x pl (cnt + 1) (sdS kd pl st k dv) c' → St B fs (c' ++ l) s' → R (.ok (.ret ((vAt st k).getD dv))) s') : codeAny (model pw w) A (.call (.ref (sdM kd)) ⟨[.ref x, key, dv], []⟩) R s := by
  have t : ∀ (hkd : kd = .ttl ∨ kd = .tlru), codeAny (model pw w) A (.call (.ref 1110) ⟨[.ref x, key, dv], []⟩) R s := fun hkd =>
    c1110 (n := n) (cnt' := cnt + 1) hkd C T r S₀ (fun tm A' fs' s' l' c' R' r' C' S' k' => c829 (n := n) C' hc h0 T (r'.less (by omega)) S' hk k') h
  cases kd with
  | fifo => exact c829 (n := n) C hc h0 T (r.less (by omega)) S₀ hk h
  | lru => exact c829 (n := n) C hc h0 T (r.less (by omega)) S₀ hk h
  | ttl => exact t (.inl rfl)
  | tlru => exact t (.inr rfl)
theorem mthGet : methName (KK w) (clsOf kd) (Str.ofString "get") (getM kd) = true := by cases kd <;> kernel_rfl
theorem kpGet : keepIn (KK w) (.ref (getM kd)) = true := by cases kd <;> kernel_rfl
theorem mthPopM : methName (KK w) (clsOf kd) (Str.ofString "pop") (popM kd) = true := by cases kd <;> kernel_rfl
theorem kpPopM : keepIn (KK w) (.ref (popM kd)) = true := by cases kd <;> kernel_rfl
theorem mthSd : methName (KK w) (clsOf kd) (Str.ofString "setdefault") (sdM kd) = true := by cases kd <;> kernel_rfl
theorem kpSd : keepIn (KK w) (.ref (sdM kd)) = true := by cases kd <;> kernel_rfl
theorem Cach.instM (C : Cach w B knd kd x pl cnt st c) : ∃ dx ns, (x, instC (clsOf kd) dx) ∈ c ∧ (dx, idC ns) ∈ c ∧ Str.ofString "get" ∉ ns.map (·.1) ∧ Str.ofString "pop" ∉ ns.map (·.1) ∧ Str.ofString "setdefault" ∉ ns.map (·.1) := by
  cases kd with
  | fifo => obtain ⟨dx, dd, od, t, u, xs, os, rfl, _⟩ := C.rep; exact ⟨dx, _, .head _, .tail _ (.head _), by walk_at "m_nin", by walk_at "m_nin", by walk_at "m_nin"⟩
  | lru => obtain ⟨dx, dd, od, t, u, xs, os, rfl, _⟩ := C.rep; exact ⟨dx, _, .head _, .tail _ (.head _), by walk_at "m_nin", by walk_at "m_nin", by walk_at "m_nin"⟩
  | ttl => obtain ⟨dx, dd, tm, dt, rt, ld, t, u, tl, xs, ls, ev, kv, nx, pv, ns, rfl, _⟩ := C.rep; exact ⟨dx, _, .head _, .tail _ (.head _), by walk_at "m_nin", by walk_at "m_nin", by walk_at "m_nin"⟩
  | tlru => obtain ⟨dx, dd, tm, dt, it, od, t, u, xs, is_, os, ev, kv, rv, ns, rfl, _⟩ := C.rep; exact ⟨dx, _, .head _, .tail _ (.head _), by walk_at "m_nin", by walk_at "m_nin", by walk_at "m_nin"⟩
end

end
-- G1
section
set_option maxRecDepth 100000
set_option maxHeartbeats 400000
section
variable {prog : Program} {w : World} {A : Around} {E : Value → Shared → Prop} {B : Shared} {fs : List Env} {cD : Cell} {l l' : Cells} {s : Shared} {K : Frag} {x C d f : Addr} {R : Result → Shared → Prop} {I D : Addr} {res : Value}
theorem iteNo {α : Type} {M : Model} {c : Prop} [Decidable c] {a b : Sem α} {Q : α → Shared → Prop} (hc : ¬ c) (h : wpAny M A b Q E s) : wpAny M A (if c then a else b) Q E s := by rw [if_neg hc]; exact h
theorem ifBoundUnless_K {M : Model} {ox : Obj} {od : Option Obj} {name : Str} {refuse : Sem Value} {Q : Option Value → Shared → Prop} (X : K.In s.heap) (I : InstAt s.heap x ox C od) (hs : findIn K (.ref C) name = some (some (.ref f))) (hf : isFn K (.ref f) = true)
    (h : wpAny M A (call (.ref f) [.ref x]) (fun v => Q (some v)) E s) : wpAny M A (callSpecialIfBoundUnlessNone? (.ref x) name refuse) Q E s := by
  unfold callSpecialIfBoundUnlessNone? bindSpecialIfBound?
  refine wpAny_holding (wpAny_bind (wpAny_bind (wpAny_bind (I.type.here ((looks_findIn X hs).here ?_)))))
  refine wpAny_bind (wpAny_askSetting (wpAny_ite ?_))
  have fin : wpAny M A (call (.ref f) [.ref x] >>= fun v => pure (some v)) Q E s := wpAny_bind (wpAny_mono h (fun v s' h' => wpAny_pure h') fun _ _ h' => h')
  split
  · exact wpAny_bind ((bind_fn X _ (beq_iff_eq.mp hf)).here (wpAny_pure (by exact fin)))
  · exact wpAny_tryCatch (wpAny_bind ((bind_fn X _ (beq_iff_eq.mp hf)).here (wpAny_pure (by exact fin))))
/-- iter() of an own object -/
theorem iterOwn {Q : Value → Shared → Prop} (T : Stat K B.heap) (S : St B fs l s) (mi : (x, instC C d) ∈ l) (md : (d, cD) ∈ l) (hs : specFn K C (Str.ofString "__iter__") f = true)
    (h : wpAny (model prog w) A (call (.ref f) [.ref x]) (fun v s₁ => ∃ T nf, s₁.TypeIs v T ∧ typeLookup (.type T) (Str.ofString "__next__") = pure (some nf) ∧ Q v s₁) E s) : wpAny (model prog w) A (pyIter (.ref x)) Q E s := by
  obtain ⟨ox, od, I, _⟩ := S.instP mi md
  have X := (S.stat T).X
  unfold specFn at hs
  simp only [Bool.and_eq_true, beq_iff_eq] at hs
  unfold pyIter
  refine wpAny_bind (wpAny_bind (I.type.here ((looks_findIn X hs.1).here ?_)))
  dsimp only
  refine wpAny_bind (ifBoundUnless_K X I hs.1 hs.2 (wpAny_mono h (fun v s₁ h₁ => ?_) fun _ _ z => z))
  obtain ⟨T, nf, hT, hn, hQ⟩ := h₁
  dsimp only
  refine wpAny_bind (wpAny_specialOf hT hn ?_)
  exact wpAny_pure hQ
/-- the loop that fills a list from an iterator -/
theorem extendLoop (P : Nat → List Value → Shared → Cells → Prop) (Fin : List Value → Shared → Cells → Prop) (N : Nat) (hN : N ≤ 1000) (hz : ∀ i acc B l, P i acc B l → acc.length = i)
    (item : ∀ i acc B l s, i < N → P i acc B l → St B fs ((D, listC acc) :: l) s → wpAny (model prog w) A.in1 (pyNext (.ref I)) (fun r s' => ∃ v B' l', r = some v ∧ P (i + 1) (acc ++ [v]) B' l' ∧ St B' fs ((D, listC acc) :: l') s') (fun e s' => R (.error e) s') s)
    (done : ∀ acc B l s, P N acc B l → St B fs ((D, listC acc) :: l) s → wpAny (model prog w) A.in1 (pyNext (.ref I)) (fun r s' => r = none ∧ ∃ B' l', Fin acc B' l' ∧ St B' fs ((D, listC acc) :: l') s') (fun e s' => R (.error e) s') s)
    (h : ∀ acc B l s, Fin acc B l → St B fs ((D, listC acc) :: l) s → R (.ok (.ret res)) s) :
    ∀ (k i : Nat) (B : Shared) (l : Cells) (s : Shared) (acc : List Value), N - i = k → i ≤ N → P i acc B l → St B fs ((D, listC acc) :: l) s → codeAny (model prog w) A (.builtin "list.extend.loop" ⟨[.ref D, .ref I, res], []⟩) R s := by
  intro k
  induction k with
  | zero =>
    intro i B l s acc hk hi hP S
    obtain rfl : i = N := by omega
    refine codeAny_builtin F.entry_extend_loop ?_
    rw [Around.under_plainId F.plain_extend_loop _]
    show wpAny _ A.in1 (pyNext (.ref I) >>= _) _ _ s
    refine wpAny_bind (wpAny_mono (done acc B l s hP S) (fun r s' h' => ?_) fun _ _ z => z)
    obtain ⟨rfl, B', l', hF, S'⟩ := h'
    exact wpAny_pure (h acc B' l' s' hF S')
  | succ k ih =>
    intro i B l s acc hk hi hP S
    have hlt : i < N := by omega
    refine codeAny_builtin F.entry_extend_loop ?_
    rw [Around.under_plainId F.plain_extend_loop _]
    show wpAny _ A.in1 (pyNext (.ref I) >>= _) _ _ s
    refine wpAny_bind (wpAny_mono (item i acc B l s hlt hP S) (fun r s' h' => ?_) fun _ _ z => z)
    obtain ⟨v, B', l', rfl, hP', S'⟩ := h'
    show wpAny _ A.in1 (updateSeq D (·.push v) >>= _) _ _ _
    have hl := hz _ _ _ _ hP
    refine wpAny_bind (updSeqS (vs' := acc ++ [v]) S' Upd.here (by simp) (by omega) (by simp; omega) fun s'' S'' => ?_)
    exact wpAny_pure ⟨plainId_quiet F.plain_extend_loop _, ih (i + 1) B' l' s'' (acc ++ [v]) (by omega) hlt hP' S''⟩
/-- list() of an own object that has a length -/
theorem listOwn {fl : Addr} {Q : Value → Shared → Prop} (T : Stat K B.heap) (S₀ : St B fs l s) (mi : (x, instC C d) ∈ l) (md : (d, cD) ∈ l) (hi : specFn K C (Str.ofString "__iter__") f = true) (hl : specFn K C (Str.ofString "__len__") fl = true)
    (h : ∀ D s₁, St B fs ((D, listC []) :: l) s₁ → wpAny (model prog w) A.in1.in1 (call (.ref f) [.ref x]) (fun v s₂ => ∃ I T nf B₂ l₂ d₂ cD₂, v = .ref I ∧ s₂.TypeIs (.ref I) T ∧ typeLookup (.type T) (Str.ofString "__next__") = pure (some nf) ∧ Stat K B₂.heap ∧ St B₂ fs l₂ s₂ ∧ (x, instC C d₂) ∈ l₂ ∧ (d₂, cD₂) ∈ l₂ ∧
      wpAny (model prog w) A.in1.in1 (call (.builtin "len") [.ref x]) (fun r s₃ => ∃ k t B' l', r = .int k t ∧ k.toNat ≤ 1000 ∧ St B' fs ((D, listC []) :: l') s₃ ∧
        ∀ s₄, St B' fs ((D, listC []) :: l') s₄ → codeAny (model prog w) A.in1 (.builtin "list.extend.loop" ⟨[.ref D, .ref I, .none], []⟩) (wants (fun r s' => r = .none ∧ Q (.ref D) s') E) s₄) (fun _ _ => False) s₂) E s₁) :
    wpAny (model prog w) A (call (.type "list") [.ref x]) Q E s := by
  have S₁ := S₀.push (o := { cls := .type "list", data := .seq #[] }) (c := listC []) ⟨rfl, rfl, ⟨0, rfl⟩, rfl⟩ s.toks
  refine callType_codes (Q₁ := fun obj s₁ => obj = .ref s.heap.objs.size ∧ s₁ = { s with heap := s.heap.push { cls := .type "list", data := .seq #[] } }) F.called_list (F.typeCall_list_1 _) F.entry_list_init
    (code_list_new _ ⟨rfl, rfl⟩) fun obj s₁ h₁ => ?_
  obtain ⟨rfl, rfl⟩ := h₁
  have hS : (s.heap.push { cls := .type "list", data := .seq #[] }).get? s.heap.objs.size = some { cls := .type "list", data := .seq #[] } := Heap.get?_push_size _ rfl
  refine ⟨⟨_, hS, rfl⟩, F.args_list_init_2 _ _, ?_⟩
  show wpAny _ A.in1.in1 (do let old ← Builtin.List.listItems (.ref s.heap.objs.size); Builtin.List.listUpdate (.ref s.heap.objs.size) (fun _ => #[]); letGo old.toList.reverse; Builtin.List.listExtendWith (.ref s.heap.objs.size) (.ref x) .none) _ _ _
  generalize s.heap.objs.size = D at *
  refine wpAny_bind ?_
  unfold Builtin.List.listItems
  refine wpAny_bind (wpAny_seqItems hS rfl (wpAny_pure ?_))
  show wpAny _ A.in1.in1 (updateSeq D (fun _ => #[]) >>= fun _ => letGo (#[] : Array Value).toList.reverse >>= fun _ => Builtin.List.listExtendWith (.ref D) (.ref x) .none) _ _ _
  refine wpAny_bind (updSeqS (vs' := []) S₁ Upd.here rfl (by simp) (by simp) fun s₂ S₂ => ?_)
  refine wpAny_bind (wpAny_letGo ?_)
  unfold Builtin.List.listExtendWith
  obtain ⟨ox, od, I₂, _⟩ := S₂.instP (List.mem_cons_of_mem _ mi) (List.mem_cons_of_mem _ md)
  refine wpAny_bind (I₂.type.here ?_)
  have hDx : D ≠ x := fun e => (List.nodup_cons.mp S₂.nd).1 (e ▸ List.mem_map.mpr ⟨_, mi, rfl⟩)
  have h1 : Builtin.List.listSameRef (.ref D) (.ref x) = false := by simp [Builtin.List.listSameRef, hDx]
  have h2 : (Value.ref C == Value.type "list") = false := by rfl
  have h3 : (Value.ref C == Value.type "tuple") = false := by rfl
  simp only [h1, h2, h3, Bool.or_false, Bool.false_eq_true, if_false]
  refine wpAny_bind (iterOwn T S₂ (List.mem_cons_of_mem _ mi) (List.mem_cons_of_mem _ md) hi (wpAny_mono (h D s₂ S₂) (fun v s₃ h₃ => ?_) fun _ _ z => z))
  obtain ⟨I, T', nf, B₂, l₂, d₂, cD₂, rfl, hT, hn, TB, S₃, mi₂, md₂, h₃⟩ := h₃
  refine ⟨T', nf, hT, hn, ?_⟩
  refine wpAny_bind (wpAny_holding ?_)
  obtain ⟨ox3, od3, I₃, _⟩ := S₃.instP mi₂ md₂
  have X := (S₃.stat TB).X
  unfold specFn at hl
  simp only [Bool.and_eq_true, beq_iff_eq] at hl
  unfold Builtin.List.listLengthHint
  refine wpAny_bind (wpAny_bind (I₃.type.here ((looks_findIn X hl.1).here ?_)))
  dsimp only
  refine iteNo (fun e => Bool.false_ne_true e) ?_
  rw [if_pos (show (some (Value.ref fl)).isSome = true from rfl)]
  refine wpAny_bind (wpAny_rule ?_)
  refine wpAny_bind (wpAny_attempt (wpAny_mono h₃ (fun r s₄ h₄ => ?_) fun _ _ z => z.elim))
  obtain ⟨k, t, B', l', rfl, hk, S₄, h₅⟩ := h₄
  dsimp only
  refine wpAny_bind (wpAny_pure ?_)
  dsimp only
  have htl : Builtin.List.listTooLong k.toNat = false := by
    unfold Builtin.List.listTooLong
    rw [sizeLine_eq]
    simp only [decide_eq_false_iff_not]
    omega
  rw [if_neg (by rw [htl]; exact Bool.false_ne_true)]
  refine wpAny_pure ?_
  have tail : ∀ s₅, St B' fs ((D, listC []) :: l') s₅ → wpAny (model prog w) A.in1.in1 (again (.builtin "list.extend.loop" ⟨[.ref D, .ref I, .none], []⟩))
      (fun fin s' => match fin with
          | Fin.done f => wants (fun r s₂ => r = Value.none ∧ Q (Value.ref D) s₂) E (Except.ok f) s'
          | Fin.again c' => c'.quiet = true ∧ codeAny (model prog w) A.in1 c' (wants (fun r s₂ => r = Value.none ∧ Q (Value.ref D) s₂) E) s')
        (fun e s' => wants (fun r s₂ => r = Value.none ∧ Q (Value.ref D) s₂) E (Except.error e) s') s₅ := fun s₅ S₅ =>
    wpAny_pure ⟨plainId_quiet F.plain_extend_loop _, h₅ s₅ S₅⟩
  split
  · refine wpAny_bind (wpAny_rule ?_)
    refine wpAny_bind ?_
    show wpAny _ A.in1.in1 (updateSeq D (·.push .none) >>= fun _ => updateSeq D (·.pop)) _ _ _
    refine wpAny_bind (updSeqS (vs' := [.none]) S₄ Upd.here (by simp) (by simp) (by simp) fun s₅ S₅ => ?_)
    exact updSeqS (vs' := []) S₅ Upd.here (by simp) (by simp) (by simp) fun s₆ S₆ => tail s₆ S₆
  · exact tail s₄ S₄
end

end
-- G2
section
set_option maxRecDepth 100000
set_option maxHeartbeats 800000
abbrev kndOf (w : World) (f : Nat → Key) (hf : ∀ x y, f x = f y → x = y) : AnyKind pw w Nat := pullKind (keyKind pw w) f hf
/-- the keys of told: the first seven are ints -/
def SmallInts (f : Nat → Key) : Prop := ∀ i, i < 7 → f i = .inl (.inl (i : Int))
/-- a dict whose epoch is known -/
def dictE {prog : Program} {w : World} {K : Type} [DecidableEq K] (knd : AnyKind prog w K) (B : Shared) (xs : List (K × Value × Value)) (ep : Nat) : Cell := fun o => dictC knd B xs o ∧ ∃ es, o.data = .dict es ep
theorem notSoft_dictE {prog : Program} {w : World} {K : Type} [DecidableEq K] {knd : AnyKind prog w K} {B : Shared} {xs : List (K × Value × Value)} {ep : Nat} : ∀ o, dictE knd B xs ep o → ¬ Soft (dictE knd B xs ep) := fun o h q => notSoft_dictC o h.1 fun o' sl ho' => by
  obtain ⟨⟨_, _, ⟨_, _, e⟩, _⟩, _⟩ := q o #[none] h
  cases e
section
variable {prog : Program} {w : World} {A : Around} {E : Value → Shared → Prop} {B : Shared} {fs : List Env} {l l' : Cells} {s : Shared} {K : Type} [DecidableEq K] {knd : AnyKind prog w K} {d : Addr} {xs : List (K × Value × Value)} {ep : Nat}
theorem St.dictE' (S : St B fs l s) (m : (d, dictE knd B xs ep) ∈ l) : DictK knd s.heap d xs := by
  obtain ⟨o, ho, ⟨es, ep, h1, h2, h3, h4, h5⟩, _⟩ := S.has _ m
  exact ⟨o, es, ep, ho, h1, h2, h3, fun x hx => knd.grows (h4 x hx) S.base, h5⟩
theorem dlenE {Q : Value → Shared → Prop} (S : St B fs l s) (m : (d, dictE knd B xs ep) ∈ l) (hfit : xs.length ≤ sizeLine) (h : ∀ s' t, St B fs l s' → Q (.int xs.length t) s') : wpAny (model prog w) A (call (.builtin "len") [.ref d]) Q E s := by
  have hm := S.dictE' m
  obtain ⟨o, es, ep, ho, hc, hdat, he, _⟩ := id hm
  have hsz := entK_size he
  rw [sizeLine_eq] at hfit
  refine call_function_entry kind_len plain_len entry_len (args_len1 _) ?_
  unfold Builtin.«len»
  refine wpAny_bind (m := oneArg "len" _) (wpAny_pure ?_)
  refine wpAny_bind (m := callSpecial? (.ref d) (Str.ofString "__len__")) (wpAny_callSpecial?_slot (name := Str.ofString "__len__") hm.typeIs PySem.F.slot_dict_len
    (wpAny_call_entry PySem.F.slot_dict_len hm.typeIs PySem.F.entry_dict_len ?_ (args_dict_len1 _)))
  show wpAny _ _ (dictSize d >>= _) _ _ s
  unfold dictSize
  refine wpAny_bind (wpAny_bind (wpAny_dictEntries ho hdat (wpAny_pure ?_)))
  show wpAny _ _ (Builtin.Dict.pendingCount d >>= _) _ _ s
  refine wpAny_bind (wpAny_pendingCount_other (S.notMods m) ?_)
  show wpAny _ _ (retInt ((es.size : Int) + ((0 : Nat) : Int))) _ _ _
  rw [show (es.size : Int) + ((0 : Nat) : Int) = (xs.length : Int) from by omega]
  refine wpAny_bind (wpAny_mkInt (wpAny_pure ⟨_, rfl, ?_⟩))
  refine wpAny_bind (wpAny_holding (wpAny_pure ?_))
  refine wpAny_bind (wpAny_letGo ?_)
  show wpAny _ _ (if ((xs.length : Nat) : Int) < 0 then _ else _) _ _ _
  rw [if_neg (by omega)]
  show wpAny _ _ (if ((xs.length : Nat) : Int) ≥ 2 ^ 63 then _ else _) _ _ _
  rw [if_neg (by omega)]
  refine wpAny_bind (wpAny_mkInt (wpAny_pure ⟨_, rfl, ?_⟩))
  exact h _ _ (S.toks _)
end
section
variable {w : World} {A : Around} {E : Value → Shared → Prop} {B : Shared} {fs : List Env} {l l' : Cells} {s : Shared} {R : Result → Shared → Prop} {n : Nat} {f : Nat → Key} {hf : ∀ x y, f x = f y → x = y} {d I : Addr} {xs : List (Nat × Value × Value)} {ep i : Nat}
theorem St.dictAt (S : St B fs l s) (m : (d, dictE (kndOf w f hf) B xs ep) ∈ l) (hs : SmallInts f) (hi : ∀ e ∈ xs, e.1 < 7) : s.heap.DictAt (intKind pw w) d (xs.map fun e => ((e.1 : Int), e.2.2)) ep := by
  obtain ⟨o, ho, ⟨es, ep', h1, h2, h3, h4, h5⟩, es', h6⟩ := S.has _ m
  rw [h2] at h6
  cases h6
  have key : ∀ e ∈ xs, Value.isInt (e.1 : Int) e.2.1 = true := fun e he => by
    have := h4 e he
    have this : keyIs pw w B.heap (f e.1) e.2.1 := this
    rw [hs e.1 (hi e he)] at this
    exact this
  refine ⟨o, es, ho, h1, h2, fun e he => ?_, ?_, ?_⟩
  · have : e ∈ xs.map (entK (kndOf w f hf)) := by rw [← h3]; exact Array.mem_toList_iff.mpr he
    obtain ⟨x, hx, rfl⟩ := List.mem_map.mp this
    refine ⟨(x.1 : Int), key x hx, ?_⟩
    show (keyKind pw w).hash (f x.1) = hashInt (x.1 : Int)
    rw [hs x.1 (hi x hx)]
    rfl
  · rw [h3]
    have : ∀ (ys : List (Nat × Value × Value)), (∀ e ∈ ys, Value.isInt (e.1 : Int) e.2.1 = true) → Pairs (intKind pw w) (ys.map (entK (kndOf w f hf))) (ys.map fun e => ((e.1 : Int), e.2.2)) := by
      intro ys
      induction ys with
      | nil => intro _; exact .nil
      | cons y r ih => intro h; exact .cons (h y List.mem_cons_self) rfl (ih fun e he => h e (List.mem_cons_of_mem _ he))
    exact this xs key
  · rw [List.map_map]
    have : ((fun e : Int × Value => e.1) ∘ fun e : Nat × Value × Value => ((e.1 : Int), e.2.2)) = (fun n : Nat => (n : Int)) ∘ (·.1) := rfl
    rw [this, ← List.map_map]
    refine List.Pairwise.map _ (fun a b hab => ?_) h5
    intro e; exact hab (by omega)
theorem nextDict {Q : Option Value → Shared → Prop} (S : St B fs l s) (hs : SmallInts f) (hi : ∀ e ∈ xs, e.1 < 7) (m : (d, dictE (kndOf w f hf) B xs ep) ∈ l) (u : Upd l (I, itC d i xs.length ep) (I, itC d (i + 1) xs.length ep) l') {e : Nat × Value × Value} (hx : xs[i]? = some e)
    (h : ∀ t s', St B fs l' s' → Q (some (.int (e.1 : Int) t)) s') : wpAny (model pw w) A (pyNext (.ref I)) Q E s := by
  obtain ⟨o, ho, h1, h2⟩ := S.has _ u.mem
  have hD := S.dictAt m hs hi
  have hit : s.heap.IsKeyIter I d i (xs.map fun e => ((e.1 : Int), e.2.2)).length ep := ⟨o, ho, h1, by rw [h2, List.length_map]⟩
  refine wpAny_pyNext_dict_item hit hD (k := (e.1 : Int)) (v := e.2.2) (by rw [List.getElem?_map, hx]; rfl) fun key h' hk hit' hsb => ?_
  obtain ⟨t, rfl⟩ := Value.isInt_shape hk
  obtain ⟨o', ho', h1', h2'⟩ := hit'
  refine h t _ (S.set u s.toks hsb ho' ⟨h1', by rw [h2', List.length_map]⟩ (.inr ⟨o, _, ho, h2⟩) fun hm => (S.fields_off u.mem (fun o h => ⟨_, h.2⟩) hm).elim)
theorem endDict {Q : Option Value → Shared → Prop} (hh : A.handled = none) (S : St B fs ((I, itC d i xs.length ep) :: l) s) (hs : SmallInts f) (hi : ∀ e ∈ xs, e.1 < 7) (m : (d, dictE (kndOf w f hf) B xs ep) ∈ l) (hx : xs.length ≤ i)
    (h : ∀ s', St B fs l s' → Q none s') : wpAny (model pw w) A (pyNext (.ref I)) Q E s := by
  obtain ⟨o, ho, h1, h2⟩ := S.has _ List.mem_cons_self
  have hD := S.tail.dictAt m hs hi
  have hit : s.heap.IsKeyIter I d i (xs.map fun e => ((e.1 : Int), e.2.2)).length ep := ⟨o, ho, h1, by rw [h2, List.length_map]⟩
  refine wpAny_pyNext_dict_end hh hit hD (by simpa using hx) fun h' hs' => h _ (S.but (S.fields_off List.mem_cons_self fun o h => ⟨_, h.2⟩) s.toks hs')
end
section
variable {w : World} {A : Around} {E : Value → Shared → Prop} {B : Shared} {fs : List Env} {l l' : Cells} {s : Shared} {R : Result → Shared → Prop} {n : Nat} {K : Type} [DecidableEq K] {knd : AnyKind pw w K} {C x dx dd I : Addr} {sz mx : Int} {t u : Tok} {more : Names} {xs : List (K × Value × Value)} {ep i : Nat}
theorem St.epoch {d : Addr} (S : St B fs l s) (u : Upd l (d, dictC knd B xs) (d, dictE knd B xs ep) l') (he : EpochIs s.heap d ep) : St B fs l' s := by
  obtain ⟨o, ho, hc⟩ := S.has _ u.mem
  obtain ⟨o', es, ho', hd⟩ := he
  obtain rfl : o = o' := by rw [ho] at ho'; exact Option.some.inj ho'
  exact S.at1 u ho ⟨hc, es, hd⟩ fun hq => (notSoft_dictC o hc hq).elim
/-- Cache.__iter__ -/
theorem c798 (hC : C ∈ cacheCls) (T : Stat (KK w) B.heap) (r : Room (n + 3) fs A) (S₀ : St B fs ((x, instC C dx) :: (dx, idC (baseN dd sz mx t u more)) :: (dd, dictC knd B xs) :: l) s)
    (h : ∀ I ep s', St B fs ((I, itC dd 0 xs.length ep) :: (x, instC C dx) :: (dx, idC (baseN dd sz mx t u more)) :: (dd, dictE knd B xs ep) :: l) s' → R (.ok (.ret (.ref I))) s') :
    codeAny (model pw w) A (.call (.ref 798) ⟨[.ref x], []⟩) R s := by
  refine callS (binds := [(S "self", .ref x)]) (names := [S "self"]) (locs := [(S "self", .ref x)]) fnOk798 T S₀ r (BindsTo.of_eq (by kernel_rfl)) rfl rfl (by kernel_rfl) (by decide +kernel) (by kernel_rfl) fun L s' r₁ S₁ => ?_
  refine wpAny_execs_cons ?_
  walk_at "m_wk"
  refine Call_ ?_
  refine ldB T (by assumption) (by kernel_rfl) PyProof.Rows.Boot.«iter» ?_
  refine PyProof.Rows.callWith_builtin1 ?_
  refine args_cons ?_
  walk_at "m_wk"
  refine args_nil ?_
  refine iterS (d := dd) (by assumption) (by walk_at "m_mem") fun I s' ep S' he => ?_
  have S2 := S'.epoch (d := dd) (ep := ep) (by walk_at "m_updt") he
  exact h I ep _ (St.done L S2 (by walk_at "m_pm"))
/-- the length of the base class, the dict's epoch stays -/
theorem c805E (hC : C ∈ cacheCls) (T : Stat (KK w) B.heap) (r : Room (n + 3) fs A) (S₀ : St B fs ((x, instC C dx) :: (dx, idC (baseN dd sz mx t u more)) :: (dd, dictE knd B xs ep) :: l) s) (hsz : xs.length ≤ sizeLine)
    (h : ∀ s' t', St B fs ((x, instC C dx) :: (dx, idC (baseN dd sz mx t u more)) :: (dd, dictE knd B xs ep) :: l) s' → R (.ok (.ret (.int xs.length t'))) s') :
    codeAny (model pw w) A (.call (.ref 805) ⟨[.ref x], []⟩) R s := by
  refine callS (binds := [(S "self", .ref x)]) (names := [S "self"]) (locs := [(S "self", .ref x)]) fnOk805 T S₀ r (BindsTo.of_eq (by kernel_rfl)) rfl rfl (by kernel_rfl) (by decide +kernel) (by kernel_rfl) fun L s' r₁ S₁ => ?_
  refine wpAny_execs_cons ?_
  walk_at "m_wk"
  refine Call_ ?_
  refine ldB T (by assumption) (by kernel_rfl) PyProof.Rows.Boot.«len» ?_
  refine PyProof.Rows.callWith_builtin1 ?_
  refine args_cons ?_
  walk_at "m_wk"
  refine args_nil ?_
  refine dlenE (ep := ep) (by assumption) (by walk_at "m_mem") hsz fun s' t' S' => ?_
  exact h _ _ (St.tail (St.pop S'))
end

end
-- G3
section
set_option maxRecDepth 100000
set_option maxHeartbeats 800000
abbrev intsN (ks : List Nat) : List Int := ks.map fun (k : Nat) => (k : Int)
theorem agree_perm {K : Type} [DecidableEq K] {xs : List (K × Value × Value)} {st : List (K × Value)} (ag : Agree xs st) (nx : (xs.map (·.1)).Nodup) (nd : (st.map (·.1)).Nodup) : (xs.map (·.1)).Perm (st.map (·.1)) :=
  (List.perm_ext_iff_of_nodup nx nd).mpr fun _ => ag.mem
section
variable {w : World} {A : Around} {B : Shared} {fs : List Env} {l l' : Cells} {s : Shared} {n : Nat} {f : Nat → Key} {hf : ∀ x y, f x = f y → x = y} {C x dx dd : Addr} {sz mx : Int} {t u : Tok} {more : Names} {xs : List (Nat × Value × Value)}
theorem listBase {Q : Value → Shared → Prop} (hC : C ∈ cacheCls) (hit : specFn (KK w) C (Str.ofString "__iter__") 798 = true) (hln : specFn (KK w) C (Str.ofString "__len__") 805 = true) (T : Stat (KK w) B.heap) (r : Room (n + 10) fs A)
    (S₀ : St B fs ((x, instC C dx) :: (dx, idC (baseN dd sz mx t u more)) :: (dd, dictC (kndOf w f hf) B xs) :: l) s) (hs : SmallInts f) (hi : ∀ e ∈ xs, e.1 < 7) (hsz : xs.length ≤ 100)
    (h : ∀ D vs s', IntsAre vs (intsN (xs.map (·.1))) → St B fs ((D, listC vs) :: (x, instC C dx) :: (dx, idC (baseN dd sz mx t u more)) :: (dd, dictC (kndOf w f hf) B xs) :: l) s' → Q (.ref D) s') :
    wpAny (model pw w) A (call (.type "list") [.ref x]) Q NoE s := by
  refine listOwn T S₀ (by walk_at "m_mem") (by walk_at "m_mem") hit hln fun D s₁ S₁ => wpAny_call ?_
  refine c798 hC T (r.in1.in1.less (m := n + 3) (by omega)) (St.perm (l' := (x, _) :: (dx, _) :: (dd, _) :: (D, _) :: l) S₁ (by walk_at "m_pm")) fun I ep s₂ S₂ => ?_
  have hT : s₂.TypeIs (.ref I) "dict_keyiterator" := let ⟨o, ho, h1, _⟩ := S₂.has _ (.head _); ⟨o, ho, h1⟩
  refine ⟨I, "dict_keyiterator", _, B, _, dx, idC (baseN dd sz mx t u more), rfl, hT, PySem.F.slot_dict_keyiterator_next.lookup, T, S₂, by walk_at "m_mem", by walk_at "m_mem", ?_⟩
  refine lenOwn T S₂ (by walk_at "m_mem") (by walk_at "m_mem") hln (wpAny_call ?_)
  refine c805E hC T (r.in1.in1.in1.less (m := n + 3) (by omega)) (St.perm (l' := (x, _) :: (dx, _) :: (dd, _) :: (I, _) :: (D, _) :: l) S₂ (by walk_at "m_pm")) (by rw [sizeLine_eq]; omega) fun s₃ t₃ S₃ => ?_
  refine ⟨⟨by omega, by omega⟩, xs.length, s₃.toks, B, (I, itC dd 0 xs.length ep) :: (x, instC C dx) :: (dx, idC (baseN dd sz mx t u more)) :: (dd, dictE (kndOf w f hf) B xs ep) :: l, rfl, by omega, (S₃.toks _).perm (by walk_at "m_pm"), fun s₄ S₄ => ?_⟩
  refine extendLoop (fs := fs) (fun i acc B' l' => B' = B ∧ acc.length = i ∧ IntsAre acc (intsN ((xs.map (·.1)).take i)) ∧ l' = (I, itC dd i xs.length ep) :: (x, instC C dx) :: (dx, idC (baseN dd sz mx t u more)) :: (dd, dictE (kndOf w f hf) B xs ep) :: l)
    (fun acc B' l' => B' = B ∧ IntsAre acc (intsN (xs.map (·.1))) ∧ l' = (x, instC C dx) :: (dx, idC (baseN dd sz mx t u more)) :: (dd, dictE (kndOf w f hf) B xs ep) :: l) xs.length (by omega) (fun i acc B l h => h.2.1) ?_ ?_ ?_ _ 0 B _ s₄ [] rfl (Nat.zero_le _) ⟨rfl, rfl, .nil, rfl⟩ S₄
  · rintro i acc B' l' s hlt ⟨rfl, hlen, ha, rfl⟩ S
    refine nextDict (d := dd) S hs hi (by walk_at "m_mem") (by walk_at "m_updt") (List.getElem?_eq_getElem hlt) fun t' s' S' => ⟨_, B', _, rfl, ⟨rfl, by rw [List.length_append, hlen]; rfl, ?_, rfl⟩, S'⟩
    rw [List.take_add_one, List.getElem?_map, List.getElem?_eq_getElem hlt]
    unfold intsN
    rw [List.map_append]
    exact ha.append (.cons _ _ .nil)
  · rintro acc B' l' s ⟨rfl, hlen, ha, rfl⟩ S
    refine endDict (d := dd) (I := I) r.handled (S.perm (l' := (I, _) :: (D, _) :: (x, _) :: (dx, _) :: (dd, _) :: l) (by walk_at "m_pm")) hs hi (by walk_at "m_mem") (Nat.le_refl _) fun s' S' => ⟨rfl, B', _, ⟨rfl, ?_, rfl⟩, S'⟩
    rw [List.take_of_length_le (by simp)] at ha
    exact ha
  · rintro acc B' l' s ⟨rfl, ha, rfl⟩ S
    refine ⟨rfl, h D acc s ha (S.weak ?_)⟩
    exact .keep (.keep (.keep (.cons (fun o h => h.1) (fun o h q => (notSoft_dictE o h q).elim) (.refl _))))
end

end
-- G4
section
set_option maxRecDepth 100000
set_option maxHeartbeats 800000
/-- a generator -/
def genC (g : Nat) : Cell := fun o => o.cls = .type "generator" ∧ (∃ nm qn, o.data = .fields #[.int g 0, nm, qn]) ∧ o.slots = #[]
abbrev gB (B : Shared) (G : Array GenState) : Shared := { B with gens := G }
section
variable {B : Shared} {fs : List Env} {l l' : Cells} {s : Shared} {env : Env} {L a : Addr} {c : Cell} {G : Array GenState} {g : Nat}
theorem St.regen (S : St B fs l s) (G : Array GenState) : St (gB B G) fs l { s with gens := G } :=
  ⟨S.base, S.has, S.nd, S.fresh, S.frames, rfl, S.drawn, S.os, S.low, S.big, S.soft⟩
theorem St.asGen (S : St B fs l s) : St (gB B s.gens) fs l s := ⟨S.base, S.has, S.nd, S.fresh, S.frames, rfl, S.drawn, S.os, S.low, S.big, S.soft⟩
/-- a generator's frame is entered -/
theorem St.enter (S : St B fs ((L, c) :: l) s) (he : env.frame = some L) (hk : env.scope.kind ≠ .module) (hc : ∀ o, c o → ∀ vs, o.data ≠ .fields vs) (hs : Soft c) : St B (env :: fs) ((L, c) :: l) s := by
  obtain ⟨o, ho, hco⟩ := S.has _ List.mem_cons_self
  refine ⟨S.base, S.has, S.nd, S.fresh, ⟨hk, ⟨L, o, he, S.fresh _ List.mem_cons_self, ho, hc o hco⟩, S.frames⟩, S.gens, S.drawn, S.os, S.low, S.big, fun x hx hm => ?_⟩
  rw [List.filterMap_cons, he] at hm
  rcases List.mem_cons.mp hx with rfl | hx
  · exact hs
  · rcases List.mem_cons.mp (show x.1 ∈ L :: _ from hm) with e | hm
    · exact ((List.nodup_cons.mp S.nd).1 (e ▸ List.mem_map.mpr ⟨x, hx, rfl⟩)).elim
    · exact S.soft x (List.mem_cons_of_mem _ hx) hm
theorem St.isGen (S : St B fs l s) (m : (a, genC g) ∈ l) : s.heap.IsGen a g := let ⟨o, ho, h1, ⟨nm, qn, h2⟩, h3⟩ := S.has _ m; ⟨o, nm, qn, ho, h1, h2, h3⟩
end
section
variable {w : World} {A : Around} {B : Shared} {fs : List Env} {l : Cells} {s : Shared} {K : Frag} {f : Addr} {fd : FuncData} {body : List Stmt} {args : Args} {binds : List (Str × Value)} {R : Result → Shared → Prop} {n : Nat}
/-- a generator function called -/
theorem callGen {locs : Names} {names : List Str} (F : FnOk K f fd body) (T : Stat K B.heap) (S : St B fs l s) (r : Room (n + 1) fs A) (hb : BindsTo s fd args binds)
    (hnames : binds.map (·.1) = names) (hlocs : binds.reverse = locs) (hloc : (names.all fun x => fd.scope.names.lookup x == some .local && !(x == ("__debug__" : Str))) = true) (hnd : names.Nodup) (hgen : fd.scope.isGenerator = true)
    (h : ∀ L a s', St (gB B (B.gens.push (.fresh (.func body (fnEnv fd L f))))) fs ((a, genC B.gens.size) :: (L, nsC fd.scope locs) :: l) s' → R (.ok (.ret (.ref a))) s') :
    codeAny (model pw w) A (.call (.ref f) args) R s := by
  subst hnames hlocs
  have hloc : ∀ p ∈ binds, fd.scope.names.lookup p.1 = some .local ∧ (p.1 == ("__debug__" : Str)) = false := fun p hp => by
    have := List.all_eq_true.mp hloc p.1 (List.mem_map.mpr ⟨p, hp, rfl⟩)
    simpa using this
  have T' := S.stat T
  obtain ⟨o, ho, hd⟩ := Option.map_eq_some_iff.mp F.at_
  have env : ∀ L, callEnv fd L f = fnEnv fd L f := fun L => by
    unfold callEnv fnEnv envOf newEnv
    rw [F.glob, F.clos, F.blt]
  refine codeAny_call_generator r.room (T'.X _ _ ho) hd F.co hgen F.body_ (codeRec_of T'.X F.code) (hb _ _ _ _ ?_)
  refine wpAny_newFunctionEnv F.cell (fun x hx => (hloc x hx).1) (fun h₀ hns hsb => ⟨T'.lim.fresh _ hsb, ?_⟩) F.kind
  have hk : ∀ b o, s.heap.get? b = some o → h₀.get? b = some o := fun b o e => hsb.extBut b o (Nat.ne_of_lt (Heap.lt_size e)) (Heap.get?_push_of_some _ e)
  obtain ⟨oL, es, ep, hL, h1, h2, h3⟩ := hns
  have S1 := S.grow (a := s.heap.objs.size) (o := oL) (c := nsC fd.scope binds.reverse) (s.toks + binds.length) hk (Heap.get?_none_of_le (Nat.le_refl _)) S.none_at S.size hL
    ⟨⟨es, ep, h1, h2, h3⟩, by rw [List.map_reverse]; exact (List.reverse_perm _).nodup_iff.mpr hnd, F.kind, fun p hp => hloc p (List.mem_reverse.mp hp)⟩
  have hg : s.gens = B.gens := S.gens
  have S2 := S1.push (o := { cls := .type "generator", data := .fields #[.int B.gens.size 0, .str fd.name (s.toks + binds.length), .str fd.qualname (s.toks + binds.length + 1)] }) (c := genC B.gens.size) ⟨rfl, ⟨_, _, rfl⟩, rfl⟩ (s.toks + binds.length + 1 + 1)
  have S3 := S2.regen (B.gens.push (.fresh (.func body (fnEnv fd s.heap.objs.size f))))
  have := h _ _ _ S3
  rw [← env] at this
  dsimp only at this ⊢
  rw [hg]
  exact this
end
section
variable {w : World} {A : Around} {B : Shared} {fs : List Env} {l : Cells} {s : Shared} {env : Env} {L D a : Addr} {g N : Nat} {Fr : Nat → Cell} {VP : Nat → Value → Prop} {E : Value → Shared → Prop} {acc : List Value} {G : Array GenState} {gs : GenState} {j : Nat}
/-- the state within a generator, j items given -/
def GenIn (B : Shared) (fs : List Env) (env : Env) (L D : Addr) (Fr : Nat → Cell) (l : Cells) (acc : List Value) (j : Nat) (s : Shared) : Prop := St (gB B s.gens) (env :: fs) ((L, Fr j) :: (D, listC acc) :: l) s
/-- what lies in the list now -/
def AtD (D : Addr) (acc : List Value) (s : Shared) : Prop := ∃ o, s.heap.get? D = some o ∧ listC acc o
theorem AtD.inj {acc acc' : List Value} (h : AtD D acc s) (h' : AtD D acc' s) : acc = acc' := by
  obtain ⟨o, ho, _, _, ⟨n, h1⟩, _⟩ := h
  obtain ⟨o', ho', _, _, ⟨n', h2⟩, _⟩ := h'
  rw [ho] at ho'; cases ho'
  rw [h1] at h2
  have : acc.toArray = acc'.toArray := by cases h2; rfl
  simpa using congrArg Array.toList this
def gProto (B : Shared) (fs : List Env) (env : Env) (L D : Addr) (Fr : Nat → Cell) (l : Cells) (N : Nat) (VP : Nat → Value → Prop) : Protocol := fun m s₀ v s kap =>
  VP (N - 1 - m) v ∧ (∀ acc, AtD D acc s₀ → s.gens = s₀.gens ∧ GenIn B fs env L D Fr l acc (N - m) s) ∧ ∀ s'' acc, GenIn B fs env L D Fr l acc (N - m) s'' → kap (.send .none) s''
def gEnd (B : Shared) (fs : List Env) (D : Addr) (l : Cells) : Nat → Shared → Shared → Prop := fun n s₀ s₁ => n = 0 ∧ ∀ acc, AtD D acc s₀ → s₁.gens = s₀.gens ∧ St (gB B s₁.gens) fs ((D, listC acc) :: l) s₁
def gRes (B : Shared) (fs : List Env) (D : Addr) (l : Cells) : GenEnd := fun n s₀ r s₁ => r = .ok (.ret .none) ∧ gEnd B fs D l n s₀ s₁
/-- a generator that goes on from its j-th item -/
def GoAt (w : World) (A : Around) (B : Shared) (fs : List Env) (env : Env) (L D : Addr) (Fr : Nat → Cell) (l : Cells) (N : Nat) (VP : Nat → Value → Prop) (j : Nat) (gs : GenState) : Prop :=
  ∀ acc s'', GenIn B fs env L D Fr l acc j s'' → gs.Goes (model pw w) A (gRes B fs D l) (gProto B fs env L D Fr l N VP) (N - j) (.send .none) s''
theorem genNext {Q : Option Value → Shared → Prop} {K : Frag} {n : Nat} (T : Stat K B.heap) (r : Room (n + 1) fs A) (he : env.frame = some L) (hk : env.scope.kind ≠ .module) (hc : ∀ j o, Fr j o → ∀ vs, o.data ≠ .fields vs) (hs : ∀ j, Soft (Fr j))
    (S₀ : St (gB B G) fs ((L, Fr j) :: (D, listC acc) :: l) s) (ma : (a, genC g) ∈ l) (hg : G[g]? = some gs) (hgo : GoAt w A.in1 B fs env L D Fr l N VP j gs) (hj : j < N)
    (h : ∀ v G' gs' s', VP j v → St (gB B G') fs ((L, Fr (j + 1)) :: (D, listC acc) :: l) s' → G'[g]? = some gs' → GoAt w A.in1 B fs env L D Fr l N VP (j + 1) gs' → GenOnly g G G' → Q (some v) s') :
    wpAny (model pw w) A (pyNext (.ref a)) Q E s := by
  have hgs : s.gens = G := S₀.gens
  have hgs' : s.gens[g]? = some gs := by rw [hgs]; exact hg
  obtain ⟨m, hm⟩ : ∃ m, N - j = m + 1 := ⟨N - j - 1, by omega⟩
  have Sr := S₀.regen ((s.setGen g .running).gens)
  have SI : GenIn B fs env L D Fr l acc j (s.setGen g .running) := Sr.enter he hk (hc j) (hs j)
  have go := hgo acc _ SI
  rw [hm] at go
  refine wpAny_pyNext_gen (gs := gs) (n := m + 1) (P := gEnd B fs D l) (Y := gProto B fs env L D Fr l N VP) r.handled (S₀.stat (B := gB B G) T).lim r.room (S₀.isGen (List.mem_cons_of_mem _ (List.mem_cons_of_mem _ ma))) hgs' go (fun v s₁ gs' hv => ?_) (fun s₁ hp h' hk' => ?_)
  · obtain ⟨hVP, hst, hkap⟩ := hv
    have hD : AtD D acc (s.setGen g .running) := S₀.has (D, listC acc) (List.mem_cons_of_mem _ List.mem_cons_self)
    obtain ⟨hg1, S1⟩ := hst acc hD
    have e1 : N - 1 - (m + 1 - 1) = j := by omega
    have e2 : N - (m + 1 - 1) = j + 1 := by omega
    rw [e1] at hVP
    rw [e2] at S1 hkap
    have S2 := (St.pop S1).regen ((s₁.setGen g gs').gens)
    refine h v _ gs' _ hVP S2 ?_ (fun acc' s'' hin => ?_) ?_
    · refine setGen_self (gs := .running) ?_
      rw [hg1]; exact setGen_self hgs'
    · have := hkap s'' acc' hin
      have e3 : N - (j + 1) = m := by omega
      rw [e3]
      exact this
    · have o1 := GenOnly.setGen s g .running
      have o2 := GenOnly.setGen s₁ g gs'
      rw [hg1] at o2
      rw [← hgs]
      exact o1.trans o2
  · exact absurd hp.1 (Nat.succ_ne_zero m)
theorem genEnd {Q : Option Value → Shared → Prop} {K : Frag} {n : Nat} (T : Stat K B.heap) (r : Room (n + 1) fs A) (he : env.frame = some L) (hk : env.scope.kind ≠ .module) (hc : ∀ j o, Fr j o → ∀ vs, o.data ≠ .fields vs) (hs : ∀ j, Soft (Fr j))
    (S₀ : St (gB B G) fs ((L, Fr N) :: (D, listC acc) :: l) s) (ma : (a, genC g) ∈ l) (hg : G[g]? = some gs) (hgo : GoAt w A.in1 B fs env L D Fr l N VP N gs)
    (h : ∀ G' s', St (gB B G') fs ((D, listC acc) :: l) s' → G'[g]? = some .finished → GenOnly g G G' → Q none s') :
    wpAny (model pw w) A (pyNext (.ref a)) Q E s := by
  have hgs : s.gens = G := S₀.gens
  have hgs' : s.gens[g]? = some gs := by rw [hgs]; exact hg
  have Sr := S₀.regen ((s.setGen g .running).gens)
  have SI : GenIn B fs env L D Fr l acc N (s.setGen g .running) := Sr.enter he hk (hc N) (hs N)
  have go := hgo acc _ SI
  rw [Nat.sub_self] at go
  have hD : AtD D acc (s.setGen g .running) := S₀.has (D, listC acc) (List.mem_cons_of_mem _ List.mem_cons_self)
  refine wpAny_pyNext_gen (gs := gs) (n := 0) (P := gEnd B fs D l) (Y := gProto B fs env L D Fr l N VP) r.handled (S₀.stat (B := gB B G) T).lim r.room (S₀.isGen (List.mem_cons_of_mem _ (List.mem_cons_of_mem _ ma))) hgs' go (fun v s₁ gs' hv => ?_) (fun s₁ hp h' hk' => ?_)
  · obtain ⟨hVP, hst, hkap⟩ := hv
    obtain ⟨hg1, S1⟩ := hst acc hD
    exact (hkap s₁ acc S1).elim
  · obtain ⟨_, hst⟩ := hp
    obtain ⟨hg1, S1⟩ := hst acc hD
    have S2 := (S1.keeps s₁.toks hk').regen ((s₁.setGen g .finished).gens)
    refine h _ _ S2 ?_ ?_
    · refine setGen_self (gs := .running) ?_
      rw [hg1]; exact setGen_self hgs'
    · have o1 := GenOnly.setGen s g .running
      have o2 := GenOnly.setGen s₁ g .finished
      rw [hg1] at o2
      rw [← hgs]
      exact o1.trans o2
end

end
-- G5
section
set_option maxRecDepth 100000
set_option maxHeartbeats 800000
section
variable {n : Nat} {fs : List Env} {A : Around} {env : Env} {body test' : List Stmt}
theorem Room.gen (r : Room (n + 1) fs A) : Room n (env :: fs) (A.over (.func body env) []) := by
  obtain ⟨h1, h2, h3, h4⟩ := r
  refine ⟨?_, ?_, ?_, h4⟩
  · show pushEnvs (Code.func body env).envs (pushEnvs (envsOf ([] : List (Code × Pos))) A.frames) = _
    rw [h1]; rfl
  · show A.depth + frameCount ([] : List (Code × Pos)) + (Code.func body env).weight + n < _
    have : (Code.func body env).weight = 1 := rfl
    rw [this, show frameCount ([] : List (Code × Pos)) = 0 from rfl]
    omega
  · show A.units + unitsOf ([] : List (Code × Pos)) + (Code.func body env).cUnits + 8 * n < _
    have : (Code.func body env).cUnits = 3 := rfl
    rw [this, show unitsOf ([] : List (Code × Pos)) = 0 from rfl]
    omega
theorem Room.genLoop {c : Code} {k : Result → Sem Fin} {g : Bool} {lv : List Value} {p : Pos} (r : Room (n + 1) fs A) (hE : c.envs = []) (hw : c.weight = 0) (hu : c.cUnits = 0) : Room n (env :: fs) (A.over c [.ret k none g lv (.func body env) p []]) := by
  obtain ⟨h1, h2, h3, h4⟩ := r
  have e1 : envsOf ([Frame.ret k none g lv (.func body env) p []].map Frame.where_) = [env] := rfl
  have e2 : frameCount ([Frame.ret k none g lv (.func body env) p []].map Frame.where_) = 1 := rfl
  have e3 : unitsOf ([Frame.ret k none g lv (.func body env) p []].map Frame.where_) = 3 := rfl
  refine ⟨?_, ?_, ?_, ?_⟩
  · show pushEnvs c.envs (pushEnvs (envsOf _) A.frames) = _
    rw [hE, e1, h1]; rfl
  · show A.depth + frameCount _ + c.weight + n < _
    rw [hw, e2]; omega
  · show A.units + unitsOf _ + c.cUnits + 8 * n < _
    rw [hu, e3]; omega
  · exact h4
end
section
variable {M : Model} {A : Around} {R : GenEnd} {Y : Protocol} {n : Nat} {s₀ : Shared} {c : Code} {fs : List Frame} {s : Shared} {env : Env} {K : Flow → Sem Fin} {H : Value → Sem Fin} {gd : Bool → Bool} {lv : List Value → List Value}
/-- a statement within a generator that yields nothing -/
theorem seg_stmt {st : Stmt} (h : wpAny M (A.over c fs) (exec st env) (fun f s' => Seg M A R Y n s₀ c (K f) fs s') NoE s) : Seg M A R Y n s₀ c ((exec st env).wrap K H gd lv) fs s :=
  seg_wrap (wpAny_mono h (fun _ _ z => z) fun _ _ z => z.elim)
theorem seg_If {test : Expr} {body orelse : List Stmt} {pos : Pos} (h : wpAny M (A.over c fs) (isTrue test env (eval test env)) (fun b s' => if b = true then Seg M A R Y n s₀ c ((execs body env).wrap K H gd lv) fs s' else Seg M A R Y n s₀ c ((execs orelse env).wrap K H gd lv) fs s') NoE s) :
    Seg M A R Y n s₀ c ((exec (.If test body orelse pos) env).wrap K H gd lv) fs s := by
  rw [arm_exec_If]
  refine seg_bind_wrap (wpAny_standAt ?_)
  refine seg_bind_wrap (wpAny_mono h (fun b s' hb => ?_) fun _ _ z => z.elim)
  cases b with
  | true => rw [if_pos rfl] at hb; exact hb
  | false => rw [if_neg Bool.false_ne_true] at hb; exact hb
end
section
variable {B : Shared} {G : Array GenState} {w : World} {K : Type} [DecidableEq K] {knd : AnyKind pw w K} {kd : Kind} {x : Addr} {pl cnt : Nat} {st : List (K × Value)} {c : Cells} {m : Int} {τ : Option Addr}
theorem Cach.reg (C : Cach w B knd kd x pl cnt st c m τ) (G : Array GenState) : Cach w (gB B G) knd kd x pl cnt st c m τ := by
  obtain ⟨rep, nd, hlen, hpl⟩ := C
  refine ⟨?_, nd, hlen, hpl⟩
  cases kd with
  | fifo => exact rep
  | lru => exact rep
  | ttl =>
    obtain ⟨dx, dd, tm, dt, rt, ld, t, u, tl, xs, ls, ev, kv, nx, pv, ns, rfl, r1, r2, r3, om⟩ := rep
    exact ⟨dx, dd, tm, dt, rt, ld, t, u, tl, xs, ls, ev, kv, nx, pv, ns, rfl, r1, r2, r3, om.grow (B' := gB B G) fun _ _ h => h⟩
  | tlru =>
    obtain ⟨dx, dd, tm, dt, it, od, t, u, xs, is_, os, ev, kv, rv, ns, rfl, r1, r2, r3, om⟩ := rep
    exact ⟨dx, dd, tm, dt, it, od, t, u, xs, is_, os, ev, kv, rv, ns, rfl, r1, r2, r3, om.grow (B' := gB B G) fun _ _ h => h⟩
end

end
-- G6
section
set_option maxRecDepth 100000
set_option maxHeartbeats 800000
abbrev tBody : List Stmt := inside (stP [41, 6])
def whTest : Stmt → Expr
  | .While t _ _ _ => t
  | _ => .Constant .none 0 default
def whBody : Stmt → List Stmt
  | .While _ b _ _ => b
  | _ => []
abbrev tTest : Expr := whTest (stIn tBody 2)
abbrev tTurn : List Stmt := whBody (stIn tBody 2)
abbrev tEnv (L : Addr) : Env := fnEnv fd1230 L 1230
abbrev tSc : Scope := fd1230.scope
section
variable {w : World} {A : Around} {E : Value → Shared → Prop} {B B₀ : Shared} {fs : List Env} {l l' : Cells} {s : Shared} {n : Nat} {K : Type} [DecidableEq K] {knd : AnyKind pw w K} {L y a d dy dr : Addr} {ns : List (Addr × Addr)} {ev kv : Addr → Value} {nx pv : Addr → Addr} {x dx dd tm dt rt ld : Addr} {mx sz m : Int} {t t₀ u tl te : Tok} {xs ls : List (K × Value × Value)} {zs : Names}
theorem ti0 {Q : Flow → Shared → Prop} (T : Stat (KK w) B.heap) (S₀ : St B fs ((L, nsC tSc [(S "self", .ref x)]) :: ttlC w knd B₀ x dx dd tm dt rt ld sz mx t u tl m xs ls ev kv nx pv ns l) s)
    (h : ∀ s', St B fs ((L, nsC tSc [(S "root", .ref rt), (S "self", .ref x)]) :: ttlC w knd B₀ x dx dd tm dt rt ld sz mx t u tl m xs ls ev kv nx pv ns l) s' → Q .next s') :
    wpAny (model pw w) A (exec (stIn tBody 0) (tEnv L)) Q NoE s := by
  refine wpAny_Assign_Name ?_
  walk_at "m_wk"
  exact h _ (by assumption)
theorem ti1 {Q : Flow → Shared → Prop} (T : Stat (KK w) B.heap) (hr : (rt, dr) ∈ ns) (S₀ : St B fs ((L, nsC tSc [(S "root", .ref rt), (S "self", .ref x)]) :: ttlC w knd B₀ x dx dd tm dt rt ld sz mx t u tl m xs ls ev kv nx pv ns l) s)
    (h : ∀ s', St B fs ((L, nsC tSc [(S "curr", .ref (nx rt)), (S "root", .ref rt), (S "self", .ref x)]) :: ttlC w knd B₀ x dx dd tm dt rt ld sz mx t u tl m xs ls ev kv nx pv ns l) s' → Q .next s') :
    wpAny (model pw w) A (exec (stIn tBody 1) (tEnv L)) Q NoE s := by
  refine wpAny_Assign_Name ?_
  walk_at "m_wk"
  refine getNext T (by assumption) (by walk_at "m_mem") (by walk_at "m_mem") fun s' S' => ?_
  walk_at "m_wk"
  exact h _ (by assumption)
theorem tTst {Q : Bool → Shared → Prop} (hr : (rt, dr) ∈ ns) (hy : (y, dy) ∈ ns) (S₀ : St B fs ((L, nsC tSc (zs ++ [(S "curr", .ref y), (S "root", .ref rt), (S "self", .ref x)])) :: ttlC w knd B₀ x dx dd tm dt rt ld sz mx t u tl m xs ls ev kv nx pv ns l) s)
    (h : ∀ s', St B fs ((L, nsC tSc (zs ++ [(S "curr", .ref y), (S "root", .ref rt), (S "self", .ref x)])) :: ttlC w knd B₀ x dx dd tm dt rt ld sz mx t u tl m xs ls ev kv nx pv ns l) s' → Q (!decide (y = rt)) s') :
    wpAny (model pw w) A (isTrue tTest (tEnv L) (eval tTest (tEnv L))) Q NoE s := by
  refine wpAny_isTrue_Compare1 ?_
  refine ldS S₀ (by walk_at "m_mem") (List.mem_append_right _ (by walk_at "m_mem")) ?_
  refine ldS S₀ (by walk_at "m_mem") (List.mem_append_right _ (by walk_at "m_mem")) ?_
  refine isNotRef S₀ (by walk_at "m_mem") (by walk_at "m_mem") ?_
  refine wpAny_truthy_bool ?_
  exact h _ S₀
theorem tTime {Q : Flow → Shared → Prop} (hz : zs = [] ∨ ∃ v, zs = [(S "time", v)]) (T : Stat (KK w) B.heap) (r : Room n fs A) (hn : 3 ≤ n) (S₀ : St B fs ((L, nsC tSc (zs ++ [(S "curr", .ref y), (S "root", .ref rt), (S "self", .ref x)])) :: ttlC w knd B₀ x dx dd tm dt rt ld sz mx t u tl m xs ls ev kv nx pv ns l) s)
    (h : ∀ s' tk, St B fs ((L, nsC tSc [(S "time", .int 100 tk), (S "curr", .ref y), (S "root", .ref rt), (S "self", .ref x)]) :: ttlC w knd B₀ x dx dd tm dt rt ld sz mx t u tl m xs ls ev kv nx pv ns l) s' → Q .next s') :
    wpAny (model pw w) A (exec (stIn tTurn 0) (tEnv L)) Q NoE s := by
  refine wpAny_Assign_Name ?_
  rcases hz with rfl | ⟨v, rfl⟩
  · simp only [List.nil_append] at S₀
    walk_at "m_tcall"
    walk_at "m_wk"
    exact h _ _ (by assumption)
  · simp only [List.cons_append, List.nil_append] at S₀
    walk_at "m_tcall"
    walk_at "m_wk"
    exact h _ _ (by assumption)
def ifTest : Stmt → Expr
  | .If t _ _ _ => t
  | _ => .Constant .none 0 default
abbrev tIf : Expr := ifTest (stIn tTurn 1)
theorem tLive {Q : Bool → Shared → Prop} (T : Stat (KK w) B.heap) (hy : (y, dy) ∈ ns) (he : ev y = .int endV te) (S₀ : St B fs ((L, nsC tSc [(S "time", .int 100 t), (S "curr", .ref y), (S "root", .ref rt), (S "self", .ref x)]) :: ttlC w knd B₀ x dx dd tm dt rt ld sz mx t₀ u tl m xs ls ev kv nx pv ns l) s)
    (h : ∀ s', St B fs ((L, nsC tSc [(S "time", .int 100 t), (S "curr", .ref y), (S "root", .ref rt), (S "self", .ref x)]) :: ttlC w knd B₀ x dx dd tm dt rt ld sz mx t₀ u tl m xs ls ev kv nx pv ns l) s' → Q true s') :
    wpAny (model pw w) A (isTrue tIf (tEnv L) (eval tIf (tEnv L))) Q NoE s := by
  refine wpAny_isTrue_Compare1 ?_
  walk_at "m_wk"
  refine getExp T (by assumption) (by walk_at "m_mem") (by walk_at "m_mem") he rfl fun s' S' => ?_
  walk_at "m_wk"
  exact h _ S'
end

end
-- G7
section
set_option maxRecDepth 100000
set_option maxHeartbeats 1600000
section
variable {w : World} {A : Around} {B B₀ : Shared} {fs : List Env} {l : Cells} {s : Shared} {n : Nat} {K : Type} [DecidableEq K] {knd : AnyKind pw w K} {L D y a d dy dr : Addr} {ns : List (Addr × Addr)} {ev kv : Addr → Value} {nx pv : Addr → Addr} {x dx dd tm dt rt ld : Addr} {mx sz m : Int} {t t₀ u tl te : Tok} {xs ls : List (K × Value × Value)} {as : List Addr}
theorem tNext {Q : Flow → Shared → Prop} (T : Stat (KK w) B.heap) (hy : (y, dy) ∈ ns) (S₀ : St B fs ((L, nsC tSc [(S "time", .int 100 t), (S "curr", .ref y), (S "root", .ref rt), (S "self", .ref x)]) :: ttlC w knd B₀ x dx dd tm dt rt ld sz mx t₀ u tl m xs ls ev kv nx pv ns l) s)
    (h : ∀ s', St B fs ((L, nsC tSc [(S "time", .int 100 t), (S "curr", .ref (nx y)), (S "root", .ref rt), (S "self", .ref x)]) :: ttlC w knd B₀ x dx dd tm dt rt ld sz mx t₀ u tl m xs ls ev kv nx pv ns l) s' → Q .next s') :
    wpAny (model pw w) A (exec (stIn tTurn 2) (tEnv L)) Q NoE s := by
  refine wpAny_Assign_Name ?_
  walk_at "m_wk"
  refine getNext T (by assumption) (by walk_at "m_mem") (by walk_at "m_mem") fun s' S' => ?_
  walk_at "m_wk"
  exact h _ (by assumption)
/-- the frame of the generator, j items given -/
def tFr (x rt : Addr) (as : List Addr) : Nat → Cell
  | 0 => nsC tSc [(S "self", .ref x)]
  | j + 1 => fun o => ∃ tk, nsC tSc [(S "time", .int 100 tk), (S "curr", .ref (as.getD j 0)), (S "root", .ref rt), (S "self", .ref x)] o
theorem tFr_soft (j : Nat) : Soft (tFr x rt as j) := by
  cases j with
  | zero => exact soft_nsC
  | succ j => exact fun o sl ⟨tk, h⟩ => ⟨tk, soft_nsC o sl h⟩
theorem nsC_data {sc : Scope} {xs : Names} {o : Obj} (h : nsC sc xs o) : ∀ vs, o.data ≠ .fields vs := fun vs e => by
  obtain ⟨⟨es, ep, h1, _⟩, _⟩ := h
  rw [h1] at e; cases e
theorem tFr_data (j : Nat) (o : Obj) (h : tFr x rt as j o) : ∀ vs, o.data ≠ .fields vs := by
  cases j with
  | zero => exact nsC_data h
  | succ j => obtain ⟨tk, h⟩ := h; exact nsC_data h
abbrev tVP (kv : Addr → Value) (as : List Addr) : Nat → Value → Prop := fun j v => (as[j]?).map kv = some v
abbrev tLp (L : Addr) : Code := .whileLoop tTest tTurn [] (tEnv L)
theorem ttlLoop {F : Frame} (T : Stat (KK w) B.heap) (hring : Ring nx pv rt as) (hns : ∀ a ∈ rt :: as, a ∈ ns.map (·.1)) (hev : ∀ a ∈ as, ∃ te, ev a = .int endV te) (hkv : ∀ a ∈ as, handedIn (kv a) = true)
    (hF1 : splitAtGen [F] = none) (hF2 : [F].any Frame.guarded = false) (rF : Room (n + 5) (tEnv L :: fs) (A.over (tLp L) [F]))
    (exit : ∀ s₀ s acc zs, AtD D acc s₀ → s.gens = s₀.gens → St (gB B s.gens) (tEnv L :: fs) ((L, nsC tSc zs) :: (D, listC acc) :: ttlC w knd B x dx dd tm dt rt ld sz mx t₀ u tl m xs ls ev kv nx pv ns l) s →
      Seg (model pw w) A (gRes B fs D (ttlC w knd B x dx dd tm dt rt ld sz mx t₀ u tl m xs ls ev kv nx pv ns l)) (gProto B fs (tEnv L) L D (tFr x rt as) (ttlC w knd B x dx dd tm dt rt ld sz mx t₀ u tl m xs ls ev kv nx pv ns l) as.length (tVP kv as)) 0 s₀ (tLp L) (.pure (.done .next)) [F] s) :
    ∀ (q p : List Addr), as = p ++ q → ∀ y r zs s₀ s acc, q ++ [rt] = y :: r → (zs = [] ∨ ∃ v, zs = [(S "time", v)]) → AtD D acc s₀ → s.gens = s₀.gens →
      St (gB B s.gens) (tEnv L :: fs) ((L, nsC tSc (zs ++ [(S "curr", .ref y), (S "root", .ref rt), (S "self", .ref x)])) :: (D, listC acc) :: ttlC w knd B x dx dd tm dt rt ld sz mx t₀ u tl m xs ls ev kv nx pv ns l) s →
      Seg (model pw w) A (gRes B fs D (ttlC w knd B x dx dd tm dt rt ld sz mx t₀ u tl m xs ls ev kv nx pv ns l)) (gProto B fs (tEnv L) L D (tFr x rt as) (ttlC w knd B x dx dd tm dt rt ld sz mx t₀ u tl m xs ls ev kv nx pv ns l) as.length (tVP kv as)) q.length s₀ (tLp L) ((model pw w).den (tLp L)) [F] s := by
  obtain ⟨dr, hdr⟩ := node_of (hns rt List.mem_cons_self)
  intro q
  induction q with
  | nil =>
    intro p hp y r zs s₀ s acc hy hz hAt hg S₁
    obtain ⟨rfl, _⟩ : rt = y ∧ [] = r := by simpa using hy
    have S2 := S₁.perm (l' := (L, nsC tSc (zs ++ [(S "curr", .ref rt), (S "root", .ref rt), (S "self", .ref x)])) :: ttlC w knd B x dx dd tm dt rt ld sz mx t₀ u tl m xs ls ev kv nx pv ns ((D, listC acc) :: l)) (by walk_at "m_pm")
    refine seg_whileLoop (wpAny_mono (tTst hdr hdr S2 (Q := fun b s' => b = false ∧ s'.gens = s.gens ∧ St (gB B s.gens) (tEnv L :: fs) ((L, nsC tSc (zs ++ [(S "curr", .ref rt), (S "root", .ref rt), (S "self", .ref x)])) :: ttlC w knd B x dx dd tm dt rt ld sz mx t₀ u tl m xs ls ev kv nx pv ns ((D, listC acc) :: l)) s') fun s' S' => ⟨by simp, S'.gens, S'⟩) (fun b s' h => ?_) (E := NoE) fun _ _ z => (z : False).elim)
    obtain ⟨rfl, hg', S3⟩ := h
    rw [if_neg Bool.false_ne_true]
    refine seg_execs_nil ?_
    refine exit s₀ s' acc (zs ++ [(S "curr", .ref rt), (S "root", .ref rt), (S "self", .ref x)]) hAt (hg'.trans hg) ?_
    rw [hg']
    exact S3.perm (by walk_at "m_pm")
  | cons a q ih =>
    intro p hp y r zs s₀ s acc hy hz hAt hg S₁
    obtain ⟨rfl, hr⟩ : a = y ∧ q ++ [rt] = r := by simpa using hy
    have ham : a ∈ as := by rw [hp]; simp
    obtain ⟨da, hda⟩ := node_of (hns a (List.mem_cons_of_mem _ ham))
    obtain ⟨te, hte⟩ := hev a ham
    have hne : a ≠ rt := fun e => (List.nodup_cons.mp hring.nd).1 (e ▸ ham)
    obtain ⟨y', r', hy'⟩ := cons_of rt q
    have hnx : nx a = y' := by
      have hc := hring.chn
      rw [hp, List.append_assoc, List.cons_append, ← List.cons_append, hy'] at hc
      exact (Chn.app.mp hc).2.1
    have hN : as.length = p.length + (q.length + 1) := by rw [hp]; simp
    have hget : as[p.length]? = some a := by rw [hp, List.getElem?_append_right (Nat.le_refl _)]; simp
    have S2 := S₁.perm (l' := (L, nsC tSc (zs ++ [(S "curr", .ref a), (S "root", .ref rt), (S "self", .ref x)])) :: ttlC w knd B x dx dd tm dt rt ld sz mx t₀ u tl m xs ls ev kv nx pv ns ((D, listC acc) :: l)) (by walk_at "m_pm")
    refine seg_whileLoop (wpAny_mono (tTst hdr hda S2 (Q := fun b s' => b = true ∧ s'.gens = s.gens ∧ St (gB B s.gens) (tEnv L :: fs) ((L, nsC tSc (zs ++ [(S "curr", .ref a), (S "root", .ref rt), (S "self", .ref x)])) :: ttlC w knd B x dx dd tm dt rt ld sz mx t₀ u tl m xs ls ev kv nx pv ns ((D, listC acc) :: l)) s') fun s' S' => ⟨by simp [hne], S'.gens, S'⟩) (fun b s' h => ?_) (E := NoE) fun _ _ z => (z : False).elim)
    obtain ⟨rfl, hg', S3⟩ := h
    rw [if_pos rfl]
    refine seg_execs_cons ?_
    refine seg_stmt (tTime (B := gB B s.gens) (zs := zs) hz T rF (by omega) S3 fun s₂ tk S4 => ?_)
    refine seg_execs_cons ?_
    refine seg_If (tLive (B := gB B s.gens) T hda hte S4 fun s₃ S5 => ?_)
    rw [if_pos rfl]
    refine seg_execs_cons ?_
    refine seg_Expr_Yield hF1 rfl hF2 ?_
    clear S₁ S2 S3 S4
    refine Attribute_any_ ?_
    walk_at "m_wk"
    refine getKey (B := gB B s.gens) T S5 (by walk_at "m_mem") (by walk_at "m_mem") (hkv a ham) fun s₄ S6 => ?_
    intro kap hkap
    have hg4 : s₄.gens = s.gens := S6.gens
    have e1 : as.length - 1 - q.length = p.length := by omega
    have e2 : as.length - q.length = p.length + 1 := by omega
    refine ⟨?_, fun acc' hAt' => ⟨hg4.trans hg, ?_⟩, fun s'' acc'' hin => hkap .none s'' ?_⟩
    · rw [e1]; show (as[p.length]?).map kv = some (kv a); rw [hget]; rfl
    · obtain rfl := hAt.inj hAt'
      rw [e2]
      show St (gB B s₄.gens) (tEnv L :: fs) ((L, tFr x rt as (p.length + 1)) :: (D, listC acc) :: ttlC w knd B x dx dd tm dt rt ld sz mx t₀ u tl m xs ls ev kv nx pv ns l) s₄
      rw [hg4]
      refine (St.imp S6 Upd.here (c' := tFr x rt as (p.length + 1)) (fun o ho => ⟨tk, ?_⟩) fun _ => tFr_soft _).perm (by walk_at "m_pm")
      rw [List.getD_eq_getElem?_getD, hget]
      exact ho
    · rw [e2] at hin
      have hin : St (gB B s''.gens) (tEnv L :: fs) ((L, tFr x rt as (p.length + 1)) :: (D, listC acc'') :: ttlC w knd B x dx dd tm dt rt ld sz mx t₀ u tl m xs ls ev kv nx pv ns l) s'' := hin
      obtain ⟨tk', S7⟩ := hin.choose List.mem_cons_self (d := fun tk' => nsC tSc [(S "time", .int 100 tk'), (S "curr", .ref a), (S "root", .ref rt), (S "self", .ref x)]) (m := fun tk' => (L, nsC tSc [(S "time", .int 100 tk'), (S "curr", .ref a), (S "root", .ref rt), (S "self", .ref x)]) :: (D, listC acc'') :: ttlC w knd B x dx dd tm dt rt ld sz mx t₀ u tl m xs ls ev kv nx pv ns l) (fun tk' => Upd.here) (fun o ⟨tk', ho⟩ => ⟨tk', by rwa [List.getD_eq_getElem?_getD, hget] at ho⟩) fun tk' _ => soft_nsC
      dsimp only
      refine seg_execs_nil ?_
      dsimp only
      refine seg_execs_cons ?_
      have S8 := S7.perm (l' := (L, nsC tSc [(S "time", .int 100 tk'), (S "curr", .ref a), (S "root", .ref rt), (S "self", .ref x)]) :: ttlC w knd B x dx dd tm dt rt ld sz mx t₀ u tl m xs ls ev kv nx pv ns ((D, listC acc'') :: l)) (by walk_at "m_pm")
      refine seg_stmt (tNext (B := gB B s''.gens) T hda S8 fun s₅ S9 => ?_)
      dsimp only
      refine seg_execs_nil ?_
      have hg5 : s₅.gens = s''.gens := S9.gens
      refine seg_again rfl (ih (p ++ [a]) (by rw [hp]; simp) y' r' [(S "time", .int 100 tk')] s'' s₅ acc'' hy' (.inr ⟨_, rfl⟩) (S7.has (D, listC acc'') (by walk_at "m_mem")) hg5 ?_)
      rw [hg5]
      rw [hnx] at S9
      have S10 := S9.perm (l' := (L, nsC tSc [(S "time", .int 100 tk'), (S "curr", .ref y'), (S "root", .ref rt), (S "self", .ref x)]) :: (D, listC acc'') :: ttlC w knd B x dx dd tm dt rt ld sz mx t₀ u tl m xs ls ev kv nx pv ns l) (by walk_at "m_pm")
      exact S10
/-- the generator, just made -/
theorem ttlFresh (T : Stat (KK w) B.heap) (r : Room (n + 7) fs A) (hring : Ring nx pv rt as) (hns : ∀ a ∈ rt :: as, a ∈ ns.map (·.1)) (hev : ∀ a ∈ as, ∃ te, ev a = .int endV te) (hkv : ∀ a ∈ as, handedIn (kv a) = true) :
    GoAt w A B fs (tEnv L) L D (tFr x rt as) (ttlC w knd B x dx dd tm dt rt ld sz mx t₀ u tl m xs ls ev kv nx pv ns l) as.length (tVP kv as) 0 (.fresh (.func tBody (tEnv L))) := by
  obtain ⟨dr, hdr⟩ := node_of (hns rt List.mem_cons_self)
  intro acc s'' hin
  refine ⟨rfl, ?_⟩
  have hin : St (gB B s''.gens) (tEnv L :: fs) ((L, nsC tSc [(S "self", .ref x)]) :: (D, listC acc) :: ttlC w knd B x dx dd tm dt rt ld sz mx t₀ u tl m xs ls ev kv nx pv ns l) s'' := hin
  have hAt : AtD D acc s'' := hin.has (D, listC acc) (by walk_at "m_mem")
  have S1 := hin.perm (l' := (L, nsC tSc [(S "self", .ref x)]) :: ttlC w knd B x dx dd tm dt rt ld sz mx t₀ u tl m xs ls ev kv nx pv ns ((D, listC acc) :: l)) (by walk_at "m_pm")
  have rf : Room (n + 6) (tEnv L :: fs) (A.over (.func tBody (tEnv L)) []) := r.gen
  refine seg_func ?_
  refine seg_execs_cons ?_
  refine seg_stmt (ti0 (B := gB B s''.gens) T S1 fun s₁ S2 => ?_)
  dsimp only
  refine seg_execs_cons ?_
  refine seg_stmt (ti1 (B := gB B s''.gens) T hdr S2 fun s₂ S3 => ?_)
  dsimp only
  refine seg_execs_cons ?_
  refine seg_While fun p => ?_
  obtain ⟨y, r', hy⟩ := cons_of rt as
  have hnx : nx rt = y := by
    have hc := hring.chn
    rw [hy] at hc
    exact hc.1
  have hg : s₂.gens = s''.gens := S3.gens
  refine ttlLoop T hring hns hev hkv rfl rfl (Room.genLoop (n := n + 5) (r.less (by omega)) rfl rfl rfl) ?_ as [] rfl y r' [] s'' s₂ acc hy (.inl rfl) hAt hg ?_
  · intro s₀ s₄ acc' zs hAt' hg' S4
    refine seg_leaf (.ok .next) ?_
    refine seg_end (.ok (.ret .none)) ⟨rfl, rfl, fun acc'' h'' => ⟨hg', ?_⟩⟩
    obtain rfl := hAt'.inj h''
    exact (St.pop S4).tail
  · rw [hg]
    rw [hnx] at S3
    have S5 := S3.perm (l' := (L, nsC tSc [(S "curr", .ref y), (S "root", .ref rt), (S "self", .ref x)]) :: (D, listC acc) :: ttlC w knd B x dx dd tm dt rt ld sz mx t₀ u tl m xs ls ev kv nx pv ns l) (by walk_at "m_pm")
    exact S5
end

end
-- G8
section
set_option maxRecDepth 100000
set_option maxHeartbeats 1600000
theorem gens_done {G0 G : Array GenState} {gs : GenState} (o : GenOnly G0.size (G0.push gs) G) (hf : G[G0.size]? = some .finished) : G = G0.push .finished := by
  refine Array.ext_getElem? fun k => ?_
  by_cases hk : k = G0.size
  · subst hk; rw [hf]; simp
  · rw [o.2 k hk]
    rw [Array.getElem?_push, Array.getElem?_push, if_neg hk, if_neg hk]
section
variable {w : World} {A : Around} {B : Shared} {fs : List Env} {l c : Cells} {s : Shared} {n pl cnt : Nat} {f : Nat → Key} {hf : ∀ x y, f x = f y → x = y} {x : Addr} {st : List (Nat × Value)}
theorem intsAre_map {α : Type} (g : α → Value) (h : α → Nat) : ∀ {es : List α}, (∀ e ∈ es, ∃ t, g e = .int (h e : Int) t) → IntsAre (es.map g) (intsN (es.map h))
  | [], _ => .nil
  | e :: r, H => by
    obtain ⟨t, ht⟩ := H e List.mem_cons_self
    rw [List.map_cons, ht]
    exact .cons _ _ (intsAre_map g h fun e he => H e (List.mem_cons_of_mem _ he))
theorem listTtl {Q : Value → Shared → Prop} (C : Cach w B (kndOf w f hf) .ttl x pl cnt st c) (hc : cnt < 800) (T : Stat (KK w) B.heap) (r : Room (n + 26) fs A) (hs : SmallInts f) (hk7 : ∀ k ∈ st.map (·.1), k < 7) (S₀ : St B fs (c ++ l) s)
    (h : ∀ D vs ks s' c', ks.Perm (st.map (·.1)) → IntsAre vs (intsN ks) → Cach w B (kndOf w f hf) .ttl x pl cnt st c' → St (gB B (B.gens.push .finished)) fs ((D, listC vs) :: (c' ++ l)) s' → Q (.ref D) s') :
    wpAny (model pw w) A (call (.type "list") [.ref x]) Q NoE s := by
  obtain ⟨dx, ns0, mi, md⟩ := C.inst
  refine listOwn T S₀ (List.mem_append_left _ mi) (List.mem_append_left _ md) (f := 1230) (fl := 1072) (by kernel_rfl) (by kernel_rfl) fun D s₁ S₁ => wpAny_call ?_
  refine callGen (binds := [(S "self", .ref x)]) (names := [S "self"]) (locs := [(S "self", .ref x)]) fnOk1230 T S₁ (r.in1.in1.less (m := n + 20) (by omega)) (BindsTo.of_eq (by kernel_rfl)) rfl rfl (by kernel_rfl) (by decide +kernel) (by kernel_rfl) fun L a s₂ S₂ => ?_
  generalize hG1 : B.gens.push (.fresh (.func tBody (fnEnv fd1230 L 1230))) = G1 at S₂
  have hT : s₂.TypeIs (.ref a) "generator" := let ⟨o, ho, h1, _⟩ := S₂.has _ (.head _); ⟨o, ho, h1⟩
  refine ⟨a, "generator", _, gB B G1, _, dx, idC ns0, rfl, hT, slot_gen_next.lookup, T, S₂, List.mem_cons_of_mem _ (List.mem_cons_of_mem _ (List.mem_cons_of_mem _ (List.mem_append_left _ mi))), List.mem_cons_of_mem _ (List.mem_cons_of_mem _ (List.mem_cons_of_mem _ (List.mem_append_left _ md))), ?_⟩
  have C1 := C.reg G1
  refine cacheLen (B := gB B G1) (n := n) (l := (a, genC B.gens.size) :: (L, nsC tSc [(S "self", .ref x)]) :: (D, listC []) :: l) C1 hc T (r.in1.in1.less (by omega)) (S₂.perm (by walk_at "m_pm")) fun s₃ c' t₃ C2 S₃ => ?_
  have C3 : Cach w B (kndOf w f hf) .ttl x pl cnt st c' := C2.reg B.gens
  clear C1 C2 S₂ S₁ S₀ mi md
  have hlen := C3.len
  have hpl := C3.pl
  obtain ⟨⟨dx, dd, tm, dt, rt, ld, t, u, tl, xs, ls, ev, kv, nx, pv, ns, rfl, ag, ek, ok, om⟩, nd, _, _⟩ := id C3
  obtain ⟨as, hperm, hring⟩ := om.ring
  obtain ⟨ls', hpl', rfl⟩ := perm_of_map hperm
  have hls : ls.length = st.length := len_keys ek
  have hns : ∀ a ∈ rt :: ls'.map adr, a ∈ ns.map (·.1) := fun a ha => by
    rcases List.mem_cons.mp ha with rfl | ha
    · exact ok.hrt
    · obtain ⟨e, he, rfl⟩ := List.mem_map.mp ha
      obtain ⟨a, h1, h2, _⟩ := ok.hlk e (hpl'.mem_iff.mp he)
      unfold adr; rw [h1]; exact h2
  have hev : ∀ a ∈ ls'.map adr, ∃ te, ev a = .int endV te := fun a ha => by
    obtain ⟨e, he, rfl⟩ := List.mem_map.mp ha
    obtain ⟨a, h1, h2, h3⟩ := ok.hlk e (hpl'.mem_iff.mp he)
    unfold adr; rw [h1]; exact ok.hev a h2 h3
  have hint : ∀ e ∈ ls', ∃ t, kv (adr e) = .int (e.1 : Int) t := fun e he => by
    have he' := hpl'.mem_iff.mp he
    have h1 := om.key e he'
    have h2 : keyIs pw w B.heap (f e.1) (kv (adr e)) := h1
    have h7 : e.1 < 7 := hk7 _ (by rw [← ek]; exact List.mem_map.mpr ⟨e, he', rfl⟩)
    rw [hs _ h7] at h2
    obtain ⟨t, ht⟩ := Value.isInt_shape (show Value.isInt (e.1 : Int) (kv (adr e)) = true from h2)
    exact ⟨t, ht⟩
  have hkv : ∀ a ∈ ls'.map adr, handedIn (kv a) = true := fun a ha => by
    obtain ⟨e, he, rfl⟩ := List.mem_map.mp ha
    obtain ⟨t, ht⟩ := hint e he
    rw [ht]; rfl
  have hll : ls'.length = st.length := hpl'.length_eq.trans hls
  refine ⟨st.length, t₃, gB B G1, (L, nsC tSc [(S "self", .ref x)]) :: ttlC w (kndOf w f hf) B x dx dd tm dt rt ld st.length pl t u tl 0 xs ls ev kv nx pv ns ((a, genC B.gens.size) :: l), rfl, by omega, ?_, fun s₄ S₄ => ?_⟩
  · simp only [List.cons_append] at S₃
    exact S₃.perm (by walk_at "m_pm")
  have rg : Room (n + 20) fs A.in1.in1.in1 := r.in1.in1.in1.less (by omega)
  have hN : (ls'.map adr).length = st.length := by rw [List.length_map]; exact hll
  have go0 : GoAt w A.in1.in1.in1 B fs (tEnv L) L D (tFr x rt (ls'.map adr)) (ttlC w (kndOf w f hf) B x dx dd tm dt rt ld st.length pl t u tl 0 xs ls ev kv nx pv ns ((a, genC B.gens.size) :: l)) (ls'.map adr).length (tVP kv (ls'.map adr)) 0 (.fresh (.func tBody (tEnv L))) :=
    ttlFresh (n := n + 10) T (rg.less (by omega)) hring hns hev hkv
  have hg1 : G1[B.gens.size]? = some (.fresh (.func tBody (tEnv L))) := by rw [← hG1]; simp
  refine extendLoop (fs := fs) (A := A.in1) (fun i acc B' l' => acc = ((ls'.map adr).take i).map kv ∧ acc.length = i ∧ ∃ G gs, B' = gB B G ∧ l' = (L, tFr x rt (ls'.map adr) i) :: ttlC w (kndOf w f hf) B x dx dd tm dt rt ld st.length pl t u tl 0 xs ls ev kv nx pv ns ((a, genC B.gens.size) :: l) ∧ G[B.gens.size]? = some gs ∧ GoAt w A.in1.in1.in1 B fs (tEnv L) L D (tFr x rt (ls'.map adr)) (ttlC w (kndOf w f hf) B x dx dd tm dt rt ld st.length pl t u tl 0 xs ls ev kv nx pv ns ((a, genC B.gens.size) :: l)) (ls'.map adr).length (tVP kv (ls'.map adr)) i gs ∧ GenOnly B.gens.size G1 G)
    (fun acc B' l' => acc = (ls'.map adr).map kv ∧ B' = gB B (B.gens.push .finished) ∧ l' = ttlC w (kndOf w f hf) B x dx dd tm dt rt ld st.length pl t u tl 0 xs ls ev kv nx pv ns ((a, genC B.gens.size) :: l)) (ls'.map adr).length (by rw [hN]; omega) (fun i acc B l h => h.2.1) ?_ ?_ ?_ _ 0 (gB B G1) _ s₄ [] rfl (Nat.zero_le _) ⟨rfl, rfl, G1, _, rfl, rfl, hg1, go0, ⟨rfl, fun _ _ => rfl⟩⟩ S₄
  · rintro i acc B' l' s hlt ⟨ha, hl, G, gs, rfl, rfl, hG, hgo, ho⟩ S
    refine genNext (a := a) (g := B.gens.size) (n := n) T (r.in1.in1.less (by omega)) rfl (by show fd1230.scope.kind ≠ _; rw [(fnOk1230 (w := w)).kind]; decide) tFr_data tFr_soft (S.perm (l' := (L, _) :: (D, listC acc) :: ttlC w (kndOf w f hf) B x dx dd tm dt rt ld st.length pl t u tl 0 xs ls ev kv nx pv ns ((a, genC B.gens.size) :: l)) (.swap ..)) (by walk_at "m_mem") hG hgo hlt fun v G' gs' s' hv S' hG' hgo' ho' => ?_
    have hv : (((ls'.map adr))[i]?).map kv = some v := hv
    refine ⟨v, gB B G', _, rfl, ⟨?_, by rw [List.length_append, hl]; rfl, G', gs', rfl, rfl, hG', hgo', ho.trans ho'⟩, S'.perm (.swap ..)⟩
    rw [List.take_add_one, List.map_append, ← ha]
    obtain ⟨y, hy, rfl⟩ := Option.map_eq_some_iff.mp hv
    rw [hy]; rfl
  · rintro acc B' l' s ⟨ha, hl, G, gs, rfl, rfl, hG, hgo, ho⟩ S
    refine genEnd (a := a) (g := B.gens.size) (n := n) T (r.in1.in1.less (by omega)) rfl (by show fd1230.scope.kind ≠ _; rw [(fnOk1230 (w := w)).kind]; decide) tFr_data tFr_soft (S.perm (l' := (L, _) :: (D, listC acc) :: ttlC w (kndOf w f hf) B x dx dd tm dt rt ld st.length pl t u tl 0 xs ls ev kv nx pv ns ((a, genC B.gens.size) :: l)) (.swap ..)) (by walk_at "m_mem") hG hgo fun G' s' S' hf' ho' => ?_
    rw [List.take_of_length_le (Nat.le_refl _)] at ha
    have hGf : G' = B.gens.push .finished := by
      have o := ho.trans ho'
      rw [← hG1] at o
      exact gens_done o hf'
    subst hGf
    exact ⟨rfl, _, _, ⟨ha, rfl, rfl⟩, S'⟩
  · rintro acc B' l' s ⟨ha, rfl, rfl⟩ S
    refine ⟨rfl, ?_⟩
    rw [List.map_map] at ha
    have hi := intsAre_map (kv ∘ adr) (fun e => e.1) (es := ls') hint
    rw [← ha] at hi
    refine h D acc (ls'.map (·.1)) s _ ((hpl'.map _).trans (by rw [ek])) hi C3 ?_
    have S5 := (S.perm (l' := (a, genC B.gens.size) :: (D, listC acc) :: ttlC w (kndOf w f hf) B x dx dd tm dt rt ld st.length pl t u tl 0 xs ls ev kv nx pv ns l) (by walk_at "m_pm")).tail
    exact S5
end

end
-- G9
section
set_option maxRecDepth 100000
set_option maxHeartbeats 800000
/-! a generator with cells of its own -/
section
variable {w : World} {A : Around} {B : Shared} {fs : List Env} {l X : Cells} {s : Shared} {env : Env} {L D a : Addr} {g N : Nat} {VP : Nat → Value → Prop} {E : Value → Shared → Prop} {acc : List Value} {G : Array GenState} {gs : GenState} {j : Nat} {c : Cell}
/-- a frame's cell -/
def OkC (c : Cell) : Prop := Soft c ∧ ∀ o, c o → ∀ vs, o.data ≠ .fields vs
theorem OkC.ns {sc : Scope} {xs : Names} : OkC (nsC sc xs) := ⟨soft_nsC, fun _ h => nsC_data h⟩
abbrev GenInX (B : Shared) (fs : List Env) (env : Env) (L D : Addr) (l : Cells) (c : Cell) (X : Cells) (acc : List Value) (s : Shared) : Prop := St (gB B s.gens) (env :: fs) ((L, c) :: (D, listC acc) :: (X ++ l)) s
def xProto (B : Shared) (fs : List Env) (env : Env) (L D : Addr) (l : Cells) (N : Nat) (VP : Nat → Value → Prop) : Protocol := fun m s₀ v s kap =>
  VP (N - 1 - m) v ∧ ∃ c X, OkC c ∧ (∀ acc, AtD D acc s₀ → s.gens = s₀.gens ∧ GenInX B fs env L D l c X acc s) ∧ ∀ s'' acc, GenInX B fs env L D l c X acc s'' → kap (.send .none) s''
def GoAtX (w : World) (A : Around) (B : Shared) (fs : List Env) (env : Env) (L D : Addr) (l : Cells) (N : Nat) (VP : Nat → Value → Prop) (j : Nat) (c : Cell) (X : Cells) (gs : GenState) : Prop :=
  ∀ acc s'', GenInX B fs env L D l c X acc s'' → gs.Goes (model pw w) A (gRes B fs D l) (xProto B fs env L D l N VP) (N - j) (.send .none) s''
theorem genNextX {Q : Option Value → Shared → Prop} {K : Frag} {n : Nat} (T : Stat K B.heap) (r : Room (n + 1) fs A) (he : env.frame = some L) (hk : env.scope.kind ≠ .module)
    (hO : OkC c) (S₀ : St (gB B G) fs ((L, c) :: (D, listC acc) :: (X ++ l)) s) (ma : (a, genC g) ∈ l) (hg : G[g]? = some gs) (hgo : GoAtX w A.in1 B fs env L D l N VP j c X gs) (hj : j < N)
    (h : ∀ v G' gs' s' c' X', VP j v → OkC c' → St (gB B G') fs ((L, c') :: (D, listC acc) :: (X' ++ l)) s' → G'[g]? = some gs' → GoAtX w A.in1 B fs env L D l N VP (j + 1) c' X' gs' → GenOnly g G G' → Q (some v) s') :
    wpAny (model pw w) A (pyNext (.ref a)) Q E s := by
  have hgs : s.gens = G := S₀.gens
  have hgs' : s.gens[g]? = some gs := by rw [hgs]; exact hg
  obtain ⟨m, hm⟩ : ∃ m, N - j = m + 1 := ⟨N - j - 1, by omega⟩
  have Sr := S₀.regen ((s.setGen g .running).gens)
  have SI : GenInX B fs env L D l c X acc (s.setGen g .running) := Sr.enter he hk hO.2 hO.1
  have go := hgo acc _ SI
  rw [hm] at go
  refine wpAny_pyNext_gen (gs := gs) (n := m + 1) (P := gEnd B fs D l) (Y := xProto B fs env L D l N VP) r.handled (S₀.stat (B := gB B G) T).lim r.room (S₀.isGen (List.mem_cons_of_mem _ (List.mem_cons_of_mem _ (List.mem_append_right _ ma)))) hgs' go (fun v s₁ gs' hv => ?_) (fun s₁ hp h' hk' => ?_)
  · obtain ⟨hVP, c', X', hO', hst, hkap⟩ := hv
    have hD : AtD D acc (s.setGen g .running) := S₀.has (D, listC acc) (List.mem_cons_of_mem _ List.mem_cons_self)
    obtain ⟨hg1, S1⟩ := hst acc hD
    have e1 : N - 1 - (m + 1 - 1) = j := by omega
    rw [e1] at hVP
    have S2 := (St.pop S1).regen ((s₁.setGen g gs').gens)
    refine h v _ gs' _ c' X' hVP hO' S2 ?_ (fun acc' s'' hin => ?_) ?_
    · refine setGen_self (gs := .running) ?_
      rw [hg1]; exact setGen_self hgs'
    · have := hkap s'' acc' hin
      have e3 : N - (j + 1) = m := by omega
      rw [e3]
      exact this
    · have o1 := GenOnly.setGen s g .running
      have o2 := GenOnly.setGen s₁ g gs'
      rw [hg1] at o2
      rw [← hgs]
      exact o1.trans o2
  · exact absurd hp.1 (Nat.succ_ne_zero m)
theorem genEndX {Q : Option Value → Shared → Prop} {K : Frag} {n : Nat} (T : Stat K B.heap) (r : Room (n + 1) fs A) (he : env.frame = some L) (hk : env.scope.kind ≠ .module)
    (hO : OkC c) (S₀ : St (gB B G) fs ((L, c) :: (D, listC acc) :: (X ++ l)) s) (ma : (a, genC g) ∈ l) (hg : G[g]? = some gs) (hgo : GoAtX w A.in1 B fs env L D l N VP N c X gs)
    (h : ∀ G' s', St (gB B G') fs ((D, listC acc) :: l) s' → G'[g]? = some .finished → GenOnly g G G' → Q none s') :
    wpAny (model pw w) A (pyNext (.ref a)) Q E s := by
  have hgs : s.gens = G := S₀.gens
  have hgs' : s.gens[g]? = some gs := by rw [hgs]; exact hg
  have Sr := S₀.regen ((s.setGen g .running).gens)
  have SI : GenInX B fs env L D l c X acc (s.setGen g .running) := Sr.enter he hk hO.2 hO.1
  have go := hgo acc _ SI
  rw [Nat.sub_self] at go
  have hD : AtD D acc (s.setGen g .running) := S₀.has (D, listC acc) (List.mem_cons_of_mem _ List.mem_cons_self)
  refine wpAny_pyNext_gen (gs := gs) (n := 0) (P := gEnd B fs D l) (Y := xProto B fs env L D l N VP) r.handled (S₀.stat (B := gB B G) T).lim r.room (S₀.isGen (List.mem_cons_of_mem _ (List.mem_cons_of_mem _ (List.mem_append_right _ ma)))) hgs' go (fun v s₁ gs' hv => ?_) (fun s₁ hp h' hk' => ?_)
  · obtain ⟨hVP, c', X', hO', hst, hkap⟩ := hv
    obtain ⟨hg1, S1⟩ := hst acc hD
    exact (hkap s₁ acc S1).elim
  · obtain ⟨_, hst⟩ := hp
    obtain ⟨hg1, S1⟩ := hst acc hD
    have S2 := (S1.keeps s₁.toks hk').regen ((s₁.setGen g .finished).gens)
    refine h _ _ S2 ?_ ?_
    · refine setGen_self (gs := .running) ?_
      rw [hg1]; exact setGen_self hgs'
    · have o1 := GenOnly.setGen s g .running
      have o2 := GenOnly.setGen s₁ g .finished
      rw [hg1] at o2
      rw [← hgs]
      exact o1.trans o2
end
section
variable {M : Model} {A : Around} {R : GenEnd} {Y : Protocol} {n : Nat} {s₀ : Shared} {c : Code} {fs : List Frame} {s : Shared} {env : Env} {K : Flow → Sem Fin} {H : Value → Sem Fin} {gd : Bool → Bool} {lv : List Value → List Value}
theorem seg_For {target iter : Expr} {body orelse : List Stmt} {pos : Pos}
    (h : wpAny M (A.over c fs) (eval iter env) (fun x s₁ => wpAny M (A.over c fs) (pyIter x) (fun it s₂ => ∀ p, Seg M A R Y n s₀ (.forLoop target it body orelse env) (M.den (.forLoop target it body orelse env))
      (.ret (fun r => ((match r with | .ok f => (.pure f : Sem Flow) | .error e => .raise e).onRaise fun (x : Value) => do
        if (← field x 1) == Value.none then unsupported "frame.own-activation:exception-without-traceback"
        setFlight x env.frame).wrap K H gd lv) none (gd false) (lv []) c p [] :: fs) s₂) NoE s₁) NoE s)
    (hs : ∀ x, foldedSetIterable iter env x = pure x) :
    Seg M A R Y n s₀ c ((exec (.For target iter body orelse pos) env).wrap K H gd lv) fs s := by
  rw [arm_exec_For]
  refine seg_bind_wrap (wpAny_standAt ?_)
  refine seg_bind_wrap (wpAny_mono h (fun x s₁ h₁ => ?_) fun _ _ z => z.elim)
  refine seg_bind_wrap (wpAny_of_eq (hs x) ?_)
  refine seg_bind_wrap (wpAny_standAt ?_)
  refine seg_bind_wrap (wpAny_holding (wpAny_mono h₁ (fun it s₂ h₂ => ?_) fun _ _ z => z.elim))
  exact seg_call h₂
end
section
variable {prog : Program} {w : World} {A : Around} {R : GenEnd} {Y : Protocol} {n : Nat} {s₀ : Shared} {fs : List Frame} {s : Shared} {env : Env}
theorem seg_forLoop {target : Expr} {it : Value} {body : List Stmt}
    (h : wpAny (model prog w) (A.over (.forLoop target it body [] env) fs) (pyNext it) (fun r s₁ => match r with
      | none => Seg (model prog w) A R Y n s₀ (.block [] env) (.pure (.done .next)) fs s₁
      | some v => wpAny (model prog w) (A.over (.forLoop target it body [] env) fs) (letOwnedTupleGo target it v) (fun _ s₂ => wpAny (model prog w) (A.over (.forLoop target it body [] env) fs) (assign target env v) (fun _ s₃ =>
          Seg (model prog w) A R Y n s₀ (.forLoop target it body [] env) ((execs body env).wrap (fun f => match f with
            | .next | .cont => .pure (.again (.forLoop target it body [] env))
            | .brk => .pure (.done .next)
            | .ret v => .pure (.done (.ret v))) (fun e => (do noteFrame e env; theTreesLotGoes e : Sem Unit).wrap (fun _ => .raise e) .raise id id) id id) fs s₃) NoE s₂) NoE s₁) NoE s) :
    Seg (model prog w) A R Y n s₀ (.forLoop target it body [] env) ((model prog w).den (.forLoop target it body [] env)) fs s := by
  show Seg _ A R Y n s₀ _ ((forTurn target it body [] env).onRaise (fun x => do noteFrame x env; theTreesLotGoes x)) fs s
  unfold forTurn
  rw [Sem.onRaise_eq_wrap]
  refine seg_bind_wrap (wpAny_standAt ?_)
  refine seg_bind_wrap (wpAny_onRaise (wpAny_mono h (fun r s₁ h₁ => ?_) fun _ _ z => z.elim))
  cases r with
  | none =>
    refine seg_again rfl ?_
    show Seg _ A R Y n s₀ _ ((execs [] env).onRaise (fun x => do noteFrame x env; theTreesLotGoes x) >>= fun f => pure (.done f)) fs s₁
    exact h₁
  | some v =>
    refine seg_bind_wrap (wpAny_mono h₁ (fun _ s₂ h₂ => ?_) fun _ _ z => z.elim)
    refine seg_bind_wrap (wpAny_mono h₂ (fun _ s₃ h₃ => ?_) fun _ _ z => z.elim)
    rw [Sem.bind_eq_wrap', Sem.wrap_wrap]
    rw [Sem.wrap_congr (execs body env) _ _ (K' := fun f => match f with
            | .next | .cont => .pure (.again (.forLoop target it body [] env))
            | .brk => .pure (.done .next)
            | .ret v => .pure (.done (.ret v))) (H' := (fun e => (do noteFrame e env; theTreesLotGoes e : Sem Unit).wrap (fun _ => .raise e) .raise id id))
        (fun f => by cases f <;> rfl)
        (fun e => by first | rfl | exact Sem.bind_eq_wrap _ _ | (show (do noteFrame e env; theTreesLotGoes e : Sem Unit).bind (fun _ => .raise e) = _; rw [Sem.bind_eq_wrap]))]
    exact h₃
end

end
-- G10
section
set_option maxRecDepth 100000
set_option maxHeartbeats 1600000
abbrev uBody : List Stmt := inside (stP [57, 7])
def foTarget : Stmt → Expr
  | .For t _ _ _ _ => t
  | _ => .Constant .none 0 default
def foIter : Stmt → Expr
  | .For _ i _ _ _ => i
  | _ => .Constant .none 0 default
def foBody : Stmt → List Stmt
  | .For _ _ b _ _ => b
  | _ => []
abbrev uTarget : Expr := foTarget (stIn uBody 0)
abbrev uIter : Expr := foIter (stIn uBody 0)
abbrev uTurn : List Stmt := foBody (stIn uBody 0)
abbrev uEnv (L : Addr) : Env := fnEnv fd1449 L 1449
abbrev uSc : Scope := fd1449.scope
abbrev uIf : Expr := ifTest (stIn uTurn 1)
section
variable {w : World} {A : Around} {E : Value → Shared → Prop} {B B₀ : Shared} {fs : List Env} {l l' : Cells} {s : Shared} {n : Nat} {K : Type} [DecidableEq K] {knd : AnyKind pw w K} {L y a d dy : Addr} {ns : List (Addr × Addr)} {ev kv : Addr → Value} {rv : Addr → Bool} {x dx dd tm dt it od : Addr} {mx sz m : Int} {t t₀ u te : Tok} {xs is_ : List (K × Value × Value)} {os : List Addr} {zs : Names}
theorem uIt {Q : Value → Shared → Prop} (T : Stat (KK w) B.heap) (S₀ : St B fs ((L, nsC uSc [(S "self", .ref x)]) :: tlruC w knd B₀ x dx dd tm dt it od sz mx t₀ u m xs is_ os ev kv rv ns l) s)
    (h : ∀ s', St B fs ((L, nsC uSc [(S "self", .ref x)]) :: tlruC w knd B₀ x dx dd tm dt it od sz mx t₀ u m xs is_ os ev kv rv ns l) s' → Q (.ref od) s') :
    wpAny (model pw w) A (eval uIter (uEnv L)) Q NoE s := by
  refine Attribute_any_ ?_
  walk_at "m_wk"
  exact h _ (by assumption)
theorem uTgt {Q : Unit → Shared → Prop} (hz : zs = [] ∨ ∃ v c, zs = [(S "time", v), (S "curr", c)]) (S₀ : St B fs ((L, nsC uSc (zs ++ [(S "self", .ref x)])) :: l) s)
    (h : ∀ s' zs', (zs' = [] ∨ ∃ v, zs' = [(S "time", v)]) → St B fs ((L, nsC uSc (zs' ++ [(S "curr", .ref a), (S "self", .ref x)])) :: l) s' → Q () s') :
    wpAny (model pw w) A (assign uTarget (uEnv L) (.ref a)) Q NoE s := by
  refine wpAny_assign_Name ?_
  rcases hz with rfl | ⟨v, c, rfl⟩
  · simp only [List.nil_append] at S₀
    walk_at "m_wk"
    exact h _ [] (.inl rfl) (by assumption)
  · simp only [List.cons_append, List.nil_append] at S₀
    walk_at "m_wk"
    exact h _ [(S "time", v)] (.inr ⟨v, rfl⟩) (by assumption)
theorem uTime {Q : Flow → Shared → Prop} (hz : zs = [] ∨ ∃ v, zs = [(S "time", v)]) (T : Stat (KK w) B.heap) (r : Room n fs A) (hn : 3 ≤ n) (S₀ : St B fs ((L, nsC uSc (zs ++ [(S "curr", .ref a), (S "self", .ref x)])) :: tlruC w knd B₀ x dx dd tm dt it od sz mx t₀ u m xs is_ os ev kv rv ns l) s)
    (h : ∀ s' tk, St B fs ((L, nsC uSc [(S "time", .int 100 tk), (S "curr", .ref a), (S "self", .ref x)]) :: tlruC w knd B₀ x dx dd tm dt it od sz mx t₀ u m xs is_ os ev kv rv ns l) s' → Q .next s') :
    wpAny (model pw w) A (exec (stIn uTurn 0) (uEnv L)) Q NoE s := by
  refine wpAny_Assign_Name ?_
  rcases hz with rfl | ⟨v, rfl⟩
  · simp only [List.nil_append] at S₀
    walk_at "m_tcall"
    walk_at "m_wk"
    exact h _ _ (by assumption)
  · simp only [List.cons_append, List.nil_append] at S₀
    walk_at "m_tcall"
    walk_at "m_wk"
    exact h _ _ (by assumption)
theorem uLive {Q : Bool → Shared → Prop} (T : Stat (KK w) B.heap) (ha : (a, d) ∈ ns) (he : ev a = .int endV te) (S₀ : St B fs ((L, nsC uSc [(S "time", .int 100 t), (S "curr", .ref a), (S "self", .ref x)]) :: tlruC w knd B₀ x dx dd tm dt it od sz mx t₀ u m xs is_ os ev kv rv ns l) s)
    (h : ∀ s', St B fs ((L, nsC uSc [(S "time", .int 100 t), (S "curr", .ref a), (S "self", .ref x)]) :: tlruC w knd B₀ x dx dd tm dt it od sz mx t₀ u m xs is_ os ev kv rv ns l) s' → Q (!rv a) s') :
    wpAny (model pw w) A (isTrue uIf (uEnv L) (eval uIf (uEnv L))) Q NoE s := by
  refine wpAny_isTrue_BoolOp ?_
  refine wpAny_allTrue_And_cons ?_
  refine wpAny_isTrue_Compare1 ?_
  walk_at "m_wk"
  refine getIExp T (by assumption) (by walk_at "m_mem") (by walk_at "m_mem") he rfl fun s' S' => ?_
  walk_at "m_wki"
  refine getRem (b := rv a) T (by assumption) (by walk_at "m_mem") (by walk_at "m_mem") rfl fun s' S' => ?_
  walk_at "m_wki"
  have S2 := h _ S'
  cases hrv : rv a with
  | true => rw [hrv] at S2; exact iteF rfl S2
  | false => rw [hrv] at S2; exact iteT rfl (wpAny_allTrue_And_nil S2)
end

end
-- G11
section
set_option maxRecDepth 100000
set_option maxHeartbeats 1600000
section
variable {w : World} {A : Around} {B : Shared} {fs : List Env} {l : Cells} {s : Shared} {n : Nat} {K : Type} [DecidableEq K] {knd : AnyKind pw w K} {L D I a : Addr} {ns : List (Addr × Addr)} {ev kv : Addr → Value} {rv : Addr → Bool} {x dx dd tm dt it od : Addr} {mx sz m : Int} {t₀ u : Tok} {xs is_ : List (K × Value × Value)} {os : List Addr}
/-- those of the order that are not removed -/
abbrev liveOf (rv : Addr → Bool) (os : List Addr) : List Addr := os.filter fun a => !rv a
abbrev uLp (L I : Addr) : Code := .forLoop uTarget (.ref I) uTurn [] (uEnv L)
theorem tlruLoop {F : Frame} (T : Stat (KK w) B.heap) (hns : ∀ a ∈ os, a ∈ ns.map (·.1)) (hev : ∀ a ∈ os, ∃ te, ev a = .int endV te) (hkv : ∀ a ∈ liveOf rv os, handedIn (kv a) = true)
    (hF1 : splitAtGen [F] = none) (hF2 : [F].any Frame.guarded = false) (rF : Room (n + 5) (uEnv L :: fs) (A.over (uLp L I) [F]))
    (exit : ∀ s₀ s acc zs, AtD D acc s₀ → s.gens = s₀.gens → St (gB B s.gens) (uEnv L :: fs) ((L, nsC uSc zs) :: (D, listC acc) :: tlruC w knd B x dx dd tm dt it od sz mx t₀ u m xs is_ os ev kv rv ns l) s →
      Seg (model pw w) A (gRes B fs D (tlruC w knd B x dx dd tm dt it od sz mx t₀ u m xs is_ os ev kv rv ns l)) (xProto B fs (uEnv L) L D (tlruC w knd B x dx dd tm dt it od sz mx t₀ u m xs is_ os ev kv rv ns l) (liveOf rv os).length (tVP kv (liveOf rv os))) 0 s₀ (.block [] (uEnv L)) (.pure (.done .next)) [F] s) :
    ∀ (q p : List Addr), os = p ++ q → ∀ zs s₀ s acc, (zs = [] ∨ ∃ v c, zs = [(S "time", v), (S "curr", c)]) → AtD D acc s₀ → s.gens = s₀.gens →
      St (gB B s.gens) (uEnv L :: fs) ((I, litC od p.length) :: (L, nsC uSc (zs ++ [(S "self", .ref x)])) :: tlruC w knd B x dx dd tm dt it od sz mx t₀ u m xs is_ os ev kv rv ns ((D, listC acc) :: l)) s →
      Seg (model pw w) A (gRes B fs D (tlruC w knd B x dx dd tm dt it od sz mx t₀ u m xs is_ os ev kv rv ns l)) (xProto B fs (uEnv L) L D (tlruC w knd B x dx dd tm dt it od sz mx t₀ u m xs is_ os ev kv rv ns l) (liveOf rv os).length (tVP kv (liveOf rv os))) (liveOf rv q).length s₀ (uLp L I) ((model pw w).den (uLp L I)) [F] s := by
  have hh : (A.over (uLp L I) [F]).handled = none := rF.handled
  intro q
  induction q with
  | nil =>
    intro p hp zs s₀ s acc hz hAt hg S₁
    refine seg_forLoop (endL (vs := os.map .ref) hh S₁ (by walk_at "m_mem") (by rw [hp]; simp) fun s' S' => ?_)
    have hg' : s'.gens = s.gens := S'.gens
    refine exit s₀ s' acc (zs ++ [(S "self", .ref x)]) hAt (hg'.trans hg) ?_
    rw [hg']
    exact S'.perm (by walk_at "m_pm")
  | cons a q ih =>
    intro p hp zs s₀ s acc hz hAt hg S₁
    have ham : a ∈ os := by rw [hp]; simp
    obtain ⟨da, hda⟩ := node_of (hns a ham)
    obtain ⟨te, hte⟩ := hev a ham
    refine seg_forLoop (nextL (a := od) (vs := os.map .ref) S₁ Upd.here (by walk_at "m_mem") (v := .ref a) (by rw [hp]; simp) fun s' S2 => ?_)
    refine wpAny_of_eq (a := ()) rfl ?_
    refine uTgt hz (S2.perm (l' := (L, nsC uSc (zs ++ [(S "self", .ref x)])) :: (I, litC od (p.length + 1)) :: tlruC w knd B x dx dd tm dt it od sz mx t₀ u m xs is_ os ev kv rv ns ((D, listC acc) :: l)) (by walk_at "m_pm")) fun s₂ zs' hz' S3 => ?_
    refine seg_execs_cons ?_
    refine seg_stmt (uTime (B := gB B s.gens) (zs := zs') hz' T rF (by omega) (S3.perm (l' := (L, nsC uSc (zs' ++ [(S "curr", .ref a), (S "self", .ref x)])) :: tlruC w knd B x dx dd tm dt it od sz mx t₀ u m xs is_ os ev kv rv ns ((I, litC od (p.length + 1)) :: (D, listC acc) :: l)) (by walk_at "m_pm")) fun s₃ tk S4 => ?_)
    dsimp only
    refine seg_execs_cons ?_
    refine seg_If (uLive (B := gB B s.gens) T hda hte S4 fun s₄ S5 => ?_)
    clear S₁ S2 S3 S4
    -- the next turn
    have next : ∀ (acc' : List Value) (tk' : Tok) (s0 s5 : Shared) (G : Array GenState), AtD D acc' s0 → s5.gens = s0.gens → St (gB B s5.gens) (uEnv L :: fs) ((L, nsC uSc [(S "time", .int 100 tk'), (S "curr", .ref a), (S "self", .ref x)]) :: tlruC w knd B x dx dd tm dt it od sz mx t₀ u m xs is_ os ev kv rv ns ((I, litC od (p.length + 1)) :: (D, listC acc') :: l)) s5 →
        Seg (model pw w) A (gRes B fs D (tlruC w knd B x dx dd tm dt it od sz mx t₀ u m xs is_ os ev kv rv ns l)) (xProto B fs (uEnv L) L D (tlruC w knd B x dx dd tm dt it od sz mx t₀ u m xs is_ os ev kv rv ns l) (liveOf rv os).length (tVP kv (liveOf rv os))) (liveOf rv q).length s0 (uLp L I) (.pure (.again (uLp L I))) [F] s5 := by
      intro acc' tk' s0 s5 G hAt' hg' S6
      refine seg_again rfl (ih (p ++ [a]) (by rw [hp]; simp) [(S "time", .int 100 tk'), (S "curr", .ref a)] s0 s5 acc' (.inr ⟨_, _, rfl⟩) hAt' hg' ?_)
      rw [List.length_append, List.length_singleton]
      have S7 := S6.perm (l' := (I, litC od (p.length + 1)) :: (L, nsC uSc [(S "time", .int 100 tk'), (S "curr", .ref a), (S "self", .ref x)]) :: tlruC w knd B x dx dd tm dt it od sz mx t₀ u m xs is_ os ev kv rv ns ((D, listC acc') :: l)) (by walk_at "m_pm")
      exact S7
    have hg4 : s₄.gens = s.gens := S5.gens
    cases hrv : rv a with
    | true =>
      have e0 : liveOf rv (a :: q) = liveOf rv q := by unfold liveOf; rw [List.filter_cons]; simp [hrv]
      rw [e0, if_neg (by simp)]
      refine seg_execs_nil ?_
      dsimp only
      refine seg_execs_nil ?_
      dsimp only
      exact next acc tk s₀ s₄ s.gens hAt (hg4.trans hg) (by rw [hg4]; exact S5)
    | false =>
      have e0 : liveOf rv (a :: q) = a :: liveOf rv q := by unfold liveOf; rw [List.filter_cons]; simp [hrv]
      rw [e0, if_pos (by simp), List.length_cons]
      refine seg_execs_cons ?_
      refine seg_Expr_Yield hF1 rfl hF2 ?_
      have hlo : liveOf rv os = liveOf rv p ++ a :: liveOf rv q := by rw [hp]; unfold liveOf; rw [List.filter_append]; exact congrArg _ e0
      have hal : a ∈ liveOf rv os := by rw [hlo]; simp
      have hN : (liveOf rv os).length = (liveOf rv p).length + ((liveOf rv q).length + 1) := by rw [hlo]; simp
      have hget : (liveOf rv os)[(liveOf rv p).length]? = some a := by rw [hlo, List.getElem?_append_right (Nat.le_refl _)]; simp
      refine Attribute_any_ ?_
      walk_at "m_wk"
      refine getSlot (B := gB B s.gens) (v := kv a) T S5 (by walk_at "m_mem") (by walk_at "m_mem") li_k rfl (hkv a hal) fun s₅ S6 => ?_
      intro kap hkap
      have hg5 : s₅.gens = s.gens := S6.gens
      have e1 : (liveOf rv os).length - 1 - (liveOf rv q).length = (liveOf rv p).length := by omega
      refine ⟨?_, nsC uSc [(S "time", .int 100 tk), (S "curr", .ref a), (S "self", .ref x)], [(I, litC od (p.length + 1))], OkC.ns, fun acc' hAt' => ⟨hg5.trans hg, ?_⟩, fun s'' acc'' hin => hkap .none s'' ?_⟩
      · rw [e1]; show ((liveOf rv os)[(liveOf rv p).length]?).map kv = some (kv a); rw [hget]; rfl
      · obtain rfl := hAt.inj hAt'
        show St (gB B s₅.gens) (uEnv L :: fs) ((L, nsC uSc [(S "time", .int 100 tk), (S "curr", .ref a), (S "self", .ref x)]) :: (D, listC acc) :: (I, litC od (p.length + 1)) :: tlruC w knd B x dx dd tm dt it od sz mx t₀ u m xs is_ os ev kv rv ns l) s₅
        rw [hg5]
        exact S6.perm (by walk_at "m_pm")
      · have hin : St (gB B s''.gens) (uEnv L :: fs) ((L, nsC uSc [(S "time", .int 100 tk), (S "curr", .ref a), (S "self", .ref x)]) :: (D, listC acc'') :: (I, litC od (p.length + 1)) :: tlruC w knd B x dx dd tm dt it od sz mx t₀ u m xs is_ os ev kv rv ns l) s'' := hin
        dsimp only
        refine seg_execs_nil ?_
        dsimp only
        refine seg_execs_nil ?_
        dsimp only
        exact next acc'' tk s'' s'' s''.gens (hin.has (D, listC acc'') (by walk_at "m_mem")) rfl ((hin.perm (l' := (L, nsC uSc [(S "time", .int 100 tk), (S "curr", .ref a), (S "self", .ref x)]) :: (I, litC od (p.length + 1)) :: (D, listC acc'') :: tlruC w knd B x dx dd tm dt it od sz mx t₀ u m xs is_ os ev kv rv ns l) (by walk_at "m_pm")).perm (by walk_at "m_pm"))
/-- the generator, just made -/
theorem tlruFresh (T : Stat (KK w) B.heap) (r : Room (n + 7) fs A) (hns : ∀ a ∈ os, a ∈ ns.map (·.1)) (hev : ∀ a ∈ os, ∃ te, ev a = .int endV te) (hkv : ∀ a ∈ liveOf rv os, handedIn (kv a) = true) :
    GoAtX w A B fs (uEnv L) L D (tlruC w knd B x dx dd tm dt it od sz mx t₀ u m xs is_ os ev kv rv ns l) (liveOf rv os).length (tVP kv (liveOf rv os)) 0 (nsC uSc [(S "self", .ref x)]) [] (.fresh (.func uBody (uEnv L))) := by
  intro acc s'' hin
  refine ⟨rfl, ?_⟩
  have hin : St (gB B s''.gens) (uEnv L :: fs) ((L, nsC uSc [(S "self", .ref x)]) :: (D, listC acc) :: tlruC w knd B x dx dd tm dt it od sz mx t₀ u m xs is_ os ev kv rv ns l) s'' := hin
  have hAt : AtD D acc s'' := hin.has (D, listC acc) (by walk_at "m_mem")
  have S1 := hin.perm (l' := (L, nsC uSc [(S "self", .ref x)]) :: tlruC w knd B x dx dd tm dt it od sz mx t₀ u m xs is_ os ev kv rv ns ((D, listC acc) :: l)) (by walk_at "m_pm")
  have rf : Room (n + 6) (uEnv L :: fs) (A.over (.func uBody (uEnv L)) []) := r.gen
  refine seg_func ?_
  refine seg_execs_cons ?_
  refine seg_For (uIt (B := gB B s''.gens) T S1 fun s₁ S2 => iterL (a := od) (vs := os.map .ref) S2 (by walk_at "m_mem") fun I s₂ S3 p => ?_) (fun _ => rfl)
  have hg : s₂.gens = s''.gens := S3.gens
  refine tlruLoop T hns hev hkv rfl rfl (Room.genLoop (n := n + 5) (r.less (by omega)) rfl rfl rfl) ?_ os [] rfl [] s'' s₂ acc (.inl rfl) hAt hg ?_
  · intro s₀ s₄ acc' zs hAt' hg' S4
    refine seg_leaf (.ok .next) ?_
    refine seg_end (.ok (.ret .none)) ⟨rfl, rfl, fun acc'' h'' => ⟨hg', ?_⟩⟩
    obtain rfl := hAt'.inj h''
    exact (St.pop S4).tail
  · rw [hg]
    exact S3
end

end
-- G12
section
set_option maxRecDepth 100000
set_option maxHeartbeats 1600000
section
variable {w : World} {A : Around} {B : Shared} {fs : List Env} {l c : Cells} {s : Shared} {n pl cnt : Nat} {f : Nat → Key} {hf : ∀ x y, f x = f y → x = y} {x : Addr} {st : List (Nat × Value)}
theorem listTlru {Q : Value → Shared → Prop} (C : Cach w B (kndOf w f hf) .tlru x pl cnt st c) (hc : cnt < 800) (T : Stat (KK w) B.heap) (r : Room (n + 26) fs A) (hs : SmallInts f) (hk7 : ∀ k ∈ st.map (·.1), k < 7) (S₀ : St B fs (c ++ l) s)
    (h : ∀ D vs ks s' c', ks.Perm (st.map (·.1)) → IntsAre vs (intsN ks) → Cach w B (kndOf w f hf) .tlru x pl cnt st c' → St (gB B (B.gens.push .finished)) fs ((D, listC vs) :: (c' ++ l)) s' → Q (.ref D) s') :
    wpAny (model pw w) A (call (.type "list") [.ref x]) Q NoE s := by
  obtain ⟨dx, ns0, mi, md⟩ := C.inst
  refine listOwn T S₀ (List.mem_append_left _ mi) (List.mem_append_left _ md) (f := 1449) (fl := 1072) (by kernel_rfl) (by kernel_rfl) fun D s₁ S₁ => wpAny_call ?_
  refine callGen (binds := [(S "self", .ref x)]) (names := [S "self"]) (locs := [(S "self", .ref x)]) fnOk1449 T S₁ (r.in1.in1.less (m := n + 20) (by omega)) (BindsTo.of_eq (by kernel_rfl)) rfl rfl (by kernel_rfl) (by decide +kernel) (by kernel_rfl) fun L a s₂ S₂ => ?_
  generalize hG1 : B.gens.push (.fresh (.func uBody (fnEnv fd1449 L 1449))) = G1 at S₂
  have hT : s₂.TypeIs (.ref a) "generator" := let ⟨o, ho, h1, _⟩ := S₂.has _ (.head _); ⟨o, ho, h1⟩
  refine ⟨a, "generator", _, gB B G1, _, dx, idC ns0, rfl, hT, slot_gen_next.lookup, T, S₂, List.mem_cons_of_mem _ (List.mem_cons_of_mem _ (List.mem_cons_of_mem _ (List.mem_append_left _ mi))), List.mem_cons_of_mem _ (List.mem_cons_of_mem _ (List.mem_cons_of_mem _ (List.mem_append_left _ md))), ?_⟩
  have C1 := C.reg G1
  refine cacheLen (B := gB B G1) (n := n) (l := (a, genC B.gens.size) :: (L, nsC uSc [(S "self", .ref x)]) :: (D, listC []) :: l) C1 hc T (r.in1.in1.less (by omega)) (S₂.perm (by walk_at "m_pm")) fun s₃ c' t₃ C2 S₃ => ?_
  have C3 : Cach w B (kndOf w f hf) .tlru x pl cnt st c' := C2.reg B.gens
  clear C1 C2 S₂ S₁ S₀ mi md
  have hlen := C3.len
  have hpl := C3.pl
  obtain ⟨⟨dx, dd, tm, dt, it, od, t, u, xs, is_, os, ev, kv, rv, ns, rfl, ag, ek, ok, om⟩, nd, _, _⟩ := id C3
  obtain ⟨ls', hpl', hlo⟩ := perm_of_map om.live
  have hls : is_.length = st.length := len_keys ek
  have hns : ∀ a ∈ os, a ∈ ns.map (·.1) := ok.hos
  have hev : ∀ a ∈ os, ∃ te, ev a = .int endV te := fun a ha => ok.hev a (ok.hos a ha)
  have hint : ∀ e ∈ ls', ∃ t, kv (adr e) = .int (e.1 : Int) t := fun e he => by
    have he' := hpl'.mem_iff.mp he
    have h1 := om.key e he'
    have h2 : keyIs pw w B.heap (f e.1) (kv (adr e)) := h1
    have h7 : e.1 < 7 := hk7 _ (by rw [← ek]; exact List.mem_map.mpr ⟨e, he', rfl⟩)
    rw [hs _ h7] at h2
    obtain ⟨t, ht⟩ := Value.isInt_shape (show Value.isInt (e.1 : Int) (kv (adr e)) = true from h2)
    exact ⟨t, ht⟩
  have hkv : ∀ a ∈ liveOf rv os, handedIn (kv a) = true := fun a ha => by
    have ha : a ∈ ls'.map adr := by rw [← hlo]; exact ha
    obtain ⟨e, he, rfl⟩ := List.mem_map.mp ha
    obtain ⟨t, ht⟩ := hint e he
    rw [ht]; rfl
  have hll : ls'.length = st.length := hpl'.length_eq.trans hls
  refine ⟨st.length, t₃, gB B G1, (L, nsC uSc [(S "self", .ref x)]) :: tlruC w (kndOf w f hf) B x dx dd tm dt it od st.length pl t u 0 xs is_ os ev kv rv ns ((a, genC B.gens.size) :: l), rfl, by omega, ?_, fun s₄ S₄ => ?_⟩
  · simp only [List.cons_append] at S₃
    exact S₃.perm (by walk_at "m_pm")
  have rg : Room (n + 20) fs A.in1.in1.in1 := r.in1.in1.in1.less (by omega)
  have hN : (liveOf rv os).length = st.length := by rw [show liveOf rv os = ls'.map adr from hlo, List.length_map]; exact hll
  have go0 : GoAtX w A.in1.in1.in1 B fs (uEnv L) L D (tlruC w (kndOf w f hf) B x dx dd tm dt it od st.length pl t u 0 xs is_ os ev kv rv ns ((a, genC B.gens.size) :: l)) (liveOf rv os).length (tVP kv (liveOf rv os)) 0 (nsC uSc [(S "self", .ref x)]) [] (.fresh (.func uBody (uEnv L))) :=
    tlruFresh (n := n + 10) T (rg.less (by omega)) hns hev hkv
  have hg1 : G1[B.gens.size]? = some (.fresh (.func uBody (uEnv L))) := by rw [← hG1]; simp
  refine extendLoop (fs := fs) (A := A.in1) (fun i acc B' l' => acc = ((liveOf rv os).take i).map kv ∧ acc.length = i ∧ ∃ G gs c X, B' = gB B G ∧ l' = (L, c) :: (X ++ tlruC w (kndOf w f hf) B x dx dd tm dt it od st.length pl t u 0 xs is_ os ev kv rv ns ((a, genC B.gens.size) :: l)) ∧ OkC c ∧ G[B.gens.size]? = some gs ∧ GoAtX w A.in1.in1.in1 B fs (uEnv L) L D (tlruC w (kndOf w f hf) B x dx dd tm dt it od st.length pl t u 0 xs is_ os ev kv rv ns ((a, genC B.gens.size) :: l)) (liveOf rv os).length (tVP kv (liveOf rv os)) i c X gs ∧ GenOnly B.gens.size G1 G)
    (fun acc B' l' => acc = (liveOf rv os).map kv ∧ B' = gB B (B.gens.push .finished) ∧ l' = tlruC w (kndOf w f hf) B x dx dd tm dt it od st.length pl t u 0 xs is_ os ev kv rv ns ((a, genC B.gens.size) :: l)) (liveOf rv os).length (by rw [hN]; omega) (fun i acc B l h => h.2.1) ?_ ?_ ?_ _ 0 (gB B G1) _ s₄ [] rfl (Nat.zero_le _) ⟨rfl, rfl, G1, _, _, [], rfl, rfl, OkC.ns, hg1, go0, ⟨rfl, fun _ _ => rfl⟩⟩ S₄
  · rintro i acc B' l' s hlt ⟨ha, hl, G, gs, c, X, rfl, rfl, hO, hG, hgo, ho⟩ S
    refine genNextX (a := a) (g := B.gens.size) (n := n) T (r.in1.in1.less (by omega)) rfl (by show fd1449.scope.kind ≠ _; rw [(fnOk1449 (w := w)).kind]; decide) hO (S.perm (l' := (L, _) :: (D, listC acc) :: (X ++ tlruC w (kndOf w f hf) B x dx dd tm dt it od st.length pl t u 0 xs is_ os ev kv rv ns ((a, genC B.gens.size) :: l))) (.swap ..)) (by walk_at "m_mem") hG hgo hlt fun v G' gs' s' c' X' hv hO' S' hG' hgo' ho' => ?_
    have hv : ((liveOf rv os)[i]?).map kv = some v := hv
    refine ⟨v, gB B G', _, rfl, ⟨?_, by rw [List.length_append, hl]; rfl, G', gs', c', X', rfl, rfl, hO', hG', hgo', ho.trans ho'⟩, S'.perm (.swap ..)⟩
    rw [List.take_add_one, List.map_append, ← ha]
    obtain ⟨y, hy, rfl⟩ := Option.map_eq_some_iff.mp hv
    rw [hy]; rfl
  · rintro acc B' l' s ⟨ha, hl, G, gs, c, X, rfl, rfl, hO, hG, hgo, ho⟩ S
    refine genEndX (a := a) (g := B.gens.size) (n := n) T (r.in1.in1.less (by omega)) rfl (by show fd1449.scope.kind ≠ _; rw [(fnOk1449 (w := w)).kind]; decide) hO (S.perm (l' := (L, _) :: (D, listC acc) :: (X ++ tlruC w (kndOf w f hf) B x dx dd tm dt it od st.length pl t u 0 xs is_ os ev kv rv ns ((a, genC B.gens.size) :: l))) (.swap ..)) (by walk_at "m_mem") hG hgo fun G' s' S' hf' ho' => ?_
    rw [List.take_of_length_le (Nat.le_refl _)] at ha
    have hGf : G' = B.gens.push .finished := by
      have o := ho.trans ho'
      rw [← hG1] at o
      exact gens_done o hf'
    subst hGf
    exact ⟨rfl, _, _, ⟨ha, rfl, rfl⟩, S'⟩
  · rintro acc B' l' s ⟨ha, rfl, rfl⟩ S
    refine ⟨rfl, ?_⟩
    rw [show liveOf rv os = ls'.map adr from hlo, List.map_map] at ha
    have hi := intsAre_map (kv ∘ adr) (fun e => e.1) (es := ls') hint
    rw [← ha] at hi
    refine h D acc (ls'.map (·.1)) s _ ((hpl'.map _).trans (by rw [ek])) hi C3 ?_
    have S5 := (S.perm (l' := (a, genC B.gens.size) :: (D, listC acc) :: tlruC w (kndOf w f hf) B x dx dd tm dt it od st.length pl t u 0 xs is_ os ev kv rv ns l) (by walk_at "m_pm")).tail
    exact S5
/-- list(cache): the keys, in some order -/
theorem listCache {kd : Kind} {Q : Value → Shared → Prop} (C : Cach w B (kndOf w f hf) kd x pl cnt st c) (hc : cnt < 800) (T : Stat (KK w) B.heap) (r : Room (n + 26) fs A) (hs : SmallInts f) (hk7 : ∀ k ∈ st.map (·.1), k < 7) (S₀ : St B fs (c ++ l) s)
    (h : ∀ G D vs ks s' c', (G = B.gens ∨ G = B.gens.push .finished) → ks.Perm (st.map (·.1)) → IntsAre vs (intsN ks) → Cach w B (kndOf w f hf) kd x pl cnt st c' → St (gB B G) fs ((D, listC vs) :: (c' ++ l)) s' → Q (.ref D) s') :
    wpAny (model pw w) A (call (.type "list") [.ref x]) Q NoE s := by
  cases kd with
  | ttl => exact listTtl C hc T r hs hk7 S₀ fun D vs ks s' c' h1 h2 h3 S' => h _ D vs ks s' c' (.inr rfl) h1 h2 h3 S'
  | tlru => exact listTlru C hc T r hs hk7 S₀ fun D vs ks s' c' h1 h2 h3 S' => h _ D vs ks s' c' (.inr rfl) h1 h2 h3 S'
  | fifo =>
    have C0 := C
    have hlen := C.len
    have hpl := C.pl
    obtain ⟨⟨dx, dd, od, t, u, xs, os, rfl, ag, ek⟩, nd, _, _⟩ := C
    have hnx := St.dictNd (knd := kndOf w f hf) (xs := xs) (d := dd) S₀ (.tail _ (.tail _ (.head _)))
    have hp := agree_perm ag hnx nd
    have := ag.len
    refine listBase (n := n) c917 (by kernel_rfl) (by kernel_rfl) T (r.less (by omega)) (S₀.perm (l' := (x, _) :: (dx, _) :: (dd, _) :: _ :: l) (.refl _)) hs (fun e he => hk7 _ (hp.mem_iff.mp (List.mem_map.mpr ⟨e, he, rfl⟩))) (by omega) fun D vs s' hi S' => ?_
    exact h B.gens D vs _ s' _ (.inl rfl) hp hi C0 S'
  | lru =>
    have C0 := C
    have hlen := C.len
    have hpl := C.pl
    obtain ⟨⟨dx, dd, od, t, u, xs, os, rfl, ag, ek⟩, nd, _, _⟩ := C
    have hnx := St.dictNd (knd := kndOf w f hf) (xs := xs) (d := dd) S₀ (.tail _ (.tail _ (.head _)))
    have hp := agree_perm ag hnx nd
    have := ag.len
    refine listBase (n := n) c982 (by kernel_rfl) (by kernel_rfl) T (r.less (by omega)) (S₀.perm (l' := (x, _) :: (dx, _) :: (dd, _) :: _ :: l) (.refl _)) hs (fun e he => hk7 _ (hp.mem_iff.mp (List.mem_map.mpr ⟨e, he, rfl⟩))) (by omega) fun D vs s' hi S' => ?_
    exact h B.gens D vs _ s' _ (.inl rfl) hp hi C0 S'
end

end
-- L1
section
set_option maxRecDepth 100000
set_option maxHeartbeats 800000
section
variable {w : World} {A : Around} {E : Value → Shared → Prop} {B : Shared} {fs : List Env} {l l' : Cells} {s : Shared} {D a b : Addr} {vs ws : List Value} {ns ms : List Int} {v : Value} {t : Tok}
theorem exactL (S : St B fs l s) (m : (D, listC vs) ∈ l) : ∃ n, s.heap.get? D = some { cls := .type "list", dict := none, data := .seq vs.toArray n, slots := #[] } := by
  obtain ⟨⟨c, d, dt, sl⟩, ho, h1, h2, ⟨n, h3⟩, h4⟩ := S.has _ m
  dsimp only at h1 h2 h3 h4
  subst h1 h2 h3 h4
  exact ⟨n, ho⟩
theorem setL {g : Array Value → Array Value} {vs' : List Value} (S : St B fs l s) (u : Upd l (D, listC vs) (D, listC vs') l') (hg : g vs.toArray = vs'.toArray) : St B fs l' { s with heap := s.heap.update D (Obj.mapSeq g) } := by
  obtain ⟨o, ho, h1, h2, ⟨n, h3⟩, h4⟩ := S.has _ u.mem
  obtain ⟨n', hd'⟩ := Obj.data_mapSeq h3 g
  exact S.set u s.toks (Heap.SameBut.update ..) (Heap.get?_update_self _ ho (Obj.isFreed_of_seq hd')) ⟨(Obj.cls_mapSeq ..).trans h1, (dict_mapSeq ..).trans h2, ⟨n', by rw [hd', hg]⟩, (slots_mapSeq ..).trans h4⟩ (.inl fun vs e => by rw [hd'] at e; cases e) fun hm => (notSoft_listC _ ⟨h1, h2, ⟨n, h3⟩, h4⟩ (S.soft _ u.mem hm)).elim
theorem intsAt : ∀ {vs : List Value} {ns : List Int}, IntsAre vs ns → ∀ i, i < ns.length → ∃ t, vs[i]? = some (.int (ns.getD i 0) t)
  | _, _, .nil, i, h => by simp at h
  | _, _, .cons m t r, 0, _ => ⟨t, rfl⟩
  | _, _, .cons m t r, i + 1, h => by obtain ⟨u, hu⟩ := intsAt r i (by simpa using h); exact ⟨u, by simpa using hu⟩
/-- list.pop(0) -/
theorem popFront {Q : Value → Shared → Prop} (S : St B fs l s) (u : Upd l (D, listC (v :: vs)) (D, listC vs) l') (hsz : vs.length ≤ 1000) (h : ∀ s', St B fs l' s' → Q v s') : wpAny (model pw w) A (call (.builtin "list.pop") [.ref D, .int 0 t]) Q E s := by
  obtain ⟨n, ho⟩ := exactL S u.mem
  refine call_meets PySem.F.slot_list_pop (S.list u.mem).typeIs PySem.F.entry_list_pop (PySem.F.args_list_pop_2 _ _) (MeetsSeq.list_pop_at D (v :: vs).toArray n 0 t 0 v (by decide) (by simp [seqIndex?]) (by simp) (by rw [sizeLine_eq]; simp; omega)) ⟨ho, ?_⟩
  exact h _ (setL S u (by simp))
theorem removeAt : ∀ {vs : List Value} {ns : List Int} {k : Int}, IntsAre vs ns → k ∈ ns → ∃ j, ∃ hj : j < vs.length, (∃ t, vs[j] = .int k t) ∧ (∀ m (hm : m < vs.length), m < j → ∃ i t, vs[m] = .int i t ∧ i ≠ k) ∧ IntsAre (vs.eraseIdx j) (ns.erase k)
  | _, _, _, .nil, h => by cases h
  | _, _, k, .cons (vs := vs) (ns := ns) n t r, h => by
    by_cases q : n = k
    · subst q
      exact ⟨0, by simp, ⟨t, rfl⟩, fun m hm h0 => absurd h0 (Nat.not_lt_zero _), by simpa using r⟩
    · have hk : k ∈ ns := by
        rcases List.mem_cons.mp h with e | e
        · exact (q e.symm).elim
        · exact e
      obtain ⟨j, hj, ⟨u, hu⟩, hno, hi⟩ := removeAt r hk
      refine ⟨j + 1, by simpa using hj, ⟨u, by simpa using hu⟩, fun m hm hlt => ?_, ?_⟩
      · cases m with
        | zero => exact ⟨n, t, rfl, q⟩
        | succ m => exact hno m (by simpa using hm) (by omega)
      · rw [List.erase_cons_tail (by simpa using q)]
        exact .cons n t hi
/-- list.remove(k) -/
theorem removeL {k : Int} {Q : Value → Shared → Prop} (hi : IntsAre vs ns) (hk : k ∈ ns) (S : St B fs ((D, listC vs) :: l) s) (hsz : vs.length ≤ 1000) (h : ∀ s' vs', IntsAre vs' (ns.erase k) → St B fs ((D, listC vs') :: l) s' → Q .none s') : wpAny (model pw w) A (call (.builtin "list.remove") [.ref D, .int k t]) Q E s := by
  obtain ⟨n, ho⟩ := exactL S (.head _)
  obtain ⟨j, hj, ⟨u, hu⟩, hno, hi'⟩ := removeAt hi hk
  have hit : ∀ y ∈ vs, ∃ i t, y = .int i t := by
    intro y hy
    obtain ⟨m, hm⟩ := List.mem_iff_getElem?.mp hy
    obtain ⟨t, ht⟩ := intsAt hi m (by have := (List.getElem?_eq_some_iff.mp hm).1; have := hi.length; omega)
    rw [hm] at ht
    exact ⟨_, t, Option.some.inj ht⟩
  refine call_meets PySem.F.slot_list_remove (S.list (.head _)).typeIs PySem.F.entry_list_remove (PySem.F.args_list_remove_2 _ _) (MeetsSeq.list_remove D vs.toArray n (.int k t) (fun y => match y with | .int i _ => i == k | _ => false) (fun y hy => ?_) j (by simpa using hj) ?_ (fun m hm hlt => ?_) (by rw [sizeLine_eq]; simp; omega)) ⟨ho, ?_⟩
  · obtain ⟨i, t', rfl⟩ := hit y (by simpa using hy)
    exact MeetsSeq.EqGives.int i k t' t
  · simp only [List.getElem_toArray]; rw [hu]; simp
  · obtain ⟨i, t', e, hne⟩ := hno m (by simpa using hm) hlt
    simp only [List.getElem_toArray]
    rw [e]; simpa using hne
  · exact h _ _ hi' (setL S Upd.here (by simp [Array.eraseIdxIfInBounds, hj]))
/-- sorted(list of ints) -/
theorem sortedL {Q : Value → Shared → Prop} (hi : IntsAre vs ns) (h64 : vs.length < 64) (S : St B fs l s) (m : (D, listC vs) ∈ l) (h : ∀ D' vs' ns' s', IntsAre vs' ns' → ns'.Perm ns → ns'.Pairwise (· ≤ ·) → St B fs ((D', listC vs') :: l) s' → Q (.ref D') s') :
    wpAny (model pw w) A (call (.builtin "sorted") [.ref D]) Q E s := by
  refine sorted_ints (S.list m) hi h64 fun out ns' h1 h2 h3 => ?_
  obtain ⟨e, he⟩ := sortedAll_at s.heap vs out
  have n1 := S.new_not (a := s.heap.objs.size + 1) (Nat.le_succ _)
  exact h _ _ ns' _ h1 h2 h3 (((S.keeps s.toks fun _ _ => sortedAll_old).adopt (c := listC out.toList) he ⟨rfl, rfl, ⟨e, by simp [seqObj]⟩, rfl⟩ n1.2.2.1 n1.2.2.2 n1.1 n1.2.1))
/-- min(a, b) -/
theorem minS {x y : Int} {t u : Tok} {Q : Value → Shared → Prop} (hh : A.handled = none) (S : St B fs l s) (h : ∀ s' t', St B fs l s' → Q (.int (if y < x then y else x) t') s') : wpAny (model pw w) A (call (.builtin "min") [.int x t, .int y u]) Q E s := by
  refine min_two_ints hh fun h' tk hk => ?_
  have := S.keeps tk hk
  split
  · rename_i hc; have h2 := h _ u this; rwa [if_pos hc] at h2
  · rename_i hc; have h2 := h _ t this; rwa [if_neg hc] at h2
theorem fdivS {x y : Int} {t u : Tok} {Q : Value → Shared → Prop} (S : St B fs l s) (hy : y ≠ 0) (hs : y.natAbs < 1073741824) (h : ∀ s' t', St B fs l s' → Q (.int (x.fdiv y) t') s') : wpAny (model pw w) A (binaryOp .FloorDiv (.int x t) (.int y u)) Q E s := floordiv_int hy (h _ _ (S.toks _)) (.inl (PyProof.noPylong_small hs))
theorem negS {k : Int} {t : Tok} {Q : Value → Shared → Prop} (S : St B fs l s) (h : ∀ s' t', St B fs l s' → Q (.int (-k) t') s') : wpAny (model pw w) A (unaryOp .USub (.int k t)) Q E s := P.neg_int (h _ _ (S.toks _))
/-- two lists of ints: unequal or not -/
theorem neInts {Q : Value → Shared → Prop} (ha : s.heap.IsList a vs.toArray) (hb : s.heap.IsList b ws.toArray) (hv : IntsAre vs ns) (hw : IntsAre ws ns) (hu : A.units < cLine) (h : Q (.bool false) s) : wpAny (model pw w) A (compareOp .NotEq (.ref a) (.ref b)) Q E s := by
  have e1 := hv.length
  have e2 := hw.length
  refine EqBoolInt.of_rcne (SeqAt.RcNeAt.lists (e := fun _ => true) ha hb (by simp; omega) hu fun j h1 h2 => ?_) ?_
  · obtain ⟨t, ht⟩ := intsAt hv j (by simp at h1; omega)
    obtain ⟨u, hu'⟩ := intsAt hw j (by simp at h1; omega)
    have h1' := List.getElem?_eq_some_iff.mp ht
    have h2' := List.getElem?_eq_some_iff.mp hu'
    have := SeqAt.EqAt.int_int (A := A.in1) (s := s) (ns.getD j 0) t (ns.getD j 0) u
    simp only [List.getElem_toArray]
    rw [h1'.2, h2'.2]
    simpa using this
  · rw [show (List.range vs.toArray.size).all (fun _ => true) = true from List.all_eq_true.mpr fun _ _ => rfl]
    exact h
theorem neLen {Q : Value → Shared → Prop} (ha : s.heap.IsList a vs.toArray) (hb : s.heap.IsList b ws.toArray) (hne : vs.length ≠ ws.length) (hu : A.units < cLine) (h : Q (.bool true) s) : wpAny (model pw w) A (compareOp .NotEq (.ref a) (.ref b)) Q E s :=
  EqBoolInt.of_rcne (SeqAt.RcNeAt.lists_lengths ha hb (by simpa using hne) hu) h
end
/-- an iterator over a range -/
def ritS (x left step : Int) : Cell := fun o => o = { cls := .type "range_iterator", dict := none, data := .fields #[rawInt x, rawInt left, rawInt step], slots := #[] }
/-- an iterator over a tuple -/
def titC (t : Addr) (i : Nat) : Cell := fun o => o.cls = .type "tuple_iterator" ∧ o.data = .fields #[.ref t, .int i 0]
abbrev tupC (vs : List Value) : Cell := objC { cls := .type "tuple", data := .seq vs.toArray }
section
variable {w : World} {A : Around} {E : Value → Shared → Prop} {B : Shared} {fs : List Env} {l l' : Cells} {s : Shared} {I tp : Addr} {vs : List Value} {v : Value} {R : Result → Shared → Prop} {n : Nat}
theorem range3S {a b c : Int} {t u v : Tok} {Q : Value → Shared → Prop} (hc : c ≠ 0) (hs : c.natAbs < 1073741824) (S : St B fs l s) (h : ∀ r s', St B fs ((r, rgC a b c t u v) :: l) s' → Q (.ref r) s') : wpAny (model pw w) A (call (.type "range") [.int a t, .int b u, .int c v]) Q E s :=
  call_range_3 hc (h _ _ (S.push (c := rgC a b c t u v) rfl s.toks)) (.inl (PyProof.noPylong_small hs))
theorem rangeSize_odd (k : Nat) (hk : k < 1000) : Builtin.Range.rangeSize 1 ((k : Int) - 1) 2 = (((k - 1) / 2 : Nat) : Int) ∧ Builtin.Range.small 1 ((k : Int) - 1) 2 = true := by
  have : ∀ k : Nat, k < 1000 → Builtin.Range.rangeSize 1 ((k : Int) - 1) 2 = (((k - 1) / 2 : Nat) : Int) ∧ Builtin.Range.small 1 ((k : Int) - 1) 2 = true := by decide +kernel
  exact this k hk
theorem iterRange2 {k : Nat} {t u v : Tok} {r : Addr} {Q : Value → Shared → Prop} (S : St B fs l s) (m : (r, rgC 1 ((k : Int) - 1) 2 t u v) ∈ l) (hk : k < 1000) (h : ∀ i s', St B fs ((i, ritS 1 (((k - 1) / 2 : Nat) : Int) 2) :: l) s' → Q (.ref i) s') : wpAny (model pw w) A (pyIter (.ref r)) Q E s := by
  obtain ⟨o, ho, rfl⟩ := S.has _ m
  obtain ⟨e1, e2⟩ := rangeSize_odd k hk
  refine wpAny_pyIter_range ho e2 (h _ _ ?_)
  exact S.push (c := ritS 1 (((k - 1) / 2 : Nat) : Int) 2) (by show _ = _; rw [e1]) s.toks
theorem nextRangeS {x left step : Int} {Q : Option Value → Shared → Prop} (S : St B fs ((I, ritS x left step) :: l) s) (hl : 0 < left) (h : ∀ t s', St B fs ((I, ritS (x + step) (left - 1) step) :: l) s' → Q (some (.int x t)) s') : wpAny (model pw w) A (pyNext (.ref I)) Q E s := by
  obtain ⟨o, ho, rfl⟩ := S.has _ List.mem_cons_self
  have fI := S.fields_off List.mem_cons_self fun o h => ⟨_, congrArg Obj.data h⟩
  refine wpAny_pyNext_range_item ho hl fun h' hr hs => h _ _ ?_
  exact S.set Upd.here _ hs hr rfl (.inr ⟨_, _, ho, rfl⟩) fun hm => (fI hm).elim
theorem endRangeS {x left step : Int} {Q : Option Value → Shared → Prop} (hh : A.handled = none) (S : St B fs ((I, ritS x left step) :: l) s) (hl : left ≤ 0) (h : ∀ s', St B fs l s' → Q none s') : wpAny (model pw w) A (pyNext (.ref I)) Q E s := by
  obtain ⟨o, ho, rfl⟩ := S.has _ List.mem_cons_self
  have fI := S.fields_off List.mem_cons_self fun o h => ⟨_, congrArg Obj.data h⟩
  exact wpAny_pyNext_range_end hh ho hl fun h' hs => h _ (S.but fI _ hs)
def TurnO (fs : List Env) (I : Addr) (n : Nat) (P : Nat → Shared → Cells → Prop) (R : Result → Shared → Prop) (i : Nat) (f : Flow) (s : Shared) : Prop :=
  match f with
  | .next | .cont => ∃ B' l', P (i + 1) B' l' ∧ St B' fs ((I, ritS (1 + 2 * ((i + 1 : Nat) : Int)) ((n : Int) - ((i + 1 : Nat) : Int)) 2) :: l') s
  | .brk => R (.ok .next) s
  | .ret v => R (.ok (.ret v)) s
/-- a loop over 1, 3, 5 .. -/
theorem forOdd {env : Env} {x : Str} {px : Pos} {body : List Stmt} (P : Nat → Shared → Cells → Prop) (hh : A.handled = none) (S : St B fs ((I, ritS 1 n 2) :: l) s) (h0 : P 0 B l)
    (step : ∀ i t B l s, i < n → P i B l → St B fs ((I, ritS (1 + 2 * ((i + 1 : Nat) : Int)) ((n : Int) - ((i + 1 : Nat) : Int)) 2) :: l) s →
      wpAny (model pw w) A (assign (.Name x px) env (.int ((1 + 2 * i : Nat) : Int) t)) (fun _ s₁ => wpAny (model pw w) A (execs body env) (TurnO fs I n P R i) NoE s₁) NoE s)
    (fin : ∀ B l s, P n B l → St B fs l s → R (.ok .next) s) :
    codeAny (model pw w) A (.forLoop (.Name x px) (.ref I) body [] env) R s := by
  refine codeAny_forLoop_any (fun m s => ∃ i B l, i ≤ n ∧ m = n - i ∧ P i B l ∧ St B fs ((I, ritS (1 + 2 * (i : Int)) ((n : Int) - (i : Int)) 2) :: l) s) ?_ _ ⟨0, B, l, Nat.zero_le _, rfl, h0, by simpa using S⟩
  rintro m s ⟨i, B, l, hi, rfl, hP, S⟩
  by_cases hlt : i < n
  · refine nextRangeS S (by omega) fun t s' S' => ?_
    have e1 : 1 + 2 * (i : Int) + 2 = 1 + 2 * ((i + 1 : Nat) : Int) := by push_cast; omega
    have e2 : (n : Int) - (i : Int) - 1 = (n : Int) - ((i + 1 : Nat) : Int) := by push_cast; omega
    have e3 : 1 + 2 * (i : Int) = ((1 + 2 * i : Nat) : Int) := by push_cast; rfl
    rw [e1, e2] at S'
    rw [e3]
    refine wpAny_of_eq (a := ()) rfl ?_
    refine wpAny_mono (step i t B l s' hlt hP S') (fun _ s₁ h₁ => wpAny_mono h₁ (fun f s₂ h₂ => ?_) fun _ _ z => z.elim) fun _ _ z => z.elim
    cases f with
    | next => obtain ⟨B', l', hP', S'⟩ := h₂; exact ⟨n - (i + 1), by omega, i + 1, B', l', hlt, rfl, hP', S'⟩
    | cont => obtain ⟨B', l', hP', S'⟩ := h₂; exact ⟨n - (i + 1), by omega, i + 1, B', l', hlt, rfl, hP', S'⟩
    | brk => exact h₂
    | ret v => exact h₂
  · obtain rfl : i = n := by omega
    exact endRangeS hh S (by omega) fun s' S' => wpAny_execs_nil (fin _ _ _ hP S')
theorem tupAt (S : St B fs l s) (m : (tp, tupC vs) ∈ l) : IsTup s.heap tp vs.toArray := by
  obtain ⟨o, ho, rfl⟩ := S.has _ m
  exact ⟨_, ho, rfl, 0, rfl⟩
theorem iterTup {Q : Value → Shared → Prop} (S : St B fs l s) (m : (tp, tupC vs) ∈ l) (h : ∀ it s', St B fs ((it, titC tp 0) :: l) s' → Q (.ref it) s') : wpAny (model pw w) A (pyIter (.ref tp)) Q E s :=
  iter_tuple (tupAt S m) (h _ _ (S.push (c := titC tp 0) ⟨rfl, rfl⟩ s.toks))
theorem nextTup {i : Nat} {Q : Option Value → Shared → Prop} (S : St B fs l s) (u : Upd l (I, titC tp i) (I, titC tp (i + 1)) l') (m : (tp, tupC vs) ∈ l) (hx : vs[i]? = some v) (h : ∀ s', St B fs l' s' → Q (some v) s') : wpAny (model pw w) A (pyNext (.ref I)) Q E s := by
  obtain ⟨o, ho, h1, h2⟩ := S.has _ u.mem
  refine next_tuple_item ⟨o, ho, h1, h2⟩ (tupAt S m) (x := v) (by simpa using hx) fun h' hit hs => h _ ?_
  obtain ⟨o', ho', h1', h2'⟩ := hit
  exact S.set u s.toks hs ho' ⟨h1', h2'⟩ (.inr ⟨o, _, ho, h2⟩) fun hm => (S.fields_off u.mem (fun o h => ⟨_, h.2⟩) hm).elim
theorem endTup {i : Nat} {Q : Option Value → Shared → Prop} (hh : A.handled = none) (S : St B fs ((I, titC tp i) :: l) s) (m : (tp, tupC vs) ∈ l) (hx : vs.length ≤ i) (h : ∀ s', St B fs l s' → Q none s') : wpAny (model pw w) A (pyNext (.ref I)) Q E s := by
  obtain ⟨o, ho, h1, h2⟩ := S.has _ List.mem_cons_self
  refine next_tuple_end hh ⟨o, ho, h1, h2⟩ (tupAt S.tail m) (by simpa using hx) fun h' hs => h _ (S.but (S.fields_off List.mem_cons_self fun o h => ⟨_, h.2⟩) s.toks hs)
def TurnT (fs : List Env) (I tp : Addr) (P : Nat → Shared → Cells → Prop) (R : Result → Shared → Prop) (i : Nat) (f : Flow) (s : Shared) : Prop :=
  match f with
  | .next | .cont => ∃ B' l', P (i + 1) B' l' ∧ St B' fs ((I, titC tp (i + 1)) :: l') s
  | .brk => R (.ok .next) s
  | .ret v => R (.ok (.ret v)) s
/-- a loop over a tuple -/
theorem forTup {env : Env} {x : Str} {px : Pos} {body : List Stmt} (P : Nat → Shared → Cells → Prop) (hh : A.handled = none) (S : St B fs ((I, titC tp 0) :: l) s) (h0 : P 0 B l) (hm : ∀ i B l, P i B l → (tp, tupC vs) ∈ l)
    (step : ∀ i v B l s, vs[i]? = some v → P i B l → St B fs ((I, titC tp (i + 1)) :: l) s → wpAny (model pw w) A (assign (.Name x px) env v) (fun _ s₁ => wpAny (model pw w) A (execs body env) (TurnT fs I tp P R i) NoE s₁) NoE s)
    (fin : ∀ B l s, P vs.length B l → St B fs l s → R (.ok .next) s) :
    codeAny (model pw w) A (.forLoop (.Name x px) (.ref I) body [] env) R s := by
  refine codeAny_forLoop_any (fun m s => ∃ i B l, i ≤ vs.length ∧ m = vs.length - i ∧ P i B l ∧ St B fs ((I, titC tp i) :: l) s) ?_ _ ⟨0, B, l, Nat.zero_le _, rfl, h0, S⟩
  rintro m s ⟨i, B, l, hi, rfl, hP, S⟩
  by_cases hlt : i < vs.length
  · refine nextTup (v := vs[i]) S Upd.here (.tail _ (hm _ _ _ hP)) (List.getElem?_eq_getElem hlt) fun s' S' => ?_
    refine wpAny_of_eq (a := ()) rfl ?_
    refine wpAny_mono (step i vs[i] B l s' (List.getElem?_eq_getElem hlt) hP S') (fun _ s₁ h₁ => wpAny_mono h₁ (fun f s₂ h₂ => ?_) fun _ _ z => z.elim) fun _ _ z => z.elim
    cases f with
    | next => obtain ⟨B', l', hP', S'⟩ := h₂; exact ⟨vs.length - (i + 1), by omega, i + 1, B', l', hlt, rfl, hP', S'⟩
    | cont => obtain ⟨B', l', hP', S'⟩ := h₂; exact ⟨vs.length - (i + 1), by omega, i + 1, B', l', hlt, rfl, hP', S'⟩
    | brk => exact h₂
    | ret v => exact h₂
  · obtain rfl : i = vs.length := by omega
    exact endTup hh S (hm _ _ _ hP) (Nat.le_refl _) fun s' S' => wpAny_execs_nil (fin _ _ _ hP S')
end

end
-- L2
section
set_option maxRecDepth 100000
set_option maxHeartbeats 800000
abbrev scL : Scope := scopeOf (stP [62])
abbrev lenv (L fa : Addr) (cd : Value) : Env := cenv scL (S "law") L fa cd
abbrev lst (i : Nat) : Stmt := stIn (inside (stP [62])) i
section
variable {L : Addr}
theorem hcOther : (cellsFrom (L + 1) scL.names []).lookup (S "other") = some (L + 1 + 0) := by kernel_rfl
theorem hcKey : (cellsFrom (L + 1) scL.names []).lookup (S "key") = some (L + 1 + 1) := by kernel_rfl
end
/-- a frame's names, as far as they are known -/
def naC (sc : Scope) (m : Names) : Cell := fun o => ∃ xs, nsC sc xs o ∧ ∀ p ∈ m, p ∈ xs
theorem soft_naC {sc : Scope} {m : Names} : Soft (naC sc m) := fun _ _ h => h
theorem naC_less {sc : Scope} {m m' : Names} (h : ∀ p ∈ m', p ∈ m) : ∀ o, naC sc m o → naC sc m' o := fun _ ⟨xs, h1, h2⟩ => ⟨xs, h1, fun p hp => h2 p (h p hp)⟩
theorem naC_of {sc : Scope} {m : Names} : ∀ o, nsC sc m o → naC sc m o := fun _ h => ⟨m, h, fun _ hp => hp⟩
theorem lookup_filter_ne {β : Type} {xs : List (Str × β)} {x y : Str} (h : y ≠ x) : (xs.filter fun p => !(p.1 == x)).lookup y = xs.lookup y := by
  induction xs with
  | nil => rfl
  | cons p r ih =>
    obtain ⟨z, u⟩ := p
    rw [List.filter_cons]
    by_cases e : z = x
    · subst e
      simp only [beq_self_eq_true, Bool.not_true, Bool.false_eq_true, if_false]
      rw [ih, List.lookup_cons, beq_eq_false_iff_ne.mpr h]
    · simp only [beq_eq_false_iff_ne.mpr e, Bool.not_false, if_true]
      rw [List.lookup_cons, List.lookup_cons, ih]
section
variable {M : Model} {A : Around} {E : Value → Shared → Prop} {B : Shared} {fs : List Env} {l l' : Cells} {s : Shared} {q : Str} {sc : Scope} {L fa c : Addr} {cd : Value} {m m' : Names} {x : Str} {v : Value} {pos : Pos}
theorem ldA {Q : Value → Shared → Prop} (S : St B fs l s) (mm : (L, naC sc m) ∈ l) (mv : (x, v) ∈ m) (h : Q v s) :
    wpAny M A (eval (.Name x pos) (cenv sc q L fa cd)) Q E s := by
  obtain ⟨o, ho, xs, ⟨⟨es, ep, h1, h2, h3⟩, nd, hk, hl⟩, hx⟩ := S.has _ mm
  have mv := hx _ mv
  exact wpAny_Name (wpAny_loadName_local hk (hl _ mv).1 ⟨o, es, ep, ho, h1, h2, h3⟩ (lookup_of_mem nd mv) h) (hl _ mv).2
theorem stG {Q : Unit → Shared → Prop} (S : St B fs l s) (mm : Upd l (L, naC sc m) (L, naC sc m') l') (hm : ∀ p ∈ m', p = (x, v) ∨ (p ∈ m ∧ p.1 ≠ x)) (h : ∀ s', St B fs l' s' → Q () s')
    (hl : sc.names.lookup x = some .local) (hd : (x == ("__debug__" : Str)) = false) :
    wpAny M A (storeName (cenv sc q L fa cd) x v) Q E s := by
  obtain ⟨o, ho, xs, ⟨⟨es, ep, h1, h2, h3⟩, nd, hk, hls⟩, hsub⟩ := S.has _ mm.mem
  refine wpAny_storeName_local hl ⟨o, es, ep, ho, h1, h2, h3⟩ (fun h' hn hs => h _ ?_) (by show (sc.kind == .class || (sc.kind == .module && L != mainGlobals)) = false; rw [hk]; rfl)
  obtain ⟨o', es', ep', ho', hd', hk', hf⟩ := hn
  refine S.set mm _ hs ho' ⟨(x, v) :: xs.filter fun p => !(p.1 == x), ⟨⟨es', ep', hd', hk', fun y => (hf y).trans ?_⟩, ?_, hk, fun p hp => ?_⟩, fun p hp => ?_⟩ (.inl fun vs e => by rw [hd'] at e; cases e) fun _ => soft_naC
  · show (if y = x then some v else List.lookup y xs) = _
    rw [List.lookup_cons]
    by_cases e : y = x
    · subst e; simp
    · rw [if_neg e, beq_eq_false_iff_ne.mpr e, lookup_filter_ne e]
  · rw [List.map_cons]
    refine List.nodup_cons.mpr ⟨fun hm => ?_, nd.sublist ((List.filter_sublist).map _)⟩
    obtain ⟨p, hp, e⟩ := List.mem_map.mp hm
    have := (List.mem_filter.mp hp).2
    rw [e] at this; simp at this
  · rcases List.mem_cons.mp hp with rfl | hp
    · exact ⟨hl, hd⟩
    · exact hls p (List.mem_filter.mp hp).1
  · rcases hm p hp with rfl | ⟨hp, hne⟩
    · exact .head _
    · exact .tail _ (List.mem_filter.mpr ⟨hsub p hp, by simp [hne]⟩)
theorem stA {Q : Unit → Shared → Prop} (S : St B fs l s) (mm : Upd l (L, naC sc m) (L, naC sc ((x, v) :: m)) l') (h : ∀ s', St B fs l' s' → Q () s') (hx : x ∉ m.map (·.1))
    (hl : sc.names.lookup x = some .local) (hd : (x == ("__debug__" : Str)) = false) :
    wpAny M A (storeName (cenv sc q L fa cd) x v) Q E s :=
  stG S mm (fun p hp => by
    rcases List.mem_cons.mp hp with rfl | hp
    · exact .inl rfl
    · exact .inr ⟨hp, fun e => hx (List.mem_map.mpr ⟨p, hp, e⟩)⟩) h hl hd
theorem Weak.names (h : ∀ p ∈ m', p ∈ m) (W : Weak l l') : Weak ((L, naC sc m) :: l) ((L, naC sc m') :: l') := .cons (naC_less h) (fun _ _ _ => soft_naC) W
theorem Weak.named (W : Weak l l') : Weak ((L, nsC sc m) :: l) ((L, naC sc m) :: l') := .cons naC_of (fun _ _ _ => soft_naC) W
end
section
variable {M : Model} {A : Around} {E : Value → Shared → Prop} {B : Shared} {fs : List Env} {l l' : Cells} {s : Shared} {L fa : Addr} {cd v : Value} {u : Option Value} {pos : Pos}
theorem ldOther {Q : Value → Shared → Prop} (S : St B fs l s) (m : (L + 1 + 0, cellC (some v)) ∈ l) (h : Q v s) : wpAny M A (eval (.Name (Str.ofString "other") pos) (lenv L fa cd)) Q E s := ldK S m hcOther (by kernel_rfl) (by decide +kernel) (by kernel_rfl) h
theorem ldKey {Q : Value → Shared → Prop} (S : St B fs l s) (m : (L + 1 + 1, cellC (some v)) ∈ l) (h : Q v s) : wpAny M A (eval (.Name (Str.ofString "key") pos) (lenv L fa cd)) Q E s := ldK S m hcKey (by kernel_rfl) (by decide +kernel) (by kernel_rfl) h
theorem stOther {Q : Unit → Shared → Prop} (S : St B fs l s) (m : Upd l (L + 1 + 0, cellC u) (L + 1 + 0, cellC (some v)) l') (h : ∀ s', St B fs l' s' → Q () s') : wpAny M A (storeName (lenv L fa cd) (Str.ofString "other") v) Q E s := stK S hcOther m (by kernel_rfl) (by kernel_rfl) h
theorem stKey {Q : Unit → Shared → Prop} (S : St B fs l s) (m : Upd l (L + 1 + 1, cellC u) (L + 1 + 1, cellC (some v)) l') (h : ∀ s', St B fs l' s' → Q () s') : wpAny M A (storeName (lenv L fa cd) (Str.ofString "key") v) Q E s := stK S hcKey m (by kernel_rfl) (by kernel_rfl) h
variable {w : World} {Q : Value → Shared → Prop}
theorem ldRange (T : Stat (KK w) B.heap) (S : St B fs l s) (h : Q (.type "range") s) : wpAny M A (eval (.Name (Str.ofString "range") pos) (lenv L fa cd)) Q E s :=
  ldVB T S (by kernel_rfl) (by kernel_rfl) (by decide +kernel) (by kernel_rfl) (by decide +kernel) (by kernel_rfl) h
theorem ldLen (T : Stat (KK w) B.heap) (S : St B fs l s) (h : Q (.builtin "len") s) : wpAny M A (eval (.Name (Str.ofString "len") pos) (lenv L fa cd)) Q E s :=
  ldVB T S (by kernel_rfl) (by kernel_rfl) (by decide +kernel) (by kernel_rfl) (by decide +kernel) (by kernel_rfl) h
theorem ldList (T : Stat (KK w) B.heap) (S : St B fs l s) (h : Q (.type "list") s) : wpAny M A (eval (.Name (Str.ofString "list") pos) (lenv L fa cd)) Q E s :=
  ldVB T S (by kernel_rfl) (by kernel_rfl) (by decide +kernel) (by kernel_rfl) (by decide +kernel) (by kernel_rfl) h
theorem ldSorted (T : Stat (KK w) B.heap) (S : St B fs l s) (h : Q (.builtin "sorted") s) : wpAny M A (eval (.Name (Str.ofString "sorted") pos) (lenv L fa cd)) Q E s :=
  ldVB T S (by kernel_rfl) (by kernel_rfl) (by decide +kernel) (by kernel_rfl) (by decide +kernel) (by kernel_rfl) h
theorem ldMin (T : Stat (KK w) B.heap) (S : St B fs l s) (h : Q (.builtin "min") s) : wpAny M A (eval (.Name (Str.ofString "min") pos) (lenv L fa cd)) Q E s :=
  ldVB T S (by kernel_rfl) (by kernel_rfl) (by decide +kernel) (by kernel_rfl) (by decide +kernel) (by kernel_rfl) h
theorem ldMade (T : Stat (KK w) B.heap) (S : St B fs l s) (h : Q (.ref 1511) s) : wpAny M A (eval (.Name (Str.ofString "_law_made") pos) (lenv L fa cd)) Q E s :=
  ldVG T S (by kernel_rfl) (by kernel_rfl) (by decide +kernel) (by kernel_rfl) h
end
section
variable {A : Around} {E : Value → Shared → Prop} {B : Shared} {fs : List Env} {l l' : Cells} {s : Shared} {c C : Addr} {x : Str} {v : Value} {pos : Pos} {env : Env} {scope : Scope}
theorem ldX1 {M : Model} {Q : Value → Shared → Prop} (S : St B fs l s) (m : (c, cellC (some v)) ∈ l) (hl : (relabel scope env).names.lookup x = some .cell) (hd : (x == ("__debug__" : Str)) = false) (hk : scope.kind = .function) (h : Q v s) :
    wpAny M A (eval (.Name x pos) (compEnvC scope [(x, c)] C env)) Q E s := ldXK S m hl (by rw [List.lookup_cons, beq_self_eq_true]) hd hk h
end
end
local macro_rules | `(tactic| walk_at "m_wk1") => `(tactic| ((with_reducible show wpAny _ _ (eval (Expr.Name _ _) (compEnvC _ _ _ _)) _ _ _); first | refine ldX (by assumption) (by walk_at "m_mem") (by walk_at "m_mem") ?_ | refine ldX1 (by assumption) (by walk_at "m_mem") (by kernel_rfl) (by decide +kernel) (by kernel_rfl) ?_))
section
set_option maxRecDepth 100000
set_option maxHeartbeats 800000
end
local macro_rules | `(tactic| walk_at "m_wk1") => `(tactic| ((with_reducible show wpAny _ _ (eval (Expr.Name _ _) (cenv _ _ _ _ _)) _ _ _); first
  | ((with_reducible show wpAny _ _ (eval (Expr.Name (Str.ofString "other") _) _) _ _ _); refine ldOther (by assumption) (by walk_at "m_mem") ?_)
  | ((with_reducible show wpAny _ _ (eval (Expr.Name (Str.ofString "key") _) _) _ _ _); refine ldKey (by assumption) (by walk_at "m_mem") ?_)
  | ((with_reducible show wpAny _ _ (eval (Expr.Name (Str.ofString "range") _) _) _ _ _); refine ldRange (by assumption) (by assumption) ?_)
  | ((with_reducible show wpAny _ _ (eval (Expr.Name (Str.ofString "len") _) _) _ _ _); refine ldLen (by assumption) (by assumption) ?_)
  | ((with_reducible show wpAny _ _ (eval (Expr.Name (Str.ofString "list") _) _) _ _ _); refine ldList (by assumption) (by assumption) ?_)
  | ((with_reducible show wpAny _ _ (eval (Expr.Name (Str.ofString "sorted") _) _) _ _ _); refine ldSorted (by assumption) (by assumption) ?_)
  | ((with_reducible show wpAny _ _ (eval (Expr.Name (Str.ofString "min") _) _) _ _ _); refine ldMin (by assumption) (by assumption) ?_)
  | ((with_reducible show wpAny _ _ (eval (Expr.Name (Str.ofString "_law_made") _) _) _ _ _); refine ldMade (by assumption) (by assumption) ?_)
  | refine ldA (by assumption) (by walk_at "m_mem") (by walk_at "m_mem") ?_))
section
set_option maxRecDepth 100000
set_option maxHeartbeats 800000
end
local macro_rules | `(tactic| walk_at "m_wk1") => `(tactic| ((with_reducible show wpAny _ _ (storeName (cenv _ _ _ _ _) _ _) _ _ _); first
  | ((with_reducible show wpAny _ _ (storeName _ (Str.ofString "other") _) _ _ _); refine stOther (by assumption) (by walk_at "m_updt") fun s' S' => ?_)
  | ((with_reducible show wpAny _ _ (storeName _ (Str.ofString "key") _) _ _ _); refine stKey (by assumption) (by walk_at "m_updt") fun s' S' => ?_)
  | refine stA (by assumption) (by walk_at "m_updt") (fun s' S' => ?_) (by walk_at "m_nin") (by kernel_rfl) (by decide +kernel)))
section
set_option maxRecDepth 100000
set_option maxHeartbeats 800000
end
local macro_rules | `(tactic| walk_at "m_wk1") => `(tactic| ((with_reducible show wpAny _ _ (eval (Expr.Constant (Const.str _) _ _) _) _ _ _); refine strS (by assumption) (fun s' t' S' => ?_)))
section
set_option maxRecDepth 100000
set_option maxHeartbeats 800000
end
local macro_rules | `(tactic| walk_at "m_wk1") => `(tactic| ((with_reducible show wpAny _ _ (binaryOp Operator.Mod (Value.int _ _) (Value.int _ _)) _ _ _); refine modS (by assumption) (by decide) (fun s' t' S' => ?_)))
section
set_option maxRecDepth 100000
set_option maxHeartbeats 800000
end
local macro_rules | `(tactic| walk_at "m_wk1") => `(tactic| ((with_reducible show wpAny _ _ (binaryOp Operator.FloorDiv (Value.int _ _) (Value.int _ _)) _ _ _); refine fdivS (by assumption) (by decide) (by decide) (fun s' t' S' => ?_)))
section
set_option maxRecDepth 100000
set_option maxHeartbeats 800000
end
local macro_rules | `(tactic| walk_at "m_wk1") => `(tactic| ((with_reducible show wpAny _ _ (unaryOp UnaryOp.USub (Value.int _ _)) _ _ _); refine negS (by assumption) (fun s' t' S' => ?_)))
section
set_option maxRecDepth 100000
set_option maxHeartbeats 800000
/-- the frame of the law -/
abbrev frn (L : Addr) (other key : Option Value) (m : Names) (l : Cells) : Cells := (L + 1 + 1, cellC key) :: (L + 1 + 0, cellC other) :: (L, naC scL m) :: l
end
local macro_rules | `(tactic| walk_at "m_litc") => `(tactic| (refine args_cons ?_; walk_at "m_wk"))
section
set_option maxRecDepth 100000
set_option maxHeartbeats 800000
section
variable {w : World} {A : Around} {E : Value → Shared → Prop} {B : Shared} {fs : List Env} {l l' : Cells} {s : Shared} {L fa sc : Addr} {cd : Value} {n : Nat}
/-- numbers = script[:29] + [0, 0] -/
theorem law0 {sv : List Value} {ns : List Int} {Q : Flow → Shared → Prop} (hl : B.heap.IsList sc sv.toArray) (hi : IntsAre sv ns) (hlen : ns.length ≤ 63) (S : St B fs (frn L none none [(Str.ofString "script", .ref sc)] l) s)
    (h : ∀ nl nv s', IntsAre nv (ns.take 29 ++ [0, 0]) → St B fs ((nl, listC nv) :: frn L none none [(Str.ofString "numbers", .ref nl), (Str.ofString "script", .ref sc)] l) s' → Q .next s') :
    wpAny (model pw w) A (exec (lst 0) (lenv L fa cd)) Q E s := by
  refine wpAny_Assign_Name ?_
  walk_at "m_wk"
  refine sliceS (B := B) (fs := fs) ?_
  walk_at "m_wk"
  refine wpAny_evalPart_none ?_
  refine wpAny_evalPart_some ?_
  walk_at "m_wk"
  rename_i s' t' S'
  have hL := hl.at fun o e => S'.base _ _ e
  refine ⟨sc, _, none, some 29, _, rfl, S', hL, ?_, .none, .int _ _, fun D s' S' => ?_⟩
  · have := hi.length
    rw [sizeLine_eq]; simp; omega
  have hp := slice_ints_uptoW hi (y := 29) (by decide)
  refine listDisp (B := B) (fs := fs) ?_
  walk_at "m_litc"
  walk_at "m_litc"
  refine args_nil ?_
  refine ⟨by rw [sizeLine_eq]; exact Nat.le_of_ble_eq_true rfl, _, by assumption, fun d s' S' => ?_⟩
  have hlen2 : (slicePick sv.toArray none (some 29) none).toList.length ≤ 29 := by
    rw [hp.length]; simp; omega
  refine addLists (a := D) (b := d) (by assumption) (by walk_at "m_mem") (by walk_at "m_mem") (by rw [sizeLine_eq]; simp only [List.length_cons, List.length_nil]; omega) fun e s' S' => ?_
  walk_at "m_wk"
  rename_i S'
  exact h e _ _ (hp.append (.cons _ _ (.cons _ _ .nil))) (S'.perm (l' := (d, _) :: (D, _) :: (e, _) :: frn L none none [(Str.ofString "numbers", .ref e), (Str.ofString "script", .ref sc)] l) (by walk_at "m_pm")).tail.tail
end

end
-- L3
section
set_option maxRecDepth 100000
set_option maxHeartbeats 800000
def kdOf : Nat → Kind
  | 0 => .fifo | 1 => .lru | 2 => .ttl | _ => .tlru
section
variable {w : World} {A : Around} {E : Value → Shared → Prop} {B : Shared} {fs : List Env} {l l' : Cells} {s : Shared} {L fa sc nl : Addr} {cd : Value} {n : Nat} {R : Result → Shared → Prop} {K : Type} [DecidableEq K] {knd : AnyKind pw w K}
/-- a pair is unpacked -/
theorem unpack2 {env : Env} {xa xb : Str} {pa pb tp : Pos} {k} {t : Addr} {v0 v1 : Value} {Q : Unit → Shared → Prop} (hh : A.handled = none) (S : St B fs l s) (m : (t, tupC [v0, v1]) ∈ l)
    (h : ∀ s', St B fs l s' → wpAny (model pw w) A (assign (.Name xa pa) env v0) (fun _ s₁ => wpAny (model pw w) A (assign (.Name xb pb) env v1) (fun _ s₂ => Q () s₂) E s₁) E s') :
    wpAny (model pw w) A (assign (.Tuple [.Name xa pa, .Name xb pb] k tp) env (.ref t)) Q E s := by
  refine assign_Tuple_tuple hh (tupAt S m) rfl rfl fun h' hx => ?_
  have S' := S.keeps (h' := h') s.toks fun b o hb => hx b o (Nat.ne_of_lt (Heap.lt_size hb)) hb
  exact assignInOrder_cons (wpAny_mono (h _ S') (fun _ s₁ h₁ => assignInOrder_cons (wpAny_mono h₁ (fun _ s₂ h₂ => assignInOrder_nil h₂) fun _ _ z => z)) fun _ _ z => z)
/-- _law_made -/
theorem c1511 (knd : AnyKind pw w K) {w4 pl : Nat} {t u : Tok} (hpl : pl ≤ 100) (h4 : w4 < 4) (T : Stat (KK w) B.heap) (r : Room (n + 21) fs A) (S₀ : St B fs l s)
    (h : ∀ x c s', Cach w B knd (kdOf w4) x pl 0 [] c → St B fs (c ++ l) s' → R (.ok (.ret (.ref x))) s') : codeAny (model pw w) A (.call (.ref 1511) ⟨[.int (w4 : Nat) t, .int (pl : Nat) u], []⟩) R s := by
  refine callS (binds := [(S "which", .int (w4 : Nat) t), (S "places", .int (pl : Nat) u)]) (names := [S "which", S "places"]) (locs := [(S "places", .int (pl : Nat) u), (S "which", .int (w4 : Nat) t)]) fnOk1511 T S₀ r (BindsTo.of_eq (by kernel_rfl)) rfl rfl (by kernel_rfl) (by decide +kernel) (by kernel_rfl) fun L s' r₁ S₁ => ?_
  have fin : ∀ (x : Addr) (c : Cells) (s' : Shared) (nm : Names), Cach w B knd (kdOf w4) x pl 0 [] c → St B (fnEnv fd1511 L 1511 :: fs) (c ++ ((L, nsC fd1511.scope nm) :: l)) s' → R (.ok (.ret (.ref x))) s' := fun x c s' nm C S' => h x c s' C (St.done L S' (by walk_at "m_pm"))
  refine wpAny_execs_cons ?_
  walk_at "m_wk"
  clear S₁ h
  rcases (by omega : w4 = 0 ∨ w4 = 1 ∨ w4 = 2 ∨ w4 = 3) with rfl | rfl | rfl | rfl
  · refine iteT (by decide) ?_
    walk_at "m_wki"
    refine Call_ ?_
    refine ldG (v := .ref 917) T (by assumption) (by kernel_rfl) ?_
    refine callFn T (by kernel_rfl) ?_
    refine args_cons ?_
    walk_at "m_wk"
    refine args_nil ⟨⟨_, _, by assumption⟩, wpAny_call ?_⟩
    refine opNew (n := n) (kd := .fifo) (u := u) (tl := 0) knd hpl T (r₁.less (by omega)) (by assumption) fun x c s' C S' => ?_
    exact fin x c s' _ C S'
  · refine iteF (by decide) ?_
    walk_at "m_wk"
    refine iteT (by decide) ?_
    walk_at "m_wki"
    refine Call_ ?_
    refine ldG (v := .ref 982) T (by assumption) (by kernel_rfl) ?_
    refine callFn T (by kernel_rfl) ?_
    refine args_cons ?_
    walk_at "m_wk"
    refine args_nil ⟨⟨_, _, by assumption⟩, wpAny_call ?_⟩
    refine opNew (n := n) (kd := .lru) (u := u) (tl := 0) knd hpl T (r₁.less (by omega)) (by assumption) fun x c s' C S' => ?_
    exact fin x c s' _ C S'
  · refine iteF (by decide) ?_
    walk_at "m_wk"
    refine iteF (by decide) ?_
    walk_at "m_wk"
    refine wpAny_IfExp ?_
    walk_at "m_wk"
    refine iteT (by decide) ?_
    refine Call_ ?_
    refine ldG (v := .ref 1270) T (by assumption) (by kernel_rfl) ?_
    refine callFn T (by kernel_rfl) ?_
    refine args_cons ?_
    walk_at "m_wk"
    refine args_cons ?_
    walk_at "m_wk"
    rename_i s9 t9 S9
    refine args_cons ?_
    refine ldG (v := .ref aClock) T (by assumption) (by kernel_rfl) ?_
    refine args_nil ⟨⟨_, _, by assumption⟩, wpAny_call ?_⟩
    refine opNew (n := n) (kd := .ttl) (u := u) (tl := t9) knd hpl T (r₁.less (by omega)) (by assumption) fun x c s' C S' => ?_
    exact fin x c s' _ C S'
  · refine iteF (by decide) ?_
    walk_at "m_wk"
    refine iteF (by decide) ?_
    walk_at "m_wk"
    refine wpAny_IfExp ?_
    walk_at "m_wk"
    refine iteF (by decide) ?_
    refine Call_ ?_
    refine ldG (v := .ref 1488) T (by assumption) (by kernel_rfl) ?_
    refine callFn T (by kernel_rfl) ?_
    refine args_cons ?_
    walk_at "m_wk"
    refine args_cons ?_
    refine ldG (v := .ref aEnd) T (by assumption) (by kernel_rfl) ?_
    refine args_cons ?_
    refine ldG (v := .ref aClock) T (by assumption) (by kernel_rfl) ?_
    refine args_nil ⟨⟨_, _, by assumption⟩, wpAny_call ?_⟩
    refine opNew (n := n) (kd := .tlru) (u := u) (tl := 0) knd hpl T (r₁.less (by omega)) (by assumption) fun x c s' C S' => ?_
    exact fin x c s' _ C S'
abbrev scr (sc : Addr) : Str × Value := (Str.ofString "script", .ref sc)
abbrev num (nl : Addr) : Str × Value := (Str.ofString "numbers", .ref nl)
/-- which = numbers[0] % 4 -/
theorem law1 {nv : List Value} {ns : List Int} {Q : Flow → Shared → Prop} (hN : IntsAre nv ns) (hl : 0 < ns.length) (S₀ : St B fs ((nl, listC nv) :: frn L none none [num nl, scr sc] l) s)
    (h : ∀ (w4 : Nat) t s', w4 < 4 → St B fs ((nl, listC nv) :: frn L none none [(Str.ofString "which", .int (w4 : Nat) t), num nl, scr sc] l) s' → Q .next s') :
    wpAny (model pw w) A (exec (lst 1) (lenv L fa cd)) Q E s := by
  obtain ⟨t, ht⟩ := intsAt hN 0 hl
  have h1 : 0 ≤ (ns.getD 0 0).fmod 4 := Int.fmod_nonneg_of_pos _ (by decide)
  have h2 : (ns.getD 0 0).fmod 4 < 4 := Int.fmod_lt_of_pos _ (by decide)
  refine wpAny_Assign_Name ?_
  walk_at "m_wk"
  refine Subscript_ ?_
  walk_at "m_wk"
  refine subL (a := nl) (vs := nv) (by assumption) (by walk_at "m_mem") (by decide) (by decide) ht ?_
  walk_at "m_wk"
  rename_i S'
  have e : (ns.getD 0 0).fmod 4 = ((((ns.getD 0 0).fmod 4).toNat : Nat) : Int) := by omega
  rw [e] at S'
  exact h ((ns.getD 0 0).fmod 4).toNat _ _ (by omega) S'
/-- places = numbers[0] // 4 % 5 + 1 -/
theorem law2 {nv : List Value} {ns : List Int} {w4 : Nat} {t : Tok} {Q : Flow → Shared → Prop} (hN : IntsAre nv ns) (hl : 0 < ns.length) (S₀ : St B fs ((nl, listC nv) :: frn L none none [(Str.ofString "which", .int (w4 : Nat) t), num nl, scr sc] l) s)
    (h : ∀ (pl : Nat) u s', 0 < pl → pl ≤ 5 → St B fs ((nl, listC nv) :: frn L none none [(Str.ofString "places", .int (pl : Nat) u), (Str.ofString "which", .int (w4 : Nat) t), num nl, scr sc] l) s' → Q .next s') :
    wpAny (model pw w) A (exec (lst 2) (lenv L fa cd)) Q E s := by
  obtain ⟨t, ht⟩ := intsAt hN 0 hl
  have h1 : 0 ≤ ((ns.getD 0 0).fdiv 4).fmod 5 := Int.fmod_nonneg_of_pos _ (by decide)
  have h2 : ((ns.getD 0 0).fdiv 4).fmod 5 < 5 := Int.fmod_lt_of_pos _ (by decide)
  refine wpAny_Assign_Name ?_
  walk_at "m_wk"
  refine Subscript_ ?_
  walk_at "m_wk"
  refine subL (a := nl) (vs := nv) (by assumption) (by walk_at "m_mem") (by decide) (by decide) ht ?_
  walk_at "m_wk"
  rename_i S'
  have e : ((ns.getD 0 0).fdiv 4).fmod 5 + 1 = (((((ns.getD 0 0).fdiv 4).fmod 5).toNat + 1 : Nat) : Int) := by push_cast; omega
  rw [e] at S'
  exact h ((((ns.getD 0 0).fdiv 4).fmod 5).toNat + 1) _ _ (by omega) (by omega) S'
/-- told, other = .. -/
theorem law3 (knd : AnyKind pw w K) {m : Names} {w4 pl : Nat} {t u : Tok} {Q : Flow → Shared → Prop} (hpl : pl ≤ 5) (h4 : w4 < 4) (T : Stat (KK w) B.heap) (r : Room (n + 21) fs A) (hm1 : (Str.ofString "places", Value.int (pl : Nat) u) ∈ m) (hm2 : (Str.ofString "which", Value.int (w4 : Nat) t) ∈ m) (hm3 : Str.ofString "told" ∉ m.map (·.1))
    (S₀ : St B fs (frn L none none m l) s)
    (h : ∀ x c y c' s', Cach w B knd (kdOf w4) x pl 0 [] c → Cach w B knd (kdOf w4) y pl 0 [] c' → St B fs (frn L (some (.ref y)) none ((Str.ofString "told", .ref x) :: m) (c ++ (c' ++ l))) s' → Q .next s') :
    wpAny (model pw w) A (exec (lst 3) (lenv L fa cd)) Q E s := by
  refine Assign_Tuple ?_ (by kernel_rfl) (by kernel_rfl)
  refine tupDisp (B := B) (fs := fs) ?_
  refine args_cons ?_
  refine Call_ ?_
  walk_at "m_wk1"
  refine callFn T (by kernel_rfl) ?_
  refine args_cons ?_
  refine ldA S₀ (by walk_at "m_mem") hm2 ?_
  refine args_cons ?_
  refine ldA S₀ (by walk_at "m_mem") hm1 ?_
  refine args_nil ⟨⟨_, _, S₀⟩, wpAny_call ?_⟩
  refine c1511 (n := n) knd (by omega) h4 T r S₀ fun x c s' C S1 => ?_
  have S1 := S1.perm (l' := frn L none none m (c ++ l)) (by walk_at "m_pm")
  clear S₀
  refine args_cons ?_
  refine Call_ ?_
  walk_at "m_wk1"
  refine callFn T (by kernel_rfl) ?_
  refine args_cons ?_
  refine ldA S1 (by walk_at "m_mem") hm2 ?_
  refine args_cons ?_
  refine ldA S1 (by walk_at "m_mem") hm1 ?_
  refine args_nil ⟨⟨_, _, S1⟩, wpAny_call ?_⟩
  refine c1511 (n := n) knd (by omega) h4 T r S1 fun y c' s' C' S2 => ?_
  have S2 := S2.perm (l' := frn L none none m (c' ++ (c ++ l))) (by walk_at "m_pm")
  clear S1
  refine args_nil ?_
  refine ⟨by rw [sizeLine_eq]; exact Nat.le_of_ble_eq_true rfl, _, S2, fun tp s' S3 => ?_⟩
  refine unpack2 r.handled S3 (.head _) fun s' S4 => ?_
  clear S2 S3
  refine wpAny_assign_Name ?_
  refine stA S4 (by walk_at "m_updt") (fun s' S5 => ?_) hm3 (by kernel_rfl) (by decide +kernel)
  clear S4
  refine wpAny_assign_Name ?_
  walk_at "m_wk"
  rename_i S6
  have S7 : St B fs (frn L (some (.ref y)) none ((Str.ofString "told", .ref x) :: m) (c' ++ (c ++ l))) _ := St.tail S6
  refine h x c y c' _ C C' (S7.perm ?_)
  refine List.Perm.cons _ (List.Perm.cons _ (List.Perm.cons _ ?_))
  rw [← List.append_assoc, ← List.append_assoc]
  exact List.Perm.append_right l List.perm_append_comm
/-- values = {} -/
theorem law4 (knd : AnyKind pw w K) {m : Names} {o0 k0 : Option Value} {Q : Flow → Shared → Prop} (hm : Str.ofString "values" ∉ m.map (·.1)) (S₀ : St B fs (frn L o0 k0 m l) s)
    (h : ∀ vd s', St B fs ((vd, dictC knd B []) :: frn L o0 k0 ((Str.ofString "values", .ref vd) :: m) l) s' → Q .next s') : wpAny (model pw w) A (exec (lst 4) (lenv L fa cd)) Q E s := by
  refine wpAny_Assign_Name ?_
  refine dictNil knd S₀ fun vd s' S' => ?_
  exact stA S' (by walk_at "m_updt") (fun s' S5 => h vd s' S5) hm (by kernel_rfl) (by decide +kernel)
/-- order = [] -/
theorem law5 {m : Names} {o0 k0 : Option Value} {Q : Flow → Shared → Prop} (hm : Str.ofString "order" ∉ m.map (·.1)) (S₀ : St B fs (frn L o0 k0 m l) s)
    (h : ∀ od s', St B fs ((od, listC []) :: frn L o0 k0 ((Str.ofString "order", .ref od) :: m) l) s' → Q .next s') : wpAny (model pw w) A (exec (lst 5) (lenv L fa cd)) Q E s := by
  refine wpAny_Assign_Name ?_
  refine listNil S₀ fun vd s' S' => ?_
  exact stA S' (by walk_at "m_updt") (fun s' S5 => h vd s' S5) hm (by kernel_rfl) (by decide +kernel)
end

end
-- L4
section
/-! the plain law: what the caches do, on the list of their answers -/
def lastN {α : Type} (n : Nat) (l : List α) : List α := l.drop (l.length - n)
def notK (ks : List Nat) (k : Nat) : List Nat := ks.filter fun x => !decide (x = k)
/-- the law's own order of keys -/
def ordS (pl w4 kind : Nat) (ks : List Nat) (k : Nat) : List Nat :=
  if kind < 4 ∨ (k ∈ ks ∧ kind < 7 ∧ 0 < w4) ∨ (k ∉ ks ∧ kind = 6) then lastN pl (notK ks k ++ [k]) else if kind = 7 then notK ks k else ks
def stepS (kd : Kind) (pl kind : Nat) (st : List (Nat × Value)) (k : Nat) (v : Value) : List (Nat × Value) :=
  if kind < 4 then setS pl st k v else if kind < 6 then gotS kd st k else if kind = 6 then sdS kd pl st k v else dropS st k
def valS (kind : Nat) (st : List (Nat × Value)) (xs : List (Nat × Value × Value)) (k : Nat) (kz v : Value) : List (Nat × Value × Value) :=
  if kind < 4 ∨ (kind = 6 ∧ k ∉ st.map (·.1)) then putK xs k kz v else xs
structure LInv (st : List (Nat × Value)) (xs : List (Nat × Value × Value)) : Prop where
  lt : ∀ k ∈ st.map (·.1), k < 7
  val : ∀ p ∈ st, ∃ i t, p.2 = .int i t ∧ ∃ kz t', atK xs p.1 = some (kz, .int i t')
section
variable {st : List (Nat × Value)} {xs : List (Nat × Value × Value)} {k pl w4 kind : Nat} {kz v v' : Value} {kd : Kind} {i : Int} {t : Tok}
theorem LInv.nil {xs : List (Nat × Value × Value)} : LInv [] xs := ⟨(fun _ h => nomatch h), (fun _ h => nomatch h)⟩
theorem mem_setS {p : Nat × Value} (h : p ∈ setS pl st k v) : p = (k, v) ∨ (p ∈ st ∧ p.1 ≠ k) := by
  unfold setS at h
  split at h
  · rcases List.mem_append.mp h with h | h
    · have := List.mem_filter.mp h
      exact .inr ⟨this.1, by simpa using this.2⟩
    · exact .inl (List.mem_singleton.mp h)
  · rename_i hn
    have hk : k ∉ st.map (·.1) := fun hm => hn (vAt_isSome.mpr hm)
    rcases List.mem_append.mp h with h | h
    · have hm : p ∈ st := by
        unfold roomS at h
        split at h
        · exact h
        · exact List.mem_of_mem_tail h
      exact .inr ⟨hm, fun e => hk (e ▸ List.mem_map.mpr ⟨p, hm, rfl⟩)⟩
    · exact .inl (List.mem_singleton.mp h)
theorem mem_touch {p : Nat × Value} (hv : vAt st k = some v) (h : p ∈ touchS kd st k v) : p ∈ st := by
  have hm : (k, v) ∈ st := by
    unfold vAt at hv
    obtain ⟨q, hq, rfl⟩ := Option.map_eq_some_iff.mp hv
    have hk : q.1 = k := of_decide_eq_true (List.find?_some (p := fun x : Nat × Value => decide (x.1 = k)) hq)
    have := List.mem_of_find?_eq_some hq
    rw [← hk]; exact this
  have gen : p ∈ dropS st k ++ [(k, v)] → p ∈ st := fun h => by
    rcases List.mem_append.mp h with h | h
    · exact (List.mem_filter.mp h).1
    · rw [List.mem_singleton.mp h]; exact hm
  cases kd with
  | fifo => exact h
  | lru => exact gen h
  | ttl => exact gen h
  | tlru => exact gen h
theorem mem_got {p : Nat × Value} (h : p ∈ gotS kd st k) : p ∈ st := by
  unfold gotS at h
  split at h
  · exact mem_touch (by assumption) h
  · exact h
theorem mem_drop {p : Nat × Value} (h : p ∈ dropS st k) : p ∈ st ∧ p.1 ≠ k := by
  have := List.mem_filter.mp h
  exact ⟨this.1, by simpa using this.2⟩
theorem atK_put_ne {k' : Nat} (h : k' ≠ k) : (atK (putK xs k kz v) k').map (·.2) = (atK xs k').map (·.2) := by rw [atK_put, if_neg h]
theorem at_of_map {k' : Nat} {u : Value} (h : (atK xs k').map (·.2) = some u) : ∃ kz, atK xs k' = some (kz, u) := by
  obtain ⟨p, hp, rfl⟩ := Option.map_eq_some_iff.mp h
  exact ⟨p.1, hp⟩
theorem LInv.put (h : LInv st xs) (hk : k < 7) {st' : List (Nat × Value)} (hm : ∀ p ∈ st', p = (k, .int i t) ∨ (p ∈ st ∧ p.1 ≠ k)) : LInv st' (putK xs k kz (.int i t)) where
  lt := fun k' hk' => by
    obtain ⟨p, hp, rfl⟩ := List.mem_map.mp hk'
    rcases hm p hp with rfl | ⟨h1, _⟩
    · exact hk
    · exact h.lt _ (List.mem_map.mpr ⟨p, h1, rfl⟩)
  val := fun p hp => by
    rcases hm p hp with rfl | ⟨h1, h2⟩
    · obtain ⟨kz', h3⟩ := at_of_map (xs := putK xs k kz (.int i t)) (k' := k) (u := .int i t) (by rw [atK_put, if_pos rfl])
      exact ⟨i, t, rfl, kz', t, h3⟩
    · obtain ⟨j, t1, e1, kz1, t2, e2⟩ := h.val p h1
      obtain ⟨kz', h3⟩ := at_of_map (xs := putK xs k kz (.int i t)) (k' := p.1) (u := .int j t2) (by rw [atK_put_ne h2, e2]; rfl)
      exact ⟨j, t1, e1, kz', t2, h3⟩
theorem LInv.sub (h : LInv st xs) {st' : List (Nat × Value)} (hm : ∀ p ∈ st', p ∈ st) : LInv st' xs :=
  ⟨fun k' hk' => by
    obtain ⟨p, hp, rfl⟩ := List.mem_map.mp hk'
    exact h.lt _ (List.mem_map.mpr ⟨p, hm p hp, rfl⟩), fun p hp => h.val p (hm p hp)⟩
theorem inv_step (h : LInv st xs) (hk : k < 7) : LInv (stepS kd pl kind st k (.int i t)) (valS kind st xs k kz (.int i t)) := by
  unfold stepS valS
  by_cases h4 : kind < 4
  · rw [if_pos h4, if_pos (.inl h4)]
    exact h.put hk fun p hp => mem_setS hp
  · rw [if_neg h4]
    by_cases h6 : kind < 6
    · rw [if_pos h6, if_neg (by omega)]
      exact h.sub fun p hp => mem_got hp
    · rw [if_neg h6]
      by_cases h7 : kind = 6
      · rw [if_pos h7]
        unfold sdS
        by_cases hm : k ∈ st.map (·.1)
        · rw [if_neg (by rintro (a | ⟨_, b⟩); (· exact h4 a); (· exact b hm))]
          obtain ⟨u, hu⟩ := Option.isSome_iff_exists.mp (vAt_isSome.mpr hm)
          rw [hu]
          exact h.sub fun p hp => mem_touch hu hp
        · rw [if_pos (.inr ⟨h7, hm⟩), vAt_eq_none.mpr hm]
          exact h.put hk fun p hp => mem_setS hp
      · rw [if_neg h7, if_neg (by rintro (a | ⟨b, _⟩); (· exact h4 a); (· exact h7 b))]
        exact h.sub fun p hp => (mem_drop hp).1
theorem keys_drop' : (dropS st k).map (·.1) = notK (st.map (·.1)) k := keys_drop
theorem notK_none (h : k ∉ st.map (·.1)) : notK (st.map (·.1)) k = st.map (·.1) := by
  unfold notK
  rw [List.filter_eq_self]
  intro x hx
  have : x ≠ k := fun e => h (e ▸ hx)
  simp [this]
theorem lastN_short {α : Type} {n : Nat} {l : List α} (h : l.length ≤ n) : lastN n l = l := by
  unfold lastN
  rw [Nat.sub_eq_zero_of_le h, List.drop_zero]
theorem touched (nd : (st.map (·.1)).Nodup) (hl : st.length ≤ pl) (hm : k ∈ st.map (·.1)) : (dropS st k ++ [(k, v)]).map (·.1) = lastN pl (notK (st.map (·.1)) k ++ [k]) := by
  have e : (dropS st k ++ [(k, v)]).map (·.1) = notK (st.map (·.1)) k ++ [k] := by rw [List.map_append, keys_drop']; rfl
  rw [← e, lastN_short]
  have := len_drop nd hm
  rw [List.length_map, List.length_append, List.length_singleton]; omega
theorem keys_set (nd : (st.map (·.1)).Nodup) (hl : st.length ≤ pl) (h0 : 0 < pl) : (setS pl st k v).map (·.1) = lastN pl (notK (st.map (·.1)) k ++ [k]) := by
  unfold setS
  by_cases hm : k ∈ st.map (·.1)
  · rw [if_pos (vAt_isSome.mpr hm)]
    exact touched nd hl hm
  · rw [if_neg (fun h => hm (vAt_isSome.mp h)), notK_none hm, List.map_append]
    unfold roomS lastN
    split
    · rename_i hlt
      rw [List.length_append, List.length_map, List.length_singleton, show st.length + 1 - pl = 0 by omega, List.drop_zero]; rfl
    · rename_i hge
      have e : st.length = pl := by omega
      rw [List.length_append, List.length_map, List.length_singleton, e, show pl + 1 - pl = 1 by omega, List.drop_append_of_le_length (by rw [List.length_map]; omega), List.map_tail]
      simp
theorem keys_step (nd : (st.map (·.1)).Nodup) (hl : st.length ≤ pl) (h0 : 0 < pl) (h4 : w4 < 4) (h8 : kind < 8) : (stepS (kdOf w4) pl kind st k v).map (·.1) = ordS pl w4 kind (st.map (·.1)) k := by
  have hto : ∀ u, vAt st k = some u → (touchS (kdOf w4) st k u).map (·.1) = if 0 < w4 then lastN pl (notK (st.map (·.1)) k ++ [k]) else st.map (·.1) := by
    intro u hu
    have hm : k ∈ st.map (·.1) := vAt_isSome.mp (by rw [hu]; rfl)
    rcases (by omega : w4 = 0 ∨ w4 = 1 ∨ w4 = 2 ∨ w4 = 3) with rfl | rfl | rfl | rfl
    · rfl
    · exact touched nd hl hm
    · exact touched nd hl hm
    · exact touched nd hl hm
  unfold stepS ordS
  by_cases c4 : kind < 4
  · rw [if_pos c4, if_pos (.inl c4)]
    exact keys_set nd hl h0
  · rw [if_neg c4]
    by_cases hm : k ∈ st.map (·.1)
    · obtain ⟨u, hu⟩ := Option.isSome_iff_exists.mp (vAt_isSome.mpr hm)
      by_cases c6 : kind < 6
      · rw [if_pos c6]
        unfold gotS
        rw [hu]
        show (touchS (kdOf w4) st k u).map (·.1) = _
        rw [hto u hu]
        by_cases hw : 0 < w4
        · rw [if_pos hw, if_pos (.inr (.inl ⟨hm, by omega, hw⟩))]
        · rw [if_neg hw, if_neg (by rintro (a | ⟨_, _, b⟩ | ⟨b, _⟩); (· exact c4 a); (· exact hw b); (· exact b hm)), if_neg (by omega)]
      · rw [if_neg c6]
        by_cases c7 : kind = 6
        · rw [if_pos c7]
          unfold sdS
          rw [hu]
          show (touchS (kdOf w4) st k u).map (·.1) = _
          rw [hto u hu]
          by_cases hw : 0 < w4
          · rw [if_pos hw, if_pos (.inr (.inl ⟨hm, by omega, hw⟩))]
          · rw [if_neg hw, if_neg (by rintro (a | ⟨_, _, b⟩ | ⟨b, _⟩); (· exact c4 a); (· exact hw b); (· exact b hm)), if_neg (by omega)]
        · rw [if_neg c7, if_neg (by rintro (a | ⟨_, b, _⟩ | ⟨_, b⟩); (· exact c4 a); (· omega); (· exact c7 b)), if_pos (by omega)]
          exact keys_drop'
    · have hu := vAt_eq_none.mpr hm
      by_cases c6 : kind < 6
      · rw [if_pos c6, if_neg (by rintro (a | ⟨b, _⟩ | ⟨_, b⟩); (· exact c4 a); (· exact hm b); (· omega)), if_neg (by omega)]
        unfold gotS
        rw [hu]
      · rw [if_neg c6]
        by_cases c7 : kind = 6
        · rw [if_pos c7, if_pos (.inr (.inr ⟨hm, c7⟩))]
          unfold sdS
          rw [hu]
          exact keys_set nd hl h0
        · rw [if_neg c7, if_neg (by rintro (a | ⟨_, b, _⟩ | ⟨_, b⟩); (· exact c4 a); (· omega); (· exact c7 b)), if_pos (by omega)]
          exact keys_drop'
end

end
-- CU1
section
set_option maxRecDepth 100000
section
variable {prog : Program} {w : World} {A : Around} {E : Value → Shared → Prop} {B : Shared} {fs : List Env} {l l' : Cells} {s : Shared} {a I C D : Addr} {vs ys : List Value} {v : Value} {i : Nat}
/-- a list comprehension over a list that hands its list on -/
theorem compListU {R : Result → Shared → Prop} {env : Env} {elt iter : Expr} {x : Str} {px : Pos} {ifs : List Expr} {scope : Scope} {pos : Pos} {cl : List (Str × Addr)} {rest₀ : Cells} (P : Nat → List Value → Cells → Prop)
    (hx : scope.names.lookup x = some .local) (hd : (x == ("__debug__" : Str)) = false) (hh : A.handled = none)
    (S : St B fs ((I, litC a 0) :: (C, nsC (relabel scope env) []) :: (D, listC []) :: rest₀) s) (h0 : P 0 [] rest₀) (ha : ∀ i ys rest, P i ys rest → (a, listC vs) ∈ rest ∧ ys.length ≤ sizeLine)
    (step : ∀ i v ys rest s, vs[i]? = some v → P i ys rest → St B fs ((I, litC a (i + 1)) :: (C, nsC (relabel scope env) [(x, v)]) :: (D, listC ys) :: rest) s →
      wpAny (model prog w) A (forIn ifs true fun c r => if r = true then do let ok ← isTrue c (compEnvC scope cl C env) (eval c (compEnvC scope cl C env)); pure (ForInStep.yield ok) else pure (ForInStep.yield r)) (fun ok s₃ =>
        if ok = true then wpAny (model prog w) A (eval elt (compEnvC scope cl C env)) (fun y s₄ => ∃ rest', P (i + 1) (ys ++ [y]) rest' ∧ St B fs ((I, litC a (i + 1)) :: (C, nsC (relabel scope env) [(x, v)]) :: (D, listC ys) :: rest') s₄) (fun _ _ => False) s₃
        else ∃ rest', P (i + 1) ys rest' ∧ St B fs ((I, litC a (i + 1)) :: (C, nsC (relabel scope env) [(x, v)]) :: (D, listC ys) :: rest') s₃) (fun _ _ => False) s)
    (fin : ∀ ys rest zs s, P vs.length ys rest → St B fs ((C, nsC (relabel scope env) zs) :: (D, listC ys) :: rest) s → R (.ok .next) s) :
    codeAny (model prog w) A (.compLoop (.ListComp elt [⟨.Name x px, iter, ifs, 0⟩] scope pos) 0 (.ref I) (.ref D) (compEnvC scope cl C env)) R s := by
  refine codeAny_compLoop_tests (fun n s => ∃ i ys rest zs, i ≤ vs.length ∧ n = vs.length - i ∧ (zs = [] ∨ ∃ v, zs = [(x, v)]) ∧ P i ys rest ∧ St B fs ((I, litC a i) :: (C, nsC (relabel scope env) zs) :: (D, listC ys) :: rest) s) ?_ _ ⟨0, [], rest₀, [], Nat.zero_le _, rfl, .inl rfl, h0, S⟩
  rintro n s ⟨i, ys, rest, zs, hi, rfl, hz, hP, S⟩
  obtain ⟨hm, hsz⟩ := ha i ys rest hP
  by_cases hlt : i < vs.length
  · refine nextL (v := vs[i]) S Upd.here (List.mem_cons_of_mem _ (List.mem_cons_of_mem _ (List.mem_cons_of_mem _ hm))) (List.getElem?_eq_getElem hlt) fun s' S' => ?_
    have go : ∀ s', St B fs ((I, litC a (i + 1)) :: (C, nsC (relabel scope env) [(x, vs[i])]) :: (D, listC ys) :: rest) s' →
        wpAny (model prog w) A (forIn ifs true fun c r => if r = true then do let ok ← isTrue c (compEnvC scope cl C env) (eval c (compEnvC scope cl C env)); pure (ForInStep.yield ok) else pure (ForInStep.yield r)) (fun ok s₃ =>
            if ok = true then wpAny (model prog w) A (eval elt (compEnvC scope cl C env)) (fun x_1 s₄ =>
              wpAny (model prog w) A (call (.builtin "list.append") [.ref D, x_1]) (fun _ s₅ => ∃ m, m < vs.length - i ∧ ∃ i ys rest zs, i ≤ vs.length ∧ m = vs.length - i ∧ (zs = [] ∨ ∃ v, zs = [(x, v)]) ∧ P i ys rest ∧ St B fs ((I, litC a i) :: (C, nsC (relabel scope env) zs) :: (D, listC ys) :: rest) s₅) (notedBy (model prog w) A (compEnvC scope cl C env) fun e s' => R (.error e) s') s₄) (notedBy (model prog w) A (compEnvC scope cl C env) fun e s' => R (.error e) s') s₃
            else ∃ m, m < vs.length - i ∧ ∃ i ys rest zs, i ≤ vs.length ∧ m = vs.length - i ∧ (zs = [] ∨ ∃ v, zs = [(x, v)]) ∧ P i ys rest ∧ St B fs ((I, litC a i) :: (C, nsC (relabel scope env) zs) :: (D, listC ys) :: rest) s₃) (notedBy (model prog w) A (compEnvC scope cl C env) fun e s' => R (.error e) s') s' := by
      intro s' S'
      refine wpAny_mono (step i vs[i] ys rest s' (List.getElem?_eq_getElem hlt) hP S') (fun ok s₃ h₃ => ?_) fun _ _ z => z.elim
      cases ok with
      | true =>
        rw [if_pos rfl] at h₃ ⊢
        refine wpAny_mono h₃ (fun y s₄ h₄ => ?_) fun _ _ z => z.elim
        obtain ⟨rest', hP', S₄⟩ := h₄
        exact appendL S₄ (Upd.there (Upd.there Upd.here)) hsz fun s₅ S₅ => ⟨vs.length - (i + 1), by omega, i + 1, ys ++ [y], rest', _, hlt, rfl, .inr ⟨_, rfl⟩, hP', S₅⟩
      | false =>
        rw [if_neg Bool.false_ne_true] at h₃ ⊢
        obtain ⟨rest', hP', S₄⟩ := h₃
        exact ⟨vs.length - (i + 1), by omega, i + 1, ys, rest', _, hlt, rfl, .inr ⟨_, rfl⟩, hP', S₄⟩
    rcases hz with rfl | ⟨u, rfl⟩
    · exact wpAny_assign_Name (stXnew S' (Upd.there Upd.here) (by simp) hx hd go)
    · exact wpAny_assign_Name (stX S' (Upd.there Upd.here) Upd.here go)
  · obtain rfl : i = vs.length := by omega
    refine endL hh S (List.mem_cons_of_mem _ (List.mem_cons_of_mem _ hm)) (Nat.le_refl _) fun s' S' => ?_
    exact fin ys rest zs s' hP S'
def CompU (prog : Program) (w : World) (A : Around) (E : Value → Shared → Prop) (B : Shared) (fs : List Env) (sc : Scope) (env : Env) (y : Str) (C D : Addr) (Q : Flow → Shared → Prop) (r : Result) (s' : Shared) : Prop :=
  r = .ok .next ∧ wpAny (model prog w) A (storeName env y (.ref D)) (fun _ s'' => ∃ l' xs, St B fs ((C, nsC sc xs) :: l') s'' ∧ ∀ s''', St B fs l' s''' → Q .next s''') E s'
/-- x = [.. for .. in ..]: the list is handed to the name before the names of the comprehension go -/
theorem compU {y : Str} {py spos : Pos} {env : Env} {elt target iter : Expr} {ifs : List Expr} {scope : Scope} {pos : Pos} {cl : List (Str × Addr)} {Q : Flow → Shared → Prop}
    (hsw : swapsWith (.ListComp elt [⟨target, iter, ifs, 0⟩] scope pos) (some (.Name y py)) spos.line env = pure true) (hclos : closureFor scope env = pure cl) (hkind : scope.kind = .function) (hcell : ∀ y ∈ scope.names, y.2 ≠ .cell) (hnames : ∀ y ∈ scope.names, y.2 = .local → scope.names.lookup y.1 = some .local)
    (h : wpAny (model prog w) A (eval iter env) (fun xv s₁ => wpAny (model prog w) A (pyIter xv) (fun it s₂ => ∃ l, St B fs l s₂ ∧
      ∀ C D s₃, St B fs ((C, nsC (relabel scope env) []) :: (D, listC []) :: l) s₃ → (∀ P E', P it s₃ → wpAny (model prog w) A (pyIter it) P E' s₃) ∧
        codeAny (model prog w) A (.compLoop (.ListComp elt [⟨target, iter, ifs, 0⟩] scope pos) 0 it (.ref D) (compEnvC scope cl C env)) (CompU prog w A E B fs (relabel scope env) env y C D Q) s₃) E s₁) E s)
    (hs : ∀ x, foldedSetIterable iter env x = pure x := by intro _; rfl) :
    wpAny (model prog w) A (exec (.Assign [.Name y py] (.ListComp elt [⟨target, iter, ifs, 0⟩] scope pos) spos) env) Q E s := by
  rw [exec_Assign_Name_used _ _ _ _ hsw]
  refine wpAny_bind (wpAny_standAt (wpAny_bind ?_))
  show wpAny _ A (do let _ ← comprehension (.ListComp elt [⟨target, iter, ifs, 0⟩] scope pos) scope env _ (newList []) false (eval iter env) (some (assign (.Name y py) env))) _ _ s
  refine wpAny_bind (wpAny_mono (wpAny_comprehension_free (use := some (assign (.Name y py) env)) (Q := fun _ s' => Q .next s') rfl hs hclos hkind hnames
    (wpAny_mono h (fun xv s₁ h₁ => wpAny_mono h₁ (fun it s₂ h₂ => ?_) fun _ _ e => e) fun _ _ e => e)) (fun _ s' hq => wpAny_pure (wpAny_pure hq)) fun _ _ e => e)
  obtain ⟨l, S, hl⟩ := h₂
  refine wpAny_newObj_type (wpAny_newFunctionEnv hcell (by intro y hy; simp at hy) (fun h₁ hns hsb => ?_) hkind)
  have S1 := S.push (o := { cls := .type "list", data := .seq ([] : List Value).toArray }) (c := listC []) ⟨rfl, rfl, ⟨0, rfl⟩, rfl⟩ s₂.toks
  have hk : ∀ b o, (s₂.heap.push { cls := .type "list", data := .seq ([] : List Value).toArray }).get? b = some o → h₁.get? b = some o := fun b o e => hsb.extBut b o (Nat.ne_of_lt (Heap.lt_size e)) (Heap.get?_push_of_some _ e)
  obtain ⟨oL, es, ep, hL, d1, d2, d3⟩ := hns
  have S2 := S1.grow (a := (s₂.heap.push { cls := .type "list", data := .seq ([] : List Value).toArray }).objs.size) (o := oL) (c := nsC (relabel scope env) []) (s₂.toks + 0) hk (Heap.get?_none_of_le (Nat.le_refl _)) S1.none_at S1.size hL
    ⟨⟨es, ep, d1, d2, fun y => d3 y⟩, List.nodup_nil, hkind, fun p hp => nomatch hp⟩
  have hCf : (s₂.heap.push { cls := .type "list", data := .seq ([] : List Value).toArray }).objs.size ∉ fs.filterMap (·.frame) := fun hm => by
    obtain ⟨_, o, ho, _⟩ := S1.frames.mem hm
    exact absurd (Heap.lt_size ho) (Nat.lt_irrefl _)
  obtain ⟨h1, h2⟩ := hl _ _ _ S2
  have fin : ∀ r s', CompU prog w A E B fs (relabel scope env) env y (s₂.heap.push { cls := .type "list", data := .seq ([] : List Value).toArray }).objs.size s₂.heap.objs.size Q r s' →
      compPost (model prog w) A E (some (assign (.Name y py) env)) (fun _ s' => Q .next s') (.ref s₂.heap.objs.size) (s₂.heap.push { cls := .type "list", data := .seq ([] : List Value).toArray }).objs.size r s' := by
    rintro r s' ⟨rfl, hu⟩
    show wpAny _ A (assign (.Name y py) env (.ref _)) _ _ _
    refine wpAny_assign_Name (wpAny_mono hu (fun _ s'' hu' => ?_) fun _ _ z => z)
    obtain ⟨l', xs, S', hq⟩ := hu'
    exact ⟨_, (S'.ns List.mem_cons_self).1, fun h' hs' => hq _ (S'.but hCf s''.toks hs'.extBut)⟩
  exact codeAny_compStart_list (codeAny_mono h2 fin) (h1 _ _ (codeAny_mono h2 fin))
end

end
-- L5
section
set_option maxRecDepth 100000
set_option maxHeartbeats 800000
theorem any_nat (l : List Nat) (i : Nat) : ((l.map fun (j : Nat) => (j : Int)).any fun x => x == (i : Int)) = decide (i ∈ l) := by
  rw [Bool.eq_iff_iff, List.any_eq_true]
  simp only [List.mem_map, beq_iff_eq, decide_eq_true_eq]
  constructor
  · rintro ⟨y, ⟨j, hj, rfl⟩, e⟩
    have : j = i := by omega
    exact this ▸ hj
  · intro h; exact ⟨_, ⟨i, h, rfl⟩, rfl⟩
theorem range_drop {α : Type} (l : List α) : ∀ (m a : Nat), a + m = l.length → ((List.range m).map (a + ·)).filterMap (l[·]?) = l.drop a
  | 0, a, h => by
    rw [List.drop_eq_nil_of_le (by omega)]; rfl
  | m + 1, a, h => by
    have hlt : a < l.length := by omega
    have ih := range_drop l m (a + 1) (by omega)
    have e : (List.range (m + 1)).map (a + ·) = a :: (List.range m).map (a + 1 + ·) := by
      rw [List.range_succ_eq_map, List.map_cons, List.map_map]
      congr 1
      apply List.map_congr_left
      intro x _
      show a + (x + 1) = a + 1 + x
      omega
    rw [e, List.filterMap_cons, List.getElem?_eq_getElem hlt, ih]
    exact (List.drop_eq_getElem_cons hlt).symm
theorem bounds_last (pl n : Nat) (h0 : 0 < pl) : sliceBounds (some (-(pl : Int))) none none n = (((n - pl : Nat) : Int), (n : Int), 1) := by
  have hn : -(pl : Int) < 0 := by omega
  have e : max (0 : Int) (min (-(pl : Int) + n) (n : Int)) = ((n - pl : Nat) : Int) := by omega
  unfold sliceBounds
  simp only [Option.getD_none]
  rw [if_pos hn, if_pos (show (1 : Int) > 0 by decide), if_pos (show (1 : Int) > 0 by decide), e]
theorem pick_lastI (pl : Nat) (ns : List Int) (h0 : 0 < pl) : pickNums ns (some (-(pl : Int))) none none = lastN pl ns := by
  unfold pickNums lastN
  rw [bounds_last pl ns.length h0]
  show (sliceRange ((ns.length - pl : Nat) : Int) (ns.length : Int) 1).filterMap (ns[·]?) = _
  rw [sliceRange_one]
  exact range_drop ns _ _ (by omega)
theorem last_map (pl : Nat) (ks : List Nat) : intsN (lastN pl ks) = lastN pl (intsN ks) := by
  unfold lastN intsN
  rw [List.length_map, List.map_drop]
theorem pick_last (pl : Nat) (ks : List Nat) (h0 : 0 < pl) : pickNums (intsN ks) (some (-(pl : Int))) none none = intsN (lastN pl ks) := by
  rw [pick_lastI pl _ h0, last_map]
theorem pickV (pl : Nat) (vs : List Value) (h0 : 0 < pl) : (slicePick vs.toArray (some (-(pl : Int))) none none).toList = lastN pl vs := by
  have e : (slicePick vs.toArray (some (-(pl : Int))) none none).toList = (sliceRange (sliceBounds (some (-(pl : Int))) none none vs.length).1 (sliceBounds (some (-(pl : Int))) none none vs.length).2.1 (sliceBounds (some (-(pl : Int))) none none vs.length).2.2).filterMap (vs[·]?) := by
    simp [slicePick]
  rw [e, bounds_last pl vs.length h0]
  show (sliceRange ((vs.length - pl : Nat) : Int) (vs.length : Int) 1).filterMap (vs[·]?) = _
  rw [sliceRange_one]
  exact range_drop vs _ _ (by omega)
theorem notK_app {a b : List Nat} {k : Nat} : notK (a ++ b) k = notK a k ++ notK b k := List.filter_append ..
section
variable {w : World} {A : Around} {E : Value → Shared → Prop} {B : Shared} {fs : List Env} {l l' c : Cells} {s : Shared} {L fa a : Addr} {cd : Value} {n pl cnt : Nat} {vs : List Value} {ks : List Nat}
theorem intKey {f : Nat → Key} {hf : ∀ x y, f x = f y → x = y} {h : Heap} {k : Nat} {t : Tok} (hs : SmallInts f) (hk : k < 7) : (kndOf w f hf).is h k (.int (k : Nat) t) := by
  show keyIs pw w h (f k) _
  rw [hs k hk]
  show Value.isInt (k : Int) (.int (k : Int) t) = true
  simp [Value.isInt]
/-- a slice of a list that nothing else holds -/
theorem sliceT {env : Env} {value : Expr} {lower upper : Option Expr} {p pos : Pos} {Q : Value → Shared → Prop}
    (h : wpAny (model pw w) A (eval value env) (fun o s₁ => wpAny (model pw w) A (evalPart lower env) (fun vl s₂ => wpAny (model pw w) A (evalPart upper env) (fun vu s₃ =>
      ∃ l items lo hi L, o = .ref l ∧ St B fs L s₃ ∧ s₃.heap.IsList l items ∧ items.size ≤ sizeLine ∧ IsPart vl lo ∧ IsPart vu hi ∧ ∀ D s', St B fs ((D, listC (slicePick items lo hi none).toList) :: L) s' → Q (.ref D) s') E s₂) E s₁) E s) :
    wpAny (model pw w) A (eval (.Subscript value (.Slice lower upper none p) pos) env) Q E s := by
  refine Subscript_ (wpAny_mono h (fun o s₁ h₁ => wpAny_Slice (wpAny_mono h₁ (fun vl s₂ h₂ => wpAny_mono h₂ (fun vu s₃ h₃ => ?_) fun _ _ e => e) fun _ _ e => e)) fun _ _ e => e)
  obtain ⟨l, items, lo, hi, L, rfl, S, hl, hsz, pl, pu, hQ⟩ := h₃
  rw [evalPart_none]
  refine wpAny_pure (tail_any (hl.push _).typeIs slot_list_getitem.lookup (wpAny_getItem_list_slice (hl.push _) (Heap.IsSliceOf.new ..) pl pu .none (by simp) ?_ hsz) (by with_unfolding_all rfl))
  have S1 := S.keeps (h' := s₃.heap.push { cls := .type "slice", data := .fields #[vl, vu, .none] }) s₃.toks (fun _ _ e => Heap.get?_push_of_some _ e)
  have S2 := S1.push (o := { cls := .type "list", data := .seq (slicePick items lo hi none) }) (c := listC (slicePick items lo hi none).toList) ⟨rfl, rfl, ⟨0, by simp⟩, rfl⟩ s₃.toks
  exact hQ _ _ S2
theorem notInOwn {x C d f : Addr} {xs : Names} {key : Value} {Q : Value → Shared → Prop} (T : Stat (KK w) B.heap) (S : St B fs l s) (mi : (x, instC C d) ∈ l) (md : (d, idC xs) ∈ l) (hs : specFn (KK w) C (Str.ofString "__contains__") f = true)
    (h : wpAny (model pw w) A (call (.ref f) [.ref x, key]) (fun r s' => wpAny (model pw w) A (truthy r) (fun b => Q (.bool (!b))) E s') E s) : wpAny (model pw w) A (compareOp .NotIn key (.ref x)) Q E s := by
  obtain ⟨ox, od, I, _, hid, _⟩ := S.inst mi md
  have X := (S.stat T).X
  unfold specFn at hs
  simp only [Bool.and_eq_true, beq_iff_eq] at hs
  refine wpAny_bind ?_
  unfold contains
  refine wpAny_holding (wpAny_bind (wpAny_bind (I.type.here ((looks_findIn X hs.1).here ?_))))
  rw [if_neg (by simp)]
  exact wpAny_bind (unlessNone_K X I hs.1 hs.2 (wpAny_mono h (fun _ _ z => wpAny_mono z (fun _ _ z => wpAny_pure z) fun _ _ z => z) fun _ _ z => z))
theorem cacheNotIn {K : Type} [DecidableEq K] {knd : AnyKind pw w K} {kd : Kind} {x : Addr} {st : List (K × Value)} {k : K} {key : Value} {Q : Value → Shared → Prop} (C : Cach w B knd kd x pl cnt st c) (T : Stat (KK w) B.heap) (r : Room (n + 20) fs A) (S₀ : St B fs (c ++ l) s) (hk : knd.is B.heap k key)
    (h : ∀ s' c', Cach w B knd kd x pl cnt st c' → St B fs (c' ++ l) s' → Q (.bool (!(vAt st k).isSome)) s') : wpAny (model pw w) A (compareOp .NotIn key (.ref x)) Q E s := by
  obtain ⟨dx, ns, mi, md⟩ := C.inst
  refine notInOwn T S₀ (List.mem_append_left _ mi) (List.mem_append_left _ md) spIn (wpAny_call (opIn (n := n) C T r S₀ hk fun s' c' C' S' => ?_))
  exact wpAny_truthy_bool (h s' c' C' S')
abbrev ncSc : Scope := { kind := .function, names := [(Str.ofString ".0", .local), (Str.ofString "one", .local), (Str.ofString "key", .free)], isGenerator := false, isCoroutine := false, more := [] }
/-- [one for one in order if one != key] -/
theorem compNot {k : Nat} {t : Tok} {p1 p2 p3 p4 p5 p6 pos : Pos}  {o0 : Option Value} {m : Names} {Q : Value → Shared → Prop} (hh : A.handled = none) (hv : IntsAre vs (intsN ks)) (hlen : ks.length ≤ 1000) (hm : (Str.ofString "order", Value.ref a) ∈ m)
    (S₀ : St B fs ((a, listC vs) :: frn L o0 (some (.int (k : Nat) t)) m l) s)
    (h : ∀ D ys s', IntsAre ys (intsN (notK ks k)) → St B fs ((D, listC ys) :: (a, listC vs) :: frn L o0 (some (.int (k : Nat) t)) m l) s' → Q (.ref D) s') :
    wpAny (model pw w) A (eval (.ListComp (.Name (Str.ofString "one") p1) [⟨.Name (Str.ofString "one") p2, .Name (Str.ofString "order") p3, [.Compare (.Name (Str.ofString "one") p4) [.NotEq] [.Name (Str.ofString "key") p5] p6], 0⟩] ncSc pos) (lenv L fa cd)) Q NoE s := by
  refine compS (B := B) (fs := fs) (cl := [(Str.ofString "key", L + 1 + 1)]) (by kernel_rfl) rfl (by decide +kernel) (by decide +kernel) ?_
  refine ldA S₀ (by walk_at "m_mem") hm ?_
  refine iterL (a := a) S₀ (by walk_at "m_mem") fun it s' S' => ?_
  refine ⟨_, S', fun C D s₃ S₃ => ⟨fun P E' hp => iterIt S₃ (by walk_at "m_mem") hp, ?_⟩⟩
  have hvl := hv.length
  rw [List.length_map] at hvl
  refine compList (a := a) (vs := vs) (rest₀ := (a, listC vs) :: frn L o0 (some (.int (k : Nat) t)) m l) (fun i ys rest => rest = (a, listC vs) :: frn L o0 (some (.int (k : Nat) t)) m l ∧ i ≤ vs.length ∧ ys.length ≤ i ∧ IntsAre ys (intsN (notK (ks.take i) k)))
    (by kernel_rfl) (by decide +kernel) hh (S₃.perm (by walk_at "m_pm")) ⟨rfl, Nat.zero_le _, Nat.le_refl _, .nil⟩ ?_ ?_ ?_
  · rintro i ys rest ⟨rfl, h5, hyl, hy⟩
    exact ⟨by walk_at "m_mem", by rw [sizeLine_eq]; omega⟩
  · rintro i v ys rest s hv' ⟨rfl, h5, hyl, hy⟩ S
    have hi : i < vs.length := (List.getElem?_eq_some_iff.mp hv').1
    obtain ⟨ta, hta⟩ := intsAt hv i (by rw [List.length_map]; omega)
    rw [hv'] at hta
    cases hta
    have hgd : (intsN ks).getD i 0 = ((ks.getD i 0 : Nat) : Int) := by
      rw [List.getD_eq_getElem?_getD, List.getD_eq_getElem?_getD, List.getElem?_map, List.getElem?_eq_getElem (by omega)]; rfl
    have hk0 : ks[i]? = some (ks.getD i 0) := by
      rw [List.getD_eq_getElem?_getD, List.getElem?_eq_getElem (by omega)]; rfl
    rw [hgd] at S ⊢
    generalize ks.getD i 0 = k0 at S hk0 ⊢
    have ht : ks.take (i + 1) = ks.take i ++ [k0] := by rw [List.take_add_one, hk0]; rfl
    refine wpAny_tests_one ?_
    walk_at "m_wk"
    by_cases e : k0 = k
    · refine iteF (by simp [e]) ⟨_, ⟨rfl, hi, by omega, ?_⟩, by assumption⟩
      rw [ht, notK_app, show notK [k0] k = [] by simp [notK, e], List.append_nil]
      exact hy
    · refine iteT (by simp; omega) ?_
      walk_at "m_wk"
      refine ⟨_, ⟨rfl, hi, by rw [List.length_append]; exact Nat.succ_le_succ hyl, ?_⟩, by assumption⟩
      rw [ht, notK_app, show notK [k0] k = [k0] by simp [notK, e]]
      unfold intsN
      rw [List.map_append]
      exact hy.append (.cons _ _ .nil)
  · rintro ys rest s ⟨rfl, h5, hyl, hy⟩ S
    rw [hvl, List.take_length] at hy
    exact h D ys s hy S
/-- order = [one for one in order if one != key] -/
theorem compNotU {k : Nat} {t : Tok} {p1 p2 p3 p4 p5 p6 pos py spos : Pos} {m' : Addr → Names}  {o0 : Option Value} {m : Names} {Q : Flow → Shared → Prop} (hh : A.handled = none) (hv : IntsAre vs (intsN ks)) (hlen : ks.length ≤ 1000) (hm : (Str.ofString "order", Value.ref a) ∈ m)
    (S₀ : St B fs ((a, listC vs) :: frn L o0 (some (.int (k : Nat) t)) m l) s)
    (hm' : ∀ D, ∀ p ∈ m' D, p = (Str.ofString "order", .ref D) ∨ (p ∈ m ∧ p.1 ≠ Str.ofString "order")) (hsw : swapsWith (.ListComp (.Name (Str.ofString "one") p1) [⟨.Name (Str.ofString "one") p2, .Name (Str.ofString "order") p3, [.Compare (.Name (Str.ofString "one") p4) [.NotEq] [.Name (Str.ofString "key") p5] p6], 0⟩] ncSc pos) (some (.Name (Str.ofString "order") py)) spos.line (lenv L fa cd) = pure true)
    (h : ∀ D ys s', IntsAre ys (intsN (notK ks k)) → St B fs ((D, listC ys) :: (a, listC vs) :: frn L o0 (some (.int (k : Nat) t)) (m' D) l) s' → Q .next s') :
    wpAny (model pw w) A (exec (.Assign [.Name (Str.ofString "order") py] (.ListComp (.Name (Str.ofString "one") p1) [⟨.Name (Str.ofString "one") p2, .Name (Str.ofString "order") p3, [.Compare (.Name (Str.ofString "one") p4) [.NotEq] [.Name (Str.ofString "key") p5] p6], 0⟩] ncSc pos) spos) (lenv L fa cd)) Q NoE s := by
  refine compU (B := B) (fs := fs) (cl := [(Str.ofString "key", L + 1 + 1)]) hsw (by kernel_rfl) rfl (by decide +kernel) (by decide +kernel) ?_
  refine ldA S₀ (by walk_at "m_mem") hm ?_
  refine iterL (a := a) S₀ (by walk_at "m_mem") fun it s' S' => ?_
  refine ⟨_, S', fun C D s₃ S₃ => ⟨fun P E' hp => iterIt S₃ (by walk_at "m_mem") hp, ?_⟩⟩
  have hvl := hv.length
  rw [List.length_map] at hvl
  refine compListU (a := a) (vs := vs) (rest₀ := (a, listC vs) :: frn L o0 (some (.int (k : Nat) t)) m l) (fun i ys rest => rest = (a, listC vs) :: frn L o0 (some (.int (k : Nat) t)) m l ∧ i ≤ vs.length ∧ ys.length ≤ i ∧ IntsAre ys (intsN (notK (ks.take i) k)))
    (by kernel_rfl) (by decide +kernel) hh (S₃.perm (by walk_at "m_pm")) ⟨rfl, Nat.zero_le _, Nat.le_refl _, .nil⟩ ?_ ?_ ?_
  · rintro i ys rest ⟨rfl, h5, hyl, hy⟩
    exact ⟨by walk_at "m_mem", by rw [sizeLine_eq]; omega⟩
  · rintro i v ys rest s hv' ⟨rfl, h5, hyl, hy⟩ S
    have hi : i < vs.length := (List.getElem?_eq_some_iff.mp hv').1
    obtain ⟨ta, hta⟩ := intsAt hv i (by rw [List.length_map]; omega)
    rw [hv'] at hta
    cases hta
    have hgd : (intsN ks).getD i 0 = ((ks.getD i 0 : Nat) : Int) := by
      rw [List.getD_eq_getElem?_getD, List.getD_eq_getElem?_getD, List.getElem?_map, List.getElem?_eq_getElem (by omega)]; rfl
    have hk0 : ks[i]? = some (ks.getD i 0) := by
      rw [List.getD_eq_getElem?_getD, List.getElem?_eq_getElem (by omega)]; rfl
    rw [hgd] at S ⊢
    generalize ks.getD i 0 = k0 at S hk0 ⊢
    have ht : ks.take (i + 1) = ks.take i ++ [k0] := by rw [List.take_add_one, hk0]; rfl
    refine wpAny_tests_one ?_
    walk_at "m_wk"
    by_cases e : k0 = k
    · refine iteF (by simp [e]) ⟨_, ⟨rfl, hi, by omega, ?_⟩, by assumption⟩
      rw [ht, notK_app, show notK [k0] k = [] by simp [notK, e], List.append_nil]
      exact hy
    · refine iteT (by simp; omega) ?_
      walk_at "m_wk"
      refine ⟨_, ⟨rfl, hi, by rw [List.length_append]; exact Nat.succ_le_succ hyl, ?_⟩, by assumption⟩
      rw [ht, notK_app, show notK [k0] k = [k0] by simp [notK, e]]
      unfold intsN
      rw [List.map_append]
      exact hy.append (.cons _ _ .nil)
  · rintro ys rest zs s ⟨rfl, h5, hyl, hy⟩ S
    rw [hvl, List.take_length] at hy
    refine ⟨rfl, ?_⟩
    refine stG S (by walk_at "m_updt") (m' := m' D) (hm' D) (fun s' S' => ?_) (by kernel_rfl) (by decide +kernel)
    exact ⟨_, zs, S', fun s'' S'' => h D ys s'' hy S''⟩
end

end
-- L6
section
set_option maxRecDepth 100000
set_option maxHeartbeats 800000
def ifBody : Stmt → List Stmt
  | .If _ b _ _ => b
  | _ => []
def ifElse : Stmt → List Stmt
  | .If _ _ o _ => o
  | _ => []
abbrev lp : List Stmt := foBody (lst 6)
abbrev bst (j : Nat) : Stmt := stIn lp j
/-- the law's names in its loop -/
abbrev mB (od vd x nl : Addr) (pl w4 : Nat) (u t : Tok) : Names :=
  [(Str.ofString "order", .ref od), (Str.ofString "values", .ref vd), (Str.ofString "told", .ref x), (Str.ofString "places", .int (pl : Nat) u), (Str.ofString "which", .int (w4 : Nat) t), (Str.ofString "numbers", .ref nl)]
abbrev kI (i : Nat) (t : Tok) : Str × Value := (Str.ofString "k", .int ((1 + 2 * i : Nat) : Int) t)
abbrev kiN (kind : Nat) (t : Tok) : Str × Value := (Str.ofString "kind", .int (kind : Nat) t)
section
variable {w : World} {A : Around} {B : Shared} {fs : List Env} {l l' c c' : Cells} {s : Shared} {L fa od vd x y nl : Addr} {cd : Value} {n pl w4 i kind kq cnt : Nat} {u t tk ti tq : Tok} {nv ov : List Value} {ns : List Int} {ks : List Nat} {f : Nat → Key} {hf : ∀ x y, f x = f y → x = y} {st : List (Nat × Value)} {xs : List (Nat × Value × Value)} {o0 k0 : Option Value}
/-- kind = numbers[k] % 8 -/
theorem b0 {Q : Flow → Shared → Prop} (hN : IntsAre nv ns) (hi : 1 + 2 * i < ns.length) (h31 : ns.length ≤ 31) (S₀ : St B fs ((nl, listC nv) :: frn L o0 k0 (kI i ti :: mB od vd x nl pl w4 u t) l) s)
    (h : ∀ kind tk s', kind < 8 → St B fs ((nl, listC nv) :: frn L o0 k0 (kiN kind tk :: kI i ti :: mB od vd x nl pl w4 u t) l) s' → Q .next s') :
    wpAny (model pw w) A (exec (bst 0) (lenv L fa cd)) Q NoE s := by
  obtain ⟨t', ht⟩ := intsAt hN (1 + 2 * i) hi
  have h1 : 0 ≤ (ns.getD (1 + 2 * i) 0).fmod 8 := Int.fmod_nonneg_of_pos _ (by decide)
  have h2 : (ns.getD (1 + 2 * i) 0).fmod 8 < 8 := Int.fmod_lt_of_pos _ (by decide)
  refine wpAny_Assign_Name ?_
  walk_at "m_wk"
  refine Subscript_ ?_
  walk_at "m_wk"
  refine subL (a := nl) (vs := nv) (by assumption) (by walk_at "m_mem") (by omega) (by omega) (by rw [Int.toNat_natCast]; exact ht) ?_
  walk_at "m_wk"
  rename_i S'
  have e : (ns.getD (1 + 2 * i) 0).fmod 8 = ((((ns.getD (1 + 2 * i) 0).fmod 8).toNat : Nat) : Int) := by omega
  rw [e] at S'
  exact h ((ns.getD (1 + 2 * i) 0).fmod 8).toNat _ _ (by omega) S'
/-- key = numbers[k + 1] % 7 -/
theorem b1 {Q : Flow → Shared → Prop} (hN : IntsAre nv ns) (hi : 2 + 2 * i < ns.length) (h31 : ns.length ≤ 31) (S₀ : St B fs ((nl, listC nv) :: frn L o0 k0 (kiN kind tk :: kI i ti :: mB od vd x nl pl w4 u t) l) s)
    (h : ∀ kq tq s', kq < 7 → St B fs ((nl, listC nv) :: frn L o0 (some (.int (kq : Nat) tq)) (kiN kind tk :: kI i ti :: mB od vd x nl pl w4 u t) l) s' → Q .next s') :
    wpAny (model pw w) A (exec (bst 1) (lenv L fa cd)) Q NoE s := by
  obtain ⟨t', ht⟩ := intsAt hN (2 + 2 * i) hi
  have h1 : 0 ≤ (ns.getD (2 + 2 * i) 0).fmod 7 := Int.fmod_nonneg_of_pos _ (by decide)
  have h2 : (ns.getD (2 + 2 * i) 0).fmod 7 < 7 := Int.fmod_lt_of_pos _ (by decide)
  refine wpAny_Assign_Name ?_
  walk_at "m_wk"
  refine Subscript_ ?_
  walk_at "m_wk"
  refine subL (a := nl) (vs := nv) (by assumption) (by walk_at "m_mem") (by omega) (by omega) (by rw [show (((1 + 2 * i : Nat) : Int) + 1).toNat = 2 + 2 * i by omega]; exact ht) ?_
  walk_at "m_wk"
  rename_i S'
  have e : (ns.getD (2 + 2 * i) 0).fmod 7 = ((((ns.getD (2 + 2 * i) 0).fmod 7).toNat : Nat) : Int) := by omega
  rw [e] at S'
  exact h ((ns.getD (2 + 2 * i) 0).fmod 7).toNat _ _ (by omega) S'
/-- if kind < 4 or (kind == 6 and key not in told): values[key] = k -/
theorem b2 {kd : Kind} {Q : Flow → Shared → Prop} (T : Stat (KK w) B.heap) (r : Room (n + 26) fs A) (hs : SmallInts f) (h8 : kind < 8) (hk7 : kq < 7) (hxl : xs.length ≤ 1000) (C : Cach w B (kndOf w f hf) kd x pl cnt st c)
    (S₀ : St B fs ((vd, dictC (kndOf w f hf) B xs) :: frn L o0 (some (.int (kq : Nat) tq)) (kiN kind tk :: kI i ti :: mB od vd x nl pl w4 u t) (c ++ l)) s)
    (h : ∀ c' s', Cach w B (kndOf w f hf) kd x pl cnt st c' → St B fs ((vd, dictC (kndOf w f hf) B (valS kind st xs kq (.int (kq : Nat) tq) (.int ((1 + 2 * i : Nat) : Int) ti))) :: frn L o0 (some (.int (kq : Nat) tq)) (kiN kind tk :: kI i ti :: mB od vd x nl pl w4 u t) (c' ++ l)) s' → Q .next s') :
    wpAny (model pw w) A (exec (bst 2) (lenv L fa cd)) Q NoE s := by
  have hkey : (kndOf w f hf).is B.heap kq (.int (kq : Nat) tq) := intKey hs hk7
  have put : ∀ c' s', (kind < 4 ∨ (kind = 6 ∧ kq ∉ st.map (·.1))) → Cach w B (kndOf w f hf) kd x pl cnt st c' → St B fs ((vd, dictC (kndOf w f hf) B xs) :: frn L o0 (some (.int (kq : Nat) tq)) (kiN kind tk :: kI i ti :: mB od vd x nl pl w4 u t) (c' ++ l)) s' →
      wpAny (model pw w) A (execs (ifBody (bst 2)) (lenv L fa cd)) Q NoE s' := by
    intro c' s' hc C' S'
    refine wpAny_execs_cons ?_
    walk_at "m_wk"
    refine putS (by assumption) (by walk_at "m_updt") (by have := r.units; omega) hkey (fun s' S' => ?_) (by rw [sizeLine_eq]; omega)
    walk_at "m_wk"
    refine h c' _ C' ?_
    unfold valS
    rw [if_pos hc]
    assumption
  refine wpAny_If ?_
  walk_at "m_wk"
  by_cases h4 : kind < 4
  · refine iteT (by simp; omega) ?_
    walk_at "m_wk"
    exact put c _ (.inl h4) C (by assumption)
  · refine iteF (by simp; omega) ?_
    walk_at "m_wk"
    by_cases h6 : kind = 6
    · refine iteT (by simp; omega) ?_
      walk_at "m_wk"
      refine cacheNotIn (n := n) C T (r.less (by omega)) (St.perm (l' := c ++ ((vd, dictC (kndOf w f hf) B xs) :: frn L o0 (some (.int (kq : Nat) tq)) (kiN kind tk :: kI i ti :: mB od vd x nl pl w4 u t) l)) (by assumption) (by walk_at "m_pm")) hkey fun s' c1 C1 S1 => ?_
      have S1 := S1.perm (l' := (vd, dictC (kndOf w f hf) B xs) :: frn L o0 (some (.int (kq : Nat) tq)) (kiN kind tk :: kI i ti :: mB od vd x nl pl w4 u t) (c1 ++ l)) (by walk_at "m_pm")
      walk_at "m_wk"
      by_cases hm : kq ∈ st.map (·.1)
      · refine iteF (by rw [vAt_isSome.mpr hm]; rfl) ?_
        walk_at "m_wk"
        walk_at "m_wki"
        refine h c1 _ C1 ?_
        unfold valS
        rw [if_neg (by rintro (a | ⟨_, b⟩); (· exact h4 a); (· exact b hm))]
        assumption
      · refine iteT (by rw [vAt_eq_none.mpr hm]; rfl) ?_
        walk_at "m_wk"
        refine iteT rfl (iteT rfl ?_)
        exact put c1 _ (.inr ⟨h6, hm⟩) C1 S1
    · refine iteF (by simp; omega) ?_
      walk_at "m_wk"
      walk_at "m_wki"
      refine h c _ C ?_
      unfold valS
      rw [if_neg (by rintro (a | ⟨a, _⟩); (· exact h4 a); (· exact h6 a))]
      assumption
end

end
-- L7
section
set_option maxRecDepth 100000
set_option maxHeartbeats 800000
end
local macro_rules | `(tactic| walk_at "m_wkt") => `(tactic| repeat ((with_reducible show ite _ _ _); first | refine iteT rfl ?_ | refine iteF rfl ?_))
section
set_option maxRecDepth 100000
set_option maxHeartbeats 800000
section
variable {w : World} {A : Around} {B : Shared} {fs : List Env} {l l' c c' : Cells} {s : Shared} {L fa od vd x y nl : Addr} {cd : Value} {n pl w4 i kind kq cnt : Nat} {u t tk ti tq : Tok} {nv ov : List Value} {ns : List Int} {ks : List Nat} {f : Nat → Key} {hf : ∀ x y, f x = f y → x = y} {st : List (Nat × Value)} {xs : List (Nat × Value × Value)} {o0 k0 : Option Value}
theorem ordIf {pl w4 kind kq : Nat} {ks : List Nat} (h : kind < 4 ∨ (kq ∈ ks ∧ kind < 7 ∧ 0 < w4) ∨ (kq ∉ ks ∧ kind = 6)) : ordS pl w4 kind ks kq = lastN pl (notK ks kq ++ [kq]) := if_pos h
theorem lastN_len {α : Type} {n : Nat} {l : List α} : (lastN n l).length ≤ n := by unfold lastN; rw [List.length_drop]; omega
theorem ordNames {od' : Addr} : ∀ p ∈ (kiN kind tk :: kI i ti :: mB od' vd x nl pl w4 u t), p = (Str.ofString "order", .ref od') ∨ (p ∈ (kiN kind tk :: kI i ti :: mB od vd x nl pl w4 u t) ∧ p.1 ≠ Str.ofString "order") := by
  intro p hp
  rcases List.mem_cons.mp hp with rfl | hp
  · exact .inr ⟨by walk_at "m_mem", by show Str.ofString "kind" ≠ Str.ofString "order"; decide +kernel⟩
  rcases List.mem_cons.mp hp with rfl | hp
  · exact .inr ⟨by walk_at "m_mem", by show Str.ofString "k" ≠ Str.ofString "order"; decide +kernel⟩
  rcases List.mem_cons.mp hp with rfl | hp
  · exact .inl rfl
  · refine .inr ⟨.tail _ (.tail _ (.tail _ hp)), ?_⟩
    have : p.1 ∈ [Str.ofString "values", Str.ofString "told", Str.ofString "places", Str.ofString "which", Str.ofString "numbers"] := List.mem_map.mpr ⟨p, hp, rfl⟩
    intro e
    rw [e] at this
    revert this
    decide +kernel
/-- order = ([one for one in order if one != key] + [key])[-places:] -/
theorem b3Put {Q : Flow → Shared → Prop} (hh : A.handled = none) (hov : IntsAre ov (intsN ks)) (hol : ks.length ≤ 5) (hpl : 0 < pl) 
    (S₀ : St B fs ((od, listC ov) :: frn L o0 (some (.int (kq : Nat) tq)) (kiN kind tk :: kI i ti :: mB od vd x nl pl w4 u t) l) s)
    (h : ∀ od' ov' s', IntsAre ov' (intsN (lastN pl (notK ks kq ++ [kq]))) → St B fs ((od', listC ov') :: frn L o0 (some (.int (kq : Nat) tq)) (kiN kind tk :: kI i ti :: mB od' vd x nl pl w4 u t) l) s' → Q .next s') :
    wpAny (model pw w) A (execs (ifBody (bst 3)) (lenv L fa cd)) Q NoE s := by
  refine wpAny_execs_cons ?_
  refine wpAny_Assign_Name ?_
  refine sliceT (B := B) (fs := fs) ?_
  refine wpAny_BinOp ?_
  refine compNot (ks := ks) hh hov (by omega) (by walk_at "m_mem") S₀ fun D ys s' hy S' => ?_
  clear S₀
  refine listDisp (B := B) (fs := fs) ?_
  walk_at "m_litc"
  refine args_nil ?_
  refine ⟨by rw [sizeLine_eq]; exact Nat.le_of_ble_eq_true rfl, _, by assumption, fun d s' S' => ?_⟩
  have hlen2 : ys.length ≤ 5 := by
    have h1 := hy.length
    rw [List.length_map] at h1
    have : (notK ks kq).length ≤ ks.length := List.length_filter_le ..
    omega
  refine addLists (a := D) (b := d) (by assumption) (by walk_at "m_mem") (by walk_at "m_mem") (by rw [sizeLine_eq]; simp only [List.length_cons, List.length_nil]; omega) fun e s' S' => ?_
  refine wpAny_evalPart_some ?_
  walk_at "m_wk"
  refine wpAny_evalPart_none ?_
  rename_i s' t' S'
  have hys : IntsAre (ys ++ [.int (kq : Nat) tq]) (intsN (notK ks kq ++ [kq])) := by
    unfold intsN
    rw [List.map_append]
    exact hy.append (.cons _ _ .nil)
  refine ⟨e, _, some (-(pl : Int)), none, _, rfl, S', S'.list (a := e) (by walk_at "m_mem"), by rw [sizeLine_eq]; simp; omega, .int _ _, .none, fun D2 s' S' => ?_⟩
  have hp := IntsAre.pick hys (some (-(pl : Int))) none none
  rw [pick_last pl _ hpl] at hp
  refine stG S' (by walk_at "m_updt") (m' := kiN kind tk :: kI i ti :: mB D2 vd x nl pl w4 u t) ?_ (fun s' S' => ?_) (by kernel_rfl) (by decide +kernel)
  · exact ordNames
  walk_at "m_wk"
  exact h D2 _ _ hp (S'.perm (l' := (e, _) :: (d, _) :: (D, _) :: (od, _) :: (D2, _) :: frn L o0 (some (.int (kq : Nat) tq)) (kiN kind tk :: kI i ti :: mB D2 vd x nl pl w4 u t) l) (by walk_at "m_pm")).tail.tail.tail.tail
/-- the order is brought up to date -/
theorem b3 {Q : Flow → Shared → Prop} (hh : A.handled = none) (hov : IntsAre ov (intsN ks)) (hol : ks.length ≤ 5) (hpl : 0 < pl) 
    (S₀ : St B fs ((od, listC ov) :: frn L o0 (some (.int (kq : Nat) tq)) (kiN kind tk :: kI i ti :: mB od vd x nl pl w4 u t) l) s)
    (h : ∀ od' ov' s', IntsAre ov' (intsN (ordS pl w4 kind ks kq)) → St B fs ((od', listC ov') :: frn L o0 (some (.int (kq : Nat) tq)) (kiN kind tk :: kI i ti :: mB od' vd x nl pl w4 u t) l) s' → Q .next s') :
    wpAny (model pw w) A (exec (bst 3) (lenv L fa cd)) Q NoE s := by
  have put : ∀ s', (kind < 4 ∨ (kq ∈ ks ∧ kind < 7 ∧ 0 < w4) ∨ (kq ∉ ks ∧ kind = 6)) → St B fs ((od, listC ov) :: frn L o0 (some (.int (kq : Nat) tq)) (kiN kind tk :: kI i ti :: mB od vd x nl pl w4 u t) l) s' → wpAny (model pw w) A (execs (ifBody (bst 3)) (lenv L fa cd)) Q NoE s' :=
    fun s' hc S' => b3Put hh hov hol hpl S' fun od' ov' s' h1 h2 => h od' ov' s' (by rw [ordIf hc]; exact h1) h2
  have els : ∀ s', ¬ (kind < 4 ∨ (kq ∈ ks ∧ kind < 7 ∧ 0 < w4) ∨ (kq ∉ ks ∧ kind = 6)) → St B fs ((od, listC ov) :: frn L o0 (some (.int (kq : Nat) tq)) (kiN kind tk :: kI i ti :: mB od vd x nl pl w4 u t) l) s' → wpAny (model pw w) A (execs (ifElse (bst 3)) (lenv L fa cd)) Q NoE s' := by
    intro s' hc S₁
    have e : ordS pl w4 kind ks kq = if kind = 7 then notK ks kq else ks := if_neg hc
    rw [e] at h
    refine wpAny_execs_cons ?_
    refine wpAny_If ?_
    walk_at "m_wk"
    by_cases h7 : kind = 7
    · rw [if_pos h7] at h
      refine iteT (by simp; omega) ?_
      refine wpAny_execs_cons ?_
      refine compNotU (ks := ks) (a := od) (vs := ov) (m' := fun D => kiN kind tk :: kI i ti :: mB D vd x nl pl w4 u t) hh hov (by omega) (by walk_at "m_mem") (by assumption) (fun D => ordNames) (by rfl) fun D ys s' hy S' => ?_
      walk_at "m_wk"
      exact h D ys _ hy (S'.perm (l' := (od, _) :: (D, _) :: frn L o0 (some (.int (kq : Nat) tq)) (kiN kind tk :: kI i ti :: mB D vd x nl pl w4 u t) l) (by walk_at "m_pm")).tail
    · rw [if_neg h7] at h
      refine iteF (by simp; omega) ?_
      walk_at "m_wk"
      exact h od ov _ hov (by assumption)
  refine wpAny_If ?_
  walk_at "m_wk"
  by_cases h4 : kind < 4
  · refine iteT (by simp; omega) ?_
    walk_at "m_wk"
    refine iteT rfl ?_
    exact put _ (.inl h4) (by assumption)
  refine iteF (by simp; omega) ?_
  walk_at "m_wk"
  rename_i S'
  refine in_list_ints (S'.list (a := od) (by walk_at "m_mem")) hov ?_
  rw [any_nat]
  by_cases hm : kq ∈ ks
  · rw [decide_eq_true hm]
    walk_at "m_wki"
    by_cases k7 : kind < 7
    · refine iteT (by simp; omega) ?_
      walk_at "m_wk"
      by_cases w0 : 0 < w4
      · refine iteT (by simp; omega) ?_
        walk_at "m_wk"
        refine iteT rfl (iteT rfl ?_)
        exact put _ (.inr (.inl ⟨hm, k7, w0⟩)) (by assumption)
      · refine iteF (by simp; omega) ?_
        walk_at "m_wki"
        rename_i S'
        refine notin_list_ints (S'.list (a := od) (by walk_at "m_mem")) hov ?_
        rw [any_nat, decide_eq_true hm]
        walk_at "m_wk"
        walk_at "m_wkt"
        walk_at "m_wk"
        walk_at "m_wkt"
        exact els _ (by rintro (a | ⟨_, _, a⟩ | ⟨a, _⟩); (· exact h4 a); (· exact w0 a); (· exact a hm)) (by assumption)
    · refine iteF (by simp; omega) ?_
      walk_at "m_wki"
      rename_i S'
      refine notin_list_ints (S'.list (a := od) (by walk_at "m_mem")) hov ?_
      rw [any_nat, decide_eq_true hm]
      walk_at "m_wk"
      walk_at "m_wkt"
      walk_at "m_wk"
      walk_at "m_wkt"
      exact els _ (by rintro (a | ⟨_, a, _⟩ | ⟨a, _⟩); (· exact h4 a); (· exact k7 a); (· exact a hm)) (by assumption)
  · rw [decide_eq_false hm]
    walk_at "m_wki"
    rename_i S'
    refine notin_list_ints (S'.list (a := od) (by walk_at "m_mem")) hov ?_
    rw [any_nat, decide_eq_false hm]
    walk_at "m_wki"
    by_cases k6 : kind = 6
    · refine iteT (by simp; omega) ?_
      walk_at "m_wk"
      walk_at "m_wkt"
      exact put _ (.inr (.inr ⟨hm, k6⟩)) (by assumption)
    · refine iteF (by simp; omega) ?_
      walk_at "m_wk"
      walk_at "m_wkt"
      walk_at "m_wk"
      walk_at "m_wkt"
      exact els _ (by rintro (a | ⟨a, _, _⟩ | ⟨_, a⟩); (· exact h4 a); (· exact hm a); (· exact k6 a)) (by assumption)
end

end
-- L8
section
set_option maxRecDepth 100000
set_option maxHeartbeats 800000
section
variable {w : World} {A : Around} {B : Shared} {fs : List Env} {l l' c c' cz X : Cells} {s : Shared} {L fa od vd x y z nl : Addr} {cd : Value} {n pl w4 i kind kq cnt : Nat} {u t tk ti tq : Tok} {f : Nat → Key} {hf : ∀ x y, f x = f y → x = y} {st : List (Nat × Value)} {o0 k0 : Option Value} {kd : Kind}
/-- what one cache is asked -/
theorem bC {Q : Flow → Shared → Prop} (T : Stat (KK w) B.heap) (r : Room (n + 26) fs A) (hs : SmallInts f) (h8 : kind < 8) (hk7 : kq < 7) (hc : cnt < 800) (h0 : 0 < pl) (C : Cach w B (kndOf w f hf) kd z pl cnt st cz)
    (S₀ : St B fs (frn L o0 (some (.int (kq : Nat) tq)) ((Str.ofString "cache", .ref z) :: kiN kind tk :: kI i ti :: mB od vd x nl pl w4 u t) (cz ++ X)) s)
    (h : ∀ cz' s', Cach w B (kndOf w f hf) kd z pl (cnt + 1) (stepS kd pl kind st kq (.int ((1 + 2 * i : Nat) : Int) ti)) cz' → St B fs (frn L o0 (some (.int (kq : Nat) tq)) ((Str.ofString "cache", .ref z) :: kiN kind tk :: kI i ti :: mB od vd x nl pl w4 u t) (cz' ++ X)) s' → Q .next s') :
    wpAny (model pw w) A (execs (foBody (bst 4)) (lenv L fa cd)) Q NoE s := by
  have hkey : (kndOf w f hf).is B.heap kq (.int (kq : Nat) tq) := intKey hs hk7
  have fin : ∀ cz' s', Cach w B (kndOf w f hf) kd z pl (cnt + 1) (stepS kd pl kind st kq (.int ((1 + 2 * i : Nat) : Int) ti)) cz' → St B fs (cz' ++ (frn L o0 (some (.int (kq : Nat) tq)) ((Str.ofString "cache", .ref z) :: kiN kind tk :: kI i ti :: mB od vd x nl pl w4 u t) X)) s' → Q .next s' := fun cz' s' C' S' => h cz' s' C' (S'.perm (by walk_at "m_pm"))
  obtain ⟨dx, ns, mi, md, mn1, mn2, mn3⟩ := C.instM
  refine wpAny_execs_cons ?_
  refine wpAny_If ?_
  walk_at "m_wk"
  by_cases h4 : kind < 4
  · refine iteT (by simp; omega) ?_
    have e : stepS kd pl kind st kq (.int ((1 + 2 * i : Nat) : Int) ti) = setS pl st kq (.int ((1 + 2 * i : Nat) : Int) ti) := if_pos h4
    rw [e] at fin
    refine wpAny_execs_cons ?_
    walk_at "m_wk"
    refine cachePut (n := n) C hc h0 T (r.less (by omega)) (St.perm (l' := cz ++ (frn L o0 (some (.int (kq : Nat) tq)) ((Str.ofString "cache", .ref z) :: kiN kind tk :: kI i ti :: mB od vd x nl pl w4 u t) X)) (by assumption) (by walk_at "m_pm")) hkey fun s' c1 C1 S1 => ?_
    walk_at "m_wk"
    exact fin _ _ C1 S1
  refine iteF (by simp; omega) ?_
  walk_at "m_wk"
  by_cases h6 : kind < 6
  · refine iteT (by simp; omega) ?_
    have e : stepS kd pl kind st kq (.int ((1 + 2 * i : Nat) : Int) ti) = gotS kd st kq := by unfold stepS; rw [if_neg h4, if_pos h6]
    rw [e] at fin
    refine wpAny_execs_cons ?_
    walk_at "m_wk"
    refine methodCall_KW ?_
    walk_at "m_wk1"
    refine methFn T (by assumption) (List.mem_cons_of_mem _ (List.mem_cons_of_mem _ (List.mem_cons_of_mem _ (List.mem_append_left _ mi)))) (List.mem_cons_of_mem _ (List.mem_cons_of_mem _ (List.mem_cons_of_mem _ (List.mem_append_left _ md)))) mthGet ?_ mn1
    refine callFn T kpGet ?_
    refine args_cons ?_
    walk_at "m_wk"
    refine args_nil ⟨⟨_, _, by assumption⟩, wpAny_call ?_⟩
    refine opGetM (n := n) C T r (St.perm (l' := cz ++ (frn L o0 (some (.int (kq : Nat) tq)) ((Str.ofString "cache", .ref z) :: kiN kind tk :: kI i ti :: mB od vd x nl pl w4 u t) X)) (by assumption) (by walk_at "m_pm")) hkey fun s' c1 C1 S1 => ?_
    walk_at "m_wk"
    exact fin _ _ C1.more S1
  refine iteF (by simp; omega) ?_
  walk_at "m_wk"
  by_cases h7 : kind = 6
  · refine iteT (by simp; omega) ?_
    have e : stepS kd pl kind st kq (.int ((1 + 2 * i : Nat) : Int) ti) = sdS kd pl st kq (.int ((1 + 2 * i : Nat) : Int) ti) := by unfold stepS; rw [if_neg h4, if_neg h6, if_pos h7]
    rw [e] at fin
    refine wpAny_execs_cons ?_
    walk_at "m_wk"
    refine methodCall_KW ?_
    walk_at "m_wk1"
    refine methFn T (by assumption) (List.mem_cons_of_mem _ (List.mem_cons_of_mem _ (List.mem_cons_of_mem _ (List.mem_append_left _ mi)))) (List.mem_cons_of_mem _ (List.mem_cons_of_mem _ (List.mem_cons_of_mem _ (List.mem_append_left _ md)))) mthSd ?_ mn3
    refine callFn T kpSd ?_
    refine args_cons ?_
    walk_at "m_wk"
    refine args_cons ?_
    walk_at "m_wk"
    refine args_nil ⟨⟨_, _, by assumption⟩, wpAny_call ?_⟩
    refine opSdM (n := n) C hc h0 T r (St.perm (l' := cz ++ (frn L o0 (some (.int (kq : Nat) tq)) ((Str.ofString "cache", .ref z) :: kiN kind tk :: kI i ti :: mB od vd x nl pl w4 u t) X)) (by assumption) (by walk_at "m_pm")) hkey fun s' c1 C1 S1 => ?_
    walk_at "m_wk"
    exact fin _ _ C1 S1
  · refine iteF (by simp; omega) ?_
    have e : stepS kd pl kind st kq (.int ((1 + 2 * i : Nat) : Int) ti) = dropS st kq := by unfold stepS; rw [if_neg h4, if_neg h6, if_neg h7]
    rw [e] at fin
    walk_at "m_wk"
    refine methodCall_KW ?_
    walk_at "m_wk1"
    refine methFn T (by assumption) (List.mem_cons_of_mem _ (List.mem_cons_of_mem _ (List.mem_cons_of_mem _ (List.mem_append_left _ mi)))) (List.mem_cons_of_mem _ (List.mem_cons_of_mem _ (List.mem_cons_of_mem _ (List.mem_append_left _ md)))) mthPopM ?_ mn2
    refine callFn T kpPopM ?_
    refine args_cons ?_
    walk_at "m_wk"
    refine args_cons ?_
    walk_at "m_wk"
    refine args_nil ⟨⟨_, _, by assumption⟩, wpAny_call ?_⟩
    refine opPopM (n := n) C hc T r (St.perm (l' := cz ++ (frn L o0 (some (.int (kq : Nat) tq)) ((Str.ofString "cache", .ref z) :: kiN kind tk :: kI i ti :: mB od vd x nl pl w4 u t) X)) (by assumption) (by walk_at "m_pm")) hkey fun s' c1 C1 S1 => ?_
    walk_at "m_wk"
    exact fin _ _ C1.more S1
theorem swapApp {α : Type} {a b l : List α} : (a ++ (b ++ l)).Perm (b ++ (a ++ l)) := by
  rw [← List.append_assoc, ← List.append_assoc]
  exact List.Perm.append_right l List.perm_append_comm
/-- for cache in (told, other): .. -/
theorem b4 {Q : Flow → Shared → Prop} (T : Stat (KK w) B.heap) (r : Room (n + 26) fs A) (hs : SmallInts f) (h8 : kind < 8) (hk7 : kq < 7) (hc : cnt < 800) (h0 : 0 < pl) (C : Cach w B (kndOf w f hf) kd x pl cnt st c) (C' : Cach w B (kndOf w f hf) kd y pl cnt st c')
    (S₀ : St B fs (frn L (some (.ref y)) (some (.int (kq : Nat) tq)) (kiN kind tk :: kI i ti :: mB od vd x nl pl w4 u t) (c ++ (c' ++ l))) s)
    (h : ∀ c1 c1' s', Cach w B (kndOf w f hf) kd x pl (cnt + 1) (stepS kd pl kind st kq (.int ((1 + 2 * i : Nat) : Int) ti)) c1 → Cach w B (kndOf w f hf) kd y pl (cnt + 1) (stepS kd pl kind st kq (.int ((1 + 2 * i : Nat) : Int) ti)) c1' →
      St B fs (frn L (some (.ref y)) (some (.int (kq : Nat) tq)) (mB od vd x nl pl w4 u t) (c1 ++ (c1' ++ l))) s' → Q .next s') :
    wpAny (model pw w) A (exec (bst 4) (lenv L fa cd)) Q NoE s := by
  refine wpAny_For ?_
  refine tupDisp (B := B) (fs := fs) ?_
  refine args_cons ?_
  walk_at "m_wk"
  refine args_cons ?_
  walk_at "m_wk"
  refine args_nil ?_
  refine ⟨by rw [sizeLine_eq]; exact Nat.le_of_ble_eq_true rfl, _, by assumption, fun tp s' S1 => ?_⟩
  refine iterTup S1 (.head _) fun it s' S2 => ?_
  clear S1 S₀
  refine forTup (vs := [.ref x, .ref y]) (tp := tp) (fun j B' l' => B' = B ∧ ∃ c1 c1' zs, Cach w B (kndOf w f hf) kd x pl (if 0 < j then cnt + 1 else cnt) (if 0 < j then stepS kd pl kind st kq (.int ((1 + 2 * i : Nat) : Int) ti) else st) c1 ∧
      Cach w B (kndOf w f hf) kd y pl (if 1 < j then cnt + 1 else cnt) (if 1 < j then stepS kd pl kind st kq (.int ((1 + 2 * i : Nat) : Int) ti) else st) c1' ∧
      zs = kiN kind tk :: kI i ti :: mB od vd x nl pl w4 u t ∧ l' = (tp, tupC [.ref x, .ref y]) :: frn L (some (.ref y)) (some (.int (kq : Nat) tq)) zs (c1 ++ (c1' ++ l))) r.handled S2 ⟨rfl, c, c', _, C, C', rfl, rfl⟩ ?_ ?_ ?_
  · rintro j B' l' ⟨rfl, c1, c1', zs, _, _, rfl, rfl⟩
    exact .head _
  · rintro j v B' l' s hv ⟨rfl, c1, c1', zs, C1, C1', rfl, rfl⟩ S
    refine wpAny_assign_Name ?_
    walk_at "m_wk1"
    rename_i s1 S1
    have hj : j = 0 ∨ j = 1 := by
      have := (List.getElem?_eq_some_iff.mp hv).1
      have h2 : j < 2 := this
      omega
    rcases hj with rfl | rfl
    · cases hv
      rw [if_neg (Nat.lt_irrefl 0), if_neg (Nat.lt_irrefl 0)] at C1
      rw [if_neg (by decide), if_neg (by decide)] at C1'
      refine bC (n := n) (X := (it, titC tp (0 + 1)) :: (tp, tupC [.ref x, .ref y]) :: (c1' ++ l)) T r hs h8 hk7 hc h0 C1 (S1.perm (by walk_at "m_pm")) fun c2 s' C2 S2 => ?_
      refine ⟨_, _, ⟨rfl, c2, c1', _, C2, C1', rfl, rfl⟩, ?_⟩
      exact (S2.perm (l' := (it, titC tp (0 + 1)) :: (tp, tupC [.ref x, .ref y]) :: frn L (some (.ref y)) (some (.int (kq : Nat) tq)) ((Str.ofString "cache", .ref x) :: kiN kind tk :: kI i ti :: mB od vd x nl pl w4 u t) (c2 ++ (c1' ++ l))) (by walk_at "m_pm")).weak (.keep (.keep (.keep (.keep (.names (fun p hp => .tail _ hp) (.refl _))))))
    · cases hv
      rw [if_pos (by decide), if_pos (by decide)] at C1
      rw [if_neg (by decide), if_neg (by decide)] at C1'
      refine bC (n := n) (X := (it, titC tp (1 + 1)) :: (tp, tupC [.ref x, .ref y]) :: (c1 ++ l)) T r hs h8 hk7 hc h0 C1' ((S1.perm (((((swapApp.cons _).cons _).cons _).cons _).cons _)).perm (by walk_at "m_pm")) fun c2 s' C2 S2 => ?_
      refine ⟨_, _, ⟨rfl, c1, c2, _, C1, C2, rfl, rfl⟩, ?_⟩
      exact ((S2.perm (l' := (it, titC tp (1 + 1)) :: (tp, tupC [.ref x, .ref y]) :: frn L (some (.ref y)) (some (.int (kq : Nat) tq)) ((Str.ofString "cache", .ref y) :: kiN kind tk :: kI i ti :: mB od vd x nl pl w4 u t) (c2 ++ (c1 ++ l))) (by walk_at "m_pm")).perm (((((swapApp.cons _).cons _).cons _).cons _).cons _)).weak (.keep (.keep (.keep (.keep (.names (fun p hp => .tail _ hp) (.refl _))))))
  · rintro B' l' s ⟨rfl, c1, c1', zs, C1, C1', rfl, rfl⟩ S
    exact h c1 c1' s C1 C1' (S.tail.weak (.keep (.keep (.names (fun p hp => .tail _ (.tail _ hp)) (.refl _)))))
end

end
-- L9
section
set_option maxRecDepth 100000
set_option maxHeartbeats 800000
theorem len_put {K : Type} [DecidableEq K] {k : K} {a v : Value} : ∀ {xs : List (K × Value × Value)}, (putK xs k a v).length ≤ xs.length + 1 := by
  intro xs
  unfold putK
  split <;> simp
theorem len_val {kind k : Nat} {st : List (Nat × Value)} {xs : List (Nat × Value × Value)} {a v : Value} : (valS kind st xs k a v).length ≤ xs.length + 1 := by
  unfold valS
  split
  · exact len_put
  · omega
theorem perm3 {α : Type} {c cs l : List α} {e i a : α} : (c ++ (cs ++ (e :: i :: a :: l))).Perm (e :: i :: a :: (c ++ (cs ++ l))) := by
  rw [← List.append_assoc, ← List.append_assoc]
  exact List.perm_middle.trans ((List.perm_middle.trans ((List.perm_middle).cons i)).cons e)
theorem perm1 {α : Type} {c cs l : List α} {e : α} : (c ++ (cs ++ (e :: l))).Perm (e :: (c ++ (cs ++ l))) := by
  rw [← List.append_assoc, ← List.append_assoc]
  exact List.perm_middle
section
variable {w : World} {A : Around} {B : Shared} {fs : List Env} {l l' c c' : Cells} {s : Shared} {L fa sc od vd x y nl : Addr} {cd : Value} {n pl w4 : Nat} {u t : Tok} {nv sv : List Value} {ns : List Int} {f : Nat → Key} {hf : ∀ x y, f x = f y → x = y}
/-- one turn of the law's loop -/
theorem turn6 {i cnt : Nat} {ti : Tok} {ov : List Value} {st : List (Nat × Value)} {xs : List (Nat × Value × Value)} {k0 : Option Value} {Q : Flow → Shared → Prop} (T : Stat (KK w) B.heap) (r : Room (n + 26) fs A) (hs : SmallInts f) (hpl : 0 < pl) (hpl5 : pl ≤ 5) (h4 : w4 < 4) (hN : IntsAre nv ns) (h31 : ns.length ≤ 31) (hi : 2 + 2 * i < ns.length)
    (hc : cnt < 800) (C : Cach w B (kndOf w f hf) (kdOf w4) x pl cnt st c) (C' : Cach w B (kndOf w f hf) (kdOf w4) y pl cnt st c') (hov : IntsAre ov (intsN (st.map (·.1)))) (hI : LInv st xs) (hxl : xs.length ≤ 1000)
    (S₀ : St B fs ((vd, dictC (kndOf w f hf) B xs) :: (od, listC ov) :: (nl, listC nv) :: frn L (some (.ref y)) k0 (kI i ti :: mB od vd x nl pl w4 u t) (c ++ (c' ++ l))) s)
    (h : ∀ st xs' od ov c c' k0 s', Cach w B (kndOf w f hf) (kdOf w4) x pl (cnt + 1) st c → Cach w B (kndOf w f hf) (kdOf w4) y pl (cnt + 1) st c' → IntsAre ov (intsN (st.map (·.1))) → LInv st xs' → xs'.length ≤ xs.length + 1 →
      St B fs ((vd, dictC (kndOf w f hf) B xs') :: (od, listC ov) :: (nl, listC nv) :: frn L (some (.ref y)) k0 (mB od vd x nl pl w4 u t) (c ++ (c' ++ l))) s' → Q .next s') :
    wpAny (model pw w) A (execs lp (lenv L fa cd)) Q NoE s := by
  have hl5 : st.length ≤ pl := C.len
  refine wpAny_execs_cons ?_
  refine b0 (i := i) (l := (vd, dictC (kndOf w f hf) B xs) :: (od, listC ov) :: (c ++ (c' ++ l))) hN (by omega) h31 (S₀.perm (by walk_at "m_pm")) fun kind tk s' h8 S1 => ?_
  refine wpAny_execs_cons ?_
  refine b1 hN hi h31 S1 fun kq tq s' hk7 S2 => ?_
  refine wpAny_execs_cons ?_
  refine b2 (n := n) (l := (nl, listC nv) :: (od, listC ov) :: (c' ++ l)) T r hs h8 hk7 hxl C (S2.perm (by walk_at "m_pm")) fun c1 s' C1 S3 => ?_
  refine wpAny_execs_cons ?_
  refine b3 (l := (vd, dictC (kndOf w f hf) B (valS kind st xs kq (.int (kq : Nat) tq) (.int ((1 + 2 * i : Nat) : Int) ti))) :: (nl, listC nv) :: (c1 ++ (c' ++ l))) r.handled hov (by rw [List.length_map]; omega) hpl (S3.perm (by walk_at "m_pm")) fun od' ov' s' hov' S4 => ?_
  have S4 := S4.perm (l' := frn L (some (.ref y)) (some (.int (kq : Nat) tq)) (kiN kind tk :: kI i ti :: mB od' vd x nl pl w4 u t) ((vd, dictC (kndOf w f hf) B (valS kind st xs kq (.int (kq : Nat) tq) (.int ((1 + 2 * i : Nat) : Int) ti))) :: (od', listC ov') :: (nl, listC nv) :: (c1 ++ (c' ++ l)))) (by walk_at "m_pm")
  have S4 := S4.perm (((perm3.cons _).cons _).cons _)
  refine wpAny_execs_cons ?_
  refine b4 (n := n) (l := (vd, dictC (kndOf w f hf) B (valS kind st xs kq (.int (kq : Nat) tq) (.int ((1 + 2 * i : Nat) : Int) ti))) :: (od', listC ov') :: (nl, listC nv) :: l) T r hs h8 hk7 hc hpl C1 C' S4 fun c2 c2' s' C2 C2' S5 => ?_
  refine wpAny_execs_nil ?_
  refine h _ _ od' ov' c2 c2' _ s' C2 C2' ?_ (inv_step hI hk7) len_val (St.perm (S5.perm (l' := frn L (some (.ref y)) (some (.int (kq : Nat) tq)) (mB od' vd x nl pl w4 u t) ((vd, dictC (kndOf w f hf) B (valS kind st xs kq (.int (kq : Nat) tq) (.int ((1 + 2 * i : Nat) : Int) ti))) :: (od', listC ov') :: (nl, listC nv) :: (c2 ++ (c2' ++ l)))) (((perm3.symm.cons _).cons _).cons _)) (by walk_at "m_pm"))
  rw [keys_step C.nd hl5 hpl h4 h8]
  exact hov'
/-- for k in range(1, len(script[:29]) - 1, 2): .. -/
theorem law6 {Q : Flow → Shared → Prop} (T : Stat (KK w) B.heap) (r : Room (n + 26) fs A) (hs : SmallInts f) (hpl : 0 < pl) (hpl5 : pl ≤ 5) (h4 : w4 < 4) (hl : B.heap.IsList sc sv.toArray) (hi : IntsAre sv ns) (hlen : ns.length ≤ 63) (hN : IntsAre nv (ns.take 29 ++ [0, 0]))
    (C : Cach w B (kndOf w f hf) (kdOf w4) x pl 0 [] c) (C' : Cach w B (kndOf w f hf) (kdOf w4) y pl 0 [] c')
    (S₀ : St B fs ((vd, dictC (kndOf w f hf) B []) :: (od, listC []) :: (nl, listC nv) :: frn L (some (.ref y)) none ((Str.ofString "script", .ref sc) :: mB od vd x nl pl w4 u t) (c ++ (c' ++ l))) s)
    (h : ∀ cnt st xs od ov c c' k0 s', cnt ≤ 30 → Cach w B (kndOf w f hf) (kdOf w4) x pl cnt st c → Cach w B (kndOf w f hf) (kdOf w4) y pl cnt st c' → IntsAre ov (intsN (st.map (·.1))) → LInv st xs → xs.length ≤ 30 →
      St B fs ((vd, dictC (kndOf w f hf) B xs) :: (od, listC ov) :: (nl, listC nv) :: frn L (some (.ref y)) k0 (mB od vd x nl pl w4 u t) (c ++ (c' ++ l))) s' → Q .next s') :
    wpAny (model pw w) A (exec (lst 6) (lenv L fa cd)) Q NoE s := by
  have hp := slice_ints_uptoW hi (y := 29) (by decide)
  refine wpAny_For ?_
  refine Call_ ?_
  walk_at "m_wk"
  refine PyProof.Rows.callWith_type1 ?_
  refine args_cons ?_
  walk_at "m_wk"
  refine args_cons ?_
  refine wpAny_BinOp ?_
  refine Call_ ?_
  walk_at "m_wk"
  refine PyProof.Rows.callWith_builtin1 ?_
  refine args_cons ?_
  refine sliceS (B := B) (fs := fs) ?_
  walk_at "m_wk"
  refine wpAny_evalPart_none ?_
  refine wpAny_evalPart_some ?_
  walk_at "m_wk"
  rename_i s' t' S'
  have hL := hl.at fun o e => S'.base _ _ e
  refine ⟨sc, _, none, some 29, _, rfl, S', hL, ?_, .none, .int _ _, fun D s' S' => ?_⟩
  · have := hi.length
    rw [sizeLine_eq]; simp; omega
  have hpl29 := hp.length
  rw [List.length_take] at hpl29
  generalize hvs : (slicePick sv.toArray none (some 29) none).toList = vs at S' hp hpl29
  refine args_nil ?_
  refine lenL S' (.head _) (by omega) fun s' t' S' => ?_
  walk_at "m_wk"
  refine args_cons ?_
  walk_at "m_wk"
  refine args_nil ?_
  rename_i S1
  have S2 := S1.tail
  clear S₀ S' S1
  refine range3S (by decide) (by decide) S2 fun rg s' S3 => ?_
  refine iterRange2 S3 (.head _) (by omega) fun it s' S4 => ?_
  clear S2 S3
  have S5 := (S4.perm (l' := (rg, _) :: (it, ritS 1 (((vs.length - 1) / 2 : Nat) : Int) 2) :: (vd, dictC (kndOf w f hf) B []) :: (od, listC []) :: (nl, listC nv) :: frn L (some (.ref y)) none ((Str.ofString "script", .ref sc) :: mB od vd x nl pl w4 u t) (c ++ (c' ++ l))) (by walk_at "m_pm")).tail
  clear S4
  have S6 := S5.weak (l' := (it, ritS 1 (((vs.length - 1) / 2 : Nat) : Int) 2) :: (vd, dictC (kndOf w f hf) B []) :: (od, listC []) :: (nl, listC nv) :: frn L (some (.ref y)) none (mB od vd x nl pl w4 u t) (c ++ (c' ++ l))) (.keep (.keep (.keep (.keep (.keep (.keep (.names (fun p hp => .tail _ hp) (.refl _))))))))
  clear S5
  have h31 : (ns.take 29 ++ [0, 0]).length ≤ 31 := by rw [List.length_append, List.length_take]; simp; omega
  have hns : (ns.take 29 ++ [0, 0]).length = vs.length + 2 := by rw [List.length_append, List.length_take, hpl29]; rfl
  refine forOdd (n := (vs.length - 1) / 2) (fun i B' l' => B' = B ∧ ∃ st xs od ov c c' k0, Cach w B (kndOf w f hf) (kdOf w4) x pl i st c ∧ Cach w B (kndOf w f hf) (kdOf w4) y pl i st c' ∧ IntsAre ov (intsN (st.map (·.1))) ∧ LInv st xs ∧ xs.length ≤ i ∧
      l' = (vd, dictC (kndOf w f hf) B xs) :: (od, listC ov) :: (nl, listC nv) :: frn L (some (.ref y)) k0 (mB od vd x nl pl w4 u t) (c ++ (c' ++ l))) r.handled S6 ⟨rfl, [], [], od, [], c, c', none, C, C', .nil, .nil, Nat.le_refl _, rfl⟩ ?_ ?_
  · rintro i ti B' l' s hi' ⟨rfl, st, xs, od, ov, c, c', k0, C, C', hov, hI, hxl, rfl⟩ S
    refine wpAny_assign_Name ?_
    refine stA S (by walk_at "m_updt") (fun s' S' => ?_) (by walk_at "m_nin") (by kernel_rfl) (by decide +kernel)
    have S' := S'.perm (l' := (vd, dictC (kndOf w f hf) B' xs) :: (od, listC ov) :: (nl, listC nv) :: frn L (some (.ref y)) k0 (kI i ti :: mB od vd x nl pl w4 u t) ((it, ritS (1 + 2 * ((i + 1 : Nat) : Int)) ((((vs.length - 1) / 2 : Nat) : Int) - ((i + 1 : Nat) : Int)) 2) :: (c ++ (c' ++ l)))) (by walk_at "m_pm")
    have S' := S'.perm ((((((perm1.cons _).cons _).cons _).cons _).cons _).cons _)
    refine turn6 (n := n) (i := i) (ti := ti) (l := (it, ritS (1 + 2 * ((i + 1 : Nat) : Int)) ((((vs.length - 1) / 2 : Nat) : Int) - ((i + 1 : Nat) : Int)) 2) :: l) T r hs hpl hpl5 h4 hN h31 (by omega) (by omega) C C' hov hI (by omega) S' fun st' xs' od' ov' c1 c1' k1 s' C1 C1' hov' hI' hxl' S7 => ?_
    exact ⟨B', _, ⟨rfl, st', xs', od', ov', c1, c1', k1, C1, C1', hov', hI', by omega, rfl⟩, St.perm (S7.perm (l' := (vd, dictC (kndOf w f hf) B' xs') :: (od', listC ov') :: (nl, listC nv) :: frn L (some (.ref y)) k1 (mB od' vd x nl pl w4 u t) ((it, ritS (1 + 2 * ((i + 1 : Nat) : Int)) ((((vs.length - 1) / 2 : Nat) : Int) - ((i + 1 : Nat) : Int)) 2) :: (c1 ++ (c1' ++ l)))) ((((((perm1.symm.cons _).cons _).cons _).cons _).cons _).cons _)) (by walk_at "m_pm")⟩
  · rintro B' l' s ⟨rfl, st, xs, od, ov, c, c', k0, C, C', hov, hI, hxl, rfl⟩ S
    exact h _ st xs od ov c c' k0 s (by omega) C C' hov hI (by omega) S
end

end
-- L10
section
set_option maxRecDepth 100000
set_option maxHeartbeats 800000
section
variable {w : World} {A : Around} {B : Shared} {fs : List Env} {l l' c c' : Cells} {s : Shared} {L fa sc od vd x y nl D : Addr} {cd : Value} {n pl w4 cnt : Nat} {u t : Tok} {nv sv vs ov : List Value} {ns : List Int} {ks js : List Nat} {f : Nat → Key} {hf : ∀ x y, f x = f y → x = y} {kd : Kind} {st : List (Nat × Value)} {o0 k0 : Option Value}
/-- left = list(told) -/
theorem law7 {Q : Flow → Shared → Prop} (T : Stat (KK w) B.heap) (r : Room (n + 26) fs A) (hs : SmallInts f) (hc : cnt < 800) (C : Cach w B (kndOf w f hf) kd x pl cnt st c) (hk7 : ∀ k ∈ st.map (·.1), k < 7)
    (S₀ : St B fs (frn L o0 k0 (mB od vd x nl pl w4 u t) (c ++ l)) s)
    (h : ∀ G D vs ks c s', (G = B.gens ∨ G = B.gens.push .finished) → ks.Perm (st.map (·.1)) → IntsAre vs (intsN ks) → Cach w (gB B G) (kndOf w f hf) kd x pl cnt st c → St (gB B G) fs ((D, listC vs) :: frn L o0 k0 ((Str.ofString "left", .ref D) :: mB od vd x nl pl w4 u t) (c ++ l)) s' → Q .next s') :
    wpAny (model pw w) A (exec (lst 7) (lenv L fa cd)) Q NoE s := by
  refine wpAny_Assign_Name ?_
  refine Call_ ?_
  walk_at "m_wk"
  refine PyProof.Rows.callWith_type1 ?_
  refine args_cons ?_
  walk_at "m_wk"
  refine args_nil ?_
  refine listCache (n := n) (l := frn L o0 k0 (mB od vd x nl pl w4 u t) l) C hc T r hs hk7 (S₀.perm (by walk_at "m_pm")) fun G D vs ks s' c1 hG hp hi C1 S1 => ?_
  refine stA (B := gB B G) (S1.perm (l' := (D, listC vs) :: frn L o0 k0 (mB od vd x nl pl w4 u t) (c1 ++ l)) (by walk_at "m_pm")) (by walk_at "m_updt") (fun s' S2 => ?_) (by walk_at "m_nin") (by kernel_rfl) (by decide +kernel)
  exact h G D vs ks c1 s' hG hp hi (C1.reg G) S2
/-- if sorted(left) != sorted(order): return False -/
theorem law8 {Q : Flow → Shared → Prop} (r : Room (n + 1) fs A) (hv : IntsAre vs (intsN ks)) (ho : IntsAre ov (intsN js)) (hp : ks.Perm js) (hl : ks.length ≤ 60)
    (S₀ : St B fs ((D, listC vs) :: (od, listC ov) :: frn L o0 k0 ((Str.ofString "left", .ref D) :: mB od vd x nl pl w4 u t) l) s) (T : Stat (KK w) B.heap)
    (h : ∀ s', St B fs ((D, listC vs) :: (od, listC ov) :: frn L o0 k0 ((Str.ofString "left", .ref D) :: mB od vd x nl pl w4 u t) l) s' → Q .next s') :
    wpAny (model pw w) A (exec (lst 8) (lenv L fa cd)) Q NoE s := by
  have e1 := hv.length
  have e2 := ho.length
  have e3 := hp.length_eq
  rw [List.length_map] at e1 e2
  refine wpAny_If ?_
  walk_at "m_wk"
  refine Call_ ?_
  walk_at "m_wk"
  refine PyProof.Rows.callWith_builtin1 ?_
  refine args_cons ?_
  walk_at "m_wk"
  refine args_nil ?_
  refine sortedL hv (by omega) S₀ (by walk_at "m_mem") fun D1 v1 n1 s' h1 p1 q1 S1 => ?_
  refine Call_ ?_
  walk_at "m_wk"
  refine PyProof.Rows.callWith_builtin1 ?_
  refine args_cons ?_
  walk_at "m_wk"
  refine args_nil ?_
  refine sortedL ho (by omega) S1 (by walk_at "m_mem") fun D2 v2 n2 s' h2 p2 q2 S2 => ?_
  have hpi : (intsN ks).Perm (intsN js) := hp.map _
  obtain rfl : n1 = n2 := List.Perm.eq_of_pairwise (fun _ _ _ _ a b => Int.le_antisymm a b) q1 q2 ((p1.trans hpi).trans p2.symm)
  refine neInts (S2.list (a := D1) (by walk_at "m_mem")) (S2.list (a := D2) (by walk_at "m_mem")) h1 h2 r.u0 ?_
  walk_at "m_wki"
  exact h _ S2.tail.tail
/-- comer = 0 -/
theorem law9 {m : Names} {Q : Flow → Shared → Prop} (hm : Str.ofString "comer" ∉ m.map (·.1)) (S₀ : St B fs (frn L o0 k0 m l) s) (h : ∀ tc s', St B fs (frn L o0 k0 ((Str.ofString "comer", .int ((0 : Nat) : Int) tc) :: m) l) s' → Q .next s') :
    wpAny (model pw w) A (exec (lst 9) (lenv L fa cd)) Q NoE s := by
  refine wpAny_Assign_Name ?_
  refine intS S₀ fun s' t' S' => ?_
  exact stA (l' := frn L o0 k0 ((Str.ofString "comer", .int 0 t') :: m) l) S' (by walk_at "m_updt") (fun s' S2 => h t' s' S2) hm (by kernel_rfl) (by decide +kernel)
end

end
-- L11
section
set_option maxRecDepth 100000
set_option maxHeartbeats 800000
/-! the keys of the law -/
def newKey (j : Nat) : Key := .inr [.inr (S "new"), .inl j]
def fL (k : Nat) : Key := if k < 7 then .inl (.inl (k : Int)) else newKey (k - 7)
theorem newKey_inj {i j : Nat} (h : newKey i = newKey j) : i = j := by
  unfold newKey at h
  injection h with h
  injection h with _ h
  injection h with h _
  injection h with h
  exact Int.ofNat.inj h
theorem fL_inj : ∀ x y, fL x = fL y → x = y := by
  intro x y h
  unfold fL at h
  split at h <;> split at h
  · injection h with h
    injection h with h
    exact Int.ofNat.inj h
  · exact nomatch h
  · exact nomatch h
  · have := newKey_inj h; omega
theorem fL_small : SmallInts fL := fun i hi => if_pos hi
theorem fL_new (j : Nat) : fL (7 + j) = newKey j := by
  unfold fL
  rw [if_neg (by omega)]
  congr 1; omega
abbrev kL (w : World) : AnyKind pw w Nat := kndOf w fL fL_inj
/-- the newcomers -/
structure News (ws : List (Nat × Value)) (j : Nat) : Prop where
  len : ws.length = j
  at_ : ∀ i, i < j → ∃ t, ws[i]? = some (7 + i, .int (i : Nat) t)
theorem News.nil : News [] 0 := ⟨rfl, fun i h => absurd h (Nat.not_lt_zero _)⟩
theorem News.snoc {ws : List (Nat × Value)} {j : Nat} {t : Tok} (h : News ws j) : News (ws ++ [(7 + j, .int (j : Nat) t)]) (j + 1) := by
  refine ⟨by rw [List.length_append, h.len]; rfl, fun i hi => ?_⟩
  by_cases q : i < j
  · obtain ⟨t, ht⟩ := h.at_ i q
    exact ⟨t, by rw [List.getElem?_append_left (by rw [h.len]; omega)]; exact ht⟩
  · obtain rfl : i = j := by omega
    exact ⟨t, by rw [List.getElem?_append_right (by rw [h.len]; omega), h.len, Nat.sub_self]; rfl⟩
theorem News.key {ws : List (Nat × Value)} {j k : Nat} (h : News ws j) (hk : k ∈ ws.map (·.1)) : 7 ≤ k ∧ k < 7 + j := by
  obtain ⟨p, hp, rfl⟩ := List.mem_map.mp hk
  obtain ⟨i, hi⟩ := List.mem_iff_getElem?.mp hp
  have hl := (List.getElem?_eq_some_iff.mp hi).1
  rw [h.len] at hl
  obtain ⟨t, ht⟩ := h.at_ i hl
  rw [hi] at ht
  cases ht
  show 7 ≤ 7 + i ∧ 7 + i < 7 + j
  omega
def goneK (ks : List Nat) (st : List (Nat × Value)) : List Nat := ks.filter fun k => !decide (k ∈ st.map (·.1))
theorem gone_none {ks : List Nat} {sts ws : List (Nat × Value)} (hp : ks.Perm (sts.map (·.1))) : goneK ks (sts ++ ws) = [] := by
  unfold goneK
  rw [List.filter_eq_nil_iff]
  intro k hk
  have : k ∈ (sts ++ ws).map (·.1) := by rw [List.map_append]; exact List.mem_append_left _ (hp.mem_iff.mp hk)
  simp only [decide_eq_true this]; decide
theorem gone_one {ks : List Nat} {k0 : Nat} {v0 : Value} {sts ws : List (Nat × Value)} {j : Nat} (hp : ks.Perm (((k0, v0) :: sts).map (·.1))) (nd : (((k0, v0) :: sts).map (·.1)).Nodup) (h7 : k0 < 7) (hw : News ws j) : goneK ks (sts ++ ws) = [k0] := by
  have h1 : (goneK ks (sts ++ ws)).Perm (goneK (((k0, v0) :: sts).map (·.1)) (sts ++ ws)) := hp.filter _
  have nd' : (k0 :: sts.map (·.1)).Nodup := nd
  have h2 : goneK (((k0, v0) :: sts).map (·.1)) (sts ++ ws) = [k0] := by
    show goneK (k0 :: sts.map (·.1)) (sts ++ ws) = [k0]
    unfold goneK
    rw [List.filter_cons]
    have hn : k0 ∉ (sts ++ ws).map (·.1) := by
      rw [List.map_append]
      intro hm
      rcases List.mem_append.mp hm with hm | hm
      · exact (List.nodup_cons.mp nd').1 hm
      · have := hw.key hm; omega
    rw [if_pos (by rw [decide_eq_false hn]; rfl)]
    congr 1
    rw [List.filter_eq_nil_iff]
    intro k hk
    have : k ∈ (sts ++ ws).map (·.1) := by rw [List.map_append]; exact List.mem_append_left _ hk
    simp only [decide_eq_true this]; decide
  rw [h2] at h1
  exact List.perm_singleton.mp h1
theorem goneK_app {a b : List Nat} {st : List (Nat × Value)} : goneK (a ++ b) st = goneK a st ++ goneK b st := List.filter_append ..
def wlBody : Stmt → List Stmt
  | .While _ b _ _ => b
  | _ => []
abbrev wBody : List Stmt := wlBody (lst 10)
abbrev wst (j : Nat) : Stmt := stIn wBody j
abbrev mW (D od vd x nl : Addr) (pl w4 j : Nat) (u t tc : Tok) : Names := (Str.ofString "comer", .int (j : Nat) tc) :: (Str.ofString "left", .ref D) :: mB od vd x nl pl w4 u t
abbrev fuN (b : Bool) : Str × Value := (Str.ofString "full", .bool b)
section
variable {w : World} {A : Around} {B : Shared} {fs : List Env} {l l' c c' : Cells} {s : Shared} {L fa sc od vd x y nl D : Addr} {cd : Value} {n pl w4 cnt cnt' j : Nat} {u t tc : Tok} {nv sv vs ov : List Value} {ns : List Int} {ks js : List Nat} {kd : Kind} {st sts : List (Nat × Value)} {o0 k0 : Option Value} {xs : List (Nat × Value × Value)}
/-- full = len(other) == places -/
theorem w0 {Q : Flow → Shared → Prop} (T : Stat (KK w) B.heap) (r : Room (n + 26) fs A) (hc : cnt < 800) (C : Cach w B (kL w) kd y pl cnt st c)
    (S₀ : St B fs (frn L (some (.ref y)) k0 (mW D od vd x nl pl w4 j u t tc) (c ++ l)) s)
    (h : ∀ c s', Cach w B (kL w) kd y pl cnt st c → St B fs (frn L (some (.ref y)) k0 (fuN (decide (st.length = pl)) :: mW D od vd x nl pl w4 j u t tc) (c ++ l)) s' → Q .next s') :
    wpAny (model pw w) A (exec (wst 0) (lenv L fa cd)) Q NoE s := by
  refine wpAny_Assign_Name ?_
  walk_at "m_wk"
  refine Call_ ?_
  walk_at "m_wk"
  refine PyProof.Rows.callWith_builtin1 ?_
  refine args_cons ?_
  walk_at "m_wk"
  refine args_nil ?_
  refine cacheLen (n := n) C hc T (r.less (by omega)) (St.perm (l' := c ++ (frn L (some (.ref y)) k0 (mW D od vd x nl pl w4 j u t tc) l)) (by assumption) (by walk_at "m_pm")) fun s' c1 t1 C1 S1 => ?_
  have S1 := S1.perm (l' := frn L (some (.ref y)) k0 (mW D od vd x nl pl w4 j u t tc) (c1 ++ l)) (by walk_at "m_pm")
  clear S₀
  walk_at "m_wk"
  rename_i S2
  refine h c1 _ C1 ?_
  have e : decide (st.length = pl) = ((st.length : Int) == (pl : Int)) := by
    rw [Bool.eq_iff_iff]; simp only [decide_eq_true_eq, beq_iff_eq]; omega
  rw [e]
  exact S2
/-- other['new', comer] = comer -/
theorem w1 {Q : Flow → Shared → Prop} (T : Stat (KK w) B.heap) (r : Room (n + 26) fs A) (hfs : ∀ b ∈ fs.filterMap (·.frame), b = L) (hc : cnt' < 800) (h0 : 0 < pl) (hnew : 7 + j ∉ st.map (·.1)) (C : Cach w B (kL w) kd x pl cnt sts c) (C' : Cach w B (kL w) kd y pl cnt' st c') {b : Bool}
    (S₀ : St B fs ((D, listC vs) :: (od, listC ov) :: (vd, dictC (kL w) B xs) :: frn L (some (.ref y)) k0 (fuN b :: mW D od vd x nl pl w4 j u t tc) (c ++ (c' ++ l))) s)
    (h : ∀ B2 c c' s', Ext B B2 → Cach w B2 (kL w) kd x pl cnt sts c → Cach w B2 (kL w) kd y pl (cnt' + 1) (roomS pl st ++ [(7 + j, .int (j : Nat) tc)]) c' → St B2 fs ((D, listC vs) :: (od, listC ov) :: (vd, dictC (kL w) B2 xs) :: frn L (some (.ref y)) k0 (fuN b :: mW D od vd x nl pl w4 j u t tc) (c ++ (c' ++ l))) s' → Q .next s') :
    wpAny (model pw w) A (exec (wst 1) (lenv L fa cd)) Q NoE s := by
  refine wpAny_Assign_Subscript ?_
  walk_at "m_wk"
  refine tupDisp (B := B) (fs := fs) ?_
  refine args_cons ?_
  walk_at "m_wk"
  refine args_cons ?_
  walk_at "m_wk"
  refine args_nil ?_
  refine ⟨by rw [sizeLine_eq]; exact Nat.le_of_ble_eq_true rfl, _, by assumption, fun b' s' S' => ?_⟩
  obtain ⟨B2, hE2, hT2, S2⟩ := St.join (X := [(b', _)]) S' (fun b hb => by rw [hfs b hb]; exact List.mem_map.mpr ⟨(L, naC scL _), by walk_at "m_mem", rfl⟩)
  obtain ⟨ob, hob, hbc⟩ := hT2 _ (.head _)
  have hbc : ob = _ := hbc
  obtain ⟨tk, hbd⟩ : ∃ tk, ob.data = .seq #[.str (Str.ofString "new") tk, .int (j : Nat) tc] 0 := ⟨_, by rw [hbc]⟩
  have hbcl : ob.cls = .type "tuple" := by rw [hbc]
  have T2 : Stat (KK w) B2.heap := T.keeps hE2.heap
  obtain ⟨c2, W1, C2⟩ := C.rebase hE2.heap
  obtain ⟨c2', W2, C2'⟩ := C'.rebase hE2.heap
  have S3 := S2.weak (l' := (D, listC vs) :: (od, listC ov) :: (vd, dictC (kL w) B2 xs) :: frn L (some (.ref y)) k0 (fuN b :: mW D od vd x nl pl w4 j u t tc) (c2 ++ (c2' ++ l)))
    (.keep (.keep (.dict hE2.heap (.keep (.keep (.keep (W1.app (W2.app (.refl _)))))))))
  have hk : (kL w).is B2.heap (7 + j) (.ref b') := by
    show keyIs pw w B2.heap (fL (7 + j)) (.ref b')
    rw [fL_new j]
    refine ⟨b', rfl, ob, #[.str (Str.ofString "new") tk, .int (j : Nat) tc], 0, hob, hbcl, hbd, ?_⟩
    exact .cons (by simp [atomKind, Atom.is, Value.isStrOf]) (.cons (by simp [atomKind, Atom.is, Value.isInt]) .nil)
  have hv : vAt st (7 + j) = none := vAt_eq_none.mpr hnew
  have S3 := S3.perm (l' := (D, listC vs) :: (od, listC ov) :: (vd, dictC (kL w) B2 xs) :: frn L (some (.ref y)) k0 (fuN b :: mW D od vd x nl pl w4 j u t tc) (c2' ++ (c2 ++ l))) ((((((swapApp.cons _).cons _).cons _).cons _).cons _).cons _)
  refine cacheSet (n := n) (l := (D, listC vs) :: (od, listC ov) :: (vd, dictC (kL w) B2 xs) :: frn L (some (.ref y)) k0 (fuN b :: mW D od vd x nl pl w4 j u t tc) (c2 ++ l)) C2' hc h0 T2 (r.less (by omega)) (S3.perm (by walk_at "m_pm")) hk hv fun s' c3 C3 S4 => ?_
  have S4 := S4.perm (l' := (D, listC vs) :: (od, listC ov) :: (vd, dictC (kL w) B2 xs) :: frn L (some (.ref y)) k0 (fuN b :: mW D od vd x nl pl w4 j u t tc) (c3 ++ (c2 ++ l))) (by walk_at "m_pm")
  exact h B2 c2 c3 s' hE2 C2 C3 (S4.perm ((((((swapApp.cons _).cons _).cons _).cons _).cons _).cons _))
end

end
-- L12
section
set_option maxRecDepth 100000
set_option maxHeartbeats 800000
abbrev goN (G : Addr) : Str × Value := (Str.ofString "gone", .ref G)
abbrev vaN (v : Value) : Str × Value := (Str.ofString "value", v)
abbrev goSc : Scope := { kind := .function, names := [(Str.ofString ".0", .local), (Str.ofString "key", .local), (Str.ofString "other", .free)], isGenerator := false, isCoroutine := false, more := [] }
section
variable {w : World} {A : Around} {B : Shared} {fs : List Env} {l l' c c' : Cells} {s : Shared} {L fa sc od vd x y nl D G : Addr} {cd : Value} {n pl w4 cnt cnt' j : Nat} {u t tc : Tok} {nv sv vs ov ys : List Value} {ns : List Int} {ks js : List Nat} {kd : Kind} {st sts : List (Nat × Value)} {o0 k0 : Option Value} {xs : List (Nat × Value × Value)} {b : Bool}
theorem comerNames {tc' : Tok} : ∀ p ∈ (fuN b :: mW D od vd x nl pl w4 (j + 1) u t tc'), p = (Str.ofString "comer", .int ((j + 1 : Nat) : Int) tc') ∨ (p ∈ (fuN b :: mW D od vd x nl pl w4 j u t tc) ∧ p.1 ≠ Str.ofString "comer") := by
  intro p hp
  rcases List.mem_cons.mp hp with rfl | hp
  · exact .inr ⟨by walk_at "m_mem", by show Str.ofString "full" ≠ Str.ofString "comer"; decide +kernel⟩
  rcases List.mem_cons.mp hp with rfl | hp
  · exact .inl rfl
  · refine .inr ⟨.tail _ (.tail _ hp), ?_⟩
    have : p.1 ∈ [Str.ofString "left", Str.ofString "order", Str.ofString "values", Str.ofString "told", Str.ofString "places", Str.ofString "which", Str.ofString "numbers"] := List.mem_map.mpr ⟨p, hp, rfl⟩
    intro e
    rw [e] at this
    revert this
    decide +kernel
/-- comer += 1 -/
theorem w2 {Q : Flow → Shared → Prop} (S₀ : St B fs (frn L o0 k0 (fuN b :: mW D od vd x nl pl w4 j u t tc) l) s)
    (h : ∀ tc' s', St B fs (frn L o0 k0 (fuN b :: mW D od vd x nl pl w4 (j + 1) u t tc') l) s' → Q .next s') :
    wpAny (model pw w) A (exec (wst 2) (lenv L fa cd)) Q NoE s := by
  refine wpAny_AugAssign_Name ?_
  refine wpAny_mono (Q := fun v s' => v = .int (j : Nat) tc ∧ s' = s) (E := NoE) ?_ (fun v s' hv => ?_) fun _ _ z => z
  · obtain ⟨o, ho, zs, ⟨⟨es, ep, h1, h2, h3⟩, nd, hk, hl⟩, hx⟩ := S₀.has _ (by walk_at "m_mem" : (L, naC scL _) ∈ _)
    have mv := hx (Str.ofString "comer", .int (j : Nat) tc) (by walk_at "m_mem")
    exact wpAny_loadName_local hk (hl _ mv).1 ⟨o, es, ep, ho, h1, h2, h3⟩ (lookup_of_mem nd mv) ⟨rfl, rfl⟩
  obtain ⟨rfl, rfl⟩ := hv
  walk_at "m_wk1"
  walk_at "m_wk1"
  rename_i s1 t1 S1 s2 t2 S2
  rw [show ((j : Nat) : Int) + 1 = ((j + 1 : Nat) : Int) by push_cast; rfl]
  exact stG (l' := frn L o0 k0 (fuN b :: mW D od vd x nl pl w4 (j + 1) u t t2) l) (m' := fuN b :: mW D od vd x nl pl w4 (j + 1) u t t2) S2 (by walk_at "m_updt") comerNames (fun s' S3 => h t2 s' S3) (by kernel_rfl) (by decide +kernel)
/-- gone = [key for key in left if key not in other] -/
theorem w3 {Q : Flow → Shared → Prop} (T : Stat (KK w) B.heap) (r : Room (n + 26) fs A) (C : Cach w B (kL w) kd y pl cnt st c) (hv : IntsAre vs (intsN ks)) (h7 : ∀ k ∈ ks, k < 7) (hlen : ks.length ≤ 1000)
    (S₀ : St B fs ((D, listC vs) :: frn L (some (.ref y)) k0 (fuN b :: mW D od vd x nl pl w4 j u t tc) (c ++ l)) s)
    (h : ∀ G ys c s', Cach w B (kL w) kd y pl cnt st c → IntsAre ys (intsN (goneK ks st)) → St B fs ((G, listC ys) :: (D, listC vs) :: frn L (some (.ref y)) k0 (goN G :: fuN b :: mW D od vd x nl pl w4 j u t tc) (c ++ l)) s' → Q .next s') :
    wpAny (model pw w) A (exec (wst 3) (lenv L fa cd)) Q NoE s := by
  have hvl := hv.length
  rw [List.length_map] at hvl
  refine compU (B := B) (fs := fs) (cl := [(Str.ofString "other", L + 1 + 0)]) (by rfl) (by kernel_rfl) rfl (by decide +kernel) (by decide +kernel) ?_
  walk_at "m_wk"
  refine iterL (a := D) S₀ (by walk_at "m_mem") fun it s' S' => ?_
  refine ⟨_, S', fun C1 G s₃ S₃ => ⟨fun P E' hp => iterIt S₃ (by walk_at "m_mem") hp, ?_⟩⟩
  refine compListU (a := D) (vs := vs) (rest₀ := (D, listC vs) :: frn L (some (.ref y)) k0 (fuN b :: mW D od vd x nl pl w4 j u t tc) (c ++ l)) (fun i ys rest => ∃ c, Cach w B (kL w) kd y pl cnt st c ∧ rest = (D, listC vs) :: frn L (some (.ref y)) k0 (fuN b :: mW D od vd x nl pl w4 j u t tc) (c ++ l) ∧ i ≤ vs.length ∧ ys.length ≤ i ∧ IntsAre ys (intsN (goneK (ks.take i) st)))
    (by kernel_rfl) (by decide +kernel) r.handled (S₃.perm (by walk_at "m_pm")) ⟨c, C, rfl, Nat.zero_le _, Nat.le_refl _, .nil⟩ ?_ ?_ ?_
  · rintro i ys rest ⟨c, C, rfl, h5, hyl, hy⟩
    exact ⟨by walk_at "m_mem", by rw [sizeLine_eq]; omega⟩
  · rintro i v ys rest s hv' ⟨c, C, rfl, h5, hyl, hy⟩ S
    have hi : i < vs.length := (List.getElem?_eq_some_iff.mp hv').1
    obtain ⟨ta, hta⟩ := intsAt hv i (by rw [List.length_map]; omega)
    rw [hv'] at hta
    cases hta
    have hgd : (intsN ks).getD i 0 = ((ks.getD i 0 : Nat) : Int) := by
      rw [List.getD_eq_getElem?_getD, List.getD_eq_getElem?_getD, List.getElem?_map, List.getElem?_eq_getElem (by omega)]; rfl
    have hk0 : ks[i]? = some (ks.getD i 0) := by
      rw [List.getD_eq_getElem?_getD, List.getElem?_eq_getElem (by omega)]; rfl
    rw [hgd] at S ⊢
    generalize ks.getD i 0 = k1 at S hk0 ⊢
    have hk7 : k1 < 7 := h7 _ (List.mem_of_getElem? hk0)
    have ht : ks.take (i + 1) = ks.take i ++ [k1] := by rw [List.take_add_one, hk0]; rfl
    refine wpAny_tests_one ?_
    walk_at "m_wk"
    refine cacheNotIn (n := n) (l := (it, litC D (i + 1)) :: (C1, _) :: (G, listC ys) :: (D, listC vs) :: frn L (some (.ref y)) k0 (fuN b :: mW D od vd x nl pl w4 j u t tc) l) C T (r.less (by omega)) (S.perm (by walk_at "m_pm")) (intKey fL_small hk7) fun s' c1 C2 S1 => ?_
    have S1 := S1.perm (l' := (it, litC D (i + 1)) :: (C1, _) :: (G, listC ys) :: (D, listC vs) :: frn L (some (.ref y)) k0 (fuN b :: mW D od vd x nl pl w4 j u t tc) (c1 ++ l)) (by walk_at "m_pm")
    walk_at "m_wk"
    by_cases e : k1 ∈ st.map (·.1)
    · refine iteF (by rw [vAt_isSome.mpr e]; rfl) ⟨_, ⟨c1, C2, rfl, hi, by omega, ?_⟩, S1⟩
      rw [ht, goneK_app, show goneK [k1] st = [] by simp only [goneK, List.filter_cons, decide_eq_true e]; rfl, List.append_nil]
      exact hy
    · refine iteT (by rw [vAt_eq_none.mpr e]; rfl) ?_
      walk_at "m_wk"
      refine ⟨_, ⟨c1, C2, rfl, hi, by rw [List.length_append]; exact Nat.succ_le_succ hyl, ?_⟩, by assumption⟩
      rw [ht, goneK_app, show goneK [k1] st = [k1] by simp only [goneK, List.filter_cons, decide_eq_false e]; rfl]
      unfold intsN
      rw [List.map_append]
      exact hy.append (.cons _ _ .nil)
  · rintro ys rest zs s ⟨c, C, rfl, h5, hyl, hy⟩ S
    rw [hvl, List.take_length] at hy
    refine ⟨rfl, ?_⟩
    refine stA (m := fuN b :: mW D od vd x nl pl w4 j u t tc) S (by walk_at "m_updt") (fun s' S' => ?_) (by walk_at "m_nin") (by kernel_rfl) (by decide +kernel)
    exact ⟨_, zs, S', fun s'' S'' => h G ys c s'' C hy S''⟩
/-- a cache that was not full has lost none -/
theorem w4no {Q : Flow → Shared → Prop} (r : Room (n + 1) fs A) (S₀ : St B fs ((G, listC []) :: frn L o0 k0 (goN G :: fuN false :: mW D od vd x nl pl w4 j u t tc) l) s)
    (h : ∀ s', St B fs (frn L o0 k0 (mW D od vd x nl pl w4 j u t tc) l) s' → Q .cont s') :
    wpAny (model pw w) A (exec (wst 4) (lenv L fa cd)) Q NoE s := by
  have hu := r.u0
  refine wpAny_If ?_
  walk_at "m_wk"
  refine iteT rfl ?_
  refine wpAny_execs_cons ?_
  refine wpAny_If ?_
  walk_at "m_wk"
  refine listNil (by assumption) fun e s' S' => ?_
  refine neInts (S'.list (a := G) (by walk_at "m_mem")) (S'.list (a := e) (by walk_at "m_mem")) (.nil) (.nil) hu ?_
  walk_at "m_wki"
  refine wpAny_Continue ?_
  exact h _ (S'.tail.tail.weak (.keep (.keep (.names (fun p hp => .tail _ (.tail _ hp)) (.refl _)))))
theorem w4yes {Q : Flow → Shared → Prop} (S₀ : St B fs (frn L o0 k0 (goN G :: fuN true :: mW D od vd x nl pl w4 j u t tc) l) s)
    (h : ∀ s', St B fs (frn L o0 k0 (goN G :: fuN true :: mW D od vd x nl pl w4 j u t tc) l) s' → Q .next s') :
    wpAny (model pw w) A (exec (wst 4) (lenv L fa cd)) Q NoE s := by
  refine wpAny_If ?_
  walk_at "m_wk"
  refine iteF rfl ?_
  walk_at "m_wk"
  exact h _ (by assumption)
/-- key, value = told.popitem() -/
theorem w5 {k1 : Nat} {v0 : Value} {Q : Flow → Shared → Prop} (T : Stat (KK w) B.heap) (r : Room (n + 26) fs A) (hc : cnt < 800) (h7 : k1 < 7) (C : Cach w B (kL w) kd x pl cnt ((k1, v0) :: sts) c)
    (S₀ : St B fs (frn L o0 k0 (goN G :: fuN true :: mW D od vd x nl pl w4 j u t tc) (c ++ l)) s)
    (h : ∀ tk c s', Cach w B (kL w) kd x pl cnt sts c → St B fs (frn L o0 (some (.int (k1 : Nat) tk)) (vaN v0 :: goN G :: fuN true :: mW D od vd x nl pl w4 j u t tc) (c ++ l)) s' → Q .next s') :
    wpAny (model pw w) A (exec (wst 5) (lenv L fa cd)) Q NoE s := by
  refine Assign_Tuple ?_ (by kernel_rfl) (by kernel_rfl)
  refine methodCall_KW ?_
  walk_at "m_wk"
  refine cachePop (n := n) (env := lenv L fa cd) (l := frn L o0 k0 (goN G :: fuN true :: mW D od vd x nl pl w4 j u t tc) l) C hc T (r.less (by omega)) (S₀.perm (by walk_at "m_pm")) fun b kz s' c2 hk C2 S2 => ?_
  have hk : keyIs pw w B.heap (fL k1) kz := hk
  rw [fL_small k1 h7] at hk
  obtain ⟨tk, rfl⟩ := Value.isInt_shape (show Value.isInt (k1 : Int) kz = true from hk)
  refine unpack2 r.handled S2 (.head _) fun s' S3 => ?_
  have S3 := S3.tail.perm (l' := frn L o0 k0 (goN G :: fuN true :: mW D od vd x nl pl w4 j u t tc) (c2 ++ l)) (by walk_at "m_pm")
  clear S2 S₀
  refine wpAny_assign_Name ?_
  walk_at "m_wk1"
  refine wpAny_assign_Name ?_
  walk_at "m_wk1"
  exact h tk c2 _ C2 (by assumption)
theorem erase_intsN {k1 : Nat} : ∀ {ks : List Nat}, (intsN ks).erase (k1 : Int) = intsN (ks.erase k1)
  | [] => rfl
  | a :: r => by
    show ((a : Int) :: intsN r).erase (k1 : Int) = _
    by_cases q : a = k1
    · subst q; simp
    · rw [List.erase_cons_tail (by simp; omega), erase_intsN, List.erase_cons_tail (by simpa using q)]; rfl
/-- left.remove(key) -/
theorem w7 {k1 : Nat} {tk : Tok} {m : Names} {Q : Flow → Shared → Prop} (hm : (Str.ofString "left", Value.ref D) ∈ m) (hv : IntsAre vs (intsN ks)) (hk : k1 ∈ ks) (hl : vs.length ≤ 1000)
    (S₀ : St B fs ((D, listC vs) :: frn L o0 (some (.int (k1 : Nat) tk)) m l) s)
    (h : ∀ vs' s', IntsAre vs' (intsN (ks.erase k1)) → St B fs ((D, listC vs') :: frn L o0 (some (.int (k1 : Nat) tk)) m l) s' → Q .next s') :
    wpAny (model pw w) A (exec (wst 7) (lenv L fa cd)) Q NoE s := by
  have hmem : (k1 : Int) ∈ intsN ks := List.mem_map.mpr ⟨k1, hk, rfl⟩
  have e := erase_intsN (ks := ks) (k1 := k1)
  refine wpAny_Expr_any ?_
  refine methodCall_KW ?_
  refine ldA S₀ (by walk_at "m_mem") hm ?_
  obtain ⟨o, ho, _, hd, _⟩ := S₀.has _ (by walk_at "m_mem" : (D, listC vs) ∈ _)
  refine getMethod_list_of PySem.F.slot_list_remove PySem.F.type_list_remove (S₀.list (a := D) (by walk_at "m_mem")) ⟨o, ho, hd⟩ ?_
  refine callB ?_
  refine args_cons ?_
  walk_at "m_wk"
  refine args_nil ?_
  refine removeL hv hmem (by assumption) hl fun s' vs' hv' S' => ?_
  rw [e] at hv'
  walk_at "m_wk"
  exact h vs' _ hv' S'
/-- if gone != [key] or value != values[key] or key != order.pop(0): return False -/
theorem w6 {k1 : Nat} {tk : Tok} {i : Int} {ti : Tok} {Q : Flow → Shared → Prop} (T : Stat (KK w) B.heap) (r : Room (n + 26) fs A) (h7 : k1 < 7) (hy : IntsAre ys (intsN [k1])) (ho : IntsAre ov (intsN (k1 :: js))) (hl : js.length ≤ 1000) (hx : ∃ kz t', atK xs k1 = some (kz, .int i t'))
    (S₀ : St B fs ((G, listC ys) :: (vd, dictC (kL w) B xs) :: (od, listC ov) :: frn L o0 (some (.int (k1 : Nat) tk)) (vaN (.int i ti) :: goN G :: fuN true :: mW D od vd x nl pl w4 j u t tc) l) s)
    (h : ∀ ov' s', IntsAre ov' (intsN js) → St B fs ((vd, dictC (kL w) B xs) :: (od, listC ov') :: frn L o0 (some (.int (k1 : Nat) tk)) (vaN (.int i ti) :: goN G :: fuN true :: mW D od vd x nl pl w4 j u t tc) l) s' → Q .next s') :
    wpAny (model pw w) A (exec (wst 6) (lenv L fa cd)) Q NoE s := by
  have hu := r.u0
  have hu2 := r.units
  refine wpAny_If ?_
  walk_at "m_wk"
  refine listDisp (B := B) (fs := fs) ?_
  walk_at "m_litc"
  refine args_nil ?_
  refine ⟨by rw [sizeLine_eq]; exact Nat.le_of_ble_eq_true rfl, _, by assumption, fun d s' S1 => ?_⟩
  refine neInts (S1.list (a := G) (by walk_at "m_mem")) (S1.list (a := d) (by walk_at "m_mem")) hy (.cons _ _ .nil) hu ?_
  have S2 := S1.tail.tail
  clear S1 S₀
  walk_at "m_wki"
  refine Subscript_ ?_
  walk_at "m_wk"
  obtain ⟨kz, t', hx⟩ := hx
  refine tail_any (S2.typeDict (d := vd) (by walk_at "m_mem")) slot_dict_getitem.lookup (getS (p := (kz, .int i t')) S2 (by walk_at "m_mem") (by omega) (intKey fL_small h7) hx fun s' S3 => ?_) (by with_unfolding_all rfl)
  clear S2
  walk_at "m_wk"
  refine iteF (by simp) ?_
  walk_at "m_wk"
  refine methodCall_KW ?_
  walk_at "m_wk"

  obtain ⟨o, ho4, _, hd, _⟩ := S3.has _ (by walk_at "m_mem" : (od, listC ov) ∈ _)
  refine getMethod_list_of PySem.F.slot_list_pop PySem.F.type_list_pop (S3.list (a := od) (by walk_at "m_mem")) ⟨o, ho4, hd⟩ ?_
  refine callB ?_
  refine args_cons ?_
  walk_at "m_wk"
  refine args_nil ?_
  generalize hns : intsN (k1 :: js) = nz at ho
  cases ho with
  | nil => cases hns
  | cons m tm rest =>
    injection hns with e1 e2
    subst e1 e2
    rename_i vr _ _ _ _
    refine popFront (D := od) (by assumption) (by walk_at "m_updt") (by have := rest.length; rw [List.length_map] at this; omega) fun s' S5 => ?_
    walk_at "m_wk"
    refine iteF (by simp) ?_
    walk_at "m_wki"
    exact h _ _ rest (by assumption)
end

end
-- L13
section
set_option maxRecDepth 100000
set_option maxHeartbeats 1600000
/-- where the law's second loop stands -/
def WAt (w : World) (fs : List Env) (L x y D od vd nl : Addr) (pl w4 : Nat) (u t : Tok) (kd : Kind) (xs : List (Nat × Value × Value)) (l : Cells) (B0 : Shared) (n : Nat) (s : Shared) : Prop :=
  ∃ B j vs ks sts ws ov c c' cnt cnt' tc k0, Ext B0 B ∧ Cach w B (kL w) kd x pl cnt sts c ∧ Cach w B (kL w) kd y pl cnt' (sts ++ ws) c' ∧ News ws j ∧ LInv sts xs ∧ ks.Perm (sts.map (·.1)) ∧ IntsAre vs (intsN ks) ∧ IntsAre ov (intsN (sts.map (·.1))) ∧ cnt ≤ 30 ∧ cnt' ≤ 30 + j ∧
    n = sts.length + (pl - (sts.length + j)) ∧ St B fs ((D, listC vs) :: (od, listC ov) :: (vd, dictC (kL w) B xs) :: frn L (some (.ref y)) k0 (mW D od vd x nl pl w4 j u t tc) (c ++ (c' ++ l))) s
theorem Stat.ext {K : Frag} {B B' : Shared} (T : Stat K B.heap) (h : Ext B B') : Stat K B'.heap := T.keeps h.heap
theorem swap6 {B : Shared} {fs : List Env} {s : Shared} {a1 a2 a3 a4 a5 a6 : Addr × Cell} {c c' l : Cells} (S : St B fs (a1 :: a2 :: a3 :: a4 :: a5 :: a6 :: (c ++ (c' ++ l))) s) : St B fs (a1 :: a2 :: a3 :: a4 :: a5 :: a6 :: (c' ++ (c ++ l))) s :=
  S.perm ((((((swapApp.cons _).cons _).cons _).cons _).cons _).cons _)
theorem swap7 {B : Shared} {fs : List Env} {s : Shared} {a1 a2 a3 a4 a5 a6 a7 : Addr × Cell} {c c' l : Cells} (S : St B fs (a1 :: a2 :: a3 :: a4 :: a5 :: a6 :: a7 :: (c ++ (c' ++ l))) s) : St B fs (a1 :: a2 :: a3 :: a4 :: a5 :: a6 :: a7 :: (c' ++ (c ++ l))) s :=
  S.perm (((((((swapApp.cons _).cons _).cons _).cons _).cons _).cons _).cons _)
section
variable {w : World} {A : Around} {B B0 : Shared} {fs : List Env} {l l' c c' : Cells} {s : Shared} {L fa sc od vd x y nl D G : Addr} {cd : Value} {n pl w4 cnt cnt' j k1 : Nat} {u t tc : Tok} {nv sv vs ov ys : List Value} {ns : List Int} {ks js : List Nat} {kd : Kind} {st sts ws : List (Nat × Value)} {o0 k0 : Option Value} {xs : List (Nat × Value × Value)} {b : Bool} {v1 : Value}
theorem turnW (T : Stat (KK w) B.heap) (r : Room (n + 26) fs A) (hfs : ∀ b ∈ fs.filterMap (·.frame), b = L) (h0 : 0 < pl) (hpl5 : pl ≤ 5) (hE : Ext B0 B) (C : Cach w B (kL w) kd x pl cnt ((k1, v1) :: sts) c) (C' : Cach w B (kL w) kd y pl cnt' ((k1, v1) :: sts ++ ws) c') (hw : News ws j) (hI : LInv ((k1, v1) :: sts) xs)
    (hp : ks.Perm (((k1, v1) :: sts).map (·.1))) (hv : IntsAre vs (intsN ks)) (ho : IntsAre ov (intsN (((k1, v1) :: sts).map (·.1)))) (hc : cnt ≤ 30) (hc' : cnt' ≤ 30 + j)
    (S₀ : St B fs ((D, listC vs) :: (od, listC ov) :: (vd, dictC (kL w) B xs) :: frn L (some (.ref y)) k0 (mW D od vd x nl pl w4 j u t tc) (c ++ (c' ++ l))) s) :
    wpAny (model pw w) A (execs wBody (lenv L fa cd)) (fun f s' => (f = .next ∨ f = .cont) ∧ ∃ m, m < ((k1, v1) :: sts).length + (pl - (((k1, v1) :: sts).length + j)) ∧ WAt w fs L x y D od vd nl pl w4 u t kd xs l B0 m s') NoE s := by
  have hlen := C'.len
  rw [List.length_append, hw.len] at hlen
  have h7 : k1 < 7 := hI.lt k1 (.head _)
  have hks7 : ∀ k ∈ ks, k < 7 := fun k hk => hI.lt k (hp.mem_iff.mp hk)
  have hkl : ks.length = sts.length + 1 := by rw [hp.length_eq]; simp
  have hvl := hv.length
  rw [List.length_map] at hvl
  have hlen' : sts.length + 1 + j ≤ pl := by simpa using hlen
  have hnd := C.nd
  have hI' : LInv sts xs := ⟨fun k hk => hI.lt k (.tail _ hk), fun p hp => hI.val p (.tail _ hp)⟩
  obtain ⟨iv, tv, hv1, hat⟩ := hI.val (k1, v1) (.head _)
  have hv1 : v1 = .int iv tv := hv1
  subst hv1
  have hnew : 7 + j ∉ ((k1, Value.int iv tv) :: sts ++ ws).map (·.1) := by
    rw [List.map_append]
    intro hm
    rcases List.mem_append.mp hm with hm | hm
    · have := hI.lt _ hm; omega
    · have := hw.key hm; omega
  refine wpAny_execs_cons ?_
  refine w0 (n := n) (l := (D, listC vs) :: (od, listC ov) :: (vd, dictC (kL w) B xs) :: (c ++ l)) T r (by omega) C' ((swap6 S₀).perm (by walk_at "m_pm")) fun c1' s' C1' S1 => ?_
  have S1 := swap6 (S1.perm (l' := (D, listC vs) :: (od, listC ov) :: (vd, dictC (kL w) B xs) :: frn L (some (.ref y)) k0 (fuN (decide (((k1, Value.int iv tv) :: sts ++ ws).length = pl)) :: mW D od vd x nl pl w4 j u t tc) (c1' ++ (c ++ l))) (by walk_at "m_pm"))
  clear S₀ C'
  refine wpAny_execs_cons ?_
  refine w1 (n := n) T r hfs (by omega) h0 hnew C C1' S1 fun B2 c2 c2' s' hE2 C2 C2' S2 => ?_
  have T2 := T.ext hE2
  clear S1 C C1'
  refine wpAny_execs_cons ?_
  refine w2 (l := (D, listC vs) :: (od, listC ov) :: (vd, dictC (kL w) B2 xs) :: (c2 ++ (c2' ++ l))) (S2.perm (by walk_at "m_pm")) fun tc2 s' S3 => ?_
  have S3 := swap6 (S3.perm (l' := (D, listC vs) :: (od, listC ov) :: (vd, dictC (kL w) B2 xs) :: frn L (some (.ref y)) k0 (fuN (decide (((k1, Value.int iv tv) :: sts ++ ws).length = pl)) :: mW D od vd x nl pl w4 (j + 1) u t tc2) (c2 ++ (c2' ++ l))) (by walk_at "m_pm"))
  clear S2
  have hwn : News (ws ++ [(7 + j, .int (j : Nat) tc)]) (j + 1) := hw.snoc
  refine wpAny_execs_cons ?_
  refine w3 (n := n) (l := (od, listC ov) :: (vd, dictC (kL w) B2 xs) :: (c2 ++ l)) T2 r C2' hv hks7 (by omega) (S3.perm (by walk_at "m_pm")) fun G ys c3' s' C3' hy S4 => ?_
  clear S3 C2'
  have S4 := swap7 (S4.perm (l' := (G, listC ys) :: (D, listC vs) :: (od, listC ov) :: (vd, dictC (kL w) B2 xs) :: frn L (some (.ref y)) k0 (goN G :: fuN (decide (((k1, Value.int iv tv) :: sts ++ ws).length = pl)) :: mW D od vd x nl pl w4 (j + 1) u t tc2) (c3' ++ (c2 ++ l))) (by walk_at "m_pm"))
  by_cases hf : ((k1, Value.int iv tv) :: sts ++ ws).length = pl
  · have hroom : roomS pl ((k1, Value.int iv tv) :: sts ++ ws) ++ [(7 + j, .int (j : Nat) tc)] = sts ++ (ws ++ [(7 + j, .int (j : Nat) tc)]) := by
      unfold roomS
      rw [if_neg (by omega)]
      simp
    rw [hroom] at C3' hy
    rw [gone_one hp hnd h7 hwn] at hy
    rw [decide_eq_true hf] at S4
    have hf' : sts.length + 1 + j = pl := by rw [List.length_append, hw.len] at hf; simpa using hf
    refine wpAny_execs_cons ?_
    refine w4yes (l := (G, listC ys) :: (D, listC vs) :: (od, listC ov) :: (vd, dictC (kL w) B2 xs) :: (c2 ++ (c3' ++ l))) (S4.perm (by walk_at "m_pm")) fun s' S5 => ?_
    clear S4
    refine wpAny_execs_cons ?_
    refine w5 (n := n) (l := (G, listC ys) :: (D, listC vs) :: (od, listC ov) :: (vd, dictC (kL w) B2 xs) :: (c3' ++ l)) T2 r (by omega) h7 C2 (S5.perm (by walk_at "m_pm")) fun tk c4 s' C4 S6 => ?_
    clear S5 C2
    refine wpAny_execs_cons ?_
    refine w6 (n := n) (js := sts.map (·.1)) (l := (D, listC vs) :: (c4 ++ (c3' ++ l))) T2 r h7 hy ho (by rw [List.length_map]; omega) hat (S6.perm (by walk_at "m_pm")) fun ov' s' ho' S7 => ?_
    clear S6
    refine wpAny_execs_cons ?_
    refine w7 (D := D) (m := vaN (.int iv tv) :: goN G :: fuN true :: mW D od vd x nl pl w4 (j + 1) u t tc2) (ks := ks) (vs := vs) (l := (vd, dictC (kL w) B2 xs) :: (od, listC ov') :: (c4 ++ (c3' ++ l))) (by walk_at "m_mem") hv (hp.mem_iff.mpr (.head _)) (by omega) (S7.perm (by walk_at "m_pm")) fun vs' s' hv' S8 => ?_
    clear S7
    refine wpAny_execs_nil ?_
    refine ⟨.inl rfl, sts.length + (pl - (sts.length + (j + 1))), by simp only [List.length_cons]; omega, B2, j + 1, vs', ks.erase k1, sts, _, ov', c4, c3', cnt, cnt' + 1, tc2, some (.int (k1 : Nat) tk), hE.trans hE2, C4, C3', hwn, hI', ?_, hv', ho', hc, by omega, rfl, ?_⟩
    · have := hp.erase k1
      rwa [show (((k1, Value.int iv tv) :: sts).map (·.1)).erase k1 = sts.map (·.1) by simp] at this
    · exact (S8.weak (l' := (D, listC vs') :: frn L (some (.ref y)) (some (.int (k1 : Nat) tk)) (mW D od vd x nl pl w4 (j + 1) u t tc2) ((vd, dictC (kL w) B2 xs) :: (od, listC ov') :: (c4 ++ (c3' ++ l)))) (.keep (.keep (.keep (.names (fun p hp => .tail _ (.tail _ (.tail _ hp))) (.refl _)))))).perm (by walk_at "m_pm")
  · have hroom : roomS pl ((k1, Value.int iv tv) :: sts ++ ws) ++ [(7 + j, .int (j : Nat) tc)] = ((k1, Value.int iv tv) :: sts) ++ (ws ++ [(7 + j, .int (j : Nat) tc)]) := by
      unfold roomS
      rw [if_pos (by rw [List.length_append, hw.len] at hf ⊢; omega)]
      simp
    rw [hroom] at C3' hy
    rw [gone_none hp] at hy
    rw [decide_eq_false hf] at S4
    have hf' : sts.length + 1 + j < pl := by rw [List.length_append, hw.len] at hf; simp at hf; omega
    cases hy
    refine wpAny_execs_cons ?_
    refine w4no (n := n) (l := (D, listC vs) :: (od, listC ov) :: (vd, dictC (kL w) B2 xs) :: (c2 ++ (c3' ++ l))) (r.less (by omega)) (S4.perm (by walk_at "m_pm")) fun s' S5 => ?_
    refine ⟨.inr rfl, sts.length + 1 + (pl - (sts.length + 1 + (j + 1))), by simp only [List.length_cons]; omega, B2, j + 1, vs, ks, (k1, Value.int iv tv) :: sts, _, ov, c2, c3', cnt, cnt' + 1, tc2, k0, hE.trans hE2, C2, C3', hwn, hI, hp, hv, ho, hc, by omega, by simp, S5.perm (by walk_at "m_pm")⟩
end

end
-- L14
section
set_option maxRecDepth 100000
set_option maxHeartbeats 800000
section
variable {w : World} {A : Around} {B B0 : Shared} {fs : List Env} {l l' c c' : Cells} {s : Shared} {L fa sc od vd x y nl D G : Addr} {cd : Value} {n n0 pl w4 cnt cnt' j k1 : Nat} {u t tc : Tok} {nv sv vs ov ys : List Value} {ns : List Int} {ks js : List Nat} {kd : Kind} {st sts ws : List (Nat × Value)} {o0 k0 : Option Value} {xs : List (Nat × Value × Value)} {b : Bool} {v1 : Value}
/-- while left != []: .. -/
theorem law10 {Q : Flow → Shared → Prop} (T : Stat (KK w) B0.heap) (r : Room (n + 26) fs A) (hfs : ∀ b ∈ fs.filterMap (·.frame), b = L) (h0 : 0 < pl) (hpl5 : pl ≤ 5) (H : WAt w fs L x y D od vd nl pl w4 u t kd xs l B0 n0 s)
    (h : ∀ B j ws c c' cnt cnt' tc k0 s', Ext B0 B → Cach w B (kL w) kd x pl cnt [] c → Cach w B (kL w) kd y pl cnt' ws c' → News ws j → cnt ≤ 30 → cnt' ≤ 30 + j → St B fs (frn L (some (.ref y)) k0 (mW D od vd x nl pl w4 j u t tc) (c ++ (c' ++ l))) s' → Q .next s') :
    wpAny (model pw w) A (exec (lst 10) (lenv L fa cd)) Q NoE s := by
  have hu := r.u0
  refine whileS (WAt w fs L x y D od vd nl pl w4 u t kd xs l B0) ?_ n0 H
  rintro n1 s ⟨B, j, vs, ks, sts, ws, ov, c, c', cnt, cnt', tc, k0, hE, C, C', hw, hI, hp, hv, ho, hc, hc', rfl, S⟩
  have hvl := hv.length
  rw [List.length_map] at hvl
  have hkl := hp.length_eq
  rw [List.length_map] at hkl
  walk_at "m_wk"
  refine listNil S fun e s' S1 => ?_
  cases sts with
  | nil =>
    have hks : ks = [] := List.eq_nil_of_length_eq_zero hkl
    subst hks
    cases hv
    refine neInts (S1.list (a := D) (by walk_at "m_mem")) (S1.list (a := e) (by walk_at "m_mem")) .nil .nil hu ?_
    walk_at "m_wk"
    refine iteF rfl ?_
    exact h B j ws c c' cnt cnt' tc k0 _ hE C C' hw hc hc' S1.tail.tail.tail.tail
  | cons p sts =>
    obtain ⟨k1, v1⟩ := p
    refine neLen (vs := vs) (ws := []) (S1.list (a := D) (by walk_at "m_mem")) (S1.list (a := e) (by walk_at "m_mem")) (by rw [hvl, hkl]; simp) hu ?_
    walk_at "m_wk"
    refine iteT rfl ?_
    refine wpAny_mono (turnW (n := n) (T.ext hE) r hfs h0 hpl5 hE C C' hw hI hp hv ho hc hc' S1.tail) (fun f s' hf => ?_) fun _ _ z => z
    obtain ⟨hf, m, hm, hW⟩ := hf
    rcases hf with rfl | rfl
    · exact ⟨m, hm, hW⟩
    · exact ⟨m, hm, hW⟩
/-- if len(told) > 0 or len(other) > places: return False -/
theorem law11 {Q : Flow → Shared → Prop} (T : Stat (KK w) B.heap) (r : Room (n + 26) fs A) (hc : cnt < 800) (hc' : cnt' < 800) (C : Cach w B (kL w) kd x pl cnt [] c) (C' : Cach w B (kL w) kd y pl cnt' ws c')
    (S₀ : St B fs (frn L (some (.ref y)) k0 (mW D od vd x nl pl w4 j u t tc) (c ++ (c' ++ l))) s)
    (h : ∀ c c' s', Cach w B (kL w) kd x pl cnt [] c → Cach w B (kL w) kd y pl cnt' ws c' → St B fs (frn L (some (.ref y)) k0 (mW D od vd x nl pl w4 j u t tc) (c ++ (c' ++ l))) s' → Q .next s') :
    wpAny (model pw w) A (exec (lst 11) (lenv L fa cd)) Q NoE s := by
  have hlen := C'.len
  refine wpAny_If ?_
  walk_at "m_wk"
  refine Call_ ?_
  walk_at "m_wk"
  refine PyProof.Rows.callWith_builtin1 ?_
  refine args_cons ?_
  walk_at "m_wk"
  refine args_nil ?_
  refine cacheLen (n := n) (l := frn L (some (.ref y)) k0 (mW D od vd x nl pl w4 j u t tc) (c' ++ l)) C hc T (r.less (by omega)) (S₀.perm (by walk_at "m_pm")) fun s' c1 t1 C1 S1 => ?_
  have S1 := S1.perm (l' := frn L (some (.ref y)) k0 (mW D od vd x nl pl w4 j u t tc) (c1 ++ (c' ++ l))) (by walk_at "m_pm")
  clear S₀
  walk_at "m_wk"
  refine iteF (by simp) ?_
  walk_at "m_wk"
  refine Call_ ?_
  walk_at "m_wk"
  refine PyProof.Rows.callWith_builtin1 ?_
  refine args_cons ?_
  walk_at "m_wk"
  refine args_nil ?_
  rename_i s2 t2 S2
  have S2 := S2.perm (((swapApp.cons _).cons _).cons _)
  refine cacheLen (n := n) (l := frn L (some (.ref y)) k0 (mW D od vd x nl pl w4 j u t tc) (c1 ++ l)) C' hc' T (r.less (by omega)) (S2.perm (by walk_at "m_pm")) fun s' c2 t1 C2 S3 => ?_
  have S3 := S3.perm (l' := frn L (some (.ref y)) k0 (mW D od vd x nl pl w4 j u t tc) (c2 ++ (c1 ++ l))) (by walk_at "m_pm")
  have S3 := S3.perm (((swapApp.cons _).cons _).cons _)
  clear S1 S2
  walk_at "m_wk"
  refine iteF (by simp; omega) ?_
  walk_at "m_wki"
  exact h c1 c2 _ C1 C2 (by assumption)
end

end
-- L15
section
set_option maxRecDepth 100000
set_option maxHeartbeats 1600000
open SeqAt
section
variable {w : World} {A : Around} {s : Shared} {a b : Addr} {xs ys : Array Value}
theorem tuplesEq (ha : s.heap.IsTuple a xs) (hb : s.heap.IsTuple b ys) (hsz : xs.size = ys.size) (hu : A.units < cLine) (he : ∀ j (h1 : j < xs.size) (h2 : j < ys.size), EqAt A.in1 s xs[j] ys[j] true) : EqAt A s (.ref a) (.ref b) true := by
  by_cases e : a = b
  · subst e; exact EqAt.same _
  · refine EqAt.of_refs e ?_
    have := RcAt.tuples (e := fun _ => true) ha hb hu he
    rwa [show (List.range (min xs.size ys.size)).all (fun _ => true) = true from List.all_eq_true.mpr fun _ _ => rfl, hsz, Bool.true_and, beq_self_eq_true] at this
theorem atomEq {k : Atom} {u v : Value} (hu : Atom.is k u = true) (hv : Atom.is k v = true) : EqAt A s u v true := by
  rcases Atom.shape hu with ⟨i, t, rfl, rfl⟩ | ⟨x, t, rfl, rfl⟩
  · rcases Atom.shape hv with ⟨j, u, e, rfl⟩ | ⟨y, u, e, rfl⟩
    · cases e
      have := EqAt.int_int (A := A) (s := s) i t i u
      rwa [beq_self_eq_true] at this
    · cases e
  · rcases Atom.shape hv with ⟨j, u, e, rfl⟩ | ⟨y, u, e, rfl⟩
    · cases e
    · cases e
      have := EqAt.str_str (A := A) (s := s) x t x u
      rwa [beq_self_eq_true] at this
theorem itemsEq {l : List Atom} {us vs : List Value} (hu : ItemsAre (atomKind pw w) l us) (hv : ItemsAre (atomKind pw w) l vs) : us.length = vs.length ∧ ∀ j (h1 : j < us.length) (h2 : j < vs.length), EqAt A s us[j] vs[j] true := by
  induction hu generalizing vs with
  | nil => cases hv; exact ⟨rfl, fun j h1 => absurd h1 (Nat.not_lt_zero _)⟩
  | cons h _ ih =>
    cases hv with
    | cons h' t' =>
      obtain ⟨e, r⟩ := ih t'
      refine ⟨by simp [e], fun j h1 h2 => ?_⟩
      cases j with
      | zero => exact atomEq h h'
      | succ j => exact r j (Nat.lt_of_succ_lt_succ h1) (Nat.lt_of_succ_lt_succ h2)
theorem keyEq {k : Key} {u v : Value} (hA : A.units < cLine) (hu : keyIs pw w s.heap k u) (hv : keyIs pw w s.heap k v) : EqAt A s u v true := by
  cases k with
  | inl a => exact atomEq hu hv
  | inr l =>
    obtain ⟨p, rfl, o, items, n, h1, h2, h3, h4⟩ := hu
    obtain ⟨q, rfl, o', items', n', g1, g2, g3, g4⟩ := hv
    obtain ⟨e, r⟩ := itemsEq (A := A.in1) (s := s) h4 g4
    exact tuplesEq ⟨o, h1, h2, n, h3⟩ ⟨o', g1, g2, n', g3⟩ (by simpa using e) hA fun j j1 j2 => by
      have := r j (by simpa using j1) (by simpa using j2)
      simpa using this
theorem pairsEq {k : Key} {i : Int} {u v : Value} {t t' : Tok} (hA : A.units + 1 < cLine) (ha : s.heap.IsTuple a #[u, .int i t]) (hb : s.heap.IsTuple b #[v, .int i t']) (hu : keyIs pw w s.heap k u) (hv : keyIs pw w s.heap k v) : EqAt A s (.ref a) (.ref b) true := by
  refine tuplesEq ha hb rfl (by omega) fun j j1 j2 => ?_
  match j, j1, j2 with
  | 0, _, _ => exact keyEq (A := A.in1) (by show A.units + 1 < cLine; exact hA) hu hv
  | 1, _, _ =>
    have := EqAt.int_int (A := A.in1) (s := s) i t i t'
    rwa [beq_self_eq_true] at this
end
theorem pairTuple {B : Shared} {fs : List Env} {l : Cells} {s : Shared} {b : Addr} {u v : Value} (S : St B fs l s) (m : (b, pairC u v) ∈ l) : s.heap.IsTuple b #[u, v] := by
  obtain ⟨o, ho, hc⟩ := S.has _ m
  have hc : o = _ := hc
  exact ⟨o, ho, by rw [hc], 0, by rw [hc]⟩
/-- what popitem gave -/
def PopC (w : World) (B : Shared) (tc : Cells) (ys : List Value) (n : Nat) : Prop := ys.length = n ∧ ∀ i, i < n → ∃ b kz t, ys[i]? = some (.ref b) ∧ (b, pairC kz (.int (i : Nat) t)) ∈ tc ∧ keyIs pw w B.heap (newKey i) kz
/-- the pairs that are looked for -/
def NewC (tc : Cells) (ys : List Value) (n : Nat) : Prop := ys.length = n ∧ ∀ i, i < n → ∃ b d tk t1 t2, ys[i]? = some (.ref b) ∧ (b, tupC [.ref d, .int (i : Nat) t1]) ∈ tc ∧ (d, tupC [.str (S "new") tk, .int (i : Nat) t2]) ∈ tc
theorem PopC.snoc {w : World} {B : Shared} {tc : Cells} {ys : List Value} {n : Nat} {b : Addr} {kz : Value} {t : Tok} (h : PopC w B tc ys n) (hk : keyIs pw w B.heap (newKey n) kz) : PopC w B ((b, pairC kz (.int (n : Nat) t)) :: tc) (ys ++ [.ref b]) (n + 1) := by
  refine ⟨by rw [List.length_append, h.1]; rfl, fun i hi => ?_⟩
  by_cases q : i < n
  · obtain ⟨b', kz', t', h1, h2, h3⟩ := h.2 i q
    exact ⟨b', kz', t', by rw [List.getElem?_append_left (by rw [h.1]; omega)]; exact h1, .tail _ h2, h3⟩
  · obtain rfl : i = n := by omega
    exact ⟨b, kz, t, by rw [List.getElem?_append_right (by rw [h.1]; omega), h.1, Nat.sub_self]; rfl, .head _, hk⟩
theorem NewC.snoc {tc : Cells} {ys : List Value} {n : Nat} {b d : Addr} {tk t1 t2 : Tok} (h : NewC tc ys n) : NewC ((b, tupC [.ref d, .int (n : Nat) t1]) :: (d, tupC [.str (S "new") tk, .int (n : Nat) t2]) :: tc) (ys ++ [.ref b]) (n + 1) := by
  refine ⟨by rw [List.length_append, h.1]; rfl, fun i hi => ?_⟩
  by_cases q : i < n
  · obtain ⟨b', d', k', t', t'', h1, h2, h3⟩ := h.2 i q
    exact ⟨b', d', k', t', t'', by rw [List.getElem?_append_left (by rw [h.1]; omega)]; exact h1, .tail _ (.tail _ h2), .tail _ (.tail _ h3)⟩
  · obtain rfl : i = n := by omega
    exact ⟨b, d, tk, t1, t2, by rw [List.getElem?_append_right (by rw [h.1]; omega), h.1, Nat.sub_self]; rfl, .head _, .tail _ (.head _)⟩
theorem eqPairs {w : World} {A : Around} {E : Value → Shared → Prop} {B : Shared} {fs : List Env} {l : Cells} {s : Shared} {t1 t2 : Cells} {a b : Addr} {us vs : List Value} {n : Nat} {Q : Value → Shared → Prop} (h1 : PopC w B t1 us n) (h2 : NewC t2 vs n) (S₀ : St B fs l s)
    (m1 : ∀ x ∈ t1, x ∈ l) (m2 : ∀ x ∈ t2, x ∈ l) (ha : (a, listC us) ∈ l) (hb : (b, listC vs) ∈ l) (hA : A.units + 2 < cLine) (h : Q (.bool true) s) : wpAny (model pw w) A (compareOp .Eq (.ref a) (.ref b)) Q E s := by
  have e1 := h1.1
  have e2 := h2.1
  refine EqBoolInt.of_rc (RcAt.lists (e := fun _ => true) (S₀.list ha) (S₀.list hb) (by simp; omega) (by omega) fun j j1 j2 => ?_) ?_
  · have hj : j < n := by simp at j1; omega
    obtain ⟨b1, k1, u1, g1, g2, g3⟩ := h1.2 j hj
    obtain ⟨b2, d2, tk, u2, u3, g4, g5, g6⟩ := h2.2 j hj
    have q1 := (List.getElem?_eq_some_iff.mp g1).2
    have q2 := (List.getElem?_eq_some_iff.mp g4).2
    simp only [List.getElem_toArray]
    rw [q1, q2]
    obtain ⟨o, ho, hoc⟩ := S₀.has _ (m2 _ g6)
    have hoc : o = _ := hoc
    have kk : keyIs pw w s.heap (newKey j) (.ref d2) := ⟨d2, rfl, o, #[.str (S "new") tk, .int (j : Nat) u3], 0, ho, by rw [hoc], by rw [hoc], .cons (by simp [atomKind, Atom.is, Value.isStrOf]) (.cons (by simp [atomKind, Atom.is, Value.isInt]) .nil)⟩
    exact pairsEq (A := A.in1) (by show A.units + 1 + 1 < cLine; omega) (pairTuple S₀ (m1 _ g2)) (pairTuple S₀ (m2 _ g5)) ((keyKind pw w).grows (show (keyKind pw w).is B.heap (newKey j) k1 from g3) S₀.base) kk
  · rw [show (List.range us.toArray.size).all (fun _ => true) = true from List.all_eq_true.mpr fun _ _ => rfl]
    exact h
section
variable {w : World} {A : Around} {B : Shared} {fs : List Env} {l l' c c' : Cells} {s : Shared} {L fa od vd x y nl D G : Addr} {cd : Value} {n n0 pl w4 cnt cnt' j k1 : Nat} {u t tc : Tok} {kd : Kind} {ws : List (Nat × Value)} {k0 : Option Value}
/-- the newcomers come back as they came -/
theorem law12 {Q : Flow → Shared → Prop} (T : Stat (KK w) B.heap) (r : Room (n + 26) fs A) (hc' : cnt' < 800) (h0 : 0 < pl) (hpl5 : pl ≤ 5) (C' : Cach w B (kL w) kd y pl cnt' ws c') (hw : News ws j)
    (S₀ : St B fs (frn L (some (.ref y)) k0 (mW D od vd x nl pl w4 j u t tc) (c' ++ l)) s)
    (h : ∀ z s', St B fs z s' → Q (.ret (.bool true)) s') :
    wpAny (model pw w) A (exec (lst 12) (lenv L fa cd)) Q NoE s := by
  have hlen := C'.len
  rw [hw.len] at hlen
  have hu2 := r.units
  refine wpAny_Return_some ?_
  walk_at "m_wk"
  refine compS (B := B) (fs := fs) (cl := [(Str.ofString "other", L + 1 + 0)]) (by kernel_rfl) rfl (by decide +kernel) (by decide +kernel) ?_
  refine Call_ ?_
  walk_at "m_wk"
  refine PyProof.Rows.callWith_type1 ?_
  refine args_cons ?_
  refine Call_ ?_
  walk_at "m_wk"
  refine PyProof.Rows.callWith_builtin1 ?_
  refine args_cons ?_
  walk_at "m_wk"
  refine args_cons ?_
  walk_at "m_wk"
  refine args_nil ?_
  refine minS r.handled S₀ fun s' t' S1 => ?_
  rw [if_neg (by omega)]
  refine args_nil ?_
  refine rangeS S1 fun rg t₁ t₂ s' S' => ?_
  refine iterRange (n := j) (k := (j : Nat)) (by assumption) rfl (by walk_at "m_mem") (by omega) fun I s' S' => ?_
  have S' := (S'.perm (l' := (rg, _) :: (I, ritC 0 j) :: frn L (some (.ref y)) k0 (mW D od vd x nl pl w4 j u t tc) (c' ++ l)) (by walk_at "m_pm")).tail
  refine ⟨_, S', fun C1 D1 s₃ S₃ => ⟨fun P E' hp => iterRg S₃ (by walk_at "m_mem") hp, ?_⟩⟩
  clear S1
  refine compRange (n := j) (rest₀ := frn L (some (.ref y)) k0 (mW D od vd x nl pl w4 j u t tc) (c' ++ l)) (fun i ys rest => ∃ c' tz, Cach w B (kL w) kd y pl cnt' (ws.drop i) c' ∧ PopC w B tz ys i ∧ i ≤ j ∧ rest = frn L (some (.ref y)) k0 (mW D od vd x nl pl w4 j u t tc) (c' ++ (tz ++ l)))
    (by kernel_rfl) (by decide +kernel) r.handled (S₃.perm (by walk_at "m_pm")) ⟨c', [], C', ⟨rfl, fun i hi => absurd hi (Nat.not_lt_zero _)⟩, Nat.zero_le _, rfl⟩ ?_ ?_ ?_
  · rintro i ys rest ⟨c', tz, C', hp, hi, rfl⟩
    rw [hp.1, sizeLine_eq]; omega
  · rintro i t0 ys rest s hi ⟨c', tz, C', hp, hi', rfl⟩ S
    obtain ⟨tv, hat⟩ := hw.at_ i hi
    have hlt : i < ws.length := by rw [hw.len]; exact hi
    rw [List.drop_eq_getElem_cons hlt, (List.getElem?_eq_some_iff.mp hat).2] at C'
    refine wpAny_tests_nil ?_
    rw [if_pos rfl]
    refine methodCall_KW ?_
    walk_at "m_wk"
    refine cachePop (n := n) (env := compEnvC _ _ _ _) C' hc' T (r.less (by omega)) (St.perm (l' := c' ++ ((I, ritC ((i + 1 : Nat) : Int) ((j : Int) - ((i + 1 : Nat) : Int))) :: (C1, _) :: (D1, listC ys) :: frn L (some (.ref y)) k0 (mW D od vd x nl pl w4 j u t tc) (tz ++ l))) (by assumption) (by walk_at "m_pm")) fun b kz s' c2 hk C2 S2 => ?_
    have hk : keyIs pw w B.heap (fL (7 + i)) kz := hk
    rw [fL_new i] at hk
    refine ⟨_, ⟨c2, (b, pairC kz (.int i tv)) :: tz, C2, hp.snoc hk, hi, rfl⟩, S2.perm ?_⟩
    simp only [List.cons_append]
    walk_at "m_pm"
  · rintro ys rest s ⟨c', tz, C', hp, hi, rfl⟩ S
    refine sliceT (B := B) (fs := fs) ?_
    refine compS (B := B) (fs := fs) (cl := []) (by kernel_rfl) rfl (by decide +kernel) (by decide +kernel) ?_
    refine Call_ ?_
    walk_at "m_wk"
    refine PyProof.Rows.callWith_type1 ?_
    refine args_cons ?_
    walk_at "m_wk"
    refine args_nil ?_
    refine rangeS S fun rg t₁ t₂ s' S' => ?_
    refine iterRange (n := j) (k := (j : Nat)) (by assumption) rfl (by walk_at "m_mem") (by omega) fun I2 s' S' => ?_
    have S' := (S'.perm (l' := (rg, _) :: (I2, ritC 0 j) :: (D1, listC ys) :: frn L (some (.ref y)) k0 (mW D od vd x nl pl w4 j u t tc) (c' ++ (tz ++ l))) (by walk_at "m_pm")).tail
    refine ⟨_, S', fun C2 D2 s₃ S₃ => ⟨fun P E' hp => iterRg S₃ (by walk_at "m_mem") hp, ?_⟩⟩
    refine compRange (n := j) (rest₀ := (D1, listC ys) :: frn L (some (.ref y)) k0 (mW D od vd x nl pl w4 j u t tc) ([] ++ (c' ++ (tz ++ l)))) (fun i ys2 rest => ∃ tz2, NewC tz2 ys2 i ∧ i ≤ j ∧ rest = (D1, listC ys) :: frn L (some (.ref y)) k0 (mW D od vd x nl pl w4 j u t tc) (tz2 ++ (c' ++ (tz ++ l))))
      (by kernel_rfl) (by decide +kernel) r.handled (S₃.perm (by simp only [List.nil_append]; walk_at "m_pm")) ⟨[], ⟨rfl, fun i hi => absurd hi (Nat.not_lt_zero _)⟩, Nat.zero_le _, rfl⟩ ?_ ?_ ?_
    · rintro i ys2 rest ⟨tz2, hp2, hi2, rfl⟩
      rw [hp2.1, sizeLine_eq]; omega
    · rintro i t0 ys2 rest s hi ⟨tz2, hp2, hi2, rfl⟩ S
      refine wpAny_tests_nil ?_
      rw [if_pos rfl]
      refine tupDisp (B := B) (fs := fs) ?_
      refine args_cons ?_
      refine tupDisp (B := B) (fs := fs) ?_
      refine args_cons ?_
      walk_at "m_wk"
      rename_i sA tA SA
      refine args_cons ?_
      walk_at "m_wk"
      refine args_nil ?_
      refine ⟨by rw [sizeLine_eq]; exact Nat.le_of_ble_eq_true rfl, _, by assumption, fun d s' S1 => ?_⟩
      refine args_cons ?_
      walk_at "m_wk"
      refine args_nil ?_
      refine ⟨by rw [sizeLine_eq]; exact Nat.le_of_ble_eq_true rfl, _, S1, fun b s' S2 => ?_⟩
      refine ⟨_, ⟨(b, tupC [.ref d, .int (i : Nat) t0]) :: (d, tupC [.str (Mine.S "new") tA, .int (i : Nat) t0]) :: tz2, hp2.snoc, hi, rfl⟩, S2.perm ?_⟩
      simp only [List.cons_append]
      walk_at "m_pm"
    · rintro ys2 rest s ⟨tz2, hp2, hi2, rfl⟩ S
      refine wpAny_evalPart_some ?_
      walk_at "m_wk"
      refine wpAny_evalPart_none ?_
      rename_i s2 t2 S2
      refine ⟨D2, _, some (-(pl : Int)), none, _, rfl, S2, S2.list (a := D2) (by walk_at "m_mem"), by rw [sizeLine_eq]; have := hp2.1; simp; omega, .int _ _, .none, fun D3 s' S3 => ?_⟩
      rw [pickV pl ys2 h0, lastN_short (by rw [hp2.1]; exact hlen)] at S3
      have mm : ∀ q, q ∈ tz ∨ q ∈ tz2 → q ∈ (D3, listC ys2) :: (D2, listC ys2) :: (D1, listC ys) :: frn L (some (.ref y)) k0 (mW D od vd x nl pl w4 j u t tc) (tz2 ++ (c' ++ (tz ++ l))) := by
        intro q hq
        refine .tail _ (.tail _ (.tail _ (.tail _ (.tail _ (.tail _ ?_)))))
        rcases hq with hq | hq
        · exact List.mem_append_right _ (List.mem_append_right _ (List.mem_append_left _ hq))
        · exact List.mem_append_left _ hq
      refine eqPairs hp hp2 S3 (fun q hq => mm q (.inl hq)) (fun q hq => mm q (.inr hq)) (by walk_at "m_mem") (by walk_at "m_mem") (by omega) ?_
      exact h _ _ S3
end

end
-- L16
section
set_option maxRecDepth 100000
set_option maxHeartbeats 1600000
section
variable {w : World} {A : Around} {B : Shared} {fs : List Env} {l : Cells} {s : Shared} {L fa sc : Addr} {cd : Value} {n : Nat}
theorem Cach.unreg {K : Type} [DecidableEq K] {knd : AnyKind pw w K} {kd : Kind} {x : Addr} {pl cnt : Nat} {st : List (K × Value)} {c : Cells} {m : Int} {τ : Option Addr} (C : Cach w B knd kd x pl cnt st c m τ) (G : Array GenState) : Cach w (gB B G) knd kd x pl cnt st c m τ := C.reg G
theorem dict_reg (G : Array GenState) (xs : List (Nat × Value × Value)) : dictC (kL w) (gB B G) xs = dictC (kL w) B xs := rfl
theorem lawAll {sv : List Value} {ns : List Int} {Q : Flow → Shared → Prop} (T : Stat (KK w) B.heap) (r : Room (n + 26) fs A) (hfs : ∀ b ∈ fs.filterMap (·.frame), b = L) (hl : B.heap.IsList sc sv.toArray) (hi : IntsAre sv ns) (hlen : ns.length ≤ 63)
    (S₀ : St B fs (frn L none none [(Str.ofString "script", .ref sc)] l) s)
    (h : ∀ G B' z s', (G = B.gens ∨ G = B.gens.push .finished) → Ext (gB B G) B' → St B' fs z s' → Q (.ret (.bool true)) s') :
    wpAny (model pw w) A (execs (inside (stP [62])) (lenv L fa cd)) Q NoE s := by
  refine wpAny_execs_cons ?_
  refine law0 hl hi hlen S₀ fun nl nv s' hN S1 => ?_
  have hn0 : 0 < (ns.take 29 ++ [0, 0]).length := by rw [List.length_append]; simp
  refine wpAny_execs_cons ?_
  refine law1 hN hn0 S1 fun w4 t s' h4 S2 => ?_
  refine wpAny_execs_cons ?_
  refine law2 hN hn0 S2 fun pl u s' hpl hpl5 S3 => ?_
  clear S1 S2 S₀
  refine wpAny_execs_cons ?_
  refine law3 (n := n + 5) (m := [(Str.ofString "places", .int (pl : Nat) u), (Str.ofString "which", .int (w4 : Nat) t), num nl, scr sc]) (l := (nl, listC nv) :: l) (kL w) hpl5 h4 T r (.head _) (.tail _ (.head _)) (by walk_at "m_nin") (S3.perm (by walk_at "m_pm")) fun x c y c' s' C C' S4 => ?_
  refine wpAny_execs_cons ?_
  refine law4 (m := [(Str.ofString "told", .ref x), (Str.ofString "places", .int (pl : Nat) u), (Str.ofString "which", .int (w4 : Nat) t), num nl, scr sc]) (kL w) (by walk_at "m_nin") S4 fun vd s' S5 => ?_
  refine wpAny_execs_cons ?_
  refine law5 (m := [(Str.ofString "values", .ref vd), (Str.ofString "told", .ref x), (Str.ofString "places", .int (pl : Nat) u), (Str.ofString "which", .int (w4 : Nat) t), num nl, scr sc]) (l := (vd, dictC (kL w) B []) :: (c ++ (c' ++ (nl, listC nv) :: l))) (by walk_at "m_nin") (S5.perm (by walk_at "m_pm")) fun od s' S6 => ?_
  clear S3 S4 S5
  have S7 := S6.weak (l' := (od, listC []) :: frn L (some (.ref y)) none ((Str.ofString "script", .ref sc) :: mB od vd x nl pl w4 u t) ((vd, dictC (kL w) B []) :: (c ++ (c' ++ (nl, listC nv) :: l))))
    (.keep (.keep (.keep (.names (fun p hp => by
      rcases List.mem_cons.mp hp with rfl | hp
      · walk_at "m_mem"
      · exact List.mem_append_left [scr sc] hp) (.refl _)))))
  have S8 := S7.perm (((((perm1.symm.cons _).cons _).cons _).cons _).cons _)
  have S9 := S8.perm (l' := (vd, dictC (kL w) B []) :: (od, listC []) :: (nl, listC nv) :: frn L (some (.ref y)) none ((Str.ofString "script", .ref sc) :: mB od vd x nl pl w4 u t) (c ++ (c' ++ l))) (by walk_at "m_pm")
  clear S6 S7 S8
  refine wpAny_execs_cons ?_
  refine law6 (n := n) T r fL_small hpl hpl5 h4 hl hi hlen hN C C' S9 fun cnt st xs od ov c c' k0 s' hcnt C C' hov hI hxl S10 => ?_
  clear S9
  refine wpAny_execs_cons ?_
  refine law7 (n := n) (l := (vd, dictC (kL w) B xs) :: (od, listC ov) :: (nl, listC nv) :: (c' ++ l)) T r fL_small (by omega) C hI.lt (S10.perm (by walk_at "m_pm")) fun G D vs ks c1 s' hG hp hv C1 S11 => ?_
  have C1' := C'.unreg G
  clear S10 C C'
  have T1 : Stat (KK w) (gB B G).heap := T
  have hkl : ks.length ≤ 60 := by
    have h1 := hp.length_eq
    rw [List.length_map] at h1
    have := C1.len
    omega
  refine wpAny_execs_cons ?_
  refine law8 (B := gB B G) (n := n) (l := (vd, dictC (kL w) B xs) :: (nl, listC nv) :: (c1 ++ (c' ++ l))) (r.less (by omega)) hv hov hp hkl (S11.perm (by walk_at "m_pm")) T1 fun s' S12 => ?_
  clear S11
  refine wpAny_execs_cons ?_
  refine law9 (B := gB B G) (m := (Str.ofString "left", .ref D) :: mB od vd x nl pl w4 u t) (l := (D, listC vs) :: (od, listC ov) :: (vd, dictC (kL w) B xs) :: (nl, listC nv) :: (c1 ++ (c' ++ l))) (by walk_at "m_nin") (S12.perm (by walk_at "m_pm")) fun tc s' S13 => ?_
  clear S12
  have S14 := (S13.perm (l' := (nl, listC nv) :: (D, listC vs) :: (od, listC ov) :: (vd, dictC (kL w) (gB B G) xs) :: frn L (some (.ref y)) k0 (mW D od vd x nl pl w4 0 u t tc) (c1 ++ (c' ++ l))) (by rw [dict_reg]; walk_at "m_pm")).tail
  clear S13
  refine wpAny_execs_cons ?_
  refine law10 (B0 := gB B G) (n := n) T1 r hfs hpl hpl5 (⟨gB B G, 0, vs, ks, st, [], ov, c1, c', cnt, cnt, tc, k0, Ext.refl _, C1, by rw [List.append_nil]; exact C1', News.nil, hI, hp, hv, hov, hcnt, hcnt, rfl, S14⟩ : WAt w fs L x y D od vd nl pl w4 u t (kdOf w4) xs l (gB B G) _ s') fun B2 j ws c2 c2' cnt1 cnt2 tc k0 s' hE C2 C2' hw hc1 hc2 S15 => ?_
  clear S14
  have T2 : Stat (KK w) B2.heap := T1.ext hE
  have hj : j ≤ pl := by have := C2'.len; rw [hw.len] at this; exact this
  refine wpAny_execs_cons ?_
  refine law11 (n := n) T2 r (by omega) (by omega) C2 C2' S15 fun c3 c3' s' C3 C3' S16 => ?_
  clear S15
  have S17 := S16.perm (((swapApp.cons _).cons _).cons _)
  refine wpAny_execs_cons ?_
  refine law12 (n := n) (l := c3 ++ l) T2 r (by omega) hpl hpl5 C3' hw S17 fun z s' S18 => ?_
  exact h G B2 z s' hG hE S18
end

end
-- L17
section
set_option maxRecDepth 100000
set_option maxHeartbeats 1600000
theorem stat_of {w : World} {mg mb : Str → Option Value} {h : Heap} {loose : List Str} {mean : ExcName → Option Value} (X : (kf w.params).In h) (T : Top qq loose mean mg mb h) : Stat (KK w) h :=
  ⟨X, T.nolimit, mg, mb, T.g, T.b, T.builtins⟩
theorem st_start {s : Shared} {mg : Str → Option Value} (h : s.heap.Ns mainGlobals mg) : St s [] [] s :=
  ⟨fun _ _ h => h, (fun x hx => nomatch hx), List.nodup_nil, (fun x hx => nomatch hx), trivial, rfl, rfl, rfl, (let ⟨o, _, _, ho, _⟩ := h; ⟨o, ho⟩), (fun x hx => nomatch hx), (fun x hx => nomatch hx)⟩
theorem room_start : Room 27 [] callerA := ⟨rfl, by decide +kernel, by decide +kernel, rfl⟩
theorem cells2 (L : Addr) : ∀ i, i < 2 → ∃ n, (cellsFrom (L + 1) scL.names []).lookup n = some (L + 1 + i)
  | 0, _ => ⟨_, hcOther⟩
  | 1, _ => ⟨_, hcKey⟩
theorem bare_law {b g G : Array GenState} (h : b = #[]) (hG : G = b ∨ G = b.push .finished) (e : g = G) : AllBare g := by
  subst h e
  rcases hG with rfl | rfl
  · exact .empty
  · exact AllBare.empty.push rfl
theorem walk1 : WalkO qq ll (fun _ _ => True) (fun w h => (kf w.params).In h) rw1.row.toRowW lawD [] fun f vs => PySem.call f vs := by
  intro w s₀ s₁ mg mb G Y fa o pm cd doc dV kV ho hd hcd hD hmg hg args vals as hpre hlay hrd hwl hlo
  refine Ground.open G ?_
  intro T B D TE TW
  wrow_args hpre hlay hrd hwl hlo
  rename_i ns hs0 lay0 hL1 hr1 hl2 w4 w3 sc sv w0 hL ra w1 r0 hI hr hcond hcond2
  obtain ⟨rfl, rfl⟩ : dV = .none ∧ kV = .none := by
    refine ⟨?_, ?_⟩
    · rcases hD.pos with ⟨_, h⟩ | ⟨h, _⟩
      · exact h
      · exact (h (by kernel_rfl)).elim
    · rcases hD.kw with ⟨_, h⟩ | ⟨h, _⟩
      · exact h
      · exact (h rfl).elim
  refine wpAny_call ?_
  refine callC (n := 26) (k := 2) (body := inside (stP [62])) (x := S "script") (v := .ref sc) (fs := []) (l := []) ho hd hcd rfl rfl rfl rfl (stat_of Y T) (st_start T.g) room_start (by kernel_rfl) (by kernel_rfl) (by decide +kernel) cells2 (by kernel_rfl) (by kernel_rfl) (by kernel_rfl) fun L s' r' S' => ?_
  have hlen : ns.length ≤ 63 := by omega
  refine lawAll (n := 0) (B := s₁) (fs := _) (L := L) (fa := fa) (sc := sc) (cd := cd) (l := []) (sv := sv) (ns := ns) (stat_of Y T) r' (fun b hb => ?_) hL hI hlen (S'.weak (.keep (.keep (.named (.refl _))))) fun G' B' z s' hG hE S' => ?_
  · have : b ∈ [L] := hb
    exact List.mem_singleton.mp this
  · refine ⟨.inl ⟨.bool true, .bool true, [], rfl, fun _ => ?_, .bool true, ?_, fun _ => ⟨List.nodup_nil, fun a h => nomatch h⟩⟩, .of_keep (fun b o e => S'.base b o (hE.heap b o e)), S'.os.trans hE.os, bare_law hg hG (S'.gens.trans hE.gens)⟩
    · rfl
    · kernel_rfl
theorem T_holds : rw1.Holds := law_of_walk walk1

end
end Mine
theorem PySem.Challenge.cw_bg0032_02_holds : PySem.Challenge.rw_bg0032_02.Holds := by
  exact Mine.T_holds
