import PyProof.Rows.All
import PyProof.Raises
import PyProof.RulesTry
import PyProof.Seq
import PyProof.ListIndex
import PyProof.SliceList
import PyProof.Cells
import PyProof.CompFree
import PyProof.PureInt
import PyProof.DefCall
import PyProof.DictKinds
import PyProof.DictCalls
import PyProof.DictTruth
import PyProof.DictStraight
import PyProof.DictIter
import PyProof.DictFindH
import PyProof.TupleKey
import PyProof.DictRoadsH
import PyProof.EnumFor
import PyProof.EnumStmt
import PyProof.EnumMake
import PyProof.IsRules
import PyProof.EqKinds
import PyProof.NeData
import PyProof.StationsW
import PyProof.WalksMore
import PyProof.RangeFor
import PyProof.InstStore
import PyProof.LetGo
import PyProof.ListNew
import PyProof.ListTruth
import PyProof.Rows.TupIter
import PyProof.RulesDel
import PyProof.Rows.Calls2
import PyProof.Rows.AttrNodeAny
import PyProof.Rows.RuleB_mod
import PyProof.Rows.StrKeys3
import PyProof.Rows.StrTemp
import PyProof.Rows.StrRules
import PyProof.RulesDelMore
import PyProof.RulesAssignMore
import PyProof.Rows.SeqMore3
import PyProof.Rows.EqBoolInt
import OpenK.KDescr
import OpenK.KCall
import OpenK.KWalk
import OpenK.KMore
import OpenK.KOps
import OpenK.KMeth
import KE.KCallOwn
import KE.KTab
import KE.KWithOwn
import Wide.FinOn
import OpenK.AllK
import Wide.All
import Lean
import PySem.Challenge.RW_bg0032_01
set_option Elab.async false
set_option maxRecDepth 100000
namespace Mine
open PySem PySem.W PyProof.Rows PySem.Calls Builtin
-- HD1
section
set_option maxRecDepth 100000

/-! ## the head: the top's run, by one evaluation over a tree of objects -/
theorem through_of {t : Thread} (h : endAt 0 t = none) : through t = false := by
  obtain ⟨cur, code, pos, stack⟩ := t
  unfold endAt at h
  unfold through
  cases stack with
  | cons f r => rfl
  | nil =>
    cases cur with
    | pure x => cases x <;> first | rfl | (simp at h)
    | _ => rfl

theorem seg_run {tb : String → Option Builtin} {p : Program} {w : World} {n₀ : Nat} {ann : Option Value} : ∀ {n : Nat} {s s' : Shared} {t t' : Thread}, segGo tb p w n₀ ann 0 n s t = some (s', t') → through t' = true → topRun tb p w n₀ ann (n + 1) s t = some s'
  | 0, s, s', t, t', h, k => by
    obtain ⟨rfl, rfl⟩ : s = s' ∧ t = t' := by simpa [segGo] using h
    unfold topRun
    rw [k]
  | n + 1, s, s', t, t', h, k => by
    unfold segGo at h
    unfold topRun
    cases he : endAt 0 t with
    | some f => rw [he] at h; cases h
    | none =>
      rw [he] at h
      rw [through_of he]
      cases hk : stepOk n₀ ann t with
      | false => rw [hk] at h; cases h
      | true =>
        rw [hk] at h
        cases hs : step (denote tb) p w s t with
        | halt o s₂ => rw [hs] at h; cases h
        | go s₂ t₂ => rw [hs] at h; exact seg_run h k

def insAll : List Obj → Nat → BT → Option BT
  | [], _, T => some T
  | o :: r, n, T => match ((T.ins n o).get n).isSome with
    | true => insAll r (n + 1) (T.ins n o)
    | false => none
theorem insAll_abs {life : Life} : ∀ {l : List Obj} {n : Nat} {T T' : BT}, insAll l n T = some T' → absHeap T' (n + l.length) life = ⟨(absHeap T n life).objs ++ l.toArray, life⟩
  | [], n, T, T', h => by
    obtain rfl := Option.some.inj h
    simp [absHeap]
  | o :: r, n, T, T', h => by
    unfold insAll at h
    cases e : ((T.ins n o).get n).isSome with
    | false => rw [e] at h; cases h
    | true =>
      rw [e] at h
      have ih := insAll_abs (life := life) h
      rw [List.length_cons, show n + (r.length + 1) = n + 1 + r.length by omega, ih, absHeap_ins e]
      show (⟨((absHeap T n life).objs.push o) ++ r.toArray, life⟩ : Heap) = _
      congr 1
      simp
theorem toT_abs {s : Shared} {T : BT} (h : insAll s.heap.objs.toList 0 .nil = some T) : (⟨T, s.heap.objs.size, s.heap.life, s.gens, s.drawn, s.toks, s.os⟩ : SharedT).abs = s := by
  have e := insAll_abs (life := s.heap.life) h
  rw [Nat.zero_add, Array.length_toList] at e
  unfold SharedT.abs
  dsimp only
  rw [e]
  obtain ⟨⟨⟨l⟩, life⟩, gens, drawn, toks, os⟩ := s
  simp [absHeap, BT.list]

/-- the pipeline: the opening, the fence, the top, the looks -/
def pipe {σ : Type} (IMP : (String → Option Builtin) → Program → World → Nat → SharedT → Thread → Option (SharedT × Thread))
    (SEG : (String → Option Builtin) → Program → World → Nat → Option Value → Nat → Nat → SharedT → Thread → Option (SharedT × Thread))
    (FEN : Program → Shared → Option Shared) (ST : Program → Shared × Thread) (TB : String → Option Builtin) (OS : List Str → Shared → σ) (p : Program) (as : List Addr) (m1 m2 : Nat) (w : World) : Option (Bool × σ × List (Option Obj)) :=
  match IMP TB (opening p) w m1 ⟨.nil, 0, {}, #[], {}, 1, (ST (opening p)).1.os⟩ (ST (opening p)).2 with
  | none => none
  | some (s1, t1) => match t1.atExitBegin with
    | some [] => match FEN p s1.abs with
      | none => none
      | some s0 => match insAll s0.heap.objs.toList 0 .nil with
        | none => none
        | some T0 => match s0.heap.isNs mainGlobals && s0.gens.size == 0 with
          | false => none
          | true => match SEG TB p w s0.heap.objs.size (s0.heap.nsMap mainGlobals "__annotations__") 0 m2 ⟨T0, s0.heap.objs.size, s0.heap.life, s0.gens, s0.drawn, s0.toks, s0.os⟩ (topStub p) with
            | none => none
            | some (s2, t2) => match through t2 with
              | false => none
              | true => some ((staticsOk (importedModules p.main.body) s0.heap s2.abs.heap && namesBound p s2.abs.heap && gensDone s2.abs && laidKept s0.heap s2.abs.heap) && as.all fun a => Nat.blt a s2.n && (s2.tree.get a).isSome, OS (importedModules p.main.body) s2.abs, as.map fun a => match s2.tree.get a with
                | some o => alive o
                | none => none)
    | _ => none

theorem start_abs (p : Program) : (⟨.nil, 0, {}, #[], {}, 1, (start p).1.os⟩ : SharedT).abs = (start p).1 := rfl

theorem left_of_pipe {p q : Program} {loose : List Str} {Xt : Shared → Bool} {as : List Addr} {Ya : World → List (Option Obj)} {m1 m2 : Nat} (k : Nat)
    (h : ∀ w, pipe impGoT segGoT fenceModules? start treeTable (fun mods s => openSeen q loose mods Xt true s) p as m1 m2 w = some (true, openGood q loose, Ya w)) :
    LeftO p q loose Xt (fun s => as.map s.heap.get?) Ya (m1 + 1 + (m2 + 1) + k) := fun w => by
  have h := h w
  unfold pipe at h
  cases e1 : impGoT treeTable (opening p) w m1 ⟨.nil, 0, {}, #[], {}, 1, (start (opening p)).1.os⟩ (start (opening p)).2 with
  | none => rw [e1] at h; cases h
  | some st =>
    obtain ⟨s1, t1⟩ := st
    rw [e1] at h
    dsimp only at h
    have g1 := impGo_of e1
    rw [start_abs] at g1
    have g2 : t1.atExitBegin = some [] := by
      cases e2 : t1.atExitBegin with
      | none => rw [e2] at h; cases h
      | some l =>
        rw [e2] at h
        cases l with
        | nil => rfl
        | cons a r => cases h
    rw [g2] at h
    dsimp only at h
    have i1 : importEnds treeTable (opening p) w 1 s1.abs t1 = some s1.abs := by
      unfold importEnds
      rw [g2]
    have i2 := importEnds_mono (m2 + 1 + k) _ _ _ _ (imp_go g1 i1)
    rw [← Nat.add_assoc] at i2
    cases e3 : fenceModules? p s1.abs with
    | none => rw [e3] at h; cases h
    | some s0 =>
      rw [e3] at h
      dsimp only at h
      cases e4 : insAll s0.heap.objs.toList 0 .nil with
      | none => rw [e4] at h; cases h
      | some T0 =>
        rw [e4] at h
        dsimp only at h
        cases e5 : (s0.heap.isNs mainGlobals && s0.gens.size == 0) with
        | false => rw [e5] at h; cases h
        | true =>
          rw [e5] at h
          dsimp only at h
          cases e6 : segGoT treeTable p w s0.heap.objs.size (s0.heap.nsMap mainGlobals "__annotations__") 0 m2 ⟨T0, s0.heap.objs.size, s0.heap.life, s0.gens, s0.drawn, s0.toks, s0.os⟩ (topStub p) with
          | none => rw [e6] at h; cases h
          | some st2 =>
            obtain ⟨s2, t2⟩ := st2
            rw [e6] at h
            dsimp only at h
            cases e7 : through t2 with
            | false => rw [e7] at h; cases h
            | true =>
              rw [e7] at h
              dsimp only at h
              have h := Option.some.inj h
              obtain ⟨h1, h2⟩ := Prod.mk.inj h
              obtain ⟨h2, h3⟩ := Prod.mk.inj h2
              obtain ⟨h1, h4⟩ := Bool.and_eq_true_iff.mp h1
              have r := seg_run (segGo_of e6) e7
              rw [toT_abs e4] at r
              have r' := topRun_mono (m1 + 1 + k) _ _ _ _ r
              rw [show m2 + 1 + (m1 + 1 + k) = m1 + 1 + (m2 + 1) + k by omega] at r'
              have t : topFrom treeTable p w (m1 + 1 + (m2 + 1) + k) s0 = some s2.abs := by
                unfold topFrom
                rw [e5]
                dsimp only
                rw [r']
                show (match staticsOk (importedModules p.main.body) s0.heap s2.abs.heap && namesBound p s2.abs.heap && gensDone s2.abs && laidKept s0.heap s2.abs.heap with | true => _ | false => _) = _
                rw [h1]
              unfold openEnds fencedOpening
              rw [i2]
              show ((fenceModules? p s1.abs).bind _).map _ = _
              rw [e3]
              show (topFrom treeTable p w _ s0).map _ = _
              rw [t]
              refine congrArg some (Prod.ext h2 ?_)
              show as.map s2.abs.heap.get? = Ya w
              rw [← h3]
              refine List.map_congr_left fun a ha => ?_
              obtain ⟨lt, sm⟩ := Bool.and_eq_true_iff.mp (List.all_eq_true.mp h4 a ha)
              have lt : a < s2.n := Nat.le_of_ble_eq_true lt
              cases g : s2.tree.get a with
              | some o => exact (abs_get lt g).symm ▸ rfl
              | none => rw [g] at sm; cases sm

theorem left_of_fast {IMP : (String → Option Builtin) → Program → World → Nat → SharedT → Thread → Option (SharedT × Thread)}
    {SEG : (String → Option Builtin) → Program → World → Nat → Option Value → Nat → Nat → SharedT → Thread → Option (SharedT × Thread)}
    {FEN : Program → Shared → Option Shared} {ST : Program → Shared × Thread} {TB : String → Option Builtin}
    {p q : Program} {loose : List Str} {Xt : Shared → Bool} {as : List Addr} {Ya : World → List (Option Obj)} {m1 m2 : Nat}
    (OSF : ∀ (q : Program) (loose mods : List Str) (Xt : Shared → Bool) (g0 : Bool) (s : Shared), _) (e1 : @impGoT = IMP) (e2 : @segGoT = SEG) (e3 : @fenceModules? = FEN) (e4 : @start = ST) (e5 : treeTable = TB) (e6 : @openSeen = OSF)
    (h : ∀ w, pipe IMP SEG FEN ST TB (fun mods s => OSF q loose mods Xt true s) p as m1 m2 w = some (true, openGood q loose, Ya w)) :
    LeftO p q loose Xt (fun s => as.map s.heap.get?) Ya (m1 + 1 + (m2 + 1)) := by
  subst e1 e2 e3 e4 e5 e6
  exact left_of_pipe 0 h

end
-- KF1
section
set_option maxRecDepth 100000
set_option maxHeartbeats 0
abbrev pw : Program := PySem.Challenge.pw_bg0032_01
abbrev S (s : String) : Str := Str.ofString s
def en (P : Params) (k : String) (t : Tok) (v : Value) : DictEntry := ⟨PyData.keyHash P (S k), .str (S k) t, v⟩
def inside : Stmt → List Stmt
  | .ClassDef _ _ _ b _ _ _ _ _ _ _ => b
  | .FunctionDef _ _ b _ _ _ _ _ _ _ => b
  | _ => []
def stIn (l : List Stmt) (i : Nat) : Stmt := l.getD i (.Pass default)
def stP : List Nat → Stmt
  | [i] => stIn pw.main.body i
  | [i, j] => stIn (inside (stIn pw.main.body i)) j
  | [i, j, k] => stIn (inside (stIn (inside (stIn pw.main.body i)) j)) k
  | _ => .Pass default
def paramsOf : Stmt → Arguments
  | .FunctionDef _ a _ _ _ _ _ _ _ _ => a
  | _ => default
def scopeOf : Stmt → Scope
  | .FunctionDef _ _ _ _ _ _ sc _ _ _ => sc
  | _ => default
def fnD (name qual : String) (path : List Nat) (dfl code mod : Value) : FuncData :=
  { name := S name, qualname := S qual, params := paramsOf (stP path), body := .stmts (inside (stP path)), scope := scopeOf (stP path), globals := 3, closure := [], defaults := dfl, kwdefaults := .none, doc := .none, pyModule := mod, annotations := none, code := code, closureTuple := .none, builtins := 0 }
def kf_2 (P : Params) : Obj :=
  let _ := P
  ⟨.none, none, .dict #[en P "\x69mport.loaded._collections" 185 (.bool true), en P "class._frozen_importlib.BuiltinImporter" 187 (.ref 15), en P "watched.\x69mport" 208 (.ref 19), en P "class._frozen_importlib.ModuleSpec" 218 (.ref 23), en P "sys.modules.booked-epoch" 247 (.int 4 0), en P "sys.modules.landed._collections" 248 (.bool true), en P "\x69mport.later-laid._collections" 263 (.bool true), en P "watched.library" 265 (.ref 28), en P "watched.library-objects" 0 (.str ⟨#[13, 31]⟩ 0), en P "watched.library-deep._collections" 266 (.str ⟨#[4, 0, 0, 12, 4, 0, 0, 12, 4, 0, 0, 3, 4, 0, 0, 12, 8, 4, 100, 105, 99, 116, 2]⟩ 0), en P "\x69mport.loaded._heapq" 279 (.bool true), en P "class._frozen_importlib_external._LoaderBasics" 284 (.ref 34), en P "class._frozen_importlib_external.FileLoader" 300 (.ref 39), en P "class._frozen_importlib_external.ExtensionFileLoader" 321 (.ref 44), en P "\x69mport.later-laid._heapq" 369 (.bool true)] 15, #[]⟩
def kf_3 (P : Params) : Obj :=
  let _ := P
  ⟨(.type "dict"), none, .dict #[en P "__name__" 165 (.str (S "law_bg0032_01") 2281), en P "__doc__" 166 .none, en P "__package__" 167 .none, en P "__loader__" 168 (.builtin "__main__.__loader__#opaque"), en P "__spec__" 169 .none, en P "__annotations__" 170 (.ref 6), en P "__builtins__" 171 (.ref 4), en P "__file__" 173 (.str (S "/claim/cut.py") 172), en P "__cached__" 174 .none, en P "deque" 272 (.type "collections.deque"), en P "heapify" 376 (.builtin "_heapq.heapify"), en P "heappop" 379 (.builtin "_heapq.heappop"), en P "heappush" 382 (.builtin "_heapq.heappush"), en P "_wall" 395 (.ref 60), en P "_pe_dict" 403 (.ref 67), en P "_pe_name" 410 (.ref 74), en P "ABCMeta" 436 (.ref 91), en P "_ABCLike" 479 (.ref 124), en P "_abc_plain_meta" 486 (.ref 133), en P "_abc_has_iter" 493 (.ref 140), en P "_abc_has_len" 500 (.ref 147), en P "_abc_has_contains" 507 (.ref 154), en P "_abc_is_mappingproxy" 514 (.ref 161), en P "_abc_is_builtin_collection" 521 (.ref 168), en P "Iterable" 562 (.ref 201), en P "Sized" 599 (.ref 231), en P "Container" 646 (.ref 267), en P "Collection" 676 (.ref 290), en P "Set" 833 (.ref 406), en P "Mapping" 921 (.ref 478), en P "MappingView" 989 (.ref 528), en P "KeysView" 1049 (.ref 575), en P "ItemsView" 1113 (.ref 620), en P "ValuesView" 1156 (.ref 655), en P "MutableMapping" 1245 (.ref 730), en P "Cache" 1431 (.ref 865), en P "FIFOCache" 1494 (.ref 917), en P "LRUCache" 1576 (.ref 982), en P "_TimedCache" 1753 (.ref 1128), en P "monotonic" 1763 (.ref 1137), en P "TTLCache" 1962 (.ref 1270), en P "_gt_from_lt" 1973 (.ref 1279), en P "_le_from_lt" 1982 (.ref 1286), en P "_ge_from_lt" 1991 (.ref 1293), en P "_ge_from_le" 2000 (.ref 1300), en P "_lt_from_le" 2009 (.ref 1307), en P "_gt_from_le" 2018 (.ref 1314), en P "_lt_from_gt" 2027 (.ref 1321), en P "_ge_from_gt" 2036 (.ref 1328), en P "_le_from_gt" 2045 (.ref 1335), en P "_le_from_ge" 2054 (.ref 1342), en P "_gt_from_ge" 2063 (.ref 1349), en P "_lt_from_ge" 2072 (.ref 1356), en P "total_ordering" 2083 (.ref 1363), en P "TLRUCache" 2280 (.ref 1488), en P "_law_asks" 2288 (.ref 1497), en P "_law_hits" 2300 (.ref 1502), en P "_law_clock" 2306 (.ref 1509), en P "_law_end" 2315 (.ref 1516), en P "law" 2321 (.ref 1521)] 60, #[]⟩
def kf_90 (P : Params) : Obj :=
  let _ := P
  ⟨(.type "dict"), none, .dict #[en P "__module__" 420 (.str (S "abc") 411), en P "__firstlineno__" 424 (.int 16 423), en P "register" 432 (.ref 88), en P "__static_attributes__" 433 (.ref 89), en P "__doc__" 434 .none] 2, #[]⟩
def kf_91 (P : Params) : Obj :=
  let _ := P
  ⟨(.type "type"), none, .cls { name := S "ABCMeta", bases := [(.type "type")], mro := [(.ref 91), (.type "type"), (.type "object")], ns := 90, qualname := S "ABCMeta", hasDict := true, slotNames := [], subclasses := [(.ref 124)], abstract := false, collection := none, hasDel := false }, #[(some (.ref 75)), none, (some (.str (S "ABCMeta") 413)), (some (.str (S "ABCMeta") 421)), (some (.builtin "type.__new__")), (some (.bool true))]⟩
def kf_123 (P : Params) : Obj :=
  let _ := P
  ⟨(.type "dict"), none, .dict #[en P "__module__" 446 (.str (S "collections.abc") 437), en P "__firstlineno__" 450 (.int 21 449), en P "__instancecheck__" 459 (.ref 107), en P "__subclasscheck__" 467 (.ref 114), en P "register" 475 (.ref 121), en P "__static_attributes__" 476 (.ref 122), en P "__doc__" 477 .none] 2, #[]⟩
def kf_124 (P : Params) : Obj :=
  let _ := P
  ⟨(.type "type"), none, .cls { name := S "_ABCLike", bases := [(.ref 91)], mro := [(.ref 124), (.ref 91), (.type "type"), (.type "object")], ns := 123, qualname := S "_ABCLike", hasDict := true, slotNames := [], subclasses := [], abstract := false, collection := none, hasDel := false }, #[(some (.ref 94)), none, (some (.str (S "_ABCLike") 439)), (some (.str (S "_ABCLike") 447)), (some (.builtin "type.__new__")), (some (.bool true))]⟩
def kf_200 (P : Params) : Obj :=
  let _ := P
  ⟨(.type "dict"), none, .dict #[en P "__module__" 529 (.str (S "collections.abc") 437), en P "__firstlineno__" 533 (.int 52 532), en P "__slots__" 534 (.ref 176), en P "__iter__" 541 (.ref 183), en P "_abc_kind" 549 (.ref 190), en P "__class_getitem__" 557 (.ref 202), en P "__static_attributes__" 558 (.ref 198), en P "__doc__" 560 .none, en P "__abstractmethods__" 567 (.ref 205)] 3, #[]⟩
def kf_201 (P : Params) : Obj :=
  let _ := P
  ⟨(.ref 124), none, .cls { name := S "Iterable", bases := [(.type "object")], mro := [(.ref 201), (.type "object")], ns := 200, qualname := S "Iterable", hasDict := false, slotNames := [], subclasses := [(.ref 290)], abstract := true, collection := none, hasDel := false }, #[none, none, (some (.str (S "Iterable") 522)), (some (.str (S "Iterable") 530)), (some (.builtin "object.__new__")), (some (.bool false))]⟩
def kf_230 (P : Params) : Obj :=
  let _ := P
  ⟨(.type "dict"), none, .dict #[en P "__module__" 575 (.str (S "collections.abc") 437), en P "__firstlineno__" 579 (.int 68 578), en P "__slots__" 580 (.ref 213), en P "__len__" 587 (.ref 220), en P "_abc_kind" 595 (.ref 227), en P "__static_attributes__" 596 (.ref 228), en P "__doc__" 597 .none, en P "__abstractmethods__" 604 (.ref 234)] 3, #[]⟩
def kf_231 (P : Params) : Obj :=
  let _ := P
  ⟨(.ref 124), none, .cls { name := S "Sized", bases := [(.type "object")], mro := [(.ref 231), (.type "object")], ns := 230, qualname := S "Sized", hasDict := false, slotNames := [], subclasses := [(.ref 290), (.ref 528)], abstract := true, collection := none, hasDel := false }, #[none, none, (some (.str (S "Sized") 568)), (some (.str (S "Sized") 576)), (some (.builtin "object.__new__")), (some (.bool false))]⟩
def kf_266 (P : Params) : Obj :=
  let _ := P
  ⟨(.type "dict"), none, .dict #[en P "__module__" 612 (.str (S "collections.abc") 437), en P "__firstlineno__" 616 (.int 80 615), en P "__slots__" 617 (.ref 242), en P "__contains__" 625 (.ref 249), en P "_abc_kind" 633 (.ref 256), en P "__class_getitem__" 641 (.ref 268), en P "__static_attributes__" 642 (.ref 264), en P "__doc__" 644 .none, en P "__abstractmethods__" 651 (.ref 271)] 3, #[]⟩
def kf_267 (P : Params) : Obj :=
  let _ := P
  ⟨(.ref 124), none, .cls { name := S "Container", bases := [(.type "object")], mro := [(.ref 267), (.type "object")], ns := 266, qualname := S "Container", hasDict := false, slotNames := [], subclasses := [(.ref 290)], abstract := true, collection := none, hasDel := false }, #[none, none, (some (.str (S "Container") 605)), (some (.str (S "Container") 613)), (some (.builtin "object.__new__")), (some (.bool false))]⟩
def kf_289 (P : Params) : Obj :=
  let _ := P
  ⟨(.type "dict"), none, .dict #[en P "__module__" 659 (.str (S "collections.abc") 437), en P "__firstlineno__" 663 (.int 95 662), en P "__slots__" 664 (.ref 279), en P "_abc_kind" 672 (.ref 286), en P "__static_attributes__" 673 (.ref 287), en P "__doc__" 674 .none, en P "__abstractmethods__" 683 (.ref 293)] 3, #[]⟩
def kf_290 (P : Params) : Obj :=
  let _ := P
  ⟨(.ref 124), none, .cls { name := S "Collection", bases := [(.ref 231), (.ref 201), (.ref 267)], mro := [(.ref 290), (.ref 231), (.ref 201), (.ref 267), (.type "object")], ns := 289, qualname := S "Collection", hasDict := false, slotNames := [], subclasses := [(.ref 406), (.ref 478), (.ref 655)], abstract := true, collection := none, hasDel := false }, #[(some (.ref 272)), none, (some (.str (S "Collection") 652)), (some (.str (S "Collection") 660)), (some (.builtin "object.__new__")), (some (.bool false))]⟩
def kf_477 (P : Params) : Obj :=
  let _ := P
  ⟨(.type "dict"), none, .dict #[en P "__module__" 848 (.str (S "collections.abc") 437), en P "__firstlineno__" 852 (.int 195 851), en P "__slots__" 853 (.ref 417), en P "__getitem__" 861 (.ref 424), en P "get" 870 (.ref 432), en P "__contains__" 878 (.ref 439), en P "keys" 885 (.ref 446), en P "items" 892 (.ref 453), en P "values" 899 (.ref 460), en P "__eq__" 907 (.ref 467), en P "__reversed__" 908 .none, en P "_abc_kind" 916 (.ref 474), en P "__static_attributes__" 917 (.ref 475), en P "__doc__" 918 .none, en P "__hash__" 919 .none, en P "__abstractmethods__" 928 (.ref 481)] 4, #[]⟩
def kf_478 (P : Params) : Obj :=
  let _ := P
  ⟨(.ref 124), none, .cls { name := S "Mapping", bases := [(.ref 290)], mro := [(.ref 478), (.ref 290), (.ref 231), (.ref 201), (.ref 267), (.type "object")], ns := 477, qualname := S "Mapping", hasDict := false, slotNames := [], subclasses := [(.ref 730)], abstract := true, collection := none, hasDel := false }, #[(some (.ref 410)), none, (some (.str (S "Mapping") 841)), (some (.str (S "Mapping") 849)), (some (.builtin "object.__new__")), (some (.bool false))]⟩
def kf_729 (P : Params) : Obj :=
  let _ := P
  ⟨(.type "dict"), none, .dict #[en P "__module__" 1164 (.str (S "collections.abc") 437), en P "__firstlineno__" 1168 (.int 319 1167), en P "__slots__" 1169 (.ref 665), en P "__setitem__" 1178 (.ref 672), en P "__delitem__" 1186 (.ref 679), en P "_MutableMapping__marker" 1187 (.ref 680), en P "pop" 1197 (.ref 688), en P "popitem" 1206 (.ref 695), en P "clear" 1213 (.ref 702), en P "update" 1224 (.ref 711), en P "setdefault" 1233 (.ref 719), en P "_abc_kind" 1241 (.ref 726), en P "__static_attributes__" 1242 (.ref 727), en P "__doc__" 1243 .none, en P "__abstractmethods__" 1254 (.ref 733)] 3, #[]⟩
def kf_730 (P : Params) : Obj :=
  let _ := P
  ⟨(.ref 124), none, .cls { name := S "MutableMapping", bases := [(.ref 478)], mro := [(.ref 730), (.ref 478), (.ref 290), (.ref 231), (.ref 201), (.ref 267), (.type "object")], ns := 729, qualname := S "MutableMapping", hasDict := false, slotNames := [], subclasses := [(.ref 865)], abstract := true, collection := none, hasDel := false }, #[(some (.ref 658)), none, (some (.str (S "MutableMapping") 1157)), (some (.str (S "MutableMapping") 1165)), (some (.builtin "object.__new__")), (some (.bool false))]⟩
def kf_741 (P : Params) : Obj :=
  let _ := P
  ⟨(.type "object"), none, .plain, #[]⟩
def kf_742 (P : Params) : Obj :=
  let _ := P
  ⟨(.type "tuple"), none, .seq #[.none] 0, #[]⟩
def kf_748 (P : Params) : Obj :=
  let _ := P
  ⟨(.type "code"), none, .fields #[(.str (S "__init__") 1271), (.str (S "Cache.__init__") 1272), (.str (S "/claim/cut.py") 1273), (.int 379 0), (.int 3 0), (.int 0 0), (.int 0 0), (.int 3 0), (.ref 743), (.bool true), (.int 383 0), (.ref 744), .none, (.ref 745), (.ref 746), (.ref 747), (.int 1277 0), (.int 379 0), (.str (S "/claim/cut.py") 1278)], #[]⟩
def kf_749 (P : Params) : Obj :=
  let _ := P
  ⟨(.type "function"), none, .func (fnD "__init__" "Cache.__init__" [34, 2] (.ref 742) (.ref 748) (.str (S "cachetools") 1255)), #[]⟩
def kf_755 (P : Params) : Obj :=
  let _ := P
  ⟨(.type "code"), none, .fields #[(.str (S "__repr__") 1280), (.str (S "Cache.__repr__") 1281), (.str (S "/claim/cut.py") 1282), (.int 390 0), (.int 1 0), (.int 0 0), (.int 0 0), (.int 3 0), (.ref 750), (.bool true), (.int 383 0), (.ref 751), .none, (.ref 752), (.ref 753), (.ref 754), (.int 1284 0), (.int 390 0), (.str (S "/claim/cut.py") 1285)], #[]⟩
def kf_756 (P : Params) : Obj :=
  let _ := P
  ⟨(.type "function"), none, .func (fnD "__repr__" "Cache.__repr__" [34, 3] .none (.ref 755) (.str (S "cachetools") 1255)), #[]⟩
def kf_762 (P : Params) : Obj :=
  let _ := P
  ⟨(.type "code"), none, .fields #[(.str (S "__getitem__") 1287), (.str (S "Cache.__getitem__") 1288), (.str (S "/claim/cut.py") 1289), (.int 393 0), (.int 2 0), (.int 0 0), (.int 0 0), (.int 3 0), (.ref 757), (.bool true), (.int 383 0), (.ref 758), .none, (.ref 759), (.ref 760), (.ref 761), (.int 1292 0), (.int 393 0), (.str (S "/claim/cut.py") 1293)], #[]⟩
def kf_763 (P : Params) : Obj :=
  let _ := P
  ⟨(.type "function"), none, .func (fnD "__getitem__" "Cache.__getitem__" [34, 4] .none (.ref 762) (.str (S "cachetools") 1255)), #[]⟩
def kf_769 (P : Params) : Obj :=
  let _ := P
  ⟨(.type "code"), none, .fields #[(.str (S "__setitem__") 1295), (.str (S "Cache.__setitem__") 1296), (.str (S "/claim/cut.py") 1297), (.int 399 0), (.int 3 0), (.int 0 0), (.int 0 0), (.int 3 0), (.ref 764), (.bool true), (.int 383 0), (.ref 765), .none, (.ref 766), (.ref 767), (.ref 768), (.int 1306 0), (.int 399 0), (.str (S "/claim/cut.py") 1307)], #[]⟩
def kf_770 (P : Params) : Obj :=
  let _ := P
  ⟨(.type "function"), none, .func (fnD "__setitem__" "Cache.__setitem__" [34, 5] .none (.ref 769) (.str (S "cachetools") 1255)), #[]⟩
def kf_776 (P : Params) : Obj :=
  let _ := P
  ⟨(.type "code"), none, .fields #[(.str (S "__delitem__") 1309), (.str (S "Cache.__delitem__") 1310), (.str (S "/claim/cut.py") 1311), (.int 433 0), (.int 2 0), (.int 0 0), (.int 0 0), (.int 3 0), (.ref 771), (.bool true), (.int 383 0), (.ref 772), .none, (.ref 773), (.ref 774), (.ref 775), (.int 1316 0), (.int 433 0), (.str (S "/claim/cut.py") 1317)], #[]⟩
def kf_777 (P : Params) : Obj :=
  let _ := P
  ⟨(.type "function"), none, .func (fnD "__delitem__" "Cache.__delitem__" [34, 6] .none (.ref 776) (.str (S "cachetools") 1255)), #[]⟩
def kf_783 (P : Params) : Obj :=
  let _ := P
  ⟨(.type "code"), none, .fields #[(.str (S "__contains__") 1319), (.str (S "Cache.__contains__") 1320), (.str (S "/claim/cut.py") 1321), (.int 443 0), (.int 2 0), (.int 0 0), (.int 0 0), (.int 3 0), (.ref 778), (.bool true), (.int 383 0), (.ref 779), .none, (.ref 780), (.ref 781), (.ref 782), (.int 1324 0), (.int 443 0), (.str (S "/claim/cut.py") 1325)], #[]⟩
def kf_784 (P : Params) : Obj :=
  let _ := P
  ⟨(.type "function"), none, .func (fnD "__contains__" "Cache.__contains__" [34, 7] .none (.ref 783) (.str (S "cachetools") 1255)), #[]⟩
def kf_790 (P : Params) : Obj :=
  let _ := P
  ⟨(.type "code"), none, .fields #[(.str (S "__missing__") 1327), (.str (S "Cache.__missing__") 1328), (.str (S "/claim/cut.py") 1329), (.int 446 0), (.int 2 0), (.int 0 0), (.int 0 0), (.int 3 0), (.ref 785), (.bool true), (.int 383 0), (.ref 786), .none, (.ref 787), (.ref 788), (.ref 789), (.int 1332 0), (.int 446 0), (.str (S "/claim/cut.py") 1333)], #[]⟩
def kf_791 (P : Params) : Obj :=
  let _ := P
  ⟨(.type "function"), none, .func (fnD "__missing__" "Cache.__missing__" [34, 8] .none (.ref 790) (.str (S "cachetools") 1255)), #[]⟩
def kf_797 (P : Params) : Obj :=
  let _ := P
  ⟨(.type "code"), none, .fields #[(.str (S "__iter__") 1335), (.str (S "Cache.__iter__") 1336), (.str (S "/claim/cut.py") 1337), (.int 449 0), (.int 1 0), (.int 0 0), (.int 0 0), (.int 3 0), (.ref 792), (.bool true), (.int 383 0), (.ref 793), .none, (.ref 794), (.ref 795), (.ref 796), (.int 1339 0), (.int 449 0), (.str (S "/claim/cut.py") 1340)], #[]⟩
def kf_798 (P : Params) : Obj :=
  let _ := P
  ⟨(.type "function"), none, .func (fnD "__iter__" "Cache.__iter__" [34, 9] .none (.ref 797) (.str (S "cachetools") 1255)), #[]⟩
def kf_804 (P : Params) : Obj :=
  let _ := P
  ⟨(.type "code"), none, .fields #[(.str (S "__len__") 1342), (.str (S "Cache.__len__") 1343), (.str (S "/claim/cut.py") 1344), (.int 452 0), (.int 1 0), (.int 0 0), (.int 0 0), (.int 3 0), (.ref 799), (.bool true), (.int 383 0), (.ref 800), .none, (.ref 801), (.ref 802), (.ref 803), (.int 1346 0), (.int 452 0), (.str (S "/claim/cut.py") 1347)], #[]⟩
def kf_805 (P : Params) : Obj :=
  let _ := P
  ⟨(.type "function"), none, .func (fnD "__len__" "Cache.__len__" [34, 10] .none (.ref 804) (.str (S "cachetools") 1255)), #[]⟩
def kf_806 (P : Params) : Obj :=
  let _ := P
  ⟨(.type "tuple"), none, .seq #[.none] 0, #[]⟩
def kf_812 (P : Params) : Obj :=
  let _ := P
  ⟨(.type "code"), none, .fields #[(.str (S "get") 1349), (.str (S "Cache.get") 1350), (.str (S "/claim/cut.py") 1351), (.int 455 0), (.int 3 0), (.int 0 0), (.int 0 0), (.int 3 0), (.ref 807), (.bool true), (.int 383 0), (.ref 808), .none, (.ref 809), (.ref 810), (.ref 811), (.int 1355 0), (.int 455 0), (.str (S "/claim/cut.py") 1356)], #[]⟩
def kf_813 (P : Params) : Obj :=
  let _ := P
  ⟨(.type "function"), none, .func (fnD "get" "Cache.get" [34, 11] (.ref 806) (.ref 812) (.str (S "cachetools") 1255)), #[]⟩
def kf_814 (P : Params) : Obj :=
  let _ := P
  ⟨(.type "tuple"), none, .seq #[(.ref 741)] 0, #[]⟩
def kf_820 (P : Params) : Obj :=
  let _ := P
  ⟨(.type "code"), none, .fields #[(.str (S "pop") 1358), (.str (S "Cache.pop") 1359), (.str (S "/claim/cut.py") 1360), (.int 461 0), (.int 3 0), (.int 0 0), (.int 0 0), (.int 3 0), (.ref 815), (.bool true), (.int 383 0), (.ref 816), .none, (.ref 817), (.ref 818), (.ref 819), (.int 1365 0), (.int 461 0), (.str (S "/claim/cut.py") 1366)], #[]⟩
def kf_821 (P : Params) : Obj :=
  let _ := P
  ⟨(.type "function"), none, .func (fnD "pop" "Cache.pop" [34, 12] (.ref 814) (.ref 820) (.str (S "cachetools") 1255)), #[]⟩
def kf_822 (P : Params) : Obj :=
  let _ := P
  ⟨(.type "tuple"), none, .seq #[.none] 0, #[]⟩
def kf_828 (P : Params) : Obj :=
  let _ := P
  ⟨(.type "code"), none, .fields #[(.str (S "setdefault") 1368), (.str (S "Cache.setdefault") 1369), (.str (S "/claim/cut.py") 1370), (.int 471 0), (.int 3 0), (.int 0 0), (.int 0 0), (.int 3 0), (.ref 823), (.bool true), (.int 383 0), (.ref 824), .none, (.ref 825), (.ref 826), (.ref 827), (.int 1374 0), (.int 471 0), (.str (S "/claim/cut.py") 1375)], #[]⟩
def kf_829 (P : Params) : Obj :=
  let _ := P
  ⟨(.type "function"), none, .func (fnD "setdefault" "Cache.setdefault" [34, 13] (.ref 822) (.ref 828) (.str (S "cachetools") 1255)), #[]⟩
def kf_835 (P : Params) : Obj :=
  let _ := P
  ⟨(.type "code"), none, .fields #[(.str (S "clear") 1377), (.str (S "Cache.clear") 1378), (.str (S "/claim/cut.py") 1379), (.int 474 0), (.int 1 0), (.int 0 0), (.int 0 0), (.int 3 0), (.ref 830), (.bool true), (.int 383 0), (.ref 831), .none, (.ref 832), (.ref 833), (.ref 834), (.int 1381 0), (.int 474 0), (.str (S "/claim/cut.py") 1382)], #[]⟩
def kf_836 (P : Params) : Obj :=
  let _ := P
  ⟨(.type "function"), none, .func (fnD "clear" "Cache.clear" [34, 14] .none (.ref 835) (.str (S "cachetools") 1255)), #[]⟩
def kf_842 (P : Params) : Obj :=
  let _ := P
  ⟨(.type "code"), none, .fields #[(.str (S "maxsize") 1384), (.str (S "Cache.maxsize") 1385), (.str (S "/claim/cut.py") 1386), (.int 477 0), (.int 1 0), (.int 0 0), (.int 0 0), (.int 3 0), (.ref 837), (.bool true), (.int 383 0), (.ref 838), .none, (.ref 839), (.ref 840), (.ref 841), (.int 1388 0), (.int 477 0), (.str (S "/claim/cut.py") 1389)], #[]⟩
def kf_843 (P : Params) : Obj :=
  let _ := P
  ⟨(.type "function"), none, .func (fnD "maxsize" "Cache.maxsize" [34, 15] .none (.ref 842) (.str (S "cachetools") 1255)), #[]⟩
def kf_844 (P : Params) : Obj :=
  let _ := P
  ⟨(.type "property"), none, .fields #[(.ref 843), .none, .none, .none, (.str (S "maxsize") 1391), (.bool false)], #[]⟩
def kf_850 (P : Params) : Obj :=
  let _ := P
  ⟨(.type "code"), none, .fields #[(.str (S "currsize") 1392), (.str (S "Cache.currsize") 1393), (.str (S "/claim/cut.py") 1394), (.int 481 0), (.int 1 0), (.int 0 0), (.int 0 0), (.int 3 0), (.ref 845), (.bool true), (.int 383 0), (.ref 846), .none, (.ref 847), (.ref 848), (.ref 849), (.int 1396 0), (.int 481 0), (.str (S "/claim/cut.py") 1397)], #[]⟩
def kf_851 (P : Params) : Obj :=
  let _ := P
  ⟨(.type "function"), none, .func (fnD "currsize" "Cache.currsize" [34, 16] .none (.ref 850) (.str (S "cachetools") 1255)), #[]⟩
def kf_852 (P : Params) : Obj :=
  let _ := P
  ⟨(.type "property"), none, .fields #[(.ref 851), .none, .none, .none, (.str (S "currsize") 1399), (.bool false)], #[]⟩
def kf_858 (P : Params) : Obj :=
  let _ := P
  ⟨(.type "code"), none, .fields #[(.str (S "getsizeof") 1400), (.str (S "Cache.getsizeof") 1401), (.str (S "/claim/cut.py") 1402), (.int 485 0), (.int 1 0), (.int 0 0), (.int 0 0), (.int 3 0), (.ref 853), (.bool true), (.int 383 0), (.ref 854), .none, (.ref 855), (.ref 856), (.ref 857), (.int 1404 0), (.int 485 0), (.str (S "/claim/cut.py") 1405)], #[]⟩
def kf_859 (P : Params) : Obj :=
  let _ := P
  ⟨(.type "function"), none, .func ({ fnD "getsizeof" "Cache.getsizeof" [34, 17] .none (.ref 858) (.str (S "cachetools") 1255) with annotations := (some 862) }), #[]⟩
def kf_861 (P : Params) : Obj :=
  let _ := P
  ⟨(.type "staticmethod"), (some 860), .fields #[(.ref 859), (.bool false)], #[]⟩
def kf_864 (P : Params) : Obj :=
  let _ := P
  ⟨(.type "dict"), none, .dict #[en P "__module__" 1264 (.str (S "cachetools") 1255), en P "__firstlineno__" 1268 (.int 375 1267), en P "_Cache__marker" 1269 (.ref 741), en P "_Cache__size" 1270 .none, en P "__init__" 1279 (.ref 749), en P "__repr__" 1286 (.ref 756), en P "__getitem__" 1294 (.ref 763), en P "__setitem__" 1308 (.ref 770), en P "__delitem__" 1318 (.ref 777), en P "__contains__" 1326 (.ref 784), en P "__missing__" 1334 (.ref 791), en P "__iter__" 1341 (.ref 798), en P "__len__" 1348 (.ref 805), en P "get" 1357 (.ref 813), en P "pop" 1367 (.ref 821), en P "setdefault" 1376 (.ref 829), en P "clear" 1383 (.ref 836), en P "maxsize" 1391 (.ref 844), en P "currsize" 1399 (.ref 852), en P "getsizeof" 1418 (.ref 861), en P "__static_attributes__" 1424 (.ref 863), en P "__dict__" 1426 (.ref 866), en P "__weakref__" 1428 (.ref 867), en P "__doc__" 1429 .none] 4, #[]⟩
def kf_865 (P : Params) : Obj :=
  let _ := P
  ⟨(.ref 124), none, .cls { name := S "Cache", bases := [(.ref 730)], mro := [(.ref 865), (.ref 730), (.ref 478), (.ref 290), (.ref 231), (.ref 201), (.ref 267), (.type "object")], ns := 864, qualname := S "Cache", hasDict := true, slotNames := [], subclasses := [(.ref 917), (.ref 982), (.ref 1128)], abstract := false, collection := none, hasDel := false }, #[(some (.ref 734)), none, (some (.str (S "Cache") 1257)), (some (.str (S "Cache") 1265)), (some (.builtin "object.__new__")), (some (.bool true))]⟩
def kf_877 (P : Params) : Obj :=
  let _ := P
  ⟨(.type "tuple"), none, .seq #[.none] 0, #[]⟩
def kf_883 (P : Params) : Obj :=
  let _ := P
  ⟨(.type "code"), none, .fields #[(.str (S "__init__") 1444), (.str (S "FIFOCache.__init__") 1445), (.str (S "/claim/cut.py") 1446), (.int 490 0), (.int 3 0), (.int 0 0), (.int 0 0), (.int 3 0), (.ref 878), (.bool true), (.int 383 0), (.ref 879), .none, (.ref 880), (.ref 881), (.ref 882), (.int 1450 0), (.int 490 0), (.str (S "/claim/cut.py") 1451)], #[]⟩
def kf_884 (P : Params) : Obj :=
  let _ := P
  ⟨(.type "function"), none, .func (fnD "__init__" "FIFOCache.__init__" [35, 0] (.ref 877) (.ref 883) (.str (S "cachetools") 1255)), #[]⟩
def kf_885 (P : Params) : Obj :=
  let _ := P
  ⟨(.type "tuple"), none, .seq #[(.ref 770)] 0, #[]⟩
def kf_891 (P : Params) : Obj :=
  let _ := P
  ⟨(.type "code"), none, .fields #[(.str (S "__setitem__") 1454), (.str (S "FIFOCache.__setitem__") 1455), (.str (S "/claim/cut.py") 1456), (.int 494 0), (.int 4 0), (.int 0 0), (.int 0 0), (.int 3 0), (.ref 886), (.bool true), (.int 383 0), (.ref 887), .none, (.ref 888), (.ref 889), (.ref 890), (.int 1461 0), (.int 494 0), (.str (S "/claim/cut.py") 1462)], #[]⟩
def kf_892 (P : Params) : Obj :=
  let _ := P
  ⟨(.type "function"), none, .func (fnD "__setitem__" "FIFOCache.__setitem__" [35, 1] (.ref 885) (.ref 891) (.str (S "cachetools") 1255)), #[]⟩
def kf_893 (P : Params) : Obj :=
  let _ := P
  ⟨(.type "tuple"), none, .seq #[(.ref 777)] 0, #[]⟩
def kf_899 (P : Params) : Obj :=
  let _ := P
  ⟨(.type "code"), none, .fields #[(.str (S "__delitem__") 1465), (.str (S "FIFOCache.__delitem__") 1466), (.str (S "/claim/cut.py") 1467), (.int 501 0), (.int 3 0), (.int 0 0), (.int 0 0), (.int 3 0), (.ref 894), (.bool true), (.int 383 0), (.ref 895), .none, (.ref 896), (.ref 897), (.ref 898), (.int 1471 0), (.int 501 0), (.str (S "/claim/cut.py") 1472)], #[]⟩
def kf_900 (P : Params) : Obj :=
  let _ := P
  ⟨(.type "function"), none, .func (fnD "__delitem__" "FIFOCache.__delitem__" [35, 2] (.ref 893) (.ref 899) (.str (S "cachetools") 1255)), #[]⟩
def kf_906 (P : Params) : Obj :=
  let _ := P
  ⟨(.type "code"), none, .fields #[(.str (S "popitem") 1474), (.str (S "FIFOCache.popitem") 1475), (.str (S "/claim/cut.py") 1476), (.int 505 0), (.int 1 0), (.int 0 0), (.int 0 0), (.int 3 0), (.ref 901), (.bool true), (.int 383 0), (.ref 902), .none, (.ref 903), (.ref 904), (.ref 905), (.int 1480 0), (.int 505 0), (.str (S "/claim/cut.py") 1481)], #[]⟩
def kf_907 (P : Params) : Obj :=
  let _ := P
  ⟨(.type "function"), none, .func (fnD "popitem" "FIFOCache.popitem" [35, 3] .none (.ref 906) (.str (S "cachetools") 1255)), #[]⟩
def kf_913 (P : Params) : Obj :=
  let _ := P
  ⟨(.type "code"), none, .fields #[(.str (S "clear") 1483), (.str (S "FIFOCache.clear") 1484), (.str (S "/claim/cut.py") 1485), (.int 515 0), (.int 1 0), (.int 0 0), (.int 0 0), (.int 3 0), (.ref 908), (.bool true), (.int 383 0), (.ref 909), .none, (.ref 910), (.ref 911), (.ref 912), (.int 1487 0), (.int 515 0), (.str (S "/claim/cut.py") 1488)], #[]⟩
def kf_914 (P : Params) : Obj :=
  let _ := P
  ⟨(.type "function"), none, .func (fnD "clear" "FIFOCache.clear" [35, 4] .none (.ref 913) (.str (S "cachetools") 1255)), #[]⟩
def kf_916 (P : Params) : Obj :=
  let _ := P
  ⟨(.type "dict"), none, .dict #[en P "__module__" 1439 (.str (S "cachetools") 1255), en P "__firstlineno__" 1443 (.int 488 1442), en P "__init__" 1452 (.ref 884), en P "__setitem__" 1463 (.ref 892), en P "__delitem__" 1473 (.ref 900), en P "popitem" 1482 (.ref 907), en P "clear" 1489 (.ref 914), en P "__static_attributes__" 1491 (.ref 915), en P "__doc__" 1492 .none] 2, #[]⟩
def kf_917 (P : Params) : Obj :=
  let _ := P
  ⟨(.ref 124), none, .cls { name := S "FIFOCache", bases := [(.ref 865)], mro := [(.ref 917), (.ref 865), (.ref 730), (.ref 478), (.ref 290), (.ref 231), (.ref 201), (.ref 267), (.type "object")], ns := 916, qualname := S "FIFOCache", hasDict := true, slotNames := [], subclasses := [], abstract := false, collection := none, hasDel := false }, #[(some (.ref 870)), none, (some (.str (S "FIFOCache") 1432)), (some (.str (S "FIFOCache") 1440)), (some (.builtin "object.__new__")), (some (.bool true))]⟩
def kf_927 (P : Params) : Obj :=
  let _ := P
  ⟨(.type "tuple"), none, .seq #[.none] 0, #[]⟩
def kf_933 (P : Params) : Obj :=
  let _ := P
  ⟨(.type "code"), none, .fields #[(.str (S "__init__") 1507), (.str (S "LRUCache.__init__") 1508), (.str (S "/claim/cut.py") 1509), (.int 519 0), (.int 3 0), (.int 0 0), (.int 0 0), (.int 3 0), (.ref 928), (.bool true), (.int 383 0), (.ref 929), .none, (.ref 930), (.ref 931), (.ref 932), (.int 1513 0), (.int 519 0), (.str (S "/claim/cut.py") 1514)], #[]⟩
def kf_934 (P : Params) : Obj :=
  let _ := P
  ⟨(.type "function"), none, .func (fnD "__init__" "LRUCache.__init__" [36, 0] (.ref 927) (.ref 933) (.str (S "cachetools") 1255)), #[]⟩
def kf_935 (P : Params) : Obj :=
  let _ := P
  ⟨(.type "tuple"), none, .seq #[(.ref 763)] 0, #[]⟩
def kf_941 (P : Params) : Obj :=
  let _ := P
  ⟨(.type "code"), none, .fields #[(.str (S "__getitem__") 1517), (.str (S "LRUCache.__getitem__") 1518), (.str (S "/claim/cut.py") 1519), (.int 523 0), (.int 3 0), (.int 0 0), (.int 0 0), (.int 3 0), (.ref 936), (.bool true), (.int 383 0), (.ref 937), .none, (.ref 938), (.ref 939), (.ref 940), (.int 1524 0), (.int 523 0), (.str (S "/claim/cut.py") 1525)], #[]⟩
def kf_942 (P : Params) : Obj :=
  let _ := P
  ⟨(.type "function"), none, .func (fnD "__getitem__" "LRUCache.__getitem__" [36, 1] (.ref 935) (.ref 941) (.str (S "cachetools") 1255)), #[]⟩
def kf_943 (P : Params) : Obj :=
  let _ := P
  ⟨(.type "tuple"), none, .seq #[(.ref 770)] 0, #[]⟩
def kf_949 (P : Params) : Obj :=
  let _ := P
  ⟨(.type "code"), none, .fields #[(.str (S "__setitem__") 1528), (.str (S "LRUCache.__setitem__") 1529), (.str (S "/claim/cut.py") 1530), (.int 531 0), (.int 4 0), (.int 0 0), (.int 0 0), (.int 3 0), (.ref 944), (.bool true), (.int 383 0), (.ref 945), .none, (.ref 946), (.ref 947), (.ref 948), (.int 1535 0), (.int 531 0), (.str (S "/claim/cut.py") 1536)], #[]⟩
def kf_950 (P : Params) : Obj :=
  let _ := P
  ⟨(.type "function"), none, .func (fnD "__setitem__" "LRUCache.__setitem__" [36, 2] (.ref 943) (.ref 949) (.str (S "cachetools") 1255)), #[]⟩
def kf_951 (P : Params) : Obj :=
  let _ := P
  ⟨(.type "tuple"), none, .seq #[(.ref 777)] 0, #[]⟩
def kf_957 (P : Params) : Obj :=
  let _ := P
  ⟨(.type "code"), none, .fields #[(.str (S "__delitem__") 1539), (.str (S "LRUCache.__delitem__") 1540), (.str (S "/claim/cut.py") 1541), (.int 535 0), (.int 3 0), (.int 0 0), (.int 0 0), (.int 3 0), (.ref 952), (.bool true), (.int 383 0), (.ref 953), .none, (.ref 954), (.ref 955), (.ref 956), (.int 1545 0), (.int 535 0), (.str (S "/claim/cut.py") 1546)], #[]⟩
def kf_958 (P : Params) : Obj :=
  let _ := P
  ⟨(.type "function"), none, .func (fnD "__delitem__" "LRUCache.__delitem__" [36, 3] (.ref 951) (.ref 957) (.str (S "cachetools") 1255)), #[]⟩
def kf_964 (P : Params) : Obj :=
  let _ := P
  ⟨(.type "code"), none, .fields #[(.str (S "popitem") 1548), (.str (S "LRUCache.popitem") 1549), (.str (S "/claim/cut.py") 1550), (.int 539 0), (.int 1 0), (.int 0 0), (.int 0 0), (.int 3 0), (.ref 959), (.bool true), (.int 383 0), (.ref 960), .none, (.ref 961), (.ref 962), (.ref 963), (.int 1554 0), (.int 539 0), (.str (S "/claim/cut.py") 1555)], #[]⟩
def kf_965 (P : Params) : Obj :=
  let _ := P
  ⟨(.type "function"), none, .func (fnD "popitem" "LRUCache.popitem" [36, 4] .none (.ref 964) (.str (S "cachetools") 1255)), #[]⟩
def kf_971 (P : Params) : Obj :=
  let _ := P
  ⟨(.type "code"), none, .fields #[(.str (S "clear") 1557), (.str (S "LRUCache.clear") 1558), (.str (S "/claim/cut.py") 1559), (.int 549 0), (.int 1 0), (.int 0 0), (.int 0 0), (.int 3 0), (.ref 966), (.bool true), (.int 383 0), (.ref 967), .none, (.ref 968), (.ref 969), (.ref 970), (.int 1561 0), (.int 549 0), (.str (S "/claim/cut.py") 1562)], #[]⟩
def kf_972 (P : Params) : Obj :=
  let _ := P
  ⟨(.type "function"), none, .func (fnD "clear" "LRUCache.clear" [36, 5] .none (.ref 971) (.str (S "cachetools") 1255)), #[]⟩
def kf_978 (P : Params) : Obj :=
  let _ := P
  ⟨(.type "code"), none, .fields #[(.str (S "__touch") 1564), (.str (S "LRUCache.__touch") 1565), (.str (S "/claim/cut.py") 1566), (.int 552 0), (.int 2 0), (.int 0 0), (.int 0 0), (.int 3 0), (.ref 973), (.bool true), (.int 383 0), (.ref 974), .none, (.ref 975), (.ref 976), (.ref 977), (.int 1569 0), (.int 552 0), (.str (S "/claim/cut.py") 1570)], #[]⟩
def kf_979 (P : Params) : Obj :=
  let _ := P
  ⟨(.type "function"), none, .func (fnD "__touch" "LRUCache.__touch" [36, 6] .none (.ref 978) (.str (S "cachetools") 1255)), #[]⟩
def kf_981 (P : Params) : Obj :=
  let _ := P
  ⟨(.type "dict"), none, .dict #[en P "__module__" 1502 (.str (S "cachetools") 1255), en P "__firstlineno__" 1506 (.int 517 1505), en P "__init__" 1515 (.ref 934), en P "__getitem__" 1526 (.ref 942), en P "__setitem__" 1537 (.ref 950), en P "__delitem__" 1547 (.ref 958), en P "popitem" 1556 (.ref 965), en P "clear" 1563 (.ref 972), en P "_LRUCache__touch" 1571 (.ref 979), en P "__static_attributes__" 1573 (.ref 980), en P "__doc__" 1574 .none] 2, #[]⟩
def kf_982 (P : Params) : Obj :=
  let _ := P
  ⟨(.ref 124), none, .cls { name := S "LRUCache", bases := [(.ref 865)], mro := [(.ref 982), (.ref 865), (.ref 730), (.ref 478), (.ref 290), (.ref 231), (.ref 201), (.ref 267), (.type "object")], ns := 981, qualname := S "LRUCache", hasDict := true, slotNames := [], subclasses := [], abstract := false, collection := none, hasDel := false }, #[(some (.ref 920)), none, (some (.str (S "LRUCache") 1495)), (some (.str (S "LRUCache") 1503)), (some (.builtin "object.__new__")), (some (.bool true))]⟩
def kf_1005 (P : Params) : Obj :=
  let _ := P
  ⟨(.type "code"), none, .fields #[(.str (S "__init__") 1601), (.str (S "_TimedCache._Timer.__init__") 1602), (.str (S "/claim/cut.py") 1603), (.int 561 0), (.int 2 0), (.int 0 0), (.int 0 0), (.int 3 0), (.ref 1000), (.bool true), (.int 383 0), (.ref 1001), .none, (.ref 1002), (.ref 1003), (.ref 1004), (.int 1606 0), (.int 561 0), (.str (S "/claim/cut.py") 1607)], #[]⟩
def kf_1006 (P : Params) : Obj :=
  let _ := P
  ⟨(.type "function"), none, .func (fnD "__init__" "_TimedCache._Timer.__init__" [37, 0, 0] .none (.ref 1005) (.str (S "cachetools") 1255)), #[]⟩
def kf_1012 (P : Params) : Obj :=
  let _ := P
  ⟨(.type "code"), none, .fields #[(.str (S "__call__") 1609), (.str (S "_TimedCache._Timer.__call__") 1610), (.str (S "/claim/cut.py") 1611), (.int 565 0), (.int 1 0), (.int 0 0), (.int 0 0), (.int 3 0), (.ref 1007), (.bool true), (.int 383 0), (.ref 1008), .none, (.ref 1009), (.ref 1010), (.ref 1011), (.int 1613 0), (.int 565 0), (.str (S "/claim/cut.py") 1614)], #[]⟩
def kf_1013 (P : Params) : Obj :=
  let _ := P
  ⟨(.type "function"), none, .func (fnD "__call__" "_TimedCache._Timer.__call__" [37, 0, 1] .none (.ref 1012) (.str (S "cachetools") 1255)), #[]⟩
def kf_1019 (P : Params) : Obj :=
  let _ := P
  ⟨(.type "code"), none, .fields #[(.str (S "__enter__") 1616), (.str (S "_TimedCache._Timer.__enter__") 1617), (.str (S "/claim/cut.py") 1618), (.int 571 0), (.int 1 0), (.int 0 0), (.int 0 0), (.int 3 0), (.ref 1014), (.bool true), (.int 383 0), (.ref 1015), .none, (.ref 1016), (.ref 1017), (.ref 1018), (.int 1621 0), (.int 571 0), (.str (S "/claim/cut.py") 1622)], #[]⟩
def kf_1020 (P : Params) : Obj :=
  let _ := P
  ⟨(.type "function"), none, .func (fnD "__enter__" "_TimedCache._Timer.__enter__" [37, 0, 2] .none (.ref 1019) (.str (S "cachetools") 1255)), #[]⟩
def kf_1026 (P : Params) : Obj :=
  let _ := P
  ⟨(.type "code"), none, .fields #[(.str (S "__exit__") 1624), (.str (S "_TimedCache._Timer.__exit__") 1625), (.str (S "/claim/cut.py") 1626), (.int 579 0), (.int 1 0), (.int 0 0), (.int 0 0), (.int 7 0), (.ref 1021), (.bool true), (.int 383 0), (.ref 1022), .none, (.ref 1023), (.ref 1024), (.ref 1025), (.int 1629 0), (.int 579 0), (.str (S "/claim/cut.py") 1630)], #[]⟩
def kf_1027 (P : Params) : Obj :=
  let _ := P
  ⟨(.type "function"), none, .func (fnD "__exit__" "_TimedCache._Timer.__exit__" [37, 0, 3] .none (.ref 1026) (.str (S "cachetools") 1255)), #[]⟩
def kf_1033 (P : Params) : Obj :=
  let _ := P
  ⟨(.type "code"), none, .fields #[(.str (S "__reduce__") 1632), (.str (S "_TimedCache._Timer.__reduce__") 1633), (.str (S "/claim/cut.py") 1634), (.int 582 0), (.int 1 0), (.int 0 0), (.int 0 0), (.int 3 0), (.ref 1028), (.bool true), (.int 383 0), (.ref 1029), .none, (.ref 1030), (.ref 1031), (.ref 1032), (.int 1636 0), (.int 582 0), (.str (S "/claim/cut.py") 1637)], #[]⟩
def kf_1034 (P : Params) : Obj :=
  let _ := P
  ⟨(.type "function"), none, .func (fnD "__reduce__" "_TimedCache._Timer.__reduce__" [37, 0, 4] .none (.ref 1033) (.str (S "cachetools") 1255)), #[]⟩
def kf_1040 (P : Params) : Obj :=
  let _ := P
  ⟨(.type "code"), none, .fields #[(.str (S "__getattr__") 1639), (.str (S "_TimedCache._Timer.__getattr__") 1640), (.str (S "/claim/cut.py") 1641), (.int 585 0), (.int 2 0), (.int 0 0), (.int 0 0), (.int 3 0), (.ref 1035), (.bool true), (.int 383 0), (.ref 1036), .none, (.ref 1037), (.ref 1038), (.ref 1039), (.int 1644 0), (.int 585 0), (.str (S "/claim/cut.py") 1645)], #[]⟩
def kf_1041 (P : Params) : Obj :=
  let _ := P
  ⟨(.type "function"), none, .func (fnD "__getattr__" "_TimedCache._Timer.__getattr__" [37, 0, 5] .none (.ref 1040) (.str (S "cachetools") 1255)), #[]⟩
def kf_1043 (P : Params) : Obj :=
  let _ := P
  ⟨(.type "dict"), none, .dict #[en P "__module__" 1596 (.str (S "cachetools") 1255), en P "__firstlineno__" 1600 (.int 559 1599), en P "__init__" 1608 (.ref 1006), en P "__call__" 1615 (.ref 1013), en P "__enter__" 1623 (.ref 1020), en P "__exit__" 1631 (.ref 1027), en P "__reduce__" 1638 (.ref 1034), en P "__getattr__" 1646 (.ref 1041), en P "__static_attributes__" 1650 (.ref 1042), en P "__dict__" 1652 (.ref 1045), en P "__weakref__" 1654 (.ref 1046), en P "__doc__" 1655 .none] 4, #[]⟩
def kf_1044 (P : Params) : Obj :=
  let _ := P
  ⟨(.type "type"), none, .cls { name := S "_Timer", bases := [(.type "object")], mro := [(.ref 1044), (.type "object")], ns := 1043, qualname := S "_TimedCache._Timer", hasDict := true, slotNames := [], subclasses := [], abstract := false, collection := none, hasDel := false }, #[none, none, (some (.str (S "_Timer") 1589)), (some (.str (S "_TimedCache._Timer") 1597)), (some (.builtin "object.__new__")), (some (.bool true))]⟩
def kf_1049 (P : Params) : Obj :=
  let _ := P
  ⟨(.type "tuple"), none, .seq #[.none] 0, #[]⟩
def kf_1055 (P : Params) : Obj :=
  let _ := P
  ⟨(.type "code"), none, .fields #[(.str (S "__init__") 1658), (.str (S "_TimedCache.__init__") 1659), (.str (S "/claim/cut.py") 1660), (.int 588 0), (.int 4 0), (.int 0 0), (.int 0 0), (.int 3 0), (.ref 1050), (.bool true), (.int 383 0), (.ref 1051), .none, (.ref 1052), (.ref 1053), (.ref 1054), (.int 1665 0), (.int 588 0), (.str (S "/claim/cut.py") 1666)], #[]⟩
def kf_1056 (P : Params) : Obj :=
  let _ := P
  ⟨(.type "function"), none, .func (fnD "__init__" "_TimedCache.__init__" [37, 1] (.ref 1049) (.ref 1055) (.str (S "cachetools") 1255)), #[]⟩
def kf_1057 (P : Params) : Obj :=
  let _ := P
  ⟨(.type "tuple"), none, .seq #[(.ref 756)] 0, #[]⟩
def kf_1063 (P : Params) : Obj :=
  let _ := P
  ⟨(.type "code"), none, .fields #[(.str (S "__repr__") 1669), (.str (S "_TimedCache.__repr__") 1670), (.str (S "/claim/cut.py") 1671), (.int 592 0), (.int 2 0), (.int 0 0), (.int 0 0), (.int 3 0), (.ref 1058), (.bool true), (.int 383 0), (.ref 1059), .none, (.ref 1060), (.ref 1061), (.ref 1062), (.int 1675 0), (.int 592 0), (.str (S "/claim/cut.py") 1676)], #[]⟩
def kf_1064 (P : Params) : Obj :=
  let _ := P
  ⟨(.type "function"), none, .func (fnD "__repr__" "_TimedCache.__repr__" [37, 2] (.ref 1057) (.ref 1063) (.str (S "cachetools") 1255)), #[]⟩
def kf_1065 (P : Params) : Obj :=
  let _ := P
  ⟨(.type "tuple"), none, .seq #[(.ref 805)] 0, #[]⟩
def kf_1071 (P : Params) : Obj :=
  let _ := P
  ⟨(.type "code"), none, .fields #[(.str (S "__len__") 1679), (.str (S "_TimedCache.__len__") 1680), (.str (S "/claim/cut.py") 1681), (.int 597 0), (.int 2 0), (.int 0 0), (.int 0 0), (.int 3 0), (.ref 1066), (.bool true), (.int 383 0), (.ref 1067), .none, (.ref 1068), (.ref 1069), (.ref 1070), (.int 1685 0), (.int 597 0), (.str (S "/claim/cut.py") 1686)], #[]⟩
def kf_1072 (P : Params) : Obj :=
  let _ := P
  ⟨(.type "function"), none, .func (fnD "__len__" "_TimedCache.__len__" [37, 3] (.ref 1065) (.ref 1071) (.str (S "cachetools") 1255)), #[]⟩
def kf_1081 (P : Params) : Obj :=
  let _ := P
  ⟨(.type "property"), none, .fields #[(.ref 1080), .none, .none, .none, (.str (S "currsize") 1697), (.bool false)], #[]⟩
def kf_1087 (P : Params) : Obj :=
  let _ := P
  ⟨(.type "code"), none, .fields #[(.str (S "timer") 1698), (.str (S "_TimedCache.timer") 1699), (.str (S "/claim/cut.py") 1700), (.int 608 0), (.int 1 0), (.int 0 0), (.int 0 0), (.int 3 0), (.ref 1082), (.bool true), (.int 383 0), (.ref 1083), .none, (.ref 1084), (.ref 1085), (.ref 1086), (.int 1702 0), (.int 608 0), (.str (S "/claim/cut.py") 1703)], #[]⟩
def kf_1088 (P : Params) : Obj :=
  let _ := P
  ⟨(.type "function"), none, .func (fnD "timer" "_TimedCache.timer" [37, 5] .none (.ref 1087) (.str (S "cachetools") 1255)), #[]⟩
def kf_1089 (P : Params) : Obj :=
  let _ := P
  ⟨(.type "property"), none, .fields #[(.ref 1088), .none, .none, .none, (.str (S "timer") 1705), (.bool false)], #[]⟩
def kf_1095 (P : Params) : Obj :=
  let _ := P
  ⟨(.type "code"), none, .fields #[(.str (S "get") 1706), (.str (S "_TimedCache.get") 1707), (.str (S "/claim/cut.py") 1708), (.int 612 0), (.int 1 0), (.int 0 0), (.int 0 0), (.int 15 0), (.ref 1090), (.bool true), (.int 383 0), (.ref 1091), .none, (.ref 1092), (.ref 1093), (.ref 1094), (.int 1712 0), (.int 612 0), (.str (S "/claim/cut.py") 1713)], #[]⟩
def kf_1096 (P : Params) : Obj :=
  let _ := P
  ⟨(.type "function"), none, .func (fnD "get" "_TimedCache.get" [37, 6] .none (.ref 1095) (.str (S "cachetools") 1255)), #[]⟩
def kf_1102 (P : Params) : Obj :=
  let _ := P
  ⟨(.type "code"), none, .fields #[(.str (S "pop") 1715), (.str (S "_TimedCache.pop") 1716), (.str (S "/claim/cut.py") 1717), (.int 616 0), (.int 1 0), (.int 0 0), (.int 0 0), (.int 15 0), (.ref 1097), (.bool true), (.int 383 0), (.ref 1098), .none, (.ref 1099), (.ref 1100), (.ref 1101), (.int 1721 0), (.int 616 0), (.str (S "/claim/cut.py") 1722)], #[]⟩
def kf_1103 (P : Params) : Obj :=
  let _ := P
  ⟨(.type "function"), none, .func (fnD "pop" "_TimedCache.pop" [37, 7] .none (.ref 1102) (.str (S "cachetools") 1255)), #[]⟩
def kf_1109 (P : Params) : Obj :=
  let _ := P
  ⟨(.type "code"), none, .fields #[(.str (S "setdefault") 1724), (.str (S "_TimedCache.setdefault") 1725), (.str (S "/claim/cut.py") 1726), (.int 620 0), (.int 1 0), (.int 0 0), (.int 0 0), (.int 15 0), (.ref 1104), (.bool true), (.int 383 0), (.ref 1105), .none, (.ref 1106), (.ref 1107), (.ref 1108), (.int 1730 0), (.int 620 0), (.str (S "/claim/cut.py") 1731)], #[]⟩
def kf_1110 (P : Params) : Obj :=
  let _ := P
  ⟨(.type "function"), none, .func (fnD "setdefault" "_TimedCache.setdefault" [37, 8] .none (.ref 1109) (.str (S "cachetools") 1255)), #[]⟩
def kf_1116 (P : Params) : Obj :=
  let _ := P
  ⟨(.type "code"), none, .fields #[(.str (S "clear") 1733), (.str (S "_TimedCache.clear") 1734), (.str (S "/claim/cut.py") 1735), (.int 623 0), (.int 1 0), (.int 0 0), (.int 0 0), (.int 3 0), (.ref 1111), (.bool true), (.int 383 0), (.ref 1112), .none, (.ref 1113), (.ref 1114), (.ref 1115), (.int 1737 0), (.int 623 0), (.str (S "/claim/cut.py") 1738)], #[]⟩
def kf_1117 (P : Params) : Obj :=
  let _ := P
  ⟨(.type "function"), none, .func (fnD "clear" "_TimedCache.clear" [37, 9] .none (.ref 1116) (.str (S "cachetools") 1255)), #[]⟩
def kf_1118 (P : Params) : Obj :=
  let _ := P
  ⟨(.type "tuple"), none, .seq #[.none] 0, #[]⟩
def kf_1124 (P : Params) : Obj :=
  let _ := P
  ⟨(.type "code"), none, .fields #[(.str (S "expire") 1740), (.str (S "_TimedCache.expire") 1741), (.str (S "/claim/cut.py") 1742), (.int 626 0), (.int 2 0), (.int 0 0), (.int 0 0), (.int 3 0), (.ref 1119), (.bool true), (.int 383 0), (.ref 1120), .none, (.ref 1121), (.ref 1122), (.ref 1123), (.int 1745 0), (.int 626 0), (.str (S "/claim/cut.py") 1746)], #[]⟩
def kf_1125 (P : Params) : Obj :=
  let _ := P
  ⟨(.type "function"), none, .func (fnD "expire" "_TimedCache.expire" [37, 10] (.ref 1118) (.ref 1124) (.str (S "cachetools") 1255)), #[]⟩
def kf_1127 (P : Params) : Obj :=
  let _ := P
  ⟨(.type "dict"), none, .dict #[en P "__module__" 1584 (.str (S "cachetools") 1255), en P "__firstlineno__" 1588 (.int 557 1587), en P "_Timer" 1657 (.ref 1044), en P "__init__" 1667 (.ref 1056), en P "__repr__" 1677 (.ref 1064), en P "__len__" 1687 (.ref 1072), en P "currsize" 1697 (.ref 1081), en P "timer" 1705 (.ref 1089), en P "get" 1714 (.ref 1096), en P "pop" 1723 (.ref 1103), en P "setdefault" 1732 (.ref 1110), en P "clear" 1739 (.ref 1117), en P "expire" 1747 (.ref 1125), en P "__static_attributes__" 1749 (.ref 1126), en P "__doc__" 1751 .none] 3, #[]⟩
def kf_1128 (P : Params) : Obj :=
  let _ := P
  ⟨(.ref 124), none, .cls { name := S "_TimedCache", bases := [(.ref 865)], mro := [(.ref 1128), (.ref 865), (.ref 730), (.ref 478), (.ref 290), (.ref 231), (.ref 201), (.ref 267), (.type "object")], ns := 1127, qualname := S "_TimedCache", hasDict := true, slotNames := [], subclasses := [(.ref 1270), (.ref 1488)], abstract := false, collection := none, hasDel := false }, #[(some (.ref 985)), none, (some (.str (S "_TimedCache") 1577)), (some (.str (S "_TimedCache") 1585)), (some (.builtin "object.__new__")), (some (.bool true))]⟩
def kf_1153 (P : Params) : Obj :=
  let _ := P
  ⟨(.type "tuple"), none, .seq #[.none, .none] 0, #[]⟩
def kf_1159 (P : Params) : Obj :=
  let _ := P
  ⟨(.type "code"), none, .fields #[(.str (S "__init__") 1795), (.str (S "TTLCache._Link.__init__") 1796), (.str (S "/claim/cut.py") 1797), (.int 637 0), (.int 3 0), (.int 0 0), (.int 0 0), (.int 3 0), (.ref 1154), (.bool true), (.int 383 0), (.ref 1155), .none, (.ref 1156), (.ref 1157), (.ref 1158), (.int 1801 0), (.int 637 0), (.str (S "/claim/cut.py") 1802)], #[]⟩
def kf_1160 (P : Params) : Obj :=
  let _ := P
  ⟨(.type "function"), none, .func (fnD "__init__" "TTLCache._Link.__init__" [41, 0, 1] (.ref 1153) (.ref 1159) (.str (S "cachetools") 1764)), #[]⟩
def kf_1166 (P : Params) : Obj :=
  let _ := P
  ⟨(.type "code"), none, .fields #[(.str (S "__reduce__") 1804), (.str (S "TTLCache._Link.__reduce__") 1805), (.str (S "/claim/cut.py") 1806), (.int 641 0), (.int 1 0), (.int 0 0), (.int 0 0), (.int 3 0), (.ref 1161), (.bool true), (.int 383 0), (.ref 1162), .none, (.ref 1163), (.ref 1164), (.ref 1165), (.int 1808 0), (.int 641 0), (.str (S "/claim/cut.py") 1809)], #[]⟩
def kf_1167 (P : Params) : Obj :=
  let _ := P
  ⟨(.type "function"), none, .func (fnD "__reduce__" "TTLCache._Link.__reduce__" [41, 0, 2] .none (.ref 1166) (.str (S "cachetools") 1764)), #[]⟩
def kf_1173 (P : Params) : Obj :=
  let _ := P
  ⟨(.type "code"), none, .fields #[(.str (S "unlink") 1811), (.str (S "TTLCache._Link.unlink") 1812), (.str (S "/claim/cut.py") 1813), (.int 644 0), (.int 1 0), (.int 0 0), (.int 0 0), (.int 3 0), (.ref 1168), (.bool true), (.int 383 0), (.ref 1169), .none, (.ref 1170), (.ref 1171), (.ref 1172), (.int 1817 0), (.int 644 0), (.str (S "/claim/cut.py") 1818)], #[]⟩
def kf_1174 (P : Params) : Obj :=
  let _ := P
  ⟨(.type "function"), none, .func (fnD "unlink" "TTLCache._Link.unlink" [41, 0, 3] .none (.ref 1173) (.str (S "cachetools") 1764)), #[]⟩
def kf_1177 (P : Params) : Obj :=
  let _ := P
  ⟨(.type "dict"), none, .dict #[en P "__module__" 1785 (.str (S "cachetools") 1764), en P "__firstlineno__" 1789 (.int 634 1788), en P "__slots__" 1794 (.ref 1152), en P "__init__" 1803 (.ref 1160), en P "__reduce__" 1810 (.ref 1167), en P "unlink" 1819 (.ref 1174), en P "__static_attributes__" 1822 (.ref 1175), en P "expires" 1824 (.ref 1179), en P "key" 1826 (.ref 1180), en P "next" 1828 (.ref 1181), en P "prev" 1830 (.ref 1182), en P "__doc__" 1831 .none] 6, #[]⟩
def kf_1178 (P : Params) : Obj :=
  let _ := P
  ⟨(.type "type"), none, .cls { name := S "_Link", bases := [(.type "object")], mro := [(.ref 1178), (.type "object")], ns := 1177, qualname := S "TTLCache._Link", hasDict := false, slotNames := [S "expires", S "key", S "next", S "prev"], subclasses := [], abstract := false, collection := none, hasDel := false }, #[none, none, (some (.str (S "_Link") 1778)), (some (.str (S "TTLCache._Link") 1786)), (some (.builtin "object.__new__")), (some (.bool false))]⟩
def kf_1179 (P : Params) : Obj :=
  let _ := P
  ⟨(.type "member_descriptor"), none, .fields #[(.str (S "expires") 1823), (.ref 1178), (.builtin "proto.slot"), (.builtin "proto.slot#set"), (.int 3 0)], #[]⟩
def kf_1180 (P : Params) : Obj :=
  let _ := P
  ⟨(.type "member_descriptor"), none, .fields #[(.str (S "key") 1825), (.ref 1178), (.builtin "proto.slot"), (.builtin "proto.slot#set"), (.int 2 0)], #[]⟩
def kf_1181 (P : Params) : Obj :=
  let _ := P
  ⟨(.type "member_descriptor"), none, .fields #[(.str (S "next") 1827), (.ref 1178), (.builtin "proto.slot"), (.builtin "proto.slot#set"), (.int 1 0)], #[]⟩
def kf_1182 (P : Params) : Obj :=
  let _ := P
  ⟨(.type "member_descriptor"), none, .fields #[(.str (S "prev") 1829), (.ref 1178), (.builtin "proto.slot"), (.builtin "proto.slot#set"), (.int 0 0)], #[]⟩
def kf_1185 (P : Params) : Obj :=
  let _ := P
  ⟨(.type "tuple"), none, .seq #[(.ref 1137), .none] 0, #[]⟩
def kf_1191 (P : Params) : Obj :=
  let _ := P
  ⟨(.type "code"), none, .fields #[(.str (S "__init__") 1834), (.str (S "TTLCache.__init__") 1835), (.str (S "/claim/cut.py") 1836), (.int 650 0), (.int 5 0), (.int 0 0), (.int 0 0), (.int 3 0), (.ref 1186), (.bool true), (.int 383 0), (.ref 1187), .none, (.ref 1188), (.ref 1189), (.ref 1190), (.int 1843 0), (.int 650 0), (.str (S "/claim/cut.py") 1844)], #[]⟩
def kf_1192 (P : Params) : Obj :=
  let _ := P
  ⟨(.type "function"), none, .func (fnD "__init__" "TTLCache.__init__" [41, 1] (.ref 1185) (.ref 1191) (.str (S "cachetools") 1764)), #[]⟩
def kf_1198 (P : Params) : Obj :=
  let _ := P
  ⟨(.type "code"), none, .fields #[(.str (S "__contains__") 1846), (.str (S "TTLCache.__contains__") 1847), (.str (S "/claim/cut.py") 1848), (.int 657 0), (.int 2 0), (.int 0 0), (.int 0 0), (.int 3 0), (.ref 1193), (.bool true), (.int 383 0), (.ref 1194), .none, (.ref 1195), (.ref 1196), (.ref 1197), (.int 1852 0), (.int 657 0), (.str (S "/claim/cut.py") 1853)], #[]⟩
def kf_1199 (P : Params) : Obj :=
  let _ := P
  ⟨(.type "function"), none, .func (fnD "__contains__" "TTLCache.__contains__" [41, 2] .none (.ref 1198) (.str (S "cachetools") 1764)), #[]⟩
def kf_1200 (P : Params) : Obj :=
  let _ := P
  ⟨(.type "tuple"), none, .seq #[(.ref 763)] 0, #[]⟩
def kf_1206 (P : Params) : Obj :=
  let _ := P
  ⟨(.type "code"), none, .fields #[(.str (S "__getitem__") 1856), (.str (S "TTLCache.__getitem__") 1857), (.str (S "/claim/cut.py") 1858), (.int 665 0), (.int 3 0), (.int 0 0), (.int 0 0), (.int 3 0), (.ref 1201), (.bool true), (.int 383 0), (.ref 1202), .none, (.ref 1203), (.ref 1204), (.ref 1205), (.int 1864 0), (.int 665 0), (.str (S "/claim/cut.py") 1865)], #[]⟩
def kf_1207 (P : Params) : Obj :=
  let _ := P
  ⟨(.type "function"), none, .func (fnD "__getitem__" "TTLCache.__getitem__" [41, 3] (.ref 1200) (.ref 1206) (.str (S "cachetools") 1764)), #[]⟩
def kf_1208 (P : Params) : Obj :=
  let _ := P
  ⟨(.type "tuple"), none, .seq #[(.ref 770)] 0, #[]⟩
def kf_1214 (P : Params) : Obj :=
  let _ := P
  ⟨(.type "code"), none, .fields #[(.str (S "__setitem__") 1868), (.str (S "TTLCache.__setitem__") 1869), (.str (S "/claim/cut.py") 1870), (.int 677 0), (.int 4 0), (.int 0 0), (.int 0 0), (.int 3 0), (.ref 1209), (.bool true), (.int 383 0), (.ref 1210), .none, (.ref 1211), (.ref 1212), (.ref 1213), (.int 1881 0), (.int 677 0), (.str (S "/claim/cut.py") 1882)], #[]⟩
def kf_1215 (P : Params) : Obj :=
  let _ := P
  ⟨(.type "function"), none, .func (fnD "__setitem__" "TTLCache.__setitem__" [41, 4] (.ref 1208) (.ref 1214) (.str (S "cachetools") 1764)), #[]⟩
def kf_1216 (P : Params) : Obj :=
  let _ := P
  ⟨(.type "tuple"), none, .seq #[(.ref 777)] 0, #[]⟩
def kf_1222 (P : Params) : Obj :=
  let _ := P
  ⟨(.type "code"), none, .fields #[(.str (S "__delitem__") 1885), (.str (S "TTLCache.__delitem__") 1886), (.str (S "/claim/cut.py") 1887), (.int 694 0), (.int 3 0), (.int 0 0), (.int 0 0), (.int 3 0), (.ref 1217), (.bool true), (.int 383 0), (.ref 1218), .none, (.ref 1219), (.ref 1220), (.ref 1221), (.int 1892 0), (.int 694 0), (.str (S "/claim/cut.py") 1893)], #[]⟩
def kf_1223 (P : Params) : Obj :=
  let _ := P
  ⟨(.type "function"), none, .func (fnD "__delitem__" "TTLCache.__delitem__" [41, 5] (.ref 1216) (.ref 1222) (.str (S "cachetools") 1764)), #[]⟩
def kf_1229 (P : Params) : Obj :=
  let _ := P
  ⟨(.type "code"), none, .fields #[(.str (S "__iter__") 1895), (.str (S "TTLCache.__iter__") 1896), (.str (S "/claim/cut.py") 1897), (.int 701 0), (.int 1 0), (.int 0 0), (.int 0 0), (.int 35 0), (.ref 1224), (.bool true), (.int 383 0), (.ref 1225), .none, (.ref 1226), (.ref 1227), (.ref 1228), (.int 1902 0), (.int 701 0), (.str (S "/claim/cut.py") 1903)], #[]⟩
def kf_1230 (P : Params) : Obj :=
  let _ := P
  ⟨(.type "function"), none, .func (fnD "__iter__" "TTLCache.__iter__" [41, 6] .none (.ref 1229) (.str (S "cachetools") 1764)), #[]⟩
def kf_1236 (P : Params) : Obj :=
  let _ := P
  ⟨(.type "code"), none, .fields #[(.str (S "__setstate__") 1905), (.str (S "TTLCache.__setstate__") 1906), (.str (S "/claim/cut.py") 1907), (.int 710 0), (.int 2 0), (.int 0 0), (.int 0 0), (.int 3 0), (.ref 1231), (.bool true), (.int 383 0), (.ref 1232), .none, (.ref 1233), (.ref 1234), (.ref 1235), (.int 1913 0), (.int 710 0), (.str (S "/claim/cut.py") 1914)], #[]⟩
def kf_1237 (P : Params) : Obj :=
  let _ := P
  ⟨(.type "function"), none, .func (fnD "__setstate__" "TTLCache.__setstate__" [41, 7] .none (.ref 1236) (.str (S "cachetools") 1764)), #[]⟩
def kf_1243 (P : Params) : Obj :=
  let _ := P
  ⟨(.type "code"), none, .fields #[(.str (S "ttl") 1916), (.str (S "TTLCache.ttl") 1917), (.str (S "/claim/cut.py") 1918), (.int 720 0), (.int 1 0), (.int 0 0), (.int 0 0), (.int 3 0), (.ref 1238), (.bool true), (.int 383 0), (.ref 1239), .none, (.ref 1240), (.ref 1241), (.ref 1242), (.int 1920 0), (.int 720 0), (.str (S "/claim/cut.py") 1921)], #[]⟩
def kf_1244 (P : Params) : Obj :=
  let _ := P
  ⟨(.type "function"), none, .func (fnD "ttl" "TTLCache.ttl" [41, 8] .none (.ref 1243) (.str (S "cachetools") 1764)), #[]⟩
def kf_1245 (P : Params) : Obj :=
  let _ := P
  ⟨(.type "property"), none, .fields #[(.ref 1244), .none, .none, .none, (.str (S "ttl") 1923), (.bool false)], #[]⟩
def kf_1246 (P : Params) : Obj :=
  let _ := P
  ⟨(.type "tuple"), none, .seq #[.none] 0, #[]⟩
def kf_1252 (P : Params) : Obj :=
  let _ := P
  ⟨(.type "code"), none, .fields #[(.str (S "expire") 1924), (.str (S "TTLCache.expire") 1925), (.str (S "/claim/cut.py") 1926), (.int 724 0), (.int 2 0), (.int 0 0), (.int 0 0), (.int 3 0), (.ref 1247), (.bool true), (.int 383 0), (.ref 1248), .none, (.ref 1249), (.ref 1250), (.ref 1251), (.int 1936 0), (.int 724 0), (.str (S "/claim/cut.py") 1937)], #[]⟩
def kf_1253 (P : Params) : Obj :=
  let _ := P
  ⟨(.type "function"), none, .func (fnD "expire" "TTLCache.expire" [41, 9] (.ref 1246) (.ref 1252) (.str (S "cachetools") 1764)), #[]⟩
def kf_1259 (P : Params) : Obj :=
  let _ := P
  ⟨(.type "code"), none, .fields #[(.str (S "popitem") 1939), (.str (S "TTLCache.popitem") 1940), (.str (S "/claim/cut.py") 1941), (.int 744 0), (.int 1 0), (.int 0 0), (.int 0 0), (.int 3 0), (.ref 1254), (.bool true), (.int 383 0), (.ref 1255), .none, (.ref 1256), (.ref 1257), (.ref 1258), (.int 1946 0), (.int 744 0), (.str (S "/claim/cut.py") 1947)], #[]⟩
def kf_1260 (P : Params) : Obj :=
  let _ := P
  ⟨(.type "function"), none, .func (fnD "popitem" "TTLCache.popitem" [41, 10] .none (.ref 1259) (.str (S "cachetools") 1764)), #[]⟩
def kf_1266 (P : Params) : Obj :=
  let _ := P
  ⟨(.type "code"), none, .fields #[(.str (S "clear") 1949), (.str (S "TTLCache.clear") 1950), (.str (S "/claim/cut.py") 1951), (.int 756 0), (.int 1 0), (.int 0 0), (.int 0 0), (.int 3 0), (.ref 1261), (.bool true), (.int 383 0), (.ref 1262), .none, (.ref 1263), (.ref 1264), (.ref 1265), (.int 1953 0), (.int 756 0), (.str (S "/claim/cut.py") 1954)], #[]⟩
def kf_1267 (P : Params) : Obj :=
  let _ := P
  ⟨(.type "function"), none, .func (fnD "clear" "TTLCache.clear" [41, 11] .none (.ref 1266) (.str (S "cachetools") 1764)), #[]⟩
def kf_1269 (P : Params) : Obj :=
  let _ := P
  ⟨(.type "dict"), none, .dict #[en P "__module__" 1773 (.str (S "cachetools") 1764), en P "__firstlineno__" 1777 (.int 632 1776), en P "_Link" 1833 (.ref 1178), en P "__init__" 1845 (.ref 1192), en P "__contains__" 1854 (.ref 1199), en P "__getitem__" 1866 (.ref 1207), en P "__setitem__" 1883 (.ref 1215), en P "__delitem__" 1894 (.ref 1223), en P "__iter__" 1904 (.ref 1230), en P "__setstate__" 1915 (.ref 1237), en P "ttl" 1923 (.ref 1245), en P "expire" 1938 (.ref 1253), en P "popitem" 1948 (.ref 1260), en P "clear" 1955 (.ref 1267), en P "__static_attributes__" 1959 (.ref 1268), en P "__doc__" 1960 .none] 2, #[]⟩
def kf_1270 (P : Params) : Obj :=
  let _ := P
  ⟨(.ref 124), none, .cls { name := S "TTLCache", bases := [(.ref 1128)], mro := [(.ref 1270), (.ref 1128), (.ref 865), (.ref 730), (.ref 478), (.ref 290), (.ref 231), (.ref 201), (.ref 267), (.type "object")], ns := 1269, qualname := S "TTLCache", hasDict := true, slotNames := [], subclasses := [], abstract := false, collection := none, hasDel := false }, #[(some (.ref 1138)), none, (some (.str (S "TTLCache") 1766)), (some (.str (S "TTLCache") 1774)), (some (.builtin "object.__new__")), (some (.bool true))]⟩
def kf_1379 (P : Params) : Obj :=
  let _ := P
  ⟨(.type "tuple"), none, .seq #[.none, .none] 0, #[]⟩
def kf_1385 (P : Params) : Obj :=
  let _ := P
  ⟨(.type "code"), none, .fields #[(.str (S "__init__") 2116), (.str (S "TLRUCache._Item.__init__") 2117), (.str (S "/claim/cut.py") 2118), (.int 857 0), (.int 3 0), (.int 0 0), (.int 0 0), (.int 3 0), (.ref 1380), (.bool true), (.int 383 0), (.ref 1381), .none, (.ref 1382), (.ref 1383), (.ref 1384), (.int 2122 0), (.int 857 0), (.str (S "/claim/cut.py") 2123)], #[]⟩
def kf_1386 (P : Params) : Obj :=
  let _ := P
  ⟨(.type "function"), none, .func (fnD "__init__" "TLRUCache._Item.__init__" [57, 1, 1] (.ref 1379) (.ref 1385) (.str (S "cachetools") 2084)), #[]⟩
def kf_1392 (P : Params) : Obj :=
  let _ := P
  ⟨(.type "code"), none, .fields #[(.str (S "__lt__") 2125), (.str (S "TLRUCache._Item.__lt__") 2126), (.str (S "/claim/cut.py") 2127), (.int 862 0), (.int 2 0), (.int 0 0), (.int 0 0), (.int 3 0), (.ref 1387), (.bool true), (.int 383 0), (.ref 1388), .none, (.ref 1389), (.ref 1390), (.ref 1391), (.int 2130 0), (.int 862 0), (.str (S "/claim/cut.py") 2131)], #[]⟩
def kf_1393 (P : Params) : Obj :=
  let _ := P
  ⟨(.type "function"), none, .func (fnD "__lt__" "TLRUCache._Item.__lt__" [57, 1, 2] .none (.ref 1392) (.str (S "cachetools") 2084)), #[]⟩
def kf_1396 (P : Params) : Obj :=
  let _ := P
  ⟨(.type "dict"), none, .dict #[en P "__module__" 2107 (.str (S "cachetools") 2084), en P "__firstlineno__" 2111 (.int 853 2110), en P "__slots__" 2115 (.ref 1378), en P "__init__" 2124 (.ref 1386), en P "__lt__" 2132 (.ref 1393), en P "__static_attributes__" 2136 (.ref 1394), en P "expires" 2138 (.ref 1398), en P "key" 2140 (.ref 1399), en P "removed" 2142 (.ref 1400), en P "__doc__" 2143 .none, en P "__gt__" 2159 (.ref 1279), en P "__le__" 2161 (.ref 1286), en P "__ge__" 2163 (.ref 1293)] 8, #[]⟩
def kf_1397 (P : Params) : Obj :=
  let _ := P
  ⟨(.type "type"), none, .cls { name := S "_Item", bases := [(.type "object")], mro := [(.ref 1397), (.type "object")], ns := 1396, qualname := S "TLRUCache._Item", hasDict := false, slotNames := [S "expires", S "key", S "removed"], subclasses := [], abstract := false, collection := none, hasDel := false }, #[none, none, (some (.str (S "_Item") 2100)), (some (.str (S "TLRUCache._Item") 2108)), (some (.builtin "object.__new__")), (some (.bool false))]⟩
def kf_1398 (P : Params) : Obj :=
  let _ := P
  ⟨(.type "member_descriptor"), none, .fields #[(.str (S "expires") 2137), (.ref 1397), (.builtin "proto.slot"), (.builtin "proto.slot#set"), (.int 2 0)], #[]⟩
def kf_1399 (P : Params) : Obj :=
  let _ := P
  ⟨(.type "member_descriptor"), none, .fields #[(.str (S "key") 2139), (.ref 1397), (.builtin "proto.slot"), (.builtin "proto.slot#set"), (.int 1 0)], #[]⟩
def kf_1400 (P : Params) : Obj :=
  let _ := P
  ⟨(.type "member_descriptor"), none, .fields #[(.str (S "removed") 2141), (.ref 1397), (.builtin "proto.slot"), (.builtin "proto.slot#set"), (.int 0 0)], #[]⟩
def kf_1404 (P : Params) : Obj :=
  let _ := P
  ⟨(.type "tuple"), none, .seq #[(.ref 1137), .none] 0, #[]⟩
def kf_1410 (P : Params) : Obj :=
  let _ := P
  ⟨(.type "code"), none, .fields #[(.str (S "__init__") 2165), (.str (S "TLRUCache.__init__") 2166), (.str (S "/claim/cut.py") 2167), (.int 865 0), (.int 5 0), (.int 0 0), (.int 0 0), (.int 3 0), (.ref 1405), (.bool true), (.int 383 0), (.ref 1406), .none, (.ref 1407), (.ref 1408), (.ref 1409), (.int 2173 0), (.int 865 0), (.str (S "/claim/cut.py") 2174)], #[]⟩
def kf_1411 (P : Params) : Obj :=
  let _ := P
  ⟨(.type "function"), none, .func (fnD "__init__" "TLRUCache.__init__" [57, 2] (.ref 1404) (.ref 1410) (.str (S "cachetools") 2084)), #[]⟩
def kf_1417 (P : Params) : Obj :=
  let _ := P
  ⟨(.type "code"), none, .fields #[(.str (S "__contains__") 2176), (.str (S "TLRUCache.__contains__") 2177), (.str (S "/claim/cut.py") 2178), (.int 871 0), (.int 2 0), (.int 0 0), (.int 0 0), (.int 3 0), (.ref 1412), (.bool true), (.int 383 0), (.ref 1413), .none, (.ref 1414), (.ref 1415), (.ref 1416), (.int 2182 0), (.int 871 0), (.str (S "/claim/cut.py") 2183)], #[]⟩
def kf_1418 (P : Params) : Obj :=
  let _ := P
  ⟨(.type "function"), none, .func (fnD "__contains__" "TLRUCache.__contains__" [57, 3] .none (.ref 1417) (.str (S "cachetools") 2084)), #[]⟩
def kf_1419 (P : Params) : Obj :=
  let _ := P
  ⟨(.type "tuple"), none, .seq #[(.ref 763)] 0, #[]⟩
def kf_1425 (P : Params) : Obj :=
  let _ := P
  ⟨(.type "code"), none, .fields #[(.str (S "__getitem__") 2186), (.str (S "TLRUCache.__getitem__") 2187), (.str (S "/claim/cut.py") 2188), (.int 879 0), (.int 3 0), (.int 0 0), (.int 0 0), (.int 3 0), (.ref 1420), (.bool true), (.int 383 0), (.ref 1421), .none, (.ref 1422), (.ref 1423), (.ref 1424), (.int 2194 0), (.int 879 0), (.str (S "/claim/cut.py") 2195)], #[]⟩
def kf_1426 (P : Params) : Obj :=
  let _ := P
  ⟨(.type "function"), none, .func (fnD "__getitem__" "TLRUCache.__getitem__" [57, 4] (.ref 1419) (.ref 1425) (.str (S "cachetools") 2084)), #[]⟩
def kf_1427 (P : Params) : Obj :=
  let _ := P
  ⟨(.type "tuple"), none, .seq #[(.ref 770)] 0, #[]⟩
def kf_1433 (P : Params) : Obj :=
  let _ := P
  ⟨(.type "code"), none, .fields #[(.str (S "__setitem__") 2198), (.str (S "TLRUCache.__setitem__") 2199), (.str (S "/claim/cut.py") 2200), (.int 891 0), (.int 4 0), (.int 0 0), (.int 0 0), (.int 3 0), (.ref 1428), (.bool true), (.int 383 0), (.ref 1429), .none, (.ref 1430), (.ref 1431), (.ref 1432), (.int 2209 0), (.int 891 0), (.str (S "/claim/cut.py") 2210)], #[]⟩
def kf_1434 (P : Params) : Obj :=
  let _ := P
  ⟨(.type "function"), none, .func (fnD "__setitem__" "TLRUCache.__setitem__" [57, 5] (.ref 1427) (.ref 1433) (.str (S "cachetools") 2084)), #[]⟩
def kf_1435 (P : Params) : Obj :=
  let _ := P
  ⟨(.type "tuple"), none, .seq #[(.ref 777)] 0, #[]⟩
def kf_1441 (P : Params) : Obj :=
  let _ := P
  ⟨(.type "code"), none, .fields #[(.str (S "__delitem__") 2213), (.str (S "TLRUCache.__delitem__") 2214), (.str (S "/claim/cut.py") 2215), (.int 906 0), (.int 3 0), (.int 0 0), (.int 0 0), (.int 3 0), (.ref 1436), (.bool true), (.int 383 0), (.ref 1437), .none, (.ref 1438), (.ref 1439), (.ref 1440), (.int 2221 0), (.int 906 0), (.str (S "/claim/cut.py") 2222)], #[]⟩
def kf_1442 (P : Params) : Obj :=
  let _ := P
  ⟨(.type "function"), none, .func (fnD "__delitem__" "TLRUCache.__delitem__" [57, 6] (.ref 1435) (.ref 1441) (.str (S "cachetools") 2084)), #[]⟩
def kf_1448 (P : Params) : Obj :=
  let _ := P
  ⟨(.type "code"), none, .fields #[(.str (S "__iter__") 2224), (.str (S "TLRUCache.__iter__") 2225), (.str (S "/claim/cut.py") 2226), (.int 914 0), (.int 1 0), (.int 0 0), (.int 0 0), (.int 35 0), (.ref 1443), (.bool true), (.int 383 0), (.ref 1444), .none, (.ref 1445), (.ref 1446), (.ref 1447), (.int 2230 0), (.int 914 0), (.str (S "/claim/cut.py") 2231)], #[]⟩
def kf_1449 (P : Params) : Obj :=
  let _ := P
  ⟨(.type "function"), none, .func (fnD "__iter__" "TLRUCache.__iter__" [57, 7] .none (.ref 1448) (.str (S "cachetools") 2084)), #[]⟩
def kf_1455 (P : Params) : Obj :=
  let _ := P
  ⟨(.type "code"), none, .fields #[(.str (S "ttu") 2233), (.str (S "TLRUCache.ttu") 2234), (.str (S "/claim/cut.py") 2235), (.int 920 0), (.int 1 0), (.int 0 0), (.int 0 0), (.int 3 0), (.ref 1450), (.bool true), (.int 383 0), (.ref 1451), .none, (.ref 1452), (.ref 1453), (.ref 1454), (.int 2237 0), (.int 920 0), (.str (S "/claim/cut.py") 2238)], #[]⟩
def kf_1456 (P : Params) : Obj :=
  let _ := P
  ⟨(.type "function"), none, .func (fnD "ttu" "TLRUCache.ttu" [57, 8] .none (.ref 1455) (.str (S "cachetools") 2084)), #[]⟩
def kf_1457 (P : Params) : Obj :=
  let _ := P
  ⟨(.type "property"), none, .fields #[(.ref 1456), .none, .none, .none, (.str (S "ttu") 2240), (.bool false)], #[]⟩
def kf_1458 (P : Params) : Obj :=
  let _ := P
  ⟨(.type "tuple"), none, .seq #[.none] 0, #[]⟩
def kf_1462 (P : Params) : Obj :=
  let _ := P
  ⟨(.type "code"), none, .fields #[(.str (S "expire") 2241), (.str (S "TLRUCache.expire") 2242), (.str (S "/claim/cut.py") 2243), (.int 924 0), (.int 2 0), (.int 0 0), (.int 0 0), (.int 3 0), (.ref 1459), (.bool true), (.int 383 0), (.ref 1460), .none, .none, .none, (.ref 1461), (.int 2244 0), (.int 924 0), (.str (S "/claim/cut.py") 2245)], #[]⟩
def kf_1463 (P : Params) : Obj :=
  let _ := P
  ⟨(.type "function"), none, .func (fnD "expire" "TLRUCache.expire" [57, 9] (.ref 1458) (.ref 1462) (.str (S "cachetools") 2084)), #[]⟩
def kf_1469 (P : Params) : Obj :=
  let _ := P
  ⟨(.type "code"), none, .fields #[(.str (S "popitem") 2247), (.str (S "TLRUCache.popitem") 2248), (.str (S "/claim/cut.py") 2249), (.int 945 0), (.int 1 0), (.int 0 0), (.int 0 0), (.int 3 0), (.ref 1464), (.bool true), (.int 383 0), (.ref 1465), .none, (.ref 1466), (.ref 1467), (.ref 1468), (.int 2254 0), (.int 945 0), (.str (S "/claim/cut.py") 2255)], #[]⟩
def kf_1470 (P : Params) : Obj :=
  let _ := P
  ⟨(.type "function"), none, .func (fnD "popitem" "TLRUCache.popitem" [57, 10] .none (.ref 1469) (.str (S "cachetools") 2084)), #[]⟩
def kf_1476 (P : Params) : Obj :=
  let _ := P
  ⟨(.type "code"), none, .fields #[(.str (S "clear") 2257), (.str (S "TLRUCache.clear") 2258), (.str (S "/claim/cut.py") 2259), (.int 957 0), (.int 1 0), (.int 0 0), (.int 0 0), (.int 3 0), (.ref 1471), (.bool true), (.int 383 0), (.ref 1472), .none, (.ref 1473), (.ref 1474), (.ref 1475), (.int 2261 0), (.int 957 0), (.str (S "/claim/cut.py") 2262)], #[]⟩
def kf_1477 (P : Params) : Obj :=
  let _ := P
  ⟨(.type "function"), none, .func (fnD "clear" "TLRUCache.clear" [57, 11] .none (.ref 1476) (.str (S "cachetools") 2084)), #[]⟩
def kf_1478 (P : Params) : Obj :=
  let _ := P
  ⟨(.type "tuple"), none, .seq #[(.ref 777)] 0, #[]⟩
def kf_1484 (P : Params) : Obj :=
  let _ := P
  ⟨(.type "code"), none, .fields #[(.str (S "__delitem") 2265), (.str (S "TLRUCache.__delitem") 2266), (.str (S "/claim/cut.py") 2267), (.int 960 0), (.int 3 0), (.int 0 0), (.int 0 0), (.int 3 0), (.ref 1479), (.bool true), (.int 383 0), (.ref 1480), .none, (.ref 1481), (.ref 1482), (.ref 1483), (.int 2271 0), (.int 960 0), (.str (S "/claim/cut.py") 2272)], #[]⟩
def kf_1485 (P : Params) : Obj :=
  let _ := P
  ⟨(.type "function"), none, .func (fnD "__delitem" "TLRUCache.__delitem" [57, 12] (.ref 1478) (.ref 1484) (.str (S "cachetools") 2084)), #[]⟩
def kf_1487 (P : Params) : Obj :=
  let _ := P
  ⟨(.type "dict"), none, .dict #[en P "__module__" 2093 (.str (S "cachetools") 2084), en P "__firstlineno__" 2097 (.int 850 2096), en P "_TLRUCache__HEAP_CLEANUP_FACTOR" 2099 (.int 2 2098), en P "_Item" 2164 (.ref 1397), en P "__init__" 2175 (.ref 1411), en P "__contains__" 2184 (.ref 1418), en P "__getitem__" 2196 (.ref 1426), en P "__setitem__" 2211 (.ref 1434), en P "__delitem__" 2223 (.ref 1442), en P "__iter__" 2232 (.ref 1449), en P "ttu" 2240 (.ref 1457), en P "expire" 2246 (.ref 1463), en P "popitem" 2256 (.ref 1470), en P "clear" 2263 (.ref 1477), en P "_TLRUCache__delitem" 2273 (.ref 1485), en P "__static_attributes__" 2277 (.ref 1486), en P "__doc__" 2278 .none] 2, #[]⟩
def kf_1488 (P : Params) : Obj :=
  let _ := P
  ⟨(.ref 124), none, .cls { name := S "TLRUCache", bases := [(.ref 1128)], mro := [(.ref 1488), (.ref 1128), (.ref 865), (.ref 730), (.ref 478), (.ref 290), (.ref 231), (.ref 201), (.ref 267), (.type "object")], ns := 1487, qualname := S "TLRUCache", hasDict := true, slotNames := [], subclasses := [], abstract := false, collection := none, hasDel := false }, #[(some (.ref 1364)), none, (some (.str (S "TLRUCache") 2086)), (some (.str (S "TLRUCache") 2094)), (some (.builtin "object.__new__")), (some (.bool true))]⟩
def kf_1496 (P : Params) : Obj :=
  let _ := P
  ⟨(.type "code"), none, .fields #[(.str (S "_law_asks") 2283), (.str (S "_law_asks") 2284), (.str (S "/claim/cut.py") 2285), (.int 968 0), (.int 0 0), (.int 0 0), (.int 0 0), (.int 3 0), (.ref 1491), (.bool true), (.int 383 0), (.ref 1492), .none, (.ref 1493), (.ref 1494), (.ref 1495), (.int 2286 0), (.int 968 0), (.str (S "/claim/cut.py") 2287)], #[]⟩
def kf_1497 (P : Params) : Obj :=
  let _ := P
  ⟨(.type "function"), none, .func (fnD "_law_asks" "_law_asks" [59] .none (.ref 1496) (.str (S "law_bg0032_01") 2281)), #[]⟩
def kf_1498 (P : Params) : Obj :=
  let _ := P
  ⟨(.type "list"), none, .seq #[(.int 7 2289), (.int 8 2290), (.int 11 2291)] 0, #[]⟩
def kf_1499 (P : Params) : Obj :=
  let _ := P
  ⟨(.type "list"), none, .seq #[(.int 4 2292), (.int 5 2293)] 0, #[]⟩
def kf_1500 (P : Params) : Obj :=
  let _ := P
  ⟨(.type "list"), none, .seq #[(.int 7 2294), (.int 8 2295)] 0, #[]⟩
def kf_1501 (P : Params) : Obj :=
  let _ := P
  ⟨(.type "list"), none, .seq #[(.int 4 2296), (.int 5 2297), (.int 7 2298), (.int 8 2299)] 0, #[]⟩
def kf_1502 (P : Params) : Obj :=
  let _ := P
  ⟨(.type "list"), none, .seq #[(.ref 1498), (.ref 1499), (.ref 1500), (.ref 1501)] 0, #[]⟩
def kf_1508 (P : Params) : Obj :=
  let _ := P
  ⟨(.type "code"), none, .fields #[(.str (S "_law_clock") 2301), (.str (S "_law_clock") 2302), (.str (S "/claim/cut.py") 2303), (.int 971 0), (.int 0 0), (.int 0 0), (.int 0 0), (.int 3 0), (.ref 1503), (.bool true), (.int 383 0), (.ref 1504), .none, (.ref 1505), (.ref 1506), (.ref 1507), (.int 2304 0), (.int 971 0), (.str (S "/claim/cut.py") 2305)], #[]⟩
def kf_1509 (P : Params) : Obj :=
  let _ := P
  ⟨(.type "function"), none, .func (fnD "_law_clock" "_law_clock" [61] .none (.ref 1508) (.str (S "law_bg0032_01") 2281)), #[]⟩
def kf_1515 (P : Params) : Obj :=
  let _ := P
  ⟨(.type "code"), none, .fields #[(.str (S "_law_end") 2307), (.str (S "_law_end") 2308), (.str (S "/claim/cut.py") 2309), (.int 973 0), (.int 3 0), (.int 0 0), (.int 0 0), (.int 3 0), (.ref 1510), (.bool true), (.int 383 0), (.ref 1511), .none, (.ref 1512), (.ref 1513), (.ref 1514), (.int 2313 0), (.int 973 0), (.str (S "/claim/cut.py") 2314)], #[]⟩
def kf_1516 (P : Params) : Obj :=
  let _ := P
  ⟨(.type "function"), none, .func (fnD "_law_end" "_law_end" [62] .none (.ref 1515) (.str (S "law_bg0032_01") 2281)), #[]⟩
def kf_1520 (P : Params) : Obj :=
  let _ := P
  ⟨(.type "code"), none, .fields #[(.str (S "law") 2316), (.str (S "law") 2317), (.str (S "/claim/cut.py") 2318), (.int 975 0), (.int 1 0), (.int 0 0), (.int 0 0), (.int 3 0), (.ref 1517), (.bool true), (.int 383 0), (.ref 1518), .none, .none, .none, (.ref 1519), (.int 2319 0), (.int 975 0), (.str (S "/claim/cut.py") 2320)], #[]⟩
def kf_1521 (P : Params) : Obj :=
  let _ := P
  ⟨(.type "function"), none, .func (fnD "law" "law" [63] .none (.ref 1520) (.str (S "law_bg0032_01") 2281)), #[]⟩
def kf (P : Params) : Frag := [(nat_lit 2, kf_2 P),
  (nat_lit 3, kf_3 P),
  (nat_lit 90, kf_90 P),
  (nat_lit 91, kf_91 P),
  (nat_lit 123, kf_123 P),
  (nat_lit 124, kf_124 P),
  (nat_lit 200, kf_200 P),
  (nat_lit 201, kf_201 P),
  (nat_lit 230, kf_230 P),
  (nat_lit 231, kf_231 P),
  (nat_lit 266, kf_266 P),
  (nat_lit 267, kf_267 P),
  (nat_lit 289, kf_289 P),
  (nat_lit 290, kf_290 P),
  (nat_lit 477, kf_477 P),
  (nat_lit 478, kf_478 P),
  (nat_lit 729, kf_729 P),
  (nat_lit 730, kf_730 P),
  (nat_lit 741, kf_741 P),
  (nat_lit 742, kf_742 P),
  (nat_lit 748, kf_748 P),
  (nat_lit 749, kf_749 P),
  (nat_lit 755, kf_755 P),
  (nat_lit 756, kf_756 P),
  (nat_lit 762, kf_762 P),
  (nat_lit 763, kf_763 P),
  (nat_lit 769, kf_769 P),
  (nat_lit 770, kf_770 P),
  (nat_lit 776, kf_776 P),
  (nat_lit 777, kf_777 P),
  (nat_lit 783, kf_783 P),
  (nat_lit 784, kf_784 P),
  (nat_lit 790, kf_790 P),
  (nat_lit 791, kf_791 P),
  (nat_lit 797, kf_797 P),
  (nat_lit 798, kf_798 P),
  (nat_lit 804, kf_804 P),
  (nat_lit 805, kf_805 P),
  (nat_lit 806, kf_806 P),
  (nat_lit 812, kf_812 P),
  (nat_lit 813, kf_813 P),
  (nat_lit 814, kf_814 P),
  (nat_lit 820, kf_820 P),
  (nat_lit 821, kf_821 P),
  (nat_lit 822, kf_822 P),
  (nat_lit 828, kf_828 P),
  (nat_lit 829, kf_829 P),
  (nat_lit 835, kf_835 P),
  (nat_lit 836, kf_836 P),
  (nat_lit 842, kf_842 P),
  (nat_lit 843, kf_843 P),
  (nat_lit 844, kf_844 P),
  (nat_lit 850, kf_850 P),
  (nat_lit 851, kf_851 P),
  (nat_lit 852, kf_852 P),
  (nat_lit 858, kf_858 P),
  (nat_lit 859, kf_859 P),
  (nat_lit 861, kf_861 P),
  (nat_lit 864, kf_864 P),
  (nat_lit 865, kf_865 P),
  (nat_lit 877, kf_877 P),
  (nat_lit 883, kf_883 P),
  (nat_lit 884, kf_884 P),
  (nat_lit 885, kf_885 P),
  (nat_lit 891, kf_891 P),
  (nat_lit 892, kf_892 P),
  (nat_lit 893, kf_893 P),
  (nat_lit 899, kf_899 P),
  (nat_lit 900, kf_900 P),
  (nat_lit 906, kf_906 P),
  (nat_lit 907, kf_907 P),
  (nat_lit 913, kf_913 P),
  (nat_lit 914, kf_914 P),
  (nat_lit 916, kf_916 P),
  (nat_lit 917, kf_917 P),
  (nat_lit 927, kf_927 P),
  (nat_lit 933, kf_933 P),
  (nat_lit 934, kf_934 P),
  (nat_lit 935, kf_935 P),
  (nat_lit 941, kf_941 P),
  (nat_lit 942, kf_942 P),
  (nat_lit 943, kf_943 P),
  (nat_lit 949, kf_949 P),
  (nat_lit 950, kf_950 P),
  (nat_lit 951, kf_951 P),
  (nat_lit 957, kf_957 P),
  (nat_lit 958, kf_958 P),
  (nat_lit 964, kf_964 P),
  (nat_lit 965, kf_965 P),
  (nat_lit 971, kf_971 P),
  (nat_lit 972, kf_972 P),
  (nat_lit 978, kf_978 P),
  (nat_lit 979, kf_979 P),
  (nat_lit 981, kf_981 P),
  (nat_lit 982, kf_982 P),
  (nat_lit 1005, kf_1005 P),
  (nat_lit 1006, kf_1006 P),
  (nat_lit 1012, kf_1012 P),
  (nat_lit 1013, kf_1013 P),
  (nat_lit 1019, kf_1019 P),
  (nat_lit 1020, kf_1020 P),
  (nat_lit 1026, kf_1026 P),
  (nat_lit 1027, kf_1027 P),
  (nat_lit 1033, kf_1033 P),
  (nat_lit 1034, kf_1034 P),
  (nat_lit 1040, kf_1040 P),
  (nat_lit 1041, kf_1041 P),
  (nat_lit 1043, kf_1043 P),
  (nat_lit 1044, kf_1044 P),
  (nat_lit 1049, kf_1049 P),
  (nat_lit 1055, kf_1055 P),
  (nat_lit 1056, kf_1056 P),
  (nat_lit 1057, kf_1057 P),
  (nat_lit 1063, kf_1063 P),
  (nat_lit 1064, kf_1064 P),
  (nat_lit 1065, kf_1065 P),
  (nat_lit 1071, kf_1071 P),
  (nat_lit 1072, kf_1072 P),
  (nat_lit 1081, kf_1081 P),
  (nat_lit 1087, kf_1087 P),
  (nat_lit 1088, kf_1088 P),
  (nat_lit 1089, kf_1089 P),
  (nat_lit 1095, kf_1095 P),
  (nat_lit 1096, kf_1096 P),
  (nat_lit 1102, kf_1102 P),
  (nat_lit 1103, kf_1103 P),
  (nat_lit 1109, kf_1109 P),
  (nat_lit 1110, kf_1110 P),
  (nat_lit 1116, kf_1116 P),
  (nat_lit 1117, kf_1117 P),
  (nat_lit 1118, kf_1118 P),
  (nat_lit 1124, kf_1124 P),
  (nat_lit 1125, kf_1125 P),
  (nat_lit 1127, kf_1127 P),
  (nat_lit 1128, kf_1128 P),
  (nat_lit 1153, kf_1153 P),
  (nat_lit 1159, kf_1159 P),
  (nat_lit 1160, kf_1160 P),
  (nat_lit 1166, kf_1166 P),
  (nat_lit 1167, kf_1167 P),
  (nat_lit 1173, kf_1173 P),
  (nat_lit 1174, kf_1174 P),
  (nat_lit 1177, kf_1177 P),
  (nat_lit 1178, kf_1178 P),
  (nat_lit 1179, kf_1179 P),
  (nat_lit 1180, kf_1180 P),
  (nat_lit 1181, kf_1181 P),
  (nat_lit 1182, kf_1182 P),
  (nat_lit 1185, kf_1185 P),
  (nat_lit 1191, kf_1191 P),
  (nat_lit 1192, kf_1192 P),
  (nat_lit 1198, kf_1198 P),
  (nat_lit 1199, kf_1199 P),
  (nat_lit 1200, kf_1200 P),
  (nat_lit 1206, kf_1206 P),
  (nat_lit 1207, kf_1207 P),
  (nat_lit 1208, kf_1208 P),
  (nat_lit 1214, kf_1214 P),
  (nat_lit 1215, kf_1215 P),
  (nat_lit 1216, kf_1216 P),
  (nat_lit 1222, kf_1222 P),
  (nat_lit 1223, kf_1223 P),
  (nat_lit 1229, kf_1229 P),
  (nat_lit 1230, kf_1230 P),
  (nat_lit 1236, kf_1236 P),
  (nat_lit 1237, kf_1237 P),
  (nat_lit 1243, kf_1243 P),
  (nat_lit 1244, kf_1244 P),
  (nat_lit 1245, kf_1245 P),
  (nat_lit 1246, kf_1246 P),
  (nat_lit 1252, kf_1252 P),
  (nat_lit 1253, kf_1253 P),
  (nat_lit 1259, kf_1259 P),
  (nat_lit 1260, kf_1260 P),
  (nat_lit 1266, kf_1266 P),
  (nat_lit 1267, kf_1267 P),
  (nat_lit 1269, kf_1269 P),
  (nat_lit 1270, kf_1270 P),
  (nat_lit 1379, kf_1379 P),
  (nat_lit 1385, kf_1385 P),
  (nat_lit 1386, kf_1386 P),
  (nat_lit 1392, kf_1392 P),
  (nat_lit 1393, kf_1393 P),
  (nat_lit 1396, kf_1396 P),
  (nat_lit 1397, kf_1397 P),
  (nat_lit 1398, kf_1398 P),
  (nat_lit 1399, kf_1399 P),
  (nat_lit 1400, kf_1400 P),
  (nat_lit 1404, kf_1404 P),
  (nat_lit 1410, kf_1410 P),
  (nat_lit 1411, kf_1411 P),
  (nat_lit 1417, kf_1417 P),
  (nat_lit 1418, kf_1418 P),
  (nat_lit 1419, kf_1419 P),
  (nat_lit 1425, kf_1425 P),
  (nat_lit 1426, kf_1426 P),
  (nat_lit 1427, kf_1427 P),
  (nat_lit 1433, kf_1433 P),
  (nat_lit 1434, kf_1434 P),
  (nat_lit 1435, kf_1435 P),
  (nat_lit 1441, kf_1441 P),
  (nat_lit 1442, kf_1442 P),
  (nat_lit 1448, kf_1448 P),
  (nat_lit 1449, kf_1449 P),
  (nat_lit 1455, kf_1455 P),
  (nat_lit 1456, kf_1456 P),
  (nat_lit 1457, kf_1457 P),
  (nat_lit 1458, kf_1458 P),
  (nat_lit 1462, kf_1462 P),
  (nat_lit 1463, kf_1463 P),
  (nat_lit 1469, kf_1469 P),
  (nat_lit 1470, kf_1470 P),
  (nat_lit 1476, kf_1476 P),
  (nat_lit 1477, kf_1477 P),
  (nat_lit 1478, kf_1478 P),
  (nat_lit 1484, kf_1484 P),
  (nat_lit 1485, kf_1485 P),
  (nat_lit 1487, kf_1487 P),
  (nat_lit 1488, kf_1488 P),
  (nat_lit 1496, kf_1496 P),
  (nat_lit 1497, kf_1497 P),
  (nat_lit 1498, kf_1498 P),
  (nat_lit 1499, kf_1499 P),
  (nat_lit 1500, kf_1500 P),
  (nat_lit 1501, kf_1501 P),
  (nat_lit 1502, kf_1502 P),
  (nat_lit 1508, kf_1508 P),
  (nat_lit 1509, kf_1509 P),
  (nat_lit 1515, kf_1515 P),
  (nat_lit 1516, kf_1516 P),
  (nat_lit 1520, kf_1520 P),
  (nat_lit 1521, kf_1521 P)]
def kfas : List Addr := [2, 3, 90, 91, 123, 124, 200, 201, 230, 231, 266, 267, 289, 290, 477, 478, 729, 730, 741, 742, 748, 749, 755, 756, 762, 763, 769, 770, 776, 777, 783, 784, 790, 791, 797, 798, 804, 805, 806, 812, 813, 814, 820, 821, 822, 828, 829, 835, 836, 842, 843, 844, 850, 851, 852, 858, 859, 861, 864, 865, 877, 883, 884, 885, 891, 892, 893, 899, 900, 906, 907, 913, 914, 916, 917, 927, 933, 934, 935, 941, 942, 943, 949, 950, 951, 957, 958, 964, 965, 971, 972, 978, 979, 981, 982, 1005, 1006, 1012, 1013, 1019, 1020, 1026, 1027, 1033, 1034, 1040, 1041, 1043, 1044, 1049, 1055, 1056, 1057, 1063, 1064, 1065, 1071, 1072, 1081, 1087, 1088, 1089, 1095, 1096, 1102, 1103, 1109, 1110, 1116, 1117, 1118, 1124, 1125, 1127, 1128, 1153, 1159, 1160, 1166, 1167, 1173, 1174, 1177, 1178, 1179, 1180, 1181, 1182, 1185, 1191, 1192, 1198, 1199, 1200, 1206, 1207, 1208, 1214, 1215, 1216, 1222, 1223, 1229, 1230, 1236, 1237, 1243, 1244, 1245, 1246, 1252, 1253, 1259, 1260, 1266, 1267, 1269, 1270, 1379, 1385, 1386, 1392, 1393, 1396, 1397, 1398, 1399, 1400, 1404, 1410, 1411, 1417, 1418, 1419, 1425, 1426, 1427, 1433, 1434, 1435, 1441, 1442, 1448, 1449, 1455, 1456, 1457, 1458, 1462, 1463, 1469, 1470, 1476, 1477, 1478, 1484, 1485, 1487, 1488, 1496, 1497, 1498, 1499, 1500, 1501, 1502, 1508, 1509, 1515, 1516, 1520, 1521]


end
-- RK1
section
set_option maxRecDepth 100000
set_option maxHeartbeats 0
def qq : Program := view pw [63]
def ll : List Str := pw.boundNames.filter fun n => !(n == ("law" : Str))
theorem runK (w : World) : pipe Fast.tw14789777615569096658 Fast.tw10295753902157049106 Fast.tw14289696077712309145 Fast.tw1435165496053646825 Fast.tw14364793385576792824 (fun mods s => Fast.tw4187177175401517315 qq ll mods (fun _ => true) true s) pw kfas 1403 13994 w = some (true, openGood qq ll, (kf w.params).map fun p => some p.2) := by
  kernel_rfl

end
-- HE1
section
set_option maxRecDepth 100000
set_option maxHeartbeats 0
theorem left1 : LeftO pw qq ll (fun _ => true) (fun s => kfas.map s.heap.get?) (fun w => (kf w.params).map fun p => some p.2) (1403 + 1 + (13994 + 1)) :=
  left_of_fast _ Fast.te14789777615569096658 Fast.te10295753902157049106 Fast.te14289696077712309145 Fast.te1435165496053646825 Fast.te14364793385576792824 Fast.te4187177175401517315 runK

end
-- HF1
section
set_option maxRecDepth 100000
set_option maxHeartbeats 400000
theorem kfas_is : ∀ P, kfas = (kf P).map (·.1) := fun P => by kernel_rfl
theorem chains : chainsOk qq = true := by kernel_rfl
theorem opens1 : (opensWell pw && (frees PySem.Challenge.rw_bg0032_01.row.toRowW && PySem.Challenge.rw_bg0032_01.row.toRowW.within.isEmpty)) = true := by decide +kernel
theorem bare1 : pw.bare := ⟨rfl, rfl, rfl, rfl, rfl, by decide +kernel⟩
theorem promised1 : PySem.Challenge.rw_bg0032_01.row.toRowW.promised := by w_witness2

end
-- HS1
section
set_option maxRecDepth 100000
set_option maxHeartbeats 0
theorem fastSaid : @OpenLaw.wellSaid = @Fast.tw9446332074065402090 := Fast.te9446332074065402090
theorem said1' : Fast.tw9446332074065402090 PySem.Challenge.rw_bg0032_01 = true := by
  kernel_rfl
theorem said1 : PySem.Challenge.rw_bg0032_01.wellSaid = true := by
  have h := said1'
  rw [← fastSaid] at h
  exact h

end
-- HG1
section
set_option maxRecDepth 100000
set_option maxHeartbeats 400000
abbrev rw1 : OpenLaw := PySem.Challenge.rw_bg0032_01
def posOf : Stmt → Pos
  | .FunctionDef _ _ _ _ _ _ _ _ _ p => p
  | _ => default
def lawD : DefRec := ⟨S "law", paramsOf (stP [63]), inside (stP [63]), scopeOf (stP [63]), posOf (stP [63])⟩
theorem defOf1 : defOf qq (S "law") = some (lawD, []) := by kernel_rfl
theorem theDef1 : pw.theDef (S "law") = some (lawD.params, lawD.body, lawD.scope) := by kernel_rfl
theorem kws1 : kwWritten? lawD.params.kwonlyargs lawD.params.kw_defaults = some [] := by kernel_rfl
theorem law_of_walk (walk : WalkO qq ll (fun _ _ => True) (fun w h => (kf w.params).In h) rw1.row.toRowW lawD [] fun f vs => PySem.call f vs) : rw1.Holds :=
  holds_law said1 fun said => PySem.W.holds_open (r := rw1.row) left1 (fun w s e => InK.of kfas_is w s e) (fun w h h' => InK.keeps w h h') (fun _ _ => trivial) (fun _ _ _ _ _ => trivial)
    defOf1 theDef1 kws1 (fun s _ => recFacts_nil rfl) rfl said (by rw [chains]; exact opens1) bare1 promised1 walk

end
-- DK1
section

/-- keys of any kind, mixed: by value (ints, texts) or tuples -/
structure AnyKind (prog : Program) (w : World) (K : Type) [DecidableEq K] where
  is : Heap → K → Value → Prop
  hash : K → Int
  draws : K → Nat
  inj : ∀ {h : Heap} {v : Value} {x y : K}, is h x v → is h y v → x = y
  keeps : ∀ {h h' : Heap} {k : K} {v : Value} {d : Addr} {o : Obj} {es ep}, is h k v → h.get? d = some o → o.data = .dict es ep → Heap.SameBut d h h' → is h' k v
  grows : ∀ {h h' : Heap} {k : K} {v : Value}, is h k v → h.StaysIn h' → is h' k v
  pyHash : ∀ {A : Around} {E : Value → Shared → Prop} {s : Shared} {k : K} {v : Value} {Q : Int → Shared → Prop}, A.units < cLine → is s.heap k v → Q (hash k) { s with toks := s.toks + draws k } →
    wpAny (model prog w) A (PySem.pyHash v) Q E s
  eqBool : ∀ {A : Around} {E : Value → Shared → Prop} {s : Shared} {x y : K} {u v : Value} {Q : Bool → Shared → Prop}, A.units < cLine → is s.heap x u → is s.heap y v → Q (decide (x = y)) s →
    wpAny (model prog w) A (PySem.eqBool u v) Q E s
  quiet : ∀ {A : Around} {E : Value → Shared → Prop} {s : Shared} {k : K} {v : Value} {Q : Bool → Shared → Prop}, is s.heap k v → Q true s → wpAny (model prog w) A (eqIsQuiet 8 v) Q E s
  ofStr : ∀ {h : Heap} {k k' : K} {x : Str} {t : Tok} {v : Value}, is h k (.str x t) → is h k' v → v.isStr x = decide (k' = k)

section
variable {prog : Program} {w : World} {K : Type} [DecidableEq K] (knd : AnyKind prog w K)
def entK (x : K × Value × Value) : DictEntry := ⟨knd.hash x.1, x.2.1, x.2.2⟩
def DictK (h : Heap) (d : Addr) (xs : List (K × Value × Value)) : Prop :=
  ∃ o es ep, h.get? d = some o ∧ o.ExactDict ∧ o.data = .dict es ep ∧ es.toList = xs.map (entK knd) ∧ (∀ x ∈ xs, knd.is h x.1 x.2.1) ∧ (xs.map (·.1)).Nodup
variable {knd}
theorem entK_at {es : Array DictEntry} {xs : List (K × Value × Value)} (he : es.toList = xs.map (entK knd)) (j : Nat) : es[j]? = (xs[j]?).map (entK knd) := by
  rw [← Array.getElem?_toList, he, List.getElem?_map]
theorem entK_size {es : Array DictEntry} {xs : List (K × Value × Value)} (he : es.toList = xs.map (entK knd)) : es.size = xs.length := by
  rw [← Array.length_toList, he, List.length_map]
theorem DictK.typeIs {s : Shared} {d : Addr} {xs : List (K × Value × Value)} (hm : DictK knd s.heap d xs) : s.TypeIs (.ref d) "dict" :=
  let ⟨o, _, _, ho, hc, _⟩ := hm; ⟨o, ho, hc.1⟩
theorem idxK_unique {xs : List (K × Value × Value)} (hn : (xs.map (·.1)).Nodup) : ∀ {i j : Nat} {k : K} {p q : Value × Value}, xs[i]? = some (k, p) → xs[j]? = some (k, q) → i = j := by
  intro i j k p q hi hj
  have hi' : (xs.map (·.1))[i]? = some k := by rw [List.getElem?_map, hi]; rfl
  have hj' : (xs.map (·.1))[j]? = some k := by rw [List.getElem?_map, hj]; rfl
  exact (List.getElem?_inj (List.getElem?_eq_some_iff.mp hi').1 hn).mp (hi'.trans hj'.symm)

variable {A : Around} {E : Value → Shared → Prop} {s : Shared}
theorem mayTellK {key : Value} {k : K} {stored : List Value} {Q : Bool → Shared → Prop} (hkey : knd.is s.heap k key)
    (hst : ∀ v ∈ stored, ∃ k', knd.is s.heap k' v) (h : Q false s) : wpAny (model prog w) A (tableMayTell key stored) Q E s := by
  unfold tableMayTell
  split
  · exact wpAny_pure h
  · refine wpAny_bind (knd.quiet hkey ?_)
    simp only [Bool.not_true, Bool.false_eq_true, if_false]
    refine wpAny_bind ?_
    refine wpAny_forIn_list _ (fun rest r s' => s' = s ∧ r = (none, ()) ∧ ∀ v ∈ rest, ∃ k', knd.is s.heap k' v) _ ?_ ?_ _ _ ⟨rfl, rfl, hst⟩
    · rintro x rest r s' ⟨rfl, rfl, hr⟩
      obtain ⟨k', hb⟩ := hr x List.mem_cons_self
      refine wpAny_bind (knd.quiet hb ?_)
      simp only [Bool.not_true, Bool.false_eq_true, if_false]
      exact wpAny_pure ⟨rfl, rfl, fun v hv => hr v (List.mem_cons_of_mem _ hv)⟩
    · rintro r s' ⟨rfl, rfl, _⟩
      exact wpAny_pure h

theorem dictFindK {d : Addr} {key : Value} {o : Obj} {es ep} {xs : List (K × Value × Value)} {k : K} {Q : Option Nat → Shared → Prop} (hu : A.units < cLine) (hkey : knd.is s.heap k key)
    (ho : s.heap.get? d = some o) (hd : o.data = .dict es ep) (he : es.toList = xs.map (entK knd)) (his : ∀ x ∈ xs, knd.is s.heap x.1 x.2.1) (hn : (xs.map (·.1)).Nodup)
    (hnone : (∀ (j : Nat) (p : Value × Value), xs[j]? ≠ some (k, p)) → Q none s) (hsome : ∀ (j : Nat) (p : Value × Value), xs[j]? = some (k, p) → Q (some j) s) :
    wpAny (model prog w) A (dictFind d key (knd.hash k)) Q E s := by
  have hsz : es.size = xs.length := entK_size he
  have haskey : ∀ (j : Nat) (p : Value × Value), xs[j]? = some (k, p) → ((es[j]?.map (·.hash)) == some (knd.hash k)) = true := by
    intro j p hj
    rw [entK_at he j, hj]
    simp [entK]
  have hmem : ∀ e ∈ es, ∃ x ∈ xs, e = entK knd x := by
    intro e hin
    have : e ∈ xs.map (entK knd) := he ▸ Array.mem_toList_iff.mpr hin
    obtain ⟨x, hx, rfl⟩ := List.mem_map.mp this
    exact ⟨x, hx, rfl⟩
  have hany : ¬ (es.any fun e => e.key == key && e.hash != knd.hash k) = true := by
    rw [← Array.any_toList, List.any_eq_true]
    rintro ⟨e, hin, hc⟩
    obtain ⟨x, hx, rfl⟩ := hmem e (Array.mem_toList_iff.mp hin)
    simp only [entK, Bool.and_eq_true, beq_iff_eq, bne_iff_ne, ne_eq] at hc
    obtain ⟨hxa, hne⟩ := hc
    have := his x hx
    rw [hxa] at this
    exact hne (by rw [knd.inj this hkey])
  have hst : ∀ v ∈ (placesWithHash es.size (fun i => es[i]?.map (·.hash)) (knd.hash k)).filterMap (fun i => es[i]?.map (·.key)), ∃ k', knd.is s.heap k' v := by
    intro v hv
    obtain ⟨i, _, hi⟩ := List.mem_filterMap.mp hv
    cases hei : es[i]? with
    | none => rw [hei] at hi; cases hi
    | some e =>
      rw [hei] at hi
      obtain rfl : e.key = v := by simpa using hi
      obtain ⟨x, hx, rfl⟩ := hmem e (Array.mem_of_getElem? hei)
      exact ⟨x.1, his x hx⟩
  have hatx : ∀ x, x < es.size → ∃ k' v' u', xs[x]? = some (k', v', u') ∧ knd.is s.heap k' v' ∧ es[x]? = some ⟨knd.hash k', v', u'⟩ := by
    intro x hlt
    obtain ⟨⟨k', b, v'⟩, hkv⟩ : ∃ y, xs[x]? = some y := ⟨xs[x]'(by rw [← hsz]; exact hlt), List.getElem?_eq_getElem _⟩
    exact ⟨k', b, v', hkv, his _ (List.mem_of_getElem? hkv), by rw [entK_at he x, hkv]; rfl⟩
  -- the loop by value
  have plain : wpAny (model prog w) A (dictWalkPlain d key (knd.hash k) es (placesWithHash es.size (fun i => es[i]?.map (·.hash)) (knd.hash k))) Q E s := by
    unfold dictWalkPlain
    refine wpAny_bind ?_
    refine wpAny_forIn_list _
      (fun rest b s' => s' = s ∧ b = (none, ()) ∧ ∃ i, rest = (List.range' i (es.size - i)).filter (fun i => (es[i]?.map (·.hash)) == some (knd.hash k)) ∧ i ≤ es.size ∧
        ∀ j p, j < i → xs[j]? ≠ some (k, p)) _ ?_ ?_ _ _
      ⟨rfl, rfl, 0, by rw [placesWithHash, List.range_eq_range', Nat.sub_zero], Nat.zero_le _, fun _ _ h => absurd h (Nat.not_lt_zero _)⟩
    · rintro x rest b s' ⟨rfl, rfl, i, hr, hi, hno⟩
      obtain ⟨hix, hxn, hpx, hskip, hrest⟩ := filter_range'_cons _ _ _ _ _ hr.symm
      have hlt : x < es.size := by omega
      obtain ⟨k', v', u', hkv, hib, hex⟩ := hatx x hlt
      have hnox : ∀ j p, j < x → xs[j]? ≠ some (k, p) := fun j p hjx hj => by
        rcases Nat.lt_or_ge j i with h | h
        · exact hno j p h hj
        · have := hskip j h hjx
          rw [haskey j p hj] at this
          exact absurd this (by decide)
      have hnext : ¬ k' = k → ∃ i, rest = (List.range' i (es.size - i)).filter (fun i => (es[i]?.map (·.hash)) == some (knd.hash k)) ∧ i ≤ es.size ∧ ∀ j p, j < i → xs[j]? ≠ some (k, p) := fun hne =>
        ⟨x + 1, by rw [hrest]; congr 2; omega, hlt, fun j p hji hj => by
          rcases Nat.lt_or_ge j x with h | h
          · exact hnox j p h hj
          · have : j = x := by omega
            subst this
            rw [hkv] at hj
            injection hj with hj
            injection hj with hj
            exact hne hj⟩
      rw [hex]
      dsimp only
      by_cases hh : (knd.hash k' == knd.hash k) = true
      · rw [if_pos hh]
        refine wpAny_bind (wpAny_dictEpoch ho hd (wpAny_bind (knd.eqBool (x := k') (y := k) hu hib hkey (wpAny_bind (wpAny_dictEpoch ho hd ?_)))))
        show wpAny _ _ (if (ep != ep) = true then _ else _) _ E _
        rw [if_neg (by simp)]
        by_cases hkk : k' = k
        · rw [decide_eq_true hkk]
          subst hkk
          exact wpAny_bind (wpAny_rule (wpAny_pure (wpAny_pure (hsome x _ hkv))))
        · rw [decide_eq_false hkk]
          exact wpAny_bind (wpAny_rule (wpAny_pure ⟨rfl, rfl, hnext hkk⟩))
      · rw [if_neg hh]
        refine wpAny_pure ⟨rfl, rfl, hnext ?_⟩
        intro hkk
        rw [hkk] at hh; simp at hh
    · rintro b s' ⟨rfl, rfl, i, hr, hi, hno⟩
      refine wpAny_pure (hnone fun j p hj => ?_)
      rcases Nat.lt_or_ge j i with h | h
      · exact hno j p h hj
      · have hjl : j < es.size := by
          rw [hsz]
          rcases Nat.lt_or_ge j xs.length with h' | h'
          · exact h'
          · rw [List.getElem?_eq_none h'] at hj; exact nomatch hj
        have := List.filter_eq_nil_iff.mp hr.symm j (List.mem_range'_1.mpr ⟨h, by omega⟩)
        rw [haskey j p hj] at this
        exact absurd rfl this
  -- the loop that asks all of one hash
  have asks : ∀ tells : Bool, tells = false → wpAny (model prog w) A (do
      let mut hit : Option Nat := none
      for i in placesWithHash es.size (fun i => es[i]?.map (·.hash)) (knd.hash k) do
        if let some e := es[i]? then
          if e.hash == knd.hash k then
            let before ← dictEpoch d (keyPart key)
            let same ← eqBool e.key key
            if (← dictEpoch d (keyPart key)) != before then unsupported "dict.changed-during-lookup"
            if same then
              if hit.isSome then unsupported "dict.find:order-among-keys-of-one-hash"
              rule "dict.find.hit"
              if ((placesWithHash es.size (fun i => es[i]?.map (·.hash)) (knd.hash k)).filterMap (fun i => es[i]?.map (·.key))).length < 2 then return some i
              hit := some i
            else
              rule "dict.find.same-hash-other-key"
              if tells && !(0 ≤ knd.hash k && knd.hash k < 32) then unsupported "dict.find:asked-again-or-not-hangs-on-the-table"
      return hit) Q E s := by
    rintro tells rfl
    refine wpAny_bind ?_
    refine wpAny_forIn_list _
      (fun rest b s' => s' = s ∧ ∃ i hit, b = (none, hit) ∧ rest = (List.range' i (es.size - i)).filter (fun i => (es[i]?.map (·.hash)) == some (knd.hash k)) ∧ i ≤ es.size ∧
        ((hit = none ∧ ∀ j p, j < i → xs[j]? ≠ some (k, p)) ∨ ∃ j p, hit = some j ∧ j < i ∧ xs[j]? = some (k, p))) _ ?_ ?_ _ _
      ⟨rfl, 0, none, rfl, by rw [placesWithHash, List.range_eq_range', Nat.sub_zero], Nat.zero_le _, .inl ⟨rfl, fun _ _ h => absurd h (Nat.not_lt_zero _)⟩⟩
    · rintro x rest b s' ⟨rfl, i, hit, rfl, hr, hi, hH⟩
      obtain ⟨hix, hxn, hpx, hskip, hrest⟩ := filter_range'_cons _ _ _ _ _ hr.symm
      have hlt : x < es.size := by omega
      have hrest' : rest = (List.range' (x + 1) (es.size - (x + 1))).filter (fun i => (es[i]?.map (·.hash)) == some (knd.hash k)) := by rw [hrest]; congr 2; omega
      obtain ⟨k', b, v', hkv, hib, hex⟩ := hatx x hlt
      have hHx : (hit = none ∧ ∀ j p, j < x → xs[j]? ≠ some (k, p)) ∨ ∃ j p, hit = some j ∧ j < x ∧ xs[j]? = some (k, p) := by
        rcases hH with ⟨h0, hno⟩ | ⟨j, p, h1, hji, hj⟩
        · refine .inl ⟨h0, fun j p hjx hj => ?_⟩
          rcases Nat.lt_or_ge j i with h | h
          · exact hno j p h hj
          · have := hskip j h hjx
            rw [haskey j p hj] at this
            exact absurd this (by decide)
        · exact .inr ⟨j, p, h1, by omega, hj⟩
      have hstay : ¬ k' = k → ((hit = none ∧ ∀ j p, j < x + 1 → xs[j]? ≠ some (k, p)) ∨ ∃ j p, hit = some j ∧ j < x + 1 ∧ xs[j]? = some (k, p)) := by
        intro hne
        rcases hHx with ⟨h0, hno⟩ | ⟨j, p, h1, hjx, hj⟩
        · refine .inl ⟨h0, fun j p hjx hj => ?_⟩
          rcases Nat.lt_or_ge j x with h | h
          · exact hno j p h hj
          · have hjx' : j = x := by omega
            subst hjx'
            rw [hkv] at hj
            injection hj with hj
            injection hj with hj
            exact hne hj
        · exact .inr ⟨j, p, h1, by omega, hj⟩
      rw [hex]
      dsimp only
      by_cases hh : (knd.hash k' == knd.hash k) = true
      · rw [if_pos hh]
        refine wpAny_bind (wpAny_dictEpoch ho hd (wpAny_bind (knd.eqBool (x := k') (y := k) hu hib hkey (wpAny_bind (wpAny_dictEpoch ho hd ?_)))))
        show wpAny _ _ (if (ep != ep) = true then _ else _) _ E _
        rw [if_neg (by simp)]
        by_cases hkk : k' = k
        · rw [decide_eq_true hkk]
          subst hkk
          rcases hHx with ⟨rfl, _⟩ | ⟨j, p, _, hjx, hj⟩
          · first | rw [if_pos rfl] | skip
            simp only [Option.isSome_none, Bool.false_eq_true, if_false]
            first | refine wpAny_bind (wpAny_pure ?_) | skip
            refine wpAny_bind (wpAny_rule ?_)
            split
            · exact wpAny_pure (wpAny_pure (hsome x _ hkv))
            · exact wpAny_pure ⟨rfl, x + 1, some x, rfl, hrest', hlt, .inr ⟨x, _, rfl, Nat.lt_succ_self x, hkv⟩⟩
          · exact absurd (idxK_unique hn hj hkv) (by omega)
        · rw [decide_eq_false hkk]
          simp only [Bool.false_eq_true, if_false]
          refine wpAny_bind (wpAny_rule ?_)
          first | rw [if_neg (by simp)] | skip
          first
            | exact wpAny_pure ⟨rfl, x + 1, hit, rfl, hrest', hlt, hstay hkk⟩
            | exact wpAny_bind (wpAny_pure (wpAny_pure ⟨rfl, x + 1, hit, rfl, hrest', hlt, hstay hkk⟩))
      · rw [if_neg hh]
        refine wpAny_pure ⟨rfl, x + 1, hit, rfl, hrest', hlt, hstay ?_⟩
        intro hkk
        rw [hkk] at hh; simp at hh
    · rintro b s' ⟨rfl, i, hit, rfl, hr, hi, hH⟩
      have hall : ∀ j, i ≤ j → j < es.size → ((es[j]?.map (·.hash)) == some (knd.hash k)) = false := by
        intro j h1 h2
        have := List.filter_eq_nil_iff.mp hr.symm j (List.mem_range'_1.mpr ⟨h1, by omega⟩)
        simpa using this
      rcases hH with ⟨rfl, hno⟩ | ⟨j, p, rfl, _, hj⟩
      · refine wpAny_pure (hnone fun j p hj => ?_)
        rcases Nat.lt_or_ge j i with h | h
        · exact hno j p h hj
        · have hjl : j < es.size := by
            rw [hsz]
            rcases Nat.lt_or_ge j xs.length with h' | h'
            · exact h'
            · rw [List.getElem?_eq_none h'] at hj; exact nomatch hj
          have := hall j h hjl
          rw [haskey j p hj] at this
          exact absurd this (by decide)
      · exact wpAny_pure (hsome j p hj)
  -- all texts
  have found : ∀ x t, key = .str x t → wpAny (model prog w) A (foundByValue d key es x) Q E s := by
    rintro x t rfl
    have hisStr : ∀ (j : Nat) (k' : K) (v' u' : Value), xs[j]? = some (k', v', u') → v'.isStr x = decide (k' = k) := fun j k' v' u' hj => knd.ofStr hkey (his _ (List.mem_of_getElem? hj))
    unfold foundByValue
    cases hf : es.findIdx? (fun e => e.key.isStr x) with
    | none =>
      refine wpAny_pure (hnone fun j p hj => ?_)
      have hnon := Array.findIdx?_eq_none_iff.mp hf
      have hx := entK_at he j
      rw [hj] at hx
      have h1 := hnon _ (Array.mem_of_getElem? hx)
      have h2 := hisStr j k p.1 p.2 hj
      rw [show (entK knd (k, p)).key = p.1 from rfl, h2] at h1
      simp at h1
    | some j =>
      obtain ⟨hlt, h1, _⟩ := Array.findIdx?_eq_some_iff_getElem.mp hf
      obtain ⟨k', v', u', hkv, hib, hex⟩ := hatx j hlt
      have hkk : k' = k := by
        have h2 := hisStr j k' v' u' hkv
        have h3 : es[j] = ⟨knd.hash k', v', u'⟩ := by
          rw [Array.getElem?_eq_getElem hlt] at hex
          exact Option.some.inj hex
        rw [h3] at h1
        dsimp only at h1
        rw [h1] at h2
        exact of_decide_eq_true h2.symm
      subst hkk
      dsimp only
      rw [hex]
      dsimp only
      refine wpAny_bind (wpAny_dictEpoch ho hd (wpAny_bind (knd.eqBool (x := k') (y := k') hu hib hkey (wpAny_bind (wpAny_dictEpoch ho hd ?_)))))
      show wpAny _ _ (if (ep != ep) = true then _ else _) _ E _
      rw [if_neg (by simp)]
      simp only [decide_true, if_true]
      exact wpAny_bind (wpAny_rule (wpAny_pure (hsome j _ hkv)))
  unfold dictFind
  try with_reducible refine wpAny_holding ?_
  refine wpAny_bind (wpAny_dictEntries ho hd ?_)
  dsimp only
  have two : ∀ x t, key = .str x t → (es.all fun e => isExactStrKey e.key) = true ∨ ¬ (es.all fun e => isExactStrKey e.key) = true := fun _ _ _ => Decidable.em _
  by_cases hall : ((key :: (placesWithHash es.size (fun i => es[i]?.map (·.hash)) (knd.hash k)).filterMap fun i => es[i]?.map (·.key)).all carriedByValue) = true
  · cases key with
    | str x t =>
      dsimp only
      rcases two x t rfl with h | h
      · rw [if_pos h]; exact found x t rfl
      · rw [if_neg h, if_pos hall]; exact plain
    | _ => dsimp only; rw [if_pos hall]; exact plain
  · by_cases hone : (((placesWithHash es.size (fun i => es[i]?.map (·.hash)) (knd.hash k)).filterMap (fun i => es[i]?.map (·.key))) == [key]) = true
    · cases key with
      | str x t =>
        dsimp only
        rcases two x t rfl with h | h
        · rw [if_pos h]; exact found x t rfl
        · rw [if_neg h, if_neg hall, if_pos hone]
          refine wpAny_bind (wpAny_pure ?_)
          rw [if_neg (by simp)]
          exact asks false rfl
      | ref a =>
        dsimp only
        rw [if_neg hall, if_neg hany, if_pos hone]
        refine wpAny_bind (wpAny_pure ?_)
        rw [if_neg (by simp)]
        exact asks false rfl
      | _ =>
        dsimp only
        rw [if_neg hall, if_pos hone]
        refine wpAny_bind (wpAny_pure ?_)
        rw [if_neg (by simp)]
        exact asks false rfl
    · cases key with
      | str x t =>
        dsimp only
        rcases two x t rfl with h | h
        · rw [if_pos h]; exact found x t rfl
        · rw [if_neg h, if_neg hall, if_neg hone]
          refine wpAny_bind (mayTellK hkey hst ?_)
          rw [if_neg (by simp)]
          exact asks false rfl
      | ref a =>
        dsimp only
        rw [if_neg hall, if_neg hany, if_neg hone]
        refine wpAny_bind (mayTellK hkey hst ?_)
        rw [if_neg (by simp)]
        exact asks false rfl
      | _ =>
        dsimp only
        rw [if_neg hall, if_neg hone]
        refine wpAny_bind (mayTellK hkey hst ?_)
        rw [if_neg (by simp)]
        exact asks false rfl
end

end
-- DK2
section
section
variable {K : Type} [DecidableEq K]
def atK (xs : List (K × Value × Value)) (k : K) : Option (Value × Value) := (xs.find? fun x => decide (x.1 = k)).map (·.2)
def putAtK (k : K) (v : Value) (x : K × Value × Value) : K × Value × Value := if x.1 = k then (x.1, x.2.1, v) else x
def putK (xs : List (K × Value × Value)) (k : K) (kv v : Value) : List (K × Value × Value) :=
  if (atK xs k).isSome then xs.map (putAtK k v) else xs ++ [(k, kv, v)]
def delK (xs : List (K × Value × Value)) (k : K) : List (K × Value × Value) := xs.filter fun x => !decide (x.1 = k)

theorem atK_of_get {xs : List (K × Value × Value)} (hn : (xs.map (·.1)).Nodup) {i : Nat} {k : K} {p : Value × Value} (hx : xs[i]? = some (k, p)) : atK xs k = some p := by
  induction xs generalizing i with
  | nil => simp at hx
  | cons x rest ih =>
    rw [List.map_cons, List.nodup_cons] at hn
    cases i with
    | zero =>
      simp only [List.getElem?_cons_zero, Option.some.injEq] at hx
      subst hx; simp [atK]
    | succ j =>
      simp only [List.getElem?_cons_succ] at hx
      have hmem : k ∈ rest.map (·.1) := List.mem_map.mpr ⟨(k, p), List.mem_of_getElem? hx, rfl⟩
      have hne : ¬ x.1 = k := fun e => hn.1 (e ▸ hmem)
      have := ih hn.2 hx
      simpa [atK, List.find?_cons, hne] using this
theorem atK_none {xs : List (K × Value × Value)} {k : K} (h : ∀ (j : Nat) (p : Value × Value), xs[j]? ≠ some (k, p)) : atK xs k = none := by
  have : (xs.find? fun x => decide (x.1 = k)) = none := by
    rw [List.find?_eq_none]
    intro x hx hk
    obtain ⟨j, hj⟩ := List.mem_iff_getElem?.mp hx
    have hk' : x.1 = k := of_decide_eq_true hk
    exact h j x.2 (by rw [hj, ← hk'])
  simp [atK, this]
theorem not_memK {xs : List (K × Value × Value)} {k : K} (h : ∀ (j : Nat) (p : Value × Value), xs[j]? ≠ some (k, p)) : k ∉ xs.map (·.1) := by
  intro hm
  obtain ⟨x, hx, rfl⟩ := List.mem_map.mp hm
  obtain ⟨j, hj⟩ := List.mem_iff_getElem?.mp hx
  exact h j x.2 hj
theorem map_putAtK_of_not_mem (xs : List (K × Value × Value)) (k : K) (v : Value) (hn : k ∉ xs.map (·.1)) : xs.map (putAtK k v) = xs := by
  induction xs with
  | nil => rfl
  | cons x xs ih =>
    simp only [List.map_cons, List.mem_cons, not_or] at hn ⊢
    rw [putAtK, if_neg (fun e => hn.1 e.symm), ih hn.2]
theorem keys_putAtK (xs : List (K × Value × Value)) (k : K) (v : Value) : (xs.map (putAtK k v)).map (·.1) = xs.map (·.1) := by
  induction xs with
  | nil => rfl
  | cons x xs ih =>
    simp only [List.map_cons, ih]
    congr 1
    unfold putAtK
    split <;> rfl
theorem modify_putAtK {β : Type} (f : K × Value × Value → β) (g : β → β) (k : K) (v : Value) (hg : ∀ a v₀, g (f (k, a, v₀)) = f (k, a, v)) :
    ∀ {xs : List (K × Value × Value)} {j : Nat} {p : Value × Value}, (xs.map (·.1)).Nodup → xs[j]? = some (k, p) → (xs.map f).modify j g = (xs.map (putAtK k v)).map f := by
  intro xs
  induction xs with
  | nil => intro j p _ hj; simp at hj
  | cons x rest ih =>
    intro j p hn hj
    rw [List.map_cons, List.nodup_cons] at hn
    cases j with
    | zero =>
      simp only [List.getElem?_cons_zero, Option.some.injEq] at hj
      subst hj
      rw [List.map_cons, List.map_cons, map_putAtK_of_not_mem rest k v hn.1, putAtK, if_pos rfl, List.map_cons]
      show g (f (k, p)) :: rest.map f = f (k, p.1, v) :: rest.map f
      rw [show (k, p) = (k, p.1, p.2) from rfl, hg]
    | succ j =>
      simp only [List.getElem?_cons_succ] at hj
      have hmem : k ∈ rest.map (·.1) := List.mem_map.mpr ⟨(k, p), List.mem_of_getElem? hj, rfl⟩
      have hne : ¬ x.1 = k := fun e => hn.1 (e ▸ hmem)
      rw [List.map_cons, List.modify_succ_cons, ih hn.2 hj, List.map_cons, List.map_cons, putAtK, if_neg hne]
theorem erase_delK : ∀ {xs : List (K × Value × Value)} {j : Nat} {k : K} {p : Value × Value}, (xs.map (·.1)).Nodup → xs[j]? = some (k, p) → xs.eraseIdx j = delK xs k := by
  intro xs
  induction xs with
  | nil => intro j k p _ hj; simp at hj
  | cons x rest ih =>
    intro j k p hn hj
    rw [List.map_cons, List.nodup_cons] at hn
    cases j with
    | zero =>
      simp only [List.getElem?_cons_zero, Option.some.injEq] at hj
      subst hj
      have : delK rest k = rest := by
        unfold delK
        rw [List.filter_eq_self]
        intro y hy
        simp only [Bool.not_eq_true', decide_eq_false_iff_not]
        intro e
        exact hn.1 (List.mem_map.mpr ⟨y, hy, e⟩)
      rw [List.eraseIdx_cons_zero]
      unfold delK at this ⊢
      rw [List.filter_cons]
      simp [this]
    | succ j =>
      simp only [List.getElem?_cons_succ] at hj
      have hmem : k ∈ rest.map (·.1) := List.mem_map.mpr ⟨(k, p), List.mem_of_getElem? hj, rfl⟩
      have hne : ¬ x.1 = k := fun e => hn.1 (e ▸ hmem)
      rw [List.eraseIdx_cons_succ, ih hn.2 hj]
      unfold delK
      rw [List.filter_cons]
      simp [hne]
theorem map_eraseIdx' {α β : Type} (f : α → β) : ∀ (l : List α) (j : Nat), (l.map f).eraseIdx j = (l.eraseIdx j).map f
  | [], _ => rfl
  | _ :: _, 0 => rfl
  | a :: l, j + 1 => by rw [List.map_cons, List.eraseIdx_cons_succ, List.eraseIdx_cons_succ, List.map_cons, map_eraseIdx' f l j]
theorem delK_nodup {xs : List (K × Value × Value)} {k : K} (hn : (xs.map (·.1)).Nodup) : ((delK xs k).map (·.1)).Nodup :=
  hn.sublist (List.Sublist.map _ List.filter_sublist)
end

section
variable {prog : Program} {w : World} {K : Type} [DecidableEq K] {knd : AnyKind prog w K} {A : Around} {E : Value → Shared → Prop} {s : Shared}
theorem dictGetK {d : Addr} {key : Value} {xs : List (K × Value × Value)} {k : K} {Q : Option Value → Shared → Prop} (hu : A.units < cLine) (hkey : knd.is s.heap k key) (hm : DictK knd s.heap d xs)
    (h : Q ((atK xs k).map (·.2)) { s with toks := s.toks + knd.draws k }) : wpAny (model prog w) A (dictGet d key) Q E s := by
  obtain ⟨o, es, ep, ho, _, hd, he, his, hn⟩ := hm
  unfold dictGet
  try with_reducible refine wpAny_holding ?_
  refine wpAny_bind (knd.pyHash hu hkey (wpAny_bind (dictFindK (s := { s with toks := s.toks + knd.draws k }) hu hkey ho hd he his hn ?_ ?_)))
  · intro hno
    rw [atK_none hno] at h
    exact wpAny_pure h
  · intro j p hj
    rw [atK_of_get hn hj] at h
    refine wpAny_bind (wpAny_dictEntries (s := { s with toks := s.toks + knd.draws k }) ho hd ?_)
    rw [entK_at he j, hj]
    exact wpAny_pure h

theorem dictSetK {d : Addr} {key : Value} {xs : List (K × Value × Value)} {k : K} {v : Value} {Q : Unit → Shared → Prop} (hu : A.units < cLine) (hkey : knd.is s.heap k key) (hm : DictK knd s.heap d xs)
    (hQ : ∀ h', DictK knd h' d (putK xs k key v) → Heap.SameBut d s.heap h' → Q () { s with heap := h', toks := s.toks + knd.draws k })
    (hsz : xs.length ≤ sizeLine) :
    wpAny (model prog w) A (dictSet d key v) Q E s := by
  obtain ⟨o, es, ep, ho, hc, hd, he, his, hn⟩ := hm
  unfold dictSet
  try with_reducible refine wpAny_holding ?_
  refine wpAny_bind (knd.pyHash hu hkey ?_)
  unfold dictSetHashed
  try with_reducible refine wpAny_holding ?_
  refine wpAny_bind (dictFindK (s := { s with toks := s.toks + knd.draws k }) hu hkey ho hd he his hn ?_ ?_)
  · intro hno
    have hnot : k ∉ xs.map (·.1) := not_memK hno
    have hput : putK xs k key v = xs ++ [(k, key, v)] := by unfold putK; rw [atK_none hno]; rfl
    refine wpAny_bind (wpAny_rule (wpAny_updateDictKeys (hz := by have e := entK_size he; omega) (s := { s with toks := s.toks + knd.draws k }) ho hd (hQ _ ⟨_, _, ep + 1, Heap.get?_update_self _ ho (Obj.isFreed_of_dict (Obj.data_mapDictKeys hd _)),
      hc.mapDictKeys _, Obj.data_mapDictKeys hd _, ?_, ?_, ?_⟩ (Heap.SameBut.update ..))))
    · rw [hput]
      simp [he, entK]
    · rw [hput]
      intro x hx
      rcases List.mem_append.mp hx with hx | hx
      · exact knd.keeps (his x hx) ho hd (Heap.SameBut.update ..)
      · simp only [List.mem_singleton] at hx
        subst hx
        exact knd.keeps hkey ho hd (Heap.SameBut.update ..)
    · rw [hput]
      rw [List.map_append, List.nodup_append]
      refine ⟨hn, by simp, ?_⟩
      intro x hx y hy
      simp only [List.map_cons, List.map_nil, List.mem_singleton] at hy
      subst hy
      exact fun e => hnot (e ▸ hx)
  · intro j p hj
    have hput : putK xs k key v = xs.map (putAtK k v) := by unfold putK; rw [atK_of_get hn hj]; rfl
    refine wpAny_bind (wpAny_rule (wpAny_bind (wpAny_updateDict (s := { s with toks := s.toks + knd.draws k }) ho hd (wpAny_point (hQ _ ⟨_, _, ep, Heap.get?_update_self _ ho (Obj.isFreed_of_dict (Obj.data_mapDict hd _)),
      hc.mapDict _, Obj.data_mapDict hd _, ?_, ?_, ?_⟩ (Heap.SameBut.update ..))))))
    · rw [hput]
      have := modify_putAtK (entK knd) (fun e : DictEntry => { e with val := v }) k v (fun _ _ => rfl) hn hj
      rw [← he] at this
      obtain ⟨l⟩ := es
      simpa using this
    · rw [hput]
      intro x hx
      obtain ⟨y, hy, rfl⟩ := List.mem_map.mp hx
      unfold putAtK
      split <;> exact knd.keeps (his y hy) ho hd (Heap.SameBut.update ..)
    · rw [hput, keys_putAtK]; exact hn

theorem takeOutK {d : Addr} {key : Value} {xs : List (K × Value × Value)} {k : K} {Q : Option DictEntry → Shared → Prop} (hu : A.units < cLine) (hkey : knd.is s.heap k key) (hm : DictK knd s.heap d xs)
    (hnone : atK xs k = none → Q none { s with toks := s.toks + knd.draws k })
    (hQ : ∀ kv v h', atK xs k = some (kv, v) → DictK knd h' d (delK xs k) → Heap.SameBut d s.heap h' → Q (some ⟨knd.hash k, kv, v⟩) { s with heap := h', toks := s.toks + knd.draws k })
    (hsz : xs.length ≤ sizeLine) :
    wpAny (model prog w) A (Builtin.Dict.takeOut d key) Q E s := by
  obtain ⟨o, es, ep, ho, hc, hd, he, his, hn⟩ := hm
  unfold Builtin.Dict.takeOut
  try with_reducible refine wpAny_holding ?_
  refine wpAny_bind (knd.pyHash hu hkey (wpAny_bind (dictFindK (s := { s with toks := s.toks + knd.draws k }) hu hkey ho hd he his hn ?_ ?_)))
  · intro hno
    exact wpAny_pure (hnone (atK_none hno))
  · intro j p hj
    refine wpAny_bind (wpAny_dictEntries (s := { s with toks := s.toks + knd.draws k }) ho hd ?_)
    rw [entK_at he j, hj]
    dsimp only [Option.map_some]
    refine wpAny_bind (wpAny_updateDictKeys (hz := by have e := entK_size he; omega) (s := { s with toks := s.toks + knd.draws k }) ho hd (wpAny_pure (hQ p.1 p.2 _ (atK_of_get hn hj) ⟨_, _, ep + 1, Heap.get?_update_self _ ho (Obj.isFreed_of_dict (Obj.data_mapDictKeys hd _)),
      hc.mapDictKeys _, Obj.data_mapDictKeys hd _, ?_, ?_, delK_nodup hn⟩ (Heap.SameBut.update ..))))
    · rw [← erase_delK hn hj]
      have hlt : j < es.size := by rw [entK_size he]; exact (List.getElem?_eq_some_iff.mp hj).1
      rw [Array.eraseIdxIfInBounds, dif_pos hlt, Array.toList_eraseIdx, he, map_eraseIdx']
    · intro x hx
      exact knd.keeps (his x (List.mem_filter.mp hx).1) ho hd (Heap.SameBut.update ..)
end

end
-- DK3
section
section
variable {prog : Program} {w : World} {K : Type} [DecidableEq K] {knd : AnyKind prog w K} {A : Around} {E : Value → Shared → Prop} {s : Shared} {d : Addr} {key : Value} {k : K} {xs : List (K × Value × Value)}

theorem inK {Q : Value → Shared → Prop} (hu : A.units + 1 < cLine) (hkey : knd.is s.heap k key) (hd : (d == sysModules) = false) (hm : DictK knd s.heap d xs)
    (h : Q (.bool (atK xs k).isSome) { s with toks := s.toks + knd.draws k }) : wpAny (model prog w) A (compareOp .In key (.ref d)) Q E s := by
  show wpAny _ _ (do return .bool (← contains (.ref d) key)) Q E s
  refine wpAny_bind ?_
  unfold contains
  try with_reducible refine wpAny_holding ?_
  refine wpAny_bind (wpAny_specialOf hm.typeIs slot_dict_contains.lookup ?_)
  show wpAny _ _ (if (some (Value.builtin "dict.__contains__") == some Value.none) = true then _ else _) _ E s
  rw [if_neg (by rw [beq_builtin_none]; exact Bool.false_ne_true)]
  refine wpAny_bind (wpAny_callSpecialUnlessNone?_slot (name := Str.ofString "__contains__") hm.typeIs slot_dict_contains
    (wpAny_call_entry slot_dict_contains hm.typeIs entry_dict_contains ?_ (args_dict_contains _ _)))
  show wpAny _ _ (dictGet d key >>= _) _ _ s
  refine wpAny_bind (dictGetK (by simpa using hu) hkey hm ?_)
  cases hf : atK xs k with
  | some p =>
    rw [hf] at h
    show wpAny _ _ (ret (.bool true)) _ _ _
    exact wpAny_pure ⟨_, rfl, wpAny_truthy_bool (wpAny_pure h)⟩
  | none =>
    rw [hf] at h
    show wpAny _ _ (Builtin.Dict.pendingKey? d key >>= _) _ _ _
    exact wpAny_bind (wpAny_pendingKey_other hd (wpAny_pure ⟨_, rfl, wpAny_truthy_bool (wpAny_pure h)⟩))

theorem getItemK {p : Value × Value} {Q : Value → Shared → Prop} (hu : A.units + 1 < cLine) (hkey : knd.is s.heap k key) (hm : DictK knd s.heap d xs) (hp : atK xs k = some p)
    (h : Q p.2 { s with toks := s.toks + knd.draws k }) : wpAny (model prog w) A (getItem (.ref d) key) Q E s := by
  unfold getItem
  try with_reducible refine wpAny_holding ?_
  refine wpAny_bind (wpAny_sequenceKey hm.typeIs (by decide) ?_)
  refine wpAny_bind (wpAny_callSpecial?_slot (name := Str.ofString "__getitem__") hm.typeIs slot_dict_getitem
    (wpAny_call_entry slot_dict_getitem hm.typeIs entry_dict_getitem ?_ (args_dict_getitem _ _)))
  show wpAny _ _ (dictGet d key >>= _) _ _ s
  refine wpAny_bind (dictGetK (by simpa using hu) hkey hm ?_)
  rw [hp]
  exact wpAny_pure ⟨p.2, rfl, wpAny_pure h⟩

theorem getItemK_missing {Q : Value → Shared → Prop} (hu : A.units + 1 < cLine) (hkey : knd.is s.heap k key) (hd : (d == sysModules) = false) (hh : A.handled = none) (hm : DictK knd s.heap d xs)
    (hp : atK xs k = none) (h : ∀ h' e, Heap.NewExc s.heap h' e "KeyError" → E (.ref e) { s with heap := h', toks := s.toks + knd.draws k }) :
    wpAny (model prog w) A (getItem (.ref d) key) Q E s := by
  unfold getItem
  try with_reducible refine wpAny_holding ?_
  refine wpAny_bind (wpAny_sequenceKey hm.typeIs (by decide) ?_)
  refine wpAny_bind (wpAny_callSpecial?_slot (name := Str.ofString "__getitem__") hm.typeIs slot_dict_getitem
    (wpAny_call_entry slot_dict_getitem hm.typeIs entry_dict_getitem ?_ (args_dict_getitem _ _)))
  show wpAny _ _ (dictGet d key >>= _) _ _ s
  refine wpAny_bind (dictGetK (by simpa using hu) hkey hm ?_)
  rw [hp]
  show wpAny _ _ (Builtin.Dict.missed d key >>= _) _ _ _
  refine wpAny_bind (wpAny_missed_other hd ?_)
  refine wpAny_bind (wpAny_typeOf (s := { s with toks := s.toks + knd.draws k }) hm.typeIs ?_)
  show wpAny _ _ (if (Value.type "dict" != Value.type "dict") = true then _ else _) _ _ _
  rw [if_neg (by decide)]
  exact wpAny_bind (wpAny_rule (wpAny_raise_newExc (A := A.in1) plainExc_KeyError hh h))

theorem setItemK {v : Value} {Q : Unit → Shared → Prop} (hu : A.units + 1 < cLine) (hkey : knd.is s.heap k key) (hm : DictK knd s.heap d xs)
    (hQ : ∀ h', DictK knd h' d (putK xs k key v) → Heap.SameBut d s.heap h' → Q () { s with heap := h', toks := s.toks + knd.draws k })
    (hsz : xs.length ≤ sizeLine) :
    wpAny (model prog w) A (setItem (.ref d) key v) Q E s := by
  unfold setItem
  try with_reducible refine wpAny_holding ?_
  refine wpAny_bind (wpAny_sequenceKey hm.typeIs (by decide) ?_)
  refine wpAny_bind (wpAny_callSpecial?_slot (name := Str.ofString "__setitem__") hm.typeIs slot_dict_setitem
    (wpAny_call_entry slot_dict_setitem hm.typeIs entry_dict_setitem ?_ (args_dict_setitem _ _ _)))
  show wpAny _ _ (Builtin.Dict.notOrdered "__setitem__" ⟨[.ref d, key, v], []⟩ >>= _) _ _ s
  refine wpAny_bind (wpAny_notOrdered_dict hm.typeIs ?_)
  show wpAny _ _ (dictSet d key v >>= _) _ _ s
  exact wpAny_bind (dictSetK (by simpa using hu) hkey hm (fun h' hm' hs' => wpAny_pure ⟨.none, rfl, wpAny_pure (hQ h' hm' hs')⟩) hsz)

theorem delItemK {p : Value × Value} {Q : Unit → Shared → Prop} (hu : A.units + 1 < cLine) (hkey : knd.is s.heap k key) (hm : DictK knd s.heap d xs) (hp : atK xs k = some p)
    (hQ : ∀ h', DictK knd h' d (delK xs k) → Heap.SameBut d s.heap h' → Q () { s with heap := h', toks := s.toks + knd.draws k })
    (hsz : xs.length ≤ sizeLine) :
    wpAny (model prog w) A (delItem (.ref d) key) Q E s := by
  unfold delItem
  try with_reducible refine wpAny_holding ?_
  refine wpAny_bind (wpAny_sequenceKey hm.typeIs (by decide) ?_)
  refine wpAny_bind (wpAny_callSpecial?_slot (name := Str.ofString "__delitem__") hm.typeIs PySem.F.slot_dict_delitem
    (wpAny_call_entry PySem.F.slot_dict_delitem hm.typeIs PySem.F.entry_dict_delitem ?_ (PySem.F.args_dict_delitem_2 _ _)))
  unfold Builtin.«dict.__delitem__»
  refine wpAny_bind ?_
  unfold Builtin.Dict.dictSlotArgs
  refine wpAny_bind (wpAny_notOrdered_dict hm.typeIs ?_)
  show wpAny _ _ (pure (Value.ref d, key)) _ _ s
  refine wpAny_pure ?_
  show wpAny _ _ (Builtin.Dict.takeOut d key >>= _) _ _ s
  refine wpAny_bind (takeOutK (by simpa using hu) hkey hm (fun hn => by rw [hn] at hp; cases hp) (fun kv v h' hat hm' hs' => ?_) hsz)
  exact wpAny_bind (wpAny_letGo (wpAny_pure ⟨.none, rfl, wpAny_pure (hQ h' hm' hs')⟩))

theorem entriesK_ne (hm : DictK knd s.heap d xs) {p : Value × Value} (hp : atK xs k = some p) : ∃ o es ep, s.heap.get? d = some o ∧ o.data = .dict es ep ∧ es.isEmpty = false := by
  obtain ⟨o, es, ep, ho, _, hd, he, _, _⟩ := hm
  refine ⟨o, es, ep, ho, hd, ?_⟩
  cases xs with
  | nil => simp [atK] at hp
  | cons x r =>
    have := entK_size he
    rw [Array.isEmpty_eq_false_iff]
    intro e
    rw [e] at this
    simp at this

theorem popK {p : Value × Value} {Q : Value → Shared → Prop} (hu : A.units + 1 < cLine) (hkey : knd.is s.heap k key) (hm : DictK knd s.heap d xs) (hp : atK xs k = some p)
    (hQ : ∀ h', DictK knd h' d (delK xs k) → Heap.SameBut d s.heap h' → Q p.2 { s with heap := h', toks := s.toks + knd.draws k })
    (hsz : xs.length ≤ sizeLine) :
    wpAny (model prog w) A (call (.builtin "dict.pop") [.ref d, key]) Q E s := by
  refine wpAny_call_entry PySem.F.slot_dict_pop hm.typeIs PySem.F.entry_dict_pop ?_ (PySem.F.args_dict_pop_2 _ _)
  unfold Builtin.«dict.pop»
  refine wpAny_bind ?_
  unfold Builtin.Dict.keyAndDefault
  refine wpAny_bind (wpAny_notOrdered_dict hm.typeIs ?_)
  show wpAny _ _ (pure (d, key, none)) _ _ s
  refine wpAny_pure ?_
  dsimp only
  by_cases hpart : (keyPart key).isSome = true
  · simp only [hpart, if_true]
    refine wpAny_bind (wpAny_pure ?_)
    simp only [Bool.false_eq_true, if_false]
    refine wpAny_bind (takeOutK (by simpa using hu) hkey hm (fun hn => by rw [hn] at hp; cases hp) (fun kv v h' hat hm' hs' => ?_) hsz)
    obtain rfl : p = (kv, v) := by rw [hat] at hp; exact (Option.some.inj hp).symm
    simp only [Option.isNone_some, Bool.false_eq_true, if_false]
    exact wpAny_bind (wpAny_letGo (wpAny_pure ⟨v, rfl, hQ h' hm' hs'⟩))
  · simp only [hpart, if_false, Bool.false_eq_true]
    obtain ⟨o, es, ep, ho, hde, hne⟩ := entriesK_ne hm hp
    refine wpAny_bind (wpAny_dictEntries ho hde ?_)
    refine wpAny_bind (wpAny_pure ?_)
    rw [hne]
    simp only [Bool.false_eq_true, if_false]
    refine wpAny_bind (takeOutK (by simpa using hu) hkey hm (fun hn => by rw [hn] at hp; cases hp) (fun kv v h' hat hm' hs' => ?_) hsz)
    obtain rfl : p = (kv, v) := by rw [hat] at hp; exact (Option.some.inj hp).symm
    simp only [Option.isNone_some, Bool.false_eq_true, if_false]
    exact wpAny_bind (wpAny_letGo (wpAny_pure ⟨v, rfl, hQ h' hm' hs'⟩))

theorem popK_missing {Q : Value → Shared → Prop} (hu : A.units + 1 < cLine) (hh : A.handled = none) (hd : (d == sysModules) = false) (hkey : knd.is s.heap k key) (hm : DictK knd s.heap d xs) (hp : atK xs k = none)
    (h : ∀ h' e t', s.toks ≤ t' → Heap.NewExc s.heap h' e "KeyError" → E (.ref e) { s with heap := h', toks := t' })
    (hsz : xs.length ≤ sizeLine) :
    wpAny (model prog w) A (call (.builtin "dict.pop") [.ref d, key]) Q E s := by
  refine wpAny_call_entry PySem.F.slot_dict_pop hm.typeIs PySem.F.entry_dict_pop ?_ (PySem.F.args_dict_pop_2 _ _)
  unfold Builtin.«dict.pop»
  refine wpAny_bind ?_
  unfold Builtin.Dict.keyAndDefault
  refine wpAny_bind (wpAny_notOrdered_dict hm.typeIs ?_)
  show wpAny _ _ (pure (d, key, none)) _ _ s
  refine wpAny_pure ?_
  dsimp only
  by_cases hpart : (keyPart key).isSome = true
  · simp only [hpart, if_true]
    refine wpAny_bind (wpAny_pure ?_)
    simp only [Bool.false_eq_true, if_false]
    refine wpAny_bind (takeOutK (by simpa using hu) hkey hm (fun hn => ?_) (fun kv v h' hat hm' hs' => by rw [hat] at hp; cases hp) hsz)
    simp only [Option.isNone_none, if_true]
    refine wpAny_bind (wpAny_missedRemoval_other hd ?_)
    exact wpAny_bind (wpAny_rule (wpAny_raise_newExc (A := A.in1) plainExc_KeyError hh (fun h' e he => h h' e _ (by simp) he)))
  · simp only [hpart, if_false, Bool.false_eq_true]
    have hdd : ∃ o es ep, s.heap.get? d = some o ∧ o.data = .dict es ep := by
      obtain ⟨o, es, ep, ho, _, hde, _⟩ := hm
      exact ⟨o, es, ep, ho, hde⟩
    obtain ⟨o, es, ep, ho, hde⟩ := hdd
    refine wpAny_bind (wpAny_dictEntries ho hde ?_)
    refine wpAny_bind (wpAny_pure ?_)
    cases es.isEmpty with
    | true =>
      simp only [if_true]
      refine wpAny_bind (wpAny_rule ?_)
      refine wpAny_bind (wpAny_pure ?_)
      simp only [Option.isNone_none, if_true]
      refine wpAny_bind (wpAny_missedRemoval_other hd ?_)
      exact wpAny_bind (wpAny_rule (wpAny_raise_newExc (A := A.in1) plainExc_KeyError hh (fun h' e he => h h' e _ (by simp) he)))
    | false =>
      simp only [Bool.false_eq_true, if_false]
      refine wpAny_bind (takeOutK (by simpa using hu) hkey hm (fun hn => ?_) (fun kv v h' hat hm' hs' => by rw [hat] at hp; cases hp) hsz)
      simp only [Option.isNone_none, if_true]
      refine wpAny_bind (wpAny_missedRemoval_other hd ?_)
      exact wpAny_bind (wpAny_rule (wpAny_raise_newExc (A := A.in1) plainExc_KeyError hh (fun h' e he => h h' e _ (by simp) he)))
end

end
-- M1
section

abbrev Cell := Obj → Prop
abbrev Cells := List (Addr × Cell)
/-- what a cell says hangs on no slots (a frame's own may change) -/
def Soft (c : Cell) : Prop := ∀ o sl, c o → c { o with slots := sl }
theorem in_tail {env : Env} {fs : List Env} {a : Addr} (h : a ∈ fs.filterMap (·.frame)) : a ∈ (env :: fs).filterMap (·.frame) := by
  rw [List.filterMap_cons]
  split
  · exact h
  · exact List.mem_cons_of_mem _ h

structure St (B : Shared) (fs : List Env) (l : Cells) (s : Shared) : Prop where
  base : B.heap.StaysIn s.heap
  has : ∀ x ∈ l, ∃ o, s.heap.get? x.1 = some o ∧ x.2 o
  nd : (l.map (·.1)).Nodup
  fresh : ∀ x ∈ l, B.heap.get? x.1 = none
  frames : s.heap.FunFrames B.heap fs
  gens : s.gens = B.gens
  drawn : s.drawn = B.drawn
  os : s.os = B.os
  low : ∃ o, B.heap.get? mainGlobals = some o
  big : ∀ x ∈ l, sysModules < x.1
  soft : ∀ x ∈ l, x.1 ∈ fs.filterMap (·.frame) → Soft x.2

theorem funFrames_less {base B h : Heap} (k : base.StaysIn B) : ∀ {l : List Env}, h.FunFrames B l → h.FunFrames base l
  | [], _ => trivial
  | _ :: _, ⟨hk, ⟨L, o, hf, hn, ho, hd⟩, hr⟩ => ⟨hk, ⟨L, o, hf, (by
      cases q : base.get? L with
      | none => rfl
      | some o => have := k L o q; rw [hn] at this; cases this), ho, hd⟩, funFrames_less k hr⟩

namespace St
variable {B : Shared} {fs : List Env} {l l' : Cells} {s : Shared}

theorem perm (S : St B fs l s) (p : l'.Perm l) : St B fs l' s :=
  ⟨S.base, fun x hx => S.has x (p.mem_iff.mp hx), (p.map _).nodup_iff.mpr S.nd, fun x hx => S.fresh x (p.mem_iff.mp hx), S.frames, S.gens, S.drawn, S.os, S.low, fun x hx => S.big x (p.mem_iff.mp hx), fun x hx => S.soft x (p.mem_iff.mp hx)⟩
theorem sub (S : St B fs l s) (p : List.Sublist l' l) : St B fs l' s :=
  ⟨S.base, fun x hx => S.has x (p.subset hx), S.nd.sublist (p.map _), fun x hx => S.fresh x (p.subset hx), S.frames, S.gens, S.drawn, S.os, S.low, fun x hx => S.big x (p.subset hx), fun x hx => S.soft x (p.subset hx)⟩
theorem tail {x : Addr × Cell} (S : St B fs (x :: l) s) : St B fs l s := S.sub (List.sublist_cons_self _ _)
theorem back {x : Addr × Cell} {p q : Cells} (S : St B fs (x :: (p ++ q)) s) : St B fs (p ++ x :: q) s := S.perm List.perm_middle
theorem front {x : Addr × Cell} {p q : Cells} (S : St B fs (p ++ x :: q) s) : St B fs (x :: (p ++ q)) s := S.perm List.perm_middle.symm
theorem toks (S : St B fs l s) (t : Nat) : St B fs l { s with toks := t } := ⟨S.base, S.has, S.nd, S.fresh, S.frames, S.gens, S.drawn, S.os, S.low, S.big, S.soft⟩
theorem pop {env : Env} (S : St B (env :: fs) l s) : St B fs l s := ⟨S.base, S.has, S.nd, S.fresh, S.frames.2.2, S.gens, S.drawn, S.os, S.low, S.big, fun x hx h => S.soft x hx (in_tail h)⟩
theorem at_ (S : St B fs l s) {i : Nat} {a : Addr} {c : Cell} (hi : l[i]? = some (a, c)) : ∃ o, s.heap.get? a = some o ∧ c o := S.has (a, c) (List.mem_of_getElem? hi)
theorem lt (S : St B fs l s) {x : Addr × Cell} (hx : x ∈ l) : x.1 < s.heap.objs.size := let ⟨_, ho, _⟩ := S.has x hx; Heap.lt_size ho
theorem ne (S : St B fs l s) {i j : Nat} {a b : Addr} {c d : Cell} (hi : l[i]? = some (a, c)) (hj : l[j]? = some (b, d)) (h : i ≠ j) : a ≠ b := fun e => by
  subst e
  have h1 : (l.map (·.1))[i]? = some a := by rw [List.getElem?_map, hi]; rfl
  have h2 : (l.map (·.1))[j]? = some a := by rw [List.getElem?_map, hj]; rfl
  exact h ((List.getElem?_inj (List.getElem?_eq_some_iff.mp h1).1 S.nd).mp (h1.trans h2.symm))

/-- one cell is written -/
theorem upd (S : St B fs l s) {i : Nat} {a : Addr} {c c' : Cell} (hi : l[i]? = some (a, c)) {h' : Heap} {o' : Obj} (t : Nat) (hs : Heap.SameBut a s.heap h') (ho : h'.get? a = some o') (hc : c' o')
    (hf : (∀ vs, o'.data ≠ .fields vs) ∨ ∃ o vs, s.heap.get? a = some o ∧ o.data = .fields vs) (hsf : a ∈ fs.filterMap (·.frame) → Soft c') : St B fs (l.set i (a, c')) { s with heap := h', toks := t } := by
  have hlen : i < l.length := (List.getElem?_eq_some_iff.mp hi).1
  have hmap : (l.set i (a, c')).map (·.1) = l.map (·.1) := by
    rw [List.map_set]
    apply List.ext_getElem?
    intro j
    rw [List.getElem?_set]
    split
    · rename_i e; subst e
      rw [List.getElem?_map, hi]
      simp [hlen]
    · rfl
  have hmem : ∀ x ∈ l.set i (a, c'), x = (a, c') ∨ (x ∈ l ∧ x.1 ≠ a) := by
    intro x hx
    obtain ⟨j, hj⟩ := List.mem_iff_getElem?.mp hx
    rw [List.getElem?_set] at hj
    split at hj
    · try rw [if_pos hlen] at hj
      exact .inl (Option.some.inj hj).symm
    · rename_i hne
      exact .inr ⟨List.mem_of_getElem? hj, fun e => by
        obtain ⟨xa, xc⟩ := x
        exact S.ne hi hj hne e.symm⟩
  refine ⟨fun b o hb => (hs.2 b fun e => ?_).trans (S.base b o hb), fun x hx => ?_, hmap ▸ S.nd, fun x hx => ?_, ?_, S.gens, S.drawn, S.os, S.low, fun x hx => ?_, fun x hx => ?_⟩
  · have := S.fresh _ (List.mem_of_getElem? hi); rw [e] at hb; rw [this] at hb; cases hb
  · rcases hmem x hx with rfl | ⟨hm, hne⟩
    · exact ⟨o', ho, hc⟩
    · obtain ⟨o, h1, h2⟩ := S.has x hm
      exact ⟨o, (hs.2 _ hne).trans h1, h2⟩
  · rcases hmem x hx with rfl | ⟨hm, hne⟩
    · exact S.fresh (a, c) (List.mem_of_getElem? hi)
    · exact S.fresh _ hm
  · have go : ∀ {fs : List Env}, s.heap.FunFrames B.heap fs → h'.FunFrames B.heap fs := by
      intro fs
      induction fs with
      | nil => intro _; trivial
      | cons env rest ih =>
        rintro ⟨hk, ⟨L, o, hL, hn, hoL, hd⟩, hr⟩
        refine ⟨hk, ?_, ih hr⟩
        by_cases e : L = a
        · subst e
          rcases hf with hf | ⟨o2, vs, h2, hd2⟩
          · exact ⟨L, o', hL, hn, ho, hf⟩
          · rw [hoL] at h2; cases h2; exact (hd vs hd2).elim
        · exact ⟨L, o, hL, hn, (hs.2 L e).trans hoL, hd⟩
    exact go S.frames
  · rcases hmem x hx with rfl | ⟨hm, hne⟩
    · exact S.big (a, c) (List.mem_of_getElem? hi)
    · exact S.big _ hm
  · rcases hmem x hx with rfl | ⟨hm, hne⟩
    · exact hsf
    · exact S.soft _ hm

/-- everything in sight is kept, the heap may have grown -/
theorem keeps (S : St B fs l s) {h' : Heap} (t : Nat) (k : ∀ b o, s.heap.get? b = some o → h'.get? b = some o) : St B fs l { s with heap := h', toks := t } :=
  ⟨fun b o hb => k b o (S.base b o hb), fun x hx => let ⟨o, h1, h2⟩ := S.has x hx; ⟨o, k _ _ h1, h2⟩, S.nd, S.fresh, S.frames.of_keeps fun b o e _ => ⟨o, k b o e, rfl⟩, S.gens, S.drawn, S.os, S.low, S.big, S.soft⟩
theorem size (S : St B fs l s) : sysModules < s.heap.objs.size := let ⟨o, ho⟩ := S.low; Nat.lt_trans (by decide) (Heap.lt_size (S.base _ o ho))

theorem none_at (S : St B fs l s) : B.heap.get? s.heap.objs.size = none := by
  cases q : B.heap.get? s.heap.objs.size with
  | none => rfl
  | some o => exact absurd (Heap.lt_size (S.base _ o q)) (Nat.lt_irrefl _)

/-- a new object at the heap's end -/
theorem grow (S : St B fs l s) {h' : Heap} {a : Addr} {o : Obj} {c : Cell} (t : Nat) (k : ∀ b o, s.heap.get? b = some o → h'.get? b = some o) (ha : s.heap.get? a = none) (hB : B.heap.get? a = none) (hm : sysModules < a)
    (ho : h'.get? a = some o) (hc : c o) : St B fs ((a, c) :: l) { s with heap := h', toks := t } := by
  have S' := S.keeps t k
  refine ⟨S'.base, fun x hx => ?_, ?_, fun x hx => ?_, S'.frames, S.gens, S.drawn, S.os, S.low, fun x hx => ?_, fun x hx h => ?_⟩
  · rcases List.mem_cons.mp hx with rfl | hx
    · exact ⟨o, ho, hc⟩
    · exact S'.has x hx
  · refine List.nodup_cons.mpr ⟨fun hm => ?_, S.nd⟩
    obtain ⟨x, hx, e⟩ := List.mem_map.mp hm
    obtain ⟨o2, h2, _⟩ := S.has x hx
    rw [e, ha] at h2; cases h2
  · rcases List.mem_cons.mp hx with rfl | hx
    · exact hB
    · exact S.fresh x hx
  · rcases List.mem_cons.mp hx with rfl | hx
    · exact hm
    · exact S.big x hx
  · rcases List.mem_cons.mp hx with rfl | hx
    · obtain ⟨_, o3, h3, _⟩ := S.frames.mem h
      rw [ha] at h3; cases h3
    · exact S.soft x hx h
theorem push (S : St B fs l s) {o : Obj} {c : Cell} (hc : c o) (t : Nat) (hfree : o.isFreed = false := by rfl) : St B fs ((s.heap.objs.size, c) :: l) { s with heap := s.heap.push o, toks := t } :=
  S.grow t (fun _ _ e => Heap.get?_push_of_some _ e) (Heap.get?_none_of_le (Nat.le_refl _)) S.none_at S.size (Heap.get?_push_size _ hfree) hc

/-- the base may be taken larger: what has become fixed joins it -/
theorem rebase (S : St B fs l s) {B' : Heap} (hB : ∃ o, B'.get? mainGlobals = some o) (hs : B'.StaysIn s.heap) (hl : ∀ x ∈ l, B'.get? x.1 = none) (hf : ∀ b ∈ fs.filterMap (·.frame), B'.get? b = none) :
    St { B with heap := B' } fs l s := by
  refine ⟨hs, S.has, S.nd, hl, ?_, S.gens, S.drawn, S.os, hB, S.big, S.soft⟩
  have go : ∀ {fs : List Env}, (∀ b ∈ fs.filterMap (·.frame), B'.get? b = none) → s.heap.FunFrames B.heap fs → s.heap.FunFrames B' fs := by
    intro fs
    induction fs with
    | nil => intro _ _; trivial
    | cons env rest ih =>
      rintro hf ⟨hk, ⟨L, o, hL, hn, hoL, hd⟩, hr⟩
      refine ⟨hk, ⟨L, o, hL, hf L (List.mem_filterMap.mpr ⟨env, List.mem_cons_self, hL⟩), hoL, hd⟩, ih (fun b hb => hf b ?_) hr⟩
      rw [List.filterMap_cons, hL]; exact List.mem_cons_of_mem _ hb
  exact go hf S.frames
/-- the base may be taken smaller again -/
theorem unbase (S : St B fs l s) {B' : Shared} (hB : ∀ b o, B'.heap.get? b = some o → B.heap.get? b = some o) (hg : B'.gens = B.gens) (hd : B'.drawn = B.drawn) (ho : B'.os = B.os) (hlow : ∃ o, B'.heap.get? mainGlobals = some o) : St B' fs l s := by
  have nn : ∀ {b}, B.heap.get? b = none → B'.heap.get? b = none := fun {b} e => by
    cases q : B'.heap.get? b with
    | none => rfl
    | some o => rw [hB b o q] at e; cases e
  exact ⟨fun b o e => S.base b o (hB b o e), S.has, S.nd, fun x hx => nn (S.fresh x hx), funFrames_less (fun b o e => hB b o e) S.frames, S.gens.trans hg.symm, S.drawn.trans hd.symm, S.os.trans ho.symm, hlow, S.big, S.soft⟩
end St


end
-- M2
section

/-! places in lists -/
inductive Upd {α : Type} : List α → α → α → List α → Prop
  | here {x y : α} {r : List α} : Upd (x :: r) x y (y :: r)
  | there {x y z : α} {r r' : List α} : Upd r x y r' → Upd (z :: r) x y (z :: r')
theorem Upd.idx {α : Type} {l l' : List α} {x y : α} (u : Upd l x y l') : ∃ i, l[i]? = some x ∧ l' = l.set i y := by
  induction u with
  | here => exact ⟨0, rfl, rfl⟩
  | there _ ih => obtain ⟨i, h1, h2⟩ := ih; exact ⟨i + 1, h1, by rw [h2]; rfl⟩
theorem Upd.mem {α : Type} {l l' : List α} {x y : α} (u : Upd l x y l') : x ∈ l := let ⟨_, h, _⟩ := u.idx; List.mem_of_getElem? h
theorem Upd.keys {α β : Type} {f : α → β} {l l' : List α} {x y : α} (u : Upd l x y l') (e : f y = f x) : l'.map f = l.map f := by
  induction u with
  | here => simp [e]
  | there _ ih => simp [ih e]

theorem lookup_of_mem {β : Type} {xs : List (Str × β)} (nd : (xs.map (·.1)).Nodup) {x : Str} {v : β} (h : (x, v) ∈ xs) : xs.lookup x = some v := by
  induction xs with
  | nil => cases h
  | cons p r ih =>
    obtain ⟨y, u⟩ := p
    rw [List.map_cons, List.nodup_cons] at nd
    rcases List.mem_cons.mp h with e | h2
    · cases e; rw [List.lookup_cons, beq_self_eq_true]
    · have hx : x ∈ r.map (·.1) := List.mem_map.mpr ⟨_, h2, rfl⟩
      have : x ≠ y := fun e => nd.1 (e ▸ hx)
      rw [List.lookup_cons, beq_eq_false_iff_ne.mpr this]
      exact ih nd.2 h2
theorem lookup_none {β : Type} {xs : List (Str × β)} {x : Str} (h : x ∉ xs.map (·.1)) : xs.lookup x = none := by
  induction xs with
  | nil => rfl
  | cons p r ih =>
    obtain ⟨y, u⟩ := p
    rw [List.map_cons, List.mem_cons, not_or] at h
    rw [List.lookup_cons, beq_eq_false_iff_ne.mpr h.1]
    exact ih h.2
theorem Upd.lookup {β : Type} {xs xs' : List (Str × β)} {x : Str} {u v : β} (p : Upd xs (x, u) (x, v) xs') (nd : (xs.map (·.1)).Nodup) (y : Str) : (if y = x then some v else xs.lookup y) = xs'.lookup y := by
  have nd' : (xs'.map (·.1)).Nodup := (p.keys (f := (·.1)) rfl) ▸ nd
  induction xs generalizing xs' with
  | nil => cases p
  | cons q r ih =>
    cases p with
    | here =>
      by_cases e : y = x
      · subst e; simp
      · rw [if_neg e, List.lookup_cons, List.lookup_cons, beq_eq_false_iff_ne.mpr e]
    | there p' =>
      obtain ⟨z, t⟩ := q
      rw [List.map_cons, List.nodup_cons] at nd nd'
      have := ih p' nd.2 nd'.2
      rw [List.lookup_cons, List.lookup_cons, ← this]
      by_cases e : y = x
      · subst e
        have : y ≠ z := fun e => nd.1 (by subst e; exact List.mem_map.mpr ⟨_, p'.mem, rfl⟩)
        rw [if_pos rfl, beq_eq_false_iff_ne.mpr this, if_pos rfl]
      · rw [if_neg e, if_neg e]
theorem lookup_cons_new {β : Type} {xs : List (Str × β)} {x : Str} {v : β} (y : Str) : (if y = x then some v else xs.lookup y) = ((x, v) :: xs).lookup y := by
  rw [List.lookup_cons]
  by_cases e : y = x
  · subst e; simp
  · rw [if_neg e, beq_eq_false_iff_ne.mpr e]

/-! what lies in a cell -/
abbrev Names := List (Str × Value)
/-- a frame's names -/
def nsC (sc : Scope) (xs : Names) : Cell := fun o => (∃ es ep, o.data = .dict es ep ∧ StrKeys es ∧ ∀ y, nsFind es y = xs.lookup y) ∧ (xs.map (·.1)).Nodup ∧ sc.kind = .function ∧ ∀ p ∈ xs, sc.names.lookup p.1 = some .local ∧ (p.1 == ("__debug__" : Str)) = false
/-- an instance's own names -/
def idC (xs : Names) : Cell := fun o => ∃ es ep, o.data = .dict es ep ∧ StrKeys es ∧ UniqKeys es ∧ (∀ y, nsFind es y = xs.lookup y) ∧ (xs.map (·.1)).Nodup
/-- an instance of a class with a dict of its own -/
def instC (C d : Addr) : Cell := fun o => o.cls = .ref C ∧ o.data = .plain ∧ o.dict = some d
/-- a dict over keys that the base knows -/
def dictC {prog : Program} {w : World} {K : Type} [DecidableEq K] (knd : AnyKind prog w K) (B : Shared) (xs : List (K × Value × Value)) : Cell := fun o =>
  ∃ es ep, o.ExactDict ∧ o.data = .dict es ep ∧ es.toList = xs.map (entK knd) ∧ (∀ x ∈ xs, knd.is B.heap x.1 x.2.1) ∧ (xs.map (·.1)).Nodup
def objC (o : Obj) : Cell := fun x => x = o
theorem soft_nsC {sc : Scope} {xs : Names} : Soft (nsC sc xs) := fun _ _ h => h
theorem soft_idC {xs : Names} : Soft (idC xs) := fun _ _ h => h
theorem soft_instC {C d : Addr} : Soft (instC C d) := fun _ _ h => h
theorem notSoft_dictC {prog : Program} {w : World} {K : Type} [DecidableEq K] {knd : AnyKind prog w K} {B : Shared} {xs : List (K × Value × Value)} : ∀ o, dictC knd B xs o → ¬ Soft (dictC knd B xs) := fun o h q => by
  obtain ⟨_, _, ⟨_, _, e⟩, _⟩ := q o #[none] h
  cases e

structure Stat (K : Frag) (h : Heap) : Prop where
  X : K.In h
  lim : h.NoLimit
  top : ∃ mg mb, h.Ns mainGlobals mg ∧ h.Ns builtinsNs mb ∧ ∀ x : Str, x ≠ "__name__" → mb x = bootBuiltins x
theorem Stat.keeps {K : Frag} {h h' : Heap} (x : Stat K h) (k : ∀ b o, h.get? b = some o → h'.get? b = some o) : Stat K h' :=
  ⟨x.X.keeps k, x.lim.keeps k, let ⟨mg, mb, h1, h2, h3⟩ := x.top; ⟨mg, mb, h1.keeps k, h2.keeps k, h3⟩⟩

section
variable {B : Shared} {fs : List Env} {l l' : Cells} {s : Shared} {L : Addr} {xs xs' : Names}
theorem St.ns {sc : Scope} (S : St B fs l s) (m : (L, nsC sc xs) ∈ l) : s.heap.Ns L (fun y => xs.lookup y) ∧ (xs.map (·.1)).Nodup ∧ sc.kind = .function ∧ ∀ p ∈ xs, sc.names.lookup p.1 = some .local ∧ (p.1 == ("__debug__" : Str)) = false := by
  obtain ⟨o, ho, ⟨es, ep, h1, h2, h3⟩, h4⟩ := S.has _ m
  exact ⟨⟨o, es, ep, ho, h1, h2, h3⟩, h4⟩
theorem St.set (S : St B fs l s) {a : Addr} {c c' : Cell} (u : Upd l (a, c) (a, c') l') {h' : Heap} {o' : Obj} (t : Nat) (hs : Heap.SameBut a s.heap h') (ho : h'.get? a = some o') (hc : c' o')
    (hf : (∀ vs, o'.data ≠ .fields vs) ∨ ∃ o vs, s.heap.get? a = some o ∧ o.data = .fields vs) (hsf : a ∈ fs.filterMap (·.frame) → Soft c') : St B fs l' { s with heap := h', toks := t } := by
  obtain ⟨i, hi, rfl⟩ := u.idx
  exact S.upd hi t hs ho hc hf hsf
end

section
variable {M : Model} {A : Around} {E : Value → Shared → Prop} {B : Shared} {fs : List Env} {l l' : Cells} {s : Shared} {name : Str} {scope : Scope} {L a : Addr} {cd : Value} {xs xs' : Names}

theorem ldS {x : Str} {pos : Pos} {v : Value} {Q : Value → Shared → Prop} (S : St B fs l s) (m : (L, nsC scope xs) ∈ l) (mv : (x, v) ∈ xs) (h : Q v s) :
    wpAny M A (eval (.Name x pos) (envOf name scope L a cd)) Q E s :=
  let ⟨n, nd, hk, hl⟩ := S.ns m
  wpAny_Name (wpAny_loadName_local hk (hl _ mv).1 n (lookup_of_mem nd mv) h) (hl _ mv).2

theorem stS {x : Str} {u v : Value} {Q : Unit → Shared → Prop} (S : St B fs l s) (m : Upd l (L, nsC scope xs) (L, nsC scope xs') l') (p : Upd xs (x, u) (x, v) xs')
    (h : ∀ s', St B fs l' s' → Q () s') : wpAny M A (storeName (envOf name scope L a cd) x v) Q E s := by
  obtain ⟨n, nd, hk, hl⟩ := S.ns m.mem
  refine wpAny_storeName_local (hl _ p.mem).1 n (fun h' hn hs => h _ ?_) (by show (scope.kind == .class || (scope.kind == .module && L != mainGlobals)) = false; rw [hk]; rfl)
  obtain ⟨o, es, ep, ho, hd, hk', hf⟩ := hn
  refine S.set m _ hs ho ⟨⟨es, ep, hd, hk', fun y => (hf y).trans (p.lookup nd y)⟩, (p.keys (f := (·.1)) rfl) ▸ nd, hk, ?_⟩ (.inl fun vs e => by rw [hd] at e; cases e) fun _ => soft_nsC
  intro q hq
  have : q.1 ∈ xs'.map (·.1) := List.mem_map.mpr ⟨q, hq, rfl⟩
  rw [p.keys (f := (·.1)) rfl] at this
  obtain ⟨r, hr, e⟩ := List.mem_map.mp this
  exact e ▸ hl r hr

theorem stSnew {x : Str} {v : Value} {Q : Unit → Shared → Prop} (S : St B fs l s) (m : Upd l (L, nsC scope xs) (L, nsC scope ((x, v) :: xs)) l')
    (h : ∀ s', St B fs l' s' → Q () s') (hx : x ∉ xs.map (·.1) := by simp only [List.map_cons, List.map_nil]; decide +kernel)
    (hl : scope.names.lookup x = some .local := by kernel_rfl) (hd : (x == ("__debug__" : Str)) = false := by decide +kernel) :
    wpAny M A (storeName (envOf name scope L a cd) x v) Q E s := by
  obtain ⟨n, nd, hk, hls⟩ := S.ns m.mem
  refine wpAny_storeName_local hl n (fun h' hn hs => h _ ?_) (by show (scope.kind == .class || (scope.kind == .module && L != mainGlobals)) = false; rw [hk]; rfl)
  obtain ⟨o, es, ep, ho, hd', hk', hf⟩ := hn
  refine S.set m _ hs ho ⟨⟨es, ep, hd', hk', fun y => (hf y).trans (lookup_cons_new y)⟩, by rw [List.map_cons]; exact List.nodup_cons.mpr ⟨hx, nd⟩, hk, fun q hq => ?_⟩ (.inl fun vs e => by rw [hd'] at e; cases e) fun _ => soft_nsC
  rcases List.mem_cons.mp hq with rfl | hq
  · exact ⟨hl, hd⟩
  · exact hls q hq

variable {K : Frag}
theorem St.stat (S : St B fs l s) (T : Stat K B.heap) : Stat K s.heap := T.keeps S.base
theorem ldG {x : Str} {pos : Pos} {v : Value} {Q : Value → Shared → Prop} (T : Stat K B.heap) (S : St B fs l s) (e : nsIn K mainGlobals x = some (some v)) (h : Q v s)
    (hk : scope.kind = .function := by rfl) (hx : scope.names.lookup x = some .globalImplicit := by kernel_rfl) (hd : (x == ("__debug__" : Str)) = false := by decide +kernel) :
    wpAny M A (eval (.Name x pos) (envOf name scope L a cd)) Q E s := by
  obtain ⟨X, _, mg, mb, h1, h2, h3⟩ := S.stat T
  exact Calls.Name_function_global hk hx (Calls.loadGlobal_global (env := envOf name scope L a cd) h1 (mg_of X h1 e) h) hd
theorem ldB {x : Str} {pos : Pos} {v : Value} {Q : Value → Shared → Prop} (T : Stat K B.heap) (S : St B fs l s) (e : nsIn K mainGlobals x = some none) (hv : bootBuiltins x = some v) (h : Q v s) (hn : x ≠ "__name__" := by decide +kernel)
    (hk : scope.kind = .function := by rfl) (hx : scope.names.lookup x = some .globalImplicit := by kernel_rfl) (hd : (x == ("__debug__" : Str)) = false := by decide +kernel) :
    wpAny M A (eval (.Name x pos) (envOf name scope L a cd)) Q E s := by
  obtain ⟨X, _, mg, mb, h1, h2, h3⟩ := S.stat T
  exact Calls.Name_function_global hk hx (Calls.loadGlobal_builtin (env := envOf name scope L a cd) h1 (mg_none_of X h1 e) h2 ((h3 x hn).trans hv) h) hd
end

end
-- M3
section
set_option maxRecDepth 100000

theorem find_of_str {es : Array DictEntry} (hk : StrKeys es) : es.toList.any (·.refKey) = false := by
  rw [List.any_eq_false]
  intro e he
  obtain ⟨n, t, h⟩ := hk e (Array.mem_toList_iff.mp he)
  simp [DictEntry.refKey, h]
theorem lookIn_id {o : Obj} {xs : Names} (h : idC xs o) (name : Str) : lookIn name o = some (xs.lookup name) := by
  obtain ⟨es, ep, hd, hk, _, hf, _⟩ := h
  have := hf name
  unfold nsFind PySem.findBy at this
  unfold lookIn
  rw [hd]
  dsimp only
  rw [← Array.find?_toList] at this
  cases q : es.toList.find? (·.key.isStr name) with
  | some e => rw [q] at this; rw [← this]; rfl
  | none => rw [q] at this; rw [← this]; simp [find_of_str hk]

section
variable {B : Shared} {fs : List Env} {l l' : Cells} {s : Shared} {x C d : Addr} {xs xs' : Names}
theorem St.inst (S : St B fs l s) (mi : (x, instC C d) ∈ l) (md : (d, idC xs) ∈ l) : ∃ ox od, InstAt s.heap x ox C (some od) ∧ ox.dict = some d ∧ idC xs od ∧ s.heap.get? d = some od := by
  obtain ⟨ox, hx, h1, h2, h3⟩ := S.has _ mi
  obtain ⟨od, hd, h4⟩ := S.has _ md
  exact ⟨ox, od, ⟨hx, h1, by unfold notCls; rw [h2], by rw [h3]; exact hd⟩, h3, h4, hd⟩
end

/-- what a class says of a name, met through an instance -/
def gets (K : Frag) (C : Addr) (name : Str) : Bool :=
  findIn K (.ref C) "__getattribute__" == some (some (.builtin "object.__getattribute__")) && hasDictIn K C
/-- an instance's own name goes first -/
def ownName (K : Frag) (C : Addr) (name : Str) : Bool :=
  gets K C name && (findIn K (.ref C) name).any fun attr => noGet K attr
/-- a plain value of the class -/
def clsName (K : Frag) (C : Addr) (name : Str) (v : Value) : Bool :=
  gets K C name && (findIn K (.ref C) name).any (fun attr => attr.any fun a => a == v && (specialIn K a "__get__").any (·.isNone) && handedIn a) && !copiedNames.contains name

section
variable {prog : Program} {w : World} {A : Around} {E : Value → Shared → Prop} {B : Shared} {fs : List Env} {l l' : Cells} {s : Shared} {K : Frag} {x C d : Addr} {xs xs' : Names} {name : Str} {v : Value} {expr : Bool}

theorem getOwn {Q : Value → Shared → Prop} (T : Stat K B.heap) (S : St B fs l s) (mi : (x, instC C d) ∈ l) (md : (d, idC xs) ∈ l) (mv : (name, v) ∈ xs) (hn : ownName K C name = true) (hv : handedIn v = true)
    (h : ∀ s', St B fs l s' → Q v s') : wpAny (model prog w) A (getAttr (.ref x) name expr) Q E s := by
  obtain ⟨ox, od, I, _, hid, _⟩ := S.inst mi md
  unfold ownName gets at hn
  rw [Bool.and_eq_true, Bool.and_eq_true] at hn
  obtain ⟨⟨h1, h2⟩, h3⟩ := hn
  obtain ⟨attr, h4, h5⟩ := any_some h3
  refine get_value (S.stat T).X I (beq_iff_eq.mp h1) (findObj_own h2 h4 h5 (by rw [lookIn_id hid, lookup_of_mem (by obtain ⟨_, _, _, _, _, _, q⟩ := hid; exact q) mv])) hv (h _ (S.toks _))

theorem getCls {Q : Value → Shared → Prop} (T : Stat K B.heap) (S : St B fs l s) (mi : (x, instC C d) ∈ l) (md : (d, idC xs) ∈ l) (hn : clsName K C name v = true) (h : ∀ s', St B fs l s' → Q v s') (mv : name ∉ xs.map (·.1) := by simp only [List.map_cons, List.map_nil]; decide +kernel) :
    wpAny (model prog w) A (getAttr (.ref x) name expr) Q E s := by
  obtain ⟨ox, od, I, _, hid, _⟩ := S.inst mi md
  unfold clsName gets at hn
  simp only [Bool.and_eq_true] at hn
  obtain ⟨⟨⟨h1, h2⟩, h3⟩, h6⟩ := hn
  obtain ⟨attr, h4, h5⟩ := any_some h3
  obtain ⟨a, rfl, h7⟩ := any_some h5
  simp only [Bool.and_eq_true, beq_iff_eq] at h7
  obtain ⟨⟨rfl, h8⟩, h9⟩ := h7
  obtain ⟨g, h10, h11⟩ := any_some h8
  have : g = none := by cases g with | none => rfl | some _ => cases h11
  subst this
  exact get_value (S.stat T).X I (beq_iff_eq.mp h1) (findObj_cls h2 h4 h10 h9 (by simpa using h6) (by rw [lookIn_id hid, lookup_none mv])) h9 (h _ (S.toks _))
end

end
-- M4
section
set_option maxRecDepth 100000
open Builtin.ObjectAttr

/-- an instance's own name may be stored plainly -/
def setsName (K : Frag) (C : Addr) (name : Str) : Bool :=
  findIn K (.ref C) "__setattr__" == some (some (.builtin "object.__setattr__")) && plainOver K C && takerIn K C name == some none && hasDictIn K C

section
variable {prog : Program} {w : World} {A : Around} {E : Value → Shared → Prop} {B : Shared} {fs : List Env} {l l' : Cells} {s : Shared} {K : Frag} {x C d : Addr} {xs xs' : Names} {name : Str} {v : Value}

theorem setGen {Q : Unit → Shared → Prop} (T : Stat K B.heap) (S : St B fs l s) (mi : (x, instC C d) ∈ l) (md : (d, idC xs) ∈ l) (hn : setsName K C name = true) (hsz : xs.length ≤ 100)
    (h : ∀ h' o t, Heap.SameBut d s.heap h' → h'.get? d = some o → (∃ es ep, o.data = .dict es ep ∧ StrKeys es ∧ UniqKeys es ∧ ∀ y, nsFind es y = if y = name then some v else xs.lookup y) → Q () { s with heap := h', toks := t }) :
    wpAny (model prog w) A (setAttr (.ref x) name v) Q E s := by
  obtain ⟨ox, od, I, hox, hid, hod⟩ := S.inst mi md
  have X := (S.stat T).X
  have X' : K.In ({ s with toks := s.toks + 1 } : Shared).heap := X
  unfold setsName at hn
  simp only [Bool.and_eq_true, beq_iff_eq] at hn
  obtain ⟨⟨⟨h1, h2⟩, h3⟩, h4⟩ := hn
  refine set_plain X I h1 (osa_open (s := { s with toks := s.toks + 1 }) X I h2 h3 fun b => ?_)
  obtain ⟨cd, hc, hd'⟩ := any_some h4
  obtain ⟨hx, hcl, hnc, -⟩ := I
  obtain ⟨oc, odi, oda, osl⟩ := ox
  dsimp only at hcl hox
  subst hcl hox
  refine wpAny_bind (wpAny_pure (wpAny_bind (wpAny_bind (wpAny_loadPart hx (wpAny_bind ((looks_clsIn X' hc).here ?_))))))
  rw [hd']
  refine wpAny_pure (a := some d) (wpAny_bind (wpAny_pure (wpAny_bind ?_)))
  obtain ⟨es, ep, e1, e2, e3, e4, e5⟩ := hid
  have hns : s.heap.Ns1 d (fun y => xs.lookup y) := ⟨od, es, ep, hod, e1, e2, e3, e4⟩
  refine wpAny_nsSet1 (s := { s with toks := s.toks + 1 }) hns fun h' hn' hs => ?_
  have hw : Within (fun y => xs.lookup y) (xs.map (·.1)) := fun y hy => by
    by_cases q : y ∈ xs.map (·.1)
    · exact q
    · exact (hy (lookup_none q)).elim
  obtain ⟨oD, esD, epD, hoD, hdD, hcD⟩ := hn'.count (Within.cons name v hw)
  refine wpAny_bind (wpAny_lookBehind hoD (by rw [hdD]; exact pastItsLine_dict (Nat.le_trans hcD (by rw [List.length_cons, List.length_map, sizeLine_eq]; omega))) ?_)
  obtain ⟨o', es', ep', g1, g2, g3, g4, g5⟩ := hn'
  exact wpAny_pure (h h' o' _ hs g1 ⟨es', ep', g2, g3, g4, g5⟩)

theorem setOwn {Q : Unit → Shared → Prop} {u : Value} (T : Stat K B.heap) (S : St B fs l s) (mi : (x, instC C d) ∈ l) (md : Upd l (d, idC xs) (d, idC xs') l') (p : Upd xs (name, u) (name, v) xs') (hn : setsName K C name = true)
    (h : ∀ s', St B fs l' s' → Q () s') (hsz : xs.length ≤ 100 := by first | decide | (simp only [List.length_cons, List.length_nil]; omega)) : wpAny (model prog w) A (setAttr (.ref x) name v) Q E s := by
  obtain ⟨_, _, _, _, ⟨_, _, _, _, _, _, nd⟩, _⟩ := S.inst mi md.mem
  refine setGen T S mi md.mem hn hsz fun h' o t hs ho ⟨es, ep, g1, g2, g3, g4⟩ => h _ ?_
  exact S.set md t hs ho ⟨es, ep, g1, g2, g3, fun y => (g4 y).trans (p.lookup nd y), (p.keys (f := (·.1)) rfl) ▸ nd⟩ (.inl fun vs e => by rw [g1] at e; cases e) fun _ => soft_idC
theorem setNew {Q : Unit → Shared → Prop} (T : Stat K B.heap) (S : St B fs l s) (mi : (x, instC C d) ∈ l) (md : Upd l (d, idC xs) (d, idC ((name, v) :: xs)) l') (hn : setsName K C name = true)
    (h : ∀ s', St B fs l' s' → Q () s') (hx : name ∉ xs.map (·.1) := by simp only [List.map_cons, List.map_nil]; decide +kernel) (hsz : xs.length ≤ 100 := by first | decide | (simp only [List.length_cons, List.length_nil]; omega)) : wpAny (model prog w) A (setAttr (.ref x) name v) Q E s := by
  obtain ⟨_, _, _, _, ⟨_, _, _, _, _, _, nd⟩, _⟩ := S.inst mi md.mem
  refine setGen T S mi md.mem hn hsz fun h' o t hs ho ⟨es, ep, g1, g2, g3, g4⟩ => h _ ?_
  exact S.set md t hs ho ⟨es, ep, g1, g2, g3, fun y => (g4 y).trans (lookup_cons_new y), by rw [List.map_cons]; exact List.nodup_cons.mpr ⟨hx, nd⟩⟩ (.inl fun vs e => by rw [g1] at e; cases e) fun _ => soft_idC
end

end
-- M5
section
set_option maxRecDepth 100000

/-- room for n calls more -/
structure Room (n : Nat) (fs : List Env) (A : Around) : Prop where
  frames : A.frames = some fs
  depth : A.depth + n < recursionLimit
  units : A.units + 8 * n < cLine
  handled : A.handled = none
namespace Room
variable {n m : Nat} {fs : List Env} {A : Around} {env : Env}
theorem deeper (r : Room (n + 1) fs A) : Room n (env :: fs) (A.deeper env) :=
  ⟨Around.frames_deeper r.frames, by have := r.depth; show A.depth + 1 + n < _; omega, by have := r.units; show A.units + 3 + 8 * n < _; omega, r.handled⟩
theorem in1 (r : Room (n + 1) fs A) : Room n fs A.in1 :=
  ⟨r.frames, by have := r.depth; show A.depth + n < _; omega, by have := r.units; show A.units + 1 + 8 * n < _; omega, r.handled⟩
theorem less (r : Room n fs A) (h : m ≤ n) : Room m fs A := ⟨r.frames, by have := r.depth; omega, by have := r.units; omega, r.handled⟩
theorem room (r : Room (n + 1) fs A) : A.depth < recursionLimit := by have := r.depth; omega
theorem u1 (r : Room (n + 1) fs A) : A.units + 1 < cLine := by have := r.units; omega
theorem u0 (r : Room (n + 1) fs A) : A.units < cLine := by have := r.units; omega
end Room

structure FnOk (K : Frag) (f : Addr) (fd : FuncData) (body : List Stmt) : Prop where
  at_ : (K.lookup f).map (·.data) = some (.func fd)
  body_ : fd.body = .stmts body
  code : codeIn K fd.code fd.qualname = true
  glob : fd.globals = mainGlobals
  clos : fd.closure = []
  blt : fd.builtins = builtinsNs
  kind : fd.scope.kind = .function
  co : fd.scope.isCoroutine = false
  cell : ∀ x ∈ fd.scope.names, x.2 ≠ .cell
abbrev fnEnv (fd : FuncData) (L f : Addr) : Env := envOf fd.qualname fd.scope L f fd.code

section
variable {prog : Program} {w : World} {A : Around} {B : Shared} {fs : List Env} {l : Cells} {s : Shared} {K : Frag} {f : Addr} {fd : FuncData} {body : List Stmt} {args : Args} {binds : List (Str × Value)} {R : Result → Shared → Prop} {n : Nat}

theorem callS {locs : Names} {names : List Str} (F : FnOk K f fd body) (T : Stat K B.heap) (S : St B fs l s) (r : Room (n + 1) fs A) (hb : BindsTo s fd args binds)
    (hnames : binds.map (·.1) = names) (hlocs : binds.reverse = locs) (hloc : (names.all fun x => fd.scope.names.lookup x == some .local && !(x == ("__debug__" : Str))) = true) (hnd : names.Nodup) (hgen : fd.scope.isGenerator = false)
    (h : ∀ L s', Room n (fnEnv fd L f :: fs) (A.deeper (fnEnv fd L f)) → St B (fnEnv fd L f :: fs) ((L, nsC fd.scope locs) :: l) s' →
      wpAny (model prog w) (A.deeper (fnEnv fd L f)) (execs body (fnEnv fd L f)) (fun fl s' => R (.ok (.ret (match fl with | .ret v => v | _ => .none))) s') (fun _ _ => False) s') :
    codeAny (model prog w) A (.call (.ref f) args) R s := by
  subst hnames hlocs
  have nd := hnd
  have hloc : ∀ p ∈ binds, fd.scope.names.lookup p.1 = some .local ∧ (p.1 == ("__debug__" : Str)) = false := fun p hp => by
    have := List.all_eq_true.mp hloc p.1 (List.mem_map.mpr ⟨p, hp, rfl⟩)
    simpa using this
  have T' := S.stat T
  obtain ⟨o, ho, hd⟩ := Option.map_eq_some_iff.mp F.at_
  have env : ∀ L, callEnv fd L f = fnEnv fd L f := fun L => by
    unfold callEnv fnEnv envOf newEnv
    rw [F.glob, F.clos, F.blt]
  refine codeAny_call_def (body := body) (binds := binds) r.room (T'.X _ _ ho) hd T'.lim (codeRec_of T'.X F.code) F.body_ hb F.cell (fun x hx => (hloc x hx).1) (fun h₀ hns hk => ?_) F.co hgen F.kind
  rw [env]
  refine wpAny_mono (h s.heap.objs.size _ r.deeper ?_) (fun _ _ x => x) (fun _ _ x => x.elim)
  obtain ⟨oL, es, ep, hL, h1, h2, h3⟩ := hns
  have S1 := S.grow (a := s.heap.objs.size) (o := oL) (c := nsC fd.scope binds.reverse) (s.toks + binds.length) hk (Heap.get?_none_of_le (Nat.le_refl _)) S.none_at S.size hL
    ⟨⟨es, ep, h1, h2, h3⟩, by rw [List.map_reverse]; exact (List.reverse_perm _).nodup_iff.mpr nd, F.kind, fun p hp => hloc p (List.mem_reverse.mp hp)⟩
  refine ⟨S1.base, S1.has, S1.nd, S1.fresh, ?_, S1.gens, S1.drawn, S1.os, S1.low, S1.big, fun x hx hm => ?_⟩
  · exact ⟨by show fd.scope.kind ≠ _; rw [F.kind]; decide, ⟨_, oL, rfl, S.none_at, hL, fun vs q => by rw [h1] at q; cases q⟩, S1.frames⟩
  · rcases List.mem_cons.mp hx with rfl | hx'
    · exact soft_nsC
    · rw [List.filterMap_cons] at hm
      rcases List.mem_cons.mp (show x.1 ∈ s.heap.objs.size :: _ from hm) with e | hm
      · have := S.lt hx'
        rw [e] at this; exact absurd this (Nat.lt_irrefl _)
      · exact S.soft x hx' hm
end

end
-- M6
section
set_option maxRecDepth 100000
end
local macro_rules | `(tactic| walk_at "m_mem") => `(tactic| repeat (first | with_reducible exact List.mem_cons_self | with_reducible refine List.mem_cons_of_mem _ ?_))
section
set_option maxRecDepth 100000
end
local macro_rules | `(tactic| walk_at "m_nin") => `(tactic| (simp only [List.map_cons, List.map_nil]; decide +kernel))
section
set_option maxRecDepth 100000
end
local macro_rules | `(tactic| walk_at "m_updt") => `(tactic| repeat (first | with_reducible exact Upd.here | with_reducible apply Upd.there))
section
set_option maxRecDepth 100000

section
variable {prog : Program} {w : World} {A : Around} {E : Value → Shared → Prop} {B : Shared} {fs : List Env} {l l' : Cells} {s : Shared} {K : Type} [DecidableEq K] {knd : AnyKind prog w K}
  {d : Addr} {xs xs' : List (K × Value × Value)} {key v : Value} {k : K}
theorem St.dict (S : St B fs l s) (m : (d, dictC knd B xs) ∈ l) : DictK knd s.heap d xs := by
  obtain ⟨o, ho, es, ep, h1, h2, h3, h4, h5⟩ := S.has _ m
  exact ⟨o, es, ep, ho, h1, h2, h3, fun x hx => knd.grows (h4 x hx) S.base, h5⟩
theorem St.keyed (S : St B fs l s) (hk : knd.is B.heap k key) : knd.is s.heap k key := knd.grows hk S.base
theorem St.notMods {c : Cell} (S : St B fs l s) (m : (d, c) ∈ l) : (d == sysModules) = false := by
  have := S.big _ m
  exact beq_eq_false_iff_ne.mpr fun e => by subst e; exact absurd this (Nat.lt_irrefl _)
theorem St.setDict (S : St B fs l s) (u : Upd l (d, dictC knd B xs) (d, dictC knd B xs') l') {h' : Heap} (t : Nat) (hm : DictK knd h' d xs') (hs : Heap.SameBut d s.heap h') (hk : ∀ x ∈ xs', knd.is B.heap x.1 x.2.1) :
    St B fs l' { s with heap := h', toks := t } := by
  obtain ⟨o, es, ep, ho, h1, h2, h3, h4, h5⟩ := hm
  exact S.set u t hs ho ⟨es, ep, h1, h2, h3, hk, h5⟩ (.inl fun vs e => by rw [h2] at e; cases e) fun hm => (notSoft_dictC _ (S.has _ u.mem).choose_spec.2 (S.soft _ u.mem hm)).elim
theorem St.keys (S : St B fs l s) (m : (d, dictC knd B xs) ∈ l) : ∀ x ∈ xs, knd.is B.heap x.1 x.2.1 := by
  obtain ⟨o, ho, es, ep, h1, h2, h3, h4, h5⟩ := S.has _ m
  exact h4

theorem inS {Q : Value → Shared → Prop} (S : St B fs l s) (m : (d, dictC knd B xs) ∈ l) (hu : A.units + 1 < cLine) (hk : knd.is B.heap k key) (h : ∀ s', St B fs l s' → Q (.bool (atK xs k).isSome) s') :
    wpAny (model prog w) A (compareOp .In key (.ref d)) Q E s :=
  inK hu (S.keyed hk) (S.notMods m) (S.dict m) (h _ (S.toks _))
end

end
-- M7
section
set_option maxRecDepth 100000

/-- a method of the class, a plain function, met through an instance -/
def methName (K : Frag) (C : Addr) (name : Str) (f : Addr) : Bool :=
  findIn K (.ref C) "__getattribute__" == some (some (.builtin "object.__getattribute__")) && findIn K (.ref C) "__getattr__" == some none && findIn K (.ref C) name == some (some (.ref f)) && typeIn K (.ref f) == some (.type "function")
/-- a function that lies plainly in a class, met through the class -/
def clsFn (K : Frag) (C : Addr) (name : Str) (f : Addr) : Bool :=
  match clsMeta K C with
  | some mc => specialIn K (.ref C) "__getattribute__" == some (some (.builtin "type.__getattribute__")) && readsIn K C mc && (findCls K (.ref C) mc name).any (fun r => match r with | .val v => v == .ref f | _ => false)
  | none => false
where clsMeta (K : Frag) (C : Addr) : Option Value := typeIn K (.ref C)

section
variable {prog : Program} {w : World} {M : Model} {A : Around} {E : Value → Shared → Prop} {B : Shared} {fs : List Env} {l l' : Cells} {s : Shared} {K : Frag} {x C d f : Addr} {xs : Names} {name : Str} {v : Value} {pl : Sem Bool} {env : Env} {pos : Pos} {first : List Value}

theorem methFn {Q : Value × List Value → Shared → Prop} (T : Stat K B.heap) (S : St B fs l s) (mi : (x, instC C d) ∈ l) (md : (d, idC xs) ∈ l) (hm : methName K C name f = true) (h : Q (.ref f, [.ref x]) s) (mv : name ∉ xs.map (·.1) := by simp only [List.map_cons, List.map_nil]; decide +kernel) :
    wpAny (model prog w) A (getMethod (.ref x) name pl) Q E s := by
  obtain ⟨ox, od, I, _, hid, _⟩ := S.inst mi md
  unfold methName at hm
  simp only [Bool.and_eq_true, beq_iff_eq] at hm
  obtain ⟨⟨⟨h1, h2⟩, h3⟩, h4⟩ := hm
  exact method_fn (S.stat T).X I h1 h2 h3 h4 (by show Option.map _ _ = _; rw [lookIn_id hid, lookup_none mv]; rfl) h

theorem methCls {Q : Value × List Value → Shared → Prop} (T : Stat K B.heap) (S : St B fs l s) (hm : clsFn K C name f = true) (h : ∀ s', St B fs l s' → Q (.ref f, []) s') :
    wpAny (model prog w) A (getMethod (.ref C) name pl) Q E s := by
  unfold clsFn at hm
  split at hm
  · rename_i mc hmc
    simp only [Bool.and_eq_true, beq_iff_eq] at hm
    obtain ⟨⟨h1, h2⟩, h3⟩ := hm
    obtain ⟨r, h4, h5⟩ := any_some h3
    split at h5
    · rename_i u
      obtain rfl := beq_iff_eq.mp h5
      exact method_cls (S.stat T).X h1 (cls_value (S.stat T).X h2 h4 rfl (h _ (S.toks _)))
    · cases h5
  · cases hm
theorem getClsFn {expr : Bool} {Q : Value → Shared → Prop} (T : Stat K B.heap) (S : St B fs l s) (hm : clsFn K C name f = true) (h : ∀ s', St B fs l s' → Q (.ref f) s') :
    wpAny (model prog w) A (getAttr (.ref C) name expr) Q E s := by
  unfold clsFn at hm
  split at hm
  · rename_i mc hmc
    simp only [Bool.and_eq_true, beq_iff_eq] at hm
    obtain ⟨⟨h1, h2⟩, h3⟩ := hm
    obtain ⟨r, h4, h5⟩ := any_some h3
    split at h5
    · rename_i u
      obtain rfl := beq_iff_eq.mp h5
      exact cls_value (S.stat T).X h2 h4 rfl (h _ (S.toks _))
    · cases h5
  · cases hm

theorem callFn {v : Value} {e : Expr} {rest : List Expr} {Q : Value → Shared → Prop} (T : Stat K B.heap) (hk : keepIn K v = true)
    (h : wpAny M A (spliced (backTo pos (starEach (e :: rest) env))) (fun vs s₁ => (∃ fs' l', St B fs' l' s₁) ∧ wpAny M A (call v (first ++ vs)) Q E s₁) E s)
    (he : starEach (e :: rest) env = (false, eval e env) :: starEach rest env := by rfl) (hplain : (backTo pos (starEach rest env)).any (·.1) = false := by rfl) :
    wpAny M A (callWith pos v first (backTo pos (starEach (e :: rest) env)) []) Q E s :=
  callWith_K T.X hk (wpAny_mono h (fun _ _ z => ⟨let ⟨_, _, S⟩ := z.1; (S.stat T).X, z.2⟩) fun _ _ z => z) he hplain
theorem callFn0 {v : Value} {Q : Value → Shared → Prop} (T : Stat K B.heap) (S : St B fs l s) (hk : keepIn K v = true)
    (h : wpAny M A (call v (first ++ [])) Q E s) : wpAny M A (callWith pos v first (backTo pos (starEach [] env)) []) Q E s :=
  callWith_K0 (S.stat T).X hk h
end

end
-- M8
section
set_option maxRecDepth 100000
section
variable {prog : Program} {w : World} {A : Around} {E : Value → Shared → Prop} {B : Shared} {fs : List Env} {l l' : Cells} {s : Shared} {K : Type} [DecidableEq K] {knd : AnyKind prog w K}
  {d : Addr} {xs xs' : List (K × Value × Value)} {key v : Value} {k : K} {env : Env}

/-- a subscript of a dict -/
theorem subD {value slice : Expr} {pos : Pos} {Q : Value → Shared → Prop}
    (h : wpAny (model prog w) A (eval value env) (fun o s₁ => wpAny (model prog w) A (eval slice env) (fun i s₂ => s₂.TypeIs o "dict" ∧ wpAny (model prog w) A (getItem o i) Q E s₂) E s₁) E s)
    (hs : ∀ o i, subscripted slice false o i = operate [o, i] (getItem o i) := by intros; rfl) :
    wpAny (model prog w) A (eval (.Subscript value slice pos) env) Q E s := by
  rw [eval_Subscript]
  refine wpAny_bind (wpAny_mono h (fun o s₁ h₁ => wpAny_bind (wpAny_holding (wpAny_mono h₁ (fun i s₂ h₂ => wpAny_bind (wpAny_standAt ?_)) fun _ _ x => x))) fun _ _ x => x)
  obtain ⟨hT, hg⟩ := h₂
  refine wpAny_bind ?_
  rw [getitemInPython_of_ne hT.not_modules]
  refine wpAny_bind (wpAny_specialOf hT slot_dict_getitem.lookup ?_)
  have fin : wpAny (model prog w) A (operate [o, i] (getItem o i)) (fun r s₃ => wpAny (model prog w) A (letTemporaryGo value o r >>= fun _ => pure r) Q E s₃) E s₂ :=
    wpAny_operating (wpAny_mono hg (fun r s₃ h₃ => wpAny_bind (wpAny_letTemporaryGo (wpAny_pure h₃))) fun _ _ x => x)
  refine wpAny_pure ?_
  rw [hs]
  exact wpAny_bind fin
theorem keysPut {P : K → Value → Prop} (h : ∀ x ∈ xs, P x.1 x.2.1) (hk : P k key) : ∀ x ∈ putK xs k key v, P x.1 x.2.1 := by
  intro x hx
  unfold putK at hx
  split at hx
  · obtain ⟨y, hy, rfl⟩ := List.mem_map.mp hx
    unfold putAtK
    split <;> exact h y hy
  · rcases List.mem_append.mp hx with hx | hx
    · exact h x hx
    · rw [List.mem_singleton.mp hx]; exact hk
theorem St.typeDict (S : St B fs l s) (m : (d, dictC knd B xs) ∈ l) : s.TypeIs (.ref d) "dict" := (S.dict m).typeIs
theorem getS {p : Value × Value} {Q : Value → Shared → Prop} (S : St B fs l s) (m : (d, dictC knd B xs) ∈ l) (hu : A.units + 1 < cLine) (hk : knd.is B.heap k key) (hp : atK xs k = some p) (h : ∀ s', St B fs l s' → Q p.2 s') :
    wpAny (model prog w) A (getItem (.ref d) key) Q E s := getItemK hu (S.keyed hk) (S.dict m) hp (h _ (S.toks _))
theorem putS {Q : Unit → Shared → Prop} (S : St B fs l s) (u : Upd l (d, dictC knd B xs) (d, dictC knd B (putK xs k key v)) l') (hu : A.units + 1 < cLine) (hk : knd.is B.heap k key) (h : ∀ s', St B fs l' s' → Q () s') (hsz : xs.length ≤ sizeLine) :
    wpAny (model prog w) A (setItem (.ref d) key v) Q E s :=
  setItemK hu (S.keyed hk) (S.dict u.mem) (fun h' hm hs => h _ (S.setDict u _ hm hs (by
    exact keysPut (S.keys u.mem) hk))) hsz
theorem delS {p : Value × Value} {Q : Unit → Shared → Prop} (S : St B fs l s) (u : Upd l (d, dictC knd B xs) (d, dictC knd B (delK xs k)) l') (hu : A.units + 1 < cLine) (hk : knd.is B.heap k key) (hp : atK xs k = some p) (h : ∀ s', St B fs l' s' → Q () s') (hsz : xs.length ≤ sizeLine) :
    wpAny (model prog w) A (delItem (.ref d) key) Q E s :=
  delItemK hu (S.keyed hk) (S.dict u.mem) hp (fun h' hm hs => h _ (S.setDict u _ hm hs (by
    exact fun x hx => S.keys u.mem x ((List.mem_filter.mp hx).1)))) hsz
end

end
-- M9
section
set_option maxRecDepth 100000
section
variable {prog : Program} {w : World} {A : Around} {E : Value → Shared → Prop} {B : Shared} {fs : List Env} {l : Cells} {s : Shared} {a b : Int} {t u : Tok} {k : Nat} {pos : Pos} {env : Env}
theorem intS {i : Int} {Q : Value → Shared → Prop} (S : St B fs l s) (h : ∀ s' t', St B fs l s' → Q (.int i t') s') : wpAny (model prog w) A (eval (.Constant (.int i) k pos) env) Q E s :=
  wpAny_Constant_int (h _ _ (S.toks _))
theorem addS {Q : Value → Shared → Prop} (S : St B fs l s) (h : ∀ s' t', St B fs l s' → Q (.int (a + b) t') s') : wpAny (model prog w) A (binaryOp .Add (.int a t) (.int b u)) Q E s := P.add_int (h _ _ (S.toks _))
theorem mulS {Q : Value → Shared → Prop} (S : St B fs l s) (hm : IntMulOk a b) (h : ∀ s' t', St B fs l s' → Q (.int (a * b) t') s') : wpAny (model prog w) A (binaryOp .Mult (.int a t) (.int b u)) Q E s := P.mul_int (h _ _ (S.toks _)) hm
theorem subS {Q : Value → Shared → Prop} (S : St B fs l s) (h : ∀ s' t', St B fs l s' → Q (.int (a - b) t') s') : wpAny (model prog w) A (binaryOp .Sub (.int a t) (.int b u)) Q E s := P.sub_int (h _ _ (S.toks _))
theorem iaddS {Q : Value → Shared → Prop} (S : St B fs l s) (h : ∀ s' t', St B fs l s' → Q (.int (a + b) t') s') : wpAny (model prog w) A (inplaceOp .Add (.int a t) (.int b u)) Q E s := P.iadd_int (h _ _ (S.toks _))
theorem isubS {Q : Value → Shared → Prop} (S : St B fs l s) (h : ∀ s' t', St B fs l s' → Q (.int (a - b) t') s') : wpAny (model prog w) A (inplaceOp .Sub (.int a t) (.int b u)) Q E s := P.isub_int (h _ _ (S.toks _))
end

end
local macro_rules | `(tactic| walk_at "m_fact") => `(tactic| kernel_rfl)
section
set_option maxRecDepth 100000

end
local macro_rules | `(tactic| walk_at "m_wk1") => `(tactic| first
  | ((with_reducible show wpAny _ _ (eval _ _) _ _ _); first
      | ((with_reducible show wpAny _ _ (eval (Expr.Compare _ [_] [_] _) _) _ _ _); refine wpAny_Compare1 ?_)
      | ((with_reducible show wpAny _ _ (eval (Expr.BinOp _ _ _ _) _) _ _ _); refine wpAny_BinOp ?_)
      | ((with_reducible show wpAny _ _ (eval (Expr.UnaryOp _ _ _) _) _ _ _); refine wpAny_UnaryOp ?_)
      | ((with_reducible show wpAny _ _ (eval (Expr.Name _ _) _) _ _ _); refine ldS (by assumption) (by walk_at "m_mem") (by walk_at "m_mem") ?_)
      | ((with_reducible show wpAny _ _ (eval (Expr.Name _ _) _) _ _ _); refine ldG (by assumption) (by assumption) (by kernel_rfl) ?_)
      | ((with_reducible show wpAny _ _ (eval (Expr.Constant Const.none _ _) _) _ _ _); refine wpAny_Constant_none ?_)
      | ((with_reducible show wpAny _ _ (eval (Expr.Constant (Const.bool _) _ _) _) _ _ _); refine wpAny_Constant_bool ?_)
      | ((with_reducible show wpAny _ _ (eval (Expr.Constant (Const.int _) _ _) _) _ _ _); refine intS (by assumption) fun s' t' S' => ?_)
      | ((with_reducible show wpAny _ _ (eval (Expr.Attribute _ _ _) _) _ _ _); refine Attribute_any_ ?_))
  | ((with_reducible show wpAny _ _ (getAttr _ _ _) _ _ _); first
      | refine getOwn (by assumption) (by assumption) (by walk_at "m_mem") (by walk_at "m_mem") (by walk_at "m_mem") (by walk_at "m_fact") (by rfl) fun s' S' => ?_
      | refine getCls (by assumption) (by assumption) (by walk_at "m_mem") (by walk_at "m_mem") (by walk_at "m_fact") (fun s' S' => ?_) (by walk_at "m_nin"))
  | ((with_reducible show wpAny _ _ (execs _ _) _ _ _); first
      | ((with_reducible show wpAny _ _ (execs (_ :: _) _) _ _ _); refine wpAny_execs_cons ?_)
      | ((with_reducible show wpAny _ _ (execs [] _) _ _ _); refine wpAny_execs_nil ?_))
  | ((with_reducible show wpAny _ _ (exec _ _) _ _ _); first
      | ((with_reducible show wpAny _ _ (exec (Stmt.Return (some _) _) _) _ _ _); refine wpAny_Return_some ?_)
      | ((with_reducible show wpAny _ _ (exec (Stmt.Return none _) _) _ _ _); refine wpAny_Return_none ?_)
      | ((with_reducible show wpAny _ _ (exec (Stmt.If _ _ _ _) _) _ _ _); refine wpAny_If ?_)
      | ((with_reducible show wpAny _ _ (exec (Stmt.Assign [Expr.Name _ _] _ _) _) _ _ _); refine wpAny_Assign_Name ?_)
      | ((with_reducible show wpAny _ _ (exec (Stmt.Assign [Expr.Attribute _ _ _] _ _) _) _ _ _); refine plainObj_wpAny_Assign_Attribute ?_)
      | ((with_reducible show wpAny _ _ (exec (Stmt.Assign [Expr.Subscript _ _ _] _ _) _) _ _ _); refine wpAny_Assign_Subscript ?_)
      | ((with_reducible show wpAny _ _ (exec (Stmt.AugAssign (Expr.Attribute _ _ _) _ _ _) _) _ _ _); refine wpAny_AugAssign_AttributeAny ?_)
      | ((with_reducible show wpAny _ _ (exec (Stmt.Pass _) _) _ _ _); refine wpAny_Pass ?_)
      | ((with_reducible show wpAny _ _ (exec (Stmt.Delete _ _) _) _ _ _); refine wpAny_Delete ?_)
      | ((with_reducible show wpAny _ _ (exec (Stmt.Expr _ _) _) _ _ _); refine wpAny_Expr_any ?_))
  | ((with_reducible show wpAny _ _ (storeName _ _ _) _ _ _); first
      | refine stS (by assumption) (by walk_at "m_updt") (by walk_at "m_updt") fun s' S' => ?_
      | refine stSnew (by assumption) (by walk_at "m_updt") fun s' S' => ?_)
  | ((with_reducible show wpAny _ _ (isTrue _ _ _) _ _ _); first
      | ((with_reducible show wpAny _ _ (isTrue (Expr.Compare _ [_] [_] _) _ _) _ _ _); refine wpAny_isTrue_Compare1 ?_)
      | ((with_reducible show wpAny _ _ (isTrue (Expr.UnaryOp UnaryOp.Not _ _) _ _) _ _ _); refine wpAny_isTrue_Not ?_)
      | ((with_reducible show wpAny _ _ (isTrue (Expr.BoolOp _ _ _) _ _) _ _ _); refine wpAny_isTrue_BoolOp ?_)
      | ((with_reducible show wpAny _ _ (isTrue (Expr.Name _ _) _ _) _ _ _); refine wpAny_isTrue_value ?_)
      | ((with_reducible show wpAny _ _ (isTrue (Expr.Attribute _ _ _) _ _) _ _ _); refine wpAny_isTrue_value ?_)
      | ((with_reducible show wpAny _ _ (isTrue (Expr.Call _ _ _ _) _ _) _ _ _); refine wpAny_isTrue_value ?_))
  | ((with_reducible show wpAny _ _ (compareOp _ _ _) _ _ _); first
      | ((with_reducible show wpAny _ _ (compareOp CmpOp.Lt (Value.int _ _) (Value.int _ _)) _ _ _); refine P.lt_int ?_)
      | ((with_reducible show wpAny _ _ (compareOp CmpOp.Gt (Value.int _ _) (Value.int _ _)) _ _ _); refine P.gt_int ?_)
      | ((with_reducible show wpAny _ _ (compareOp CmpOp.Eq (Value.int _ _) (Value.int _ _)) _ _ _); refine P.eq_int ?_)
      | ((with_reducible show wpAny _ _ (compareOp CmpOp.NotEq (Value.int _ _) (Value.int _ _)) _ _ _); refine P.ne_int ?_)
      | ((with_reducible show wpAny _ _ (compareOp CmpOp.Is _ Value.none) _ _ _); refine is_none ?_)
      | ((with_reducible show wpAny _ _ (compareOp CmpOp.IsNot _ Value.none) _ _ _); refine isNot_none ?_))
  | ((with_reducible show wpAny _ _ (truthy _) _ _ _); first
      | ((with_reducible show wpAny _ _ (truthy (Value.bool _)) _ _ _); refine wpAny_truthy_bool ?_)
      | ((with_reducible show wpAny _ _ (truthy (Value.int _ _)) _ _ _); refine P.truthy_int ?_))
  | ((with_reducible show wpAny _ _ (setAttr _ _ _) _ _ _); first
      | refine setOwn (by assumption) (by assumption) (by walk_at "m_mem") (by walk_at "m_updt") (by walk_at "m_updt") (by walk_at "m_fact") (fun s' S' => ?_)
      | refine setNew (by assumption) (by assumption) (by walk_at "m_mem") (by walk_at "m_updt") (by walk_at "m_fact") (fun s' S' => ?_) (by walk_at "m_nin"))
  | ((with_reducible show wpAny _ _ (binaryOp _ _ _) _ _ _); first
      | ((with_reducible show wpAny _ _ (binaryOp Operator.Add (Value.int _ _) (Value.int _ _)) _ _ _); refine addS (by assumption) fun s' t' S' => ?_)
      | ((with_reducible show wpAny _ _ (binaryOp Operator.Sub (Value.int _ _) (Value.int _ _)) _ _ _); refine subS (by assumption) fun s' t' S' => ?_))
  | ((with_reducible show wpAny _ _ (inplaceOp _ _ _) _ _ _); first
      | ((with_reducible show wpAny _ _ (inplaceOp Operator.Add (Value.int _ _) (Value.int _ _)) _ _ _); refine iaddS (by assumption) fun s' t' S' => ?_)
      | ((with_reducible show wpAny _ _ (inplaceOp Operator.Sub (Value.int _ _) (Value.int _ _)) _ _ _); refine isubS (by assumption) fun s' t' S' => ?_))
  | ((with_reducible show wpAny _ _ (allTrue _ _ _) _ _ _); first
      | ((with_reducible show wpAny _ _ (allTrue BoolOp.And (_ :: _) _) _ _ _); refine wpAny_allTrue_And_cons ?_)
      | ((with_reducible show wpAny _ _ (allTrue BoolOp.And [] _) _ _ _); refine wpAny_allTrue_And_nil ?_)
      | ((with_reducible show wpAny _ _ (allTrue BoolOp.Or (_ :: _) _) _ _ _); refine wpAny_allTrue_Or_cons ?_)
      | ((with_reducible show wpAny _ _ (allTrue BoolOp.Or [] _) _ _ _); refine wpAny_allTrue_Or_nil ?_))
  | ((with_reducible show wpAny _ _ (deleteEach _ _) _ _ _); first
      | ((with_reducible show wpAny _ _ (deleteEach (_ :: _) _) _ _ _); refine wpAny_deleteEach_cons ?_)
      | ((with_reducible show wpAny _ _ (deleteEach [] _) _ _ _); refine wpAny_deleteEach_nil ?_))
  | ((with_reducible show wpAny _ _ (delete _ _) _ _ _); first
      | ((with_reducible show wpAny _ _ (delete (Expr.Subscript _ _ _) _) _ _ _); refine wpAny_delete_Subscript ?_)))
section
set_option maxRecDepth 100000
end
local macro_rules | `(tactic| walk_at "m_wk") => `(tactic| repeat walk_at "m_wk1")
section
set_option maxRecDepth 100000

end
-- M10
section
set_option maxRecDepth 100000
section
variable {prog : Program} {w : World} {A : Around} {E : Value → Shared → Prop} {s : Shared} {env : Env} {test : Expr} {body : List Stmt} {pos : Pos}
/-- a loop by a measure that goes down, without a break -/
theorem whileS {Q : Flow → Shared → Prop} (I : Nat → Shared → Prop)
    (turn : ∀ n s, I n s → wpAny (model prog w) A (isTrue test env (eval test env)) (fun b s₂ =>
      if b = true then wpAny (model prog w) A (execs body env) (fun f s₃ => match f with
        | .next => ∃ m, m < n ∧ I m s₃
        | .cont => ∃ m, m < n ∧ I m s₃
        | .brk => False
        | .ret v => Q (.ret v) s₃) (fun _ _ => False) s₂ else Q .next s₂) (fun _ _ => False) s)
    (n : Nat) (h : I n s) : wpAny (model prog w) A (exec (.While test body [] pos) env) Q E s := by
  refine wpAny_While (codeAny_whileLoop I (fun n s hI => wpAny_mono (turn n s hI) (fun b s₂ hb => ?_) fun _ _ x => x.elim) n h)
  cases b with
  | true =>
    rw [if_pos rfl] at hb
    simp only [if_true]
    refine wpAny_mono hb (fun f s₃ h₃ => ?_) fun _ _ x => x.elim
    cases f with
    | next => exact h₃
    | cont => exact h₃
    | brk => exact h₃.elim
    | ret v => exact h₃
  | false =>
    rw [if_neg (by decide)] at hb
    simp only [Bool.false_eq_true, if_false]
    exact wpAny_execs_nil hb
/-- a loop that is not entered -/
theorem whileNo {Q : Flow → Shared → Prop} (h : wpAny (model prog w) A (isTrue test env (eval test env)) (fun b s₂ => b = false ∧ Q .next s₂) (fun _ _ => False) s) :
    wpAny (model prog w) A (exec (.While test body [] pos) env) Q E s :=
  whileS (fun _ s' => s' = s) (fun n s' e => by subst e; exact wpAny_mono h (fun b s₂ hb => by rw [hb.1, if_neg (by decide)]; exact hb.2) fun _ _ x => x) 0 rfl
/-- a loop of one turn -/
theorem whileOnce {Q : Flow → Shared → Prop} (P : Shared → Prop)
    (h : wpAny (model prog w) A (isTrue test env (eval test env)) (fun b s₂ => b = true ∧ wpAny (model prog w) A (execs body env) (fun f s₃ => f = .next ∧ P s₃) (fun _ _ => False) s₂) (fun _ _ => False) s)
    (h2 : ∀ s', P s' → wpAny (model prog w) A (isTrue test env (eval test env)) (fun b s₂ => b = false ∧ Q .next s₂) (fun _ _ => False) s') :
    wpAny (model prog w) A (exec (.While test body [] pos) env) Q E s := by
  refine whileS (fun n s' => (n = 1 ∧ s' = s) ∨ (n = 0 ∧ P s')) (fun n s' hI => ?_) 1 (.inl ⟨rfl, rfl⟩)
  rcases hI with ⟨rfl, rfl⟩ | ⟨rfl, hP⟩
  · refine wpAny_mono h (fun b s₂ hb => ?_) fun _ _ x => x
    rw [hb.1, if_pos rfl]
    refine wpAny_mono hb.2 (fun f s₃ h₃ => ?_) fun _ _ x => x
    rw [h₃.1]
    exact ⟨0, Nat.one_pos, .inr ⟨rfl, h₃.2⟩⟩
  · exact wpAny_mono (h2 s' hP) (fun b s₂ hb => by rw [hb.1, if_neg (by decide)]; exact hb.2) fun _ _ x => x
end

end
-- M11
section
set_option maxRecDepth 100000
/-- a special method of the class, a plain function -/
def specFn (K : Frag) (C : Addr) (name : Str) (f : Addr) : Bool := findIn K (.ref C) name == some (some (.ref f)) && isFn K (.ref f)
section
variable {prog : Program} {w : World} {M : Model} {A : Around} {E : Value → Shared → Prop} {B : Shared} {fs : List Env} {l l' : Cells} {s : Shared} {K : Frag} {x C d f : Addr} {xs : Names} {v key : Value}
theorem delOwn {Q : Unit → Shared → Prop} (T : Stat K B.heap) (S : St B fs l s) (mi : (x, instC C d) ∈ l) (md : (d, idC xs) ∈ l) (hq : noSeq K C = true) (hs : specFn K C (Str.ofString "__delitem__") f = true)
    (h : wpAny (model prog w) A (call (.ref f) [.ref x, key]) (fun _ s' => Q () s') E s) : wpAny (model prog w) A (delItem (.ref x) key) Q E s := by
  obtain ⟨ox, od, I, _, hid, _⟩ := S.inst mi md
  have X := (S.stat T).X
  unfold specFn isFn at hs
  simp only [Bool.and_eq_true, beq_iff_eq] at hs
  unfold delItem sequenceKey
  refine wpAny_holding (wpAny_bind (wpAny_bind (I.type.here ?_)))
  refine wpAny_bind ((anyM_none X hq).here ?_)
  rw [if_pos (show (!false) = true from rfl)]
  exact wpAny_pure (wpAny_bind (special_fn X I hs.1 hs.2 (wpAny_mono h (fun _ _ z => wpAny_pure z) fun _ _ z => z)))
theorem setOwnItem {Q : Unit → Shared → Prop} (T : Stat K B.heap) (S : St B fs l s) (mi : (x, instC C d) ∈ l) (md : (d, idC xs) ∈ l) (hq : noSeq K C = true) (hs : specFn K C (Str.ofString "__setitem__") f = true)
    (h : wpAny (model prog w) A (call (.ref f) [.ref x, key, v]) (fun _ s' => Q () s') E s) : wpAny (model prog w) A (setItem (.ref x) key v) Q E s := by
  obtain ⟨ox, od, I, _, hid, _⟩ := S.inst mi md
  have X := (S.stat T).X
  unfold specFn isFn at hs
  simp only [Bool.and_eq_true, beq_iff_eq] at hs
  unfold setItem sequenceKey
  refine wpAny_holding (wpAny_bind (wpAny_bind (I.type.here ?_)))
  refine wpAny_bind ((anyM_none X hq).here ?_)
  rw [if_pos (show (!false) = true from rfl)]
  exact wpAny_pure (wpAny_bind (special_fn X I hs.1 hs.2 (wpAny_mono h (fun _ _ z => wpAny_pure z) fun _ _ z => z)))
theorem inOwn {Q : Value → Shared → Prop} (T : Stat K B.heap) (S : St B fs l s) (mi : (x, instC C d) ∈ l) (md : (d, idC xs) ∈ l) (hs : specFn K C (Str.ofString "__contains__") f = true)
    (h : wpAny (model prog w) A (call (.ref f) [.ref x, key]) (fun r s' => wpAny (model prog w) A (truthy r) (fun b => Q (.bool b)) E s') E s) : wpAny (model prog w) A (compareOp .In key (.ref x)) Q E s := by
  obtain ⟨ox, od, I, _, hid, _⟩ := S.inst mi md
  have X := (S.stat T).X
  unfold specFn at hs
  simp only [Bool.and_eq_true, beq_iff_eq] at hs
  refine wpAny_bind ?_
  unfold contains
  refine wpAny_holding (wpAny_bind (wpAny_bind (I.type.here ((looks_findIn X hs.1).here ?_))))
  rw [if_neg (by simp)]
  exact wpAny_bind (unlessNone_K X I hs.1 hs.2 (wpAny_mono h (fun _ _ z => wpAny_mono z (fun _ _ z => wpAny_pure z) fun _ _ z => z) fun _ _ z => z))
end

end
-- M12
section
set_option maxRecDepth 100000
theorem entry_iter : entryFor table "iter" = some Builtin.«iter» := entryFor_of_fast (by kernel_rfl)
theorem entry_next : entryFor table "next" = some Builtin.«next» := entryFor_of_fast (by kernel_rfl)
theorem args_iter (a : Value) : argsOk "iter" ⟨[a], []⟩ := by unfold argsOk; kernel_rfl
theorem args_next (a : Value) : argsOk "next" ⟨[a], []⟩ := by unfold argsOk; kernel_rfl
/-- an iterator over a dict's keys -/
def itC (d : Addr) (i n ep : Nat) : Cell := fun o => o.cls = .type "dict_keyiterator" ∧ o.data = .fields #[.ref d, .int i 0, .int n 0, .int ep 0]
section
variable {prog : Program} {w : World} {A : Around} {E : Value → Shared → Prop} {B : Shared} {fs : List Env} {l l' : Cells} {s : Shared} {K : Type} [DecidableEq K] {knd : AnyKind prog w K}
  {d it : Addr} {xs : List (K × Value × Value)} {key v : Value} {k : K} {i ep : Nat} {p : Value × Value}
def EpochIs (h : Heap) (d : Addr) (ep : Nat) : Prop := ∃ o es, h.get? d = some o ∧ o.data = .dict es ep
theorem iterS {Q : Value → Shared → Prop} (S : St B fs l s) (m : (d, dictC knd B xs) ∈ l)
    (h : ∀ I s' ep, St B fs ((I, itC d 0 xs.length ep) :: l) s' → EpochIs s'.heap d ep → Q (.ref I) s') : wpAny (model prog w) A (call (.builtin "iter") [.ref d]) Q E s := by
  obtain ⟨o, es, ep, ho, hc, hdat, he, his, hn⟩ := S.dict m
  have hT : s.TypeIs (.ref d) "dict" := ⟨o, ho, hc.1⟩
  refine call_function_entry (by decide +kernel) (by decide +kernel) entry_iter (args_iter _) ?_
  unfold Builtin.«iter»
  refine wpAny_bind (m := someArgs "iter" 1 2 _) (wpAny_of_eq (a := [Value.ref d]) (by first | rfl | kernel_rfl!) ?_)
  show wpAny _ _ (pyIter (.ref d) >>= _) _ _ _
  refine wpAny_bind (wpAny_pyIter_slot hT PySem.F.slot_dict_iter (wpAny_call_entry PySem.F.slot_dict_iter hT PySem.F.entry_dict_iter ?_ (PySem.F.args_dict_iter_1 _)))
  unfold Builtin.«dict.__iter__»
  refine wpAny_bind ?_
  unfold Builtin.Dict.dictSlotNone
  refine wpAny_bind (wpAny_notOrdered_dict hT ?_)
  show wpAny _ _ (pure (Value.ref d)) _ _ s
  refine wpAny_pure ?_
  show wpAny _ _ (Builtin.Dict.showsAll d >>= _) _ _ s
  unfold Builtin.Dict.showsAll
  rw [if_neg (by rw [S.notMods m]; exact Bool.false_ne_true)]
  refine wpAny_bind (wpAny_pure ?_)
  refine wpAny_bind (wpAny_dictEntries ho hdat ?_)
  refine wpAny_bind (wpAny_dictEpoch ho hdat ?_)
  refine wpAny_bind (wpAny_newObj_type (wpAny_pure ⟨_, rfl, "dict_keyiterator", _, ⟨_, Heap.get?_push_size _ rfl, rfl⟩, PySem.F.slot_dict_keyiterator_next.lookup, ?_⟩))
  refine wpAny_pure ⟨_, rfl, h s.heap.objs.size _ ep (S.push (c := itC d 0 xs.length ep) ⟨rfl, by simp [rawInt, entK_size he]⟩ s.toks) ⟨o, es, Heap.get?_push_of_some _ ho, hdat⟩⟩

theorem nextS {Q : Value → Shared → Prop} (S : St B fs l s) (m : (d, dictC knd B xs) ∈ l) (u : Upd l (it, itC d i xs.length ep) (it, itC d (i + 1) xs.length ep) l') (he : EpochIs s.heap d ep) (hx : xs[i]? = some (k, p))
    (h : ∀ s', St B fs l' s' → EpochIs s'.heap d ep → Q p.1 s') : wpAny (model prog w) A (call (.builtin "next") [.ref it]) Q E s := by
  obtain ⟨io, hio, hcl, hdt⟩ := S.has _ u.mem
  have hitT : s.TypeIs (.ref it) "dict_keyiterator" := ⟨io, hio, hcl⟩
  obtain ⟨o, es, ep', hod, hc, hdd, hes, his, hn⟩ := S.dict m
  obtain ⟨o2, es2, ho2, hd2⟩ := he
  obtain rfl : o = o2 := by rw [hod] at ho2; exact Option.some.inj ho2
  obtain ⟨rfl, rfl⟩ : es2 = es ∧ ep' = ep := by rw [hdd] at hd2; cases hd2; exact ⟨rfl, rfl⟩
  refine call_function_entry (by decide +kernel) (by decide +kernel) entry_next (args_next _) ?_
  unfold Builtin.«next»
  refine wpAny_bind (m := someArgs "next" 1 2 _) (wpAny_of_eq (a := [Value.ref it]) (by first | rfl | kernel_rfl!) ?_)
  dsimp only
  refine wpAny_bind (wpAny_specialOf (name := Str.ofString "__next__") hitT PySem.F.slot_dict_keyiterator_next.lookup ?_)
  rw [if_neg (by decide)]
  refine wpAny_bind (wpAny_callSpecial?_slot (name := Str.ofString "__next__") hitT PySem.F.slot_dict_keyiterator_next
    (wpAny_call_entry PySem.F.slot_dict_keyiterator_next hitT PySem.F.entry_dict_keyiterator_next ?_ (PySem.F.args_dict_keyiterator_next_1 _)))
  refine wpAny_bind (wpAny_pure ?_)
  refine wpAny_bind ?_
  refine wpAny_bind ?_
  first | refine wpAny_bind (wpAny_typeNameOfWhole_keyiter hitT (wpAny_pure ?_)) | refine wpAny_bind (wpAny_typeNameOf_keyiter hitT (wpAny_pure ?_))
  refine wpAny_bind (wpAny_fieldsOf hio hdt ?_)
  have hown : Builtin.Dict_items.ownsTuple "dict_keyiterator" = false := by decide
  simp only [hown, Bool.false_eq_true, if_false]
  show wpAny _ _ (if (Value.ref d == Value.none) = true then _ else _) _ _ s
  rw [if_neg (show ¬ ((Value.ref d == Value.none) = true) from Bool.false_ne_true)]
  refine wpAny_bind (wpAny_pure ?_)
  refine wpAny_bind (wpAny_dictEntries hod hdd ?_)
  have hsz : es2.size = xs.length := entK_size hes
  rw [if_neg (by rw [hsz]; simp)]
  refine wpAny_bind (wpAny_pure ?_)
  refine wpAny_bind (wpAny_dictEpoch hod hdd ?_)
  rw [if_neg (by simp)]
  refine wpAny_pure ?_
  have hlt : i < xs.length := (List.getElem?_eq_some_iff.mp hx).1
  have hlt' : i < es2.size := by rw [hsz]; exact hlt
  have hkey : es2[i].key = p.1 := by
    have := entK_at hes i
    rw [hx, Array.getElem?_eq_getElem hlt'] at this
    have := Option.some.inj this
    rw [this]; rfl
  simp only [show ¬ ((i : Int) < 0) from by omega, if_false, Int.toNat_natCast, Array.getElem?_eq_getElem hlt']
  refine wpAny_bind ?_
  first | refine wpAny_bind (wpAny_typeNameOfWhole_keyiter hitT (wpAny_pure ?_)) | refine wpAny_bind (wpAny_typeNameOf_keyiter hitT (wpAny_pure ?_))
  refine wpAny_bind (wpAny_isOneOf_keyiter hitT ?_)
  show wpAny _ _ (setField (.ref it) 1 (rawInt ((i : Int) + 1)) >>= _) _ _ s
  refine wpAny_bind (wpAny_setField hio hdt (by simp) ?_)
  have hg := Heap.get?_update_self (Obj.mapFields (·.setIfInBounds 1 (rawInt ((i : Int) + 1)))) hio (Obj.isFreed_of_fields (Obj.data_mapFields hdt _))
  have S' := S.set u (h' := s.heap.update it (Obj.mapFields (·.setIfInBounds 1 (rawInt ((i : Int) + 1))))) s.toks (Heap.SameBut.update ..) hg ⟨(Obj.cls_mapFields ..).trans hcl, by rw [Obj.data_mapFields hdt]; simp [rawInt]⟩ (.inr ⟨io, _, hio, hdt⟩) fun _ _ _ h => h
  have hne : d ≠ it := fun e => by subst e; rw [hod] at hio; cases hio; rw [hdd] at hdt; cases hdt
  refine wpAny_bind (wpAny_holding ?_)
  refine wpAny_bind (wpAny_isOneOf_keyiter (s := { s with heap := s.heap.update it (Obj.mapFields (·.setIfInBounds 1 (rawInt ((i : Int) + 1)))) }) ⟨_, hg, (Obj.cls_mapFields ..).trans hcl⟩ ?_)
  show wpAny _ _ (pure es2[i].key) _ _ _
  refine wpAny_pure (wpAny_pure ⟨_, rfl, ?_⟩)
  rw [hkey]
  exact wpAny_pure ⟨_, rfl, h _ S' ⟨o, es2, (Heap.SameBut.update s.heap it _).2 d hne |>.trans hod, hdd⟩⟩
end

end
-- M13
section
set_option maxRecDepth 100000
section
variable {prog : Program} {w : World} {A : Around} {E : Value → Shared → Prop} {B : Shared} {fs : List Env} {l l' : Cells} {s : Shared} {K : Type} [DecidableEq K] {knd : AnyKind prog w K}
  {d : Addr} {xs : List (K × Value × Value)} {key v : Value} {k : K} {p : Value × Value} {pl : Sem Bool}
theorem dictPopM {Q : Value × List Value → Shared → Prop} (S : St B fs l s) (m : (d, dictC knd B xs) ∈ l) (h : Q (.builtin "dict.pop", [.ref d]) s) : wpAny (model prog w) A (getMethod (.ref d) (Str.ofString "pop") pl) Q E s := by
  obtain ⟨o, es, ep, ho, hc, _⟩ := S.dict m
  exact getMethod_builtin ⟨o, ho, hc.1⟩ PySem.F.plainAttrs_dict PySem.F.slot_dict_pop PySem.F.type_dict_pop (fun a e => by cases e; exact ⟨o, ho, hc.2.1⟩) h
theorem popS {Q : Value → Shared → Prop} (S : St B fs l s) (u : Upd l (d, dictC knd B xs) (d, dictC knd B (delK xs k)) l') (hu : A.units + 1 < cLine) (hk : knd.is B.heap k key) (hp : atK xs k = some p) (h : ∀ s', St B fs l' s' → Q p.2 s') (hsz : xs.length ≤ sizeLine) :
    wpAny (model prog w) A (call (.builtin "dict.pop") [.ref d, key]) Q E s :=
  popK hu (S.keyed hk) (S.dict u.mem) hp (fun h' hm hs => h _ (S.setDict u _ hm hs (fun x hx => S.keys u.mem x (List.mem_filter.mp hx).1))) hsz
/-- a builtin's method called with arguments -/
theorem callB {M : Model} {env : Env} {pos : Pos} {id : String} {first : List Value} {e : Expr} {rest : List Expr} {Q : Value → Shared → Prop}
    (h : wpAny M A (spliced (backTo pos (starEach (e :: rest) env))) (fun vs s₁ => wpAny M A (call (.builtin id) (first ++ vs)) Q E s₁) E s)
    (he : starEach (e :: rest) env = (false, eval e env) :: starEach rest env := by rfl) (hplain : (backTo pos (starEach rest env)).any (·.1) = false := by rfl) :
    wpAny M A (callWith pos (.builtin id) first (backTo pos (starEach (e :: rest) env)) []) Q E s := by
  rw [he] at h ⊢
  exact callWith_builtin (by show (false || (backTo pos (starEach rest env)).any (·.1)) = false; rw [hplain]; rfl) (evalArgs_plain h)
end

end
-- M14
section
set_option maxRecDepth 100000
/-- a staticmethod of the class, met through an instance -/
def statName (K : Frag) (C : Addr) (name : Str) (f : Addr) : Bool :=
  findIn K (.ref C) "__getattribute__" == some (some (.builtin "object.__getattribute__")) && findIn K (.ref C) "__getattr__" == some none && hasDictIn K C && !copiedNames.contains name &&
  (findIn K (.ref C) name).any fun a => match a with
    | some (.ref p) => specialIn K (.ref p) "__get__" == some (some (.builtin "staticmethod.__get__")) && takesIn K (.ref p) == some false && (recIn K p "staticmethod").any fun vs => vs.head? == some (.ref f)
    | _ => false
section
variable {prog : Program} {w : World} {A : Around} {E : Value → Shared → Prop} {B : Shared} {fs : List Env} {l l' : Cells} {s : Shared} {K : Frag} {x C d f : Addr} {xs xs' : Names} {name : Str} {expr : Bool}
theorem getStat {Q : Value → Shared → Prop} (T : Stat K B.heap) (S : St B fs l s) (mi : (x, instC C d) ∈ l) (md : (d, idC xs) ∈ l) (hn : statName K C name f = true) (h : ∀ s', St B fs l s' → Q (.ref f) s') (mv : name ∉ xs.map (·.1) := by simp only [List.map_cons, List.map_nil]; decide +kernel) :
    wpAny (model prog w) A (getAttr (.ref x) name expr) Q E s := by
  obtain ⟨ox, od, I, _, hid, _⟩ := S.inst mi md
  have X := (S.stat T).X
  unfold statName at hn
  simp only [Bool.and_eq_true, beq_iff_eq, Bool.not_eq_true'] at hn
  obtain ⟨⟨⟨⟨h1, h2⟩, h3⟩, h4⟩, h5⟩ := hn
  obtain ⟨a, h6, h7⟩ := any_some h5
  split at h7
  · rename_i p
    simp only [Bool.and_eq_true, beq_iff_eq] at h7
    obtain ⟨⟨h8, h9⟩, h10⟩ := h7
    obtain ⟨vs, h11, h12⟩ := any_some h10
    cases vs with
    | nil => cases h12
    | cons y r =>
      obtain rfl : y = .ref f := by simpa using h12
      obtain ⟨cd, hc, hd⟩ := any_some h3
      have ho : PySem.W.ownOf cd (some od) name = some none := by unfold PySem.W.ownOf; rw [if_pos hd]; show lookIn name od = _; rw [lookIn_id hid, lookup_none mv]
      have hf : findObj K C (some od) name = some (.bind (.builtin "staticmethod.__get__") (.ref p)) := by
        unfold findObj
        rw [hc, Option.bind_some, h6, Option.bind_some]
        simp only [h8, h9, ho, h4, Option.bind_some, Bool.false_and, Bool.false_eq_true, if_false]
      refine get_bind X I h1 hf h2 (wpAny_call (sm_get (s := { s with toks := s.toks + 1 }) X h11 ?_))
      exact handed_on rfl (h _ (S.toks _))
  · cases h7
end

end
-- M15
section
set_option maxRecDepth 100000

theorem frames_of {h base : Heap} : ∀ {l : List Env}, h.FunFrames base l → ∀ env ∈ l, ∃ L, env.frame = some L ∧ L ∈ l.filterMap (·.frame)
  | [], _, _, hm => nomatch hm
  | e :: r, ⟨_, ⟨L, o, hf, _⟩, hr⟩, env, hm => by
    rw [List.filterMap_cons, hf]
    rcases List.mem_cons.mp hm with rfl | hm
    · exact ⟨L, hf, List.mem_cons_self⟩
    · obtain ⟨L', h1, h2⟩ := frames_of hr env hm
      exact ⟨L', h1, List.mem_cons_of_mem _ h2⟩
theorem funFrames_other {h base base' : Heap} : ∀ {l : List Env}, h.FunFrames base l → (∀ a ∈ l.filterMap (·.frame), base'.get? a = none) → h.FunFrames base' l
  | [], _, _ => trivial
  | _ :: _, ⟨hk, ⟨L, o, hf, hn, ho, hd⟩, hr⟩, hb => by
    rw [List.filterMap_cons, hf] at hb
    exact ⟨hk, ⟨L, o, hf, hb L List.mem_cons_self, ho, hd⟩, funFrames_other hr fun a ha => hb a (List.mem_cons_of_mem _ ha)⟩

section
variable {prog : Program} {w : World} {A : Around} {B : Shared} {fs : List Env} {l : Cells} {s : Shared} {env : Env} {e : Addr} {h' : Heap} {t' : Nat} {X : String} {t : Expr} {b₀ : Stmt} {suite : List Stmt} {pos : Pos} {rest : List ExceptHandler} {Q : Flow → Shared → Prop}
/-- a built-in exception that came up in this very frame is caught by its first clause -/
theorem caughtS (S : St B (env :: fs) l s) (hfr : A.frames = some (env :: fs)) (hne : Heap.NewExc s.heap h' e X)
    (hexc : isSubtype (.type X) (.type "BaseException") = pure true) (hnt : isSubtype (.type ((Manifest.find? X).elim "type" fun y => y.metatype)) (.type "tuple") = pure false) (hsub : isSubtype (.type X) (.type X) = pure true)
    (hname : ∀ s' (Q' : Value → Shared → Prop), St B (env :: fs) l s' → Q' (.type X) s' → wpAny (model prog w) (A.mark (some (.ref e))) (eval t env) Q' (fun _ _ => False) s')
    (k : ∀ s', St B (env :: fs) l s' → wpAny (model prog w) (A.mark (some (.ref e))) (execs (b₀ :: suite) env) Q (fun _ _ => False) s') {E : Value → Shared → Prop} :
    wpAny (model prog w) A (noteFrame (.ref e) env) (fun _ s₂ => wpAny (model prog w) A (setFlight (.ref e) none) (fun _ s₃ =>
        wpAny (model prog w) A (handleBy (.ref e) env (.ExceptHandler (some t) none (b₀ :: suite) pos :: rest)) Q E s₃) E s₂) E { s with heap := h', toks := t' } := by
  obtain ⟨hkeep, hnew, ob, tt, he, hcls, hd⟩ := hne
  let F := (env :: fs).filterMap (·.frame)
  have nF : e ∉ F := fun hm => by
    obtain ⟨_, o, ho, _⟩ := S.frames.mem hm
    rw [hnew] at ho; cases ho
  let base := hideAll s.heap F
  have hb0 : ∀ a ∈ F, base.get? a = none := fun a ha => hideAll_none F ha
  have hbs : base.StaysIn h' := fun b o ho => hkeep b o (of_hideAll F ho)
  have hbe : base.get? e = none := by
    cases q : base.get? e with
    | none => rfl
    | some o => have := of_hideAll F q; rw [hnew] at this; cases this
  have S' := S.keeps t' hkeep
  have hfl : h'.FunFrames base (env :: fs) := funFrames_other S'.frames hb0
  -- what the later heaps keep
  have fin : ∀ h'', base.StaysIn h'' → h''.FunFrames base (env :: fs) → (∀ b o, h'.get? b = some o → (∀ vs, o.data ≠ .fields vs) → ∃ sl, h''.get? b = some { o with slots := sl }) → ∀ t, St B (env :: fs) l { s with heap := h'', toks := t } := by
    intro h'' k1 k2 k3 t
    refine ⟨fun b o hb => k1 b o (hideAll_get F (S.base b o hb) fun hm => ?_), fun x hx => ?_, S.nd, S.fresh, ?_, S.gens, S.drawn, S.os, S.low, S.big, S.soft⟩
    · have := (S.frames.mem hm).1
      rw [hb] at this; cases this
    · obtain ⟨o, h1, h2⟩ := S.has x hx
      by_cases hm : x.1 ∈ F
      · obtain ⟨_, o', ho', hdat⟩ := S.frames.mem hm
        rw [h1] at ho'; cases ho'
        obtain ⟨sl, hsl⟩ := k3 _ _ (hkeep _ _ h1) hdat
        exact ⟨_, hsl, S.soft x hx hm o sl h2⟩
      · exact ⟨o, k1 _ _ (hideAll_get F h1 hm), h2⟩
    · exact funFrames_other k2 fun a ha => (S.frames.mem ha).1
  obtain ⟨hkd, ⟨L, oL, hL, _⟩, _⟩ := S.frames
  unfold noteFrame
  simp only [hL]
  refine wpAny_bind (wpAny_field he hd (show (#[tt, Value.none, Value.none, Value.none, Value.bool false, Value.none] : Array Value)[1]? = some Value.none from rfl) ?_)
  rw [if_neg (show ¬ ((Value.none != Value.none) = true) from by decide)]
  refine wpAny_mono (wpAny_entryW (s := { s with heap := h', toks := t' }) (e := e) (a0 := tt) hfr hfl hL he hbs hbe hd (by simp) rfl (Q := fun _ s₂ => ∃ h2, s₂ = { s with heap := h2, toks := t' } ∧ Heap.NotedW base (env :: fs) e ob.cls tt (rawInt L) h' h2) fun h2 hN => ⟨h2, rfl, hN⟩) ?_ fun _ _ z => z
  rintro _ s₂ ⟨h2, rfl, k1, k2, k3, k4⟩
  refine wpAny_setFlight_noneW (s := { s with heap := h2, toks := t' }) k1 k2 k3 fun h3 j1 j2 j3 j4 => ?_
  have up3 : ∀ b o, h'.get? b = some o → (∀ vs, o.data ≠ .fields vs) → ∃ sl, h3.get? b = some { o with slots := sl } := fun b o ho hn => by
    obtain ⟨sl, hs⟩ := k4 b o ho hn
    exact ⟨sl, j4 _ _ hs hn⟩
  refine wpAny_handleBy_builtin (X := X) (T := X) (b := true) hexc hnt hsub (wpAny_mono (hname _ _ (fin h3 j1 j2 up3 t') ?_) (fun _ _ z => z) fun _ _ z => z.elim)
  obtain ⟨oe, ho, hc⟩ := j3.at.there
  refine ⟨rfl, ⟨oe, ho, hc.trans hcls⟩, ?_⟩
  rw [if_pos rfl]
  refine wpAny_setFlight_noneW (s := { s with heap := h3, toks := t' }) j1 j2 j3.at fun h4 i1 i2 i3 i4 => ?_
  refine wpAny_mono (k _ (fin h4 i1 i2 (fun b o ho hn => ?_) t')) (fun _ _ z => z) fun _ _ z => z.elim
  obtain ⟨sl, hs⟩ := up3 b o ho hn
  exact ⟨sl, i4 _ _ hs hn⟩
end

end
-- M16
section
set_option maxRecDepth 100000
open Builtin.ObjectAttr Builtin.Getset_descriptor
/-- an instance of a class with slots -/
def slotC (C d : Addr) (sl : Array (Option Value)) : Cell := fun o => o.cls = .ref C ∧ o.data = .plain ∧ o.dict = some d ∧ o.slots = sl
theorem notSoft_slotC {C d : Addr} {sl : Array (Option Value)} : ∀ o, slotC C d sl o → ¬ Soft (slotC C d sl) := fun o h q => by
  have h1 := (q o (sl.push none) h).2.2.2
  have : (sl.push none).size = sl.size := congrArg Array.size h1
  rw [Array.size_push] at this; omega
def slotName (K : Frag) (C : Addr) (name : Str) (i : Nat) : Bool :=
  plainGet K C name && (clsIn K C).isSome && (findIn K (.ref C) name).any fun a => match a with
    | some (.ref p) => specialIn K (.ref p) "__get__" == some (some (.builtin "member_descriptor.__get__")) && takesIn K (.ref p) == some true && slotIn K p C == some i
    | _ => false
def slotSet (K : Frag) (C : Addr) (name : Str) (i : Nat) : Bool :=
  findIn K (.ref C) "__setattr__" == some (some (.builtin "object.__setattr__")) && plainOver K C && (takerIn K C name).any fun a => match a with
    | some (.ref p) => typeIn K (.ref p) == some (.type "member_descriptor") && slotIn K p C == some i
    | _ => false
def propName (K : Frag) (C : Addr) (name : Str) (f : Addr) : Bool :=
  plainGet K C name && (clsIn K C).isSome && (findIn K (.ref C) name).any fun a => match a with
    | some (.ref p) => specialIn K (.ref p) "__get__" == some (some (.builtin "property.__get__")) && takesIn K (.ref p) == some true && (recIn K p "property").any (fun vs => vs.head? == some (.ref f))
    | _ => false

section
variable {prog : Program} {w : World} {A : Around} {E : Value → Shared → Prop} {B : Shared} {fs : List Env} {cD : Cell} {l l' : Cells} {s : Shared} {K : Frag} {x C d f : Addr} {xs xs' : Names} {name : Str} {v : Value} {sl : Array (Option Value)} {expr : Bool} {i : Nat}
theorem St.slot (S : St B fs l s) (mi : (x, slotC C d sl) ∈ l) (md : (d, cD) ∈ l) : ∃ ox od, InstAt s.heap x ox C (some od) ∧ ox.dict = some d ∧ ox.slots = sl ∧ ox.data = .plain := by
  obtain ⟨ox, hx, h1, h2, h3, h4⟩ := S.has _ mi
  obtain ⟨od, hd, h5⟩ := S.has _ md
  exact ⟨ox, od, ⟨hx, h1, by unfold notCls; rw [h2], by rw [h3]; exact hd⟩, h3, h4, h2⟩
theorem St.instP (S : St B fs l s) (mi : (x, instC C d) ∈ l) (md : (d, cD) ∈ l) : ∃ ox od, InstAt s.heap x ox C (some od) ∧ ox.data = .plain := by
  obtain ⟨ox, hx, h1, h2, h3⟩ := S.has _ mi
  obtain ⟨od, hd, h5⟩ := S.has _ md
  exact ⟨ox, od, ⟨hx, h1, by unfold notCls; rw [h2], by rw [h3]; exact hd⟩, h2⟩

theorem getSlot {Q : Value → Shared → Prop} (T : Stat K B.heap) (S : St B fs l s) (mi : (x, slotC C d sl) ∈ l) (md : (d, cD) ∈ l) (hn : slotName K C name i = true) (hv : (sl[i]?).join = some v) (hh : handedIn v = true)
    (h : ∀ s', St B fs l s' → Q v s') : wpAny (model prog w) A (getAttr (.ref x) name expr) Q E s := by
  obtain ⟨ox, od, I, _, hsl, _⟩ := S.slot mi md
  have X := (S.stat T).X
  unfold slotName at hn
  simp only [Bool.and_eq_true, beq_iff_eq] at hn
  obtain ⟨⟨h1, h2⟩, h3⟩ := hn
  obtain ⟨a, h4, h5⟩ := any_some h3
  split at h5
  · rename_i p
    simp only [Bool.and_eq_true, beq_iff_eq] at h5
    obtain ⟨⟨h6, h7⟩, h8⟩ := h5
    exact get_bind X I (plainGet_of h1).1 (findObj_data h2 h4 h6 h7) (plainGet_of h1).2 (wpAny_call (slot_get (s := { s with toks := s.toks + 1 }) X I h8 (by rw [hsl]; exact hv) (handed_on hh (h _ (S.toks _)))))
  · cases h5

theorem getProp {Q : Value → Shared → Prop} (T : Stat K B.heap) (S : St B fs l s) (mi : (x, instC C d) ∈ l) (md : (d, cD) ∈ l) (hn : propName K C name f = true)
    (h : ∀ s', St B fs l s' → codeAny (model prog w) A.in1 (.call (.ref f) ⟨[.ref x], []⟩) (fun r s' => ∃ v, r = .ok (.ret v) ∧ handedIn v = true ∧ Q v s') s') : wpAny (model prog w) A (getAttr (.ref x) name expr) Q E s := by
  obtain ⟨ox, od, I, _⟩ := S.instP mi md
  have X := (S.stat T).X
  unfold propName at hn
  simp only [Bool.and_eq_true, beq_iff_eq] at hn
  obtain ⟨⟨h1, h2⟩, h3⟩ := hn
  obtain ⟨a, h4, h5⟩ := any_some h3
  split at h5
  · rename_i p
    simp only [Bool.and_eq_true, beq_iff_eq] at h5
    obtain ⟨⟨h6, h7⟩, h8⟩ := h5
    obtain ⟨vs, h9, h10⟩ := any_some h8
    cases vs with
    | nil => cases h10
    | cons y r =>
      obtain rfl : y = .ref f := by simpa using h10
      refine get_bind X I (plainGet_of h1).1 (findObj_data h2 h4 h6 h7) (plainGet_of h1).2 (wpAny_call (prop_get (s := { s with toks := s.toks + 1 }) X h9 (codeAny_mono (h _ (S.toks _)) fun r s' z => ?_)))
      obtain ⟨v, rfl, hh, q⟩ := z
      exact handed_on hh q
  · cases h5

theorem slot_set' {ox : Obj} {od : Option Obj} {p : Addr} {R : Result → Shared → Prop} (X : K.In s.heap) (I : InstAt s.heap x ox C od) (hp : slotIn K p C = some i) (hi : i < 1000)
    (h : R (.ok (.ret .none)) { s with heap := s.heap.update x (fun o => { o with slots := (o.slots ++ Array.replicate (i + 1 - o.slots.size) none).setIfInBounds i (some v) }) }) :
    codeAny (model prog w) A (.call (.builtin "member_descriptor.__set__") ⟨[.ref p, .ref x, v], []⟩) R s := by
  obtain ⟨n, tn, owner, behind, tb, d, sl, cd, ho, hc, hm, hb, rfl⟩ := slot_of X hp
  obtain ⟨hh, g, dr, t, os⟩ := s
  have L0 := I.type (M := model prog w)
  have L1 := looks_mroIn (M := model prog w) X hm
  have L2 : Looks (model prog w) hh (Slots.slotNamesOf (.ref C)) cd.slotNames := (looks_clsIn X hc).andThen .now
  have hx := I.at_
  dsimp only at ho hx L0 L1
  have f0 := looks_field (M := model prog w) ho 0 (v := .str n tn) rfl
  have f1 := looks_field (M := model prog w) ho 1 (v := owner) rfl
  have f3 := looks_field (M := model prog w) ho 3 (v := .builtin "proto.slot#set") rfl
  have f4 := looks_field (M := model prog w) ho 4 (v := .int behind tb) rfl
  refine codeAny_call_builtin KF.slot_mset.plain KF.entry_mset (KF.slot_mset.check _ _ _ _ _ _ _ _ ⟨_, ho, rfl⟩ (KF.args_mset _ _ _) ?_)
  unfold Builtin.«member_descriptor.__set__» descrSet descrStoreThrough descrCheckInstance descrNameAndClass isInstance
  have f5 : Looks (model prog w) hh (descrItself (.ref p)) [.ref p] := ((Looks.ld (part := none) ho).andThen .now).andThen (Looks.of_pure (by kernel_rfl))
  repeat lk
  refine ⟨Code.quiet_builtin _ (by decide +kernel), codeAny_builtin KF.entry_slotset ?_⟩
  unfold Builtin.«proto.slot#set» Slots.target
  repeat lk
  rw [if_neg hb]
  refine wpAny_pure (wpAny_bind ?_)
  unfold setSlotAt
  dsimp only
  rw [if_neg (by rw [sizeLine_eq]; omega)]
  exact wpAny_updatePart hx (wpAny_pure h)

theorem setSlot {Q : Unit → Shared → Prop} {sl' : Array (Option Value)} (T : Stat K B.heap) (S : St B fs l s) (u : Upd l (x, slotC C d sl) (x, slotC C d sl') l') (md : (d, cD) ∈ l) (hn : slotSet K C name i = true)
    (he : (sl ++ Array.replicate (i + 1 - sl.size) none).setIfInBounds i (some v) = sl') (h : ∀ s', St B fs l' s' → Q () s') (hi : i < 1000 := by decide) : wpAny (model prog w) A (setAttr (.ref x) name v) Q E s := by
  obtain ⟨ox, od, I, hdi, hsl, hpl⟩ := S.slot u.mem md
  have X := (S.stat T).X
  unfold slotSet at hn
  simp only [Bool.and_eq_true, beq_iff_eq] at hn
  obtain ⟨⟨h1, h2⟩, h3⟩ := hn
  obtain ⟨a, h4, h5⟩ := any_some h3
  split at h5
  · rename_i p
    simp only [Bool.and_eq_true, beq_iff_eq] at h5
    obtain ⟨h6, h7⟩ := h5
    have hx := I.at_
    refine set_plain X I h1 (osa_descr (s := { s with toks := s.toks + 1 }) KF.slot_mset X I h2 h4 h6 (slot_set' (s := { s with toks := s.toks + 1 }) X I h7 hi (h _ ?_)))
    have hnf : ({ ox with slots := sl' } : Obj).isFreed = false := by
      obtain ⟨c, dd, da, s0⟩ := ox
      dsimp only at hpl
      subst hpl; rfl
    have hup : (s.heap.update x (fun o => { o with slots := (o.slots ++ Array.replicate (i + 1 - o.slots.size) none).setIfInBounds i (some v) })).get? x = some { ox with slots := sl' } := by
      have e : ({ ox with slots := sl' } : Obj) = (fun o : Obj => { o with slots := (o.slots ++ Array.replicate (i + 1 - o.slots.size) none).setIfInBounds i (some v) }) ox := by
        show _ = ({ ox with slots := (ox.slots ++ Array.replicate (i + 1 - ox.slots.size) none).setIfInBounds i (some v) } : Obj)
        rw [hsl, he]
      rw [e] at hnf ⊢
      exact Heap.get?_update_self _ hx hnf
    exact S.set u _ (Heap.SameBut.update ..) hup ⟨I.cls, hpl, hdi, rfl⟩ (.inl fun vs e => by have e : ox.data = .fields vs := e; rw [hpl] at e; cases e)
      fun hm => (notSoft_slotC _ (S.has _ u.mem).choose_spec.2 (S.soft _ u.mem hm)).elim
  · cases h5

/-- a new instance -/
theorem makeS {rest : List Value} {kw : List (Str × Value)} {fI : Addr} {R : Result → Shared → Prop} (c : Addr → Cell) (T : Stat K B.heap) (S : St B fs l s) (hm : makesIn K C = true)
    (hi : findIn K (.ref C) "__init__" = some (some (.ref fI))) (hf : typeIn K (.ref fI) = some (.type "function")) (hc : ∀ dx, c dx (instObj C dx))
    (h : ∀ x dx s', St B fs ((x, c dx) :: (dx, idC []) :: l) s' →
      codeAny (model prog w) (A.under (.builtin "type.__call__" ⟨.ref C :: rest, kw⟩)) (.call (.ref fI) ⟨.ref x :: rest, kw⟩) (InitBack x R) s') :
    codeAny (model prog w) A (.call (.ref C) ⟨rest, kw⟩) R s := by
  have X := (S.stat T).X
  have S1 := S.push (o := emptyDict) (c := idC []) ⟨#[], 0, rfl, fun e he => by simp at he, List.Pairwise.nil, fun y => rfl, List.nodup_nil⟩ s.toks
  have S2 := S1.push (o := instObj C s.heap.objs.size) (c := c s.heap.objs.size) (hc _) s.toks
  rw [Heap.size_push] at S2
  obtain ⟨hh, g, dd, t, os⟩ := s
  exact make_core (makes_of X hm) (looks_findIn X hi) (fun self => bind_fn X self hf) (.inl rfl) (h _ hh.objs.size _ S2)
end

end
-- M17
section
set_option maxRecDepth 100000
open Builtin.ObjectAttr
/-- a name met by the attribute's plain road, called -/
def usualName (K : Frag) (C : Addr) (name : Str) : Bool :=
  findIn K (.ref C) "__getattribute__" == some (some (.builtin "object.__getattribute__")) &&
  ((findIn K (.ref C) "__getattr__").any (·.isSome) || (findIn K (.ref C) "__getattr__" == some none && (findIn K (.ref C) name).any fun r => r.all fun a => (typeIn K a).any fun t => t != .type "function" && t != .type "method_descriptor" && t != .type "wrapper_descriptor"))
section
variable {prog : Program} {w : World} {A : Around} {E : Value → Shared → Prop} {B : Shared} {fs : List Env} {cD : Cell} {l l' : Cells} {s : Shared} {K : Frag} {x C d f : Addr} {xs xs' : Names} {name : Str} {v : Value} {pl : Sem Bool} {env : Env} {pos : Pos}
theorem methUsual {Q : Value × List Value → Shared → Prop} (T : Stat K B.heap) (S : St B fs l s) (mi : (x, instC C d) ∈ l) (md : (d, cD) ∈ l) (hm : usualName K C name = true)
    (h : wpAny (model prog w) A (getAttr (.ref x) name) (fun v => Q (v, [])) E s) : wpAny (model prog w) A (getMethod (.ref x) name pl) Q E s := by
  obtain ⟨ox, od, I, _⟩ := S.instP mi md
  have X := (S.stat T).X
  unfold usualName at hm
  rw [Bool.and_eq_true, Bool.or_eq_true, beq_iff_eq] at hm
  obtain ⟨h1, h2⟩ := hm
  rcases h2 with h2 | h2
  · have hcan := PySem.F.canon_object_ga
    obtain ⟨g, h3, h4⟩ := any_some h2
    unfold getMethod specialOf
    refine wpAny_bind (wpAny_bind (I.type.here ((looks_findIn X h1).here ?_)))
    dsimp only
    rw [hcan, if_neg (by decide)]
    refine wpAny_bind (wpAny_bind (I.type.here ((looks_findIn X h3).here ?_)))
    rw [if_pos h4]
    exact wpAny_bind (wpAny_mono h (fun _ _ z => wpAny_pure z) fun _ _ z => z)
  · rw [Bool.and_eq_true, beq_iff_eq] at h2
    obtain ⟨r, h4, h5⟩ := any_some h2.2
    exact method_usual X I h1 h2.1 h4 h5 h

/-- what a function's call leaves, as a value -/
def Back (Q : Value → Shared → Prop) (E : Value → Shared → Prop) : Result → Shared → Prop := fun r s' => match r with
  | .ok (.ret v) => Q v s'
  | .ok _ => False
  | .error e => E e s'

theorem callInst0 {Q : Value → Shared → Prop} (T : Stat K B.heap) (S : St B fs l s) (mi : (x, instC C d) ∈ l) (md : (d, cD) ∈ l) (hs : specFn K C (Str.ofString "__call__") f = true) (hfn : fnIn K f = true)
    (h : codeAny (model prog w) A (.call (.ref f) ⟨[.ref x], []⟩) (Back Q E) s) : wpAny (model prog w) A (callWith pos (.ref x) [] (backTo pos (starEach [] env)) []) Q E s := by
  obtain ⟨ox, od, I, hp⟩ := S.instP mi md
  have X := (S.stat T).X
  unfold specFn at hs
  simp only [Bool.and_eq_true, beq_iff_eq] at hs
  exact kco_callWith0 X I hp hs.1 (wpAny_call (kco_code X I hp hs.1 hs.2 hfn h))

theorem withIn {Q : Flow → Shared → Prop} {fe fx : Addr} {y : Str} {py : Pos} {body : List Stmt} (T : Stat K B.heap) (S : St B fs l s) (mi : (x, instC C d) ∈ l) (md : (d, cD) ∈ l) (he : specFn K C (Str.ofString "__enter__") fe = true) (hx : specFn K C (Str.ofString "__exit__") fx = true)
    (h : wpAny (model prog w) A (call (.ref fe) [.ref x]) (fun v s₂ => wpAny (model prog w) A (storeName env y v) (fun _ s₃ => wpAny (model prog w) A (execs body env) (fun f s₄ => wpAny (model prog w) A (call (.ref fx) [.ref x, .none, .none, .none]) (fun _ s₅ => Q f s₅) E s₄) (fun _ _ => False) s₃) (fun _ _ => False) s₂) E s) :
    KwIn prog w A E env pos (some y) py body Q (.ref x) s := by
  obtain ⟨ox, od, I, _⟩ := S.instP mi md
  unfold specFn at he hx
  simp only [Bool.and_eq_true, beq_iff_eq] at he hx
  exact kw_core (b := assign (.Name y py) env) (S.stat T).X I he.1 he.2 hx.1 hx.2 (wpAny_mono h (fun _ _ z => wpAny_assign_Name z) fun _ _ z => z)
theorem withIn0 {Q : Flow → Shared → Prop} {fe fx : Addr} {py : Pos} {body : List Stmt} (T : Stat K B.heap) (S : St B fs l s) (mi : (x, instC C d) ∈ l) (md : (d, cD) ∈ l) (he : specFn K C (Str.ofString "__enter__") fe = true) (hx : specFn K C (Str.ofString "__exit__") fx = true)
    (h : wpAny (model prog w) A (call (.ref fe) [.ref x]) (fun _ s₂ => wpAny (model prog w) A (execs body env) (fun f s₄ => wpAny (model prog w) A (call (.ref fx) [.ref x, .none, .none, .none]) (fun _ s₅ => Q f s₅) E s₄) (fun _ _ => False) s₂) E s) :
    KwIn prog w A E env pos none py body Q (.ref x) s := by
  obtain ⟨ox, od, I, _⟩ := S.instP mi md
  unfold specFn at he hx
  simp only [Bool.and_eq_true, beq_iff_eq] at he hx
  exact kw_core0 (S.stat T).X I he.1 he.2 hx.1 hx.2 h
end

/-! a def that takes what is left into a tuple -/
def BindsStar (s : Shared) (fd : FuncData) (args : Args) (binds : Addr → List (Str × Value)) (rest : List Value) : Prop :=
  ∀ (M : Model) (A : Around) (E : Value → Shared → Prop) (Q : List (Str × Value) → Shared → Prop), Q (binds s.heap.objs.size) { s with heap := s.heap.push { cls := .type "tuple", data := .seq rest.toArray } } → wpAny M A (bindArgs fd args) Q E s
section
variable {prog : Program} {w : World} {A : Around} {B : Shared} {fs : List Env} {cD : Cell} {l : Cells} {s : Shared} {K : Frag} {f : Addr} {fd : FuncData} {body : List Stmt} {args : Args} {R : Result → Shared → Prop} {n : Nat}
theorem callStar {binds : Addr → List (Str × Value)} {rest : List Value} {locs : Addr → Names} {names : List Str} (F : FnOk K f fd body) (T : Stat K B.heap) (S : St B fs l s) (r : Room (n + 1) fs A) (hb : BindsStar s fd args binds rest)
    (hnames : ∀ t, (binds t).map (·.1) = names) (hlocs : ∀ t, (binds t).reverse = locs t) (hloc : (names.all fun x => fd.scope.names.lookup x == some .local && !(x == ("__debug__" : Str))) = true) (hnd : names.Nodup) (hgen : fd.scope.isGenerator = false)
    (h : ∀ t L s', Room n (fnEnv fd L f :: fs) (A.deeper (fnEnv fd L f)) → St B (fnEnv fd L f :: fs) ((L, nsC fd.scope (locs t)) :: (t, objC { cls := .type "tuple", data := .seq rest.toArray }) :: l) s' →
      wpAny (model prog w) (A.deeper (fnEnv fd L f)) (execs body (fnEnv fd L f)) (fun fl s' => R (.ok (.ret (match fl with | .ret v => v | _ => .none))) s') (fun _ _ => False) s') :
    codeAny (model prog w) A (.call (.ref f) args) R s := by
  have S1 := S.push (o := { cls := .type "tuple", data := .seq rest.toArray }) (c := objC { cls := .type "tuple", data := .seq rest.toArray }) rfl s.toks
  have T' := S1.stat T
  obtain ⟨o, ho, hd⟩ := Option.map_eq_some_iff.mp F.at_
  have env : ∀ L, callEnv fd L f = fnEnv fd L f := fun L => by
    unfold callEnv fnEnv envOf newEnv
    rw [F.glob, F.clos, F.blt]
  have hl : ∀ p ∈ binds s.heap.objs.size, fd.scope.names.lookup p.1 = some .local ∧ (p.1 == ("__debug__" : Str)) = false := fun p hp => by
    have := List.all_eq_true.mp hloc p.1 (by rw [← hnames s.heap.objs.size]; exact List.mem_map.mpr ⟨p, hp, rfl⟩)
    simpa using this
  have nd : ((binds s.heap.objs.size).map (·.1)).Nodup := by rw [hnames]; exact hnd
  refine codeAny_call_function r.room ((S.stat T).X _ _ ho) hd F.co hgen F.body_ (codeRec_of (S.stat T).X F.code) (hb _ _ _ _ ?_)
  refine wpAny_newFunctionEnv F.cell (fun x hx => (hl x hx).1) (fun h₀ hns hsb => ⟨T'.lim.fresh _ hsb, codeAny_func ?_⟩) F.kind
  have hk : ∀ b o, (s.heap.push { cls := .type "tuple", data := .seq rest.toArray }).get? b = some o → h₀.get? b = some o := fun b o e => hsb.extBut b o (Nat.ne_of_lt (Heap.lt_size e)) (Heap.get?_push_of_some _ e)
  have := h s.heap.objs.size (s.heap.push { cls := .type "tuple", data := .seq rest.toArray }).objs.size { s with heap := h₀, toks := s.toks + (binds s.heap.objs.size).length } r.deeper ?_
  · rw [← env] at this
    exact wpAny_mono this (fun _ _ x => x) (fun _ _ x => x.elim)
  obtain ⟨oL, es, ep, hL, h1, h2, h3⟩ := hns
  have S2 := S1.grow (a := (s.heap.push { cls := .type "tuple", data := .seq rest.toArray }).objs.size) (o := oL) (c := nsC fd.scope (locs s.heap.objs.size)) (s.toks + (binds s.heap.objs.size).length) hk (Heap.get?_none_of_le (Nat.le_refl _)) S1.none_at S1.size hL
    ⟨⟨es, ep, h1, h2, by rw [← hlocs]; exact h3⟩, by rw [← hlocs, List.map_reverse]; exact (List.reverse_perm _).nodup_iff.mpr nd, F.kind, fun p hp => hl p (by rw [← hlocs] at hp; exact List.mem_reverse.mp hp)⟩
  refine ⟨S2.base, S2.has, S2.nd, S2.fresh, ?_, S2.gens, S2.drawn, S2.os, S2.low, S2.big, fun x hx hm => ?_⟩
  · exact ⟨by show fd.scope.kind ≠ _; rw [F.kind]; decide, ⟨_, oL, rfl, S1.none_at, hL, fun vs q => by rw [h1] at q; cases q⟩, S2.frames⟩
  · rcases List.mem_cons.mp hx with rfl | hx'
    · exact soft_nsC
    · rw [List.filterMap_cons] at hm
      rcases List.mem_cons.mp (show x.1 ∈ (s.heap.push { cls := .type "tuple", data := .seq rest.toArray }).objs.size :: _ from hm) with e | hm
      · have := S1.lt hx'
        rw [e] at this; exact absurd this (Nat.lt_irrefl _)
      · exact S1.soft x hx' hm
end

end
-- M18
section
set_option maxRecDepth 100000
/-- a list -/
def listC (vs : List Value) : Cell := fun o => o.cls = .type "list" ∧ o.dict = none ∧ ∃ n, o.data = .seq vs.toArray n
theorem soft_listC {vs : List Value} : Soft (listC vs) := fun _ _ h => h
theorem soft_objC_seq {c : Cell} : (∀ o, c o → c o) := fun _ h => h
theorem args_dict_get2 (a b : Value) : argsOk "dict.get" ⟨[a, b], []⟩ := by unfold argsOk; kernel_rfl
theorem args_dict_len1 (a : Value) : argsOk "dict.__len__" ⟨[a], []⟩ := by unfold argsOk; kernel_rfl
section
variable {prog : Program} {w : World} {A : Around} {E : Value → Shared → Prop} {B : Shared} {fs : List Env} {cD : Cell} {l l' : Cells} {s : Shared} {K : Type} [DecidableEq K] {knd : AnyKind prog w K}
  {d : Addr} {xs : List (K × Value × Value)} {key v : Value} {k : K} {p : Value × Value} {pl : Sem Bool}
theorem dictGetM {Q : Value × List Value → Shared → Prop} (S : St B fs l s) (m : (d, dictC knd B xs) ∈ l) (h : Q (.builtin "dict.get", [.ref d]) s) : wpAny (model prog w) A (getMethod (.ref d) (Str.ofString "get") pl) Q E s := by
  obtain ⟨o, es, ep, ho, hc, _⟩ := S.dict m
  exact getMethod_builtin ⟨o, ho, hc.1⟩ PySem.F.plainAttrs_dict PySem.F.slot_dict_get PySem.F.type_dict_get (fun a e => by cases e; exact ⟨o, ho, hc.2.1⟩) h
theorem dgetS {Q : Value → Shared → Prop} (S : St B fs l s) (m : (d, dictC knd B xs) ∈ l) (hu : A.units + 1 < cLine) (hk : knd.is B.heap k key) (h : ∀ s', St B fs l s' → Q (((atK xs k).map (·.2)).getD .none) s') :
    wpAny (model prog w) A (call (.builtin "dict.get") [.ref d, key]) Q E s := by
  have hm := S.dict m
  refine wpAny_call_entry PySem.F.slot_dict_get hm.typeIs PySem.F.entry_dict_get ?_ (args_dict_get2 _ _)
  show wpAny _ _ (dictGet d key >>= _) _ _ s
  refine wpAny_bind (dictGetK (by simpa using hu) (S.keyed hk) hm ?_)
  have h := h _ (S.toks (s.toks + knd.draws k))
  cases hf : (atK xs k).map (·.2) with
  | some v =>
    rw [hf] at h
    exact wpAny_pure ⟨v, rfl, h⟩
  | none =>
    rw [hf] at h
    show wpAny _ _ (Builtin.Dict.missed d key >>= _) _ _ _
    exact wpAny_bind (wpAny_missed_other (S.notMods m) (wpAny_pure ⟨.none, rfl, h⟩))
theorem dlenS {Q : Value → Shared → Prop} (S : St B fs l s) (m : (d, dictC knd B xs) ∈ l) (hfit : xs.length ≤ sizeLine) (h : ∀ s' t, St B fs l s' → Q (.int xs.length t) s') : wpAny (model prog w) A (call (.builtin "len") [.ref d]) Q E s := by
  have hm := S.dict m
  obtain ⟨o, es, ep, ho, hc, hdat, he, _⟩ := id hm
  have hsz := entK_size he
  rw [sizeLine_eq] at hfit
  refine call_function_entry kind_len plain_len entry_len (args_len1 _) ?_
  unfold Builtin.«len»
  refine wpAny_bind (m := oneArg "len" _) (wpAny_pure ?_)
  refine wpAny_bind (m := callSpecial? (.ref d) (Str.ofString "__len__")) (wpAny_callSpecial?_slot (name := Str.ofString "__len__") hm.typeIs PySem.F.slot_dict_len
    (wpAny_call_entry PySem.F.slot_dict_len hm.typeIs PySem.F.entry_dict_len ?_ (args_dict_len1 _)))
  show wpAny _ _ (dictSize d >>= _) _ _ s
  unfold dictSize
  refine wpAny_bind (wpAny_bind (wpAny_dictEntries ho hdat (wpAny_pure ?_)))
  show wpAny _ _ (Builtin.Dict.pendingCount d >>= _) _ _ s
  refine wpAny_bind (wpAny_pendingCount_other (S.notMods m) ?_)
  show wpAny _ _ (retInt ((es.size : Int) + ((0 : Nat) : Int))) _ _ _
  rw [show (es.size : Int) + ((0 : Nat) : Int) = (xs.length : Int) from by omega]
  refine wpAny_bind (wpAny_mkInt (wpAny_pure ⟨_, rfl, ?_⟩))
  refine wpAny_bind (wpAny_holding (wpAny_pure ?_))
  refine wpAny_bind (wpAny_letGo ?_)
  show wpAny _ _ (if ((xs.length : Nat) : Int) < 0 then _ else _) _ _ _
  rw [if_neg (by omega)]
  show wpAny _ _ (if ((xs.length : Nat) : Int) ≥ 2 ^ 63 then _ else _) _ _ _
  rw [if_neg (by omega)]
  refine wpAny_bind (wpAny_mkInt (wpAny_pure ⟨_, rfl, ?_⟩))
  exact h _ _ (S.toks _)
theorem getS_missing {Q : Value → Shared → Prop} (S : St B fs l s) (m : (d, dictC knd B xs) ∈ l) (hu : A.units + 1 < cLine) (hh : A.handled = none) (hk : knd.is B.heap k key) (hp : atK xs k = none)
    (h : ∀ h' e t', Heap.NewExc s.heap h' e "KeyError" → E (.ref e) { s with heap := h', toks := t' }) : wpAny (model prog w) A (getItem (.ref d) key) Q E s :=
  getItemK_missing hu (S.keyed hk) (S.notMods m) hh (S.dict m) hp fun h' e he => h h' e _ he
theorem popS_missing {Q : Value → Shared → Prop} (S : St B fs l s) (m : (d, dictC knd B xs) ∈ l) (hu : A.units + 1 < cLine) (hh : A.handled = none) (hk : knd.is B.heap k key) (hp : atK xs k = none) (hsz : xs.length ≤ sizeLine)
    (h : ∀ h' e t', Heap.NewExc s.heap h' e "KeyError" → E (.ref e) { s with heap := h', toks := t' }) : wpAny (model prog w) A (call (.builtin "dict.pop") [.ref d, key]) Q E s :=
  popK_missing hu hh (S.notMods m) (S.keyed hk) (S.dict m) hp (fun h' e t' _ he => h h' e t' he) hsz
end

section
variable {prog : Program} {w : World} {M : Model} {A : Around} {E : Value → Shared → Prop} {B : Shared} {fs : List Env} {cD : Cell} {l l' : Cells} {s : Shared} {a : Addr} {vs vs' : List Value} {v : Value} {K : Frag} {C d f : Addr} {xs : Names} {x : Addr}
theorem St.list (S : St B fs l s) (m : (a, listC vs) ∈ l) : s.heap.IsList a vs.toArray := by
  obtain ⟨o, ho, h1, _, n, h3⟩ := S.has _ m
  exact ⟨o, ho, h1, n, h3⟩
theorem lenL {Q : Value → Shared → Prop} (S : St B fs l s) (m : (a, listC vs) ∈ l) (hfit : vs.length < 2 ^ 62) (h : ∀ s' t, St B fs l s' → Q (.int vs.length t) s') : wpAny (model prog w) A (call (.builtin "len") [.ref a]) Q E s :=
  call_len_list (S.list m) (by simp; omega) (by have := h _ (s.toks + 1) (S.toks (s.toks + 1 + 1)); simpa using this)
theorem truthL {Q : Bool → Shared → Prop} (S : St B fs l s) (m : (a, listC vs) ∈ l) (hfit : vs.length < 2 ^ 62) (h : ∀ s', St B fs l s' → Q (!vs.isEmpty) s') : wpAny (model prog w) A (truthy (.ref a)) Q E s :=
  wpAny_truthy_list (S.list m) (by simp; omega) (by have := h _ (S.toks (s.toks + 1 + 1)); simpa using this)
theorem itemL {Q : Value → Shared → Prop} {k : Int} {t : Tok} (S : St B fs l s) (m : (a, listC vs) ∈ l) (h0 : 0 ≤ k) (hfit : k < 2 ^ 63) (hx : vs[k.toNat]? = some v) (h : Q v s) : wpAny (model prog w) A (getItem (.ref a) (.int k t)) Q E s :=
  wpAny_getItem_list (S.list m) h0 hfit (by simpa using hx) h
theorem subL {Q : Value → Shared → Prop} {value slice : Expr} {k : Int} {t : Tok} (S : St B fs l s) (m : (a, listC vs) ∈ l) (h0 : 0 ≤ k) (hfit : k < 2 ^ 63) (hx : vs[k.toNat]? = some v) (h : Q v s)
    (hs : subscripted slice false (.ref a) (.int k t) = operate [.ref a, .int k t] (getItem (.ref a) (.int k t)) := by with_unfolding_all rfl) : wpAny (model prog w) A (subscriptTail value slice (.ref a) (.int k t)) Q E s :=
  tail_any (S.list m).typeIs slot_list_getitem.lookup (itemL S m h0 hfit hx h) hs
/-- an item of an instance of a class of the program's own -/
theorem subOwn {Q : Value → Shared → Prop} {value slice : Expr} {i : Value} (T : Stat K B.heap) (S : St B fs l s) (mi : (x, instC C d) ∈ l) (md : (d, cD) ∈ l) (hs : specFn K C (Str.ofString "__getitem__") f = true) (hf : fnIn K f = true)
    (h : wpAny (model prog w) A.in1 (call (.ref f) [.ref x, i]) Q E s)
    (hsl : subscripted slice true (.ref x) i = runValue (.builtin "lifetime.subscript" ⟨[.ref x, i], []⟩) := by with_unfolding_all rfl) :
    wpAny (model prog w) A (subscriptTail value slice (.ref x) i) Q E s := by
  obtain ⟨ox, od, I, _⟩ := S.instP mi md
  have X := (S.stat T).X
  unfold specFn at hs
  simp only [Bool.and_eq_true, beq_iff_eq] at hs
  have h1 := hs.1
  unfold fnIn at hf
  split at hf
  · rename_i e
    unfold subscriptTail getitemInPython
    refine wpAny_bind (wpAny_bind (wpAny_bind (I.type.here ((looks_findIn X h1).here ?_))))
    dsimp only
    refine wpAny_bind (wpAny_load (X _ _ e) (wpAny_pure ?_))
    dsimp only
    rw [hsl]
    refine wpAny_bind (wpAny_runValue (codeAny_builtin entry_sub ?_))
    unfold Builtin.«lifetime.subscript»
    refine wpAny_bind (special_fn X I h1 (beq_iff_eq.mp hs.2) (wpAny_mono h (fun v s' z => ?_) fun _ _ z => z))
    refine wpAny_pure ?_
    show wpAny (model prog w) A (letTemporaryGo value (.ref x) v >>= fun _ => pure v) Q E s'
    exact wpAny_bind (wpAny_letTemporaryGo (wpAny_pure z))
  · cases hf
/-- the length of an instance -/
theorem lenOwn {Q : Value → Shared → Prop} (T : Stat K B.heap) (S : St B fs l s) (mi : (x, instC C d) ∈ l) (md : (d, cD) ∈ l) (hs : specFn K C (Str.ofString "__len__") f = true)
    (h : wpAny (model prog w) A.in1 (call (.ref f) [.ref x]) (PySem.W.LenBack Q) E s) : wpAny (model prog w) A (call (.builtin "len") [.ref x]) Q E s := by
  obtain ⟨ox, od, I, _⟩ := S.instP mi md
  have X := (S.stat T).X
  unfold specFn at hs
  simp only [Bool.and_eq_true, beq_iff_eq] at hs
  refine Calls.call_function_entry kind_len plain_len entry_len (args_len1 _) ?_
  unfold Builtin.«len»
  refine wpAny_bind (m := oneArg "len" _) (wpAny_pure ?_)
  refine wpAny_bind (m := callSpecial? (.ref x) (Str.ofString "__len__")) (special_fn X I hs.1 (beq_iff_eq.mp hs.2) (wpAny_mono h (fun r s' hr => ?_) fun _ _ y => y))
  cases r <;> first | exact hr.elim | skip
  rename_i n u
  obtain ⟨⟨h0, h1⟩, hq⟩ := hr
  refine wpAny_bind (wpAny_holding (wpAny_pure ?_))
  refine wpAny_bind (wpAny_letGo ?_)
  show wpAny _ _ (if n < 0 then _ else _) _ _ _
  rw [if_neg (by omega)]
  show wpAny _ _ (if n ≥ 2 ^ 63 then _ else _) _ _ _
  rw [if_neg (by omega)]
  exact wpAny_bind (wpAny_mkInt (wpAny_pure ⟨_, rfl, hq⟩))
theorem sameRef {a b C C' d d' : Addr} {sl sl' : Array (Option Value)} {Q : Bool → Shared → Prop} (S : St B fs l s) (ma : (a, slotC C d sl) ∈ l) (mb : (b, slotC C' d' sl') ∈ l) (h : Q (decide (a = b)) s) : wpAny M A (isSame (.ref a) (.ref b)) Q E s := by
  by_cases e : a = b
  · subst e
    exact wpAny_isSame_ref_self (by simpa using h)
  · obtain ⟨oa, ha, hc, _⟩ := S.has _ ma
    obtain ⟨ob, hb, _⟩ := S.has _ mb
    exact wpAny_isSame_ref_other e ha hb (by rw [hc]; intro q; cases q) (by rw [decide_eq_false e] at h; exact h)
theorem isNotRef {a b C C' d d' : Addr} {sl sl' : Array (Option Value)} {Q : Value → Shared → Prop} (S : St B fs l s) (ma : (a, slotC C d sl) ∈ l) (mb : (b, slotC C' d' sl') ∈ l) (h : Q (.bool (!decide (a = b))) s) : wpAny M A (compareOp .IsNot (.ref a) (.ref b)) Q E s := by
  show wpAny M A (do return .bool (!(← isSame (.ref a) (.ref b)))) Q E s
  exact wpAny_bind (sameRef S ma mb (wpAny_pure h))
theorem isRef {a b C C' d d' : Addr} {sl sl' : Array (Option Value)} {Q : Value → Shared → Prop} (S : St B fs l s) (ma : (a, slotC C d sl) ∈ l) (mb : (b, slotC C' d' sl') ∈ l) (h : Q (.bool (decide (a = b))) s) : wpAny M A (compareOp .Is (.ref a) (.ref b)) Q E s := by
  show wpAny M A (do return .bool (← isSame (.ref a) (.ref b))) Q E s
  exact wpAny_bind (sameRef S ma mb (wpAny_pure h))
end

end
-- M19
section
set_option maxRecDepth 100000
/-- a staticmethod of the class, met through the class -/
def clsStat (K : Frag) (C : Addr) (name : Str) (f : Addr) : Bool :=
  match typeIn K (.ref C) with
  | some mc => readsIn K C mc && (findCls K (.ref C) mc name).any fun r => match r with
    | .get g (.ref p) .none (.ref C') => g == .builtin "staticmethod.__get__" && C' == C && (recIn K p "staticmethod").any fun vs => vs.head? == some (.ref f)
    | _ => false
  | none => false
section
variable {prog : Program} {w : World} {A : Around} {E : Value → Shared → Prop} {B : Shared} {fs : List Env} {l : Cells} {s : Shared} {K : Frag} {C f : Addr} {name : Str} {expr : Bool}
theorem getStatCls {Q : Value → Shared → Prop} (T : Stat K B.heap) (S : St B fs l s) (hm : clsStat K C name f = true) (h : ∀ s', St B fs l s' → Q (.ref f) s') : wpAny (model prog w) A (getAttr (.ref C) name expr) Q E s := by
  have X := (S.stat T).X
  unfold clsStat at hm
  split at hm
  · rename_i mc hmc
    rw [Bool.and_eq_true] at hm
    obtain ⟨r, h1, h2⟩ := any_some hm.2
    split at h2
    · rename_i g p C'
      simp only [Bool.and_eq_true, beq_iff_eq] at h2
      obtain ⟨⟨rfl, rfl⟩, h4⟩ := h2
      obtain ⟨vs, h5, h6⟩ := any_some h4
      cases vs with
      | nil => cases h6
      | cons y rest =>
        obtain rfl : y = .ref f := by simpa using h6
        exact cls_bind X hm.1 h1 (wpAny_call (sm_get (s := { s with toks := s.toks + 1 }) X h5 (handed_on rfl (h _ (S.toks _)))))
    · cases h2
  · cases hm
theorem bndT {fd : FuncData} {args : Args} {binds : List (Str × Value)} {t : Addr} {k : Option (Array Value) → Sem (List (Str × Value))} (T : Stat K B.heap) (S : St B fs l s) (vs : List Value) (hd : fd.defaults = .ref t) (ho : K.lookup t = some ⟨.type "tuple", none, .seq vs.toArray 0, #[]⟩)
    (h₁ : bindArgs fd args = seqItems? fd.defaults >>= k) (h₂ : k (some vs.toArray) = pure binds) : BindsTo s fd args binds :=
  binds_K (S.stat T).X hd ho rfl h₁ h₂
theorem dictNil {KT : Type} [DecidableEq KT] (knd : AnyKind prog w KT) {env : Env} {pos : Pos} {Q : Value → Shared → Prop} (S : St B fs l s) (h : ∀ d s', St B fs ((d, dictC knd B []) :: l) s' → Q (.ref d) s') : wpAny (model prog w) A (eval (.Dict [] [] pos) env) Q E s :=
  wpAny_Dict_empty (h _ _ (S.push (c := dictC knd B []) ⟨#[], 0, ⟨rfl, rfl, rfl⟩, rfl, rfl, fun _ h => (by cases h), List.nodup_nil⟩ s.toks))
theorem listNil {env : Env} {pos : Pos} {Q : Value → Shared → Prop} (S : St B fs l s) (h : ∀ d s', St B fs ((d, listC []) :: l) s' → Q (.ref d) s') : wpAny (model prog w) A (eval (.List [] pos) env) Q E s :=
  wpAny_List (spliced_nil ⟨Nat.zero_le _, h _ _ (S.push (c := listC []) ⟨rfl, rfl, 0, rfl⟩ s.toks)⟩)
end
/-! cells and names in another order -/
inductive Pick {α : Type} : List α → α → List α → Prop
  | here {x : α} {r : List α} : Pick (x :: r) x r
  | there {x z : α} {r r' : List α} : Pick r x r' → Pick (z :: r) x (z :: r')
theorem Pick.perm {α : Type} {l r : List α} {x : α} (p : Pick l x r) : l.Perm (x :: r) := by
  induction p with
  | here => exact .refl _
  | there _ ih => exact (List.Perm.cons _ ih).trans (.swap ..)
theorem Pick.cons {α : Type} {l r r' : List α} {x : α} (p : Pick l x r) (q : r'.Perm r) : (x :: r').Perm l := (q.cons x).trans p.perm.symm
theorem Pick.app {α : Type} {X l r : List α} {x : α} (p : Pick l x r) : Pick (X ++ l) x (X ++ r) := by
  induction X with
  | nil => exact p
  | cons c X ih => exact .there ih
theorem midCons {α : Type} {X r r' : List α} {c : α} (h : (X ++ r').Perm r) : (X ++ c :: r').Perm (c :: r) := List.perm_middle.trans (h.cons c)
end
local macro_rules | `(tactic| walk_at "m_pick") => `(tactic| repeat (first | with_reducible exact Pick.here | with_reducible apply Pick.there | with_reducible apply Pick.app))
section
set_option maxRecDepth 100000
end
local macro_rules | `(tactic| walk_at "m_pm") => `(tactic| ((repeat (with_reducible apply Pick.cons; focus (walk_at "m_pick"; done))); (repeat with_reducible apply midCons); with_reducible exact List.Perm.refl _))
section
set_option maxRecDepth 100000
theorem idC_perm {xs xs' : Names} (p : xs'.Perm xs) {o : Obj} : idC xs o → idC xs' o := by
  rintro ⟨es, ep, h1, h2, h3, h4, h5⟩
  have nd : (xs'.map (·.1)).Nodup := (p.map _).nodup_iff.mpr h5
  refine ⟨es, ep, h1, h2, h3, fun y => (h4 y).trans ?_, nd⟩
  by_cases m : y ∈ xs.map (·.1)
  · obtain ⟨q, hq, rfl⟩ := List.mem_map.mp m
    rw [lookup_of_mem h5 (v := q.2) hq, lookup_of_mem nd (v := q.2) (p.mem_iff.mpr hq)]
  · rw [lookup_none m, lookup_none (fun m' => m ((p.map _).mem_iff.mp m'))]
section
variable {B : Shared} {fs : List Env} {l l' : Cells} {s : Shared} {a : Addr} {c c' : Cell}
theorem St.imp (S : St B fs l s) (u : Upd l (a, c) (a, c') l') (h : ∀ o, c o → c' o) (hs : Soft c → Soft c') : St B fs l' s := by
  have key : ∀ x ∈ l', x ∈ l ∨ x = (a, c') := by
    have : ∀ {l l' : Cells} {p q : Addr × Cell}, Upd l p q l' → ∀ x ∈ l', x ∈ l ∨ x = q := by
      intro l l' p q u
      induction u with
      | here => intro x hx; rcases List.mem_cons.mp hx with e | e
                · exact .inr e
                · exact .inl (List.mem_cons_of_mem _ e)
      | there _ ih => intro x hx; rcases List.mem_cons.mp hx with e | e
                      · exact .inl (e ▸ List.mem_cons_self)
                      · rcases ih x e with e | e
                        · exact .inl (List.mem_cons_of_mem _ e)
                        · exact .inr e
    exact this u
  have hk : l'.map (·.1) = l.map (·.1) := u.keys (f := (·.1)) rfl
  refine ⟨S.base, fun x hx => ?_, hk ▸ S.nd, fun x hx => ?_, S.frames, S.gens, S.drawn, S.os, S.low, fun x hx => ?_, fun x hx hm => ?_⟩
  · rcases key x hx with e | rfl
    · exact S.has x e
    · obtain ⟨o, h1, h2⟩ := S.has _ u.mem
      exact ⟨o, h1, h o h2⟩
  · rcases key x hx with e | rfl
    · exact S.fresh x e
    · exact S.fresh (a, c) u.mem
  · rcases key x hx with e | rfl
    · exact S.big x e
    · exact S.big (a, c) u.mem
  · rcases key x hx with e | rfl
    · exact S.soft x e hm
    · exact hs (S.soft (a, c) u.mem hm)
theorem St.reId {xs xs' : Names} (S : St B fs l s) (u : Upd l (a, idC xs) (a, idC xs') l') (p : xs'.Perm xs) : St B fs l' s := S.imp u (fun _ h => idC_perm p h) fun _ => soft_idC
end
end
local macro_rules | `(tactic| walk_at "m_wk1") => `(tactic| ((with_reducible show wpAny _ _ (exec (Stmt.Assign [_, _] _ _) _) _ _ _); refine wpAny_Assign_two ?_))
section
set_option maxRecDepth 100000
end
local macro_rules | `(tactic| walk_at "m_wk1") => `(tactic| ((with_reducible show wpAny _ _ (assign (Expr.Name _ _) _ _) _ _ _); refine wpAny_assign_Name ?_))
section
set_option maxRecDepth 100000

end
-- M20
section
set_option maxRecDepth 100000
theorem Upd.or {α : Type} {l l' : List α} {p q : α} (u : Upd l p q l') : ∀ x ∈ l', x ∈ l ∨ x = q := by
  induction u with
  | here =>
    intro x hx
    rcases List.mem_cons.mp hx with e | e
    · exact .inr e
    · exact .inl (List.mem_cons_of_mem _ e)
  | there _ ih =>
    intro x hx
    rcases List.mem_cons.mp hx with e | e
    · exact .inl (e ▸ List.mem_cons_self)
    · rcases ih x e with e | e
      · exact .inl (List.mem_cons_of_mem _ e)
      · exact .inr e
section
variable {B : Shared} {fs : List Env} {l l' : Cells} {s : Shared} {a : Addr} {c c' : Cell}
/-- a cell's own object says more -/
theorem St.at1 (S : St B fs l s) (u : Upd l (a, c) (a, c') l') {o : Obj} (ho : s.heap.get? a = some o) (h : c' o) (hs : Soft c → Soft c') : St B fs l' s := by
  have key := u.or
  have hk : l'.map (·.1) = l.map (·.1) := u.keys (f := (·.1)) rfl
  refine ⟨S.base, fun x hx => ?_, hk ▸ S.nd, fun x hx => ?_, S.frames, S.gens, S.drawn, S.os, S.low, fun x hx => ?_, fun x hx hm => ?_⟩
  · rcases key x hx with e | rfl
    · exact S.has x e
    · exact ⟨o, ho, h⟩
  · rcases key x hx with e | rfl
    · exact S.fresh x e
    · exact S.fresh (a, c) u.mem
  · rcases key x hx with e | rfl
    · exact S.big x e
    · exact S.big (a, c) u.mem
  · rcases key x hx with e | rfl
    · exact S.soft x e hm
    · exact hs (S.soft (a, c) u.mem hm)
theorem St.choose {ι : Type} {d : ι → Cell} {m : ι → Cells} (S : St B fs l s) (hm : (a, c) ∈ l) (u : ∀ i, Upd l (a, c) (a, d i) (m i)) (h : ∀ o, c o → ∃ i, d i o) (hs : ∀ i, Soft c → Soft (d i)) : ∃ i, St B fs (m i) s := by
  obtain ⟨o, ho, hc⟩ := S.has _ hm
  obtain ⟨i, hi⟩ := h o hc
  exact ⟨i, S.at1 (u i) ho hi (hs i)⟩
end
theorem Room.make {n : Nat} {fs : List Env} {A : Around} {C : Addr} {rest : List Value} {kw : List (Str × Value)} (r : Room (n + 1) fs A) : Room n fs (A.under (.builtin "type.__call__" ⟨.ref C :: rest, kw⟩)) := by
  obtain ⟨h1, h2, h3, h4⟩ := r
  refine ⟨?_, ?_, ?_, h4⟩
  · rw [← h1]
    obtain ⟨hd, d, fr, gs, u⟩ := A
    cases fr <;> rfl
  · show A.depth + 1 + n < _; omega
  · show A.units + 1 + 8 * n < _; omega
section
variable {M : Model} {A : Around} {E : Value → Shared → Prop} {s : Shared} {env : Env}
theorem assignAttr {o : Expr} {attr : Str} {pos : Pos} {v : Value} {Q : Unit → Shared → Prop}
    (h : wpAny M A (eval o env) (fun ov s₂ => wpAny M A (setAttr ov attr v) Q E s₂) E s) : wpAny M A (assign (.Attribute o attr pos) env v) Q E s := by
  rw [assign_Attribute]
  exact wpAny_bind (wpAny_holding (wpAny_mono h (fun ov s₂ h₂ => wpAny_bind (wpAny_standAt (wpAny_bind (wpAny_holding (wpAny_mono h₂ (fun _ s₃ h₃ => wpAny_release h₃) fun _ _ z => z))))) fun _ _ z => z))
theorem assignSub {o i : Expr} {pos : Pos} {v : Value} {Q : Unit → Shared → Prop}
    (h : wpAny M A (eval o env) (fun ov s₂ => wpAny M A (eval i env) (fun iv s₃ => wpAny M A (setItem ov iv v) Q E s₃) E s₂) E s) : wpAny M A (assign (.Subscript o i pos) env v) Q E s := by
  rw [assign_Subscript]
  refine wpAny_bind (wpAny_holding (wpAny_mono h (fun ov s₂ h₂ => wpAny_bind (wpAny_holding (wpAny_mono h₂ (fun iv s₃ h₃ => ?_) fun _ _ z => z))) fun _ _ z => z))
  exact wpAny_bind (wpAny_standAt (wpAny_bind (wpAny_holding (wpAny_mono h₃ (fun _ s₄ h₄ => wpAny_release h₄) fun _ _ z => z))))
end
end
local macro_rules | `(tactic| walk_at "m_wk1") => `(tactic| ((with_reducible show wpAny _ _ (assign (Expr.Subscript _ _ _) _ _) _ _ _); refine assignSub ?_))
section
set_option maxRecDepth 100000
end
local macro_rules | `(tactic| walk_at "m_wk1") => `(tactic| ((with_reducible show wpAny _ _ (assign (Expr.Attribute _ _ _) _ _) _ _ _); refine assignAttr ?_))
section
set_option maxRecDepth 100000

end
-- M21
section
set_option maxRecDepth 100000
/-! many objects of one class with slots -/
def upd {β : Type} (f : Addr → β) (a : Addr) (v : β) : Addr → β := fun b => if b = a then v else f b
theorem upd_same {β : Type} {f : Addr → β} {a : Addr} {v : β} : upd f a v a = v := if_pos rfl
theorem upd_ne {β : Type} {f : Addr → β} {a b : Addr} {v : β} (h : b ≠ a) : upd f a v b = f b := if_neg h
def nodeCells (C : Addr) (f : Addr → Array (Option Value)) (ns : List (Addr × Addr)) : Cells := ns.flatMap fun p => [(p.1, slotC C p.2 (f p.1)), (p.2, idC [])]
theorem nodes_cons {C : Addr} {f : Addr → Array (Option Value)} {a d : Addr} {ns : List (Addr × Addr)} : nodeCells C f ((a, d) :: ns) = (a, slotC C d (f a)) :: (d, idC []) :: nodeCells C f ns := rfl
theorem nodes_congr {C : Addr} {f g : Addr → Array (Option Value)} : ∀ {ns : List (Addr × Addr)}, (∀ a ∈ ns.map (·.1), f a = g a) → nodeCells C f ns = nodeCells C g ns
  | [], _ => rfl
  | (a, d) :: r, h => by
    rw [nodes_cons, nodes_cons, h a List.mem_cons_self, nodes_congr fun b hb => h b (List.mem_cons_of_mem _ hb)]
theorem nodesM {C : Addr} {f : Addr → Array (Option Value)} {a d : Addr} {l : Cells} : ∀ {ns : List (Addr × Addr)}, (a, d) ∈ ns → (a, slotC C d (f a)) ∈ nodeCells C f ns ++ l
  | p :: r, h => by
    rcases List.mem_cons.mp h with rfl | h
    · exact List.mem_cons_self
    · exact List.mem_cons_of_mem _ (List.mem_cons_of_mem _ (nodesM h))
theorem nodesD {C : Addr} {f : Addr → Array (Option Value)} {a d : Addr} {l : Cells} : ∀ {ns : List (Addr × Addr)}, (a, d) ∈ ns → (d, idC []) ∈ nodeCells C f ns ++ l
  | p :: r, h => by
    rcases List.mem_cons.mp h with rfl | h
    · exact List.mem_cons_of_mem _ List.mem_cons_self
    · exact List.mem_cons_of_mem _ (List.mem_cons_of_mem _ (nodesD h))
theorem nodes_updG {C : Addr} {f g : Addr → Array (Option Value)} {a d : Addr} {l : Cells} (hg : ∀ b, b ≠ a → g b = f b) : ∀ {ns : List (Addr × Addr)}, (a, d) ∈ ns → (ns.map (·.1)).Nodup →
    Upd (nodeCells C f ns ++ l) (a, slotC C d (f a)) (a, slotC C d (g a)) (nodeCells C g ns ++ l)
  | p :: r, h, nd => by
    rw [List.map_cons, List.nodup_cons] at nd
    rcases List.mem_cons.mp h with rfl | h'
    · have : nodeCells C g r = nodeCells C f r := nodes_congr fun b hb => hg b fun e => nd.1 (e ▸ hb)
      rw [nodes_cons, nodes_cons, this]
      exact Upd.here
    · obtain ⟨b, e⟩ := p
      have hne : b ≠ a := fun q => nd.1 (q ▸ List.mem_map.mpr ⟨_, h', rfl⟩)
      rw [nodes_cons, nodes_cons, hg b hne]
      exact Upd.there (Upd.there (nodes_updG hg h' nd.2))
theorem nodes_sub {C : Addr} {f : Addr → Array (Option Value)} : ∀ {ns : List (Addr × Addr)}, List.Sublist (ns.map (·.1)) ((nodeCells C f ns).map (·.1))
  | [] => .slnil
  | (a, d) :: r => .cons₂ _ (.cons _ nodes_sub)
/-- the one that holds a node's dict -/
theorem node_of {ns : List (Addr × Addr)} {a : Addr} (h : a ∈ ns.map (·.1)) : ∃ d, (a, d) ∈ ns := by
  obtain ⟨⟨b, d⟩, hm, rfl⟩ := List.mem_map.mp h
  exact ⟨d, hm⟩
end
local macro_rules | `(tactic| walk_at "m_mem") => `(tactic| repeat (first | with_reducible exact List.mem_cons_self | with_reducible exact nodesM (by assumption) | with_reducible exact nodesD (by assumption) | with_reducible refine List.mem_cons_of_mem _ ?_ | with_reducible refine List.mem_append_right _ ?_))
section
set_option maxRecDepth 100000
theorem Upd.app {α : Type} {X l l' : List α} {x y : α} (u : Upd l x y l') : Upd (X ++ l) x y (X ++ l') := by
  induction X with
  | nil => exact u
  | cons c X ih => exact .there ih
end
local macro_rules | `(tactic| walk_at "m_updt") => `(tactic| repeat (first | with_reducible exact Upd.here | with_reducible apply Upd.there | with_reducible apply Upd.app))
section
set_option maxRecDepth 100000

/-- a stretch of cells is put in another's place -/
inductive Rep (X X' : Cells) : Cells → Cells → Prop
  | here {r : Cells} : Rep X X' (X ++ r) (X' ++ r)
  | there {c : Addr × Cell} {l l' : Cells} : Rep X X' l l' → Rep X X' (c :: l) (c :: l')
theorem Rep.rest {X X' l l' : Cells} (u : Rep X X' l l') : ∃ r, (X ++ r).Perm l ∧ l'.Perm (X' ++ r) := by
  induction u with
  | here => exact ⟨_, .refl _, .refl _⟩
  | @there c l l' _ ih =>
    obtain ⟨r, h1, h2⟩ := ih
    exact ⟨c :: r, List.perm_middle.trans (h1.cons c), (h2.cons c).trans List.perm_middle.symm⟩
end
local macro_rules | `(tactic| walk_at "m_rep") => `(tactic| repeat (first | with_reducible exact Rep.here | with_reducible apply Rep.there))
section
set_option maxRecDepth 100000
section
variable {B : Shared} {fs : List Env} {env : Env} {l l' : Cells} {s : Shared} {c : Cell}
/-- a function's end: its own names are dropped, the cells laid in the asked order -/
theorem St.done (L : Addr) (S : St B (env :: fs) l' s) (p : ((L, c) :: l).Perm l') : St B fs l s := St.tail (St.pop (S.perm p))
end
/-! links of a ring: when they end, their keys, the next, the one before -/
def lnk (e k nx pv : Value) : Array (Option Value) := #[some e, some k, some nx, some pv]
def lf (ev kv : Addr → Value) (nx pv : Addr → Addr) : Addr → Array (Option Value) := fun a => lnk (ev a) (kv a) (.ref (nx a)) (.ref (pv a))
section
variable {C a d : Addr} {l : Cells} {ns : List (Addr × Addr)} {ev kv : Addr → Value} {nx pv : Addr → Addr} {v : Addr} {e : Value}
theorem updNext (h : (a, d) ∈ ns) (nd : (ns.map (·.1)).Nodup) : Upd (nodeCells C (lf ev kv nx pv) ns ++ l) (a, slotC C d (lf ev kv nx pv a)) (a, slotC C d (lf ev kv (upd nx a v) pv a)) (nodeCells C (lf ev kv (upd nx a v) pv) ns ++ l) :=
  nodes_updG (f := lf ev kv nx pv) (g := lf ev kv (upd nx a v) pv) (fun b hb => by simp [lf, upd_ne hb]) h nd
theorem updPrev (h : (a, d) ∈ ns) (nd : (ns.map (·.1)).Nodup) : Upd (nodeCells C (lf ev kv nx pv) ns ++ l) (a, slotC C d (lf ev kv nx pv a)) (a, slotC C d (lf ev kv nx (upd pv a v) a)) (nodeCells C (lf ev kv nx (upd pv a v)) ns ++ l) :=
  nodes_updG (f := lf ev kv nx pv) (g := lf ev kv nx (upd pv a v)) (fun b hb => by simp [lf, upd_ne hb]) h nd
theorem updExp (h : (a, d) ∈ ns) (nd : (ns.map (·.1)).Nodup) : Upd (nodeCells C (lf ev kv nx pv) ns ++ l) (a, slotC C d (lf ev kv nx pv a)) (a, slotC C d (lf (upd ev a e) kv nx pv a)) (nodeCells C (lf (upd ev a e) kv nx pv) ns ++ l) :=
  nodes_updG (f := lf ev kv nx pv) (g := lf (upd ev a e) kv nx pv) (fun b hb => by simp [lf, upd_ne hb]) h nd
end
theorem St.freshNode {B : Shared} {fs : List Env} {l r : Cells} {s : Shared} {b C : Addr} {c : Cell} {f : Addr → Array (Option Value)} {ns : List (Addr × Addr)} (S : St B fs l s) (p : ((b, c) :: (nodeCells C f ns ++ r)).Perm l) : b ∉ ns.map (·.1) := by
  have h := (S.perm p).nd
  rw [List.map_cons, List.nodup_cons, List.map_append] at h
  exact fun hm => h.1 (List.mem_append_left _ (nodes_sub.subset hm))
theorem newNode {b d rt : Addr} {ns : List (Addr × Addr)} {ev kv : Addr → Value} {nx pv : Addr → Addr} {e key : Value} (hb : b ∉ ns.map (·.1)) (hr : rt ∈ ns.map (·.1)) (hp : pv rt ∈ ns.map (·.1)) :
    nodeCells 1178 (lf (upd ev b e) (upd kv b key) (upd (upd nx b rt) (pv rt) b) (upd (upd pv b (pv rt)) rt b)) ((b, d) :: ns) = (b, slotC 1178 d (lnk e key (.ref rt) (.ref (pv rt)))) :: (d, idC []) :: nodeCells 1178 (lf ev kv (upd nx (pv rt) b) (upd pv rt b)) ns := by
  have n1 : b ≠ pv rt := fun q => hb (q ▸ hp)
  have n2 : b ≠ rt := fun q => hb (q ▸ hr)
  have e1 : nodeCells 1178 (lf (upd ev b e) (upd kv b key) (upd (upd nx b rt) (pv rt) b) (upd (upd pv b (pv rt)) rt b)) ns = nodeCells 1178 (lf ev kv (upd nx (pv rt) b) (upd pv rt b)) ns := by
    refine nodes_congr fun a ha => ?_
    have n3 : a ≠ b := fun q => hb (q ▸ ha)
    simp [lf, upd, n3]
  rw [nodes_cons, e1]
  simp [lf, upd, n1, n2]
end
local macro_rules | `(tactic| walk_at "m_updn") => `(tactic| repeat (first | with_reducible exact Upd.here | with_reducible exact updNext (by assumption) (by assumption) | with_reducible exact updPrev (by assumption) (by assumption) | with_reducible exact updExp (by assumption) (by assumption) | with_reducible apply Upd.there | with_reducible apply Upd.app))
section
set_option maxRecDepth 100000

end
-- M22
section
set_option maxRecDepth 100000
theorem iteT {c : Bool} {a b : Prop} (hc : c = true) (h : a) : if c = true then a else b := by rw [if_pos hc]; exact h
theorem iteF {c : Bool} {a b : Prop} (hc : c = false) (h : b) : if c = true then a else b := by rw [hc, if_neg Bool.false_ne_true]; exact h
end
local macro_rules | `(tactic| walk_at "m_wki") => `(tactic| repeat (first | walk_at "m_wk1" | ((with_reducible show ite _ _ _); first | refine iteT rfl ?_ | refine iteF rfl ?_)))
section
set_option maxRecDepth 100000
theorem funFrames_at {h h' base : Heap} : ∀ {l : List Env}, h.FunFrames base l → (∀ b ∈ l.filterMap (·.frame), h'.get? b = h.get? b) → h'.FunFrames base l
  | [], _, _ => trivial
  | _ :: _, ⟨hk, ⟨L, o, hf, hn, ho, hd⟩, hr⟩, hb => by
    rw [List.filterMap_cons, hf] at hb
    exact ⟨hk, ⟨L, o, hf, hn, (hb L List.mem_cons_self).trans ho, hd⟩, funFrames_at hr fun b hm => hb b (List.mem_cons_of_mem _ hm)⟩
section
variable {B : Shared} {fs : List Env} {l l' : Cells} {s : Shared} {a : Addr} {c : Cell} {h' : Heap}
/-- all but one cell is kept, that one is dropped -/
theorem St.but (S : St B fs ((a, c) :: l) s) (hf : a ∉ fs.filterMap (·.frame)) (t : Nat) (k : Heap.ExtBut a s.heap h') : St B fs l { s with heap := h', toks := t } := by
  have hB := S.fresh _ List.mem_cons_self
  have hn := (List.nodup_cons.mp S.nd).1
  refine ⟨fun b o hb => k b o (fun e => by subst e; rw [hB] at hb; cases hb) (S.base b o hb), fun x hx => ?_, S.tail.nd, S.tail.fresh, funFrames_at S.frames fun b hb => ?_, S.gens, S.drawn, S.os, S.low, S.tail.big, S.tail.soft⟩
  · obtain ⟨o, h1, h2⟩ := S.has x (List.mem_cons_of_mem _ hx)
    exact ⟨o, k _ _ (fun e => hn (e ▸ List.mem_map.mpr ⟨x, hx, rfl⟩)) h1, h2⟩
  · obtain ⟨_, o, ho, _⟩ := S.frames.mem hb
    rw [ho]
    exact k _ _ (fun e => hf (e ▸ hb)) ho
end
theorem dict_mapSeq (o : Obj) (f : Array Value → Array Value) : (o.mapSeq f).dict = o.dict := by
  obtain ⟨c, d, dt, sl⟩ := o; cases dt <;> rfl
/-- an iterator over a list -/
def litC (a : Addr) (i : Nat) : Cell := fun o => o.cls = .type "list_iterator" ∧ o.data = .fields #[.ref a, .int i 0]
section
variable {prog : Program} {w : World} {A : Around} {E : Value → Shared → Prop} {B : Shared} {fs : List Env} {l l' : Cells} {s : Shared} {a it D : Addr} {vs ys : List Value} {v : Value} {i : Nat}
theorem St.fields_off {c : Cell} (S : St B fs l s) (m : (it, c) ∈ l) (hc : ∀ o, c o → ∃ vs, o.data = .fields vs) : it ∉ fs.filterMap (·.frame) := fun hm => by
  obtain ⟨_, o, ho, hd⟩ := S.frames.mem hm
  obtain ⟨o', ho', hc'⟩ := S.has _ m
  rw [ho] at ho'; cases ho'
  obtain ⟨vs, h⟩ := hc _ hc'
  exact hd vs h
theorem iterL {Q : Value → Shared → Prop} (S : St B fs l s) (m : (a, listC vs) ∈ l) (h : ∀ it s', St B fs ((it, litC a 0) :: l) s' → Q (.ref it) s') : wpAny (model prog w) A (pyIter (.ref a)) Q E s :=
  wpAny_pyIter_list (S.list m) (h _ _ (S.push (c := litC a 0) ⟨rfl, rfl⟩ s.toks))
theorem iterIt {Q : Value → Shared → Prop} (S : St B fs l s) (m : (it, litC a i) ∈ l) (h : Q (.ref it) s) : wpAny (model prog w) A (pyIter (.ref it)) Q E s := by
  obtain ⟨o, ho, h1, h2⟩ := S.has _ m
  exact wpAny_pyIter_listiter ⟨o, ho, h1, h2⟩ h
theorem nextL {Q : Option Value → Shared → Prop} (S : St B fs l s) (u : Upd l (it, litC a i) (it, litC a (i + 1)) l') (m : (a, listC vs) ∈ l) (hx : vs[i]? = some v) (h : ∀ s', St B fs l' s' → Q (some v) s') :
    wpAny (model prog w) A (pyNext (.ref it)) Q E s := by
  obtain ⟨o, ho, h1, h2⟩ := S.has _ u.mem
  refine wpAny_pyNext_list_item ⟨o, ho, h1, h2⟩ (S.list m) (x := v) (by simpa using hx) fun h' hit hs => h _ ?_
  obtain ⟨o', ho', h1', h2'⟩ := hit
  exact S.set u s.toks hs ho' ⟨h1', h2'⟩ (.inr ⟨o, _, ho, h2⟩) fun hm => (S.fields_off u.mem (fun o h => ⟨_, h.2⟩) hm).elim
theorem endL {Q : Option Value → Shared → Prop} (hh : A.handled = none) (S : St B fs ((it, litC a i) :: l) s) (m : (a, listC vs) ∈ l) (hx : vs.length ≤ i) (h : ∀ s', St B fs l s' → Q none s') :
    wpAny (model prog w) A (pyNext (.ref it)) Q E s := by
  obtain ⟨o, ho, h1, h2⟩ := S.has _ List.mem_cons_self
  refine wpAny_pyNext_list_end hh ⟨o, ho, h1, h2⟩ (S.tail.list m) (by simpa using hx) fun h' hs => h _ (S.but (S.fields_off List.mem_cons_self fun o h => ⟨_, h.2⟩) s.toks hs)
theorem appendL {Q : Value → Shared → Prop} (S : St B fs l s) (u : Upd l (D, listC ys) (D, listC (ys ++ [v])) l') (hsz : ys.length ≤ sizeLine) (h : ∀ s', St B fs l' s' → Q .none s') :
    wpAny (model prog w) A (call (.builtin "list.append") [.ref D, v]) Q E s := by
  obtain ⟨o, ho, h1, h2, n, h3⟩ := S.has _ u.mem
  obtain ⟨n', hd'⟩ := Obj.data_mapSeq h3 (·.push v)
  refine wpAny_call_entry slot_list_append (S.list u.mem).typeIs entry_list_append ?_ (args_list_append _ _)
  show wpAny _ _ (updateSeq D (·.push v) >>= fun _ => ret .none) _ _ s
  refine wpAny_bind ?_
  refine wpAny_updateSeq ho h3 (wpAny_pure ⟨.none, rfl, h _ ?_⟩) (by simp; omega)
  refine S.set u s.toks (Heap.SameBut.update ..) (Heap.get?_update_self _ ho (Obj.isFreed_of_seq hd')) ⟨(Obj.cls_mapSeq ..).trans h1, (dict_mapSeq ..).trans h2, n', by rw [hd']; simp⟩ (.inl fun vs e => by rw [hd'] at e; cases e) fun _ => soft_listC

/-- a list comprehension's end -/
def CompR (B : Shared) (fs : List Env) (sc : Scope) (C D : Addr) (Q : Value → Shared → Prop) (r : Result) (s' : Shared) : Prop :=
  r = .ok .next ∧ ∃ l' xs, St B fs ((C, nsC sc xs) :: l') s' ∧ ∀ s'', St B fs l' s'' → Q (.ref D) s''
theorem compS {env : Env} {elt target iter : Expr} {ifs : List Expr} {scope : Scope} {pos : Pos} {cl : List (Str × Addr)} {Q : Value → Shared → Prop}
    (hclos : closureFor scope env = pure cl) (hkind : scope.kind = .function) (hcell : ∀ y ∈ scope.names, y.2 ≠ .cell) (hnames : ∀ y ∈ scope.names, y.2 = .local → scope.names.lookup y.1 = some .local)
    (h : wpAny (model prog w) A (eval iter env) (fun xv s₁ => wpAny (model prog w) A (pyIter xv) (fun it s₂ => ∃ l, St B fs l s₂ ∧
      ∀ C D s₃, St B fs ((C, nsC (relabel scope env) []) :: (D, listC []) :: l) s₃ → (∀ P E', P it s₃ → wpAny (model prog w) A (pyIter it) P E' s₃) ∧
        codeAny (model prog w) A (.compLoop (.ListComp elt [⟨target, iter, ifs, 0⟩] scope pos) 0 it (.ref D) (compEnvC scope cl C env)) (CompR B fs (relabel scope env) C D Q) s₃) E s₁) E s)
    (hs : ∀ x, foldedSetIterable iter env x = pure x := by intro _; rfl) :
    wpAny (model prog w) A (eval (.ListComp elt [⟨target, iter, ifs, 0⟩] scope pos) env) Q E s := by
  rw [eval_ListComp]
  refine wpAny_comprehension_free (use := none) rfl hs hclos hkind hnames (wpAny_mono h (fun xv s₁ h₁ => wpAny_mono h₁ (fun it s₂ h₂ => ?_) fun _ _ e => e) fun _ _ e => e)
  obtain ⟨l, S, hl⟩ := h₂
  refine wpAny_newObj_type (wpAny_newFunctionEnv hcell (by intro y hy; simp at hy) (fun h₁ hns hsb => ?_) hkind)
  have S1 := S.push (o := { cls := .type "list", data := .seq ([] : List Value).toArray }) (c := listC []) ⟨rfl, rfl, 0, rfl⟩ s₂.toks
  have hk : ∀ b o, (s₂.heap.push { cls := .type "list", data := .seq ([] : List Value).toArray }).get? b = some o → h₁.get? b = some o := fun b o e => hsb.extBut b o (Nat.ne_of_lt (Heap.lt_size e)) (Heap.get?_push_of_some _ e)
  obtain ⟨oL, es, ep, hL, d1, d2, d3⟩ := hns
  have S2 := S1.grow (a := (s₂.heap.push { cls := .type "list", data := .seq ([] : List Value).toArray }).objs.size) (o := oL) (c := nsC (relabel scope env) []) (s₂.toks + 0) hk (Heap.get?_none_of_le (Nat.le_refl _)) S1.none_at S1.size hL
    ⟨⟨es, ep, d1, d2, fun y => d3 y⟩, List.nodup_nil, hkind, fun p hp => nomatch hp⟩
  have hCf : (s₂.heap.push { cls := .type "list", data := .seq ([] : List Value).toArray }).objs.size ∉ fs.filterMap (·.frame) := fun hm => by
    obtain ⟨_, o, ho, _⟩ := S1.frames.mem hm
    exact absurd (Heap.lt_size ho) (Nat.lt_irrefl _)
  obtain ⟨h1, h2⟩ := hl _ _ _ S2
  have fin : ∀ r s', CompR B fs (relabel scope env) (s₂.heap.push { cls := .type "list", data := .seq ([] : List Value).toArray }).objs.size s₂.heap.objs.size Q r s' →
      compPost (model prog w) A E none Q (.ref s₂.heap.objs.size) (s₂.heap.push { cls := .type "list", data := .seq ([] : List Value).toArray }).objs.size r s' := by
    rintro r s' ⟨rfl, l', xs, S', hq⟩
    refine ⟨_, (S'.ns List.mem_cons_self).1, fun h' hs' => hq _ (S'.but hCf s'.toks hs'.extBut)⟩
  exact codeAny_compStart_list (codeAny_mono h2 fin) (h1 _ _ (codeAny_mono h2 fin))
end

end
-- M26
section
set_option maxRecDepth 100000
section
variable {M : Model} {A : Around} {E : Value → Shared → Prop} {B : Shared} {fs : List Env} {l l' : Cells} {s : Shared} {env : Env} {scope : Scope} {cl : List (Str × Addr)} {C : Addr} {xs xs' : Names} {x : Str} {v u : Value} {pos : Pos}
/-- names of a comprehension's own -/
theorem ldX {Q : Value → Shared → Prop} (S : St B fs l s) (m : (C, nsC (relabel scope env) xs) ∈ l) (mv : (x, v) ∈ xs) (h : Q v s) : wpAny M A (eval (.Name x pos) (compEnvC scope cl C env)) Q E s :=
  let ⟨n, nd, hk, hl⟩ := S.ns m
  wpAny_Name (wpAny_loadName_local hk (hl _ mv).1 n (lookup_of_mem nd mv) h) (hl _ mv).2
theorem stX {Q : Unit → Shared → Prop} (S : St B fs l s) (m : Upd l (C, nsC (relabel scope env) xs) (C, nsC (relabel scope env) xs') l') (p : Upd xs (x, u) (x, v) xs') (h : ∀ s', St B fs l' s' → Q () s') :
    wpAny M A (storeName (compEnvC scope cl C env) x v) Q E s := by
  obtain ⟨n, nd, hk, hl⟩ := S.ns m.mem
  refine wpAny_storeName_local (hl _ p.mem).1 n (fun h' hn hs => h _ ?_) (by show ((relabel scope env).kind == .class || ((relabel scope env).kind == .module && C != env.globals)) = false; rw [hk]; rfl)
  obtain ⟨o, es, ep, ho, hd, hk', hf⟩ := hn
  refine S.set m _ hs ho ⟨⟨es, ep, hd, hk', fun y => (hf y).trans (p.lookup nd y)⟩, (p.keys (f := (·.1)) rfl) ▸ nd, hk, ?_⟩ (.inl fun vs e => by rw [hd] at e; cases e) fun _ => soft_nsC
  intro q hq
  have : q.1 ∈ xs'.map (·.1) := List.mem_map.mpr ⟨q, hq, rfl⟩
  rw [p.keys (f := (·.1)) rfl] at this
  obtain ⟨r, hr, e⟩ := List.mem_map.mp this
  exact e ▸ hl r hr
theorem stXnew {Q : Unit → Shared → Prop} (S : St B fs l s) (m : Upd l (C, nsC (relabel scope env) xs) (C, nsC (relabel scope env) ((x, v) :: xs)) l') (hx : x ∉ xs.map (·.1)) (hl : scope.names.lookup x = some .local) (hd : (x == ("__debug__" : Str)) = false) (h : ∀ s', St B fs l' s' → Q () s') :
    wpAny M A (storeName (compEnvC scope cl C env) x v) Q E s := by
  obtain ⟨n, nd, hk, hls⟩ := S.ns m.mem
  have hl' : (relabel scope env).names.lookup x = some .local := lookup_relabel_local hl
  refine wpAny_storeName_local hl' n (fun h' hn hs => h _ ?_) (by show ((relabel scope env).kind == .class || ((relabel scope env).kind == .module && C != env.globals)) = false; rw [hk]; rfl)
  obtain ⟨o, es, ep, ho, hd', hk', hf⟩ := hn
  refine S.set m _ hs ho ⟨⟨es, ep, hd', hk', fun y => (hf y).trans (lookup_cons_new y)⟩, by rw [List.map_cons]; exact List.nodup_cons.mpr ⟨hx, nd⟩, hk, fun q hq => ?_⟩ (.inl fun vs e => by rw [hd'] at e; cases e) fun _ => soft_nsC
  rcases List.mem_cons.mp hq with rfl | hq
  · exact ⟨hl', hd⟩
  · exact hls q hq
end
end
local macro_rules | `(tactic| walk_at "m_wk1") => `(tactic| ((with_reducible show wpAny _ _ (eval (Expr.Name _ _) (compEnvC _ _ _ _)) _ _ _); refine ldX (by assumption) (by walk_at "m_mem") (by walk_at "m_mem") ?_))
section
set_option maxRecDepth 100000
end
local macro_rules | `(tactic| walk_at "m_wk1") => `(tactic| ((with_reducible show wpAny _ _ (storeName (compEnvC _ _ _ _) _ _) _ _ _); first | refine stX (by assumption) (by walk_at "m_updt") (by walk_at "m_updt") (fun s' S' => ?_) | refine stXnew (by assumption) (by walk_at "m_updt") (by walk_at "m_nin") (by kernel_rfl) (by decide +kernel) (fun s' S' => ?_)))
section
set_option maxRecDepth 100000
section
variable {prog : Program} {w : World} {A : Around} {E : Value → Shared → Prop} {B : Shared} {fs : List Env} {l l' : Cells} {s : Shared} {a I C D : Addr} {vs ys : List Value} {v : Value} {i : Nat}
theorem notedF {α : Type} {t : Sem α} {Q : α → Shared → Prop} {E' : Value → Shared → Prop} (h : wpAny (model prog w) A t Q (fun _ _ => False) s) : wpAny (model prog w) A t Q E' s := wpAny_mono h (fun _ _ z => z) fun _ _ z => z.elim
/-- a list comprehension over a list, one name -/
theorem compList {env : Env} {elt iter : Expr} {x : Str} {px : Pos} {ifs : List Expr} {scope : Scope} {pos : Pos} {cl : List (Str × Addr)} {Q : Value → Shared → Prop} {rest₀ : Cells} (P : Nat → List Value → Cells → Prop)
    (hx : scope.names.lookup x = some .local) (hd : (x == ("__debug__" : Str)) = false) (hh : A.handled = none)
    (S : St B fs ((I, litC a 0) :: (C, nsC (relabel scope env) []) :: (D, listC []) :: rest₀) s) (h0 : P 0 [] rest₀) (ha : ∀ i ys rest, P i ys rest → (a, listC vs) ∈ rest ∧ ys.length ≤ sizeLine)
    (step : ∀ i v ys rest s, vs[i]? = some v → P i ys rest → St B fs ((I, litC a (i + 1)) :: (C, nsC (relabel scope env) [(x, v)]) :: (D, listC ys) :: rest) s →
      wpAny (model prog w) A (forIn ifs true fun c r => if r = true then do let ok ← isTrue c (compEnvC scope cl C env) (eval c (compEnvC scope cl C env)); pure (ForInStep.yield ok) else pure (ForInStep.yield r)) (fun ok s₃ =>
        if ok = true then wpAny (model prog w) A (eval elt (compEnvC scope cl C env)) (fun y s₄ => ∃ rest', P (i + 1) (ys ++ [y]) rest' ∧ St B fs ((I, litC a (i + 1)) :: (C, nsC (relabel scope env) [(x, v)]) :: (D, listC ys) :: rest') s₄) (fun _ _ => False) s₃
        else ∃ rest', P (i + 1) ys rest' ∧ St B fs ((I, litC a (i + 1)) :: (C, nsC (relabel scope env) [(x, v)]) :: (D, listC ys) :: rest') s₃) (fun _ _ => False) s)
    (fin : ∀ ys rest s, P vs.length ys rest → St B fs ((D, listC ys) :: rest) s → Q (.ref D) s) :
    codeAny (model prog w) A (.compLoop (.ListComp elt [⟨.Name x px, iter, ifs, 0⟩] scope pos) 0 (.ref I) (.ref D) (compEnvC scope cl C env)) (CompR B fs (relabel scope env) C D Q) s := by
  refine codeAny_compLoop_tests (fun n s => ∃ i ys rest zs, i ≤ vs.length ∧ n = vs.length - i ∧ (zs = [] ∨ ∃ v, zs = [(x, v)]) ∧ P i ys rest ∧ St B fs ((I, litC a i) :: (C, nsC (relabel scope env) zs) :: (D, listC ys) :: rest) s) ?_ _ ⟨0, [], rest₀, [], Nat.zero_le _, rfl, .inl rfl, h0, S⟩
  rintro n s ⟨i, ys, rest, zs, hi, rfl, hz, hP, S⟩
  obtain ⟨hm, hsz⟩ := ha i ys rest hP
  by_cases hlt : i < vs.length
  · refine nextL (v := vs[i]) S Upd.here (List.mem_cons_of_mem _ (List.mem_cons_of_mem _ (List.mem_cons_of_mem _ hm))) (List.getElem?_eq_getElem hlt) fun s' S' => ?_
    have go : ∀ s', St B fs ((I, litC a (i + 1)) :: (C, nsC (relabel scope env) [(x, vs[i])]) :: (D, listC ys) :: rest) s' →
        wpAny (model prog w) A (forIn ifs true fun c r => if r = true then do let ok ← isTrue c (compEnvC scope cl C env) (eval c (compEnvC scope cl C env)); pure (ForInStep.yield ok) else pure (ForInStep.yield r)) (fun ok s₃ =>
            if ok = true then wpAny (model prog w) A (eval elt (compEnvC scope cl C env)) (fun x_1 s₄ =>
              wpAny (model prog w) A (call (.builtin "list.append") [.ref D, x_1]) (fun _ s₅ => ∃ m, m < vs.length - i ∧ ∃ i ys rest zs, i ≤ vs.length ∧ m = vs.length - i ∧ (zs = [] ∨ ∃ v, zs = [(x, v)]) ∧ P i ys rest ∧ St B fs ((I, litC a i) :: (C, nsC (relabel scope env) zs) :: (D, listC ys) :: rest) s₅) (notedBy (model prog w) A (compEnvC scope cl C env) fun e s' => CompR B fs (relabel scope env) C D Q (.error e) s') s₄) (notedBy (model prog w) A (compEnvC scope cl C env) fun e s' => CompR B fs (relabel scope env) C D Q (.error e) s') s₃
            else ∃ m, m < vs.length - i ∧ ∃ i ys rest zs, i ≤ vs.length ∧ m = vs.length - i ∧ (zs = [] ∨ ∃ v, zs = [(x, v)]) ∧ P i ys rest ∧ St B fs ((I, litC a i) :: (C, nsC (relabel scope env) zs) :: (D, listC ys) :: rest) s₃) (notedBy (model prog w) A (compEnvC scope cl C env) fun e s' => CompR B fs (relabel scope env) C D Q (.error e) s') s' := by
      intro s' S'
      refine wpAny_mono (step i vs[i] ys rest s' (List.getElem?_eq_getElem hlt) hP S') (fun ok s₃ h₃ => ?_) fun _ _ z => z.elim
      cases ok with
      | true =>
        rw [if_pos rfl] at h₃ ⊢
        refine wpAny_mono h₃ (fun y s₄ h₄ => ?_) fun _ _ z => z.elim
        obtain ⟨rest', hP', S₄⟩ := h₄
        exact appendL S₄ (Upd.there (Upd.there Upd.here)) hsz fun s₅ S₅ => ⟨vs.length - (i + 1), by omega, i + 1, ys ++ [y], rest', _, hlt, rfl, .inr ⟨_, rfl⟩, hP', S₅⟩
      | false =>
        rw [if_neg Bool.false_ne_true] at h₃ ⊢
        obtain ⟨rest', hP', S₄⟩ := h₃
        exact ⟨vs.length - (i + 1), by omega, i + 1, ys, rest', _, hlt, rfl, .inr ⟨_, rfl⟩, hP', S₄⟩
    rcases hz with rfl | ⟨u, rfl⟩
    · exact wpAny_assign_Name (stXnew S' (Upd.there Upd.here) (by simp) hx hd go)
    · exact wpAny_assign_Name (stX S' (Upd.there Upd.here) Upd.here go)
  · obtain rfl : i = vs.length := by omega
    refine endL hh S (List.mem_cons_of_mem _ (List.mem_cons_of_mem _ hm)) (Nat.le_refl _) fun s' S' => ?_
    exact ⟨rfl, _, zs, S', fun s'' S'' => fin ys rest s'' hP S''⟩
end

end
-- N1
section
set_option maxRecDepth 100000
section
variable {B : Shared} {fs : List Env} {l l' X : Cells} {s : Shared} {a : Addr} {c : Cell} {h' : Heap} {o : Obj}
/-- some cells are dropped, all else is kept -/
theorem St.buts (S : St B fs (X ++ l) s) (hf : ∀ x ∈ X, x.1 ∉ fs.filterMap (·.frame)) (t : Nat) (k : ∀ b o, b ∉ X.map (·.1) → s.heap.get? b = some o → h'.get? b = some o) : St B fs l { s with heap := h', toks := t } := by
  have nd := S.nd
  rw [List.map_append, List.nodup_append] at nd
  refine ⟨fun b o hb => k b o (fun hm => ?_) (S.base b o hb), fun x hx => ?_, nd.2.1, fun x hx => S.fresh x (List.mem_append_right _ hx), funFrames_at S.frames fun b hb => ?_, S.gens, S.drawn, S.os, S.low, fun x hx => S.big x (List.mem_append_right _ hx), fun x hx => S.soft x (List.mem_append_right _ hx)⟩
  · obtain ⟨x, hx, rfl⟩ := List.mem_map.mp hm
    rw [S.fresh x (List.mem_append_left _ hx)] at hb; cases hb
  · obtain ⟨o, h1, h2⟩ := S.has x (List.mem_append_right _ hx)
    exact ⟨o, k _ _ (fun hm => nd.2.2 _ hm _ (List.mem_map.mpr ⟨x, hx, rfl⟩) rfl) h1, h2⟩
  · obtain ⟨_, o, ho, _⟩ := S.frames.mem hb
    rw [ho]
    exact k _ _ (fun hm => by obtain ⟨x, hx, e⟩ := List.mem_map.mp hm; exact hf x hx (e ▸ hb)) ho
/-- what lies in the heap joins the ledger -/
theorem St.adopt (S : St B fs l s) (ho : s.heap.get? a = some o) (hc : c o) (hB : B.heap.get? a = none) (hm : sysModules < a) (hn : a ∉ l.map (·.1)) (hf : a ∉ fs.filterMap (·.frame)) : St B fs ((a, c) :: l) s :=
  ⟨S.base, fun x hx => by rcases List.mem_cons.mp hx with rfl | hx; (· exact ⟨o, ho, hc⟩); (· exact S.has x hx), List.nodup_cons.mpr ⟨hn, S.nd⟩, fun x hx => by rcases List.mem_cons.mp hx with rfl | hx; (· exact hB); (· exact S.fresh x hx),
    S.frames, S.gens, S.drawn, S.os, S.low, fun x hx => by rcases List.mem_cons.mp hx with rfl | hx; (· exact hm); (· exact S.big x hx), fun x hx h => by rcases List.mem_cons.mp hx with rfl | hx; (· exact (hf h).elim); (· exact S.soft x hx h)⟩
theorem St.new_not (S : St B fs l s) (ha : s.heap.objs.size ≤ a) : a ∉ l.map (·.1) ∧ a ∉ fs.filterMap (·.frame) ∧ B.heap.get? a = none ∧ sysModules < a := by
  refine ⟨fun hm => ?_, fun hm => ?_, ?_, Nat.lt_of_lt_of_le S.size ha⟩
  · obtain ⟨x, hx, e⟩ := List.mem_map.mp hm
    have := S.lt hx
    rw [e] at this; exact absurd (Nat.lt_of_lt_of_le this ha) (Nat.lt_irrefl _)
  · obtain ⟨_, o, ho, _⟩ := S.frames.mem hm
    exact absurd (Nat.lt_of_lt_of_le (Heap.lt_size ho) ha) (Nat.lt_irrefl _)
  · cases q : B.heap.get? a with
    | none => rfl
    | some o => exact absurd (Nat.lt_of_lt_of_le (Heap.lt_size (S.base _ o q)) ha) (Nat.lt_irrefl _)
end
/-- enumerate over a list's iterator -/
def enC (it : Addr) (i : Nat) (old : Value) : Cell := fun o => o = { cls := .type "enumerate", dict := none, data := .fields #[.none, .bool false, .ref it, rawInt i, .none, old], slots := #[] }
def rgC (a b c : Int) (t u v : Tok) : Cell := fun o => o = { cls := .type "range", dict := none, data := .fields #[.int a t, .int b u, .int c v], slots := #[] }
def ritC (x left : Int) : Cell := fun o => o = { cls := .type "range_iterator", dict := none, data := .fields #[rawInt x, rawInt left, rawInt 1], slots := #[] }
section
variable {prog : Program} {w : World} {A : Around} {E : Value → Shared → Prop} {B : Shared} {fs : List Env} {l l' : Cells} {s : Shared} {a e it : Addr} {vs : List Value} {v old : Value} {i : Nat}
theorem enumS {Q : Value → Shared → Prop} (S : St B fs l s) (m : (a, listC vs) ∈ l) (h : ∀ e it s', St B fs ((e, enC it 0 .none) :: (it, litC a 0) :: l) s' → Q (.ref e) s') : wpAny (model prog w) A (call (.type "enumerate") [.ref a]) Q E s := by
  refine call_enumerate_list (S.list m) fun h' he hit hz hk => ?_
  obtain ⟨o, ho, h1, h2⟩ := hit
  have n1 := S.new_not (a := s.heap.objs.size) (Nat.le_refl _)
  have n2 := S.new_not (a := s.heap.objs.size + 1) (Nat.le_succ _)
  have S1 := (S.keeps (h' := h') s.toks hk).adopt (c := litC a 0) ho ⟨h1, h2⟩ n1.2.2.1 n1.2.2.2 n1.1 n1.2.1
  have S2 := S1.adopt (c := enC s.heap.objs.size 0 .none) he rfl n2.2.2.1 n2.2.2.2 (by
    rw [List.map_cons, List.mem_cons, not_or]; exact ⟨Nat.succ_ne_self _, n2.1⟩) n2.2.1
  exact h _ _ _ S2
theorem enumDraw {env : Env} {xi xv : Str} {pi pv tp : Pos} {x1} {Q : Shared → Prop} (hh : A.handled = none) (S : St B fs ((e, enC it i old) :: (it, litC a i) :: l) s) (m : (a, listC vs) ∈ l) (hx : vs[i]? = some v)
    (h : ∀ t s', St B fs ((e, enC it (i + 1) v) :: (it, litC a (i + 1)) :: l) s' → wpAny (model prog w) A (assign (.Name xi pi) env (.int i t)) (fun _ s₁ => wpAny (model prog w) A (assign (.Name xv pv) env v) (fun _ s₂ => Q s₂) E s₁) E s') :
    wpAny (model prog w) A (pyNext (.ref e)) (fun r s₁ => ∃ x, r = some x ∧ wpAny (model prog w) A (letOwnedTupleGo (.Tuple [.Name xi pi, .Name xv pv] x1 tp) (.ref e) x) (fun _ s₂ => wpAny (model prog w) A (assign (.Tuple [.Name xi pi, .Name xv pv] x1 tp) env x) (fun _ s₃ => Q s₃) E s₂) E s₁) E s := by
  have mem2 : ∀ x ∈ [(e, enC it i old), (it, litC a i)], x ∈ (e, enC it i old) :: (it, litC a i) :: l := fun x hx => by
    rcases List.mem_cons.mp hx with rfl | hx
    · exact .head _
    · rw [List.mem_singleton.mp hx]; exact .tail _ (.head _)
  have nd := S.nd
  simp only [List.map_cons, List.nodup_cons, List.mem_cons, not_or] at nd
  obtain ⟨oe, he, rfl⟩ := S.has _ (mem2 _ (.head _))
  obtain ⟨oi, hoi, i1, i2⟩ := S.has _ (mem2 _ (.tail _ (.head _)))
  have fe := S.fields_off (mem2 _ (.head _)) fun o h => ⟨_, congrArg Obj.data h⟩
  have fi := S.fields_off (mem2 _ (.tail _ (.head _))) fun o h => ⟨_, h.2⟩
  have be := S.fresh _ (mem2 _ (.head _))
  have bi := S.fresh _ (mem2 _ (.tail _ (.head _)))
  have ge := S.big _ (mem2 _ (.head _))
  have gi := S.big _ (mem2 _ (.tail _ (.head _)))
  have hel : e < s.heap.objs.size := Heap.lt_size he
  refine wpAny_pyNext_enum_item he ⟨oi, hoi, i1, i2⟩ (S.list (List.mem_cons_of_mem _ (List.mem_cons_of_mem _ m))) (x := v) (by simpa using hx) nd.1.1 fun h₁ heo hit₁ ht₁ hz₁ hk₁ => ⟨_, rfl, ?_⟩
  refine wpAny_letOwnedTupleGo_enum (i := (i : Int) + 1) heo fun h₂ he₂ hs₂ => ?_
  replace hs₂ : Heap.SameBut e h₁ h₂ := hs₂
  have ht₂ : IsTup h₂ s.heap.objs.size #[.int i s.toks, v] := ⟨_, (hs₂.2 _ (Nat.ne_of_gt hel)).trans ht₁, rfl, _, rfl⟩
  refine assign_Tuple_tuple hh ht₂ rfl rfl fun h₃ hx₃ => ?_
  replace hx₃ : Heap.ExtBut h₂.objs.size h₂ h₃ := hx₃
  have hz₂ : h₂.objs.size = s.heap.objs.size + 1 := hs₂.1.trans hz₁
  have k3 : ∀ b o, h₂.get? b = some o → h₃.get? b = some o := fun b o hb => hx₃ b o (Nat.ne_of_lt (Heap.lt_size hb)) hb
  have S0 := St.buts (X := [(e, enC it i old), (it, litC a i)]) (h' := h₃) S (fun x hx => by
    rcases List.mem_cons.mp hx with rfl | hx
    · exact fe
    · rw [List.mem_singleton.mp hx]; exact fi) (s.toks + 1) (fun b o hb ho => by
      simp only [List.map_cons, List.map_nil, List.mem_cons, List.not_mem_nil, or_false, not_or] at hb
      exact k3 b o (hs₂.extBut b o hb.1 (hk₁ b o hb.1 hb.2 ho)))
  obtain ⟨oi', hoi', j1, j2⟩ := hit₁
  have S1 := S0.adopt (a := it) (c := litC a (i + 1)) (k3 _ _ ((hs₂.2 it (fun q => nd.1.1 q.symm)).trans hoi')) ⟨j1, j2⟩ bi gi nd.2.1 fi
  have S2 := S1.adopt (a := e) (c := enC it (i + 1) v) (k3 _ _ he₂) rfl be ge (by rw [List.map_cons, List.mem_cons, not_or]; exact nd.1) fe
  exact assignInOrder_cons (wpAny_mono (h _ _ S2) (fun _ s₁ h₁ => assignInOrder_cons (wpAny_mono h₁ (fun _ s₂ h₂ => assignInOrder_nil h₂) fun _ _ z => z)) fun _ _ z => z)
theorem enumStop {Q : Option Value → Shared → Prop} (hh : A.handled = none) (S : St B fs ((e, enC it i old) :: (it, litC a i) :: l) s) (m : (a, listC vs) ∈ l) (hx : vs.length ≤ i) (h : ∀ s', St B fs l s' → Q none s') :
    wpAny (model prog w) A (pyNext (.ref e)) Q E s := by
  have mem2 : ∀ x ∈ [(e, enC it i old), (it, litC a i)], x ∈ (e, enC it i old) :: (it, litC a i) :: l := fun x hx => by
    rcases List.mem_cons.mp hx with rfl | hx
    · exact .head _
    · rw [List.mem_singleton.mp hx]; exact .tail _ (.head _)
  obtain ⟨oe, he, rfl⟩ := S.has _ (mem2 _ (.head _))
  obtain ⟨oi, hoi, i1, i2⟩ := S.has _ (mem2 _ (.tail _ (.head _)))
  have fe := S.fields_off (mem2 _ (.head _)) fun o h => ⟨_, congrArg Obj.data h⟩
  have fi := S.fields_off (mem2 _ (.tail _ (.head _))) fun o h => ⟨_, h.2⟩
  refine wpAny_pyNext_enum_end hh he ⟨oi, hoi, i1, i2⟩ (S.list (List.mem_cons_of_mem _ (List.mem_cons_of_mem _ m))) (by simpa using hx) fun h₁ hs => h _ ?_
  exact St.buts (X := [(e, enC it i old), (it, litC a i)]) (h' := h₁) S (fun x hx => by
    rcases List.mem_cons.mp hx with rfl | hx
    · exact fe
    · rw [List.mem_singleton.mp hx]; exact fi) s.toks fun b o hb ho => by
      simp only [List.map_cons, List.map_nil, List.mem_cons, List.not_mem_nil, or_false, not_or] at hb
      exact hs b o hb.2 ho
theorem iterEnum {Q : Value → Shared → Prop} (S : St B fs l s) (m : (e, enC it i old) ∈ l) (h : Q (.ref e) s) : wpAny (model prog w) A (pyIter (.ref e)) Q E s := by
  obtain ⟨o, ho, rfl⟩ := S.has _ m
  exact wpAny_pyIter_enum ho h
theorem rangeS {n : Int} {t : Tok} {Q : Value → Shared → Prop} (S : St B fs l s) (h : ∀ r t₁ t₂ s', St B fs ((r, rgC 0 n 1 t₁ t t₂) :: l) s' → Q (.ref r) s') : wpAny (model prog w) A (call (.type "range") [.int n t]) Q E s :=
  call_range_1 (h _ s.toks (s.toks + 1) _ (S.push (c := rgC 0 n 1 s.toks t (s.toks + 1)) rfl (s.toks + 1 + 1)))
theorem iterRange {n : Nat} {k : Int} {t u v : Tok} {r : Addr} {Q : Value → Shared → Prop} (S : St B fs l s) (hk : k = n) (m : (r, rgC 0 k 1 t u v) ∈ l) (hn : n < 1000) (h : ∀ i s', St B fs ((i, ritC 0 n) :: l) s' → Q (.ref i) s') : wpAny (model prog w) A (pyIter (.ref r)) Q E s := by
  subst hk
  obtain ⟨o, ho, rfl⟩ := S.has _ m
  refine wpAny_pyIter_range ho (small_one (by omega) (by omega) (by omega) (by omega)) (h _ _ ?_)
  exact S.push (c := ritC 0 n) (by
    show _ = _
    rw [rangeSize_one, show (if (0 : Int) < n then (n : Int) - 0 else 0) = n by split <;> omega]) s.toks
theorem iterRg {x left : Int} {I : Addr} {Q : Value → Shared → Prop} (S : St B fs l s) (m : (I, ritC x left) ∈ l) (h : Q (.ref I) s) : wpAny (model prog w) A (pyIter (.ref I)) Q E s := by
  obtain ⟨o, ho, rfl⟩ := S.has _ m
  exact wpAny_pyIter_rangeiter ho h
theorem nextRange {x left : Int} {I : Addr} {Q : Option Value → Shared → Prop} (S : St B fs ((I, ritC x left) :: l) s) (hl : 0 < left) (h : ∀ t s', St B fs ((I, ritC (x + 1) (left - 1)) :: l) s' → Q (some (.int x t)) s') : wpAny (model prog w) A (pyNext (.ref I)) Q E s := by
  obtain ⟨o, ho, rfl⟩ := S.has _ List.mem_cons_self
  have fI := S.fields_off List.mem_cons_self fun o h => ⟨_, congrArg Obj.data h⟩
  refine wpAny_pyNext_range_item ho hl fun h' hr hs => h _ _ ?_
  exact S.set Upd.here _ hs hr rfl (.inr ⟨_, _, ho, rfl⟩) fun hm => (fI hm).elim
theorem endRange {x left : Int} {I : Addr} {Q : Option Value → Shared → Prop} (hh : A.handled = none) (S : St B fs ((I, ritC x left) :: l) s) (hl : left ≤ 0) (h : ∀ s', St B fs l s' → Q none s') : wpAny (model prog w) A (pyNext (.ref I)) Q E s := by
  obtain ⟨o, ho, rfl⟩ := S.has _ List.mem_cons_self
  have fI := S.fields_off List.mem_cons_self fun o h => ⟨_, congrArg Obj.data h⟩
  exact wpAny_pyNext_range_end hh ho hl fun h' hs => h _ (S.but fI _ hs)
end

end
-- N2
section
set_option maxRecDepth 100000
abbrev NoE : Value → Shared → Prop := fun _ _ => False
section
variable {prog : Program} {w : World} {A : Around} {E : Value → Shared → Prop} {B : Shared} {fs : List Env} {l : Cells} {s : Shared} {a e it I : Addr} {vs : List Value} {R : Result → Shared → Prop}
/-- one turn of a loop over enumerate: what is left when the body has run -/
def TurnE (fs : List Env) (e it a : Addr) (P : Nat → Shared → Cells → Prop) (R : Result → Shared → Prop) (i : Nat) (f : Flow) (s : Shared) : Prop :=
  match f with
  | .next | .cont => ∃ B' l' old, P (i + 1) B' l' ∧ St B' fs ((e, enC it (i + 1) old) :: (it, litC a (i + 1)) :: l') s
  | .brk => R (.ok .next) s
  | .ret v => R (.ok (.ret v)) s
theorem forEnum {env : Env} {xi xv : Str} {pi pv tp : Pos} {x1} {body : List Stmt} (P : Nat → Shared → Cells → Prop) (hh : A.handled = none) (S : St B fs ((e, enC it 0 .none) :: (it, litC a 0) :: l) s) (h0 : P 0 B l) (hm : ∀ i B l, P i B l → (a, listC vs) ∈ l)
    (step : ∀ i v t B l s old, vs[i]? = some v → P i B l → St B fs ((e, enC it (i + 1) old) :: (it, litC a (i + 1)) :: l) s →
      wpAny (model prog w) A (assign (.Name xi pi) env (.int i t)) (fun _ s₁ => wpAny (model prog w) A (assign (.Name xv pv) env v) (fun _ s₂ => wpAny (model prog w) A (execs body env) (TurnE fs e it a P R i) NoE s₂) NoE s₁) NoE s)
    (fin : ∀ B l s, P vs.length B l → St B fs l s → R (.ok .next) s) :
    codeAny (model prog w) A (.forLoop (.Tuple [.Name xi pi, .Name xv pv] x1 tp) (.ref e) body [] env) R s := by
  refine codeAny_forLoop_any (fun n s => ∃ i B l old, i ≤ vs.length ∧ n = vs.length - i ∧ P i B l ∧ St B fs ((e, enC it i old) :: (it, litC a i) :: l) s) ?_ _ ⟨0, B, l, .none, Nat.zero_le _, rfl, h0, S⟩
  rintro n s ⟨i, B, l, old, hi, rfl, hP, S⟩
  by_cases hlt : i < vs.length
  · refine wpAny_mono (enumDraw (E := NoE) (x1 := x1) (tp := tp) hh S (hm _ _ _ hP) (List.getElem?_eq_getElem hlt) fun t s' S' => step i vs[i] t B l s' _ (List.getElem?_eq_getElem hlt) hP S') (fun r s₁ h₁ => ?_) fun _ _ z => z.elim
    obtain ⟨x, rfl, h₁⟩ := h₁
    refine wpAny_mono h₁ (fun _ s₂ h₂ => wpAny_mono h₂ (fun _ s₃ h₃ => wpAny_mono h₃ (fun f s₄ h₄ => ?_) fun _ _ z => z.elim) fun _ _ z => z.elim) fun _ _ z => z.elim
    cases f with
    | next => obtain ⟨B', l', old', hP', S'⟩ := h₄; exact ⟨vs.length - (i + 1), by omega, i + 1, B', l', old', hlt, rfl, hP', S'⟩
    | cont => obtain ⟨B', l', old', hP', S'⟩ := h₄; exact ⟨vs.length - (i + 1), by omega, i + 1, B', l', old', hlt, rfl, hP', S'⟩
    | brk => exact h₄
    | ret v => exact h₄
  · obtain rfl : i = vs.length := by omega
    exact enumStop hh S (hm _ _ _ hP) (Nat.le_refl _) fun s' S' => wpAny_execs_nil (fin _ _ _ hP S')
def TurnR (fs : List Env) (I : Addr) (n : Nat) (P : Nat → Shared → Cells → Prop) (R : Result → Shared → Prop) (i : Nat) (f : Flow) (s : Shared) : Prop :=
  match f with
  | .next | .cont => ∃ B' l', P (i + 1) B' l' ∧ St B' fs ((I, ritC ((i + 1 : Nat) : Int) ((n : Int) - ((i + 1 : Nat) : Int))) :: l') s
  | .brk => R (.ok .next) s
  | .ret v => R (.ok (.ret v)) s
theorem forRange {env : Env} {x : Str} {px : Pos} {body : List Stmt} {n : Nat} (P : Nat → Shared → Cells → Prop) (hh : A.handled = none) (S : St B fs ((I, ritC 0 n) :: l) s) (h0 : P 0 B l)
    (step : ∀ i t B l s, i < n → P i B l → St B fs ((I, ritC ((i + 1 : Nat) : Int) ((n : Int) - ((i + 1 : Nat) : Int))) :: l) s →
      wpAny (model prog w) A (assign (.Name x px) env (.int i t)) (fun _ s₁ => wpAny (model prog w) A (execs body env) (TurnR fs I n P R i) NoE s₁) NoE s)
    (fin : ∀ B l s, P n B l → St B fs l s → R (.ok .next) s) :
    codeAny (model prog w) A (.forLoop (.Name x px) (.ref I) body [] env) R s := by
  refine codeAny_forLoop (fun m s => ∃ i B l, i ≤ n ∧ m = n - i ∧ P i B l ∧ St B fs ((I, ritC (i : Int) ((n : Int) - (i : Int))) :: l) s) ?_ _ ⟨0, B, l, Nat.zero_le _, rfl, h0, by simpa using S⟩
  rintro m s ⟨i, B, l, hi, rfl, hP, S⟩
  by_cases hlt : i < n
  · refine nextRange S (by omega) fun t s' S' => ?_
    have e1 : (i : Int) + 1 = ((i + 1 : Nat) : Int) := by push_cast; rfl
    have e2 : (n : Int) - (i : Int) - 1 = (n : Int) - ((i + 1 : Nat) : Int) := by push_cast; omega
    rw [e1, e2] at S'
    refine wpAny_mono (step i t B l s' hlt hP S') (fun _ s₁ h₁ => wpAny_mono h₁ (fun f s₂ h₂ => ?_) fun _ _ z => z.elim) fun _ _ z => z.elim
    cases f with
    | next => obtain ⟨B', l', hP', S'⟩ := h₂; exact ⟨n - (i + 1), by omega, i + 1, B', l', hlt, rfl, hP', S'⟩
    | cont => obtain ⟨B', l', hP', S'⟩ := h₂; exact ⟨n - (i + 1), by omega, i + 1, B', l', hlt, rfl, hP', S'⟩
    | brk => exact h₂
    | ret v => exact h₂
  · obtain rfl : i = n := by omega
    exact endRange hh S (by omega) fun s' S' => wpAny_execs_nil (fin _ _ _ hP S')

/-- a list comprehension's loop: any target, tests -/
theorem compLoopT {elt target iter : Expr} {ifs : List Expr} {scope : Scope} {pos : Pos} {it acc : Value} {env : Env} (I : Nat → Shared → Prop)
    (turn : ∀ n s, I n s → wpAny (model prog w) A (pyNext it) (fun r s₁ => match r with
      | none => R (.ok .next) s₁
      | some v => wpAny (model prog w) A (letOwnedTupleGo target it v) (fun _ s₁' => wpAny (model prog w) A (assign target env v) (fun _ s₂ =>
          wpAny (model prog w) A (forIn ifs true fun c r => if r = true then do let ok ← isTrue c env (eval c env); pure (ForInStep.yield ok) else pure (ForInStep.yield r)) (fun ok s₃ =>
            if ok = true then wpAny (model prog w) A (eval elt env) (fun x s₄ =>
              wpAny (model prog w) A (call (.builtin "list.append") [acc, x]) (fun _ s₅ => ∃ m, m < n ∧ I m s₅) NoE s₄) NoE s₃
            else ∃ m, m < n ∧ I m s₃) NoE s₂) NoE s₁') NoE s₁) NoE s)
    (n : Nat) (h : I n s) : codeAny (model prog w) A (.compLoop (.ListComp elt [⟨target, iter, ifs, 0⟩] scope pos) 0 it acc env) R s := by
  refine codeAny_loop rfl I (fun n s hI => ?_) n h
  show wpAny _ A ((compTurn (.ListComp elt [⟨target, iter, ifs, 0⟩] scope pos) 0 it acc env).onRaise (fun x => do noteFrame x env; theTreesLotGoes x)) _ _ s
  refine wpAny_noted ?_
  rw [compTurn_list]
  refine wpAny_bind (wpAny_standAt (wpAny_bind (wpAny_mono (turn n s hI) (fun r s₁ h₁ => ?_) fun _ _ h' => h'.elim)))
  cases r with
  | none => exact wpAny_pure h₁
  | some v =>
    refine wpAny_bind (wpAny_mono h₁ (fun _ s₁' h₁' => ?_) fun _ _ h' => h'.elim)
    refine wpAny_bind (wpAny_mono h₁' (fun _ s₂ h₂ => wpAny_bind (wpAny_mono h₂ (fun ok s₃ h₃ => ?_) fun _ _ h' => h'.elim)) fun _ _ h' => h'.elim)
    cases ok with
    | false => exact wpAny_pure ⟨rfl, h₃⟩
    | true =>
      exact wpAny_bind (wpAny_bind (wpAny_mono h₃ (fun x s₄ h₄ => wpAny_bind (wpAny_mono h₄ (fun _ s₅ h₅ => wpAny_pure (wpAny_pure ⟨rfl, h₅⟩)) fun _ _ h' => h'.elim)) fun _ _ h' => h'.elim))
section
variable {α : Type}
theorem updApp {l l' X : Cells} {x y : Addr × Cell} (u : Upd l x y l') : Upd (X ++ l) x y (X ++ l') := by
  induction X with
  | nil => exact u
  | cons c X ih => exact .there ih
/-- a list comprehension, whatever it draws from -/
theorem compGen {env : Env} {elt target iter : Expr} {ifs : List Expr} {scope : Scope} {pos : Pos} {cl : List (Str × Addr)} {Q : Value → Shared → Prop} {rest₀ : Cells} {n : Nat} {C D : Addr} (ic : Nat → Cell) (X : Nat → Value → Cells) (nm : Nat → α → Names)
    (P : Nat → List Value → Cells → Prop) (V : Nat → α → Prop)
    (draw : ∀ i zs old l s (Q : Shared → Prop), i < n → (zs = [] ∨ ∃ j v, zs = nm j v) → (∃ ys rest, P i ys rest ∧ l = (D, listC ys) :: rest) → St B fs (X i old ++ (C, nsC (relabel scope env) zs) :: l) s →
      (∀ v old s', V i v → St B fs (X (i + 1) old ++ (C, nsC (relabel scope env) (nm i v)) :: l) s' → Q s') →
      wpAny (model prog w) A (pyNext (.ref I)) (fun r s₁ => ∃ x, r = some x ∧ wpAny (model prog w) A (letOwnedTupleGo target (.ref I) x) (fun _ s₂ => wpAny (model prog w) A (assign target (compEnvC scope cl C env) x) (fun _ s₃ => Q s₃) NoE s₂) NoE s₁) NoE s)
    (stop : ∀ zs old ys rest s, P n ys rest → St B fs (X n old ++ (C, nsC (relabel scope env) zs) :: (D, listC ys) :: rest) s → wpAny (model prog w) A (pyNext (.ref I)) (fun r s₁ => r = none ∧ St B fs ((C, nsC (relabel scope env) zs) :: (D, listC ys) :: rest) s₁) NoE s)
    {old₀ : Value} (S : St B fs (X 0 old₀ ++ (C, nsC (relabel scope env) []) :: (D, listC []) :: rest₀) s) (h0 : P 0 [] rest₀) (hz : ∀ i ys rest, P i ys rest → ys.length ≤ sizeLine)
    (step : ∀ i v old ys rest s, i < n → V i v → P i ys rest → St B fs (X (i + 1) old ++ (C, nsC (relabel scope env) (nm i v)) :: (D, listC ys) :: rest) s →
      wpAny (model prog w) A (forIn ifs true fun c r => if r = true then do let ok ← isTrue c (compEnvC scope cl C env) (eval c (compEnvC scope cl C env)); pure (ForInStep.yield ok) else pure (ForInStep.yield r)) (fun ok s₃ =>
        if ok = true then wpAny (model prog w) A (eval elt (compEnvC scope cl C env)) (fun y s₄ => ∃ rest', P (i + 1) (ys ++ [y]) rest' ∧ St B fs (X (i + 1) old ++ (C, nsC (relabel scope env) (nm i v)) :: (D, listC ys) :: rest') s₄) NoE s₃
        else ∃ rest', P (i + 1) ys rest' ∧ St B fs (X (i + 1) old ++ (C, nsC (relabel scope env) (nm i v)) :: (D, listC ys) :: rest') s₃) NoE s)
    (fin : ∀ ys rest s, P n ys rest → St B fs ((D, listC ys) :: rest) s → Q (.ref D) s) :
    codeAny (model prog w) A (.compLoop (.ListComp elt [⟨target, iter, ifs, 0⟩] scope pos) 0 (.ref I) (.ref D) (compEnvC scope cl C env)) (CompR B fs (relabel scope env) C D Q) s := by
  refine compLoopT (fun m s => ∃ i ys rest zs old, i ≤ n ∧ m = n - i ∧ (zs = [] ∨ ∃ j v, zs = nm j v) ∧ P i ys rest ∧ St B fs (X i old ++ (C, nsC (relabel scope env) zs) :: (D, listC ys) :: rest) s) ?_ _ ⟨0, [], rest₀, [], old₀, Nat.zero_le _, rfl, .inl rfl, h0, S⟩
  rintro m s ⟨i, ys, rest, zs, old, hi, rfl, hzs, hP, S⟩
  by_cases hlt : i < n
  · have go : ∀ v old' s', V i v → St B fs (X (i + 1) old' ++ (C, nsC (relabel scope env) (nm i v)) :: (D, listC ys) :: rest) s' →
        wpAny (model prog w) A (forIn ifs true fun c r => if r = true then do let ok ← isTrue c (compEnvC scope cl C env) (eval c (compEnvC scope cl C env)); pure (ForInStep.yield ok) else pure (ForInStep.yield r)) (fun ok s₃ =>
            if ok = true then wpAny (model prog w) A (eval elt (compEnvC scope cl C env)) (fun x s₄ =>
              wpAny (model prog w) A (call (.builtin "list.append") [.ref D, x]) (fun _ s₅ => ∃ m, m < n - i ∧ ∃ i ys rest zs old, i ≤ n ∧ m = n - i ∧ (zs = [] ∨ ∃ j v, zs = nm j v) ∧ P i ys rest ∧ St B fs (X i old ++ (C, nsC (relabel scope env) zs) :: (D, listC ys) :: rest) s₅) NoE s₄) NoE s₃
            else ∃ m, m < n - i ∧ ∃ i ys rest zs old, i ≤ n ∧ m = n - i ∧ (zs = [] ∨ ∃ j v, zs = nm j v) ∧ P i ys rest ∧ St B fs (X i old ++ (C, nsC (relabel scope env) zs) :: (D, listC ys) :: rest) s₃) NoE s' := by
      intro v old' s' hv S'
      refine wpAny_mono (step i v old' ys rest s' hlt hv hP S') (fun ok s₃ h₃ => ?_) fun _ _ z => z.elim
      cases ok with
      | true =>
        rw [if_pos rfl] at h₃ ⊢
        refine wpAny_mono h₃ (fun y s₄ h₄ => ?_) fun _ _ z => z.elim
        obtain ⟨rest', hP', S₄⟩ := h₄
        refine appendL S₄ (updApp (Upd.there Upd.here)) (hz _ _ _ hP) fun s₅ S₅ => ⟨n - (i + 1), by omega, i + 1, ys ++ [y], rest', _, old', hlt, rfl, .inr ⟨_, _, rfl⟩, hP', S₅⟩
      | false =>
        rw [if_neg Bool.false_ne_true] at h₃ ⊢
        obtain ⟨rest', hP', S₄⟩ := h₃
        exact ⟨n - (i + 1), by omega, i + 1, ys, rest', _, old', hlt, rfl, .inr ⟨_, _, rfl⟩, hP', S₄⟩
    refine wpAny_mono (draw i zs old _ s (fun s' => wpAny (model prog w) A (forIn ifs true fun c r => if r = true then do let ok ← isTrue c (compEnvC scope cl C env) (eval c (compEnvC scope cl C env)); pure (ForInStep.yield ok) else pure (ForInStep.yield r)) (fun ok s₃ =>
            if ok = true then wpAny (model prog w) A (eval elt (compEnvC scope cl C env)) (fun x s₄ =>
              wpAny (model prog w) A (call (.builtin "list.append") [.ref D, x]) (fun _ s₅ => ∃ m, m < n - i ∧ ∃ i ys rest zs old, i ≤ n ∧ m = n - i ∧ (zs = [] ∨ ∃ j v, zs = nm j v) ∧ P i ys rest ∧ St B fs (X i old ++ (C, nsC (relabel scope env) zs) :: (D, listC ys) :: rest) s₅) NoE s₄) NoE s₃
            else ∃ m, m < n - i ∧ ∃ i ys rest zs old, i ≤ n ∧ m = n - i ∧ (zs = [] ∨ ∃ j v, zs = nm j v) ∧ P i ys rest ∧ St B fs (X i old ++ (C, nsC (relabel scope env) zs) :: (D, listC ys) :: rest) s₃) NoE s') hlt hzs ⟨ys, rest, hP, rfl⟩ S go) (fun r s₁ h₁ => ?_) fun _ _ z => z
    obtain ⟨x, rfl, h₁⟩ := h₁
    exact h₁
  · obtain rfl : i = n := by omega
    refine wpAny_mono (stop zs old ys rest s hP S) (fun r s₁ h₁ => ?_) fun _ _ z => z
    obtain ⟨rfl, S₁⟩ := h₁
    exact ⟨rfl, _, zs, S₁, fun s'' S'' => fin ys rest s'' hP S''⟩
end
end

end
-- N3
section
set_option maxRecDepth 100000
section
variable {prog : Program} {w : World} {A : Around} {E : Value → Shared → Prop} {B : Shared} {fs : List Env} {l : Cells} {s : Shared} {a e it I C D : Addr} {vs : List Value} {n : Nat}
theorem compRange {env : Env} {elt iter : Expr} {x : Str} {px : Pos} {ifs : List Expr} {scope : Scope} {pos : Pos} {cl : List (Str × Addr)} {Q : Value → Shared → Prop} {rest₀ : Cells} (P : Nat → List Value → Cells → Prop)
    (hx : scope.names.lookup x = some .local) (hd : (x == ("__debug__" : Str)) = false) (hh : A.handled = none)
    (S : St B fs ((I, ritC 0 n) :: (C, nsC (relabel scope env) []) :: (D, listC []) :: rest₀) s) (h0 : P 0 [] rest₀) (hz : ∀ i ys rest, P i ys rest → ys.length ≤ sizeLine)
    (step : ∀ i t ys rest s, i < n → P i ys rest → St B fs ((I, ritC ((i + 1 : Nat) : Int) ((n : Int) - ((i + 1 : Nat) : Int))) :: (C, nsC (relabel scope env) [(x, .int i t)]) :: (D, listC ys) :: rest) s →
      wpAny (model prog w) A (forIn ifs true fun c r => if r = true then do let ok ← isTrue c (compEnvC scope cl C env) (eval c (compEnvC scope cl C env)); pure (ForInStep.yield ok) else pure (ForInStep.yield r)) (fun ok s₃ =>
        if ok = true then wpAny (model prog w) A (eval elt (compEnvC scope cl C env)) (fun y s₄ => ∃ rest', P (i + 1) (ys ++ [y]) rest' ∧ St B fs ((I, ritC ((i + 1 : Nat) : Int) ((n : Int) - ((i + 1 : Nat) : Int))) :: (C, nsC (relabel scope env) [(x, .int i t)]) :: (D, listC ys) :: rest') s₄) NoE s₃
        else ∃ rest', P (i + 1) ys rest' ∧ St B fs ((I, ritC ((i + 1 : Nat) : Int) ((n : Int) - ((i + 1 : Nat) : Int))) :: (C, nsC (relabel scope env) [(x, .int i t)]) :: (D, listC ys) :: rest') s₃) NoE s)
    (fin : ∀ ys rest s, P n ys rest → St B fs ((D, listC ys) :: rest) s → Q (.ref D) s) :
    codeAny (model prog w) A (.compLoop (.ListComp elt [⟨.Name x px, iter, ifs, 0⟩] scope pos) 0 (.ref I) (.ref D) (compEnvC scope cl C env)) (CompR B fs (relabel scope env) C D Q) s := by
  refine compGen (α := Tok) (ic := fun _ _ => True) (fun i _ => [(I, ritC (i : Int) ((n : Int) - (i : Int)))]) (fun i t => [(x, .int i t)]) P (fun _ _ => True) (n := n) (rest₀ := rest₀) (old₀ := .none) ?_ ?_ (by simpa using S) h0 hz (fun i t old ys rest s hi _ hP S => step i t ys rest s hi hP S) fin
  · intro i zs old l s Q hi hzs hl S k
    refine nextRange S (by omega) fun t s' S' => ⟨_, rfl, ?_⟩
    have e1 : (i : Int) + 1 = ((i + 1 : Nat) : Int) := by push_cast; rfl
    have e2 : (n : Int) - (i : Int) - 1 = (n : Int) - ((i + 1 : Nat) : Int) := by push_cast; omega
    rw [e1, e2] at S'
    refine wpAny_of_eq (a := ()) rfl (wpAny_assign_Name ?_)
    rcases hzs with rfl | ⟨j, u, rfl⟩
    · exact stXnew S' (Upd.there Upd.here) (by simp) hx hd fun s'' S'' => k t .none s'' trivial S''
    · exact stX S' (Upd.there Upd.here) Upd.here fun s'' S'' => k t .none s'' trivial S''
  · intro zs old ys rest s hP S
    exact endRange hh S (by omega) fun s' S' => ⟨rfl, S'⟩
theorem compEnum {env : Env} {elt iter : Expr} {xi xv : Str} {pi pv tp : Pos} {x1} {ifs : List Expr} {scope : Scope} {pos : Pos} {cl : List (Str × Addr)} {Q : Value → Shared → Prop} {rest₀ : Cells} (P : Nat → List Value → Cells → Prop)
    (hxi : scope.names.lookup xi = some .local) (hdi : (xi == ("__debug__" : Str)) = false) (hxv : scope.names.lookup xv = some .local) (hdv : (xv == ("__debug__" : Str)) = false) (hne : xv ≠ xi) (hh : A.handled = none)
    (S : St B fs ((e, enC it 0 .none) :: (it, litC a 0) :: (C, nsC (relabel scope env) []) :: (D, listC []) :: rest₀) s) (h0 : P 0 [] rest₀) (ha : ∀ i ys rest, P i ys rest → (a, listC vs) ∈ rest ∧ ys.length ≤ sizeLine)
    (step : ∀ i v t old ys rest s, vs[i]? = some v → P i ys rest → St B fs ((e, enC it (i + 1) old) :: (it, litC a (i + 1)) :: (C, nsC (relabel scope env) [(xv, v), (xi, .int i t)]) :: (D, listC ys) :: rest) s →
      wpAny (model prog w) A (forIn ifs true fun c r => if r = true then do let ok ← isTrue c (compEnvC scope cl C env) (eval c (compEnvC scope cl C env)); pure (ForInStep.yield ok) else pure (ForInStep.yield r)) (fun ok s₃ =>
        if ok = true then wpAny (model prog w) A (eval elt (compEnvC scope cl C env)) (fun y s₄ => ∃ rest', P (i + 1) (ys ++ [y]) rest' ∧ St B fs ((e, enC it (i + 1) old) :: (it, litC a (i + 1)) :: (C, nsC (relabel scope env) [(xv, v), (xi, .int i t)]) :: (D, listC ys) :: rest') s₄) NoE s₃
        else ∃ rest', P (i + 1) ys rest' ∧ St B fs ((e, enC it (i + 1) old) :: (it, litC a (i + 1)) :: (C, nsC (relabel scope env) [(xv, v), (xi, .int i t)]) :: (D, listC ys) :: rest') s₃) NoE s)
    (fin : ∀ ys rest s, P vs.length ys rest → St B fs ((D, listC ys) :: rest) s → Q (.ref D) s) :
    codeAny (model prog w) A (.compLoop (.ListComp elt [⟨.Tuple [.Name xi pi, .Name xv pv] x1 tp, iter, ifs, 0⟩] scope pos) 0 (.ref e) (.ref D) (compEnvC scope cl C env)) (CompR B fs (relabel scope env) C D Q) s := by
  refine compGen (α := Value × Tok) (ic := fun _ _ => True) (fun i old => [(e, enC it i old), (it, litC a i)]) (fun i v => [(xv, v.1), (xi, .int i v.2)]) P (fun i v => vs[i]? = some v.1) (n := vs.length) (rest₀ := rest₀) (old₀ := .none) ?_ ?_ S h0 (fun i ys rest hP => (ha i ys rest hP).2)
    (fun i v old ys rest s hi hv hP S => step i v.1 v.2 old ys rest s hv hP S) fin
  · intro i zs old l s Q hi hzs hl S k
    obtain ⟨ys, rest, hP, rfl⟩ := hl
    refine enumDraw (E := NoE) hh S (List.mem_cons_of_mem _ (List.mem_cons_of_mem _ (ha i ys rest hP).1)) (List.getElem?_eq_getElem hi) fun t s' S' => ?_
    rcases hzs with rfl | ⟨j, u, rfl⟩
    · refine wpAny_assign_Name (stXnew S' (Upd.there (Upd.there Upd.here)) (by simp) hxi hdi fun s₂ S₂ => wpAny_assign_Name (stXnew S₂ (Upd.there (Upd.there Upd.here)) (by simpa using hne) hxv hdv fun s₃ S₃ => ?_))
      exact k (vs[i], t) _ s₃ (List.getElem?_eq_getElem hi) S₃
    · refine wpAny_assign_Name (stX S' (Upd.there (Upd.there Upd.here)) (Upd.there Upd.here) fun s₂ S₂ => wpAny_assign_Name (stX S₂ (Upd.there (Upd.there Upd.here)) Upd.here fun s₃ S₃ => ?_))
      exact k (vs[i], t) _ s₃ (List.getElem?_eq_getElem hi) S₃
  · intro zs old ys rest s hP S
    exact enumStop hh S (List.mem_cons_of_mem _ (List.mem_cons_of_mem _ (ha _ ys rest hP).1)) (Nat.le_refl _) fun s' S' => ⟨rfl, S'⟩
end

end
-- FN1
section
set_option maxRecDepth 100000
abbrev KK (w : World) : Frag := kf w.params
section
variable {w : World}
def fd749 : FuncData := fnD "__init__" "Cache.__init__" [34, 2] (.ref 742) (.ref 748) (.str (S "cachetools") 1255)
theorem fnOk749 : FnOk (KK w) 749 fd749 (inside (stP [34, 2])) where
  at_ := by kernel_rfl
  body_ := rfl
  code := by kernel_rfl
  glob := rfl
  clos := rfl
  blt := rfl
  kind := by kernel_rfl
  co := by kernel_rfl
  cell := by decide +kernel
def fd763 : FuncData := fnD "__getitem__" "Cache.__getitem__" [34, 4] .none (.ref 762) (.str (S "cachetools") 1255)
theorem fnOk763 : FnOk (KK w) 763 fd763 (inside (stP [34, 4])) where
  at_ := by kernel_rfl
  body_ := rfl
  code := by kernel_rfl
  glob := rfl
  clos := rfl
  blt := rfl
  kind := by kernel_rfl
  co := by kernel_rfl
  cell := by decide +kernel
def fd770 : FuncData := fnD "__setitem__" "Cache.__setitem__" [34, 5] .none (.ref 769) (.str (S "cachetools") 1255)
theorem fnOk770 : FnOk (KK w) 770 fd770 (inside (stP [34, 5])) where
  at_ := by kernel_rfl
  body_ := rfl
  code := by kernel_rfl
  glob := rfl
  clos := rfl
  blt := rfl
  kind := by kernel_rfl
  co := by kernel_rfl
  cell := by decide +kernel
def fd777 : FuncData := fnD "__delitem__" "Cache.__delitem__" [34, 6] .none (.ref 776) (.str (S "cachetools") 1255)
theorem fnOk777 : FnOk (KK w) 777 fd777 (inside (stP [34, 6])) where
  at_ := by kernel_rfl
  body_ := rfl
  code := by kernel_rfl
  glob := rfl
  clos := rfl
  blt := rfl
  kind := by kernel_rfl
  co := by kernel_rfl
  cell := by decide +kernel
def fd784 : FuncData := fnD "__contains__" "Cache.__contains__" [34, 7] .none (.ref 783) (.str (S "cachetools") 1255)
theorem fnOk784 : FnOk (KK w) 784 fd784 (inside (stP [34, 7])) where
  at_ := by kernel_rfl
  body_ := rfl
  code := by kernel_rfl
  glob := rfl
  clos := rfl
  blt := rfl
  kind := by kernel_rfl
  co := by kernel_rfl
  cell := by decide +kernel
def fd791 : FuncData := fnD "__missing__" "Cache.__missing__" [34, 8] .none (.ref 790) (.str (S "cachetools") 1255)
theorem fnOk791 : FnOk (KK w) 791 fd791 (inside (stP [34, 8])) where
  at_ := by kernel_rfl
  body_ := rfl
  code := by kernel_rfl
  glob := rfl
  clos := rfl
  blt := rfl
  kind := by kernel_rfl
  co := by kernel_rfl
  cell := by decide +kernel
def fd805 : FuncData := fnD "__len__" "Cache.__len__" [34, 10] .none (.ref 804) (.str (S "cachetools") 1255)
theorem fnOk805 : FnOk (KK w) 805 fd805 (inside (stP [34, 10])) where
  at_ := by kernel_rfl
  body_ := rfl
  code := by kernel_rfl
  glob := rfl
  clos := rfl
  blt := rfl
  kind := by kernel_rfl
  co := by kernel_rfl
  cell := by decide +kernel
def fd859 : FuncData := { fnD "getsizeof" "Cache.getsizeof" [34, 17] .none (.ref 858) (.str (S "cachetools") 1255) with annotations := (some 862) }
theorem fnOk859 : FnOk (KK w) 859 fd859 (inside (stP [34, 17])) where
  at_ := by kernel_rfl
  body_ := rfl
  code := by kernel_rfl
  glob := rfl
  clos := rfl
  blt := rfl
  kind := by kernel_rfl
  co := by kernel_rfl
  cell := by decide +kernel
def fd884 : FuncData := fnD "__init__" "FIFOCache.__init__" [35, 0] (.ref 877) (.ref 883) (.str (S "cachetools") 1255)
theorem fnOk884 : FnOk (KK w) 884 fd884 (inside (stP [35, 0])) where
  at_ := by kernel_rfl
  body_ := rfl
  code := by kernel_rfl
  glob := rfl
  clos := rfl
  blt := rfl
  kind := by kernel_rfl
  co := by kernel_rfl
  cell := by decide +kernel
def fd892 : FuncData := fnD "__setitem__" "FIFOCache.__setitem__" [35, 1] (.ref 885) (.ref 891) (.str (S "cachetools") 1255)
theorem fnOk892 : FnOk (KK w) 892 fd892 (inside (stP [35, 1])) where
  at_ := by kernel_rfl
  body_ := rfl
  code := by kernel_rfl
  glob := rfl
  clos := rfl
  blt := rfl
  kind := by kernel_rfl
  co := by kernel_rfl
  cell := by decide +kernel
def fd900 : FuncData := fnD "__delitem__" "FIFOCache.__delitem__" [35, 2] (.ref 893) (.ref 899) (.str (S "cachetools") 1255)
theorem fnOk900 : FnOk (KK w) 900 fd900 (inside (stP [35, 2])) where
  at_ := by kernel_rfl
  body_ := rfl
  code := by kernel_rfl
  glob := rfl
  clos := rfl
  blt := rfl
  kind := by kernel_rfl
  co := by kernel_rfl
  cell := by decide +kernel
def fd907 : FuncData := fnD "popitem" "FIFOCache.popitem" [35, 3] .none (.ref 906) (.str (S "cachetools") 1255)
theorem fnOk907 : FnOk (KK w) 907 fd907 (inside (stP [35, 3])) where
  at_ := by kernel_rfl
  body_ := rfl
  code := by kernel_rfl
  glob := rfl
  clos := rfl
  blt := rfl
  kind := by kernel_rfl
  co := by kernel_rfl
  cell := by decide +kernel
def fd934 : FuncData := fnD "__init__" "LRUCache.__init__" [36, 0] (.ref 927) (.ref 933) (.str (S "cachetools") 1255)
theorem fnOk934 : FnOk (KK w) 934 fd934 (inside (stP [36, 0])) where
  at_ := by kernel_rfl
  body_ := rfl
  code := by kernel_rfl
  glob := rfl
  clos := rfl
  blt := rfl
  kind := by kernel_rfl
  co := by kernel_rfl
  cell := by decide +kernel
def fd942 : FuncData := fnD "__getitem__" "LRUCache.__getitem__" [36, 1] (.ref 935) (.ref 941) (.str (S "cachetools") 1255)
theorem fnOk942 : FnOk (KK w) 942 fd942 (inside (stP [36, 1])) where
  at_ := by kernel_rfl
  body_ := rfl
  code := by kernel_rfl
  glob := rfl
  clos := rfl
  blt := rfl
  kind := by kernel_rfl
  co := by kernel_rfl
  cell := by decide +kernel
def fd950 : FuncData := fnD "__setitem__" "LRUCache.__setitem__" [36, 2] (.ref 943) (.ref 949) (.str (S "cachetools") 1255)
theorem fnOk950 : FnOk (KK w) 950 fd950 (inside (stP [36, 2])) where
  at_ := by kernel_rfl
  body_ := rfl
  code := by kernel_rfl
  glob := rfl
  clos := rfl
  blt := rfl
  kind := by kernel_rfl
  co := by kernel_rfl
  cell := by decide +kernel
def fd958 : FuncData := fnD "__delitem__" "LRUCache.__delitem__" [36, 3] (.ref 951) (.ref 957) (.str (S "cachetools") 1255)
theorem fnOk958 : FnOk (KK w) 958 fd958 (inside (stP [36, 3])) where
  at_ := by kernel_rfl
  body_ := rfl
  code := by kernel_rfl
  glob := rfl
  clos := rfl
  blt := rfl
  kind := by kernel_rfl
  co := by kernel_rfl
  cell := by decide +kernel
def fd965 : FuncData := fnD "popitem" "LRUCache.popitem" [36, 4] .none (.ref 964) (.str (S "cachetools") 1255)
theorem fnOk965 : FnOk (KK w) 965 fd965 (inside (stP [36, 4])) where
  at_ := by kernel_rfl
  body_ := rfl
  code := by kernel_rfl
  glob := rfl
  clos := rfl
  blt := rfl
  kind := by kernel_rfl
  co := by kernel_rfl
  cell := by decide +kernel
def fd979 : FuncData := fnD "__touch" "LRUCache.__touch" [36, 6] .none (.ref 978) (.str (S "cachetools") 1255)
theorem fnOk979 : FnOk (KK w) 979 fd979 (inside (stP [36, 6])) where
  at_ := by kernel_rfl
  body_ := rfl
  code := by kernel_rfl
  glob := rfl
  clos := rfl
  blt := rfl
  kind := by kernel_rfl
  co := by kernel_rfl
  cell := by decide +kernel
def fd1056 : FuncData := fnD "__init__" "_TimedCache.__init__" [37, 1] (.ref 1049) (.ref 1055) (.str (S "cachetools") 1255)
theorem fnOk1056 : FnOk (KK w) 1056 fd1056 (inside (stP [37, 1])) where
  at_ := by kernel_rfl
  body_ := rfl
  code := by kernel_rfl
  glob := rfl
  clos := rfl
  blt := rfl
  kind := by kernel_rfl
  co := by kernel_rfl
  cell := by decide +kernel
def fd1072 : FuncData := fnD "__len__" "_TimedCache.__len__" [37, 3] (.ref 1065) (.ref 1071) (.str (S "cachetools") 1255)
theorem fnOk1072 : FnOk (KK w) 1072 fd1072 (inside (stP [37, 3])) where
  at_ := by kernel_rfl
  body_ := rfl
  code := by kernel_rfl
  glob := rfl
  clos := rfl
  blt := rfl
  kind := by kernel_rfl
  co := by kernel_rfl
  cell := by decide +kernel
def fd1088 : FuncData := fnD "timer" "_TimedCache.timer" [37, 5] .none (.ref 1087) (.str (S "cachetools") 1255)
theorem fnOk1088 : FnOk (KK w) 1088 fd1088 (inside (stP [37, 5])) where
  at_ := by kernel_rfl
  body_ := rfl
  code := by kernel_rfl
  glob := rfl
  clos := rfl
  blt := rfl
  kind := by kernel_rfl
  co := by kernel_rfl
  cell := by decide +kernel
def fd1006 : FuncData := fnD "__init__" "_TimedCache._Timer.__init__" [37, 0, 0] .none (.ref 1005) (.str (S "cachetools") 1255)
theorem fnOk1006 : FnOk (KK w) 1006 fd1006 (inside (stP [37, 0, 0])) where
  at_ := by kernel_rfl
  body_ := rfl
  code := by kernel_rfl
  glob := rfl
  clos := rfl
  blt := rfl
  kind := by kernel_rfl
  co := by kernel_rfl
  cell := by decide +kernel
def fd1013 : FuncData := fnD "__call__" "_TimedCache._Timer.__call__" [37, 0, 1] .none (.ref 1012) (.str (S "cachetools") 1255)
theorem fnOk1013 : FnOk (KK w) 1013 fd1013 (inside (stP [37, 0, 1])) where
  at_ := by kernel_rfl
  body_ := rfl
  code := by kernel_rfl
  glob := rfl
  clos := rfl
  blt := rfl
  kind := by kernel_rfl
  co := by kernel_rfl
  cell := by decide +kernel
def fd1020 : FuncData := fnD "__enter__" "_TimedCache._Timer.__enter__" [37, 0, 2] .none (.ref 1019) (.str (S "cachetools") 1255)
theorem fnOk1020 : FnOk (KK w) 1020 fd1020 (inside (stP [37, 0, 2])) where
  at_ := by kernel_rfl
  body_ := rfl
  code := by kernel_rfl
  glob := rfl
  clos := rfl
  blt := rfl
  kind := by kernel_rfl
  co := by kernel_rfl
  cell := by decide +kernel
def fd1027 : FuncData := fnD "__exit__" "_TimedCache._Timer.__exit__" [37, 0, 3] .none (.ref 1026) (.str (S "cachetools") 1255)
theorem fnOk1027 : FnOk (KK w) 1027 fd1027 (inside (stP [37, 0, 3])) where
  at_ := by kernel_rfl
  body_ := rfl
  code := by kernel_rfl
  glob := rfl
  clos := rfl
  blt := rfl
  kind := by kernel_rfl
  co := by kernel_rfl
  cell := by decide +kernel
def fd1192 : FuncData := fnD "__init__" "TTLCache.__init__" [41, 1] (.ref 1185) (.ref 1191) (.str (S "cachetools") 1764)
theorem fnOk1192 : FnOk (KK w) 1192 fd1192 (inside (stP [41, 1])) where
  at_ := by kernel_rfl
  body_ := rfl
  code := by kernel_rfl
  glob := rfl
  clos := rfl
  blt := rfl
  kind := by kernel_rfl
  co := by kernel_rfl
  cell := by decide +kernel
def fd1199 : FuncData := fnD "__contains__" "TTLCache.__contains__" [41, 2] .none (.ref 1198) (.str (S "cachetools") 1764)
theorem fnOk1199 : FnOk (KK w) 1199 fd1199 (inside (stP [41, 2])) where
  at_ := by kernel_rfl
  body_ := rfl
  code := by kernel_rfl
  glob := rfl
  clos := rfl
  blt := rfl
  kind := by kernel_rfl
  co := by kernel_rfl
  cell := by decide +kernel
def fd1207 : FuncData := fnD "__getitem__" "TTLCache.__getitem__" [41, 3] (.ref 1200) (.ref 1206) (.str (S "cachetools") 1764)
theorem fnOk1207 : FnOk (KK w) 1207 fd1207 (inside (stP [41, 3])) where
  at_ := by kernel_rfl
  body_ := rfl
  code := by kernel_rfl
  glob := rfl
  clos := rfl
  blt := rfl
  kind := by kernel_rfl
  co := by kernel_rfl
  cell := by decide +kernel
def fd1215 : FuncData := fnD "__setitem__" "TTLCache.__setitem__" [41, 4] (.ref 1208) (.ref 1214) (.str (S "cachetools") 1764)
theorem fnOk1215 : FnOk (KK w) 1215 fd1215 (inside (stP [41, 4])) where
  at_ := by kernel_rfl
  body_ := rfl
  code := by kernel_rfl
  glob := rfl
  clos := rfl
  blt := rfl
  kind := by kernel_rfl
  co := by kernel_rfl
  cell := by decide +kernel
def fd1223 : FuncData := fnD "__delitem__" "TTLCache.__delitem__" [41, 5] (.ref 1216) (.ref 1222) (.str (S "cachetools") 1764)
theorem fnOk1223 : FnOk (KK w) 1223 fd1223 (inside (stP [41, 5])) where
  at_ := by kernel_rfl
  body_ := rfl
  code := by kernel_rfl
  glob := rfl
  clos := rfl
  blt := rfl
  kind := by kernel_rfl
  co := by kernel_rfl
  cell := by decide +kernel
def fd1253 : FuncData := fnD "expire" "TTLCache.expire" [41, 9] (.ref 1246) (.ref 1252) (.str (S "cachetools") 1764)
theorem fnOk1253 : FnOk (KK w) 1253 fd1253 (inside (stP [41, 9])) where
  at_ := by kernel_rfl
  body_ := rfl
  code := by kernel_rfl
  glob := rfl
  clos := rfl
  blt := rfl
  kind := by kernel_rfl
  co := by kernel_rfl
  cell := by decide +kernel
def fd1260 : FuncData := fnD "popitem" "TTLCache.popitem" [41, 10] .none (.ref 1259) (.str (S "cachetools") 1764)
theorem fnOk1260 : FnOk (KK w) 1260 fd1260 (inside (stP [41, 10])) where
  at_ := by kernel_rfl
  body_ := rfl
  code := by kernel_rfl
  glob := rfl
  clos := rfl
  blt := rfl
  kind := by kernel_rfl
  co := by kernel_rfl
  cell := by decide +kernel
def fd1160 : FuncData := fnD "__init__" "TTLCache._Link.__init__" [41, 0, 1] (.ref 1153) (.ref 1159) (.str (S "cachetools") 1764)
theorem fnOk1160 : FnOk (KK w) 1160 fd1160 (inside (stP [41, 0, 1])) where
  at_ := by kernel_rfl
  body_ := rfl
  code := by kernel_rfl
  glob := rfl
  clos := rfl
  blt := rfl
  kind := by kernel_rfl
  co := by kernel_rfl
  cell := by decide +kernel
def fd1174 : FuncData := fnD "unlink" "TTLCache._Link.unlink" [41, 0, 3] .none (.ref 1173) (.str (S "cachetools") 1764)
theorem fnOk1174 : FnOk (KK w) 1174 fd1174 (inside (stP [41, 0, 3])) where
  at_ := by kernel_rfl
  body_ := rfl
  code := by kernel_rfl
  glob := rfl
  clos := rfl
  blt := rfl
  kind := by kernel_rfl
  co := by kernel_rfl
  cell := by decide +kernel
def fd1411 : FuncData := fnD "__init__" "TLRUCache.__init__" [57, 2] (.ref 1404) (.ref 1410) (.str (S "cachetools") 2084)
theorem fnOk1411 : FnOk (KK w) 1411 fd1411 (inside (stP [57, 2])) where
  at_ := by kernel_rfl
  body_ := rfl
  code := by kernel_rfl
  glob := rfl
  clos := rfl
  blt := rfl
  kind := by kernel_rfl
  co := by kernel_rfl
  cell := by decide +kernel
def fd1418 : FuncData := fnD "__contains__" "TLRUCache.__contains__" [57, 3] .none (.ref 1417) (.str (S "cachetools") 2084)
theorem fnOk1418 : FnOk (KK w) 1418 fd1418 (inside (stP [57, 3])) where
  at_ := by kernel_rfl
  body_ := rfl
  code := by kernel_rfl
  glob := rfl
  clos := rfl
  blt := rfl
  kind := by kernel_rfl
  co := by kernel_rfl
  cell := by decide +kernel
def fd1426 : FuncData := fnD "__getitem__" "TLRUCache.__getitem__" [57, 4] (.ref 1419) (.ref 1425) (.str (S "cachetools") 2084)
theorem fnOk1426 : FnOk (KK w) 1426 fd1426 (inside (stP [57, 4])) where
  at_ := by kernel_rfl
  body_ := rfl
  code := by kernel_rfl
  glob := rfl
  clos := rfl
  blt := rfl
  kind := by kernel_rfl
  co := by kernel_rfl
  cell := by decide +kernel
def fd1434 : FuncData := fnD "__setitem__" "TLRUCache.__setitem__" [57, 5] (.ref 1427) (.ref 1433) (.str (S "cachetools") 2084)
theorem fnOk1434 : FnOk (KK w) 1434 fd1434 (inside (stP [57, 5])) where
  at_ := by kernel_rfl
  body_ := rfl
  code := by kernel_rfl
  glob := rfl
  clos := rfl
  blt := rfl
  kind := by kernel_rfl
  co := by kernel_rfl
  cell := by decide +kernel
def fd1442 : FuncData := fnD "__delitem__" "TLRUCache.__delitem__" [57, 6] (.ref 1435) (.ref 1441) (.str (S "cachetools") 2084)
theorem fnOk1442 : FnOk (KK w) 1442 fd1442 (inside (stP [57, 6])) where
  at_ := by kernel_rfl
  body_ := rfl
  code := by kernel_rfl
  glob := rfl
  clos := rfl
  blt := rfl
  kind := by kernel_rfl
  co := by kernel_rfl
  cell := by decide +kernel
def fd1463 : FuncData := fnD "expire" "TLRUCache.expire" [57, 9] (.ref 1458) (.ref 1462) (.str (S "cachetools") 2084)
theorem fnOk1463 : FnOk (KK w) 1463 fd1463 (inside (stP [57, 9])) where
  at_ := by kernel_rfl
  body_ := rfl
  code := by kernel_rfl
  glob := rfl
  clos := rfl
  blt := rfl
  kind := by kernel_rfl
  co := by kernel_rfl
  cell := by decide +kernel
def fd1470 : FuncData := fnD "popitem" "TLRUCache.popitem" [57, 10] .none (.ref 1469) (.str (S "cachetools") 2084)
theorem fnOk1470 : FnOk (KK w) 1470 fd1470 (inside (stP [57, 10])) where
  at_ := by kernel_rfl
  body_ := rfl
  code := by kernel_rfl
  glob := rfl
  clos := rfl
  blt := rfl
  kind := by kernel_rfl
  co := by kernel_rfl
  cell := by decide +kernel
def fd1386 : FuncData := fnD "__init__" "TLRUCache._Item.__init__" [57, 1, 1] (.ref 1379) (.ref 1385) (.str (S "cachetools") 2084)
theorem fnOk1386 : FnOk (KK w) 1386 fd1386 (inside (stP [57, 1, 1])) where
  at_ := by kernel_rfl
  body_ := rfl
  code := by kernel_rfl
  glob := rfl
  clos := rfl
  blt := rfl
  kind := by kernel_rfl
  co := by kernel_rfl
  cell := by decide +kernel
def fd1393 : FuncData := fnD "__lt__" "TLRUCache._Item.__lt__" [57, 1, 2] .none (.ref 1392) (.str (S "cachetools") 2084)
theorem fnOk1393 : FnOk (KK w) 1393 fd1393 (inside (stP [57, 1, 2])) where
  at_ := by kernel_rfl
  body_ := rfl
  code := by kernel_rfl
  glob := rfl
  clos := rfl
  blt := rfl
  kind := by kernel_rfl
  co := by kernel_rfl
  cell := by decide +kernel
def fd1497 : FuncData := fnD "_law_asks" "_law_asks" [59] .none (.ref 1496) (.str (S "law_bg0032_01") 2281)
theorem fnOk1497 : FnOk (KK w) 1497 fd1497 (inside (stP [59])) where
  at_ := by kernel_rfl
  body_ := rfl
  code := by kernel_rfl
  glob := rfl
  clos := rfl
  blt := rfl
  kind := by kernel_rfl
  co := by kernel_rfl
  cell := by decide +kernel
def fd1509 : FuncData := fnD "_law_clock" "_law_clock" [61] .none (.ref 1508) (.str (S "law_bg0032_01") 2281)
theorem fnOk1509 : FnOk (KK w) 1509 fd1509 (inside (stP [61])) where
  at_ := by kernel_rfl
  body_ := rfl
  code := by kernel_rfl
  glob := rfl
  clos := rfl
  blt := rfl
  kind := by kernel_rfl
  co := by kernel_rfl
  cell := by decide +kernel
def fd1516 : FuncData := fnD "_law_end" "_law_end" [62] .none (.ref 1515) (.str (S "law_bg0032_01") 2281)
theorem fnOk1516 : FnOk (KK w) 1516 fd1516 (inside (stP [62])) where
  at_ := by kernel_rfl
  body_ := rfl
  code := by kernel_rfl
  glob := rfl
  clos := rfl
  blt := rfl
  kind := by kernel_rfl
  co := by kernel_rfl
  cell := by decide +kernel
end

end
-- C0
section
set_option maxRecDepth 100000
abbrev aClock : Addr := 1509
abbrev fdClock : FuncData := fd1509
abbrev pathClock : List Nat := [61]
theorem fnOkClock {w : World} : FnOk (KK w) aClock fdClock (inside (stP pathClock)) := fnOk1509
abbrev aEnd : Addr := 1516
abbrev fdEnd : FuncData := fd1516
abbrev pathEnd : List Nat := [62]
theorem fnOkEnd {w : World} : FnOk (KK w) aEnd fdEnd (inside (stP pathEnd)) := fnOk1516
abbrev lifeV : Int := 5
abbrev endV : Int := 105
abbrev hcfV : Value := .int 2 2098

end
-- N4
section
set_option maxRecDepth 100000
/-- the frame of a function with cells -/
def cenv (sc : Scope) (q : Str) (L fa : Addr) (cd : Value) : Env := newEnv sc L mainGlobals (cellsFrom (L + 1) sc.names []) (q ++ ".<locals>.") (some fa) cd none builtinsNs
def cellC (v : Option Value) : Cell := fun o => o.data = .cell v
theorem soft_cellC {v : Option Value} : Soft (cellC v) := fun _ _ h => h
def cellsN (L : Addr) : Nat → Cells
  | 0 => []
  | n + 1 => (L + 1 + n, cellC none) :: cellsN L n
theorem mem_cellsN {L : Addr} : ∀ {n : Nat} {x : Addr × Cell}, x ∈ cellsN L n → ∃ i, i < n ∧ x = (L + 1 + i, cellC none)
  | n + 1, x, h => by
    rcases List.mem_cons.mp h with rfl | h
    · exact ⟨n, Nat.lt_succ_self _, rfl⟩
    · obtain ⟨i, hi, e⟩ := mem_cellsN h; exact ⟨i, Nat.lt_succ_of_lt hi, e⟩
section
variable {M : Model} {A : Around} {E : Value → Shared → Prop} {B : Shared} {fs : List Env} {l l' : Cells} {s : Shared} {q : Str} {sc : Scope} {L fa c : Addr} {cd : Value} {xs xs' : Names}
theorem St.cell {v : Option Value} (S : St B fs l s) (m : (c, cellC v) ∈ l) : s.heap.IsCell c v := let ⟨o, ho, h⟩ := S.has _ m; ⟨o, ho, h⟩
theorem ldV {x : Str} {pos : Pos} {v : Value} {Q : Value → Shared → Prop} (S : St B fs l s) (m : (L, nsC sc xs) ∈ l) (mv : (x, v) ∈ xs) (h : Q v s) :
    wpAny M A (eval (.Name x pos) (cenv sc q L fa cd)) Q E s :=
  let ⟨n, nd, hk, hl⟩ := S.ns m
  wpAny_Name (wpAny_loadName_local hk (hl _ mv).1 n (lookup_of_mem nd mv) h) (hl _ mv).2
theorem ldK {x : Str} {pos : Pos} {v : Value} {Q : Value → Shared → Prop} (S : St B fs l s) (m : (c, cellC (some v)) ∈ l) (hc : (cellsFrom (L + 1) sc.names []).lookup x = some c) (hl : sc.names.lookup x = some .cell) (hd : (x == ("__debug__" : Str)) = false) (hk : sc.kind = .function) (h : Q v s) :
    wpAny M A (eval (.Name x pos) (cenv sc q L fa cd)) Q E s :=
  wpAny_Name (wpAny_loadName_cell hk hl hc (S.cell m) h) hd
theorem stV {x : Str} {u v : Value} {Q : Unit → Shared → Prop} (S : St B fs l s) (m : Upd l (L, nsC sc xs) (L, nsC sc xs') l') (p : Upd xs (x, u) (x, v) xs') (h : ∀ s', St B fs l' s' → Q () s') :
    wpAny M A (storeName (cenv sc q L fa cd) x v) Q E s := by
  obtain ⟨n, nd, hk, hl⟩ := S.ns m.mem
  refine wpAny_storeName_local (hl _ p.mem).1 n (fun h' hn hs => h _ ?_) (by show (sc.kind == .class || (sc.kind == .module && L != mainGlobals)) = false; rw [hk]; rfl)
  obtain ⟨o, es, ep, ho, hd, hk', hf⟩ := hn
  refine S.set m _ hs ho ⟨⟨es, ep, hd, hk', fun y => (hf y).trans (p.lookup nd y)⟩, (p.keys (f := (·.1)) rfl) ▸ nd, hk, ?_⟩ (.inl fun vs e => by rw [hd] at e; cases e) fun _ => soft_nsC
  intro q hq
  have : q.1 ∈ xs'.map (·.1) := List.mem_map.mpr ⟨q, hq, rfl⟩
  rw [p.keys (f := (·.1)) rfl] at this
  obtain ⟨r, hr, e⟩ := List.mem_map.mp this
  exact e ▸ hl r hr
theorem stVnew {x : Str} {v : Value} {Q : Unit → Shared → Prop} (S : St B fs l s) (m : Upd l (L, nsC sc xs) (L, nsC sc ((x, v) :: xs)) l') (h : ∀ s', St B fs l' s' → Q () s') (hx : x ∉ xs.map (·.1))
    (hl : sc.names.lookup x = some .local) (hd : (x == ("__debug__" : Str)) = false) :
    wpAny M A (storeName (cenv sc q L fa cd) x v) Q E s := by
  obtain ⟨n, nd, hk, hls⟩ := S.ns m.mem
  refine wpAny_storeName_local hl n (fun h' hn hs => h _ ?_) (by show (sc.kind == .class || (sc.kind == .module && L != mainGlobals)) = false; rw [hk]; rfl)
  obtain ⟨o, es, ep, ho, hd', hk', hf⟩ := hn
  refine S.set m _ hs ho ⟨⟨es, ep, hd', hk', fun y => (hf y).trans (lookup_cons_new y)⟩, by rw [List.map_cons]; exact List.nodup_cons.mpr ⟨hx, nd⟩, hk, fun q hq => ?_⟩ (.inl fun vs e => by rw [hd'] at e; cases e) fun _ => soft_nsC
  rcases List.mem_cons.mp hq with rfl | hq
  · exact ⟨hl, hd⟩
  · exact hls q hq
theorem stK {x : Str} {u : Option Value} {v : Value} {Q : Unit → Shared → Prop} (S : St B fs l s) (hc : (cellsFrom (L + 1) sc.names []).lookup x = some c) (m : Upd l (c, cellC u) (c, cellC (some v)) l') (hl : sc.names.lookup x = some .cell) (hk : sc.kind = .function) (h : ∀ s', St B fs l' s' → Q () s') :
    wpAny M A (storeName (cenv sc q L fa cd) x v) Q E s := by
  refine wpAny_storeName_cell hk hl hc (S.cell m.mem) fun h' hc' hs => h _ ?_
  obtain ⟨o, ho, hd⟩ := hc'
  exact S.set m _ hs ho hd (.inl fun vs e => by rw [hd] at e; cases e) fun _ => soft_cellC
variable {K : Frag}
theorem ldVG {x : Str} {pos : Pos} {v : Value} {Q : Value → Shared → Prop} (T : Stat K B.heap) (S : St B fs l s) (e : nsIn K mainGlobals x = some (some v)) (hx : sc.names.lookup x = some .globalImplicit) (hd : (x == ("__debug__" : Str)) = false) (hk : sc.kind = .function) (h : Q v s) :
    wpAny M A (eval (.Name x pos) (cenv sc q L fa cd)) Q E s := by
  obtain ⟨X, _, mg, mb, h1, h2, h3⟩ := S.stat T
  exact Calls.Name_function_global hk hx (Calls.loadGlobal_global (env := cenv sc q L fa cd) h1 (mg_of X h1 e) h) hd
theorem ldVB {x : Str} {pos : Pos} {v : Value} {Q : Value → Shared → Prop} (T : Stat K B.heap) (S : St B fs l s) (e : nsIn K mainGlobals x = some none) (hv : bootBuiltins x = some v) (hn : x ≠ "__name__") (hx : sc.names.lookup x = some .globalImplicit) (hd : (x == ("__debug__" : Str)) = false) (hk : sc.kind = .function) (h : Q v s) :
    wpAny M A (eval (.Name x pos) (cenv sc q L fa cd)) Q E s := by
  obtain ⟨X, _, mg, mb, h1, h2, h3⟩ := S.stat T
  exact Calls.Name_function_global hk hx (Calls.loadGlobal_builtin (env := cenv sc q L fa cd) h1 (mg_none_of X h1 e) h2 ((h3 x hn).trans hv) h) hd
/-- in a comprehension inside: the cell of the function around it -/
theorem ldXK {env : Env} {scope : Scope} {cl : List (Str × Addr)} {C : Addr} {x : Str} {pos : Pos} {v : Value} {Q : Value → Shared → Prop} (S : St B fs l s) (m : (c, cellC (some v)) ∈ l) (hl : (relabel scope env).names.lookup x = some .cell) (hc : cl.lookup x = some c) (hd : (x == ("__debug__" : Str)) = false) (hk : scope.kind = .function) (h : Q v s) :
    wpAny M A (eval (.Name x pos) (compEnvC scope cl C env)) Q E s :=
  wpAny_Name (wpAny_loadName_cell hk hl hc (S.cell m) h) hd
theorem ldXB {scope : Scope} {cl : List (Str × Addr)} {C : Addr} {x : Str} {pos : Pos} {v : Value} {Q : Value → Shared → Prop} (T : Stat K B.heap) (S : St B fs l s) (e : nsIn K mainGlobals x = some none) (hv : bootBuiltins x = some v) (hn : x ≠ "__name__") (hx : (relabel scope (cenv sc q L fa cd)).names.lookup x = some .globalImplicit) (hd : (x == ("__debug__" : Str)) = false) (hk : scope.kind = .function) (h : Q v s) :
    wpAny M A (eval (.Name x pos) (compEnvC scope cl C (cenv sc q L fa cd))) Q E s := by
  obtain ⟨X, _, mg, mb, h1, h2, h3⟩ := S.stat T
  exact Calls.Name_function_global hk hx (Calls.loadGlobal_builtin (env := compEnvC scope cl C (cenv sc q L fa cd)) h1 (mg_none_of X h1 e) h2 ((h3 x hn).trans hv) h) hd
end
section
variable {prog : Program} {w : World} {A : Around} {B : Shared} {fs : List Env} {l : Cells} {s : Shared} {K : Frag} {f : Addr} {fd : FuncData} {o : Obj} {body : List Stmt} {vals : List Value} {x : Str} {v : Value} {R : Result → Shared → Prop} {n k : Nat}
theorem St.adoptN {L : Addr} (S : St B fs l s) (hL : ∀ a, L < a → a ∉ l.map (·.1) ∧ a ∉ fs.filterMap (·.frame) ∧ B.heap.get? a = none ∧ sysModules < a) : ∀ {k : Nat}, (∀ i, i < k → s.heap.IsCell (L + 1 + i) none) → St B fs (cellsN L k ++ l) s
  | 0, _ => S
  | k + 1, h => by
    have S' := S.adoptN hL (k := k) fun i hi => h i (Nat.lt_succ_of_lt hi)
    obtain ⟨o, ho, hd⟩ := h k (Nat.lt_succ_self _)
    have := hL (L + 1 + k) (Nat.lt_of_lt_of_le (Nat.lt_succ_self L) (Nat.le_add_right _ _))
    refine S'.adopt ho hd this.2.2.1 this.2.2.2 (fun hm => ?_) this.2.1
    rw [List.map_append, List.mem_append] at hm
    rcases hm with hm | hm
    · obtain ⟨y, hy, e⟩ := List.mem_map.mp hm
      obtain ⟨i, hi, rfl⟩ := mem_cellsN hy
      have e' : i = k := Nat.add_left_cancel (n := L + 1) e
      exact absurd hi (by rw [e']; exact Nat.lt_irrefl _)
    · exact this.1 hm
theorem callC (ho : s.heap.get? f = some o) (hd : o.data = .func fd) (hcd : s.heap.CodeRec fd.code fd.qualname) (hbody : fd.body = .stmts body) (hclo : fd.closure = []) (hg : fd.globals = mainGlobals) (hbl : fd.builtins = builtinsNs)
    (T : Stat K B.heap) (S : St B fs l s) (r : Room (n + 1) fs A) (hbind : bindArgs fd ⟨vals, []⟩ = pure [(x, v)]) (hx : fd.scope.names.lookup x = some .local) (hdx : (x == ("__debug__" : Str)) = false)
    (hcell : ∀ L i, i < k → ∃ n, (cellsFrom (L + 1) fd.scope.names []).lookup n = some (L + 1 + i)) (hco : fd.scope.isCoroutine = false) (hgen : fd.scope.isGenerator = false) (hk : fd.scope.kind = .function)
    (h : ∀ L s', Room n (cenv fd.scope fd.qualname L f fd.code :: fs) (A.deeper (cenv fd.scope fd.qualname L f fd.code)) → St B (cenv fd.scope fd.qualname L f fd.code :: fs) (cellsN L k ++ (L, nsC fd.scope [(x, v)]) :: l) s' →
      wpAny (model prog w) (A.deeper (cenv fd.scope fd.qualname L f fd.code)) (execs body (cenv fd.scope fd.qualname L f fd.code)) (fun fl s' => R (.ok (.ret (match fl with | .ret v => v | _ => .none))) s') NoE s') :
    codeAny (model prog w) A (.call (.ref f) ⟨vals, []⟩) R s := by
  have T' := S.stat T
  have env : ∀ L, callEnvC fd L f = cenv fd.scope fd.qualname L f fd.code := fun L => by
    unfold callEnvC cenv; rw [hg, hbl]
  refine codeAny_call_cells (body := body) r.room ho hd T'.lim hcd hbody hbind hclo (fun y hy => .inl ?_) (fun s₁ I => ?_) hco hgen hk
  · rw [List.mem_singleton.mp hy]; exact hx
  rw [env] at I ⊢
  have hkind : (cenv fd.scope fd.qualname s.heap.objs.size f fd.code).kindOf x = some .local := hx
  have hkn : ((cenv fd.scope fd.qualname s.heap.objs.size f fd.code).kindOf x = some NameKind.local) = True := eq_true hkind
  simp only [bindL, bindC, hkn, if_true] at I
  obtain ⟨h', tk, rfl⟩ := I.toInCall.same
  obtain ⟨oL, es, ep, hL, h1, h2, h3⟩ := I.toInCall.ns
  have hnew := fun a (ha : s.heap.objs.size ≤ a) => S.new_not (a := a) ha
  have n0 := hnew _ (Nat.le_refl _)
  have S0 := (S.keeps (h' := h') tk I.toInCall.keep).adopt (a := s.heap.objs.size) (c := nsC fd.scope [(x, v)]) hL ⟨⟨es, ep, h1, h2, fun y => (h3 y).trans ?_⟩, by simp, hk, fun p hp => by rw [List.mem_singleton.mp hp]; exact ⟨hx, hdx⟩⟩ n0.2.2.1 n0.2.2.2 n0.1 n0.2.1
  · have S1 := S0.adoptN (L := s.heap.objs.size) (k := k) (fun a ha => by
      have := hnew a (Nat.le_of_lt ha)
      refine ⟨fun hm => ?_, this.2⟩
      rw [List.map_cons, List.mem_cons] at hm
      rcases hm with e | hm
      · exact absurd ha (by rw [e]; exact Nat.lt_irrefl _)
      · exact this.1 hm) fun i hi => by
        obtain ⟨nm, hn⟩ := hcell s.heap.objs.size i hi
        exact I.cell nm _ hn
    refine wpAny_mono (h s.heap.objs.size _ r.deeper ?_) (fun _ _ z => z) fun _ _ z => z.elim
    refine ⟨S1.base, S1.has, S1.nd, S1.fresh, ?_, S1.gens, S1.drawn, S1.os, S1.low, S1.big, fun y hy hm => ?_⟩
    · exact ⟨by show fd.scope.kind ≠ _; rw [hk]; decide, ⟨_, oL, rfl, n0.2.2.1, hL, fun vs q => by rw [h1] at q; cases q⟩, S1.frames⟩
    · rcases List.mem_append.mp hy with hy' | hy'
      · obtain ⟨i, hi, rfl⟩ := mem_cellsN hy'
        exact soft_cellC
      · rcases List.mem_cons.mp hy' with rfl | hy''
        · exact soft_nsC
        · rw [List.filterMap_cons] at hm
          rcases List.mem_cons.mp (show y.1 ∈ s.heap.objs.size :: _ from hm) with e | hm
          · have := S.lt hy''
            rw [e] at this; exact absurd this (Nat.lt_irrefl _)
          · exact S.soft y hy'' hm
  · show (if y = x then some v else none) = [(x, v)].lookup y
    rw [List.lookup_cons]
    by_cases e : y = x
    · subst e; simp
    · rw [if_neg e, beq_eq_false_iff_ne.mpr e]; rfl
end

end
-- IF1
section
section
variable {K : Type} [DecidableEq K] {xs : List (K × Value × Value)} {st : List (K × Value)} {k k' : K} {kv v : Value}
/-- a cache as it answers: keys and values, in the order in which they go -/
def vAt (st : List (K × Value)) (k : K) : Option Value := (st.find? fun x => decide (x.1 = k)).map (·.2)
def dropS (st : List (K × Value)) (k : K) : List (K × Value) := st.filter fun x => !decide (x.1 = k)
theorem atK_isSome : (atK xs k).isSome = true ↔ k ∈ xs.map (·.1) := by
  unfold atK
  rw [Option.isSome_map, List.find?_isSome]
  constructor
  · rintro ⟨x, hx, e⟩
    exact List.mem_map.mpr ⟨x, hx, of_decide_eq_true e⟩
  · intro h
    obtain ⟨x, hx, rfl⟩ := List.mem_map.mp h
    exact ⟨x, hx, decide_eq_true rfl⟩
theorem atK_eq_none : atK xs k = none ↔ k ∉ xs.map (·.1) := by
  rw [← atK_isSome]
  cases atK xs k <;> simp
theorem vAt_isSome : (vAt st k).isSome = true ↔ k ∈ st.map (·.1) := by
  unfold vAt
  rw [Option.isSome_map, List.find?_isSome]
  constructor
  · rintro ⟨x, hx, e⟩
    exact List.mem_map.mpr ⟨x, hx, of_decide_eq_true e⟩
  · intro h
    obtain ⟨x, hx, rfl⟩ := List.mem_map.mp h
    exact ⟨x, hx, decide_eq_true rfl⟩
theorem vAt_eq_none : vAt st k = none ↔ k ∉ st.map (·.1) := by
  rw [← vAt_isSome]
  cases vAt st k <;> simp
theorem find_filter_ne {α : Type} (f : α → K) (l : List α) : ((l.filter fun x => !decide (f x = k)).find? fun x => decide (f x = k')) = if k' = k then none else l.find? fun x => decide (f x = k') := by
  induction l with
  | nil => simp
  | cons x r ih =>
    rw [List.filter_cons]
    by_cases h : f x = k
    · simp only [h, decide_true, Bool.not_true, Bool.false_eq_true, if_false, ih, List.find?_cons]
      by_cases h2 : k' = k
      · simp [h2]
      · have : ¬ k = k' := fun e => h2 e.symm
        simp [h2, this]
    · simp only [h, decide_false, Bool.not_false, if_true, List.find?_cons, ih]
      by_cases h2 : k' = k
      · subst h2; simp [h]
      · by_cases h3 : f x = k' <;> simp [h2, h3]
theorem atK_del : atK (delK xs k) k' = if k' = k then none else atK xs k' := by
  unfold atK delK
  rw [find_filter_ne]
  split <;> rfl
theorem vAt_drop : vAt (dropS st k) k' = if k' = k then none else vAt st k' := by
  unfold vAt dropS
  rw [find_filter_ne]
  split <;> rfl
theorem vAt_snoc (h : k ∉ st.map (·.1)) : vAt (st ++ [(k, v)]) k' = if k' = k then some v else vAt st k' := by
  unfold vAt
  rw [List.find?_append]
  by_cases e : k' = k
  · subst e
    have : (st.find? fun x => decide (x.1 = k')) = none := by
      rw [List.find?_eq_none]
      intro x hx hk
      exact h (List.mem_map.mpr ⟨x, hx, of_decide_eq_true hk⟩)
    simp [this]
  · have : ¬ k = k' := fun q => e q.symm
    simp [e, this]
theorem atK_put : (atK (putK xs k kv v) k').map (·.2) = if k' = k then some v else (atK xs k').map (·.2) := by
  unfold putK
  split
  · rename_i hs
    unfold atK at hs ⊢
    have e : ∀ x, (fun x : K × Value × Value => decide (x.1 = k')) (putAtK k v x) = decide (x.1 = k') := fun x => by unfold putAtK; split <;> rfl
    rw [List.find?_map]
    have e2 : ((fun x : K × Value × Value => decide (x.1 = k')) ∘ putAtK k v) = fun x => decide (x.1 = k') := funext e
    rw [e2]
    by_cases q : k' = k
    · subst q
      cases hf : xs.find? fun x => decide (x.1 = k') with
      | none => rw [hf] at hs; cases hs
      | some y =>
        have := of_decide_eq_true (List.find?_some (p := fun x : K × Value × Value => decide (x.1 = k')) hf)
        simp [putAtK, this]
    · cases hf : xs.find? fun x => decide (x.1 = k') with
      | none => simp [q]
      | some y =>
        have := of_decide_eq_true (List.find?_some (p := fun x : K × Value × Value => decide (x.1 = k')) hf)
        have n : ¬ y.1 = k := fun e => q (this.symm.trans e)
        simp [putAtK, n, q]
  · rename_i hs
    unfold atK at hs ⊢
    rw [List.find?_append]
    by_cases q : k' = k
    · subst q
      cases hf : xs.find? fun x => decide (x.1 = k') with
      | none => simp
      | some y => rw [hf] at hs; simp at hs
    · have : ¬ k = k' := fun e => q e.symm
      simp [q, this]
theorem keys_put_new (h : atK xs k = none) : (putK xs k kv v).map (·.1) = xs.map (·.1) ++ [k] := by
  unfold putK; rw [h]; simp
theorem keys_put_there (h : (atK xs k).isSome = true) : (putK xs k kv v).map (·.1) = xs.map (·.1) := by
  unfold putK; rw [if_pos h, keys_putAtK]
theorem keys_del : (delK xs k).map (·.1) = (xs.map (·.1)).filter fun x => !decide (x = k) := by
  unfold delK
  rw [List.filter_map]; rfl
theorem keys_drop : (dropS st k).map (·.1) = (st.map (·.1)).filter fun x => !decide (x = k) := by
  unfold dropS
  rw [List.filter_map]; rfl
/-- a dict and a cache's answers agree -/
structure Agree (xs : List (K × Value × Value)) (st : List (K × Value)) : Prop where
  len : xs.length = st.length
  val : ∀ k, (atK xs k).map (·.2) = vAt st k
theorem Agree.no (h : Agree xs st) (e : vAt st k = none) : atK xs k = none := by
  have := h.val k
  rw [e] at this
  cases q : atK xs k with
  | none => rfl
  | some p => rw [q] at this; cases this
theorem Agree.yes (h : Agree xs st) (e : vAt st k = some v) : ∃ kv, atK xs k = some (kv, v) := by
  have := h.val k
  rw [e] at this
  cases q : atK xs k with
  | none => rw [q] at this; cases this
  | some p => rw [q] at this; cases this; exact ⟨p.1, rfl⟩
theorem filter_one {l : List K} (nd : l.Nodup) (h : k ∈ l) : (l.filter fun x => !decide (x = k)).length + 1 = l.length := by
  induction l with
  | nil => cases h
  | cons x r ih =>
    rw [List.nodup_cons] at nd
    by_cases e : x = k
    · subst e
      have : (r.filter fun y => !decide (y = x)) = r := by
        rw [List.filter_eq_self]
        intro y hy
        have : y ≠ x := fun q => nd.1 (q ▸ hy)
        simp [this]
      simp [this]
    · have hr : k ∈ r := by
        rcases List.mem_cons.mp h with q | q
        · exact (e q.symm).elim
        · exact q
      simp only [List.filter_cons, e, decide_false, Bool.not_false, if_true, List.length_cons]
      rw [ih nd.2 hr]
theorem len_drop (nd : (st.map (·.1)).Nodup) (h : k ∈ st.map (·.1)) : (dropS st k).length + 1 = st.length := by
  have := filter_one nd h
  rw [← keys_drop, List.length_map, List.length_map] at this
  exact this
theorem len_del (nd : (xs.map (·.1)).Nodup) (h : k ∈ xs.map (·.1)) : (delK xs k).length + 1 = xs.length := by
  have := filter_one nd h
  rw [← keys_del, List.length_map, List.length_map] at this
  exact this
theorem Agree.mem (h : Agree xs st) : k ∈ xs.map (·.1) ↔ k ∈ st.map (·.1) := by
  rw [← atK_isSome, ← vAt_isSome, ← h.val k, Option.isSome_map]
theorem Agree.del (h : Agree xs st) (nx : (xs.map (·.1)).Nodup) (nd : (st.map (·.1)).Nodup) (hk : k ∈ st.map (·.1)) : Agree (delK xs k) (dropS st k) where
  len := by have := len_drop nd hk; have := len_del nx (h.mem.mpr hk); have := h.len; omega
  val := fun k' => by
    rw [atK_del, vAt_drop, ← h.val k']
    split <;> rfl
theorem Agree.new (h : Agree xs st) (hk : k ∉ st.map (·.1)) : Agree (putK xs k kv v) (st ++ [(k, v)]) where
  len := by
    have := congrArg List.length (keys_put_new (kv := kv) (v := v) (h.no (vAt_eq_none.mpr hk)))
    simp only [List.length_map, List.length_append, List.length_singleton] at this ⊢
    rw [this, h.len]
  val := fun k' => by rw [atK_put, vAt_snoc hk, h.val k']
theorem nodup_drop (nd : (st.map (·.1)).Nodup) : ((dropS st k).map (·.1)).Nodup := by
  rw [keys_drop]; exact nd.filter _
theorem not_mem_drop : k ∉ (dropS st k).map (·.1) := by
  rw [keys_drop]; simp
theorem Agree.there (h : Agree xs st) (nd : (st.map (·.1)).Nodup) (hk : k ∈ st.map (·.1)) : Agree (putK xs k kv v) (dropS st k ++ [(k, v)]) where
  len := by
    have := congrArg List.length (keys_put_there (kv := kv) (v := v) (atK_isSome.mpr (h.mem.mpr hk)))
    have := len_drop nd hk
    have := h.len
    simp only [List.length_map, List.length_append, List.length_singleton] at *
    omega
  val := fun k' => by
    rw [atK_put, vAt_snoc not_mem_drop, vAt_drop, h.val k']
    split <;> rfl
theorem Agree.touch (h : Agree xs st) (nd : (st.map (·.1)).Nodup) (hk : vAt st k = some v) : Agree xs (dropS st k ++ [(k, v)]) where
  len := by
    have hm : k ∈ st.map (·.1) := vAt_isSome.mp (by rw [hk]; rfl)
    have := len_drop nd hm
    have := h.len
    simp only [List.length_append, List.length_singleton] at *
    omega
  val := fun k' => by
    rw [vAt_snoc not_mem_drop, vAt_drop, h.val k']
    split
    · rename_i e; rw [e, hk]
    · rfl
theorem drop_head {v0 : Value} {st' : List (K × Value)} (nd : (((k, v0) :: st').map (·.1)).Nodup) : dropS ((k, v0) :: st') k = st' := by
  rw [List.map_cons, List.nodup_cons] at nd
  unfold dropS
  rw [List.filter_cons]
  simp only [decide_true, Bool.not_true, Bool.false_eq_true, if_false]
  rw [List.filter_eq_self]
  intro y hy
  have : y.1 ≠ k := fun q => nd.1 (List.mem_map.mpr ⟨y, hy, q⟩)
  simp [this]
theorem vAt_head {v0 : Value} {st' : List (K × Value)} : vAt ((k, v0) :: st') k = some v0 := by simp [vAt]
end

end
-- C1
section
set_option maxRecDepth 100000
set_option maxHeartbeats 400000
def cacheCls : List Addr := [917, 982, 1270, 1488]
theorem allC {P : Addr → Bool} (h : cacheCls.all P = true) {C : Addr} (hC : C ∈ cacheCls) : P C = true := List.all_eq_true.mp h C hC
section
variable {w : World}
theorem own_data {C : Addr} (hC : C ∈ cacheCls) : ownName (KK w) C (S "_Cache__data") = true := allC (P := fun C => ownName (KK w) C (S "_Cache__data")) (by kernel_rfl) hC
theorem own_cur {C : Addr} (hC : C ∈ cacheCls) : ownName (KK w) C (S "_Cache__currsize") = true := allC (P := fun C => ownName (KK w) C (S "_Cache__currsize")) (by kernel_rfl) hC
theorem own_max {C : Addr} (hC : C ∈ cacheCls) : ownName (KK w) C (S "_Cache__maxsize") = true := allC (P := fun C => ownName (KK w) C (S "_Cache__maxsize")) (by kernel_rfl) hC
theorem cls_size {C : Addr} (hC : C ∈ cacheCls) : clsName (KK w) C (S "_Cache__size") .none = true := allC (P := fun C => clsName (KK w) C (S "_Cache__size") .none) (by kernel_rfl) hC
theorem sets_data {C : Addr} (hC : C ∈ cacheCls) : setsName (KK w) C (S "_Cache__data") = true := allC (P := fun C => setsName (KK w) C (S "_Cache__data")) (by kernel_rfl) hC
theorem sets_cur {C : Addr} (hC : C ∈ cacheCls) : setsName (KK w) C (S "_Cache__currsize") = true := allC (P := fun C => setsName (KK w) C (S "_Cache__currsize")) (by kernel_rfl) hC
theorem sets_max {C : Addr} (hC : C ∈ cacheCls) : setsName (KK w) C (S "_Cache__maxsize") = true := allC (P := fun C => setsName (KK w) C (S "_Cache__maxsize")) (by kernel_rfl) hC

end
end
local macro_rules | `(tactic| walk_at "m_fact") => `(tactic| with_reducible exact own_data (by assumption))
section
set_option maxRecDepth 100000
set_option maxHeartbeats 400000
section
variable {w : World}
end
end
local macro_rules | `(tactic| walk_at "m_fact") => `(tactic| with_reducible exact own_cur (by assumption))
section
set_option maxRecDepth 100000
set_option maxHeartbeats 400000
section
variable {w : World}
end
end
local macro_rules | `(tactic| walk_at "m_fact") => `(tactic| with_reducible exact own_max (by assumption))
section
set_option maxRecDepth 100000
set_option maxHeartbeats 400000
section
variable {w : World}
end
end
local macro_rules | `(tactic| walk_at "m_fact") => `(tactic| with_reducible exact cls_size (by assumption))
section
set_option maxRecDepth 100000
set_option maxHeartbeats 400000
section
variable {w : World}
end
end
local macro_rules | `(tactic| walk_at "m_fact") => `(tactic| with_reducible exact sets_data (by assumption))
section
set_option maxRecDepth 100000
set_option maxHeartbeats 400000
section
variable {w : World}
end
end
local macro_rules | `(tactic| walk_at "m_fact") => `(tactic| with_reducible exact sets_cur (by assumption))
section
set_option maxRecDepth 100000
set_option maxHeartbeats 400000
section
variable {w : World}
end
end
local macro_rules | `(tactic| walk_at "m_fact") => `(tactic| with_reducible exact sets_max (by assumption))
section
set_option maxRecDepth 100000
set_option maxHeartbeats 400000
section
variable {w : World}

/-- the base class's three names, then what the class adds -/
abbrev baseN (dd : Addr) (n m : Int) (t u : Tok) (more : Names) : Names := (S "_Cache__data", .ref dd) :: (S "_Cache__currsize", .int n t) :: (S "_Cache__maxsize", .int m u) :: more

variable {A : Around} {E : Value → Shared → Prop} {B : Shared} {fs : List Env} {l : Cells} {s : Shared} {K : Type} [DecidableEq K] {knd : AnyKind pw w K} {R : Result → Shared → Prop} {n : Nat}
  {C x dx dd : Addr} {ns more : Names} {xs : List (K × Value × Value)} {key v : Value} {k : K} {sz mx : Int} {t u : Tok} {p : Value × Value}


theorem c784 (hC : C ∈ cacheCls) (T : Stat (KK w) B.heap) (r : Room (n + 3) fs A) (S₀ : St B fs ((x, instC C dx) :: (dx, idC (baseN dd sz mx t u more)) :: (dd, dictC knd B xs) :: l) s) (hk : knd.is B.heap k key)
    (h : ∀ s', St B fs ((x, instC C dx) :: (dx, idC (baseN dd sz mx t u more)) :: (dd, dictC knd B xs) :: l) s' → R (.ok (.ret (.bool (atK xs k).isSome))) s') :
    codeAny (model pw w) A (.call (.ref 784) ⟨[.ref x, key], []⟩) R s := by
  refine callS (binds := [(S "self", .ref x), (S "key", key)]) (names := [S "self", S "key"]) (locs := [(S "key", key), (S "self", .ref x)]) fnOk784 T S₀ r (BindsTo.of_eq (by kernel_rfl)) rfl rfl (by kernel_rfl) (by decide +kernel) (by kernel_rfl) fun L s' r₁ S₁ => ?_
  refine wpAny_execs_cons ?_
  walk_at "m_wk"
  refine inS (by assumption) (by walk_at "m_mem") r₁.u1 hk fun s₃ S₃ => ?_
  exact h _ (St.tail (St.pop (by assumption)))

theorem c763 (hC : C ∈ cacheCls) (T : Stat (KK w) B.heap) (r : Room (n + 3) fs A) (S₀ : St B fs ((x, instC C dx) :: (dx, idC (baseN dd sz mx t u more)) :: (dd, dictC knd B xs) :: l) s) (hk : knd.is B.heap k key) (hp : atK xs k = some p)
    (h : ∀ s', St B fs ((x, instC C dx) :: (dx, idC (baseN dd sz mx t u more)) :: (dd, dictC knd B xs) :: l) s' → R (.ok (.ret p.2)) s') :
    codeAny (model pw w) A (.call (.ref 763) ⟨[.ref x, key], []⟩) R s := by
  refine callS (binds := [(S "self", .ref x), (S "key", key)]) (names := [S "self", S "key"]) (locs := [(S "key", key), (S "self", .ref x)]) fnOk763 T S₀ r (BindsTo.of_eq (by kernel_rfl)) rfl rfl (by kernel_rfl) (by decide +kernel) (by kernel_rfl) fun L s' r₁ S₁ => ?_
  refine wpAny_execs_cons ?_
  refine wpAny_Try_except ?_
  walk_at "m_wk"
  refine subD ?_
  walk_at "m_wk"
  refine ⟨St.typeDict (by assumption) (by walk_at "m_mem"), ?_⟩
  refine getS (by assumption) (by walk_at "m_mem") r₁.u1 hk hp fun s₃ S₃ => ?_
  exact h _ (St.tail (St.pop (by assumption)))

theorem c777 (hC : C ∈ cacheCls) (T : Stat (KK w) B.heap) (r : Room (n + 3) fs A) (S₀ : St B fs ((x, instC C dx) :: (dx, idC (baseN dd sz mx t u more)) :: (dd, dictC knd B xs) :: l) s) (hns : S "_Cache__size" ∉ (baseN dd sz mx t u more).map (·.1)) (hml : more.length ≤ 50) (hsz : xs.length ≤ sizeLine) (hk : knd.is B.heap k key) (hp : atK xs k = some p)
    (h : ∀ s' t', St B fs ((x, instC C dx) :: (dx, idC (baseN dd (sz - 1) mx t' u more)) :: (dd, dictC knd B (delK xs k)) :: l) s' → R (.ok (.ret .none)) s') :
    codeAny (model pw w) A (.call (.ref 777) ⟨[.ref x, key], []⟩) R s := by
  refine callS (binds := [(S "self", .ref x), (S "key", key)]) (names := [S "self", S "key"]) (locs := [(S "key", key), (S "self", .ref x)]) fnOk777 T S₀ r (BindsTo.of_eq (by kernel_rfl)) rfl rfl (by kernel_rfl) (by decide +kernel) (by kernel_rfl) fun L s' r₁ S₁ => ?_
  refine wpAny_execs_cons ?_
  walk_at "m_wk"
  refine getCls T (by assumption) (by walk_at "m_mem") (by walk_at "m_mem") (cls_size hC) (fun s₂ S₂ => ?_) hns
  walk_at "m_wk"
  rw [if_pos (by rfl)]
  walk_at "m_wk"
  refine delS (by assumption) (by walk_at "m_updt") r₁.u1 hk hp (fun s₃ S₃ => ?_) hsz
  walk_at "m_wk"
  exact h _ _ (St.tail (St.pop (by assumption)))

/-- the key is there: its value is written -/
theorem c770_there (hC : C ∈ cacheCls) (T : Stat (KK w) B.heap) (r : Room (n + 3) fs A) (S₀ : St B fs ((x, instC C dx) :: (dx, idC (baseN dd sz mx t u more)) :: (dd, dictC knd B xs) :: l) s) (hns : S "_Cache__size" ∉ (baseN dd sz mx t u more).map (·.1)) (hml : more.length ≤ 50) (hsz : xs.length ≤ sizeLine) (hk : knd.is B.heap k key) (hp : atK xs k = some p) (hmx : 0 < mx)
    (h : ∀ s', St B fs ((x, instC C dx) :: (dx, idC (baseN dd sz mx t u more)) :: (dd, dictC knd B (putK xs k key v)) :: l) s' → R (.ok (.ret .none)) s') :
    codeAny (model pw w) A (.call (.ref 770) ⟨[.ref x, key, v], []⟩) R s := by
  refine callS (binds := [(S "self", .ref x), (S "key", key), (S "value", v)]) (names := [S "self", S "key", S "value"]) (locs := [(S "value", v), (S "key", key), (S "self", .ref x)]) fnOk770 T S₀ r (BindsTo.of_eq (by kernel_rfl)) rfl rfl (by kernel_rfl) (by decide +kernel) (by kernel_rfl) fun L s' r₁ S₁ => ?_
  refine wpAny_execs_cons ?_
  walk_at "m_wk"
  refine getCls T (by assumption) (by walk_at "m_mem") (by walk_at "m_mem") (cls_size hC) (fun s₂ S₂ => ?_) hns
  walk_at "m_wk"
  rw [if_pos (by rfl)]
  walk_at "m_wk"
  rw [if_neg (by simp; omega)]
  walk_at "m_wk"
  refine inS (by assumption) (by walk_at "m_mem") r₁.u1 hk fun s₃ S₃ => ?_
  walk_at "m_wk"
  rw [hp, if_pos (by rfl)]
  walk_at "m_wk"
  refine putS (by assumption) (by walk_at "m_updt") r₁.u1 hk (fun s₃ S₃ => ?_) hsz
  walk_at "m_wk"
  exact h _ (St.tail (St.pop (by assumption)))
end

end
-- C2
section
set_option maxRecDepth 100000
set_option maxHeartbeats 400000
section
variable {w : World} {A : Around} {E : Value → Shared → Prop} {B : Shared} {fs : List Env} {l : Cells} {s : Shared} {K : Type} [DecidableEq K] {knd : AnyKind pw w K} {R : Result → Shared → Prop} {n : Nat}
  {C x dx dd : Addr} {ns more : Names} {xs : List (K × Value × Value)} {key v : Value} {k : K} {sz mx : Int} {t u : Tok} {p : Value × Value}

/-- a new key, and there is room -/
theorem c770_new (hC : C ∈ cacheCls) (T : Stat (KK w) B.heap) (r : Room (n + 3) fs A) (S₀ : St B fs ((x, instC C dx) :: (dx, idC (baseN dd sz mx t u more)) :: (dd, dictC knd B xs) :: l) s) (hns : S "_Cache__size" ∉ (baseN dd sz mx t u more).map (·.1)) (hml : more.length ≤ 50) (hsz : xs.length ≤ sizeLine) (hk : knd.is B.heap k key) (hp : atK xs k = none) (hmx : sz < mx) (h0 : 0 ≤ sz)
    (h : ∀ s' t', St B fs ((x, instC C dx) :: (dx, idC (baseN dd (sz + 1) mx t' u more)) :: (dd, dictC knd B (putK xs k key v)) :: l) s' → R (.ok (.ret .none)) s') :
    codeAny (model pw w) A (.call (.ref 770) ⟨[.ref x, key, v], []⟩) R s := by
  refine callS (binds := [(S "self", .ref x), (S "key", key), (S "value", v)]) (names := [S "self", S "key", S "value"]) (locs := [(S "value", v), (S "key", key), (S "self", .ref x)]) fnOk770 T S₀ r (BindsTo.of_eq (by kernel_rfl)) rfl rfl (by kernel_rfl) (by decide +kernel) (by kernel_rfl) fun L s' r₁ S₁ => ?_
  refine wpAny_execs_cons ?_
  walk_at "m_wk"
  refine getCls T (by assumption) (by walk_at "m_mem") (by walk_at "m_mem") (cls_size hC) (fun s₂ S₂ => ?_) hns
  walk_at "m_wk"
  rw [if_pos (by rfl)]
  walk_at "m_wk"
  rw [if_neg (by simp; omega)]
  walk_at "m_wk"
  refine inS (by assumption) (by walk_at "m_mem") r₁.u1 hk fun s₃ S₃ => ?_
  walk_at "m_wk"
  rw [hp, if_neg (by decide)]
  walk_at "m_wk"
  refine whileNo ?_
  walk_at "m_wk"
  refine ⟨by simp; omega, ?_⟩
  walk_at "m_wk"
  refine putS (by assumption) (by walk_at "m_updt") r₁.u1 hk (fun s₃ S₃ => ?_) hsz
  walk_at "m_wk"
  exact h _ _ (St.tail (St.pop (by assumption)))

/-- what popitem of the class does to the cells, the cache full of sz things -/
def Pops (w : World) (B : Shared) (knd : AnyKind pw w K) (pf : Addr) (n : Nat) (C x dx dd : Addr) (sz mx : Int) (u : Tok) (more : Names) (xs xs' : List (K × Value × Value)) (ext ext' : Cells) : Prop :=
  ∀ (A : Around) (fs : List Env) (s : Shared) (q : Cells) (t : Tok) (R : Result → Shared → Prop), Room n fs A → St B fs ((x, instC C dx) :: (dx, idC (baseN dd sz mx t u more)) :: (dd, dictC knd B xs) :: (ext ++ q)) s →
    (∀ v s' t', St B fs ((x, instC C dx) :: (dx, idC (baseN dd (sz - 1) mx t' u more)) :: (dd, dictC knd B xs') :: (ext' ++ q)) s' → R (.ok (.ret v)) s') → codeAny (model pw w) A (.call (.ref pf) ⟨[.ref x], []⟩) R s

/-- a new key, and the cache is full: popitem makes room -/
theorem c770_full {pf : Addr} {xs' : List (K × Value × Value)} {ext ext' : Cells} (hC : C ∈ cacheCls) (T : Stat (KK w) B.heap) (r : Room (n + 3) fs A) (S₀ : St B fs ((x, instC C dx) :: (dx, idC (baseN dd sz mx t u more)) :: (dd, dictC knd B xs) :: (ext ++ l)) s)
    (hpop : Pops w B knd pf (n + 2) C x dx dd sz mx u more xs xs' ext ext') (hm : methName (KK w) C (S "popitem") pf = true) (hkp : keepIn (KK w) (.ref pf) = true)
    (hns : S "_Cache__size" ∉ (baseN dd sz mx t u more).map (·.1)) (hns2 : S "popitem" ∉ (baseN dd sz mx t u more).map (·.1)) (hml : more.length ≤ 50) (hsz : xs'.length ≤ sizeLine) (hk : knd.is B.heap k key) (hp : atK xs k = none) (hmx : sz = mx) (h0 : 0 < sz)
    (h : ∀ s' t', St B fs ((x, instC C dx) :: (dx, idC (baseN dd (sz - 1 + 1) mx t' u more)) :: (dd, dictC knd B (putK xs' k key v)) :: (ext' ++ l)) s' → R (.ok (.ret .none)) s') :
    codeAny (model pw w) A (.call (.ref 770) ⟨[.ref x, key, v], []⟩) R s := by
  refine callS (binds := [(S "self", .ref x), (S "key", key), (S "value", v)]) (names := [S "self", S "key", S "value"]) (locs := [(S "value", v), (S "key", key), (S "self", .ref x)]) fnOk770 T S₀ r (BindsTo.of_eq (by kernel_rfl)) rfl rfl (by kernel_rfl) (by decide +kernel) (by kernel_rfl) fun L s' r₁ S₁ => ?_
  refine wpAny_execs_cons ?_
  walk_at "m_wk"
  refine getCls T (by assumption) (by walk_at "m_mem") (by walk_at "m_mem") (cls_size hC) (fun s₂ S₂ => ?_) hns
  walk_at "m_wk"
  rw [if_pos (by rfl)]
  walk_at "m_wk"
  rw [if_neg (by simp; omega)]
  walk_at "m_wk"
  refine inS (by assumption) (by walk_at "m_mem") r₁.u1 hk fun s₃ S₃ => ?_
  walk_at "m_wk"
  rw [hp, if_neg (by decide)]
  walk_at "m_wk"
  refine whileOnce (fun s' => ∃ t', St B (fnEnv fd770 L 770 :: fs) ((L, nsC fd770.scope [(S "maxsize", .int mx u), (S "size", .none), (S "data", .ref dd), (S "value", v), (S "key", key), (S "self", .ref x)]) :: (x, instC C dx) :: (dx, idC (baseN dd (sz - 1) mx t' u more)) :: (dd, dictC knd B xs') :: (ext' ++ l)) s') ?_ ?_
  · walk_at "m_wk"
    refine ⟨by simp; omega, ?_⟩
    walk_at "m_wk"
    refine methodCall_KW ?_
    walk_at "m_wk"
    refine methFn T (by assumption) (by walk_at "m_mem") (by walk_at "m_mem") hm ?_ hns2
    refine callFn0 T (by assumption) hkp ?_
    refine wpAny_call ?_
    refine hpop _ _ _ _ _ _ r₁ (St.back (p := (x, instC C dx) :: (dx, idC (baseN dd sz mx t u more)) :: (dd, dictC knd B xs) :: ext) (q := l) (by assumption)) fun v s' t' S' => ?_
    walk_at "m_wk"
    exact ⟨rfl, t', St.front (p := (x, instC C dx) :: (dx, idC (baseN dd (sz - 1) mx t' u more)) :: (dd, dictC knd B xs') :: ext') (q := l) S'⟩
  rintro s' ⟨t', S'⟩
  walk_at "m_wk"
  refine ⟨by simp; omega, ?_⟩
  walk_at "m_wk"
  refine putS (by assumption) (by walk_at "m_updt") r₁.u1 hk (fun s₃ S₃ => ?_) hsz
  walk_at "m_wk"
  exact h _ _ (St.tail (St.pop (by assumption)))
end

end
-- CI
section
set_option maxRecDepth 100000
set_option maxHeartbeats 400000
section
variable {prog : Program} {M : Model} {A : Around} {E : Value → Shared → Prop} {s : Shared} {a b : Addr}
theorem isNot_same {Q : Value → Shared → Prop} (h : Q (.bool false) s) : wpAny M A (compareOp .IsNot (.ref a) (.ref a)) Q E s := by
  show wpAny M A (do return .bool (!(← isSame (.ref a) (.ref a)))) Q E s
  refine wpAny_bind ?_
  unfold isSame
  simp only [beq_self_eq_true, if_true]
  exact wpAny_pure (wpAny_pure h)
theorem is_same {Q : Value → Shared → Prop} (h : Q (.bool true) s) : wpAny M A (compareOp .Is (.ref a) (.ref a)) Q E s := by
  show wpAny M A (do return .bool (← isSame (.ref a) (.ref a))) Q E s
  refine wpAny_bind ?_
  unfold isSame
  simp only [beq_self_eq_true, if_true]
  exact wpAny_pure (wpAny_pure h)
end
end
local macro_rules | `(tactic| walk_at "m_wk1") => `(tactic| ((with_reducible show wpAny _ _ (eval (Expr.Name (Str.ofString "Cache") _) _) _ _ _); refine ldG (v := .ref 865) (by assumption) (by assumption) (by kernel_rfl) ?_))
section
set_option maxRecDepth 100000
set_option maxHeartbeats 400000
section
variable {w : World} {A : Around} {E : Value → Shared → Prop} {B : Shared} {fs : List Env} {l : Cells} {s : Shared} {K : Type} [DecidableEq K] {knd : AnyKind pw w K} {R : Result → Shared → Prop} {n : Nat}
  {C x dx dd : Addr} {mx : Int} {u : Tok}
theorem stat_getsizeof {C : Addr} (hC : C ∈ cacheCls) : statName (KK w) C (S "getsizeof") 859 = true := allC (P := fun C => statName (KK w) C (S "getsizeof") 859) (by kernel_rfl) hC
theorem c749 (knd : AnyKind pw w K) (hC : C ∈ cacheCls) (T : Stat (KK w) B.heap) (r : Room (n + 3) fs A) (S₀ : St B fs ((x, instC C dx) :: (dx, idC []) :: l) s) (hmx : 0 ≤ mx)
    (h : ∀ dd s' t, St B fs ((x, instC C dx) :: (dx, idC (baseN dd 0 mx t u [])) :: (dd, dictC knd B []) :: l) s' → R (.ok (.ret .none)) s') :
    codeAny (model pw w) A (.call (.ref 749) ⟨[.ref x, .int mx u, .none], []⟩) R s := by
  refine callS (binds := [(S "self", .ref x), (S "maxsize", .int mx u), (S "getsizeof", .none)]) (names := [S "self", S "maxsize", S "getsizeof"]) (locs := [(S "getsizeof", .none), (S "maxsize", .int mx u), (S "self", .ref x)]) fnOk749 T S₀ r (bndT T S₀ [.none] rfl (by kernel_rfl) (by rfl) (by kernel_rfl)) rfl rfl (by kernel_rfl) (by decide +kernel) (by kernel_rfl) fun L s' r₁ S₁ => ?_
  refine wpAny_execs_cons ?_
  walk_at "m_wk"
  rw [if_neg (by simp; omega)]
  walk_at "m_wk"
  rw [if_neg (by decide)]
  walk_at "m_wk"
  refine getStat T (by assumption) (by walk_at "m_mem") (by walk_at "m_mem") (stat_getsizeof hC) (fun s' S' => ?_)
  walk_at "m_wk"
  refine getStatCls (f := 859) T (by assumption) (by kernel_rfl) fun s' S' => ?_
  refine isNot_same ?_
  walk_at "m_wk"
  rw [if_neg (by decide)]
  walk_at "m_wk"
  refine dictNil knd (by assumption) fun d s' S' => ?_
  walk_at "m_wk"
  rename_i S'
  have S' := S'.reId (xs' := baseN d 0 mx _ u []) (by walk_at "m_updt") (by walk_at "m_pm")
  exact h _ _ _ (St.tail (St.pop (S'.perm (l' := (L, _) :: (x, _) :: (dx, _) :: (d, _) :: l) (by walk_at "m_pm"))))
end

end
-- F1
section
set_option maxRecDepth 100000
set_option maxHeartbeats 400000
end
local macro_rules | `(tactic| walk_at "m_wk1") => `(tactic| ((with_reducible show wpAny _ _ (eval (Expr.Name (Str.ofString "Cache") _) _) _ _ _); refine ldG (v := .ref 865) (by assumption) (by assumption) (by kernel_rfl) ?_))
section
set_option maxRecDepth 100000
set_option maxHeartbeats 400000
section
variable {w : World} {A : Around} {E : Value → Shared → Prop} {B : Shared} {fs : List Env} {l : Cells} {s : Shared} {K : Type} [DecidableEq K] {knd : AnyKind pw w K} {R : Result → Shared → Prop} {n : Nat}
  {C x dx dd od : Addr} {xs os : List (K × Value × Value)} {key v : Value} {k : K} {sz mx : Int} {t u : Tok} {p q : Value × Value}

abbrev fifoN (dd od : Addr) (sz mx : Int) (t u : Tok) : Names := baseN dd sz mx t u [(S "_FIFOCache__order", .ref od)]
abbrev fifoC (w : World) {K : Type} [DecidableEq K] (knd : AnyKind pw w K) (B : Shared) (x dx dd od : Addr) (sz mx : Int) (t u : Tok) (xs os : List (K × Value × Value)) (l : Cells) : Cells :=
  (x, instC 917 dx) :: (dx, idC (fifoN dd od sz mx t u)) :: (dd, dictC knd B xs) :: (od, dictC knd B os) :: l
theorem c917 : 917 ∈ cacheCls := by decide

theorem c900 (T : Stat (KK w) B.heap) (r : Room (n + 4) fs A) (S₀ : St B fs (fifoC w knd B x dx dd od sz mx t u xs os l) s) (hsz : xs.length ≤ sizeLine) (hso : os.length ≤ sizeLine) (hk : knd.is B.heap k key) (hp : atK xs k = some p) (hq : atK os k = some q)
    (h : ∀ s' t', St B fs (fifoC w knd B x dx dd od (sz - 1) mx t' u (delK xs k) (delK os k) l) s' → R (.ok (.ret .none)) s') :
    codeAny (model pw w) A (.call (.ref 900) ⟨[.ref x, key], []⟩) R s := by
  refine callS (binds := [(S "self", .ref x), (S "key", key), (S "cache_delitem", .ref 777)]) (names := [S "self", S "key", S "cache_delitem"]) (locs := [(S "cache_delitem", .ref 777), (S "key", key), (S "self", .ref x)]) fnOk900 T S₀ r
    (bndT T S₀ [.ref 777] rfl (by kernel_rfl) (by rfl) (by kernel_rfl)) rfl rfl (by kernel_rfl) (by decide +kernel) (by kernel_rfl) fun L s' r₁ S₁ => ?_
  refine wpAny_execs_cons ?_
  walk_at "m_wk"
  refine Call_ ?_
  walk_at "m_wk"
  refine callFn T (by kernel_rfl) ?_
  refine args_cons ?_
  walk_at "m_wk"
  refine args_cons ?_
  walk_at "m_wk"
  refine args_nil ⟨⟨_, _, by assumption⟩, wpAny_call ?_⟩
  refine c777 c917 T r₁ (St.back (p := [_, _, _]) (by assumption)) (by walk_at "m_nin") (by simp) hsz hk hp fun s' t' S' => ?_
  have S' := St.front (p := [_, _, _]) S'
  simp only [List.cons_append, List.nil_append] at S'
  walk_at "m_wk"
  refine delS (by assumption) (by walk_at "m_updt") r₁.u1 hk hq (fun s₃ S₃ => ?_) hso
  walk_at "m_wk"
  exact h _ _ (St.tail (St.pop (by assumption)))

theorem c907 {k : K} {kv ov : Value} {os' : List (K × Value × Value)} (T : Stat (KK w) B.heap) (r : Room (n + 6) fs A) (S₀ : St B fs (fifoC w knd B x dx dd od sz mx t u xs os l) s) (hsz : xs.length ≤ sizeLine) (hso : os.length ≤ sizeLine) (ho : os = (k, kv, ov) :: os') (hp : atK xs k = some p)
    (h : ∀ a s' t', St B fs ((a, objC { cls := .type "tuple", data := .seq #[kv, p.2] }) :: fifoC w knd B x dx dd od (sz - 1) mx t' u (delK xs k) (delK os k) l) s' → R (.ok (.ret (.ref a))) s') :
    codeAny (model pw w) A (.call (.ref 907) ⟨[.ref x], []⟩) R s := by
  refine callS (binds := [(S "self", .ref x)]) (names := [S "self"]) (locs := [(S "self", .ref x)]) fnOk907 T S₀ r
    (BindsTo.of_eq (by kernel_rfl)) rfl rfl (by kernel_rfl) (by decide +kernel) (by kernel_rfl) fun L s' r₁ S₁ => ?_
  have hkey : knd.is B.heap k kv := S₁.keys (d := od) (by walk_at "m_mem") (k, kv, ov) (by rw [ho]; exact List.mem_cons_self)
  have hq : atK os k = some (kv, ov) := by rw [ho]; simp [atK]
  refine wpAny_execs_cons ?_
  refine wpAny_Try_except ?_
  walk_at "m_wk"
  refine Call_ ?_
  refine ldB T (by assumption) (by kernel_rfl) PyProof.Rows.Boot.«next» ?_
  refine PyProof.Rows.callWith_builtin1 ?_
  refine args_cons ?_
  refine Call_ ?_
  refine ldB T (by assumption) (by kernel_rfl) PyProof.Rows.Boot.«iter» ?_
  refine PyProof.Rows.callWith_builtin1 ?_
  refine args_cons ?_
  walk_at "m_wk"
  refine args_nil ?_
  refine iterS (by assumption) (by walk_at "m_mem") fun I s' ep S' he => ?_
  refine args_nil ?_
  refine nextS (by assumption) (by walk_at "m_mem") (by walk_at "m_updt") he (by rw [ho]; rfl) fun s' S' he => ?_
  have S' := S'.tail
  walk_at "m_wk"
  refine methodCall_KW ?_
  walk_at "m_wk"
  refine methCls (f := 763) T (by assumption) (by kernel_rfl) fun s' S' => ?_
  refine callFn T (by kernel_rfl) ?_
  refine args_cons ?_
  walk_at "m_wk"
  refine args_cons ?_
  walk_at "m_wk"
  refine args_nil ⟨⟨_, _, by assumption⟩, wpAny_call ?_⟩
  refine c763 c917 T (r₁.less (m := n + 3) (by omega)) (St.back (p := [_, _, _]) (by assumption)) hkey hp fun s' S' => ?_
  have S' := St.front (p := [_, _, _]) S'
  simp only [List.cons_append, List.nil_append] at S'
  walk_at "m_wk"
  refine delOwn (f := 900) T (by assumption) (by walk_at "m_mem") (by walk_at "m_mem") (by kernel_rfl) (by kernel_rfl) ?_
  refine wpAny_call ?_
  refine c900 T (r₁.less (m := n + 4) (by omega)) (St.back (p := [_, _, _, _]) (by assumption)) hsz hso hkey hp hq fun s' t' S' => ?_
  have S' := St.front (p := [_, _, _, _]) S'
  simp only [List.cons_append, List.nil_append] at S'
  walk_at "m_wk"
  refine wpAny_Tuple ?_
  refine wpAny_items_cons ?_
  walk_at "m_wk"
  refine wpAny_items_cons ?_
  walk_at "m_wk"
  refine wpAny_items_nil ?_
  exact ⟨by rw [sizeLine_eq]; simp, h _ _ _ (St.push (c := objC { cls := .type "tuple", data := .seq #[kv, p.2] }) (St.tail (St.pop (by assumption))) rfl _)⟩

/-- setitem of FIFO, the key not there yet, and there is room -/
theorem c892_new (T : Stat (KK w) B.heap) (r : Room (n + 5) fs A) (S₀ : St B fs (fifoC w knd B x dx dd od sz mx t u xs os l) s) (hsz : xs.length ≤ sizeLine) (hso : os.length ≤ sizeLine) (hk : knd.is B.heap k key) (hp : atK xs k = none) (hq : atK os k = none) (hmx : sz < mx) (h0 : 0 ≤ sz)
    (h : ∀ s' t', St B fs (fifoC w knd B x dx dd od (sz + 1) mx t' u (putK xs k key v) (putK os k key .none) l) s' → R (.ok (.ret .none)) s') :
    codeAny (model pw w) A (.call (.ref 892) ⟨[.ref x, key, v], []⟩) R s := by
  refine callS (binds := [(S "self", .ref x), (S "key", key), (S "value", v), (S "cache_setitem", .ref 770)]) (names := [S "self", S "key", S "value", S "cache_setitem"]) (locs := [(S "cache_setitem", .ref 770), (S "value", v), (S "key", key), (S "self", .ref x)]) fnOk892 T S₀ r
    (bndT T S₀ [.ref 770] rfl (by kernel_rfl) (by rfl) (by kernel_rfl)) rfl rfl (by kernel_rfl) (by decide +kernel) (by kernel_rfl) fun L s' r₁ S₁ => ?_
  refine wpAny_execs_cons ?_
  walk_at "m_wk"
  refine Call_ ?_
  walk_at "m_wk"
  refine callFn T (by kernel_rfl) ?_
  refine args_cons ?_
  walk_at "m_wk"
  refine args_cons ?_
  walk_at "m_wk"
  refine args_cons ?_
  walk_at "m_wk"
  refine args_nil ⟨⟨_, _, by assumption⟩, wpAny_call ?_⟩
  refine c770_new c917 T (r₁.less (m := n + 3) (by omega)) (St.back (p := [_, _, _]) (by assumption)) (by walk_at "m_nin") (by simp) hsz hk hp hmx h0 fun s' t' S' => ?_
  have S' := St.front (p := [_, _, _]) S'
  simp only [List.cons_append, List.nil_append] at S'
  walk_at "m_wk"
  refine inS (by assumption) (by walk_at "m_mem") r₁.u1 hk fun s₃ S₃ => ?_
  walk_at "m_wk"
  rw [hq, if_neg (by decide)]
  walk_at "m_wk"
  refine putS (by assumption) (by walk_at "m_updt") r₁.u1 hk (fun s₃ S₃ => ?_) hso
  walk_at "m_wk"
  exact h _ _ (St.tail (St.pop (by assumption)))

theorem pops907 {k : K} {kv ov : Value} {os' : List (K × Value × Value)} (T : Stat (KK w) B.heap) (hsz : xs.length ≤ sizeLine) (hso : os.length ≤ sizeLine) (ho : os = (k, kv, ov) :: os') (hp : atK xs k = some p) :
    Pops w B knd 907 (n + 6) 917 x dx dd sz mx u [(S "_FIFOCache__order", .ref od)] xs (delK xs k) [(od, dictC knd B os)] [(od, dictC knd B (delK os k))] :=
  fun _ _ _ _ _ _ r S₀ h => c907 T r S₀ hsz hso ho hp fun _ _ _ S' => h _ _ _ S'.tail
end

end
-- F2
section
set_option maxRecDepth 100000
set_option maxHeartbeats 400000
section
variable {w : World} {A : Around} {E : Value → Shared → Prop} {B : Shared} {fs : List Env} {l : Cells} {s : Shared} {K : Type} [DecidableEq K] {knd : AnyKind pw w K} {R : Result → Shared → Prop} {n : Nat}
  {C x dx dd od : Addr} {xs os : List (K × Value × Value)} {key v : Value} {k : K} {sz mx : Int} {t u : Tok} {p q : Value × Value}
/-- setitem of FIFO, a new key into a full cache -/
theorem c892_full {k0 : K} {kv ov : Value} {os' : List (K × Value × Value)} (T : Stat (KK w) B.heap) (r : Room (n + 12) fs A) (S₀ : St B fs (fifoC w knd B x dx dd od sz mx t u xs os l) s) (hsz : xs.length ≤ sizeLine) (hso : os.length ≤ sizeLine)
    (ho : os = (k0, kv, ov) :: os') (hp0 : atK xs k0 = some p) (hd1 : (delK xs k0).length ≤ sizeLine) (hd2 : (delK os k0).length ≤ sizeLine) (hk : knd.is B.heap k key) (hp : atK xs k = none) (hq : atK (delK os k0) k = none) (hmx : sz = mx) (h0 : 0 < sz)
    (h : ∀ s' t', St B fs (fifoC w knd B x dx dd od (sz - 1 + 1) mx t' u (putK (delK xs k0) k key v) (putK (delK os k0) k key .none) l) s' → R (.ok (.ret .none)) s') :
    codeAny (model pw w) A (.call (.ref 892) ⟨[.ref x, key, v], []⟩) R s := by
  refine callS (binds := [(S "self", .ref x), (S "key", key), (S "value", v), (S "cache_setitem", .ref 770)]) (names := [S "self", S "key", S "value", S "cache_setitem"]) (locs := [(S "cache_setitem", .ref 770), (S "value", v), (S "key", key), (S "self", .ref x)]) fnOk892 T S₀ r
    (bndT T S₀ [.ref 770] rfl (by kernel_rfl) (by rfl) (by kernel_rfl)) rfl rfl (by kernel_rfl) (by decide +kernel) (by kernel_rfl) fun L s' r₁ S₁ => ?_
  refine wpAny_execs_cons ?_
  walk_at "m_wk"
  refine Call_ ?_
  walk_at "m_wk"
  refine callFn T (by kernel_rfl) ?_
  refine args_cons ?_
  walk_at "m_wk"
  refine args_cons ?_
  walk_at "m_wk"
  refine args_cons ?_
  walk_at "m_wk"
  refine args_nil ⟨⟨_, _, by assumption⟩, wpAny_call ?_⟩
  refine c770_full (n := n + 4) (pf := 907) (ext := [(od, dictC knd B os)]) (ext' := [(od, dictC knd B (delK os k0))]) c917 T (r₁.less (m := n + 7) (by omega)) (St.back (p := [_, _, _, _]) (by assumption))
    (pops907 T hsz hso ho hp0) (by kernel_rfl) (by kernel_rfl) (by walk_at "m_nin") (by walk_at "m_nin") (by simp) hd1 hk hp hmx h0 fun s' t' S' => ?_
  have S' := St.front (p := [_, _, _, _]) S'
  simp only [List.cons_append, List.nil_append] at S'
  walk_at "m_wk"
  refine inS (by assumption) (by walk_at "m_mem") r₁.u1 hk fun s₃ S₃ => ?_
  walk_at "m_wk"
  rw [hq, if_neg (by decide)]
  walk_at "m_wk"
  refine putS (by assumption) (by walk_at "m_updt") r₁.u1 hk (fun s₃ S₃ => ?_) hd2
  walk_at "m_wk"
  exact h _ _ (St.tail (St.pop (by assumption)))
end

end
-- FI
section
set_option maxRecDepth 100000
set_option maxHeartbeats 400000
section
variable {w : World} {A : Around} {E : Value → Shared → Prop} {B : Shared} {fs : List Env} {l : Cells} {s : Shared} {K : Type} [DecidableEq K] {knd : AnyKind pw w K} {R : Result → Shared → Prop} {n : Nat}
  {C x dx dd od : Addr} {mx : Int} {u : Tok}
theorem c884 (knd : AnyKind pw w K) (T : Stat (KK w) B.heap) (r : Room (n + 5) fs A) (S₀ : St B fs ((x, instC 917 dx) :: (dx, idC []) :: l) s) (hmx : 0 ≤ mx)
    (h : ∀ dd od s' t, St B fs (fifoC w knd B x dx dd od 0 mx t u [] [] l) s' → R (.ok (.ret .none)) s') :
    codeAny (model pw w) A (.call (.ref 884) ⟨[.ref x, .int mx u], []⟩) R s := by
  refine callS (binds := [(S "self", .ref x), (S "maxsize", .int mx u), (S "getsizeof", .none)]) (names := [S "self", S "maxsize", S "getsizeof"]) (locs := [(S "getsizeof", .none), (S "maxsize", .int mx u), (S "self", .ref x)]) fnOk884 T S₀ r (bndT T S₀ [.none] rfl (by kernel_rfl) (by rfl) (by kernel_rfl)) rfl rfl (by kernel_rfl) (by decide +kernel) (by kernel_rfl) fun L s' r₁ S₁ => ?_
  refine wpAny_execs_cons ?_
  walk_at "m_wk"
  refine methodCall_KW ?_
  walk_at "m_wk"
  refine methCls (f := 749) T (by assumption) (by kernel_rfl) fun s' S' => ?_
  refine callFn T (by kernel_rfl) ?_
  refine args_cons ?_
  walk_at "m_wk"
  refine args_cons ?_
  walk_at "m_wk"
  refine args_cons ?_
  walk_at "m_wk"
  refine args_nil ⟨⟨_, _, by assumption⟩, wpAny_call ?_⟩
  refine c749 knd c917 T (r₁.less (m := n + 3) (by omega)) (St.back (p := [_, _]) (by assumption)) hmx fun dd s' t S' => ?_
  have S' := St.front (p := [_, _, _]) S'
  simp only [List.cons_append, List.nil_append] at S'
  walk_at "m_wk"
  refine dictNil knd (by assumption) fun d s' S' => ?_
  walk_at "m_wk"
  rename_i S'
  have S' := S'.reId (xs' := fifoN dd d 0 mx _ u) (by walk_at "m_updt") (by walk_at "m_pm")
  exact h _ _ _ _ (St.tail (St.pop (S'.perm (l' := (L, _) :: fifoC w knd B x dx dd d 0 mx _ u [] [] l) (by walk_at "m_pm"))))
end

end
-- F3
section
set_option maxRecDepth 100000
set_option maxHeartbeats 400000
section
variable {w : World} {A : Around} {E : Value → Shared → Prop} {B : Shared} {fs : List Env} {l : Cells} {s : Shared} {K : Type} [DecidableEq K] {knd : AnyKind pw w K} {R : Result → Shared → Prop} {n : Nat}
  {C x dx dd od : Addr} {xs os : List (K × Value × Value)} {key v : Value} {k : K} {sz mx : Int} {t u : Tok} {p q : Value × Value}
/-- setitem of FIFO, the key is there -/
theorem c892_there (T : Stat (KK w) B.heap) (r : Room (n + 5) fs A) (S₀ : St B fs (fifoC w knd B x dx dd od sz mx t u xs os l) s) (hsz : xs.length ≤ sizeLine) (hso : os.length ≤ sizeLine) (hso' : (delK os k).length ≤ sizeLine) (hk : knd.is B.heap k key) (hp : atK xs k = some p) (hq : atK os k = some q) (hmx : 0 < mx)
    (h : ∀ s', St B fs (fifoC w knd B x dx dd od sz mx t u (putK xs k key v) (putK (delK os k) k key q.2) l) s' → R (.ok (.ret .none)) s') :
    codeAny (model pw w) A (.call (.ref 892) ⟨[.ref x, key, v], []⟩) R s := by
  refine callS (binds := [(S "self", .ref x), (S "key", key), (S "value", v), (S "cache_setitem", .ref 770)]) (names := [S "self", S "key", S "value", S "cache_setitem"]) (locs := [(S "cache_setitem", .ref 770), (S "value", v), (S "key", key), (S "self", .ref x)]) fnOk892 T S₀ r
    (bndT T S₀ [.ref 770] rfl (by kernel_rfl) (by rfl) (by kernel_rfl)) rfl rfl (by kernel_rfl) (by decide +kernel) (by kernel_rfl) fun L s' r₁ S₁ => ?_
  refine wpAny_execs_cons ?_
  walk_at "m_wk"
  refine Call_ ?_
  walk_at "m_wk"
  refine callFn T (by kernel_rfl) ?_
  refine args_cons ?_
  walk_at "m_wk"
  refine args_cons ?_
  walk_at "m_wk"
  refine args_cons ?_
  walk_at "m_wk"
  refine args_nil ⟨⟨_, _, by assumption⟩, wpAny_call ?_⟩
  refine c770_there c917 T (r₁.less (m := n + 3) (by omega)) (St.back (p := [_, _, _]) (by assumption)) (by walk_at "m_nin") (by simp) hsz hk hp hmx fun s' S' => ?_
  have S' := St.front (p := [_, _, _]) S'
  simp only [List.cons_append, List.nil_append] at S'
  walk_at "m_wk"
  refine inS (by assumption) (by walk_at "m_mem") r₁.u1 hk fun s₃ S₃ => ?_
  walk_at "m_wk"
  rw [hq, if_pos (by rfl)]
  walk_at "m_wk"
  refine methodCall_KW ?_
  walk_at "m_wk"
  refine dictPopM (by assumption) (by walk_at "m_mem") ?_
  refine callB ?_
  refine args_cons ?_
  walk_at "m_wk"
  refine args_nil ?_
  refine popS (by assumption) (by walk_at "m_updt") r₁.u1 hk hq (fun s₄ S₄ => ?_) hso
  walk_at "m_wk"
  refine putS (by assumption) (by walk_at "m_updt") r₁.u1 hk (fun s₅ S₅ => ?_) hso'
  walk_at "m_wk"
  exact h _ (St.tail (St.pop (by assumption)))
end

end
-- LR1
section
set_option maxRecDepth 100000
set_option maxHeartbeats 400000
section
variable {w : World} {A : Around} {E : Value → Shared → Prop} {B : Shared} {fs : List Env} {l : Cells} {s : Shared} {K : Type} [DecidableEq K] {knd : AnyKind pw w K} {R : Result → Shared → Prop} {n : Nat}
  {C x dx dd od : Addr} {xs os : List (K × Value × Value)} {key v : Value} {k : K} {sz mx : Int} {t u : Tok} {p q : Value × Value}

abbrev lruN (dd od : Addr) (sz mx : Int) (t u : Tok) : Names := baseN dd sz mx t u [(S "_LRUCache__order", .ref od)]
abbrev lruC (w : World) {K : Type} [DecidableEq K] (knd : AnyKind pw w K) (B : Shared) (x dx dd od : Addr) (sz mx : Int) (t u : Tok) (xs os : List (K × Value × Value)) (l : Cells) : Cells :=
  (x, instC 982 dx) :: (dx, idC (lruN dd od sz mx t u)) :: (dd, dictC knd B xs) :: (od, dictC knd B os) :: l
theorem c982 : 982 ∈ cacheCls := by decide

theorem c958 (T : Stat (KK w) B.heap) (r : Room (n + 4) fs A) (S₀ : St B fs (lruC w knd B x dx dd od sz mx t u xs os l) s) (hsz : xs.length ≤ sizeLine) (hso : os.length ≤ sizeLine) (hk : knd.is B.heap k key) (hp : atK xs k = some p) (hq : atK os k = some q)
    (h : ∀ s' t', St B fs (lruC w knd B x dx dd od (sz - 1) mx t' u (delK xs k) (delK os k) l) s' → R (.ok (.ret .none)) s') :
    codeAny (model pw w) A (.call (.ref 958) ⟨[.ref x, key], []⟩) R s := by
  refine callS (binds := [(S "self", .ref x), (S "key", key), (S "cache_delitem", .ref 777)]) (names := [S "self", S "key", S "cache_delitem"]) (locs := [(S "cache_delitem", .ref 777), (S "key", key), (S "self", .ref x)]) fnOk958 T S₀ r
    (bndT T S₀ [.ref 777] rfl (by kernel_rfl) (by rfl) (by kernel_rfl)) rfl rfl (by kernel_rfl) (by decide +kernel) (by kernel_rfl) fun L s' r₁ S₁ => ?_
  refine wpAny_execs_cons ?_
  walk_at "m_wk"
  refine Call_ ?_
  walk_at "m_wk"
  refine callFn T (by kernel_rfl) ?_
  refine args_cons ?_
  walk_at "m_wk"
  refine args_cons ?_
  walk_at "m_wk"
  refine args_nil ⟨⟨_, _, by assumption⟩, wpAny_call ?_⟩
  refine c777 c982 T r₁ (St.back (p := [_, _, _]) (by assumption)) (by walk_at "m_nin") (by simp) hsz hk hp fun s' t' S' => ?_
  have S' := St.front (p := [_, _, _]) S'
  simp only [List.cons_append, List.nil_append] at S'
  walk_at "m_wk"
  refine delS (by assumption) (by walk_at "m_updt") r₁.u1 hk hq (fun s₃ S₃ => ?_) hso
  walk_at "m_wk"
  exact h _ _ (St.tail (St.pop (by assumption)))

theorem c965 {k : K} {kv ov : Value} {os' : List (K × Value × Value)} (T : Stat (KK w) B.heap) (r : Room (n + 6) fs A) (S₀ : St B fs (lruC w knd B x dx dd od sz mx t u xs os l) s) (hsz : xs.length ≤ sizeLine) (hso : os.length ≤ sizeLine) (ho : os = (k, kv, ov) :: os') (hp : atK xs k = some p)
    (h : ∀ a s' t', St B fs ((a, objC { cls := .type "tuple", data := .seq #[kv, p.2] }) :: lruC w knd B x dx dd od (sz - 1) mx t' u (delK xs k) (delK os k) l) s' → R (.ok (.ret (.ref a))) s') :
    codeAny (model pw w) A (.call (.ref 965) ⟨[.ref x], []⟩) R s := by
  refine callS (binds := [(S "self", .ref x)]) (names := [S "self"]) (locs := [(S "self", .ref x)]) fnOk965 T S₀ r
    (BindsTo.of_eq (by kernel_rfl)) rfl rfl (by kernel_rfl) (by decide +kernel) (by kernel_rfl) fun L s' r₁ S₁ => ?_
  have hkey : knd.is B.heap k kv := S₁.keys (d := od) (by walk_at "m_mem") (k, kv, ov) (by rw [ho]; exact List.mem_cons_self)
  have hq : atK os k = some (kv, ov) := by rw [ho]; simp [atK]
  refine wpAny_execs_cons ?_
  refine wpAny_Try_except ?_
  walk_at "m_wk"
  refine Call_ ?_
  refine ldB T (by assumption) (by kernel_rfl) PyProof.Rows.Boot.«next» ?_
  refine PyProof.Rows.callWith_builtin1 ?_
  refine args_cons ?_
  refine Call_ ?_
  refine ldB T (by assumption) (by kernel_rfl) PyProof.Rows.Boot.«iter» ?_
  refine PyProof.Rows.callWith_builtin1 ?_
  refine args_cons ?_
  walk_at "m_wk"
  refine args_nil ?_
  refine iterS (by assumption) (by walk_at "m_mem") fun I s' ep S' he => ?_
  refine args_nil ?_
  refine nextS (by assumption) (by walk_at "m_mem") (by walk_at "m_updt") he (by rw [ho]; rfl) fun s' S' he => ?_
  have S' := S'.tail
  walk_at "m_wk"
  refine methodCall_KW ?_
  walk_at "m_wk"
  refine methCls (f := 763) T (by assumption) (by kernel_rfl) fun s' S' => ?_
  refine callFn T (by kernel_rfl) ?_
  refine args_cons ?_
  walk_at "m_wk"
  refine args_cons ?_
  walk_at "m_wk"
  refine args_nil ⟨⟨_, _, by assumption⟩, wpAny_call ?_⟩
  refine c763 c982 T (r₁.less (m := n + 3) (by omega)) (St.back (p := [_, _, _]) (by assumption)) hkey hp fun s' S' => ?_
  have S' := St.front (p := [_, _, _]) S'
  simp only [List.cons_append, List.nil_append] at S'
  walk_at "m_wk"
  refine delOwn (f := 958) T (by assumption) (by walk_at "m_mem") (by walk_at "m_mem") (by kernel_rfl) (by kernel_rfl) ?_
  refine wpAny_call ?_
  refine c958 T (r₁.less (m := n + 4) (by omega)) (St.back (p := [_, _, _, _]) (by assumption)) hsz hso hkey hp hq fun s' t' S' => ?_
  have S' := St.front (p := [_, _, _, _]) S'
  simp only [List.cons_append, List.nil_append] at S'
  walk_at "m_wk"
  refine wpAny_Tuple ?_
  refine wpAny_items_cons ?_
  walk_at "m_wk"
  refine wpAny_items_cons ?_
  walk_at "m_wk"
  refine wpAny_items_nil ?_
  exact ⟨by rw [sizeLine_eq]; simp, h _ _ _ (St.push (c := objC { cls := .type "tuple", data := .seq #[kv, p.2] }) (St.tail (St.pop (by assumption))) rfl _)⟩

theorem pops965 {k : K} {kv ov : Value} {os' : List (K × Value × Value)} (T : Stat (KK w) B.heap) (hsz : xs.length ≤ sizeLine) (hso : os.length ≤ sizeLine) (ho : os = (k, kv, ov) :: os') (hp : atK xs k = some p) :
    Pops w B knd 965 (n + 6) 982 x dx dd sz mx u [(S "_LRUCache__order", .ref od)] xs (delK xs k) [(od, dictC knd B os)] [(od, dictC knd B (delK os k))] :=
  fun _ _ _ _ _ _ r S₀ h => c965 T r S₀ hsz hso ho hp fun _ _ _ S' => h _ _ _ S'.tail
theorem c934 (knd : AnyKind pw w K) (T : Stat (KK w) B.heap) (r : Room (n + 5) fs A) (S₀ : St B fs ((x, instC 982 dx) :: (dx, idC []) :: l) s) (hmx : 0 ≤ mx)
    (h : ∀ dd od s' t, St B fs (lruC w knd B x dx dd od 0 mx t u [] [] l) s' → R (.ok (.ret .none)) s') :
    codeAny (model pw w) A (.call (.ref 934) ⟨[.ref x, .int mx u], []⟩) R s := by
  refine callS (binds := [(S "self", .ref x), (S "maxsize", .int mx u), (S "getsizeof", .none)]) (names := [S "self", S "maxsize", S "getsizeof"]) (locs := [(S "getsizeof", .none), (S "maxsize", .int mx u), (S "self", .ref x)]) fnOk934 T S₀ r (bndT T S₀ [.none] rfl (by kernel_rfl) (by rfl) (by kernel_rfl)) rfl rfl (by kernel_rfl) (by decide +kernel) (by kernel_rfl) fun L s' r₁ S₁ => ?_
  refine wpAny_execs_cons ?_
  walk_at "m_wk"
  refine methodCall_KW ?_
  walk_at "m_wk"
  refine methCls (f := 749) T (by assumption) (by kernel_rfl) fun s' S' => ?_
  refine callFn T (by kernel_rfl) ?_
  refine args_cons ?_
  walk_at "m_wk"
  refine args_cons ?_
  walk_at "m_wk"
  refine args_cons ?_
  walk_at "m_wk"
  refine args_nil ⟨⟨_, _, by assumption⟩, wpAny_call ?_⟩
  refine c749 knd c982 T (r₁.less (m := n + 3) (by omega)) (St.back (p := [_, _]) (by assumption)) hmx fun dd s' t S' => ?_
  have S' := St.front (p := [_, _, _]) S'
  simp only [List.cons_append, List.nil_append] at S'
  walk_at "m_wk"
  refine dictNil knd (by assumption) fun d s' S' => ?_
  walk_at "m_wk"
  rename_i S'
  have S' := S'.reId (xs' := lruN dd d 0 mx _ u) (by walk_at "m_updt") (by walk_at "m_pm")
  exact h _ _ _ _ (St.tail (St.pop (S'.perm (l' := (L, _) :: lruC w knd B x dx dd d 0 mx _ u [] [] l) (by walk_at "m_pm"))))
end

end
-- LR2
section
set_option maxRecDepth 100000
set_option maxHeartbeats 400000
theorem ke_exc : isSubtype (.type "KeyError") (.type "BaseException") = pure true := by rw [isSubtype_type]; kernel_rfl
theorem ke_nt : isSubtype (.type ((Manifest.find? "KeyError").elim "type" fun y => y.metatype)) (.type "tuple") = pure false := by rw [isSubtype_type]; kernel_rfl
theorem ke_sub : isSubtype (.type "KeyError") (.type "KeyError") = pure true := by rw [isSubtype_type]; kernel_rfl
section
variable {w : World} {A : Around} {E : Value → Shared → Prop} {B : Shared} {fs : List Env} {l : Cells} {s : Shared} {K : Type} [DecidableEq K] {knd : AnyKind pw w K} {R : Result → Shared → Prop} {n : Nat}
  {C x dx dd od : Addr} {xs os : List (K × Value × Value)} {key v : Value} {k : K} {sz mx : Int} {t u : Tok} {p q : Value × Value}
/-- touch, the key is there -/
theorem c979_there (T : Stat (KK w) B.heap) (r : Room (n + 3) fs A) (S₀ : St B fs (lruC w knd B x dx dd od sz mx t u xs os l) s) (hso : os.length ≤ sizeLine) (hso' : (delK os k).length ≤ sizeLine) (hk : knd.is B.heap k key) (hq : atK os k = some q)
    (h : ∀ s', St B fs (lruC w knd B x dx dd od sz mx t u xs (putK (delK os k) k key q.2) l) s' → R (.ok (.ret .none)) s') :
    codeAny (model pw w) A (.call (.ref 979) ⟨[.ref x, key], []⟩) R s := by
  refine callS (binds := [(S "self", .ref x), (S "key", key)]) (names := [S "self", S "key"]) (locs := [(S "key", key), (S "self", .ref x)]) fnOk979 T S₀ r
    (BindsTo.of_eq (by kernel_rfl)) rfl rfl (by kernel_rfl) (by decide +kernel) (by kernel_rfl) fun L s' r₁ S₁ => ?_
  refine wpAny_execs_cons ?_
  refine wpAny_Try_except ?_
  walk_at "m_wk"
  refine methodCall_KW ?_
  walk_at "m_wk"
  refine dictPopM (by assumption) (by walk_at "m_mem") ?_
  refine callB ?_
  refine args_cons ?_
  walk_at "m_wk"
  refine args_nil ?_
  refine popS (by assumption) (by walk_at "m_updt") r₁.u1 hk hq (fun s₄ S₄ => ?_) hso
  walk_at "m_wk"
  refine putS (by assumption) (by walk_at "m_updt") r₁.u1 hk (fun s₅ S₅ => ?_) hso'
  walk_at "m_wk"
  exact h _ (St.tail (St.pop (by assumption)))
/-- touch, the key is not there -/
theorem c979_new (T : Stat (KK w) B.heap) (r : Room (n + 3) fs A) (S₀ : St B fs (lruC w knd B x dx dd od sz mx t u xs os l) s) (hso : os.length ≤ sizeLine) (hk : knd.is B.heap k key) (hq : atK os k = none)
    (h : ∀ s', St B fs (lruC w knd B x dx dd od sz mx t u xs (putK os k key .none) l) s' → R (.ok (.ret .none)) s') :
    codeAny (model pw w) A (.call (.ref 979) ⟨[.ref x, key], []⟩) R s := by
  refine callS (binds := [(S "self", .ref x), (S "key", key)]) (names := [S "self", S "key"]) (locs := [(S "key", key), (S "self", .ref x)]) fnOk979 T S₀ r
    (BindsTo.of_eq (by kernel_rfl)) rfl rfl (by kernel_rfl) (by decide +kernel) (by kernel_rfl) fun L s' r₁ S₁ => ?_
  refine wpAny_execs_cons ?_
  refine wpAny_Try_except ?_
  walk_at "m_wk"
  refine methodCall_KW ?_
  walk_at "m_wk"
  refine dictPopM (by assumption) (by walk_at "m_mem") ?_
  refine callB ?_
  refine args_cons ?_
  walk_at "m_wk"
  refine args_nil ?_
  refine popS_missing (by assumption) (by walk_at "m_mem") r₁.u1 r₁.handled hk hq hso fun h' e t' he => ?_
  refine caughtS (by assumption) r₁.frames he ke_exc ke_nt ke_sub (fun s' Q' S' hq => ldB T S' (by kernel_rfl) PyProof.Rows.Boot.«KeyError» hq) fun s' S' => ?_
  walk_at "m_wk"
  refine putS (by assumption) (by walk_at "m_updt") r₁.u1 hk (fun s₅ S₅ => ?_) hso
  walk_at "m_wk"
  exact h _ (St.tail (St.pop (by assumption)))
end

end
-- LR3
section
set_option maxRecDepth 100000
set_option maxHeartbeats 400000
section
variable {w : World} {A : Around} {E : Value → Shared → Prop} {B : Shared} {fs : List Env} {l : Cells} {s : Shared} {K : Type} [DecidableEq K] {knd : AnyKind pw w K} {R : Result → Shared → Prop} {n : Nat}
  {C x dx dd od : Addr} {xs os : List (K × Value × Value)} {key v : Value} {k : K} {sz mx : Int} {t u : Tok} {p q : Value × Value}
/-- getitem of LRU, the key is there -/
theorem c942 (T : Stat (KK w) B.heap) (r : Room (n + 5) fs A) (S₀ : St B fs (lruC w knd B x dx dd od sz mx t u xs os l) s) (hso : os.length ≤ sizeLine) (hso' : (delK os k).length ≤ sizeLine) (hk : knd.is B.heap k key) (hp : atK xs k = some p) (hq : atK os k = some q)
    (h : ∀ s', St B fs (lruC w knd B x dx dd od sz mx t u xs (putK (delK os k) k key q.2) l) s' → R (.ok (.ret p.2)) s') :
    codeAny (model pw w) A (.call (.ref 942) ⟨[.ref x, key], []⟩) R s := by
  refine callS (binds := [(S "self", .ref x), (S "key", key), (S "cache_getitem", .ref 763)]) (names := [S "self", S "key", S "cache_getitem"]) (locs := [(S "cache_getitem", .ref 763), (S "key", key), (S "self", .ref x)]) fnOk942 T S₀ r
    (bndT T S₀ [.ref 763] rfl (by kernel_rfl) (by rfl) (by kernel_rfl)) rfl rfl (by kernel_rfl) (by decide +kernel) (by kernel_rfl) fun L s' r₁ S₁ => ?_
  refine wpAny_execs_cons ?_
  walk_at "m_wk"
  refine Call_ ?_
  walk_at "m_wk"
  refine callFn T (by kernel_rfl) ?_
  refine args_cons ?_
  walk_at "m_wk"
  refine args_cons ?_
  walk_at "m_wk"
  refine args_nil ⟨⟨_, _, by assumption⟩, wpAny_call ?_⟩
  refine c763 c982 T (r₁.less (m := n + 3) (by omega)) (St.back (p := [_, _, _]) (by assumption)) hk hp fun s' S' => ?_
  have S' := St.front (p := [_, _, _]) S'
  simp only [List.cons_append, List.nil_append] at S'
  walk_at "m_wk"
  refine wpAny_Try_except ?_
  walk_at "m_wk"
  refine methodCall_KW ?_
  walk_at "m_wk"
  refine dictPopM (by assumption) (by walk_at "m_mem") ?_
  refine callB ?_
  refine args_cons ?_
  walk_at "m_wk"
  refine args_nil ?_
  refine popS (by assumption) (by walk_at "m_updt") r₁.u1 hk hq (fun s₄ S₄ => ?_) hso
  walk_at "m_wk"
  refine putS (by assumption) (by walk_at "m_updt") r₁.u1 hk (fun s₅ S₅ => ?_) hso'
  walk_at "m_wk"
  exact h _ (St.tail (St.pop (by assumption)))
/-- setitem of LRU, the key is not there, and there is room -/
theorem c950_new (T : Stat (KK w) B.heap) (r : Room (n + 5) fs A) (S₀ : St B fs (lruC w knd B x dx dd od sz mx t u xs os l) s) (hsz : xs.length ≤ sizeLine) (hso : os.length ≤ sizeLine) (hk : knd.is B.heap k key) (hp : atK xs k = none) (hq : atK os k = none) (hmx : sz < mx) (h0 : 0 ≤ sz)
    (h : ∀ s' t, St B fs (lruC w knd B x dx dd od (sz + 1) mx t u (putK xs k key v) (putK os k key .none) l) s' → R (.ok (.ret .none)) s') :
    codeAny (model pw w) A (.call (.ref 950) ⟨[.ref x, key, v], []⟩) R s := by
  refine callS (binds := [(S "self", .ref x), (S "key", key), (S "value", v), (S "cache_setitem", .ref 770)]) (names := [S "self", S "key", S "value", S "cache_setitem"]) (locs := [(S "cache_setitem", .ref 770), (S "value", v), (S "key", key), (S "self", .ref x)]) fnOk950 T S₀ r
    (bndT T S₀ [.ref 770] rfl (by kernel_rfl) (by rfl) (by kernel_rfl)) rfl rfl (by kernel_rfl) (by decide +kernel) (by kernel_rfl) fun L s' r₁ S₁ => ?_
  refine wpAny_execs_cons ?_
  walk_at "m_wk"
  refine Call_ ?_
  walk_at "m_wk"
  refine callFn T (by kernel_rfl) ?_
  refine args_cons ?_
  walk_at "m_wk"
  refine args_cons ?_
  walk_at "m_wk"
  refine args_cons ?_
  walk_at "m_wk"
  refine args_nil ⟨⟨_, _, by assumption⟩, wpAny_call ?_⟩
  refine c770_new c982 T (r₁.less (m := n + 3) (by omega)) (St.back (p := [_, _, _]) (by assumption)) (by walk_at "m_nin") (by simp) hsz hk hp hmx h0 fun s' t' S' => ?_
  have S' := St.front (p := [_, _, _]) S'
  simp only [List.cons_append, List.nil_append] at S'
  walk_at "m_wk"
  refine methodCall_KW ?_
  walk_at "m_wk"
  refine methFn (f := 979) T (by assumption) (by walk_at "m_mem") (by walk_at "m_mem") (by kernel_rfl) ?_ (by walk_at "m_nin")
  refine callFn T (by kernel_rfl) ?_
  refine args_cons ?_
  walk_at "m_wk"
  refine args_nil ⟨⟨_, _, by assumption⟩, wpAny_call ?_⟩
  refine c979_new T (r₁.less (m := n + 3) (by omega)) (St.back (p := [_, _, _, _]) (by assumption)) hso hk hq fun s' S' => ?_
  have S' := St.front (p := [_, _, _, _]) S'
  simp only [List.cons_append, List.nil_append] at S'
  walk_at "m_wk"
  exact h _ _ (St.tail (St.pop (by assumption)))
/-- setitem of LRU, the key is there -/
theorem c950_there (T : Stat (KK w) B.heap) (r : Room (n + 5) fs A) (S₀ : St B fs (lruC w knd B x dx dd od sz mx t u xs os l) s) (hsz : xs.length ≤ sizeLine) (hso : os.length ≤ sizeLine) (hso' : (delK os k).length ≤ sizeLine) (hk : knd.is B.heap k key) (hp : atK xs k = some p) (hq : atK os k = some q) (hmx : 0 < mx)
    (h : ∀ s', St B fs (lruC w knd B x dx dd od sz mx t u (putK xs k key v) (putK (delK os k) k key q.2) l) s' → R (.ok (.ret .none)) s') :
    codeAny (model pw w) A (.call (.ref 950) ⟨[.ref x, key, v], []⟩) R s := by
  refine callS (binds := [(S "self", .ref x), (S "key", key), (S "value", v), (S "cache_setitem", .ref 770)]) (names := [S "self", S "key", S "value", S "cache_setitem"]) (locs := [(S "cache_setitem", .ref 770), (S "value", v), (S "key", key), (S "self", .ref x)]) fnOk950 T S₀ r
    (bndT T S₀ [.ref 770] rfl (by kernel_rfl) (by rfl) (by kernel_rfl)) rfl rfl (by kernel_rfl) (by decide +kernel) (by kernel_rfl) fun L s' r₁ S₁ => ?_
  refine wpAny_execs_cons ?_
  walk_at "m_wk"
  refine Call_ ?_
  walk_at "m_wk"
  refine callFn T (by kernel_rfl) ?_
  refine args_cons ?_
  walk_at "m_wk"
  refine args_cons ?_
  walk_at "m_wk"
  refine args_cons ?_
  walk_at "m_wk"
  refine args_nil ⟨⟨_, _, by assumption⟩, wpAny_call ?_⟩
  refine c770_there c982 T (r₁.less (m := n + 3) (by omega)) (St.back (p := [_, _, _]) (by assumption)) (by walk_at "m_nin") (by simp) hsz hk hp hmx fun s' S' => ?_
  have S' := St.front (p := [_, _, _]) S'
  simp only [List.cons_append, List.nil_append] at S'
  walk_at "m_wk"
  refine methodCall_KW ?_
  walk_at "m_wk"
  refine methFn (f := 979) T (by assumption) (by walk_at "m_mem") (by walk_at "m_mem") (by kernel_rfl) ?_ (by walk_at "m_nin")
  refine callFn T (by kernel_rfl) ?_
  refine args_cons ?_
  walk_at "m_wk"
  refine args_nil ⟨⟨_, _, by assumption⟩, wpAny_call ?_⟩
  refine c979_there T (r₁.less (m := n + 3) (by omega)) (St.back (p := [_, _, _, _]) (by assumption)) hso hso' hk hq fun s' S' => ?_
  have S' := St.front (p := [_, _, _, _]) S'
  simp only [List.cons_append, List.nil_append] at S'
  walk_at "m_wk"
  exact h _ (St.tail (St.pop (by assumption)))
/-- setitem of LRU, a new key into a full cache -/
theorem c950_full {k0 : K} {kv ov : Value} {os' : List (K × Value × Value)} (T : Stat (KK w) B.heap) (r : Room (n + 12) fs A) (S₀ : St B fs (lruC w knd B x dx dd od sz mx t u xs os l) s) (hsz : xs.length ≤ sizeLine) (hso : os.length ≤ sizeLine) (ho : os = (k0, kv, ov) :: os') (hp0 : atK xs k0 = some p) (hd1 : (delK xs k0).length ≤ sizeLine) (hd2 : (delK os k0).length ≤ sizeLine) (hk : knd.is B.heap k key) (hp : atK xs k = none) (hq : atK (delK os k0) k = none) (hmx : sz = mx) (h0 : 0 < sz)
    (h : ∀ s' t, St B fs (lruC w knd B x dx dd od (sz - 1 + 1) mx t u (putK (delK xs k0) k key v) (putK (delK os k0) k key .none) l) s' → R (.ok (.ret .none)) s') :
    codeAny (model pw w) A (.call (.ref 950) ⟨[.ref x, key, v], []⟩) R s := by
  refine callS (binds := [(S "self", .ref x), (S "key", key), (S "value", v), (S "cache_setitem", .ref 770)]) (names := [S "self", S "key", S "value", S "cache_setitem"]) (locs := [(S "cache_setitem", .ref 770), (S "value", v), (S "key", key), (S "self", .ref x)]) fnOk950 T S₀ r
    (bndT T S₀ [.ref 770] rfl (by kernel_rfl) (by rfl) (by kernel_rfl)) rfl rfl (by kernel_rfl) (by decide +kernel) (by kernel_rfl) fun L s' r₁ S₁ => ?_
  refine wpAny_execs_cons ?_
  walk_at "m_wk"
  refine Call_ ?_
  walk_at "m_wk"
  refine callFn T (by kernel_rfl) ?_
  refine args_cons ?_
  walk_at "m_wk"
  refine args_cons ?_
  walk_at "m_wk"
  refine args_cons ?_
  walk_at "m_wk"
  refine args_nil ⟨⟨_, _, by assumption⟩, wpAny_call ?_⟩
  refine c770_full (n := n + 4) (pf := 965) (ext := [(od, dictC knd B os)]) (ext' := [(od, dictC knd B (delK os k0))]) c982 T (r₁.less (m := n + 7) (by omega)) (St.back (p := [_, _, _, _]) (by assumption))
    (pops965 T hsz hso ho hp0) (by kernel_rfl) (by kernel_rfl) (by walk_at "m_nin") (by walk_at "m_nin") (by simp) hd1 hk hp hmx h0 fun s' t' S' => ?_
  have S' := St.front (p := [_, _, _, _]) S'
  simp only [List.cons_append, List.nil_append] at S'
  walk_at "m_wk"
  refine methodCall_KW ?_
  walk_at "m_wk"
  refine methFn (f := 979) T (by assumption) (by walk_at "m_mem") (by walk_at "m_mem") (by kernel_rfl) ?_ (by walk_at "m_nin")
  refine callFn T (by kernel_rfl) ?_
  refine args_cons ?_
  walk_at "m_wk"
  refine args_nil ⟨⟨_, _, by assumption⟩, wpAny_call ?_⟩
  refine c979_new T (r₁.less (m := n + 3) (by omega)) (St.back (p := [_, _, _, _]) (by assumption)) hd2 hk hq fun s' S' => ?_
  have S' := St.front (p := [_, _, _, _]) S'
  simp only [List.cons_append, List.nil_append] at S'
  walk_at "m_wk"
  exact h _ _ (St.tail (St.pop (by assumption)))
end

end
-- TM
section
set_option maxRecDepth 100000
set_option maxHeartbeats 400000
section
variable {w : World} {A : Around} {E : Value → Shared → Prop} {B : Shared} {fs : List Env} {l : Cells} {s : Shared} {R : Result → Shared → Prop} {n : Nat} {m : Int} {tm dt : Addr}
/-- a timer's own names: the depth, the clock, the time once it was asked -/
abbrev timN (m : Int) (t : Tok) (more : Names) : Names := (S "_Timer__nesting", .int m t) :: (S "_Timer__timer", .ref aClock) :: more
abbrev timT (u : Tok) : Names := [(S "_Timer__time", .int 100 u)]
def timC (m : Int) : Cell := fun o => 0 ≤ m ∧ ((m = 0 ∧ ∃ t, idC (timN m t []) o) ∨ ∃ t u, idC (timN m t (timT u)) o)
theorem soft_timC {m : Int} : Soft (timC m) := fun _ _ h => h
abbrev timerC (tm dt : Addr) (m : Int) (l : Cells) : Cells := (tm, instC 1044 dt) :: (dt, timC m) :: l
theorem timer_open (S : St B fs l s) (hm : (dt, timC m) ∈ l) {l' : Names → Cells} (u : ∀ xs, Upd l (dt, timC m) (dt, idC xs) (l' xs)) :
    0 ≤ m ∧ ((m = 0 ∧ ∃ t, St B fs (l' (timN m t [])) s) ∨ ∃ t u, St B fs (l' (timN m t (timT u))) s) := by
  obtain ⟨o, ho, h0, h⟩ := S.has _ hm
  refine ⟨h0, ?_⟩
  rcases h with ⟨hz, t, h⟩ | ⟨t, v, h⟩
  · exact .inl ⟨hz, t, S.at1 (u _) ho h fun _ => soft_idC⟩
  · exact .inr ⟨t, v, S.at1 (u _) ho h fun _ => soft_idC⟩

theorem cClock (T : Stat (KK w) B.heap) (r : Room (n + 1) fs A) (S₀ : St B fs l s) (h : ∀ s' t, St B fs l s' → R (.ok (.ret (.int 100 t))) s') :
    codeAny (model pw w) A (.call (.ref aClock) ⟨[], []⟩) R s := by
  refine callS (binds := []) (names := []) (locs := []) fnOkClock T S₀ r (BindsTo.of_eq (by kernel_rfl)) rfl rfl (by kernel_rfl) (by decide +kernel) (by kernel_rfl) fun L s' r₁ S₁ => ?_
  refine wpAny_execs_cons ?_
  walk_at "m_wk"
  exact h _ _ (St.tail (St.pop (by assumption)))

/-- the timer, called -/
theorem c1013 (T : Stat (KK w) B.heap) (r : Room (n + 3) fs A) (S₀ : St B fs (timerC tm dt m l) s) (h : ∀ s' t, St B fs (timerC tm dt m l) s' → R (.ok (.ret (.int 100 t))) s') :
    codeAny (model pw w) A (.call (.ref 1013) ⟨[.ref tm], []⟩) R s := by
  obtain ⟨h0, ⟨hz, t, S₀⟩ | ⟨t, v, S₀⟩⟩ := timer_open (dt := dt) (m := m) S₀ (by walk_at "m_mem") (l' := fun xs => (tm, instC 1044 dt) :: (dt, idC xs) :: l) (fun xs => by walk_at "m_updt")
  · refine callS (binds := [(S "self", .ref tm)]) (names := [S "self"]) (locs := [(S "self", .ref tm)]) fnOk1013 T S₀ r (BindsTo.of_eq (by kernel_rfl)) rfl rfl (by kernel_rfl) (by decide +kernel) (by kernel_rfl) fun L s' r₁ S₁ => ?_
    refine wpAny_execs_cons ?_
    walk_at "m_wk"
    rw [if_pos (by simp [hz])]
    walk_at "m_wk"
    refine methodCall_KW ?_
    walk_at "m_wk"
    refine methUsual T (by assumption) (by walk_at "m_mem") (by walk_at "m_mem") (by kernel_rfl) ?_
    walk_at "m_wk"
    refine callFn0 T (by assumption) (by kernel_rfl) (wpAny_call (cClock T r₁ (by assumption) fun s' t' S' => ?_))
    walk_at "m_wk"
    exact h _ _ (St.imp (St.tail (St.pop S')) (by walk_at "m_updt") (fun o ho => ⟨h0, .inl ⟨hz, _, ho⟩⟩) fun _ => soft_timC)
  · refine callS (binds := [(S "self", .ref tm)]) (names := [S "self"]) (locs := [(S "self", .ref tm)]) fnOk1013 T S₀ r (BindsTo.of_eq (by kernel_rfl)) rfl rfl (by kernel_rfl) (by decide +kernel) (by kernel_rfl) fun L s' r₁ S₁ => ?_
    refine wpAny_execs_cons ?_
    walk_at "m_wk"
    by_cases hz : m = 0
    · rw [if_pos (by simp [hz])]
      walk_at "m_wk"
      refine methodCall_KW ?_
      walk_at "m_wk"
      refine methUsual T (by assumption) (by walk_at "m_mem") (by walk_at "m_mem") (by kernel_rfl) ?_
      walk_at "m_wk"
      refine callFn0 T (by assumption) (by kernel_rfl) (wpAny_call (cClock T r₁ (by assumption) fun s' t' S' => ?_))
      walk_at "m_wk"
      exact h _ _ (St.imp (St.tail (St.pop S')) (by walk_at "m_updt") (fun o ho => ⟨h0, .inr ⟨_, _, ho⟩⟩) fun _ => soft_timC)
    · rw [if_neg (by simp [hz])]
      walk_at "m_wk"
      exact h _ _ (St.imp (St.tail (St.pop (by assumption))) (by walk_at "m_updt") (fun o ho => ⟨h0, .inr ⟨_, _, ho⟩⟩) fun _ => soft_timC)
end

end
-- TM2
section
set_option maxRecDepth 100000
set_option maxHeartbeats 400000
section
variable {w : World} {A : Around} {E : Value → Shared → Prop} {B : Shared} {fs : List Env} {l : Cells} {s : Shared} {R : Result → Shared → Prop} {n : Nat} {m : Int} {tm dt : Addr}
/-- into the timer -/
theorem c1020 (T : Stat (KK w) B.heap) (r : Room (n + 3) fs A) (S₀ : St B fs (timerC tm dt m l) s) (h : ∀ s' t, St B fs (timerC tm dt (m + 1) l) s' → R (.ok (.ret (.int 100 t))) s') :
    codeAny (model pw w) A (.call (.ref 1020) ⟨[.ref tm], []⟩) R s := by
  obtain ⟨h0, ⟨hz, t, S₀⟩ | ⟨t, v, S₀⟩⟩ := timer_open (dt := dt) (m := m) S₀ (by walk_at "m_mem") (l' := fun xs => (tm, instC 1044 dt) :: (dt, idC xs) :: l) (fun xs => by walk_at "m_updt")
  · refine callS (binds := [(S "self", .ref tm)]) (names := [S "self"]) (locs := [(S "self", .ref tm)]) fnOk1020 T S₀ r (BindsTo.of_eq (by kernel_rfl)) rfl rfl (by kernel_rfl) (by decide +kernel) (by kernel_rfl) fun L s' r₁ S₁ => ?_
    refine wpAny_execs_cons ?_
    walk_at "m_wk"
    rw [if_pos (by simp [hz])]
    walk_at "m_wk"
    refine methodCall_KW ?_
    walk_at "m_wk"
    refine methUsual T (by assumption) (by walk_at "m_mem") (by walk_at "m_mem") (by kernel_rfl) ?_
    walk_at "m_wk"
    refine callFn0 T (by assumption) (by kernel_rfl) (wpAny_call (cClock T r₁ (by assumption) fun s' t' S' => ?_))
    walk_at "m_wk"
    rename_i S'
    have S' := S'.reId (xs' := timN (m + 1) _ (timT _)) (by walk_at "m_updt") (by walk_at "m_pm")
    exact h _ _ (St.imp (St.tail (St.pop S')) (by walk_at "m_updt") (fun o ho => ⟨by omega, .inr ⟨_, _, ho⟩⟩) fun _ => soft_timC)
  · refine callS (binds := [(S "self", .ref tm)]) (names := [S "self"]) (locs := [(S "self", .ref tm)]) fnOk1020 T S₀ r (BindsTo.of_eq (by kernel_rfl)) rfl rfl (by kernel_rfl) (by decide +kernel) (by kernel_rfl) fun L s' r₁ S₁ => ?_
    refine wpAny_execs_cons ?_
    walk_at "m_wk"
    by_cases hz : m = 0
    · rw [if_pos (by simp [hz])]
      walk_at "m_wk"
      refine methodCall_KW ?_
      walk_at "m_wk"
      refine methUsual T (by assumption) (by walk_at "m_mem") (by walk_at "m_mem") (by kernel_rfl) ?_
      walk_at "m_wk"
      refine callFn0 T (by assumption) (by kernel_rfl) (wpAny_call (cClock T r₁ (by assumption) fun s' t' S' => ?_))
      walk_at "m_wk"
      exact h _ _ (St.imp (St.tail (St.pop (by assumption))) (by walk_at "m_updt") (fun o ho => ⟨by omega, .inr ⟨_, _, ho⟩⟩) fun _ => soft_timC)
    · rw [if_neg (by simp [hz])]
      walk_at "m_wk"
      exact h _ _ (St.imp (St.tail (St.pop (by assumption))) (by walk_at "m_updt") (fun o ho => ⟨by omega, .inr ⟨_, _, ho⟩⟩) fun _ => soft_timC)
/-- out of the timer -/
theorem c1027 (T : Stat (KK w) B.heap) (r : Room (n + 3) fs A) (S₀ : St B fs (timerC tm dt (m + 1) l) s) (h0 : 0 ≤ m) (h : ∀ s', St B fs (timerC tm dt m l) s' → R (.ok (.ret .none)) s') :
    codeAny (model pw w) A (.call (.ref 1027) ⟨[.ref tm, .none, .none, .none], []⟩) R s := by
  obtain ⟨_, ⟨hz, _⟩ | ⟨t, v, S₀⟩⟩ := timer_open (dt := dt) (m := m + 1) S₀ (by walk_at "m_mem") (l' := fun xs => (tm, instC 1044 dt) :: (dt, idC xs) :: l) (fun xs => by walk_at "m_updt")
  · omega
  refine callStar (binds := fun t => [(S "self", .ref tm), (S "exc", .ref t)]) (rest := [.none, .none, .none]) (names := [S "self", S "exc"]) (locs := fun t => [(S "exc", .ref t), (S "self", .ref tm)]) fnOk1027 T S₀ r
    (fun M A E Q hq => ?_) (fun _ => rfl) (fun _ => rfl) (by kernel_rfl) (by decide +kernel) (by kernel_rfl) fun tt L s' r₁ S₁ => ?_
  · have e : bindArgs fd1027 ⟨[.ref tm, .none, .none, .none], []⟩ = (do let t ← newTuple [.none, .none, .none]; pure [(S "self", .ref tm), (S "exc", t)]) := by kernel_rfl
    rw [e]
    exact wpAny_bind (wpAny_newObj_type (wpAny_pure hq) (by show (3 : Nat) ≤ sizeLine; rw [sizeLine_eq]; decide))
  refine wpAny_execs_cons ?_
  walk_at "m_wk"
  rw [show m + 1 - 1 = m by omega] at *
  exact h _ (St.imp (St.tail (St.tail (St.pop (by assumption)))) (by walk_at "m_updt") (fun o ho => ⟨by omega, .inr ⟨_, _, ho⟩⟩) fun _ => soft_timC)
/-- a new timer -/
theorem c1006 (T : Stat (KK w) B.heap) (r : Room (n + 3) fs A) (S₀ : St B fs ((tm, instC 1044 dt) :: (dt, idC []) :: l) s) (h : ∀ s', St B fs (timerC tm dt 0 l) s' → R (.ok (.ret .none)) s') :
    codeAny (model pw w) A (.call (.ref 1006) ⟨[.ref tm, .ref aClock], []⟩) R s := by
  refine callS (binds := [(S "self", .ref tm), (S "timer", .ref aClock)]) (names := [S "self", S "timer"]) (locs := [(S "timer", .ref aClock), (S "self", .ref tm)]) fnOk1006 T S₀ r (BindsTo.of_eq (by kernel_rfl)) rfl rfl (by kernel_rfl) (by decide +kernel) (by kernel_rfl) fun L s' r₁ S₁ => ?_
  refine wpAny_execs_cons ?_
  walk_at "m_wk"
  exact h _ (St.imp (St.tail (St.pop (by assumption))) (by walk_at "m_updt") (fun o ho => ⟨by omega, .inl ⟨rfl, _, ho⟩⟩) fun _ => soft_timC)
end

end
-- TM3
section
set_option maxRecDepth 100000
set_option maxHeartbeats 400000
end
local macro_rules | `(tactic| walk_at "m_wk1") => `(tactic| ((with_reducible show wpAny _ _ (eval (Expr.Name (Str.ofString "_TimedCache") _) _) _ _ _); refine ldG (v := .ref 1128) (by assumption) (by assumption) (by kernel_rfl) ?_))
section
set_option maxRecDepth 100000
set_option maxHeartbeats 400000
end
local macro_rules | `(tactic| walk_at "m_fact") => `(tactic| with_reducible assumption)
section
set_option maxRecDepth 100000
set_option maxHeartbeats 400000
section
variable {w : World} {A : Around} {E : Value → Shared → Prop} {B : Shared} {fs : List Env} {l : Cells} {s : Shared} {K : Type} [DecidableEq K] {knd : AnyKind pw w K} {R : Result → Shared → Prop} {n : Nat} {m : Int} {tm dt : Addr}
  {C x dx dd od : Addr} {mx : Int} {u : Tok}
theorem c1056 (knd : AnyKind pw w K) (hC : C ∈ cacheCls) (hS : setsName (KK w) C (S "_TimedCache__timer") = true) (T : Stat (KK w) B.heap) (r : Room (n + 5) fs A) (S₀ : St B fs ((x, instC C dx) :: (dx, idC []) :: l) s) (hmx : 0 ≤ mx)
    (h : ∀ dd tm dt s' t, St B fs ((x, instC C dx) :: (dx, idC (baseN dd 0 mx t u [(S "_TimedCache__timer", .ref tm)])) :: (dd, dictC knd B []) :: timerC tm dt 0 l) s' → R (.ok (.ret .none)) s') :
    codeAny (model pw w) A (.call (.ref 1056) ⟨[.ref x, .int mx u, .ref aClock, .none], []⟩) R s := by
  refine callS (binds := [(S "self", .ref x), (S "maxsize", .int mx u), (S "timer", .ref aClock), (S "getsizeof", .none)]) (names := [S "self", S "maxsize", S "timer", S "getsizeof"]) (locs := [(S "getsizeof", .none), (S "timer", .ref aClock), (S "maxsize", .int mx u), (S "self", .ref x)]) fnOk1056 T S₀ r (bndT T S₀ [.none] rfl (by kernel_rfl) (by rfl) (by kernel_rfl)) rfl rfl (by kernel_rfl) (by decide +kernel) (by kernel_rfl) fun L s' r₁ S₁ => ?_
  refine wpAny_execs_cons ?_
  walk_at "m_wk"
  refine methodCall_KW ?_
  walk_at "m_wk"
  refine methCls (f := 749) T (by assumption) (by kernel_rfl) fun s' S' => ?_
  refine callFn T (by kernel_rfl) ?_
  refine args_cons ?_
  walk_at "m_wk"
  refine args_cons ?_
  walk_at "m_wk"
  refine args_cons ?_
  walk_at "m_wk"
  refine args_nil ⟨⟨_, _, by assumption⟩, wpAny_call ?_⟩
  refine c749 knd hC T (r₁.less (m := n + 3) (by omega)) (St.back (p := [_, _]) (by assumption)) hmx fun dd s' t S' => ?_
  have S' := St.front (p := [_, _, _]) S'
  simp only [List.cons_append, List.nil_append] at S'
  walk_at "m_wk"
  refine methodCall_KW ?_
  walk_at "m_wk"
  refine methCls (f := 1044) T (by assumption) (by kernel_rfl) fun s' S' => ?_
  refine callFn T (by kernel_rfl) ?_
  refine args_cons ?_
  walk_at "m_wk"
  refine args_nil ⟨⟨_, _, by assumption⟩, wpAny_call ?_⟩
  refine makeS (fun d => instC 1044 d) T (by assumption) (by kernel_rfl) (fI := 1006) (by kernel_rfl) (by kernel_rfl) (fun _ => ⟨rfl, rfl, rfl⟩) fun tm dt s' S' => ?_
  refine c1006 T (r₁.make.less (m := n + 3) (by omega)) S' fun s' S' => ⟨rfl, ?_⟩
  walk_at "m_wk"
  rename_i S'
  have S' := S'.reId (xs' := baseN dd 0 mx _ u [(S "_TimedCache__timer", .ref tm)]) (by walk_at "m_updt") (by walk_at "m_pm")
  exact h _ _ _ _ _ (St.tail (St.pop (S'.perm (l' := (L, _) :: (x, _) :: (dx, _) :: (dd, _) :: timerC tm dt 0 l) (by walk_at "m_pm"))))
/-- the timer of a timed cache -/
theorem c1088 {C : Addr} {xs : Names} (hO : ownName (KK w) C (S "_TimedCache__timer") = true) (T : Stat (KK w) B.heap) (r : Room (n + 1) fs A) (S₀ : St B fs l s) (mi : (x, instC C dx) ∈ l) (md : (dx, idC xs) ∈ l) (mt : (S "_TimedCache__timer", .ref tm) ∈ xs)
    (h : ∀ s', St B fs l s' → R (.ok (.ret (.ref tm))) s') : codeAny (model pw w) A (.call (.ref 1088) ⟨[.ref x], []⟩) R s := by
  refine callS (binds := [(S "self", .ref x)]) (names := [S "self"]) (locs := [(S "self", .ref x)]) fnOk1088 T S₀ r (BindsTo.of_eq (by kernel_rfl)) rfl rfl (by kernel_rfl) (by decide +kernel) (by kernel_rfl) fun L s' r₁ S₁ => ?_
  refine wpAny_execs_cons ?_
  refine wpAny_Return_some ?_
  refine Attribute_any_ ?_
  walk_at "m_wk"
  refine getOwn T (by assumption) (List.mem_cons_of_mem _ mi) (List.mem_cons_of_mem _ md) mt hO rfl fun s' S' => ?_
  exact h _ (St.tail (St.pop (by assumption)))
/-- self.timer -/
theorem timerProp {C : Addr} {xs : Names} {expr : Bool} {Q : Value → Shared → Prop} (hP : propName (KK w) C (S "timer") 1088 = true) (hO : ownName (KK w) C (S "_TimedCache__timer") = true) (T : Stat (KK w) B.heap) (r : Room (n + 2) fs A) (S₀ : St B fs l s) (mi : (x, instC C dx) ∈ l) (md : (dx, idC xs) ∈ l) (mt : (S "_TimedCache__timer", .ref tm) ∈ xs)
    (h : ∀ s', St B fs l s' → Q (.ref tm) s') : wpAny (model pw w) A (getAttr (.ref x) (S "timer") expr) Q E s :=
  getProp T S₀ mi md hP fun s' S' => c1088 hO T r.in1 S' mi md mt fun s' S' => ⟨_, rfl, rfl, h _ S'⟩
end

end
-- TT1
section
set_option maxRecDepth 100000
set_option maxHeartbeats 400000
section
variable {w : World} {A : Around} {E : Value → Shared → Prop} {B : Shared} {fs : List Env} {l l' : Cells} {s : Shared} {R : Result → Shared → Prop} {n : Nat}
  {a d : Addr} {ns : List (Addr × Addr)} {ev kv : Addr → Value} {nx pv : Addr → Addr} {v : Addr} {e : Value} {expr : Bool}
theorem lk_e : slotName (KK w) 1178 (S "expires") 0 = true := by kernel_rfl
theorem lk_k : slotName (KK w) 1178 (S "key") 1 = true := by kernel_rfl
theorem lk_n : slotName (KK w) 1178 (S "next") 2 = true := by kernel_rfl
theorem lk_p : slotName (KK w) 1178 (S "prev") 3 = true := by kernel_rfl
theorem ls_e : slotSet (KK w) 1178 (S "expires") 0 = true := by kernel_rfl
theorem ls_k : slotSet (KK w) 1178 (S "key") 1 = true := by kernel_rfl
theorem ls_n : slotSet (KK w) 1178 (S "next") 2 = true := by kernel_rfl
theorem ls_p : slotSet (KK w) 1178 (S "prev") 3 = true := by kernel_rfl
theorem getNext {Q : Value → Shared → Prop} (T : Stat (KK w) B.heap) (S₀ : St B fs l s) (m : (a, slotC 1178 d (lf ev kv nx pv a)) ∈ l) (md : (d, idC []) ∈ l) (h : ∀ s', St B fs l s' → Q (.ref (nx a)) s') : wpAny (model pw w) A (getAttr (.ref a) (S "next") expr) Q E s :=
  getSlot T S₀ m md lk_n (v := .ref (nx a)) rfl rfl h
theorem getPrev {Q : Value → Shared → Prop} (T : Stat (KK w) B.heap) (S₀ : St B fs l s) (m : (a, slotC 1178 d (lf ev kv nx pv a)) ∈ l) (md : (d, idC []) ∈ l) (h : ∀ s', St B fs l s' → Q (.ref (pv a)) s') : wpAny (model pw w) A (getAttr (.ref a) (S "prev") expr) Q E s :=
  getSlot T S₀ m md lk_p (v := .ref (pv a)) rfl rfl h
theorem getKey {Q : Value → Shared → Prop} (T : Stat (KK w) B.heap) (S₀ : St B fs l s) (m : (a, slotC 1178 d (lf ev kv nx pv a)) ∈ l) (md : (d, idC []) ∈ l) (hh : handedIn (kv a) = true) (h : ∀ s', St B fs l s' → Q (kv a) s') : wpAny (model pw w) A (getAttr (.ref a) (S "key") expr) Q E s :=
  getSlot T S₀ m md lk_k (v := kv a) rfl hh h
theorem getExp {Q : Value → Shared → Prop} (T : Stat (KK w) B.heap) (S₀ : St B fs l s) (m : (a, slotC 1178 d (lf ev kv nx pv a)) ∈ l) (md : (d, idC []) ∈ l) (he : ev a = e) (hh : handedIn e = true) (h : ∀ s', St B fs l s' → Q e s') : wpAny (model pw w) A (getAttr (.ref a) (S "expires") expr) Q E s :=
  getSlot T S₀ m md lk_e (v := e) (by show some (ev a) = _; rw [he]) hh h
theorem setNext {Q : Unit → Shared → Prop} (T : Stat (KK w) B.heap) (S₀ : St B fs l s) (u : Upd l (a, slotC 1178 d (lf ev kv nx pv a)) (a, slotC 1178 d (lf ev kv (upd nx a v) pv a)) l') (md : (d, idC []) ∈ l) (h : ∀ s', St B fs l' s' → Q () s') :
    wpAny (model pw w) A (setAttr (.ref a) (S "next") (.ref v)) Q E s :=
  setSlot T S₀ u md ls_n (by simp [lf, lnk, upd_same]) h
theorem setPrev {Q : Unit → Shared → Prop} (T : Stat (KK w) B.heap) (S₀ : St B fs l s) (u : Upd l (a, slotC 1178 d (lf ev kv nx pv a)) (a, slotC 1178 d (lf ev kv nx (upd pv a v) a)) l') (md : (d, idC []) ∈ l) (h : ∀ s', St B fs l' s' → Q () s') :
    wpAny (model pw w) A (setAttr (.ref a) (S "prev") (.ref v)) Q E s :=
  setSlot T S₀ u md ls_p (by simp [lf, lnk, upd_same]) h
theorem setExp {Q : Unit → Shared → Prop} (T : Stat (KK w) B.heap) (S₀ : St B fs l s) (u : Upd l (a, slotC 1178 d (lf ev kv nx pv a)) (a, slotC 1178 d (lf (upd ev a e) kv nx pv a)) l') (md : (d, idC []) ∈ l) (h : ∀ s', St B fs l' s' → Q () s') :
    wpAny (model pw w) A (setAttr (.ref a) (S "expires") e) Q E s :=
  setSlot T S₀ u md ls_e (by simp [lf, lnk, upd_same]) h
/-- a method met through an instance with slots -/
theorem methSlot {C x dx f : Addr} {sl : Array (Option Value)} {name : Str} {pl : Sem Bool} {Q : Value × List Value → Shared → Prop} {K : Frag} {prog : Program} (T : Stat K B.heap) (S₀ : St B fs l s) (mi : (x, slotC C dx sl) ∈ l) (md : (dx, idC []) ∈ l) (hm : methName K C name f = true) (h : Q (.ref f, [.ref x]) s) :
    wpAny (model prog w) A (getMethod (.ref x) name pl) Q E s := by
  obtain ⟨ox, hx, h1, h2, h3, _⟩ := S₀.has _ mi
  exact methFn (l := [(x, instC C dx), (dx, idC [])]) T ⟨S₀.base, fun y hy => by
      rcases List.mem_cons.mp hy with rfl | hy
      · exact ⟨ox, hx, h1, h2, h3⟩
      · rw [List.mem_singleton.mp hy]; exact S₀.has _ md, by
      have hne : x ≠ dx := fun e => by
        subst e
        obtain ⟨o, ho, es, ep, hd, _⟩ := S₀.has _ md
        rw [hx] at ho; cases ho; rw [h2] at hd; cases hd
      simp [hne], fun y hy => by
      rcases List.mem_cons.mp hy with rfl | hy
      · exact S₀.fresh (x, slotC C dx sl) mi
      · rw [List.mem_singleton.mp hy]; exact S₀.fresh _ md, S₀.frames, S₀.gens, S₀.drawn, S₀.os, S₀.low, fun y hy => by
      rcases List.mem_cons.mp hy with rfl | hy
      · exact S₀.big (x, slotC C dx sl) mi
      · rw [List.mem_singleton.mp hy]; exact S₀.big _ md, fun y hy _ => by
      rcases List.mem_cons.mp hy with rfl | hy
      · exact soft_instC
      · rw [List.mem_singleton.mp hy]; exact soft_idC⟩ (by walk_at "m_mem") (by walk_at "m_mem") hm h (by simp)

/-- a link is taken out of the ring -/
theorem c1174 (T : Stat (KK w) B.heap) (r : Room (n + 2) fs A) (nd : (ns.map (·.1)).Nodup) {dn dp : Addr} (ha : (a, d) ∈ ns) (hn : (nx a, dn) ∈ ns) (hp : (pv a, dp) ∈ ns) (S₀ : St B fs l s)
    (q : Rep (nodeCells 1178 (lf ev kv nx pv) ns) (nodeCells 1178 (lf ev kv (upd nx (pv a) (nx a)) (upd pv (nx a) (pv a))) ns) l l')
    (h : ∀ s', St B fs l' s' → R (.ok (.ret .none)) s') :
    codeAny (model pw w) A (.call (.ref 1174) ⟨[.ref a], []⟩) R s := by
  obtain ⟨l₀, q1, q2⟩ := q.rest
  have S₀ := S₀.perm q1
  refine callS (binds := [(S "self", .ref a)]) (names := [S "self"]) (locs := [(S "self", .ref a)]) fnOk1174 T S₀ r (BindsTo.of_eq (by kernel_rfl)) rfl rfl (by kernel_rfl) (by decide +kernel) (by kernel_rfl) fun L s' r₁ S₁ => ?_
  refine wpAny_execs_cons ?_
  walk_at "m_wk"
  refine getNext T (by assumption) (by walk_at "m_mem") (by walk_at "m_mem") fun s' S' => ?_
  walk_at "m_wk"
  refine getPrev T (by assumption) (by walk_at "m_mem") (by walk_at "m_mem") fun s' S' => ?_
  walk_at "m_wk"
  refine setNext T (by assumption) (by walk_at "m_updn") (by walk_at "m_mem") fun s' S' => ?_
  walk_at "m_wk"
  refine setPrev T (by assumption) (by walk_at "m_updn") (by walk_at "m_mem") fun s' S' => ?_
  walk_at "m_wk"
  exact h _ ((St.tail (St.pop (by assumption))).perm q2)
end

end
-- TT2
section
set_option maxRecDepth 100000
set_option maxHeartbeats 400000
end
local macro_rules | `(tactic| walk_at "m_wk1") => `(tactic| ((with_reducible show wpAny _ _ (eval (Expr.Name (Str.ofString "TTLCache") _) _) _ _ _); refine ldG (v := .ref 1270) (by assumption) (by assumption) (by kernel_rfl) ?_))
section
set_option maxRecDepth 100000
set_option maxHeartbeats 400000
section
variable {w : World} {A : Around} {E : Value → Shared → Prop} {B : Shared} {fs : List Env} {l l' : Cells} {s : Shared} {R : Result → Shared → Prop} {n : Nat} {K : Type} [DecidableEq K] {knd : AnyKind pw w K}
  {a d : Addr} {ns : List (Addr × Addr)} {ev kv : Addr → Value} {nx pv : Addr → Addr} {v : Addr} {e key : Value} {expr : Bool} {x dx dd tm dt rt ld : Addr} {mx sz m : Int} {t u tl : Tok} {xs ls : List (K × Value × Value)}
theorem c1160_0 (T : Stat (KK w) B.heap) (r : Room (n + 2) fs A) (S₀ : St B fs ((a, slotC 1178 d #[]) :: (d, idC []) :: l) s) (h : ∀ s', St B fs ((a, slotC 1178 d #[some .none, some .none]) :: (d, idC []) :: l) s' → R (.ok (.ret .none)) s') :
    codeAny (model pw w) A (.call (.ref 1160) ⟨[.ref a], []⟩) R s := by
  refine callS (binds := [(S "self", .ref a), (S "key", .none), (S "expires", .none)]) (names := [S "self", S "key", S "expires"]) (locs := [(S "expires", .none), (S "key", .none), (S "self", .ref a)]) fnOk1160 T S₀ r (bndT T S₀ [.none, .none] rfl (by kernel_rfl) (by rfl) (by kernel_rfl)) rfl rfl (by kernel_rfl) (by decide +kernel) (by kernel_rfl) fun L s' r₁ S₁ => ?_
  refine wpAny_execs_cons ?_
  walk_at "m_wk"
  refine setSlot T (by assumption) (by walk_at "m_updt") (by walk_at "m_mem") ls_k rfl fun s' S' => ?_
  walk_at "m_wk"
  refine setSlot T (by assumption) (by walk_at "m_updt") (by walk_at "m_mem") ls_e rfl fun s' S' => ?_
  walk_at "m_wk"
  exact h _ (St.tail (St.pop (by assumption)))
theorem c1160_1 (T : Stat (KK w) B.heap) (r : Room (n + 2) fs A) (S₀ : St B fs ((a, slotC 1178 d #[]) :: (d, idC []) :: l) s) (h : ∀ s', St B fs ((a, slotC 1178 d #[some .none, some key]) :: (d, idC []) :: l) s' → R (.ok (.ret .none)) s') :
    codeAny (model pw w) A (.call (.ref 1160) ⟨[.ref a, key], []⟩) R s := by
  refine callS (binds := [(S "self", .ref a), (S "key", key), (S "expires", .none)]) (names := [S "self", S "key", S "expires"]) (locs := [(S "expires", .none), (S "key", key), (S "self", .ref a)]) fnOk1160 T S₀ r (bndT T S₀ [.none, .none] rfl (by kernel_rfl) (by rfl) (by kernel_rfl)) rfl rfl (by kernel_rfl) (by decide +kernel) (by kernel_rfl) fun L s' r₁ S₁ => ?_
  refine wpAny_execs_cons ?_
  walk_at "m_wk"
  refine setSlot T (by assumption) (by walk_at "m_updt") (by walk_at "m_mem") ls_k rfl fun s' S' => ?_
  walk_at "m_wk"
  refine setSlot T (by assumption) (by walk_at "m_updt") (by walk_at "m_mem") ls_e rfl fun s' S' => ?_
  walk_at "m_wk"
  exact h _ (St.tail (St.pop (by assumption)))

abbrev ttlN (dd tm rt ld : Addr) (sz mx : Int) (t u tl : Tok) : Names := baseN dd sz mx t u [(S "_TimedCache__timer", .ref tm), (S "_TTLCache__root", .ref rt), (S "_TTLCache__links", .ref ld), (S "_TTLCache__ttl", .int lifeV tl)]
abbrev ttlC (w : World) {K : Type} [DecidableEq K] (knd : AnyKind pw w K) (B : Shared) (x dx dd tm dt rt ld : Addr) (sz mx : Int) (t u tl : Tok) (m : Int) (xs ls : List (K × Value × Value)) (ev kv : Addr → Value) (nx pv : Addr → Addr) (ns : List (Addr × Addr)) (l : Cells) : Cells :=
  (x, instC 1270 dx) :: (dx, idC (ttlN dd tm rt ld sz mx t u tl)) :: (dd, dictC knd B xs) :: (tm, instC 1044 dt) :: (dt, timC m) :: (ld, dictC knd B ls) :: (nodeCells 1178 (lf ev kv nx pv) ns ++ l)
theorem c1270 : 1270 ∈ cacheCls := by decide

theorem c1192 (knd : AnyKind pw w K) (T : Stat (KK w) B.heap) (r : Room (n + 7) fs A) (S₀ : St B fs ((x, instC 1270 dx) :: (dx, idC []) :: l) s) (hmx : 0 ≤ mx)
    (h : ∀ dd tm dt rt ld dr s' t, St B fs (ttlC w knd B x dx dd tm dt rt ld 0 mx t u tl 0 [] [] (fun _ => .none) (fun _ => .none) (fun _ => rt) (fun _ => rt) [(rt, dr)] l) s' → R (.ok (.ret .none)) s') :
    codeAny (model pw w) A (.call (.ref 1192) ⟨[.ref x, .int mx u, .int lifeV tl, .ref aClock], []⟩) R s := by
  refine callS (binds := [(S "self", .ref x), (S "maxsize", .int mx u), (S "ttl", .int lifeV tl), (S "timer", .ref aClock), (S "getsizeof", .none)]) (names := [S "self", S "maxsize", S "ttl", S "timer", S "getsizeof"]) (locs := [(S "getsizeof", .none), (S "timer", .ref aClock), (S "ttl", .int lifeV tl), (S "maxsize", .int mx u), (S "self", .ref x)]) fnOk1192 T S₀ r (bndT T S₀ [.ref 1137, .none] rfl (by kernel_rfl) (by rfl) (by kernel_rfl)) rfl rfl (by kernel_rfl) (by decide +kernel) (by kernel_rfl) fun L s' r₁ S₁ => ?_
  refine wpAny_execs_cons ?_
  walk_at "m_wk"
  refine methodCall_KW ?_
  walk_at "m_wk"
  refine methCls (f := 1056) T (by assumption) (by kernel_rfl) fun s' S' => ?_
  refine callFn T (by kernel_rfl) ?_
  refine args_cons ?_
  walk_at "m_wk"
  refine args_cons ?_
  walk_at "m_wk"
  refine args_cons ?_
  walk_at "m_wk"
  refine args_cons ?_
  walk_at "m_wk"
  refine args_nil ⟨⟨_, _, by assumption⟩, wpAny_call ?_⟩
  refine c1056 knd c1270 (by kernel_rfl) T (r₁.less (m := n + 5) (by omega)) (St.back (p := [_, _]) (by assumption)) hmx fun dd tm dt s' t S' => ?_
  have S' := St.front (p := [_, _, _, _, _]) S'
  simp only [List.cons_append, List.nil_append] at S'
  walk_at "m_wk"
  refine methodCall_KW ?_
  walk_at "m_wk"
  refine methCls (f := 1178) T (by assumption) (by kernel_rfl) fun s' S' => ?_
  refine callFn0 T (by assumption) (by kernel_rfl) (wpAny_call ?_)
  refine makeS (fun d => slotC 1178 d #[]) T (by assumption) (by kernel_rfl) (fI := 1160) (by kernel_rfl) (by kernel_rfl) (fun _ => ⟨rfl, rfl, rfl, rfl⟩) fun rt dr s' S' => ?_
  refine c1160_0 T (r₁.make.less (m := n + 2) (by omega)) S' fun s' S' => ⟨rfl, ?_⟩
  walk_at "m_wk"
  refine setSlot (sl' := #[some .none, some .none, none, some (.ref rt)]) T (by assumption) (by walk_at "m_updt") (by walk_at "m_mem") ls_p rfl fun s' S' => ?_
  walk_at "m_wk"
  refine setSlot (sl' := lf (fun _ => .none) (fun _ => .none) (fun _ => rt) (fun _ => rt) rt) T (by assumption) (by walk_at "m_updt") (by walk_at "m_mem") ls_n rfl fun s' S' => ?_
  walk_at "m_wk"
  refine dictNil knd (by assumption) fun ld s' S' => ?_
  walk_at "m_wk"
  have S' := St.reId (a := dx) (xs' := ttlN dd tm rt ld 0 mx _ u _) (by assumption) (by walk_at "m_updt") (by walk_at "m_pm")
  exact h _ _ _ _ _ dr _ _ (St.tail (St.pop (S'.perm (l' := (L, _) :: (x, _) :: (dx, _) :: (dd, _) :: (tm, _) :: (dt, _) :: (ld, _) :: (rt, slotC 1178 dr (lf (fun _ => .none) (fun _ => .none) (fun _ => rt) (fun _ => rt) rt)) :: (dr, _) :: l) (by walk_at "m_pm"))))
end

end
-- TT3
section
set_option maxRecDepth 100000
set_option maxHeartbeats 400000
section
variable {w : World} {A : Around} {E : Value → Shared → Prop} {B : Shared} {fs : List Env} {l l' : Cells} {s : Shared} {R : Result → Shared → Prop} {n : Nat} {K : Type} [DecidableEq K] {knd : AnyKind pw w K}
  {a d : Addr} {ns : List (Addr × Addr)} {ev kv : Addr → Value} {nx pv : Addr → Addr} {v : Addr} {e key : Value} {expr : Bool} {x dx dd tm dt rt ld : Addr} {mx sz m : Int} {t u tl te : Tok} {xs ls : List (K × Value × Value)} {k : K} {p : Value × Value} {lv : Value}
/-- self.timer() -/
theorem timerCall {C : Addr} {ys : Names} {l : Cells} {env : Env} {pos : Pos} {Q : Value → Shared → Prop} (hP : propName (KK w) C (S "timer") 1088 = true) (hO : ownName (KK w) C (S "_TimedCache__timer") = true)
    (T : Stat (KK w) B.heap) (r : Room n fs A) (hn : 3 ≤ n) {l' : Cells} (S₀ : St B fs l s) (mi : (x, instC C dx) ∈ l) (md : (dx, idC ys) ∈ l) (mt : (S "_TimedCache__timer", .ref tm) ∈ ys) (p : (timerC tm dt m l').Perm l)
    (hU : usualName (KK w) C (S "timer") = true) (h : ∀ s' t, St B fs l s' → Q (.int 100 t) s') {pl : Sem Bool} :
    wpAny (model pw w) A (getMethod (.ref x) (S "timer") pl) (fun fx s₁ => wpAny (model pw w) A (callWith pos fx.1 fx.2 (backTo pos (starEach [] env)) []) Q E s₁) E s := by
  refine methUsual T S₀ mi md hU (timerProp hP hO T (r.less (m := 0 + 2) (by omega)) S₀ mi md mt fun s' S' => ?_)
  have mtm : (tm, instC 1044 dt) ∈ l := p.mem_iff.mp (by walk_at "m_mem")
  have mdt : (dt, timC m) ∈ l := p.mem_iff.mp (by walk_at "m_mem")
  exact callInst0 T S' mtm mdt (f := 1013) (by kernel_rfl) (by kernel_rfl) (c1013 T (r.less (m := 0 + 3) (by omega)) (S'.perm p) fun s' t S' => h _ _ (S'.perm p.symm))
end

end
-- TT4
section
set_option maxRecDepth 100000
set_option maxHeartbeats 400000
end
local macro_rules | `(tactic| walk_at "m_tcall") => `(tactic| (refine methodCall_KW ?_; walk_at "m_wk"; refine timerCall (by kernel_rfl) (by kernel_rfl) (by assumption) (by assumption) (by omega) (by assumption) (by walk_at "m_mem") (by walk_at "m_mem") (by walk_at "m_mem") (by walk_at "m_pm") (by kernel_rfl) fun s' t S' => ?_))
section
set_option maxRecDepth 100000
set_option maxHeartbeats 400000
section
variable {w : World} {A : Around} {E : Value → Shared → Prop} {B : Shared} {fs : List Env} {l l' : Cells} {s : Shared} {R : Result → Shared → Prop} {n : Nat} {K : Type} [DecidableEq K] {knd : AnyKind pw w K}
  {a d : Addr} {ns : List (Addr × Addr)} {ev kv : Addr → Value} {nx pv : Addr → Addr} {v : Addr} {e key : Value} {expr : Bool} {x dx dd tm dt rt ld : Addr} {mx sz m : Int} {t u tl te : Tok} {xs ls : List (K × Value × Value)} {k : K} {p : Value × Value} {lv : Value}
theorem c1199_there (T : Stat (KK w) B.heap) (r : Room (n + 5) fs A) (S₀ : St B fs (ttlC w knd B x dx dd tm dt rt ld sz mx t u tl m xs ls ev kv nx pv ns l) s) (hk : knd.is B.heap k key) (hq : atK ls k = some (lv, .ref a)) (ha : (a, d) ∈ ns) (he : ev a = .int endV te)
    (h : ∀ s', St B fs (ttlC w knd B x dx dd tm dt rt ld sz mx t u tl m xs ls ev kv nx pv ns l) s' → R (.ok (.ret (.bool true))) s') :
    codeAny (model pw w) A (.call (.ref 1199) ⟨[.ref x, key], []⟩) R s := by
  refine callS (binds := [(S "self", .ref x), (S "key", key)]) (names := [S "self", S "key"]) (locs := [(S "key", key), (S "self", .ref x)]) fnOk1199 T S₀ r (BindsTo.of_eq (by kernel_rfl)) rfl rfl (by kernel_rfl) (by decide +kernel) (by kernel_rfl) fun L s' r₁ S₁ => ?_
  refine wpAny_execs_cons ?_
  refine wpAny_Try_except ?_
  walk_at "m_wk"
  refine subD ?_
  walk_at "m_wk"
  refine ⟨St.typeDict (d := ld) (by assumption) (by walk_at "m_mem"), ?_⟩
  refine getS (by assumption) (by walk_at "m_mem") r₁.u1 hk hq fun s₃ S₃ => ?_
  walk_at "m_wk"
  walk_at "m_tcall"
  walk_at "m_wk"
  refine getExp T (by assumption) (by walk_at "m_mem") (by walk_at "m_mem") he rfl fun s' S' => ?_
  walk_at "m_wk"
  exact h _ (St.done L S' (by walk_at "m_pm"))
/-- the key is not there -/
theorem c1199_not (T : Stat (KK w) B.heap) (r : Room (n + 5) fs A) (S₀ : St B fs (ttlC w knd B x dx dd tm dt rt ld sz mx t u tl m xs ls ev kv nx pv ns l) s) (hk : knd.is B.heap k key) (hq : atK ls k = none)
    (h : ∀ s', St B fs (ttlC w knd B x dx dd tm dt rt ld sz mx t u tl m xs ls ev kv nx pv ns l) s' → R (.ok (.ret (.bool false))) s') :
    codeAny (model pw w) A (.call (.ref 1199) ⟨[.ref x, key], []⟩) R s := by
  refine callS (binds := [(S "self", .ref x), (S "key", key)]) (names := [S "self", S "key"]) (locs := [(S "key", key), (S "self", .ref x)]) fnOk1199 T S₀ r (BindsTo.of_eq (by kernel_rfl)) rfl rfl (by kernel_rfl) (by decide +kernel) (by kernel_rfl) fun L s' r₁ S₁ => ?_
  refine wpAny_execs_cons ?_
  refine wpAny_Try_except ?_
  walk_at "m_wk"
  refine subD ?_
  walk_at "m_wk"
  refine ⟨St.typeDict (d := ld) (by assumption) (by walk_at "m_mem"), ?_⟩
  refine getS_missing (d := ld) (by assumption) (by walk_at "m_mem") r₁.u1 r₁.handled hk hq fun h' e t' he => ?_
  refine caughtS (by assumption) r₁.frames he ke_exc ke_nt ke_sub (fun s' Q' S' hq => ldB T S' (by kernel_rfl) PyProof.Rows.Boot.«KeyError» hq) fun s' S' => ?_
  walk_at "m_wk"
  exact h _ (St.done L S' (by walk_at "m_pm"))
/-- getitem of TTL, the key is there -/
theorem c1207 (T : Stat (KK w) B.heap) (r : Room (n + 5) fs A) (S₀ : St B fs (ttlC w knd B x dx dd tm dt rt ld sz mx t u tl m xs ls ev kv nx pv ns l) s) (hk : knd.is B.heap k key) (hp : atK xs k = some p) (hq : atK ls k = some (lv, .ref a)) (ha : (a, d) ∈ ns) (he : ev a = .int endV te) (hso : ls.length ≤ sizeLine) (hso' : (delK ls k).length ≤ sizeLine)
    (h : ∀ s', St B fs (ttlC w knd B x dx dd tm dt rt ld sz mx t u tl m xs (putK (delK ls k) k key (.ref a)) ev kv nx pv ns l) s' → R (.ok (.ret p.2)) s') :
    codeAny (model pw w) A (.call (.ref 1207) ⟨[.ref x, key], []⟩) R s := by
  refine callS (binds := [(S "self", .ref x), (S "key", key), (S "cache_getitem", .ref 763)]) (names := [S "self", S "key", S "cache_getitem"]) (locs := [(S "cache_getitem", .ref 763), (S "key", key), (S "self", .ref x)]) fnOk1207 T S₀ r (bndT T S₀ [.ref 763] rfl (by kernel_rfl) (by rfl) (by kernel_rfl)) rfl rfl (by kernel_rfl) (by decide +kernel) (by kernel_rfl) fun L s' r₁ S₁ => ?_
  refine wpAny_execs_cons ?_
  walk_at "m_wk"
  refine wpAny_Try_except ?_
  walk_at "m_wk"
  refine subD ?_
  walk_at "m_wk"
  refine ⟨St.typeDict (d := ld) (by assumption) (by walk_at "m_mem"), ?_⟩
  refine getS (by assumption) (by walk_at "m_mem") r₁.u1 hk hq fun s₃ S₃ => ?_
  walk_at "m_wk"
  refine methodCall_KW ?_
  walk_at "m_wk"
  refine dictPopM (d := ld) (by assumption) (by walk_at "m_mem") ?_
  refine callB ?_
  refine args_cons ?_
  walk_at "m_wk"
  refine args_nil ?_
  refine popS (d := ld) (by assumption) (by walk_at "m_updt") r₁.u1 hk hq (fun s₄ S₄ => ?_) hso
  walk_at "m_wk"
  refine putS (d := ld) (by assumption) (by walk_at "m_updt") r₁.u1 hk (fun s₅ S₅ => ?_) hso'
  walk_at "m_wk"
  walk_at "m_tcall"
  walk_at "m_wk"
  refine getExp T (by assumption) (by walk_at "m_mem") (by walk_at "m_mem") he rfl fun s' S' => ?_
  walk_at "m_wk"
  rw [if_pos (by decide)]
  walk_at "m_wk"
  refine Call_ ?_
  walk_at "m_wk"
  refine callFn T (by kernel_rfl) ?_
  refine args_cons ?_
  walk_at "m_wk"
  refine args_cons ?_
  walk_at "m_wk"
  refine args_nil ⟨⟨_, _, by assumption⟩, wpAny_call ?_⟩
  refine c763 c1270 T (r₁.less (m := n + 3) (by omega)) (S'.perm (l' := (x, _) :: (dx, _) :: (dd, _) :: _) (by walk_at "m_pm")) hk hp fun s' S' => ?_
  walk_at "m_wk"
  exact h _ (St.done L S' (by walk_at "m_pm"))
/-- nothing has come to its end -/
theorem c1253 (T : Stat (KK w) B.heap) (r : Room (n + 3) fs A) (S₀ : St B fs (ttlC w knd B x dx dd tm dt rt ld sz mx t u tl m xs ls ev kv nx pv ns l) s) {dr da : Addr} (hr : (rt, dr) ∈ ns) (ha : (nx rt, da) ∈ ns) (he : nx rt ≠ rt → ∃ te, ev (nx rt) = .int endV te)
    (h : ∀ s' v, St B fs (ttlC w knd B x dx dd tm dt rt ld sz mx t u tl m xs ls ev kv nx pv ns l) s' → R (.ok (.ret v)) s') :
    codeAny (model pw w) A (.call (.ref 1253) ⟨[.ref x, .int 100 te], []⟩) R s := by
  refine callS (binds := [(S "self", .ref x), (S "time", .int 100 te)]) (names := [S "self", S "time"]) (locs := [(S "time", .int 100 te), (S "self", .ref x)]) fnOk1253 T S₀ r (bndT T S₀ [.none] rfl (by kernel_rfl) (by rfl) (by kernel_rfl)) rfl rfl (by kernel_rfl) (by decide +kernel) (by kernel_rfl) fun L s' r₁ S₁ => ?_
  refine wpAny_execs_cons ?_
  walk_at "m_wk"
  rw [if_neg (by simp)]
  walk_at "m_wk"
  refine getNext T (by assumption) (by walk_at "m_mem") (by walk_at "m_mem") fun s' S' => ?_
  walk_at "m_wk"
  refine isRef (by assumption) (by walk_at "m_mem") (by walk_at "m_mem") ?_
  walk_at "m_wk"
  by_cases q : nx rt = rt
  · rw [decide_eq_true q]
    walk_at "m_wk"
    rw [if_pos rfl, if_pos rfl]
    walk_at "m_wk"
    refine listNil (by assumption) fun b s' S' => ?_
    exact h _ _ (St.done L S'.tail (by walk_at "m_pm"))
  · rw [decide_eq_false q]
    walk_at "m_wk"
    rw [if_neg (by decide)]
    walk_at "m_wk"
    obtain ⟨te, he⟩ := he q
    refine getExp T (by assumption) (by walk_at "m_mem") (by walk_at "m_mem") he rfl fun s' S' => ?_
    walk_at "m_wk"
    rw [if_pos (by decide), if_pos rfl]
    walk_at "m_wk"
    refine listNil (by assumption) fun b s' S' => ?_
    exact h _ _ (St.done L S'.tail (by walk_at "m_pm"))
end

end
-- TT5
section
set_option maxRecDepth 100000
set_option maxHeartbeats 400000
end
local macro_rules | `(tactic| walk_at "m_twith") => `(tactic| (refine kw_execN ?_; walk_at "m_wk1"; walk_at "m_wk1"; refine timerProp (by kernel_rfl) (by kernel_rfl) (by assumption) (Room.less (m := 0 + 2) (by assumption) (by omega)) (by assumption) (by walk_at "m_mem") (by walk_at "m_mem") (by walk_at "m_mem") fun s' S' => ?_; refine withIn (by assumption) (by assumption) (fe := 1020) (fx := 1027) (by walk_at "m_mem") (by walk_at "m_mem") (by kernel_rfl) (by kernel_rfl) ?_; refine wpAny_call (c1020 (by assumption) (Room.less (m := 0 + 3) (by assumption) (by omega)) (St.perm (by assumption) (by walk_at "m_pm")) fun s' t S' => ?_)))
section
set_option maxRecDepth 100000
set_option maxHeartbeats 400000
end
local macro_rules | `(tactic| walk_at "m_tout") => `(tactic| (refine wpAny_call (c1027 (by assumption) (Room.less (m := 0 + 3) (by assumption) (by omega)) (St.perm (by assumption) (by walk_at "m_pm")) (by assumption) fun s' S' => ?_)))
section
set_option maxRecDepth 100000
set_option maxHeartbeats 400000
section
variable {w : World} {A : Around} {E : Value → Shared → Prop} {B : Shared} {fs : List Env} {l l' : Cells} {s : Shared} {R : Result → Shared → Prop} {n : Nat} {K : Type} [DecidableEq K] {knd : AnyKind pw w K}
  {a d : Addr} {ns : List (Addr × Addr)} {ev kv : Addr → Value} {nx pv : Addr → Addr} {v : Addr} {e key : Value} {expr : Bool} {x dx dd tm dt rt ld : Addr} {mx sz m : Int} {t u tl te : Tok} {xs ls : List (K × Value × Value)} {k : K} {p : Value × Value} {lv : Value}
theorem c1223 (T : Stat (KK w) B.heap) (r : Room (n + 5) fs A) (S₀ : St B fs (ttlC w knd B x dx dd tm dt rt ld sz mx t u tl m xs ls ev kv nx pv ns l) s) (nd : (ns.map (·.1)).Nodup) (hk : knd.is B.heap k key) (hp : atK xs k = some p) (hq : atK ls k = some (lv, .ref a)) {dn dp : Addr} (ha : (a, d) ∈ ns) (hn : (nx a, dn) ∈ ns) (hpv : (pv a, dp) ∈ ns) (he : ev a = .int endV te)
    (hsz : xs.length ≤ sizeLine) (hso : ls.length ≤ sizeLine)
    (h : ∀ s' t', St B fs (ttlC w knd B x dx dd tm dt rt ld (sz - 1) mx t' u tl m (delK xs k) (delK ls k) ev kv (upd nx (pv a) (nx a)) (upd pv (nx a) (pv a)) ns l) s' → R (.ok (.ret .none)) s') :
    codeAny (model pw w) A (.call (.ref 1223) ⟨[.ref x, key], []⟩) R s := by
  refine callS (binds := [(S "self", .ref x), (S "key", key), (S "cache_delitem", .ref 777)]) (names := [S "self", S "key", S "cache_delitem"]) (locs := [(S "cache_delitem", .ref 777), (S "key", key), (S "self", .ref x)]) fnOk1223 T S₀ r (bndT T S₀ [.ref 777] rfl (by kernel_rfl) (by rfl) (by kernel_rfl)) rfl rfl (by kernel_rfl) (by decide +kernel) (by kernel_rfl) fun L s' r₁ S₁ => ?_
  refine wpAny_execs_cons ?_
  walk_at "m_wk"
  refine Call_ ?_
  walk_at "m_wk"
  refine callFn T (by kernel_rfl) ?_
  refine args_cons ?_
  walk_at "m_wk"
  refine args_cons ?_
  walk_at "m_wk"
  refine args_nil ⟨⟨_, _, by assumption⟩, wpAny_call ?_⟩
  refine c777 c1270 T (r₁.less (m := n + 3) (by omega)) (St.perm (by assumption) (by walk_at "m_pm")) (by walk_at "m_nin") (by simp) hsz hk hp fun s' t' S' => ?_
  walk_at "m_wk"
  refine methodCall_KW ?_
  walk_at "m_wk"
  refine dictPopM (d := ld) (by assumption) (by walk_at "m_mem") ?_
  refine callB ?_
  refine args_cons ?_
  walk_at "m_wk"
  refine args_nil ?_
  refine popS (d := ld) (by assumption) (by walk_at "m_updt") r₁.u1 hk hq (fun s₄ S₄ => ?_) hso
  walk_at "m_wk"
  refine methodCall_KW ?_
  walk_at "m_wk"
  refine methSlot (f := 1174) T (by assumption) (by walk_at "m_mem") (by walk_at "m_mem") (by kernel_rfl) ?_
  refine callFn0 T (by assumption) (by kernel_rfl) (wpAny_call ?_)
  refine c1174 T (r₁.less (m := n + 2) (by omega)) nd ha hn hpv (by assumption) (by walk_at "m_rep") fun s' S' => ?_
  walk_at "m_wk"
  walk_at "m_tcall"
  walk_at "m_wk"
  refine getExp T (by assumption) (by walk_at "m_mem") (by walk_at "m_mem") he rfl fun s' S' => ?_
  walk_at "m_wk"
  rw [if_neg (by decide)]
  walk_at "m_wk"
  exact h _ _ (St.done L S' (by walk_at "m_pm"))
end

end
-- TT6
section
set_option maxRecDepth 100000
set_option maxHeartbeats 400000
section
variable {w : World} {A : Around} {E : Value → Shared → Prop} {B : Shared} {fs : List Env} {l l' : Cells} {s : Shared} {R : Result → Shared → Prop} {n : Nat} {K : Type} [DecidableEq K] {knd : AnyKind pw w K}
  {a d : Addr} {ns : List (Addr × Addr)} {ev kv : Addr → Value} {nx pv : Addr → Addr} {v : Addr} {e key : Value} {expr : Bool} {x dx dd tm dt rt ld : Addr} {mx sz m : Int} {t u tl te : Tok} {xs ls : List (K × Value × Value)} {k : K} {p : Value × Value} {lv : Value}
/-- the first of the links is taken and handed out -/
theorem c1260 {ls' : List (K × Value × Value)} (T : Stat (KK w) B.heap) (r : Room (n + 8) fs A) (S₀ : St B fs (ttlC w knd B x dx dd tm dt rt ld sz mx t u tl m xs ls ev kv nx pv ns l) s) (h0 : 0 ≤ m) (nd : (ns.map (·.1)).Nodup) (hl : ls = (k, lv, .ref a) :: ls') (hp : atK xs k = some p)
    {dn dp dr da : Addr} (ha : (a, d) ∈ ns) (hn : (nx a, dn) ∈ ns) (hpv : (pv a, dp) ∈ ns) (he : ev a = .int endV te) (hrt : (rt, dr) ∈ ns) (hfa : (nx rt, da) ∈ ns) (hfe : nx rt ≠ rt → ∃ te, ev (nx rt) = .int endV te) (hsz : xs.length ≤ sizeLine) (hso : ls.length ≤ sizeLine)
    (h : ∀ b s' t', St B fs ((b, objC { cls := .type "tuple", data := .seq #[lv, p.2] }) :: ttlC w knd B x dx dd tm dt rt ld (sz - 1) mx t' u tl m (delK xs k) (delK ls k) ev kv (upd nx (pv a) (nx a)) (upd pv (nx a) (pv a)) ns l) s' → R (.ok (.ret (.ref b))) s') :
    codeAny (model pw w) A (.call (.ref 1260) ⟨[.ref x], []⟩) R s := by
  refine callS (binds := [(S "self", .ref x)]) (names := [S "self"]) (locs := [(S "self", .ref x)]) fnOk1260 T S₀ r (BindsTo.of_eq (by kernel_rfl)) rfl rfl (by kernel_rfl) (by decide +kernel) (by kernel_rfl) fun L s' r₁ S₁ => ?_
  have hkey : knd.is B.heap k lv := S₁.keys (d := ld) (by walk_at "m_mem") (k, lv, .ref a) (by rw [hl]; exact List.mem_cons_self)
  have hq : atK ls k = some (lv, .ref a) := by rw [hl]; simp [atK]
  refine wpAny_execs_cons ?_
  walk_at "m_twith"
  walk_at "m_wk"
  refine methodCall_KW ?_
  walk_at "m_wk"
  refine methFn (f := 1253) T (by assumption) (by walk_at "m_mem") (by walk_at "m_mem") (by kernel_rfl) ?_ (by walk_at "m_nin")
  refine callFn T (by kernel_rfl) ?_
  refine args_cons ?_
  walk_at "m_wk"
  refine args_nil ⟨⟨_, _, by assumption⟩, wpAny_call ?_⟩
  refine c1253 T (r₁.less (m := n + 3) (by omega)) (St.perm (by assumption) (by walk_at "m_pm")) hrt hfa hfe fun s' v S' => ?_
  walk_at "m_wk"
  refine wpAny_Try_except ?_
  walk_at "m_wk"
  refine Call_ ?_
  refine ldB T (by assumption) (by kernel_rfl) PyProof.Rows.Boot.«next» ?_
  refine PyProof.Rows.callWith_builtin1 ?_
  refine args_cons ?_
  refine Call_ ?_
  refine ldB T (by assumption) (by kernel_rfl) PyProof.Rows.Boot.«iter» ?_
  refine PyProof.Rows.callWith_builtin1 ?_
  refine args_cons ?_
  walk_at "m_wk"
  refine args_nil ?_
  refine iterS (d := ld) (by assumption) (by walk_at "m_mem") fun I s' ep S' he => ?_
  refine args_nil ?_
  refine nextS (d := ld) (by assumption) (by walk_at "m_mem") (by walk_at "m_updt") he (by rw [hl]; rfl) fun s' S' he => ?_
  have S' := S'.tail
  walk_at "m_wk"
  refine methodCall_KW ?_
  walk_at "m_wk"
  refine methCls (f := 763) T (by assumption) (by kernel_rfl) fun s' S' => ?_
  refine callFn T (by kernel_rfl) ?_
  refine args_cons ?_
  walk_at "m_wk"
  refine args_cons ?_
  walk_at "m_wk"
  refine args_nil ⟨⟨_, _, by assumption⟩, wpAny_call ?_⟩
  refine c763 c1270 T (r₁.less (m := n + 3) (by omega)) (St.perm (l' := (x, _) :: (dx, _) :: (dd, _) :: _) (by assumption) (by walk_at "m_pm")) hkey hp fun s' S' => ?_
  walk_at "m_wk"
  refine delOwn (f := 1223) T (by assumption) (by walk_at "m_mem") (by walk_at "m_mem") (by kernel_rfl) (by kernel_rfl) ?_
  refine wpAny_call ?_
  refine c1223 (d := d) (dn := dn) (dp := dp) T (r₁.less (m := n + 5) (by omega)) (St.perm (by assumption) (by walk_at "m_pm")) nd hkey hp hq ha hn hpv (by assumption) hsz hso fun s' t' S' => ?_
  walk_at "m_wk"
  refine wpAny_Tuple ?_
  refine wpAny_items_cons ?_
  walk_at "m_wk"
  refine wpAny_items_cons ?_
  walk_at "m_wk"
  refine wpAny_items_nil ?_
  refine ⟨by rw [sizeLine_eq]; simp, ?_⟩
  have S' := St.push (c := objC { cls := .type "tuple", data := .seq #[lv, p.2] }) S' (o := { cls := .type "tuple", data := .seq #[lv, p.2] }) rfl s'.toks
  walk_at "m_wk"
  walk_at "m_tout"
  exact h _ _ _ (St.done L (by assumption) (by walk_at "m_pm"))
end

end
-- TT7
section
set_option maxRecDepth 100000
set_option maxHeartbeats 400000
section
variable {w : World} {A : Around} {E : Value → Shared → Prop} {B : Shared} {fs : List Env} {l l' : Cells} {s : Shared} {R : Result → Shared → Prop} {n : Nat} {K : Type} [DecidableEq K] {knd : AnyKind pw w K}
  {a d : Addr} {ns : List (Addr × Addr)} {ev kv : Addr → Value} {nx pv nx' pv' : Addr → Addr} {e key v : Value} {expr : Bool} {x dx dd tm dt rt ld : Addr} {mx sz sz' m : Int} {t u tl te : Tok} {xs ls xs' ls' : List (K × Value × Value)} {k : K} {p : Value × Value} {lv : Value}
/-- what Cache.__setitem__ does to a TTL cache's cells -/
def TSets (w : World) (B : Shared) (knd : AnyKind pw w K) (n : Nat) (x dx dd tm dt rt ld : Addr) (key v : Value) (sz sz' mx : Int) (u tl : Tok) (m : Int) (xs ls xs' ls' : List (K × Value × Value)) (ev kv : Addr → Value) (nx pv nx' pv' : Addr → Addr) (ns : List (Addr × Addr)) : Prop :=
  ∀ (A : Around) (fs : List Env) (s : Shared) (q : Cells) (t : Tok) (R : Result → Shared → Prop), Room n fs A → St B fs (ttlC w knd B x dx dd tm dt rt ld sz mx t u tl m xs ls ev kv nx pv ns q) s →
    (∀ s' t', St B fs (ttlC w knd B x dx dd tm dt rt ld sz' mx t' u tl m xs' ls' ev kv nx' pv' ns q) s' → R (.ok (.ret .none)) s') → codeAny (model pw w) A (.call (.ref 770) ⟨[.ref x, key, v], []⟩) R s

/-- setitem of TTL, a new key -/
theorem c1215_new (T : Stat (KK w) B.heap) {n' : Nat} (hn' : n' ≤ n + 5) (r : Room (n + 6) fs A) (S₀ : St B fs (ttlC w knd B x dx dd tm dt rt ld sz mx t u tl m xs ls ev kv nx pv ns l) s) (h0 : 0 ≤ m) (nd : (ns.map (·.1)).Nodup) (hk : knd.is B.heap k key)
    (hset : TSets w B knd n' x dx dd tm dt rt ld key v sz sz' mx u tl (m + 1) xs ls xs' ls' ev kv nx pv nx' pv' ns) (hq : atK ls' k = none)
    {dr da dp : Addr} (hrt : (rt, dr) ∈ ns) (hfa : (nx rt, da) ∈ ns) (hpv : (pv' rt, dp) ∈ ns) (hfe : nx rt ≠ rt → ∃ te, ev (nx rt) = .int endV te) (hso : ls'.length ≤ sizeLine)
    (h : ∀ s' t' te a d, a ∉ ns.map (·.1) → St B fs (ttlC w knd B x dx dd tm dt rt ld sz' mx t' u tl m xs' (putK ls' k key (.ref a)) (upd ev a (.int endV te)) (upd kv a key) (upd (upd nx' a rt) (pv' rt) a) (upd (upd pv' a (pv' rt)) rt a) ((a, d) :: ns) l) s' → R (.ok (.ret .none)) s') :
    codeAny (model pw w) A (.call (.ref 1215) ⟨[.ref x, key, v], []⟩) R s := by
  refine callS (binds := [(S "self", .ref x), (S "key", key), (S "value", v), (S "cache_setitem", .ref 770)]) (names := [S "self", S "key", S "value", S "cache_setitem"]) (locs := [(S "cache_setitem", .ref 770), (S "value", v), (S "key", key), (S "self", .ref x)]) fnOk1215 T S₀ r
    (bndT T S₀ [.ref 770] rfl (by kernel_rfl) (by rfl) (by kernel_rfl)) rfl rfl (by kernel_rfl) (by decide +kernel) (by kernel_rfl) fun L s' r₁ S₁ => ?_
  refine wpAny_execs_cons ?_
  walk_at "m_twith"
  walk_at "m_wk"
  refine methodCall_KW ?_
  walk_at "m_wk"
  refine methFn (f := 1253) T (by assumption) (by walk_at "m_mem") (by walk_at "m_mem") (by kernel_rfl) ?_ (by walk_at "m_nin")
  refine callFn T (by kernel_rfl) ?_
  refine args_cons ?_
  walk_at "m_wk"
  refine args_nil ⟨⟨_, _, by assumption⟩, wpAny_call ?_⟩
  refine c1253 T (r₁.less (m := n + 3) (by omega)) (St.perm (by assumption) (by walk_at "m_pm")) hrt hfa hfe fun s' v' S' => ?_
  walk_at "m_wk"
  refine Call_ ?_
  walk_at "m_wk"
  refine callFn T (by kernel_rfl) ?_
  refine args_cons ?_
  walk_at "m_wk"
  refine args_cons ?_
  walk_at "m_wk"
  refine args_cons ?_
  walk_at "m_wk"
  refine args_nil ⟨⟨_, _, by assumption⟩, wpAny_call ?_⟩
  refine hset _ _ _ _ _ _ (r₁.less (m := n') (by omega)) (St.perm (by assumption) (by walk_at "m_pm")) fun s' t' S' => ?_
  walk_at "m_wk"
  walk_at "m_tout"
  walk_at "m_wk"
  refine methodCall_KW ?_
  walk_at "m_wk"
  refine dictGetM (d := ld) (by assumption) (by walk_at "m_mem") ?_
  refine callB ?_
  refine args_cons ?_
  walk_at "m_wk"
  refine args_nil ?_
  refine dgetS (d := ld) (by assumption) (by walk_at "m_mem") r₁.u1 hk fun s' S' => ?_
  rw [hq]
  dsimp only [Option.map_none, Option.getD_none]
  walk_at "m_wk"
  rw [if_pos (by rfl)]
  walk_at "m_wk"
  refine methodCall_KW ?_
  walk_at "m_wk"
  refine methCls (f := 1178) T (by assumption) (by kernel_rfl) fun s' S' => ?_
  refine callFn T (by kernel_rfl) ?_
  refine args_cons ?_
  walk_at "m_wk"
  refine args_nil ⟨⟨_, _, by assumption⟩, wpAny_call ?_⟩
  refine makeS (fun d => slotC 1178 d #[]) T (by assumption) (by kernel_rfl) (fI := 1160) (by kernel_rfl) (by kernel_rfl) (fun _ => ⟨rfl, rfl, rfl, rfl⟩) fun b d s' S' => ?_
  refine c1160_1 T (r₁.make.less (m := n + 2) (by omega)) S' fun s' S' => ⟨rfl, ?_⟩
  walk_at "m_wk"
  refine putS (d := ld) (by assumption) (by walk_at "m_updt") r₁.u1 hk (fun s₅ S₅ => ?_) hso
  walk_at "m_wk"
  refine setSlot (sl' := #[some (.int (100 + lifeV) _), some key]) T (by assumption) (by walk_at "m_updt") (by walk_at "m_mem") ls_e rfl fun s' S' => ?_
  walk_at "m_wk"
  refine setSlot (sl' := #[some (.int (100 + lifeV) _), some key, some (.ref rt)]) T (by assumption) (by walk_at "m_updt") (by walk_at "m_mem") ls_n rfl fun s' S' => ?_
  walk_at "m_wk"
  refine getPrev T (by assumption) (by walk_at "m_mem") (by walk_at "m_mem") fun s' S' => ?_
  walk_at "m_wk"
  refine setSlot (sl' := lnk (.int (100 + lifeV) _) key (.ref rt) (.ref (pv' rt))) T (by assumption) (by walk_at "m_updt") (by walk_at "m_mem") ls_p rfl fun s' S' => ?_
  walk_at "m_wk"
  refine setNext T (by assumption) (by walk_at "m_updn") (by walk_at "m_mem") fun s' S' => ?_
  walk_at "m_wk"
  refine setPrev T (by assumption) (by walk_at "m_updn") (by walk_at "m_mem") fun s' S' => ?_
  walk_at "m_wk"
  have hb : b ∉ ns.map (·.1) := St.freshNode S' (by walk_at "m_pm")
  have hmr : rt ∈ ns.map (·.1) := List.mem_map.mpr ⟨_, hrt, rfl⟩
  have hmp : pv' rt ∈ ns.map (·.1) := List.mem_map.mpr ⟨_, hpv, rfl⟩
  have S2 := St.done L (l := (x, _) :: (dx, _) :: (dd, _) :: (tm, _) :: (dt, _) :: (ld, _) :: (b, _) :: (d, _) :: (nodeCells 1178 (lf ev kv (upd nx' (pv' rt) b) (upd pv' rt b)) ns ++ l)) S' (by walk_at "m_pm")
  refine' h _ _ _ b d hb ?k
  case k =>
    unfold ttlC
    rw [newNode hb hmr hmp]
    exact S2
end

end
-- TT8
section
set_option maxRecDepth 100000
set_option maxHeartbeats 400000
section
variable {w : World} {A : Around} {E : Value → Shared → Prop} {B : Shared} {fs : List Env} {l l' : Cells} {s : Shared} {R : Result → Shared → Prop} {n : Nat} {K : Type} [DecidableEq K] {knd : AnyKind pw w K}
  {a d : Addr} {ns : List (Addr × Addr)} {ev kv : Addr → Value} {nx pv nx' pv' : Addr → Addr} {e key v : Value} {expr : Bool} {x dx dd tm dt rt ld : Addr} {mx sz sz' m : Int} {t u tl te : Tok} {xs ls xs' ls' : List (K × Value × Value)} {k : K} {p : Value × Value} {lv : Value}
theorem tsets_room (T : Stat (KK w) B.heap) (hsz : xs.length ≤ sizeLine) (hk : knd.is B.heap k key) (hp : atK xs k = none) (hmx : sz < mx) (h0 : 0 ≤ sz) :
    TSets w B knd (n + 3) x dx dd tm dt rt ld key v sz (sz + 1) mx u tl m xs ls (putK xs k key v) ls ev kv nx pv nx pv ns :=
  fun _ _ _ _ _ _ r S₀ h => c770_new c1270 T r S₀ (by walk_at "m_nin") (by simp) hsz hk hp hmx h0 fun _ _ S' => h _ _ S'
theorem tsets_there (T : Stat (KK w) B.heap) (hsz : xs.length ≤ sizeLine) (hk : knd.is B.heap k key) (hp : atK xs k = some p) (hmx : 0 < mx) :
    TSets w B knd (n + 3) x dx dd tm dt rt ld key v sz sz mx u tl m xs ls (putK xs k key v) ls ev kv nx pv nx pv ns :=
  fun _ _ _ _ _ _ r S₀ h => c770_there c1270 T r S₀ (by walk_at "m_nin") (by simp) hsz hk hp hmx fun _ S' => h _ _ S'
theorem pops1260 {k0 : K} {ls' : List (K × Value × Value)} (T : Stat (KK w) B.heap) (h0 : 0 ≤ m) (nd : (ns.map (·.1)).Nodup) (hl : ls = (k0, lv, .ref a) :: ls') (hp : atK xs k0 = some p)
    {dn dp dr da : Addr} (ha : (a, d) ∈ ns) (hn : (nx a, dn) ∈ ns) (hpv : (pv a, dp) ∈ ns) (he : ev a = .int endV te) (hrt : (rt, dr) ∈ ns) (hfa : (nx rt, da) ∈ ns) (hfe : nx rt ≠ rt → ∃ te, ev (nx rt) = .int endV te) (hsz : xs.length ≤ sizeLine) (hso : ls.length ≤ sizeLine) :
    Pops w B knd 1260 (n + 8) 1270 x dx dd sz mx u [(S "_TimedCache__timer", .ref tm), (S "_TTLCache__root", .ref rt), (S "_TTLCache__links", .ref ld), (S "_TTLCache__ttl", .int lifeV tl)] xs (delK xs k0)
      ((tm, instC 1044 dt) :: (dt, timC m) :: (ld, dictC knd B ls) :: nodeCells 1178 (lf ev kv nx pv) ns) ((tm, instC 1044 dt) :: (dt, timC m) :: (ld, dictC knd B (delK ls k0)) :: nodeCells 1178 (lf ev kv (upd nx (pv a) (nx a)) (upd pv (nx a) (pv a))) ns) :=
  fun _ _ _ _ _ _ r S₀ h => c1260 (d := d) (dn := dn) (dp := dp) (dr := dr) (da := da) T r S₀ h0 nd hl hp ha hn hpv he hrt hfa hfe hsz hso fun _ _ _ S' => h _ _ _ S'.tail
theorem tsets_full {k0 : K} {ls' : List (K × Value × Value)} (T : Stat (KK w) B.heap) (h0 : 0 ≤ m) (nd : (ns.map (·.1)).Nodup) (hl : ls = (k0, lv, .ref a) :: ls') (hp0 : atK xs k0 = some p)
    {dn dp dr da : Addr} (ha : (a, d) ∈ ns) (hn : (nx a, dn) ∈ ns) (hpv : (pv a, dp) ∈ ns) (he : ev a = .int endV te) (hrt : (rt, dr) ∈ ns) (hfa : (nx rt, da) ∈ ns) (hfe : nx rt ≠ rt → ∃ te, ev (nx rt) = .int endV te) (hsz : xs.length ≤ sizeLine) (hso : ls.length ≤ sizeLine)
    (hd1 : (delK xs k0).length ≤ sizeLine) (hk : knd.is B.heap k key) (hp : atK xs k = none) (hmx : sz = mx) (hs0 : 0 < sz) :
    TSets w B knd (n + 9) x dx dd tm dt rt ld key v sz (sz - 1 + 1) mx u tl m xs ls (putK (delK xs k0) k key v) (delK ls k0) ev kv nx pv (upd nx (pv a) (nx a)) (upd pv (nx a) (pv a)) ns :=
  fun _ _ _ _ _ _ r S₀ h => c770_full (n := n + 6) c1270 T r S₀ (pops1260 (d := d) (dn := dn) (dp := dp) (dr := dr) (da := da) T h0 nd hl hp0 ha hn hpv he hrt hfa hfe hsz hso) (by kernel_rfl) (by kernel_rfl) (by walk_at "m_nin") (by walk_at "m_nin") (by simp) hd1 hk hp hmx hs0 fun _ _ S' => h _ _ S'
end

end
-- TT9
section
set_option maxRecDepth 100000
set_option maxHeartbeats 400000
section
variable {w : World} {A : Around} {E : Value → Shared → Prop} {B : Shared} {fs : List Env} {l l' : Cells} {s : Shared} {R : Result → Shared → Prop} {n : Nat} {K : Type} [DecidableEq K] {knd : AnyKind pw w K}
  {a : Addr} {ns : List (Addr × Addr)} {ev kv : Addr → Value} {nx pv nx' pv' : Addr → Addr} {e key v : Value} {expr : Bool} {x dx dd tm dt rt ld : Addr} {mx sz sz' m : Int} {t u tl te : Tok} {xs ls xs' ls' : List (K × Value × Value)} {k : K} {p : Value × Value} {lv : Value}
/-- setitem of TTL, the key is there -/
theorem c1215_there (T : Stat (KK w) B.heap) {n' : Nat} (hn' : n' ≤ n + 5) (r : Room (n + 6) fs A) (S₀ : St B fs (ttlC w knd B x dx dd tm dt rt ld sz mx t u tl m xs ls ev kv nx pv ns l) s) (h0 : 0 ≤ m) (nd : (ns.map (·.1)).Nodup) (hk : knd.is B.heap k key)
    (hset : TSets w B knd n' x dx dd tm dt rt ld key v sz sz' mx u tl (m + 1) xs ls xs' ls' ev kv nx pv nx' pv' ns) (hq : atK ls' k = some (lv, .ref a))
    {dr da d dn dp dq : Addr} (hrt : (rt, dr) ∈ ns) (hfa : (nx rt, da) ∈ ns) (hfe : nx rt ≠ rt → ∃ te, ev (nx rt) = .int endV te) (ha : (a, d) ∈ ns) (hn : (nx' a, dn) ∈ ns) (hpv : (pv' a, dp) ∈ ns) (hrp : (upd pv' (nx' a) (pv' a) rt, dq) ∈ ns) (hso : ls'.length ≤ sizeLine) (hso' : (delK ls' k).length ≤ sizeLine)
    (h : ∀ s' t' te, St B fs (ttlC w knd B x dx dd tm dt rt ld sz' mx t' u tl m xs' (putK (delK ls' k) k key (.ref a)) (upd ev a (.int endV te)) kv (upd (upd (upd nx' (pv' a) (nx' a)) a rt) (upd pv' (nx' a) (pv' a) rt) a) (upd (upd (upd pv' (nx' a) (pv' a)) a (upd pv' (nx' a) (pv' a) rt)) rt a) ns l) s' → R (.ok (.ret .none)) s') :
    codeAny (model pw w) A (.call (.ref 1215) ⟨[.ref x, key, v], []⟩) R s := by
  refine callS (binds := [(S "self", .ref x), (S "key", key), (S "value", v), (S "cache_setitem", .ref 770)]) (names := [S "self", S "key", S "value", S "cache_setitem"]) (locs := [(S "cache_setitem", .ref 770), (S "value", v), (S "key", key), (S "self", .ref x)]) fnOk1215 T S₀ r
    (bndT T S₀ [.ref 770] rfl (by kernel_rfl) (by rfl) (by kernel_rfl)) rfl rfl (by kernel_rfl) (by decide +kernel) (by kernel_rfl) fun L s' r₁ S₁ => ?_
  refine wpAny_execs_cons ?_
  walk_at "m_twith"
  walk_at "m_wk"
  refine methodCall_KW ?_
  walk_at "m_wk"
  refine methFn (f := 1253) T (by assumption) (by walk_at "m_mem") (by walk_at "m_mem") (by kernel_rfl) ?_ (by walk_at "m_nin")
  refine callFn T (by kernel_rfl) ?_
  refine args_cons ?_
  walk_at "m_wk"
  refine args_nil ⟨⟨_, _, by assumption⟩, wpAny_call ?_⟩
  refine c1253 T (r₁.less (m := n + 3) (by omega)) (St.perm (by assumption) (by walk_at "m_pm")) hrt hfa hfe fun s' v' S' => ?_
  walk_at "m_wk"
  refine Call_ ?_
  walk_at "m_wk"
  refine callFn T (by kernel_rfl) ?_
  refine args_cons ?_
  walk_at "m_wk"
  refine args_cons ?_
  walk_at "m_wk"
  refine args_cons ?_
  walk_at "m_wk"
  refine args_nil ⟨⟨_, _, by assumption⟩, wpAny_call ?_⟩
  refine hset _ _ _ _ _ _ (r₁.less (m := n') (by omega)) (St.perm (by assumption) (by walk_at "m_pm")) fun s' t' S' => ?_
  walk_at "m_wk"
  walk_at "m_tout"
  walk_at "m_wk"
  refine methodCall_KW ?_
  walk_at "m_wk"
  refine dictGetM (d := ld) (by assumption) (by walk_at "m_mem") ?_
  refine callB ?_
  refine args_cons ?_
  walk_at "m_wk"
  refine args_nil ?_
  refine dgetS (d := ld) (by assumption) (by walk_at "m_mem") r₁.u1 hk fun s' S' => ?_
  rw [hq]
  dsimp only [Option.map_some, Option.getD_some]
  walk_at "m_wk"
  rw [if_neg (by simp)]
  walk_at "m_wk"
  refine methodCall_KW ?_
  walk_at "m_wk"
  refine dictPopM (d := ld) (by assumption) (by walk_at "m_mem") ?_
  refine callB ?_
  refine args_cons ?_
  walk_at "m_wk"
  refine args_nil ?_
  refine popS (d := ld) (by assumption) (by walk_at "m_updt") r₁.u1 hk hq (fun s₄ S₄ => ?_) hso
  walk_at "m_wk"
  refine putS (d := ld) (by assumption) (by walk_at "m_updt") r₁.u1 hk (fun s₅ S₅ => ?_) hso'
  walk_at "m_wk"
  refine methodCall_KW ?_
  walk_at "m_wk"
  refine methSlot (f := 1174) T (by assumption) (by walk_at "m_mem") (by walk_at "m_mem") (by kernel_rfl) ?_
  refine callFn0 T (by assumption) (by kernel_rfl) (wpAny_call ?_)
  refine c1174 T (r₁.less (m := n + 2) (by omega)) nd ha hn hpv (by assumption) (by walk_at "m_rep") fun s' S' => ?_
  walk_at "m_wk"
  refine setExp T (by assumption) (by walk_at "m_updn") (by walk_at "m_mem") fun s' S' => ?_
  walk_at "m_wk"
  refine setNext T (by assumption) (by walk_at "m_updn") (by walk_at "m_mem") fun s' S' => ?_
  walk_at "m_wk"
  refine getPrev T (by assumption) (by walk_at "m_mem") (by walk_at "m_mem") fun s' S' => ?_
  walk_at "m_wk"
  refine setPrev T (by assumption) (by walk_at "m_updn") (by walk_at "m_mem") fun s' S' => ?_
  walk_at "m_wk"
  refine setNext T (by assumption) (by walk_at "m_updn") (by walk_at "m_mem") fun s' S' => ?_
  walk_at "m_wk"
  refine setPrev T (by assumption) (by walk_at "m_updn") (by walk_at "m_mem") fun s' S' => ?_
  walk_at "m_wk"
  rw [show (100 + lifeV : Int) = endV from rfl] at S'
  exact h _ _ _ (St.done L S' (by walk_at "m_pm"))
end

end
-- TTA
section
set_option maxRecDepth 100000
set_option maxHeartbeats 400000
section
variable {w : World} {A : Around} {E : Value → Shared → Prop} {B : Shared} {fs : List Env} {l l' : Cells} {s : Shared} {R : Result → Shared → Prop} {n : Nat} {K : Type} [DecidableEq K] {knd : AnyKind pw w K} {C : Addr} {more : Names}
  {a d : Addr} {ns : List (Addr × Addr)} {ev kv : Addr → Value} {nx pv nx' pv' : Addr → Addr} {e key v : Value} {expr : Bool} {x dx dd tm dt rt ld : Addr} {mx sz sz' m : Int} {t u tl te : Tok} {xs ls xs' ls' : List (K × Value × Value)} {k : K} {p : Value × Value} {lv : Value}
/-- the length of the base class -/
theorem c805 (hC : C ∈ cacheCls) (T : Stat (KK w) B.heap) (r : Room (n + 3) fs A) (S₀ : St B fs ((x, instC C dx) :: (dx, idC (baseN dd sz mx t u more)) :: (dd, dictC knd B xs) :: l) s) (hsz : xs.length ≤ sizeLine)
    (h : ∀ s' t', St B fs ((x, instC C dx) :: (dx, idC (baseN dd sz mx t u more)) :: (dd, dictC knd B xs) :: l) s' → R (.ok (.ret (.int xs.length t'))) s') :
    codeAny (model pw w) A (.call (.ref 805) ⟨[.ref x], []⟩) R s := by
  refine callS (binds := [(S "self", .ref x)]) (names := [S "self"]) (locs := [(S "self", .ref x)]) fnOk805 T S₀ r (BindsTo.of_eq (by kernel_rfl)) rfl rfl (by kernel_rfl) (by decide +kernel) (by kernel_rfl) fun L s' r₁ S₁ => ?_
  refine wpAny_execs_cons ?_
  walk_at "m_wk"
  refine Call_ ?_
  refine ldB T (by assumption) (by kernel_rfl) PyProof.Rows.Boot.«len» ?_
  refine PyProof.Rows.callWith_builtin1 ?_
  refine args_cons ?_
  walk_at "m_wk"
  refine args_nil ?_
  refine dlenS (by assumption) (by walk_at "m_mem") hsz fun s' t' S' => ?_
  exact h _ _ (St.tail (St.pop S'))
/-- the length of a TTL cache -/
theorem c1072_ttl (T : Stat (KK w) B.heap) (r : Room (n + 5) fs A) (S₀ : St B fs (ttlC w knd B x dx dd tm dt rt ld sz mx t u tl m xs ls ev kv nx pv ns l) s) (h0 : 0 ≤ m)
    {dr da : Addr} (hrt : (rt, dr) ∈ ns) (hfa : (nx rt, da) ∈ ns) (hfe : nx rt ≠ rt → ∃ te, ev (nx rt) = .int endV te) (hsz : xs.length ≤ sizeLine)
    (h : ∀ s' t', St B fs (ttlC w knd B x dx dd tm dt rt ld sz mx t u tl m xs ls ev kv nx pv ns l) s' → R (.ok (.ret (.int xs.length t'))) s') :
    codeAny (model pw w) A (.call (.ref 1072) ⟨[.ref x], []⟩) R s := by
  refine callS (binds := [(S "self", .ref x), (S "cache_len", .ref 805)]) (names := [S "self", S "cache_len"]) (locs := [(S "cache_len", .ref 805), (S "self", .ref x)]) fnOk1072 T S₀ r (bndT T S₀ [.ref 805] rfl (by kernel_rfl) (by rfl) (by kernel_rfl)) rfl rfl (by kernel_rfl) (by decide +kernel) (by kernel_rfl) fun L s' r₁ S₁ => ?_
  refine wpAny_execs_cons ?_
  refine kw_execN ?_
  walk_at "m_wk"
  refine withIn (by assumption) (by assumption) (fe := 1020) (fx := 1027) (by walk_at "m_mem") (by walk_at "m_mem") (by kernel_rfl) (by kernel_rfl) ?_
  refine wpAny_call (c1020 (by assumption) (r₁.less (m := 0 + 3) (by omega)) (St.perm (by assumption) (by walk_at "m_pm")) fun s' t S' => ?_)
  walk_at "m_wk"
  refine methodCall_KW ?_
  walk_at "m_wk"
  refine methFn (f := 1253) T (by assumption) (by walk_at "m_mem") (by walk_at "m_mem") (by kernel_rfl) ?_ (by walk_at "m_nin")
  refine callFn T (by kernel_rfl) ?_
  refine args_cons ?_
  walk_at "m_wk"
  refine args_nil ⟨⟨_, _, by assumption⟩, wpAny_call ?_⟩
  refine c1253 T (r₁.less (m := n + 3) (by omega)) (St.perm (by assumption) (by walk_at "m_pm")) hrt hfa hfe fun s' v' S' => ?_
  walk_at "m_wk"
  refine Call_ ?_
  walk_at "m_wk"
  refine callFn T (by kernel_rfl) ?_
  refine args_cons ?_
  walk_at "m_wk"
  refine args_nil ⟨⟨_, _, by assumption⟩, wpAny_call ?_⟩
  refine c805 c1270 T (r₁.less (m := n + 3) (by omega)) (St.perm (by assumption) (by walk_at "m_pm")) hsz fun s' t' S' => ?_
  walk_at "m_wk"
  walk_at "m_tout"
  exact h _ _ (St.done L (by assumption) (by walk_at "m_pm"))
end

end
-- M23
section
set_option maxRecDepth 100000
theorem entry_sift : entryFor table "_heapq.heapify.sift" = some Builtin.«_heapq.heapify.sift» := entryFor_of_tree (by kernel_rfl)
theorem entry_hpush : entryFor table "_heapq.heappush" = some Builtin.«_heapq.heappush» := entryFor_of_tree (by kernel_rfl)
theorem entry_hpop : entryFor table "_heapq.heappop" = some Builtin.«_heapq.heappop» := entryFor_of_tree (by kernel_rfl)
theorem entry_hify : entryFor table "_heapq.heapify" = some Builtin.«_heapq.heapify» := entryFor_of_tree (by kernel_rfl)
theorem plain_sift : plainId "_heapq.heapify.sift" = true := by decide +kernel
section
variable {prog : Program} {w : World} {A : Around} {E : Value → Shared → Prop} {B : Shared} {fs : List Env} {l l' : Cells} {s : Shared} {K : Frag} {C x d f b : Addr} {cD : Cell} {sl : Array (Option Value)}
theorem inst_slot (S : St B fs l s) (mi : (x, slotC C d sl) ∈ l) (md : (d, cD) ∈ l) : ∃ ox od, InstAt s.heap x ox C (some od) := let ⟨ox, od, I, _⟩ := S.slot mi md; ⟨ox, od, I⟩
/-- two of one class compared by the class's own method -/
theorem ltSame {Q : Value → Shared → Prop} {d' : Addr} {cD' : Cell} {sl' : Array (Option Value)} (hu : A.units < cLine) (T : Stat K B.heap) (S : St B fs l s) (mi : (x, slotC C d sl) ∈ l) (md : (d, cD) ∈ l) (mb : (b, slotC C d' sl') ∈ l) (mdb : (d', cD') ∈ l)
    (hs : specFn K C (Str.ofString "__lt__") f = true) (h : wpAny (model prog w) A (call (.ref f) [.ref x, .ref b]) (PySem.W.CmpBack Q) E s) : wpAny (model prog w) A (richCompare .Lt (.ref x) (.ref b)) Q E s := by
  obtain ⟨ox, od, I⟩ := inst_slot S mi md
  obtain ⟨ob, odb, Ib⟩ := inst_slot S mb mdb
  have X := (S.stat T).X
  unfold specFn at hs
  simp only [Bool.and_eq_true, beq_iff_eq] at hs
  unfold richCompare
  simp only [oneThing_ref]
  refine wpAny_holding (wpAny_bind (wpAny_cRoomFor hu (wpAny_bind (I.type.here (wpAny_bind (Ib.type.here ?_))))))
  simp only [bne_self_eq_false, Bool.false_eq_true, if_false]
  refine wpAny_bind (wpAny_pure ?_)
  simp only [Bool.false_eq_true, if_false]
  unfold tryCompare
  refine wpAny_bind (wpAny_bind (ifBound_K X I hs.1 hs.2 (wpAny_mono h (fun v s' hv => ?_) fun _ _ e => e)))
  cases v <;> first | exact hv.elim | exact wpAny_pure (wpAny_pure hv)
end
/-- items that all end at one time -/
def ItemsOk (l : Cells) (vs : List Value) : Prop := ∀ v ∈ vs, ∃ a d sl te, v = .ref a ∧ (a, slotC 1397 d sl) ∈ l ∧ (d, idC []) ∈ l ∧ (sl[0]?).join = some (.int endV te)
section
variable {w : World} {A : Around} {E : Value → Shared → Prop} {B : Shared} {fs : List Env} {l l' : Cells} {s : Shared} {R : Result → Shared → Prop} {n : Nat} {vs : List Value} {x y : Value}
theorem c1393 {a b d d' : Addr} {sl sl' : Array (Option Value)} {te te' : Tok} (T : Stat (KK w) B.heap) (r : Room (n + 2) fs A) (S₀ : St B fs l s) (ma : (a, slotC 1397 d sl) ∈ l) (md : (d, idC []) ∈ l) (mb : (b, slotC 1397 d' sl') ∈ l) (md' : (d', idC []) ∈ l)
    (h1 : (sl[0]?).join = some (.int endV te)) (h2 : (sl'[0]?).join = some (.int endV te')) (h : ∀ s', St B fs l s' → R (.ok (.ret (.bool false))) s') :
    codeAny (model pw w) A (.call (.ref 1393) ⟨[.ref a, .ref b], []⟩) R s := by
  refine callS (binds := [(S "self", .ref a), (S "other", .ref b)]) (names := [S "self", S "other"]) (locs := [(S "other", .ref b), (S "self", .ref a)]) fnOk1393 T S₀ r (BindsTo.of_eq (by kernel_rfl)) rfl rfl (by kernel_rfl) (by decide +kernel) (by kernel_rfl) fun L s' r₁ S₁ => ?_
  refine wpAny_execs_cons ?_
  refine wpAny_Return_some (wpAny_Compare1 ?_)
  refine Attribute_any_ ?_
  walk_at "m_wk"
  refine getSlot T (by assumption) (List.mem_cons_of_mem _ ma) (List.mem_cons_of_mem _ md) (by kernel_rfl) h1 rfl fun s' S' => ?_
  refine Attribute_any_ ?_
  walk_at "m_wk"
  refine getSlot T (by assumption) (List.mem_cons_of_mem _ mb) (List.mem_cons_of_mem _ md') (by kernel_rfl) h2 rfl fun s' S' => ?_
  walk_at "m_wk"
  exact h _ (St.tail (St.pop S'))
theorem lessF {Q : Bool → Shared → Prop} (T : Stat (KK w) B.heap) (r : Room (n + 3) fs A) (S₀ : St B fs l s) (hi : ItemsOk l vs) (mx : x ∈ vs) (my : y ∈ vs) (h : ∀ s', St B fs l s' → Q false s') :
    wpAny (model pw w) A (do truthOfDropped (← richCompare .Lt x y)) Q E s := by
  obtain ⟨a, d, sl, te, rfl, ma, md, he⟩ := hi x mx
  obtain ⟨b, d', sl', te', rfl, mb, md', he'⟩ := hi y my
  refine wpAny_bind (ltSame (f := 1393) r.u0 T S₀ ma md mb md' (by kernel_rfl) (wpAny_call (c1393 T (r.less (m := n + 2) (by omega)) S₀ ma md mb md' he he' fun s' S' => ?_)))
  exact wpAny_truthy_bool (h _ S')
end

end
-- M24
section
set_option maxRecDepth 100000
theorem swap_perm {vs : List Value} {i j : Nat} {x y : Value} (hi : vs[i]? = some x) (hj : vs[j]? = some y) : ((vs.set i y).set j x).Perm vs := by
  have h1 := (List.getElem?_eq_some_iff.mp hi).1
  have h2 := (List.getElem?_eq_some_iff.mp hj).1
  have e1 : vs[i] = x := (List.getElem?_eq_some_iff.mp hi).2
  have e2 : vs[j] = y := (List.getElem?_eq_some_iff.mp hj).2
  rw [List.perm_iff_count]
  intro a
  by_cases hij : i = j
  · subst hij
    have : x = y := by rw [← e1, ← e2]
    subst this
    rw [List.set_set, ← e1, List.set_getElem_self]
  · rw [List.count_set, List.count_set]
    · have : (vs.set i y)[j]'(by simpa using h2) = y := by rw [List.getElem_set_ne hij]; exact e2
      rw [this, e1]
      have c1 : (vs[i] == a) = true → 0 < List.count a vs := fun e => List.count_pos_iff.mpr (by rw [← eq_of_beq e]; exact List.getElem_mem h1)
      rw [e1] at c1
      split <;> split <;> simp_all <;> omega
    · exact h1
    · simpa using h2
section
variable {w : World} {A : Around} {E : Value → Shared → Prop} {B : Shared} {fs : List Env} {l : Cells} {s : Shared} {R : Result → Shared → Prop} {n : Nat} {vs : List Value} {x y res : Value} {od : Addr}
theorem itemsOk_perm {vs' : List Value} (h : ItemsOk l vs) (p : vs'.Perm vs) : ItemsOk l vs' := fun v hv => h v (p.mem_iff.mp hv)
theorem itemsOk_cons {c : Addr × Cell} (h : ItemsOk l vs) : ItemsOk (c :: l) vs := fun v hv => by
  obtain ⟨a, d, sl, te, h1, h2, h3, h4⟩ := h v hv
  exact ⟨a, d, sl, te, h1, List.mem_cons_of_mem _ h2, List.mem_cons_of_mem _ h3, h4⟩
theorem seqS {M : Model} {Q : Option (Array Value) → Shared → Prop} (S : St B fs l s) (m : (od, listC vs) ∈ l) (h : Q (some vs.toArray) s) : wpAny M A (seqItems? (.ref od)) Q E s := by
  obtain ⟨o, ho, _, _, n, hd⟩ := S.has _ m
  exact wpAny_seqItems ho hd h
theorem updSeqS {M : Model} {l' : Cells} {g : Array Value → Array Value} {vs' : List Value} {Q : Unit → Shared → Prop} (S : St B fs l s) (u : Upd l (od, listC vs) (od, listC vs') l') (hg : g vs.toArray = vs'.toArray) (hz : vs.length ≤ 1000) (hz' : vs'.length ≤ 1001) (h : ∀ s', St B fs l' s' → Q () s') :
    wpAny M A (updateSeq od g) Q E s := by
  obtain ⟨o, ho, h1, h2, n, h3⟩ := S.has _ u.mem
  obtain ⟨n', hd'⟩ := Obj.data_mapSeq h3 g
  refine wpAny_updateSeq ho h3 (h _ ?_) (by rw [sizeLine_eq]; simp; omega) (by rw [hg, sizeLine_eq]; simp; omega)
  exact S.set u s.toks (Heap.SameBut.update ..) (Heap.get?_update_self _ ho (Obj.isFreed_of_seq hd')) ⟨(Obj.cls_mapSeq ..).trans h1, (dict_mapSeq ..).trans h2, n', by rw [hd', hg]⟩ (.inl fun vs e => by rw [hd'] at e; cases e) fun _ => soft_listC
/-- one turn of the heap's sift: nothing is ever less, so the end is a rearrangement -/
theorem sift (T : Stat (KK w) B.heap) (r : Room (n + 6) fs A) : ∀ (a m : Nat) (down : Bool) (pos top : Nat) (after : Int) (vs : List Value) (s : Shared) (R : Result → Shared → Prop),
    (after + 1).toNat = a → -1 ≤ after → (if down then vs.length - pos + 1 else 0) = m → pos < vs.length → top < vs.length → after < vs.length → vs.length ≤ 1000 → ItemsOk l vs → St B fs ((od, listC vs) :: l) s →
    (∀ vs' s', vs'.Perm vs → St B fs ((od, listC vs') :: l) s' → R (.ok (.ret res)) s') →
    codeAny (model pw w) A (.builtin "_heapq.heapify.sift" ⟨[.ref od, .bool false, .bool down, rawInt pos, rawInt top, res, rawInt after], []⟩) R s := by
  intro a
  induction a using Nat.strongRecOn with
  | _ a iha =>
    intro m
    induction m using Nat.strongRecOn with
    | _ m ihm =>
      intro down pos top after vs s R ha ha1 hm hpos htop haf hlen hi S h
      refine codeAny_builtin entry_sift ?_
      rw [Around.under_plainId plain_sift]
      unfold Builtin.«_heapq.heapify.sift»
      k_delta "heapqSwap"
      k_delta "heapqLess"
      k_delta "heapqSift"
      k_delta "heapqAt"
      k_delta "heapqItems"
      simp only [rawInt, Int.toNat_natCast]
      have sft : ∀ (b : Bool) (p t : Nat) (af : Int), Value.int (p : Int) 0 = rawInt p := fun _ _ _ _ => rfl
      refine wpAny_bind (wpAny_bind (seqS S List.mem_cons_self (wpAny_pure ?_)))
      skip
      have less : ∀ (x y : Value) (s : Shared) (k : Bool → Sem PySem.Fin) (Q : PySem.Fin → Shared → Prop) (E : Value → Shared → Prop), x ∈ vs → y ∈ vs → St B fs ((od, listC vs) :: l) s →
          (∀ s', St B fs ((od, listC vs) :: l) s' → wpAny (model pw w) A.in1 (k false) Q E s') →
          wpAny (model pw w) A.in1 ((do
            let less ← holding [x, y] (do truthOfDropped (← richCompare .Lt x y))
            if (← (do let __x ← seqItems? (Value.ref od); match __x with | some xs => pure xs | x => unsupported "internal:_heapq")).size != vs.toArray.size then rule "_heapq.size-changed"; raiseError "RuntimeError" "list changed size during iteration"
            return less) >>= k) Q E s := by
        intro x y s k Q E hx hy S hq
        refine wpAny_bind (wpAny_bind (wpAny_holding (lessF T r.in1 S (itemsOk_cons hi) hx hy fun s' S' => ?_)))
        refine wpAny_bind (wpAny_bind (seqS S' List.mem_cons_self (wpAny_pure ?_)))
        simp only [bne_self_eq_false, Bool.false_eq_true, if_false]
        exact wpAny_pure (hq _ S')
      have swp : ∀ (c p : Nat) (s : Shared) (k : Unit → Sem PySem.Fin) (Q : PySem.Fin → Shared → Prop) (E : Value → Shared → Prop), c < vs.length → p < vs.length → St B fs ((od, listC vs) :: l) s →
          (∀ vs' s', vs'.Perm vs → St B fs ((od, listC vs') :: l) s' → wpAny (model pw w) A.in1 (k ()) Q E s') →
          wpAny (model pw w) A.in1 ((do
            let xs ← (do let __x ← seqItems? (Value.ref od); match __x with | some xs => pure xs | x => unsupported "internal:_heapq")
            let x ← (match xs[c]? with | some v => pure v | none => unsupported "internal:_heapq.index")
            let y ← (match xs[p]? with | some v => pure v | none => unsupported "internal:_heapq.index")
            updateSeq od fun xs => (xs.setIfInBounds c y).setIfInBounds p x) >>= k) Q E s := by
        intro c p s k Q E hc hp S hq
        refine wpAny_bind (wpAny_bind (wpAny_bind (seqS S List.mem_cons_self (wpAny_pure ?_))))
        rw [List.getElem?_toArray, List.getElem?_toArray, List.getElem?_eq_getElem hc, List.getElem?_eq_getElem hp]
        refine wpAny_bind (wpAny_pure (wpAny_bind (wpAny_pure ?_)))
        have e : ((vs.toArray.setIfInBounds c vs[p]).setIfInBounds p vs[c]) = ((vs.set c vs[p]).set p vs[c]).toArray := by simp
        exact updSeqS S Upd.here (vs' := (vs.set c vs[p]).set p vs[c]) e hlen (by simp; omega) fun s' S' => hq _ _ (swap_perm (List.getElem?_eq_getElem hc) (List.getElem?_eq_getElem hp)) S'
      have agn : ∀ (a' m' : Nat) (b : Bool) (p t : Nat) (af : Int) (vs' : List Value) (s : Shared), (a' < a ∨ (a' = a ∧ m' < m)) → (af + 1).toNat = a' → -1 ≤ af → (if b then vs'.length - p + 1 else 0) = m' → p < vs.length → t < vs.length → af < vs.length → vs'.Perm vs → St B fs ((od, listC vs') :: l) s →
          wpAny (model pw w) A.in1 (again (.builtin "_heapq.heapify.sift" ⟨[.ref od, .bool false, .bool b, .int p 0, .int t 0, res, .int af 0], []⟩))
            (fun fin s' => match fin with | .done f => R (.ok f) s' | .again c' => c'.quiet = true ∧ codeAny (model pw w) A c' R s') (fun e s' => R (.error e) s') s := by
        intro a' m' b p t af vs' s hlt e1 e2 e3 e4 e5 e6 e7 S
        have el := e7.length_eq
        refine wpAny_pure ⟨plainId_quiet plain_sift _, ?_⟩
        rcases hlt with hlt | ⟨rfl, hlt⟩
        · exact iha a' hlt m' b p t af vs' s R e1 e2 e3 (by omega) (by omega) (by omega) (by omega) (itemsOk_perm hi e7) S fun vs'' s' q S' => h vs'' s' (q.trans e7) S'
        · exact ihm m' hlt b p t af vs' s R e1 e2 e3 (by omega) (by omega) (by omega) (by omega) (itemsOk_perm hi e7) S fun vs'' s' q S' => h vs'' s' (q.trans e7) S'
      have ends : ∀ s, St B fs ((od, listC vs) :: l) s → wpAny (model pw w) A.in1 (if after < 0 then ret res else again (.builtin "_heapq.heapify.sift" ⟨[.ref od, .bool false, .bool true, .int after.toNat 0, .int after.toNat 0, res, .int (after - 1) 0], []⟩))
            (fun fin s' => match fin with | .done f => R (.ok f) s' | .again c' => c'.quiet = true ∧ codeAny (model pw w) A c' R s') (fun e s' => R (.error e) s') s := by
        intro s S
        by_cases ha0 : after < 0
        · rw [if_pos ha0]
          exact wpAny_pure (h _ _ (.refl _) S)
        · rw [if_neg ha0]
          exact agn _ _ true _ _ _ vs s (.inl (by omega)) rfl (by omega) rfl (by omega) (by omega) (by omega) (.refl _) S
      cases down with
      | true =>
        simp only [if_true, List.size_toArray, Bool.false_eq_true, if_false]
        simp only [if_true] at hm
        by_cases hp : pos < vs.length / 2
        · rw [if_pos hp]
          by_cases hl : 2 * pos + 1 + 1 < vs.length
          · rw [if_pos hl, List.getElem?_toArray, List.getElem?_toArray, List.getElem?_eq_getElem (show 2 * pos + 1 < vs.length by omega), List.getElem?_eq_getElem hl]
            refine wpAny_bind (wpAny_pure (wpAny_bind (wpAny_pure ?_)))
            refine less _ _ _ _ _ _ (List.getElem_mem _) (List.getElem_mem _) S fun s' S' => ?_
            simp only [Bool.not_false, if_true]
            refine swp _ _ _ _ _ _ hl hpos S' fun vs' s' q S' => ?_
            exact agn _ _ true _ _ _ vs' s' (.inr ⟨ha, by have := q.length_eq; rw [if_pos rfl]; omega⟩) rfl ha1 rfl (by omega) htop haf q S'
          · rw [if_neg hl]
            refine swp _ _ _ _ _ _ (by omega) hpos S fun vs' s' q S' => ?_
            exact agn _ _ true _ _ _ vs' s' (.inr ⟨ha, by have := q.length_eq; rw [if_pos rfl]; omega⟩) rfl ha1 rfl (by omega) htop haf q S'
        · rw [if_neg hp]
          exact agn _ _ false _ _ _ vs s (.inr ⟨ha, by rw [if_neg (by decide)]; omega⟩) rfl ha1 rfl hpos htop haf (.refl _) S
      | false =>
        simp only [Bool.false_eq_true, if_false, List.size_toArray]
        by_cases hp : pos > top
        · rw [if_pos hp, List.getElem?_toArray, List.getElem?_toArray, List.getElem?_eq_getElem hpos, List.getElem?_eq_getElem (show (pos - 1) / 2 < vs.length by omega)]
          refine wpAny_bind (wpAny_pure (wpAny_bind (wpAny_pure ?_)))
          refine less _ _ _ _ _ _ (List.getElem_mem _) (List.getElem_mem _) S fun s' S' => ?_
          simp only [Bool.false_eq_true, if_false]
          exact ends _ S'
        · rw [if_neg hp]
          exact ends _ S
end

end
-- M25
section
set_option maxRecDepth 100000
section
variable {prog : Program} {w : World} {A : Around} {E : Value → Shared → Prop} {s : Shared}
/-- a builtin function that may go on as another -/
theorem callAgain {id : String} {b : Builtin} {args : List Value} {Q : Value → Shared → Prop} (hk : builtinKind id = none) (hp : plainId id = true)
    (hb : entryFor table id = some b) (ha : argsOk id ⟨args, []⟩)
    (hc : wpAny (model prog w) A.in1 (b ⟨args, []⟩) (fun fin s' => match fin with
      | .done f => Back Q E (.ok f) s'
      | .again c' => c'.quiet = true ∧ codeAny (model prog w) A c' (Back Q E) s') E s) : wpAny (model prog w) A (call (.builtin id) args) Q E s := by
  refine wpAny_call (codeAny_call_builtin hp hb ?_)
  simp only [checkBuiltinCall, hk]
  have fin : wpAny (model prog w) A.in1 (b ⟨args, []⟩) (fun fin s' => match fin with
      | .done f => (match (Except.ok f : Result) with | .ok (.ret v) => Q v s' | .ok _ => False | .error e => E e s')
      | .again c' => c'.quiet = true ∧ codeAny (model prog w) A c' (fun r s' => match r with | .ok (.ret v) => Q v s' | .ok _ => False | .error e => E e s') s') E s := hc
  cases hsig : Manifest.signature? id with
  | none => exact wpAny_pure fin
  | some sig =>
    simp only [argsOk, hsig] at ha
    have h2 : Bind.checkArgs id sig ⟨args, []⟩ = pure () := ha
    show wpAny _ A.in1 (Bind.checkArgs id sig ⟨args, []⟩) _ _ s
    rw [h2]; exact wpAny_pure fin
end
theorem kind_hpush : builtinKind "_heapq.heappush" = none := by decide +kernel
theorem kind_hpop : builtinKind "_heapq.heappop" = none := by decide +kernel
theorem kind_hify : builtinKind "_heapq.heapify" = none := by decide +kernel
theorem plain_hpush : plainId "_heapq.heappush" = true := by decide +kernel
theorem plain_hpop : plainId "_heapq.heappop" = true := by decide +kernel
theorem plain_hify : plainId "_heapq.heapify" = true := by decide +kernel
theorem args_hpush (a b : Value) : argsOk "_heapq.heappush" ⟨[a, b], []⟩ := by unfold argsOk; kernel_rfl
theorem args_hpop (a : Value) : argsOk "_heapq.heappop" ⟨[a], []⟩ := by unfold argsOk; kernel_rfl
theorem args_hify (a : Value) : argsOk "_heapq.heapify" ⟨[a], []⟩ := by unfold argsOk; kernel_rfl
section
variable {w : World} {A : Around} {E : Value → Shared → Prop} {B : Shared} {fs : List Env} {l : Cells} {s : Shared} {n : Nat} {vs : List Value} {v : Value} {od : Addr} {Q : Value → Shared → Prop}
theorem hpushS (T : Stat (KK w) B.heap) (r : Room (n + 7) fs A) (S : St B fs ((od, listC vs) :: l) s) (hi : ItemsOk l (vs ++ [v])) (hlen : vs.length < 1000)
    (h : ∀ vs' s', vs'.Perm (vs ++ [v]) → St B fs ((od, listC vs') :: l) s' → Q .none s') : wpAny (model pw w) A (call (.builtin "_heapq.heappush") [.ref od, v]) Q E s := by
  refine callAgain kind_hpush plain_hpush entry_hpush (args_hpush _ _) ?_
  unfold Builtin.«_heapq.heappush»
  k_delta "heapqTwo"
  k_delta "heapqList"
  k_delta "heapqSift"
  k_delta "heapqItems"
  refine wpAny_bind (wpAny_bind (m := noKeywords _ _) (wpAny_pure (wpAny_bind (m := checkCount _ _ _ _) (wpAny_of_eq (a := ()) (by kernel_rfl) ?_))))
  refine wpAny_bind (wpAny_bind (wpAny_isInstance (T := "list") (b := true) (S.list List.mem_cons_self).typeIs sub_list_self ?_))
  simp only [if_true]
  refine wpAny_pure (wpAny_pure ?_)
  dsimp only
  refine wpAny_bind (updSeqS S Upd.here (vs' := vs ++ [v]) (by simp) (by omega) (by simp; omega) fun s' S' => ?_)
  refine wpAny_bind (wpAny_bind (seqS S' List.mem_cons_self (wpAny_pure ?_)))
  have hs := sift (od := od) (res := .none) (n := n + 1) T r 0 0 false (vs ++ [v]).length.pred 0 (-1) (vs ++ [v]) s' (Back Q E) (by decide) (by decide) rfl (by simp) (by simp) (by simp; omega) (by simp; omega) hi S' fun vs' s' p S' => h vs' s' p S'
  refine wpAny_pure ⟨plainId_quiet plain_sift _, ?_⟩
  have e : (vs ++ [v]).toArray.size - 1 = (vs ++ [v]).length.pred := by simp
  rw [e]
  exact hs
theorem hpopS {v0 : Value} {vs : List Value} (T : Stat (KK w) B.heap) (r : Room (n + 7) fs A) (S : St B fs ((od, listC (v0 :: vs)) :: l) s) (hi : ItemsOk l (v0 :: vs)) (hlen : vs.length < 1000)
    (h : ∀ vs' s', vs'.Perm vs → St B fs ((od, listC vs') :: l) s' → Q v0 s') : wpAny (model pw w) A (call (.builtin "_heapq.heappop") [.ref od]) Q E s := by
  refine callAgain kind_hpop plain_hpop entry_hpop (args_hpop _) ?_
  unfold Builtin.«_heapq.heappop»
  k_delta "heapqPop"
  k_delta "heapqOne"
  k_delta "heapqList"
  k_delta "heapqSift"
  k_delta "heapqAt"
  k_delta "heapqItems"
  refine wpAny_bind (wpAny_bind (m := oneArg _ _) (wpAny_pure ?_))
  refine wpAny_bind (wpAny_bind (wpAny_isInstance (T := "list") (b := true) (S.list List.mem_cons_self).typeIs sub_list_self ?_))
  simp only [if_true]
  refine wpAny_pure (wpAny_pure ?_)
  dsimp only
  refine wpAny_bind (wpAny_bind (seqS S List.mem_cons_self (wpAny_pure ?_)))
  have hb : ∀ (u : Value) (us : List Value), ((u :: us).toArray).back? = some ((u :: us).getLast (List.cons_ne_nil _ _)) := fun u us => by
    rw [List.back?_toArray]; rfl
  rw [hb]
  dsimp only
  refine wpAny_bind (updSeqS S Upd.here (vs' := (v0 :: vs).dropLast) (by simp) (by simp; omega) (by simp; omega) fun s' S' => ?_)
  cases vs with
  | nil =>
    rw [if_pos (by rfl)]
    exact wpAny_pure (h [] s' (.refl _) S')
  | cons v1 vt =>
    rw [if_neg (by simp)]
    refine wpAny_bind (wpAny_pure ?_)
    have hd : (v0 :: v1 :: vt).dropLast = v0 :: (v1 :: vt).dropLast := rfl
    have hlast : (v0 :: v1 :: vt).getLast (List.cons_ne_nil _ _) = (v1 :: vt).getLast (List.cons_ne_nil _ _) := rfl
    rw [hd] at S'
    refine wpAny_bind (updSeqS S' Upd.here (vs' := (v1 :: vt).getLast (List.cons_ne_nil _ _) :: (v1 :: vt).dropLast) (by simp [hlast]) (by simp; simp at hlen; omega) (by simp; simp at hlen; omega) fun s' S' => ?_)
    have p : ((v1 :: vt).getLast (List.cons_ne_nil _ _) :: (v1 :: vt).dropLast).Perm (v1 :: vt) := by
      have := List.dropLast_concat_getLast (List.cons_ne_nil v1 vt)
      exact (List.perm_append_comm (l₁ := [_])).trans (by rw [this])
    have hi' : ItemsOk l ((v1 :: vt).getLast (List.cons_ne_nil _ _) :: (v1 :: vt).dropLast) := fun v hv => hi v (List.mem_cons_of_mem _ (p.mem_iff.mp hv))
    refine wpAny_pure ⟨plainId_quiet plain_sift _, ?_⟩
    exact sift (od := od) (res := v0) (n := n + 1) T r 0 _ true 0 0 (-1) _ s' (Back Q E) (by decide) (by decide) rfl (by simp) (by simp) (by simp; omega) (by simp; simp at hlen; omega) hi' S' fun vs' s' q S' => h vs' s' (q.trans p) S'
theorem hifyS (T : Stat (KK w) B.heap) (r : Room (n + 7) fs A) (S : St B fs ((od, listC vs) :: l) s) (hi : ItemsOk l vs) (hlen : vs.length < 1000)
    (h : ∀ vs' s', vs'.Perm vs → St B fs ((od, listC vs') :: l) s' → Q .none s') : wpAny (model pw w) A (call (.builtin "_heapq.heapify") [.ref od]) Q E s := by
  refine callAgain kind_hify plain_hify entry_hify (args_hify _) ?_
  unfold Builtin.«_heapq.heapify»
  k_delta "heapqHeapify"
  k_delta "heapqOne"
  k_delta "heapqList"
  k_delta "heapqSift"
  k_delta "heapqItems"
  refine wpAny_bind (wpAny_bind (m := oneArg _ _) (wpAny_pure ?_))
  refine wpAny_bind (wpAny_bind (wpAny_isInstance (T := "list") (b := true) (S.list List.mem_cons_self).typeIs sub_list_self ?_))
  simp only [if_true]
  refine wpAny_pure (wpAny_pure ?_)
  dsimp only
  refine wpAny_bind (wpAny_bind (seqS S List.mem_cons_self (wpAny_pure ?_)))
  simp only [List.size_toArray]
  rw [if_neg (by omega)]
  by_cases h2 : vs.length < 2
  · rw [if_pos h2]
    exact wpAny_pure (h _ _ (.refl _) S)
  · rw [if_neg h2]
    refine wpAny_pure ⟨plainId_quiet plain_sift _, ?_⟩
    have e : ((vs.length / 2 : Nat) : Int) - 2 = ((vs.length / 2 : Nat) : Int) - 2 := rfl
    exact sift (od := od) (res := .none) (n := n + 1) T r _ _ true (vs.length / 2 - 1) (vs.length / 2 - 1) (((vs.length / 2 : Nat) : Int) - 2) vs s (Back Q E) rfl (by omega) rfl (by omega) (by omega) (by omega) (by omega) hi S fun vs' s' q S' => h vs' s' q S'
end

end
-- TL1
section
set_option maxRecDepth 100000
set_option maxHeartbeats 400000
end
local macro_rules | `(tactic| walk_at "m_wk1") => `(tactic| ((with_reducible show wpAny _ _ (eval (Expr.Name (Str.ofString "TLRUCache") _) _) _ _ _); refine ldG (v := .ref 1488) (by assumption) (by assumption) (by kernel_rfl) ?_))
section
set_option maxRecDepth 100000
set_option maxHeartbeats 400000
end
local macro_rules | `(tactic| walk_at "m_wk1") => `(tactic| ((with_reducible show wpAny _ _ (eval (Expr.Name (Str.ofString "heappop") _) _) _ _ _); refine ldG (v := .builtin "_heapq.heappop") (by assumption) (by assumption) (by kernel_rfl) ?_))
section
set_option maxRecDepth 100000
set_option maxHeartbeats 400000
end
local macro_rules | `(tactic| walk_at "m_wk1") => `(tactic| ((with_reducible show wpAny _ _ (eval (Expr.Name (Str.ofString "heappush") _) _) _ _ _); refine ldG (v := .builtin "_heapq.heappush") (by assumption) (by assumption) (by kernel_rfl) ?_))
section
set_option maxRecDepth 100000
set_option maxHeartbeats 400000
end
local macro_rules | `(tactic| walk_at "m_wk1") => `(tactic| ((with_reducible show wpAny _ _ (eval (Expr.Name (Str.ofString "heapify") _) _) _ _ _); refine ldG (v := .builtin "_heapq.heapify") (by assumption) (by assumption) (by kernel_rfl) ?_))
section
set_option maxRecDepth 100000
set_option maxHeartbeats 400000
/-- what is said of an item -/
def itf (ev kv : Addr → Value) (rv : Addr → Bool) : Addr → Array (Option Value) := fun a => #[some (ev a), some (kv a), some (.bool (rv a))]
theorem updRem {C a d : Addr} {l : Cells} {ns : List (Addr × Addr)} {ev kv : Addr → Value} {rv : Addr → Bool} {b : Bool} (h : (a, d) ∈ ns) (nd : (ns.map (·.1)).Nodup) :
    Upd (nodeCells C (itf ev kv rv) ns ++ l) (a, slotC C d (itf ev kv rv a)) (a, slotC C d (itf ev kv (upd rv a b) a)) (nodeCells C (itf ev kv (upd rv a b)) ns ++ l) :=
  nodes_updG (f := itf ev kv rv) (g := itf ev kv (upd rv a b)) (fun b hb => by simp [itf, upd_ne hb]) h nd
end
local macro_rules | `(tactic| walk_at "m_updn") => `(tactic| repeat (first | with_reducible exact Upd.here | with_reducible exact updRem (by assumption) (by assumption) | with_reducible apply Upd.there | with_reducible apply Upd.app))
section
set_option maxRecDepth 100000
set_option maxHeartbeats 400000
section
variable {w : World} {A : Around} {E : Value → Shared → Prop} {B : Shared} {fs : List Env} {l l' : Cells} {s : Shared} {R : Result → Shared → Prop} {n : Nat} {K : Type} [DecidableEq K] {knd : AnyKind pw w K}
  {a d : Addr} {ns : List (Addr × Addr)} {ev kv : Addr → Value} {rv : Addr → Bool} {v : Addr} {e key : Value} {expr : Bool} {x dx dd tm dt it od : Addr} {mx sz m : Int} {t u te : Tok} {xs is_ : List (K × Value × Value)} {os : List Addr}
theorem li_e : slotName (KK w) 1397 (S "expires") 0 = true := by kernel_rfl
theorem li_k : slotName (KK w) 1397 (S "key") 1 = true := by kernel_rfl
theorem li_r : slotName (KK w) 1397 (S "removed") 2 = true := by kernel_rfl
theorem si_e : slotSet (KK w) 1397 (S "expires") 0 = true := by kernel_rfl
theorem si_k : slotSet (KK w) 1397 (S "key") 1 = true := by kernel_rfl
theorem si_r : slotSet (KK w) 1397 (S "removed") 2 = true := by kernel_rfl
theorem getRem {Q : Value → Shared → Prop} {b : Bool} (T : Stat (KK w) B.heap) (S₀ : St B fs l s) (m : (a, slotC 1397 d (itf ev kv rv a)) ∈ l) (md : (d, idC []) ∈ l) (hb : rv a = b) (h : ∀ s', St B fs l s' → Q (.bool b) s') : wpAny (model pw w) A (getAttr (.ref a) (S "removed") expr) Q E s :=
  getSlot T S₀ m md li_r (v := .bool b) (by show some (Value.bool (rv a)) = _; rw [hb]) rfl h
theorem getIExp {Q : Value → Shared → Prop} (T : Stat (KK w) B.heap) (S₀ : St B fs l s) (m : (a, slotC 1397 d (itf ev kv rv a)) ∈ l) (md : (d, idC []) ∈ l) (he : ev a = e) (hh : handedIn e = true) (h : ∀ s', St B fs l s' → Q e s') : wpAny (model pw w) A (getAttr (.ref a) (S "expires") expr) Q E s :=
  getSlot T S₀ m md li_e (v := e) (by show some (ev a) = _; rw [he]) hh h
theorem setRem {Q : Unit → Shared → Prop} {b : Bool} (T : Stat (KK w) B.heap) (S₀ : St B fs l s) (u : Upd l (a, slotC 1397 d (itf ev kv rv a)) (a, slotC 1397 d (itf ev kv (upd rv a b) a)) l') (md : (d, idC []) ∈ l) (h : ∀ s', St B fs l' s' → Q () s') :
    wpAny (model pw w) A (setAttr (.ref a) (S "removed") (.bool b)) Q E s :=
  setSlot T S₀ u md si_r (by simp [itf, upd_same]) h

abbrev tlruN (dd tm it od : Addr) (sz mx : Int) (t u : Tok) : Names := baseN dd sz mx t u [(S "_TimedCache__timer", .ref tm), (S "_TLRUCache__items", .ref it), (S "_TLRUCache__order", .ref od), (S "_TLRUCache__ttu", .ref aEnd)]
abbrev tlruC (w : World) {K : Type} [DecidableEq K] (knd : AnyKind pw w K) (B : Shared) (x dx dd tm dt it od : Addr) (sz mx : Int) (t u : Tok) (m : Int) (xs is_ : List (K × Value × Value)) (os : List Addr) (ev kv : Addr → Value) (rv : Addr → Bool) (ns : List (Addr × Addr)) (l : Cells) : Cells :=
  (x, instC 1488 dx) :: (dx, idC (tlruN dd tm it od sz mx t u)) :: (dd, dictC knd B xs) :: (tm, instC 1044 dt) :: (dt, timC m) :: (it, dictC knd B is_) :: (od, listC (os.map .ref)) :: (nodeCells 1397 (itf ev kv rv) ns ++ l)
theorem c1488 : 1488 ∈ cacheCls := by decide

/-- a new item -/
theorem c1386 (T : Stat (KK w) B.heap) (r : Room (n + 2) fs A) (S₀ : St B fs ((a, slotC 1397 d #[]) :: (d, idC []) :: l) s) (h : ∀ s', St B fs ((a, slotC 1397 d #[some e, some key, some (.bool false)]) :: (d, idC []) :: l) s' → R (.ok (.ret .none)) s') :
    codeAny (model pw w) A (.call (.ref 1386) ⟨[.ref a, key, e], []⟩) R s := by
  refine callS (binds := [(S "self", .ref a), (S "key", key), (S "expires", e)]) (names := [S "self", S "key", S "expires"]) (locs := [(S "expires", e), (S "key", key), (S "self", .ref a)]) fnOk1386 T S₀ r (bndT T S₀ [.none, .none] rfl (by kernel_rfl) (by rfl) (by kernel_rfl)) rfl rfl (by kernel_rfl) (by decide +kernel) (by kernel_rfl) fun L s' r₁ S₁ => ?_
  refine wpAny_execs_cons ?_
  walk_at "m_wk"
  refine setSlot (sl' := #[none, some key]) T (by assumption) (by walk_at "m_updt") (by walk_at "m_mem") si_k rfl fun s' S' => ?_
  walk_at "m_wk"
  refine setSlot (sl' := #[some e, some key]) T (by assumption) (by walk_at "m_updt") (by walk_at "m_mem") si_e rfl fun s' S' => ?_
  walk_at "m_wk"
  refine setSlot (sl' := #[some e, some key, some (.bool false)]) T (by assumption) (by walk_at "m_updt") (by walk_at "m_mem") si_r rfl fun s' S' => ?_
  walk_at "m_wk"
  exact h _ (St.tail (St.pop (by assumption)))

theorem c1411 (knd : AnyKind pw w K) (T : Stat (KK w) B.heap) (r : Room (n + 7) fs A) (S₀ : St B fs ((x, instC 1488 dx) :: (dx, idC []) :: l) s) (hmx : 0 ≤ mx)
    (h : ∀ dd tm dt it od s' t, St B fs (tlruC w knd B x dx dd tm dt it od 0 mx t u 0 [] [] [] (fun _ => .none) (fun _ => .none) (fun _ => true) [] l) s' → R (.ok (.ret .none)) s') :
    codeAny (model pw w) A (.call (.ref 1411) ⟨[.ref x, .int mx u, .ref aEnd, .ref aClock], []⟩) R s := by
  refine callS (binds := [(S "self", .ref x), (S "maxsize", .int mx u), (S "ttu", .ref aEnd), (S "timer", .ref aClock), (S "getsizeof", .none)]) (names := [S "self", S "maxsize", S "ttu", S "timer", S "getsizeof"]) (locs := [(S "getsizeof", .none), (S "timer", .ref aClock), (S "ttu", .ref aEnd), (S "maxsize", .int mx u), (S "self", .ref x)]) fnOk1411 T S₀ r (bndT T S₀ [.ref 1137, .none] rfl (by kernel_rfl) (by rfl) (by kernel_rfl)) rfl rfl (by kernel_rfl) (by decide +kernel) (by kernel_rfl) fun L s' r₁ S₁ => ?_
  refine wpAny_execs_cons ?_
  walk_at "m_wk"
  refine methodCall_KW ?_
  walk_at "m_wk"
  refine methCls (f := 1056) T (by assumption) (by kernel_rfl) fun s' S' => ?_
  refine callFn T (by kernel_rfl) ?_
  refine args_cons ?_
  walk_at "m_wk"
  refine args_cons ?_
  walk_at "m_wk"
  refine args_cons ?_
  walk_at "m_wk"
  refine args_cons ?_
  walk_at "m_wk"
  refine args_nil ⟨⟨_, _, by assumption⟩, wpAny_call ?_⟩
  refine c1056 knd c1488 (by kernel_rfl) T (r₁.less (m := n + 5) (by omega)) (St.perm (by assumption) (by walk_at "m_pm")) hmx fun dd tm dt s' t S' => ?_
  walk_at "m_wk"
  refine dictNil knd (by assumption) fun it s' S' => ?_
  walk_at "m_wk"
  refine listNil (by assumption) fun od s' S' => ?_
  walk_at "m_wk"
  have S' := St.reId (a := dx) (xs' := tlruN dd tm it od 0 mx _ u) (by assumption) (by walk_at "m_updt") (by walk_at "m_pm")
  have S2 := St.done L (l := (x, _) :: (dx, _) :: (dd, _) :: (tm, _) :: (dt, _) :: (it, _) :: (od, _) :: l) S' (by walk_at "m_pm")
  exact h _ _ _ _ _ _ _ S2
end

end
-- TL2
section
set_option maxRecDepth 100000
set_option maxHeartbeats 400000
/-- of a list of items some that were removed are gone, the others may lie in another order -/
def Shed (rv : Addr → Bool) (os' os : List Addr) : Prop := ∃ rest, (rest ++ os').Perm os ∧ ∀ a ∈ rest, rv a = true
theorem Shed.refl {rv : Addr → Bool} {os : List Addr} : Shed rv os os := ⟨[], .refl _, fun _ h => nomatch h⟩
theorem Shed.trans {rv : Addr → Bool} {a b c : List Addr} (h1 : Shed rv a b) (h2 : Shed rv b c) : Shed rv a c := by
  obtain ⟨r1, p1, q1⟩ := h1
  obtain ⟨r2, p2, q2⟩ := h2
  refine ⟨r2 ++ r1, ?_, fun x hx => (List.mem_append.mp hx).elim (q2 x) (q1 x)⟩
  rw [List.append_assoc]
  exact (p1.append_left r2).trans p2
theorem Shed.perm {rv : Addr → Bool} {a a' b : List Addr} (h : Shed rv a b) (p : a'.Perm a) : Shed rv a' b := by
  obtain ⟨r, p1, q1⟩ := h
  exact ⟨r, (p.append_left r).trans p1, q1⟩
theorem Shed.mem {rv : Addr → Bool} {os' os : List Addr} (h : Shed rv os' os) {a : Addr} (ha : a ∈ os') : a ∈ os := by
  obtain ⟨r, p, _⟩ := h
  exact p.mem_iff.mp (List.mem_append_right _ ha)
theorem Shed.length {rv : Addr → Bool} {os' os : List Addr} (h : Shed rv os' os) : os'.length ≤ os.length := by
  obtain ⟨r, p, _⟩ := h
  have := p.length_eq
  rw [List.length_append] at this; omega
theorem Shed.filter {rv : Addr → Bool} {os : List Addr} : Shed rv (os.filter fun a => !rv a) os := by
  refine ⟨os.filter rv, ?_, fun a ha => (List.mem_filter.mp ha).2⟩
  exact List.filter_append_perm rv os
theorem perm_of_map {α β : Type} {f : α → β} {xs : List α} {l : List β} (p : l.Perm (xs.map f)) : ∃ ys : List α, ys.Perm xs ∧ l = ys.map f := by
  have key : ∀ {l m : List β}, l.Perm m → ∀ xs : List α, l = xs.map f → ∃ ys : List α, ys.Perm xs ∧ m = ys.map f := by
    intro l m p
    induction p with
    | nil =>
      intro xs e
      cases xs with
      | nil => exact ⟨[], .refl _, rfl⟩
      | cons => cases e
    | cons x _ ih =>
      intro xs e
      cases xs with
      | nil => cases e
      | cons y ys =>
        rw [List.map_cons] at e
        obtain ⟨rfl, rfl⟩ := List.cons.inj e
        obtain ⟨zs, q, rfl⟩ := ih ys rfl
        exact ⟨y :: zs, q.cons y, rfl⟩
    | swap x y l =>
      intro xs e
      match xs, e with
      | a :: b :: ys, e =>
        rw [List.map_cons, List.map_cons] at e
        obtain ⟨e1, e⟩ := List.cons.inj e
        obtain ⟨e2, e3⟩ := List.cons.inj e
        exact ⟨b :: a :: ys, .swap .., by rw [e1, e2, e3]; rfl⟩
    | trans _ _ ih1 ih2 =>
      intro xs e
      obtain ⟨ys, q1, rfl⟩ := ih1 xs e
      obtain ⟨zs, q2, rfl⟩ := ih2 ys rfl
      exact ⟨zs, q2.trans q1, rfl⟩
  exact key p.symm xs rfl
section
variable {w : World} {A : Around} {E : Value → Shared → Prop} {B : Shared} {fs : List Env} {l l' : Cells} {s : Shared} {R : Result → Shared → Prop} {n : Nat} {K : Type} [DecidableEq K] {knd : AnyKind pw w K}
  {a d : Addr} {ns : List (Addr × Addr)} {ev kv : Addr → Value} {rv : Addr → Bool} {v : Addr} {e key : Value} {expr : Bool} {x dx dd tm dt it od : Addr} {mx sz m : Int} {t u te : Tok} {xs is_ : List (K × Value × Value)} {os : List Addr}
theorem items_ok (hm : ∀ a ∈ os, a ∈ ns.map (·.1)) (he : ∀ a ∈ ns.map (·.1), ∃ te, ev a = .int endV te) : ItemsOk (nodeCells 1397 (itf ev kv rv) ns ++ l) (os.map .ref) := by
  intro v hv
  obtain ⟨a, ha, rfl⟩ := List.mem_map.mp hv
  obtain ⟨d, hd⟩ := node_of (hm a ha)
  obtain ⟨te, hte⟩ := he a (hm a ha)
  exact ⟨a, d, _, te, rfl, nodesM hd, nodesD hd, by show some (ev a) = _; rw [hte]⟩
/-- the end of expire: the removed ones at the top go -/
theorem expire_rest {L : Addr} {Q : Flow → Shared → Prop} (T : Stat (KK w) B.heap) (r : Room (n + 8) (fnEnv fd1463 L 1463 :: fs) A) 
    (hm : ∀ a ∈ os, a ∈ ns.map (·.1)) (he : ∀ a ∈ ns.map (·.1), ∃ te, ev a = .int endV te) (hlen : os.length < 900)
    (S₀ : St B (fnEnv fd1463 L 1463 :: fs) ((od, listC (os.map .ref)) :: (nodeCells 1397 (itf ev kv rv) ns ++ (L, nsC fd1463.scope [(S "order", .ref od), (S "items", .ref it), (S "time", .int 100 te), (S "self", .ref x)]) :: l)) s)
    (h : ∀ os' c v s', Shed rv os' os → St B (fnEnv fd1463 L 1463 :: fs) ((od, listC (os'.map .ref)) :: (nodeCells 1397 (itf ev kv rv) ns ++ (L, c) :: l)) s' → Q (.ret v) s') :
    wpAny (model pw w) A (execs ((inside (stP [57, 9])).drop 4) (fnEnv fd1463 L 1463)) Q (fun _ _ => False) s := by
  refine wpAny_execs_cons ?_
  walk_at "m_wk"
  refine truthL (a := od) (by assumption) (by walk_at "m_mem") (by simp; omega) fun s' S' => ?_
  cases os with
  | nil =>
    walk_at "m_wk"
    rw [if_pos (by rfl), if_pos rfl]
    walk_at "m_wk"
    refine listNil (by assumption) fun b s' S' => ?_
    exact h [] _ _ _ .refl (S'.tail.perm (by walk_at "m_pm"))
  | cons a os' =>
    obtain ⟨d, hd⟩ := node_of (hm a List.mem_cons_self)
    obtain ⟨te', he'⟩ := he a (hm a List.mem_cons_self)
    walk_at "m_wki"
    refine Subscript_ ?_
    walk_at "m_wki"
    refine subL (a := od) (vs := (a :: os').map .ref) (by assumption) (by walk_at "m_mem") (by decide) (by decide) rfl ?_
    refine getRem (b := rv a) T (by assumption) (by walk_at "m_mem") (by walk_at "m_mem") rfl fun s' S' => ?_
    cases hra : rv a with
    | false =>
      walk_at "m_wki"
      refine Subscript_ ?_
      walk_at "m_wki"
      refine subL (a := od) (vs := (a :: os').map .ref) (by assumption) (by walk_at "m_mem") (by decide) (by decide) rfl ?_
      refine getIExp T (by assumption) (by walk_at "m_mem") (by walk_at "m_mem") he' rfl fun s' S' => ?_
      walk_at "m_wki"
      refine listNil (by assumption) fun b s' S' => ?_
      exact h (a :: os') _ _ _ .refl (S'.tail.perm (by walk_at "m_pm"))
    | true =>
      walk_at "m_wki"
      refine listNil (by assumption) fun b s' S' => ?_
      walk_at "m_wki"
      refine getClsFn (f := 777) T (by assumption) (by kernel_rfl) fun s' S' => ?_
      walk_at "m_wki"
      refine getClsFn (f := 763) T (by assumption) (by kernel_rfl) fun s' S' => ?_
      walk_at "m_wki"
      rename_i S'
      refine whileS (fun n s => ∃ os2 itm, os2.length = n ∧ Shed rv os2 (a :: os') ∧ (itm = [] ∨ ∃ v, itm = [(S "item", v)]) ∧
        St B (fnEnv fd1463 L 1463 :: fs) ((od, listC (os2.map .ref)) :: (b, listC []) :: (nodeCells 1397 (itf ev kv rv) ns ++ (L, nsC fd1463.scope (itm ++ [(S "cache_getitem", .ref 763), (S "cache_delitem", .ref 777), (S "expired", .ref b), (S "order", .ref od), (S "items", .ref it), (S "time", .int 100 te), (S "self", .ref x)])) :: l)) s)
        ?_ _ ⟨a :: os', [], rfl, .refl, .inl rfl, by simp only [List.nil_append]; exact S'.perm (by walk_at "m_pm")⟩
      rintro n' s' ⟨os2, itm, rfl, hsh, hitm, S'⟩
      have hl2 := hsh.length
      simp only [List.length_cons] at hl2 hlen
      have fin : ∀ s', St B (fnEnv fd1463 L 1463 :: fs) ((od, listC (os2.map .ref)) :: (b, listC []) :: (nodeCells 1397 (itf ev kv rv) ns ++ (L, nsC fd1463.scope (itm ++ [(S "cache_getitem", .ref 763), (S "cache_delitem", .ref 777), (S "expired", .ref b), (S "order", .ref od), (S "items", .ref it), (S "time", .int 100 te), (S "self", .ref x)])) :: l)) s' → Q (.ret (.ref b)) s' :=
        fun s' S' => h os2 _ _ s' hsh (S'.sub (.cons_cons _ (.cons _ (.refl _))))
      rcases hitm with rfl | ⟨vi, rfl⟩ <;> simp only [List.nil_append, List.cons_append] at S' fin
      all_goals
        walk_at "m_wki"
        refine truthL (a := od) (by assumption) (by walk_at "m_mem") (by simp; omega) fun s' S' => ?_
        cases os2 with
        | nil =>
          walk_at "m_wki"
          exact fin _ (by assumption)
        | cons c os3 =>
          obtain ⟨dc, hdc⟩ := node_of (hm c (hsh.mem List.mem_cons_self))
          obtain ⟨tc, htc⟩ := he c (hm c (hsh.mem List.mem_cons_self))
          walk_at "m_wki"
          refine Subscript_ ?_
          walk_at "m_wki"
          refine subL (a := od) (vs := (c :: os3).map .ref) (by assumption) (by walk_at "m_mem") (by decide) (by decide) rfl ?_
          refine getRem (b := rv c) T (by assumption) (by walk_at "m_mem") (by walk_at "m_mem") rfl fun s' S' => ?_
          cases hrc : rv c with
          | false =>
            walk_at "m_wki"
            refine Subscript_ ?_
            walk_at "m_wki"
            refine subL (a := od) (vs := (c :: os3).map .ref) (by assumption) (by walk_at "m_mem") (by decide) (by decide) rfl ?_
            refine getIExp T (by assumption) (by walk_at "m_mem") (by walk_at "m_mem") htc rfl fun s' S' => ?_
            walk_at "m_wki"
            exact fin _ (by assumption)
          | true =>
            walk_at "m_wki"
            refine Call_ ?_
            walk_at "m_wki"
            refine PyProof.Rows.callWith_builtin1 ?_
            refine args_cons ?_
            walk_at "m_wki"
            refine args_nil ?_
            refine hpopS (n := n) (v0 := .ref c) (vs := os3.map .ref) T (r.less (by omega)) (by assumption : St B _ ((od, listC ((c :: os3).map .ref)) :: _) _) (itemsOk_cons (items_ok (os := c :: os3) (fun a ha => hm a (hsh.mem ha)) he)) (by simp; simp at hl2; omega) fun vs' s' p S' => ?_
            obtain ⟨os4, p4, rfl⟩ := perm_of_map p
            walk_at "m_wki"
            refine getRem (b := true) T (by assumption) (by walk_at "m_mem") (by walk_at "m_mem") hrc fun s' S' => ?_
            walk_at "m_wki"
            have hsh4 : Shed rv os4 (a :: os') := by
              refine Shed.trans (b := c :: os3) ?_ hsh
              exact ⟨[c], (p4.cons c), fun a ha => by rw [List.mem_singleton.mp ha]; exact hrc⟩
            refine ⟨os4.length, by rw [p4.length_eq]; simp, os4, [(S "item", .ref c)], rfl, hsh4, .inr ⟨_, rfl⟩, ?_⟩
            simp only [List.cons_append, List.nil_append]
            assumption
end

end
-- TL3
section
set_option maxRecDepth 100000
set_option maxHeartbeats 400000
section
variable {w : World} {A : Around} {E : Value → Shared → Prop} {B : Shared} {fs : List Env} {l l' : Cells} {s : Shared} {R : Result → Shared → Prop} {n : Nat} {K : Type} [DecidableEq K] {knd : AnyKind pw w K}
  {a d : Addr} {ns : List (Addr × Addr)} {ev kv : Addr → Value} {rv : Addr → Bool} {v : Addr} {e key : Value} {expr : Bool} {x dx dd tm dt it od : Addr} {mx sz m : Int} {t u te : Tok} {xs is_ : List (K × Value × Value)} {os : List Addr}
theorem intMulSmall {a : Int} : IntMulOk a 2 := .of_right (intBits_le_64 (by decide) (by decide))
theorem own_hcf : clsName (KK w) 1488 (S "_TLRUCache__HEAP_CLEANUP_FACTOR") hcfV = true := by kernel_rfl
theorem c1463 (T : Stat (KK w) B.heap) (r : Room (n + 9) fs A) (S₀ : St B fs (tlruC w knd B x dx dd tm dt it od sz mx t u m xs is_ os ev kv rv ns l) s) (hm : ∀ a ∈ os, a ∈ ns.map (·.1)) (he : ∀ a ∈ ns.map (·.1), ∃ te, ev a = .int endV te) (hlen : os.length < 900) (hsi : is_.length < 900)
    (h : ∀ od' os' v s', Shed rv os' os → St B fs (tlruC w knd B x dx dd tm dt it od' sz mx t u m xs is_ os' ev kv rv ns l) s' → R (.ok (.ret v)) s') :
    codeAny (model pw w) A (.call (.ref 1463) ⟨[.ref x, .int 100 te], []⟩) R s := by
  refine callS (binds := [(S "self", .ref x), (S "time", .int 100 te)]) (names := [S "self", S "time"]) (locs := [(S "time", .int 100 te), (S "self", .ref x)]) fnOk1463 T S₀ r (bndT T S₀ [.none] rfl (by kernel_rfl) (by rfl) (by kernel_rfl)) rfl rfl (by kernel_rfl) (by decide +kernel) (by kernel_rfl) fun L s' r₁ S₁ => ?_
  have rest : ∀ od1 os1 s1, Shed rv os1 os → St B (fnEnv fd1463 L 1463 :: fs) ((L, nsC fd1463.scope [(S "order", .ref od1), (S "items", .ref it), (S "time", .int 100 te), (S "self", .ref x)]) :: tlruC w knd B x dx dd tm dt it od1 sz mx t u m xs is_ os1 ev kv rv ns l) s1 →
      wpAny (model pw w) (A.deeper (fnEnv fd1463 L 1463)) (execs ((inside (stP [57, 9])).drop 4) (fnEnv fd1463 L 1463)) (fun fl s' => R (.ok (.ret (match fl with | .ret v => v | _ => .none))) s') (fun _ _ => False) s1 := by
    intro od1 os1 s1 hsh S1
    have hl1 := hsh.length
    refine expire_rest (n := n) T (r₁.less (by omega)) (fun a ha => hm a (hsh.mem ha)) he (by omega) (S1.perm (by walk_at "m_pm")) fun os' c v s' hsh' S' => ?_
    exact h od1 os' v s' (hsh'.trans hsh) (St.done L S' (by walk_at "m_pm"))
  refine wpAny_execs_cons ?_
  walk_at "m_wki"
  refine Call_ ?_
  refine ldB T (by assumption) (by kernel_rfl) PyProof.Rows.Boot.«len» ?_
  refine PyProof.Rows.callWith_builtin1 ?_
  refine args_cons ?_
  walk_at "m_wki"
  refine args_nil ?_
  refine lenL (a := od) (by assumption) (by walk_at "m_mem") (by simp; omega) fun s' t' S' => ?_
  walk_at "m_wki"
  refine Call_ ?_
  refine ldB T (by assumption) (by kernel_rfl) PyProof.Rows.Boot.«len» ?_
  refine PyProof.Rows.callWith_builtin1 ?_
  refine args_cons ?_
  walk_at "m_wki"
  refine args_nil ?_
  refine dlenS (d := it) (by assumption) (by walk_at "m_mem") (by rw [sizeLine_eq]; omega) fun s' t' S' => ?_
  walk_at "m_wki"
  refine getCls T (by assumption) (by walk_at "m_mem") (by walk_at "m_mem") own_hcf (fun s' S' => ?_) (by walk_at "m_nin")
  refine mulS (by assumption) intMulSmall fun s' t' S' => ?_
  walk_at "m_wki"
  by_cases hc : (is_.length : Int) * 2 < (os.map Value.ref).length
  · rw [if_pos (by simpa using hc)]
    walk_at "m_wki"
    refine compS (B := B) (fs := fnEnv fd1463 L 1463 :: fs) (cl := []) (closureFor_none (by decide +kernel)) rfl (by decide +kernel) (by decide +kernel) ?_
    walk_at "m_wki"
    refine iterL (a := od) (by assumption) (by walk_at "m_mem") fun I s' S' => ?_
    refine ⟨_, S', fun C D s₃ S₃ => ⟨fun P E' hp => iterIt S₃ (by walk_at "m_mem") hp, ?_⟩⟩
    refine compList (vs := os.map .ref) (fun i ys rest => rest = (L, nsC fd1463.scope [(S "order", .ref od), (S "items", .ref it), (S "time", .int 100 te), (S "self", .ref x)]) :: tlruC w knd B x dx dd tm dt it od sz mx t u m xs is_ os ev kv rv ns l ∧ ys = ((os.take i).filter fun a => !rv a).map .ref)
      (by kernel_rfl) (by decide +kernel) r₁.handled (S₃.perm (by walk_at "m_pm")) ⟨rfl, rfl⟩ ?_ ?_ ?_
    · rintro i ys rest ⟨rfl, rfl⟩
      refine ⟨(by walk_at "m_mem" : (od, listC (os.map .ref)) ∈ _), ?_⟩
      have := List.length_filter_le (fun a => !rv a) (os.take i)
      rw [List.length_take] at this
      rw [List.length_map, sizeLine_eq]; omega
    · rintro i v ys rest s hv ⟨rfl, rfl⟩ S
      rw [List.getElem?_map] at hv
      obtain ⟨a, ha, rfl⟩ := Option.map_eq_some_iff.mp hv
      obtain ⟨d, hd⟩ := node_of (hm a (List.mem_of_getElem? ha))
      refine wpAny_tests_one ?_
      walk_at "m_wki"
      refine getRem (b := rv a) T (by assumption) (by walk_at "m_mem") (by walk_at "m_mem") rfl fun s' S' => ?_
      walk_at "m_wki"
      have e := take_succ_filter (fun a => !rv a) os i a ha
      cases hr : rv a with
      | true =>
        refine iteF rfl ⟨_, ⟨rfl, ?_⟩, S'⟩
        rw [e]; simp [hr]
      | false =>
        refine iteT rfl ?_
        walk_at "m_wki"
        refine ⟨_, ⟨rfl, ?_⟩, by assumption⟩
        rw [e]; simp [hr]
    · rintro ys rest s ⟨rfl, rfl⟩ S
      rw [List.length_map, List.take_length] at S
      walk_at "m_wki"
      refine Call_ ?_
      walk_at "m_wki"
      refine PyProof.Rows.callWith_builtin1 ?_
      refine args_cons ?_
      walk_at "m_wki"
      refine args_nil ?_
      have hf := List.length_filter_le (fun a => !rv a) os
      have hm1 : ∀ a ∈ os.filter (fun a => !rv a), a ∈ ns.map (·.1) := fun a ha => hm a (List.mem_filter.mp ha).1
      refine hifyS (n := n + 1) T (r₁.less (by omega)) (St.perm (l' := (D, listC ((os.filter fun a => !rv a).map .ref)) :: (nodeCells 1397 (itf ev kv rv) ns ++ _)) (by assumption) (by walk_at "m_pm")) (items_ok hm1 he) (by rw [List.length_map]; omega) fun vs' s' p S' => ?_
      obtain ⟨os4, p4, rfl⟩ := perm_of_map p
      refine wpAny_execs_nil ?_
      exact rest D os4 s' (Shed.filter.perm p4) ((S'.perm (l' := (od, _) :: (L, _) :: tlruC w knd B x dx dd tm dt it D sz mx t u m xs is_ os4 ev kv rv ns l) (by walk_at "m_pm")).tail)
  · rw [if_neg (by simpa using hc)]
    refine wpAny_execs_nil ?_
    exact rest od os _ .refl (by assumption)
end

end
-- TL4
section
set_option maxRecDepth 100000
set_option maxHeartbeats 400000
section
variable {w : World} {A : Around} {E : Value → Shared → Prop} {B : Shared} {fs : List Env} {l l' : Cells} {s : Shared} {R : Result → Shared → Prop} {n : Nat} {K : Type} [DecidableEq K] {knd : AnyKind pw w K}
  {a d : Addr} {ns : List (Addr × Addr)} {ev kv : Addr → Value} {rv : Addr → Bool} {v : Addr} {e key : Value} {expr : Bool} {x dx dd tm dt it od : Addr} {mx sz m : Int} {t u te : Tok} {xs is_ : List (K × Value × Value)} {os : List Addr} {k : K} {p : Value × Value} {lv : Value}
theorem c1418_there (T : Stat (KK w) B.heap) (r : Room (n + 5) fs A) (S₀ : St B fs (tlruC w knd B x dx dd tm dt it od sz mx t u m xs is_ os ev kv rv ns l) s) (hk : knd.is B.heap k key) (hq : atK is_ k = some (lv, .ref a)) (ha : (a, d) ∈ ns) (he : ev a = .int endV te)
    (h : ∀ s', St B fs (tlruC w knd B x dx dd tm dt it od sz mx t u m xs is_ os ev kv rv ns l) s' → R (.ok (.ret (.bool true))) s') :
    codeAny (model pw w) A (.call (.ref 1418) ⟨[.ref x, key], []⟩) R s := by
  refine callS (binds := [(S "self", .ref x), (S "key", key)]) (names := [S "self", S "key"]) (locs := [(S "key", key), (S "self", .ref x)]) fnOk1418 T S₀ r (BindsTo.of_eq (by kernel_rfl)) rfl rfl (by kernel_rfl) (by decide +kernel) (by kernel_rfl) fun L s' r₁ S₁ => ?_
  refine wpAny_execs_cons ?_
  refine wpAny_Try_except ?_
  walk_at "m_wk"
  refine subD ?_
  walk_at "m_wk"
  refine ⟨St.typeDict (d := it) (by assumption) (by walk_at "m_mem"), ?_⟩
  refine getS (d := it) (by assumption) (by walk_at "m_mem") r₁.u1 hk hq fun s₃ S₃ => ?_
  walk_at "m_wk"
  walk_at "m_tcall"
  walk_at "m_wk"
  refine getIExp T (by assumption) (by walk_at "m_mem") (by walk_at "m_mem") he rfl fun s' S' => ?_
  walk_at "m_wk"
  exact h _ (St.done L S' (by walk_at "m_pm"))
/-- the key is not there -/
theorem c1418_not (T : Stat (KK w) B.heap) (r : Room (n + 5) fs A) (S₀ : St B fs (tlruC w knd B x dx dd tm dt it od sz mx t u m xs is_ os ev kv rv ns l) s) (hk : knd.is B.heap k key) (hq : atK is_ k = none)
    (h : ∀ s', St B fs (tlruC w knd B x dx dd tm dt it od sz mx t u m xs is_ os ev kv rv ns l) s' → R (.ok (.ret (.bool false))) s') :
    codeAny (model pw w) A (.call (.ref 1418) ⟨[.ref x, key], []⟩) R s := by
  refine callS (binds := [(S "self", .ref x), (S "key", key)]) (names := [S "self", S "key"]) (locs := [(S "key", key), (S "self", .ref x)]) fnOk1418 T S₀ r (BindsTo.of_eq (by kernel_rfl)) rfl rfl (by kernel_rfl) (by decide +kernel) (by kernel_rfl) fun L s' r₁ S₁ => ?_
  refine wpAny_execs_cons ?_
  refine wpAny_Try_except ?_
  walk_at "m_wk"
  refine subD ?_
  walk_at "m_wk"
  refine ⟨St.typeDict (d := it) (by assumption) (by walk_at "m_mem"), ?_⟩
  refine getS_missing (d := it) (by assumption) (by walk_at "m_mem") r₁.u1 r₁.handled hk hq fun h' e t' he => ?_
  refine caughtS (by assumption) r₁.frames he ke_exc ke_nt ke_sub (fun s' Q' S' hq => ldB T S' (by kernel_rfl) PyProof.Rows.Boot.«KeyError» hq) fun s' S' => ?_
  walk_at "m_wk"
  exact h _ (St.done L S' (by walk_at "m_pm"))
/-- getitem of TLRU, the key is there -/
theorem c1426 (T : Stat (KK w) B.heap) (r : Room (n + 5) fs A) (S₀ : St B fs (tlruC w knd B x dx dd tm dt it od sz mx t u m xs is_ os ev kv rv ns l) s) (hk : knd.is B.heap k key) (hp : atK xs k = some p) (hq : atK is_ k = some (lv, .ref a)) (ha : (a, d) ∈ ns) (he : ev a = .int endV te) (hso : is_.length ≤ sizeLine) (hso' : (delK is_ k).length ≤ sizeLine)
    (h : ∀ s', St B fs (tlruC w knd B x dx dd tm dt it od sz mx t u m xs (putK (delK is_ k) k key (.ref a)) os ev kv rv ns l) s' → R (.ok (.ret p.2)) s') :
    codeAny (model pw w) A (.call (.ref 1426) ⟨[.ref x, key], []⟩) R s := by
  refine callS (binds := [(S "self", .ref x), (S "key", key), (S "cache_getitem", .ref 763)]) (names := [S "self", S "key", S "cache_getitem"]) (locs := [(S "cache_getitem", .ref 763), (S "key", key), (S "self", .ref x)]) fnOk1426 T S₀ r (bndT T S₀ [.ref 763] rfl (by kernel_rfl) (by rfl) (by kernel_rfl)) rfl rfl (by kernel_rfl) (by decide +kernel) (by kernel_rfl) fun L s' r₁ S₁ => ?_
  refine wpAny_execs_cons ?_
  walk_at "m_wk"
  refine wpAny_Try_except ?_
  walk_at "m_wk"
  refine subD ?_
  walk_at "m_wk"
  refine ⟨St.typeDict (d := it) (by assumption) (by walk_at "m_mem"), ?_⟩
  refine getS (d := it) (by assumption) (by walk_at "m_mem") r₁.u1 hk hq fun s₃ S₃ => ?_
  walk_at "m_wk"
  refine methodCall_KW ?_
  walk_at "m_wk"
  refine dictPopM (d := it) (by assumption) (by walk_at "m_mem") ?_
  refine callB ?_
  refine args_cons ?_
  walk_at "m_wk"
  refine args_nil ?_
  refine popS (d := it) (by assumption) (by walk_at "m_updt") r₁.u1 hk hq (fun s₄ S₄ => ?_) hso
  walk_at "m_wk"
  refine putS (d := it) (by assumption) (by walk_at "m_updt") r₁.u1 hk (fun s₅ S₅ => ?_) hso'
  walk_at "m_wk"
  walk_at "m_tcall"
  walk_at "m_wk"
  refine getIExp T (by assumption) (by walk_at "m_mem") (by walk_at "m_mem") he rfl fun s' S' => ?_
  walk_at "m_wk"
  rw [if_pos (by decide)]
  walk_at "m_wk"
  refine Call_ ?_
  walk_at "m_wk"
  refine callFn T (by kernel_rfl) ?_
  refine args_cons ?_
  walk_at "m_wk"
  refine args_cons ?_
  walk_at "m_wk"
  refine args_nil ⟨⟨_, _, by assumption⟩, wpAny_call ?_⟩
  refine c763 c1488 T (r₁.less (m := n + 3) (by omega)) (S'.perm (l' := (x, _) :: (dx, _) :: (dd, _) :: _) (by walk_at "m_pm")) hk hp fun s' S' => ?_
  walk_at "m_wk"
  exact h _ (St.done L S' (by walk_at "m_pm"))
end

end
-- TL5
section
set_option maxRecDepth 100000
set_option maxHeartbeats 400000
section
variable {w : World} {A : Around} {E : Value → Shared → Prop} {B : Shared} {fs : List Env} {l l' : Cells} {s : Shared} {R : Result → Shared → Prop} {n : Nat} {K : Type} [DecidableEq K] {knd : AnyKind pw w K}
  {a d : Addr} {ns : List (Addr × Addr)} {ev kv : Addr → Value} {rv : Addr → Bool} {v : Addr} {e key : Value} {expr : Bool} {x dx dd tm dt it od : Addr} {mx sz m : Int} {t u te : Tok} {xs is_ : List (K × Value × Value)} {os : List Addr} {k : K} {p : Value × Value} {lv : Value}
theorem c1442 (T : Stat (KK w) B.heap) (r : Room (n + 5) fs A) (S₀ : St B fs (tlruC w knd B x dx dd tm dt it od sz mx t u m xs is_ os ev kv rv ns l) s) (h0 : 0 ≤ m) (nd : (ns.map (·.1)).Nodup) (hk : knd.is B.heap k key) (hp : atK xs k = some p) (hq : atK is_ k = some (lv, .ref a)) (ha : (a, d) ∈ ns) (he : ev a = .int endV te)
    (hsz : xs.length ≤ sizeLine) (hso : is_.length ≤ sizeLine)
    (h : ∀ s' t', St B fs (tlruC w knd B x dx dd tm dt it od (sz - 1) mx t' u m (delK xs k) (delK is_ k) os ev kv (upd rv a true) ns l) s' → R (.ok (.ret .none)) s') :
    codeAny (model pw w) A (.call (.ref 1442) ⟨[.ref x, key], []⟩) R s := by
  refine callS (binds := [(S "self", .ref x), (S "key", key), (S "cache_delitem", .ref 777)]) (names := [S "self", S "key", S "cache_delitem"]) (locs := [(S "cache_delitem", .ref 777), (S "key", key), (S "self", .ref x)]) fnOk1442 T S₀ r (bndT T S₀ [.ref 777] rfl (by kernel_rfl) (by rfl) (by kernel_rfl)) rfl rfl (by kernel_rfl) (by decide +kernel) (by kernel_rfl) fun L s' r₁ S₁ => ?_
  refine wpAny_execs_cons ?_
  walk_at "m_twith"
  walk_at "m_wki"
  refine Call_ ?_
  walk_at "m_wki"
  refine callFn T (by kernel_rfl) ?_
  refine args_cons ?_
  walk_at "m_wki"
  refine args_cons ?_
  walk_at "m_wki"
  refine args_nil ⟨⟨_, _, by assumption⟩, wpAny_call ?_⟩
  refine c777 c1488 T (r₁.less (m := n + 3) (by omega)) (St.perm (l' := (x, _) :: (dx, _) :: (dd, _) :: _) (by assumption) (by walk_at "m_pm")) (by walk_at "m_nin") (by simp) hsz hk hp fun s' t' S' => ?_
  walk_at "m_wki"
  walk_at "m_tout"
  walk_at "m_wki"
  refine methodCall_KW ?_
  walk_at "m_wki"
  refine dictPopM (d := it) (by assumption) (by walk_at "m_mem") ?_
  refine callB ?_
  refine args_cons ?_
  walk_at "m_wki"
  refine args_nil ?_
  refine popS (d := it) (by assumption) (by walk_at "m_updt") r₁.u1 hk hq (fun s₄ S₄ => ?_) hso
  walk_at "m_wki"
  refine setRem T (by assumption) (by walk_at "m_updn") (by walk_at "m_mem") fun s' S' => ?_
  walk_at "m_wki"
  refine getIExp T (by assumption) (by walk_at "m_mem") (by walk_at "m_mem") he rfl fun s' S' => ?_
  walk_at "m_wki"
  exact h _ _ (St.done L S' (by walk_at "m_pm"))
theorem c1470 {is' : List (K × Value × Value)} (T : Stat (KK w) B.heap) (r : Room (n + 11) fs A) (S₀ : St B fs (tlruC w knd B x dx dd tm dt it od sz mx t u m xs is_ os ev kv rv ns l) s) (h0 : 0 ≤ m) (nd : (ns.map (·.1)).Nodup) (hl : is_ = (k, lv, .ref a) :: is') (hp : atK xs k = some p)
    (ha : (a, d) ∈ ns) (hm : ∀ a ∈ os, a ∈ ns.map (·.1)) (he : ∀ a ∈ ns.map (·.1), ∃ te, ev a = .int endV te) (hlen : os.length < 900) (hsz : xs.length ≤ sizeLine) (hso : is_.length < 900)
    (h : ∀ b od' os' s' t', Shed rv os' os → St B fs ((b, objC { cls := .type "tuple", data := .seq #[lv, p.2] }) :: tlruC w knd B x dx dd tm dt it od' (sz - 1) mx t' u m (delK xs k) (delK is_ k) os' ev kv (upd rv a true) ns l) s' → R (.ok (.ret (.ref b))) s') :
    codeAny (model pw w) A (.call (.ref 1470) ⟨[.ref x], []⟩) R s := by
  refine callS (binds := [(S "self", .ref x)]) (names := [S "self"]) (locs := [(S "self", .ref x)]) fnOk1470 T S₀ r (BindsTo.of_eq (by kernel_rfl)) rfl rfl (by kernel_rfl) (by decide +kernel) (by kernel_rfl) fun L s' r₁ S₁ => ?_
  have hkey : knd.is B.heap k lv := S₁.keys (d := it) (by walk_at "m_mem") (k, lv, .ref a) (by rw [hl]; exact List.mem_cons_self)
  have hq : atK is_ k = some (lv, .ref a) := by rw [hl]; simp [atK]
  obtain ⟨te, hte⟩ := he a (List.mem_map.mpr ⟨_, ha, rfl⟩)
  refine wpAny_execs_cons ?_
  walk_at "m_twith"
  walk_at "m_wki"
  refine methodCall_KW ?_
  walk_at "m_wki"
  refine methFn (f := 1463) T (by assumption) (by walk_at "m_mem") (by walk_at "m_mem") (by kernel_rfl) ?_ (by walk_at "m_nin")
  refine callFn T (by kernel_rfl) ?_
  refine args_cons ?_
  walk_at "m_wki"
  refine args_nil ⟨⟨_, _, by assumption⟩, wpAny_call ?_⟩
  refine c1463 T (r₁.less (m := n + 9) (by omega)) (St.perm (by assumption) (by walk_at "m_pm")) hm he hlen hso fun od' os' v s' hsh S' => ?_
  walk_at "m_wki"
  refine wpAny_Try_except ?_
  walk_at "m_wki"
  refine Call_ ?_
  refine ldB T (by assumption) (by kernel_rfl) PyProof.Rows.Boot.«next» ?_
  refine PyProof.Rows.callWith_builtin1 ?_
  refine args_cons ?_
  refine Call_ ?_
  refine ldB T (by assumption) (by kernel_rfl) PyProof.Rows.Boot.«iter» ?_
  refine PyProof.Rows.callWith_builtin1 ?_
  refine args_cons ?_
  walk_at "m_wki"
  refine args_nil ?_
  refine iterS (d := it) (by assumption) (by walk_at "m_mem") fun I s' ep S' he => ?_
  refine args_nil ?_
  refine nextS (d := it) (by assumption) (by walk_at "m_mem") (by walk_at "m_updt") he (by rw [hl]; rfl) fun s' S' he => ?_
  have S' := S'.tail
  walk_at "m_wki"
  refine methodCall_KW ?_
  walk_at "m_wki"
  refine methCls (f := 763) T (by assumption) (by kernel_rfl) fun s' S' => ?_
  refine callFn T (by kernel_rfl) ?_
  refine args_cons ?_
  walk_at "m_wki"
  refine args_cons ?_
  walk_at "m_wki"
  refine args_nil ⟨⟨_, _, by assumption⟩, wpAny_call ?_⟩
  refine c763 c1488 T (r₁.less (m := n + 3) (by omega)) (St.perm (l' := (x, _) :: (dx, _) :: (dd, _) :: _) (by assumption) (by walk_at "m_pm")) hkey hp fun s' S' => ?_
  walk_at "m_wki"
  refine delOwn (f := 1442) T (by assumption) (by walk_at "m_mem") (by walk_at "m_mem") (by kernel_rfl) (by kernel_rfl) ?_
  refine wpAny_call ?_
  refine c1442 (d := d) T (r₁.less (m := n + 5) (by omega)) (St.perm (by assumption) (by walk_at "m_pm")) (by omega) nd hkey hp hq ha hte hsz (by rw [sizeLine_eq]; omega) fun s' t' S' => ?_
  walk_at "m_wki"
  refine wpAny_Tuple ?_
  refine wpAny_items_cons ?_
  walk_at "m_wki"
  refine wpAny_items_cons ?_
  walk_at "m_wki"
  refine wpAny_items_nil ?_
  refine ⟨by rw [sizeLine_eq]; simp, ?_⟩
  have S' := St.push (c := objC { cls := .type "tuple", data := .seq #[lv, p.2] }) S' (o := { cls := .type "tuple", data := .seq #[lv, p.2] }) rfl s'.toks
  walk_at "m_wki"
  walk_at "m_tout"
  exact h _ _ _ _ _ hsh (St.done L (by assumption) (by walk_at "m_pm"))
/-- the length of a TLRU cache -/
theorem c1072_tlru (T : Stat (KK w) B.heap) (r : Room (n + 12) fs A) (S₀ : St B fs (tlruC w knd B x dx dd tm dt it od sz mx t u m xs is_ os ev kv rv ns l) s) (h0 : 0 ≤ m)
    (hm : ∀ a ∈ os, a ∈ ns.map (·.1)) (he : ∀ a ∈ ns.map (·.1), ∃ te, ev a = .int endV te) (hlen : os.length < 900) (hsz : xs.length ≤ sizeLine) (hso : is_.length < 900)
    (h : ∀ od' os' s' t', Shed rv os' os → St B fs (tlruC w knd B x dx dd tm dt it od' sz mx t u m xs is_ os' ev kv rv ns l) s' → R (.ok (.ret (.int xs.length t'))) s') :
    codeAny (model pw w) A (.call (.ref 1072) ⟨[.ref x], []⟩) R s := by
  refine callS (binds := [(S "self", .ref x), (S "cache_len", .ref 805)]) (names := [S "self", S "cache_len"]) (locs := [(S "cache_len", .ref 805), (S "self", .ref x)]) fnOk1072 T S₀ r (bndT T S₀ [.ref 805] rfl (by kernel_rfl) (by rfl) (by kernel_rfl)) rfl rfl (by kernel_rfl) (by decide +kernel) (by kernel_rfl) fun L s' r₁ S₁ => ?_
  refine wpAny_execs_cons ?_
  refine kw_execN ?_
  walk_at "m_wki"
  refine withIn (by assumption) (by assumption) (fe := 1020) (fx := 1027) (by walk_at "m_mem") (by walk_at "m_mem") (by kernel_rfl) (by kernel_rfl) ?_
  refine wpAny_call (c1020 (by assumption) (r₁.less (m := 0 + 3) (by omega)) (St.perm (by assumption) (by walk_at "m_pm")) fun s' t S' => ?_)
  walk_at "m_wki"
  refine methodCall_KW ?_
  walk_at "m_wki"
  refine methFn (f := 1463) T (by assumption) (by walk_at "m_mem") (by walk_at "m_mem") (by kernel_rfl) ?_ (by walk_at "m_nin")
  refine callFn T (by kernel_rfl) ?_
  refine args_cons ?_
  walk_at "m_wki"
  refine args_nil ⟨⟨_, _, by assumption⟩, wpAny_call ?_⟩
  refine c1463 T (r₁.less (m := n + 9) (by omega)) (St.perm (by assumption) (by walk_at "m_pm")) hm he hlen hso fun od' os' v s' hsh S' => ?_
  walk_at "m_wki"
  refine Call_ ?_
  walk_at "m_wki"
  refine callFn T (by kernel_rfl) ?_
  refine args_cons ?_
  walk_at "m_wki"
  refine args_nil ⟨⟨_, _, by assumption⟩, wpAny_call ?_⟩
  refine c805 c1488 T (r₁.less (m := n + 3) (by omega)) (St.perm (l' := (x, _) :: (dx, _) :: (dd, _) :: _) (by assumption) (by walk_at "m_pm")) hsz fun s' t' S' => ?_
  walk_at "m_wki"
  walk_at "m_tout"
  exact h _ _ _ _ hsh (St.done L (by assumption) (by walk_at "m_pm"))
end

end
-- TL6
section
set_option maxRecDepth 100000
set_option maxHeartbeats 400000
section
variable {w : World} {A : Around} {E : Value → Shared → Prop} {B : Shared} {fs : List Env} {l l' : Cells} {s : Shared} {R : Result → Shared → Prop} {n : Nat} {K : Type} [DecidableEq K] {knd : AnyKind pw w K}
  {a d : Addr} {ns : List (Addr × Addr)} {ev kv : Addr → Value} {rv rv' : Addr → Bool} {e key v : Value} {expr : Bool} {x dx dd tm dt it od : Addr} {mx sz sz' m : Int} {t u te : Tok} {xs is_ xs' is' : List (K × Value × Value)} {os : List Addr} {k : K} {p : Value × Value} {lv : Value}
theorem stNewItem {r : Cells} {b : Addr} (S : St B fs ((b, slotC 1397 d #[some e, some key, some (.bool false)]) :: (d, idC []) :: (nodeCells 1397 (itf ev kv rv) ns ++ r)) s) (hb : b ∉ ns.map (·.1)) :
    St B fs (nodeCells 1397 (itf (upd ev b e) (upd kv b key) (upd rv b false)) ((b, d) :: ns) ++ r) s := by
  have e1 : nodeCells 1397 (itf (upd ev b e) (upd kv b key) (upd rv b false)) ns = nodeCells 1397 (itf ev kv rv) ns := by
    refine nodes_congr fun a ha => ?_
    have n3 : a ≠ b := fun q => hb (q ▸ ha)
    simp [itf, upd, n3]
  rw [nodes_cons, e1]
  simpa [itf, upd] using S
/-- the law's end of a life -/
theorem cEnd (T : Stat (KK w) B.heap) (r : Room (n + 1) fs A) (S₀ : St B fs l s) (h : ∀ s' t, St B fs l s' → R (.ok (.ret (.int endV t))) s') :
    codeAny (model pw w) A (.call (.ref aEnd) ⟨[key, v, .int 100 te], []⟩) R s := by
  refine callS (binds := [(S "key", key), (S "value", v), (S "moment", .int 100 te)]) (names := [S "key", S "value", S "moment"]) (locs := [(S "moment", .int 100 te), (S "value", v), (S "key", key)]) fnOkEnd T S₀ r (BindsTo.of_eq (by kernel_rfl)) rfl rfl (by kernel_rfl) (by decide +kernel) (by kernel_rfl) fun L s' r₁ S₁ => ?_
  refine wpAny_execs_cons ?_
  walk_at "m_wki"
  exact h _ _ (St.tail (St.pop (by assumption)))
/-- what Cache.__setitem__ does to a TLRU cache's cells -/
def USets (w : World) (B : Shared) (knd : AnyKind pw w K) (n : Nat) (x dx dd tm dt it : Addr) (key v : Value) (sz sz' mx : Int) (u : Tok) (m : Int) (xs is_ xs' is' : List (K × Value × Value)) (os : List Addr) (P : List Addr → Prop) (ev kv : Addr → Value) (rv rv' : Addr → Bool) (ns : List (Addr × Addr)) : Prop :=
  ∀ (A : Around) (fs : List Env) (s : Shared) (q : Cells) (t : Tok) (od : Addr) (os₁ : List Addr) (R : Result → Shared → Prop), Room n fs A → Shed rv os₁ os → St B fs (tlruC w knd B x dx dd tm dt it od sz mx t u m xs is_ os₁ ev kv rv ns q) s →
    (∀ s' t' od' os', P os' → St B fs (tlruC w knd B x dx dd tm dt it od' sz' mx t' u m xs' is' os' ev kv rv' ns q) s' → R (.ok (.ret .none)) s') → codeAny (model pw w) A (.call (.ref 770) ⟨[.ref x, key, v], []⟩) R s
/-- setitem of TLRU, a new key -/
theorem c1434_new {P : List Addr → Prop} (T : Stat (KK w) B.heap) {n' : Nat} (hn' : n' ≤ n + 11) (r : Room (n + 12) fs A) (S₀ : St B fs (tlruC w knd B x dx dd tm dt it od sz mx t u m xs is_ os ev kv rv ns l) s) (h0 : 0 ≤ m) (nd : (ns.map (·.1)).Nodup) (hk : knd.is B.heap k key)
    (hset : USets w B knd n' x dx dd tm dt it key v sz sz' mx u (m + 1) xs is_ xs' is' os P ev kv rv rv' ns) (hq : atK is' k = none)
    (hm : ∀ a ∈ os, a ∈ ns.map (·.1)) (hP : ∀ os', P os' → (∀ a ∈ os', a ∈ ns.map (·.1)) ∧ os'.length < 900) (he : ∀ a ∈ ns.map (·.1), ∃ te, ev a = .int endV te) (hlen : os.length < 900) (hso : is_.length < 900) (hso' : is'.length < 900)
    (h : ∀ s' t' te b d od' os' os'', b ∉ ns.map (·.1) → P os' → os''.Perm (os' ++ [b]) → St B fs (tlruC w knd B x dx dd tm dt it od' sz' mx t' u m xs' (putK is' k key (.ref b)) os'' (upd ev b (.int endV te)) (upd kv b key) (upd rv' b false) ((b, d) :: ns) l) s' → R (.ok (.ret .none)) s') :
    codeAny (model pw w) A (.call (.ref 1434) ⟨[.ref x, key, v], []⟩) R s := by
  refine callS (binds := [(S "self", .ref x), (S "key", key), (S "value", v), (S "cache_setitem", .ref 770)]) (names := [S "self", S "key", S "value", S "cache_setitem"]) (locs := [(S "cache_setitem", .ref 770), (S "value", v), (S "key", key), (S "self", .ref x)]) fnOk1434 T S₀ r
    (bndT T S₀ [.ref 770] rfl (by kernel_rfl) (by rfl) (by kernel_rfl)) rfl rfl (by kernel_rfl) (by decide +kernel) (by kernel_rfl) fun L s' r₁ S₁ => ?_
  refine wpAny_execs_cons ?_
  walk_at "m_twith"
  walk_at "m_wki"
  refine methodCall_KW ?_
  walk_at "m_wki"
  refine methFn (f := 1463) T (by assumption) (by walk_at "m_mem") (by walk_at "m_mem") (by kernel_rfl) ?_ (by walk_at "m_nin")
  refine callFn T (by kernel_rfl) ?_
  refine args_cons ?_
  walk_at "m_wki"
  refine args_nil ⟨⟨_, _, by assumption⟩, wpAny_call ?_⟩
  refine c1463 T (r₁.less (m := n + 9) (by omega)) (St.perm (by assumption) (by walk_at "m_pm")) hm he hlen hso fun od₁ os₁ v' s' hsh S' => ?_
  walk_at "m_wki"
  refine methodCall_KW ?_
  walk_at "m_wki"
  refine methUsual T (by assumption) (by walk_at "m_mem") (by walk_at "m_mem") (by kernel_rfl) ?_
  walk_at "m_wki"
  refine callFn T (by kernel_rfl) ?_
  refine args_cons ?_
  walk_at "m_wki"
  refine args_cons ?_
  walk_at "m_wki"
  refine args_cons ?_
  walk_at "m_wki"
  refine args_nil ⟨⟨_, _, by assumption⟩, wpAny_call ?_⟩
  refine cEnd T (r₁.less (m := n + 1) (by omega)) (by assumption) fun s' t' S' => ?_
  walk_at "m_wki"
  refine Call_ ?_
  walk_at "m_wki"
  refine callFn T (by kernel_rfl) ?_
  refine args_cons ?_
  walk_at "m_wki"
  refine args_cons ?_
  walk_at "m_wki"
  refine args_cons ?_
  walk_at "m_wki"
  refine args_nil ⟨⟨_, _, by assumption⟩, wpAny_call ?_⟩
  refine hset _ _ _ _ _ _ os₁ _ (r₁.less (m := n') (by omega)) hsh (St.perm (by assumption) (by walk_at "m_pm")) fun s' t' od₂ os₂ hP₂ S' => ?_
  walk_at "m_wki"
  walk_at "m_tout"
  walk_at "m_wki"
  refine methodCall_KW ?_
  walk_at "m_wki"
  refine dictGetM (d := it) (by assumption) (by walk_at "m_mem") ?_
  refine callB ?_
  refine args_cons ?_
  walk_at "m_wki"
  refine args_nil ?_
  refine dgetS (d := it) (by assumption) (by walk_at "m_mem") r₁.u1 hk fun s' S' => ?_
  rw [hq]
  dsimp only [Option.map_none, Option.getD_none]
  walk_at "m_wki"
  refine methodCall_KW ?_
  walk_at "m_wki"
  refine methCls (f := 1397) T (by assumption) (by kernel_rfl) fun s' S' => ?_
  refine callFn T (by kernel_rfl) ?_
  refine args_cons ?_
  walk_at "m_wki"
  refine args_cons ?_
  walk_at "m_wki"
  refine args_nil ⟨⟨_, _, by assumption⟩, wpAny_call ?_⟩
  refine makeS (fun d => slotC 1397 d #[]) T (by assumption) (by kernel_rfl) (fI := 1386) (by kernel_rfl) (by kernel_rfl) (fun _ => ⟨rfl, rfl, rfl, rfl⟩) fun b d s' S' => ?_
  refine c1386 T (r₁.make.less (m := n + 2) (by omega)) S' fun s' S' => ⟨rfl, ?_⟩
  walk_at "m_wki"
  refine putS (d := it) (by assumption) (by walk_at "m_updt") r₁.u1 hk (fun s₅ S₅ => ?_) (by rw [sizeLine_eq]; omega)
  walk_at "m_wki"
  rename_i S'
  have hb : b ∉ ns.map (·.1) := St.freshNode S' (by walk_at "m_pm")
  have hos := hP os₂ hP₂
  have S2 := stNewItem (d := d) (S'.perm (l' := (b, _) :: (d, _) :: (nodeCells 1397 (itf ev kv rv') ns ++ _)) (by walk_at "m_pm")) hb
  refine Call_ ?_
  walk_at "m_wki"
  refine callB ?_
  refine args_cons ?_
  walk_at "m_wki"
  refine args_cons ?_
  walk_at "m_wki"
  refine args_nil ?_
  have hm2 : ∀ a ∈ os₂ ++ [b], a ∈ ((b, d) :: ns).map (·.1) := fun a ha => by
    rcases List.mem_append.mp ha with ha | ha
    · exact List.mem_cons_of_mem _ (hos.1 a ha)
    · rw [List.mem_singleton.mp ha]; exact List.mem_cons_self
  have he2 : ∀ (tk : Tok), ∀ a ∈ ((b, d) :: ns).map (·.1), ∃ te, upd ev b (.int endV tk) a = .int endV te := fun tk a ha => by
    by_cases q : a = b
    · exact ⟨tk, by subst q; exact upd_same⟩
    · rw [upd_ne q]
      rcases List.mem_cons.mp ha with ha | ha
      · exact (q ha).elim
      · exact he a ha
  refine hpushS (n := n + 3) (vs := os₂.map .ref) T (r₁.less (by omega)) (St.perm (l' := (od₂, _) :: (nodeCells 1397 _ ((b, d) :: ns) ++ _)) (by assumption) (by walk_at "m_pm")) ?_ (by rw [List.length_map]; omega) fun vs' s' p S' => ?_
  · rw [show os₂.map Value.ref ++ [.ref b] = (os₂ ++ [b]).map Value.ref by simp]
    exact items_ok hm2 (he2 _)
  · rw [show os₂.map Value.ref ++ [.ref b] = (os₂ ++ [b]).map Value.ref by simp] at p
    obtain ⟨os3, p3, rfl⟩ := perm_of_map p
    walk_at "m_wki"
    exact h _ _ _ b d od₂ os₂ os3 hb hP₂ p3 (St.done L S' (by walk_at "m_pm"))
end

end
-- C3
section
set_option maxRecDepth 100000
set_option maxHeartbeats 400000
section
variable {w : World} {A : Around} {E : Value → Shared → Prop} {B : Shared} {fs : List Env} {l : Cells} {s : Shared} {K : Type} [DecidableEq K] {knd : AnyKind pw w K} {R : Result → Shared → Prop} {n : Nat}
  {C x dx dd : Addr} {ns more : Names} {xs : List (K × Value × Value)} {key v : Value} {k : K} {sz mx : Int} {t u : Tok} {p : Value × Value}
/-- what popitem of the class does to the cells, where other names and cells may come out -/
def PopsG (w : World) (B : Shared) (knd : AnyKind pw w K) (pf : Addr) (n : Nat) (C x dx dd : Addr) (sz mx : Int) (u : Tok) (more : Names) (xs xs' : List (K × Value × Value)) (ext : Cells) (G : Names → Cells → Prop) : Prop :=
  ∀ (A : Around) (fs : List Env) (s : Shared) (q : Cells) (t : Tok) (R : Result → Shared → Prop), Room n fs A → St B fs ((x, instC C dx) :: (dx, idC (baseN dd sz mx t u more)) :: (dd, dictC knd B xs) :: (ext ++ q)) s →
    (∀ v s' t' more' ext', G more' ext' → St B fs ((x, instC C dx) :: (dx, idC (baseN dd (sz - 1) mx t' u more')) :: (dd, dictC knd B xs') :: (ext' ++ q)) s' → R (.ok (.ret v)) s') → codeAny (model pw w) A (.call (.ref pf) ⟨[.ref x], []⟩) R s
/-- a new key, and the cache is full: popitem makes room -/
theorem c770_fullG {pf : Addr} {xs' : List (K × Value × Value)} {ext : Cells} {G : Names → Cells → Prop} (hC : C ∈ cacheCls) (T : Stat (KK w) B.heap) (r : Room (n + 3) fs A) (S₀ : St B fs ((x, instC C dx) :: (dx, idC (baseN dd sz mx t u more)) :: (dd, dictC knd B xs) :: (ext ++ l)) s)
    (hpop : PopsG w B knd pf (n + 2) C x dx dd sz mx u more xs xs' ext G) (hm : methName (KK w) C (S "popitem") pf = true) (hkp : keepIn (KK w) (.ref pf) = true)
    (hns : S "_Cache__size" ∉ (baseN dd sz mx t u more).map (·.1)) (hns2 : S "popitem" ∉ (baseN dd sz mx t u more).map (·.1)) (hml : more.length ≤ 50) (hG : ∀ more' ext', G more' ext' → more'.length ≤ 50) (hsz : xs'.length ≤ sizeLine) (hk : knd.is B.heap k key) (hp : atK xs k = none) (hmx : sz = mx) (h0 : 0 < sz)
    (h : ∀ s' t' more' ext', G more' ext' → St B fs ((x, instC C dx) :: (dx, idC (baseN dd (sz - 1 + 1) mx t' u more')) :: (dd, dictC knd B (putK xs' k key v)) :: (ext' ++ l)) s' → R (.ok (.ret .none)) s') :
    codeAny (model pw w) A (.call (.ref 770) ⟨[.ref x, key, v], []⟩) R s := by
  refine callS (binds := [(S "self", .ref x), (S "key", key), (S "value", v)]) (names := [S "self", S "key", S "value"]) (locs := [(S "value", v), (S "key", key), (S "self", .ref x)]) fnOk770 T S₀ r (BindsTo.of_eq (by kernel_rfl)) rfl rfl (by kernel_rfl) (by decide +kernel) (by kernel_rfl) fun L s' r₁ S₁ => ?_
  refine wpAny_execs_cons ?_
  walk_at "m_wk"
  refine getCls T (by assumption) (by walk_at "m_mem") (by walk_at "m_mem") (cls_size hC) (fun s₂ S₂ => ?_) hns
  walk_at "m_wk"
  rw [if_pos (by rfl)]
  walk_at "m_wk"
  rw [if_neg (by simp; omega)]
  walk_at "m_wk"
  refine inS (by assumption) (by walk_at "m_mem") r₁.u1 hk fun s₃ S₃ => ?_
  walk_at "m_wk"
  rw [hp, if_neg (by decide)]
  walk_at "m_wk"
  refine whileOnce (fun s' => ∃ t' more' ext', G more' ext' ∧ St B (fnEnv fd770 L 770 :: fs) ((L, nsC fd770.scope [(S "maxsize", .int mx u), (S "size", .none), (S "data", .ref dd), (S "value", v), (S "key", key), (S "self", .ref x)]) :: (x, instC C dx) :: (dx, idC (baseN dd (sz - 1) mx t' u more')) :: (dd, dictC knd B xs') :: (ext' ++ l)) s') ?_ ?_
  · walk_at "m_wk"
    refine ⟨by simp; omega, ?_⟩
    walk_at "m_wk"
    refine methodCall_KW ?_
    walk_at "m_wk"
    refine methFn T (by assumption) (by walk_at "m_mem") (by walk_at "m_mem") hm ?_ hns2
    refine callFn0 T (by assumption) hkp ?_
    refine wpAny_call ?_
    refine hpop _ _ _ _ _ _ r₁ (St.back (p := (x, instC C dx) :: (dx, idC (baseN dd sz mx t u more)) :: (dd, dictC knd B xs) :: ext) (q := l) (by assumption)) fun v s' t' more' ext' hg S' => ?_
    walk_at "m_wk"
    exact ⟨rfl, t', more', ext', hg, St.front (p := (x, instC C dx) :: (dx, idC (baseN dd (sz - 1) mx t' u more')) :: (dd, dictC knd B xs') :: ext') (q := l) S'⟩
  rintro s' ⟨t', more', ext', hg, S'⟩
  have hml' := hG _ _ hg
  walk_at "m_wk"
  refine ⟨by simp; omega, ?_⟩
  walk_at "m_wk"
  refine putS (by assumption) (by walk_at "m_updt") r₁.u1 hk (fun s₃ S₃ => ?_) hsz
  walk_at "m_wk"
  exact h _ _ _ _ hg (St.tail (St.pop (by assumption)))
end

end
-- TL7
section
set_option maxRecDepth 100000
set_option maxHeartbeats 400000
section
variable {w : World} {A : Around} {E : Value → Shared → Prop} {B : Shared} {fs : List Env} {l l' : Cells} {s : Shared} {R : Result → Shared → Prop} {n : Nat} {K : Type} [DecidableEq K] {knd : AnyKind pw w K}
  {a d : Addr} {ns : List (Addr × Addr)} {ev kv : Addr → Value} {rv rv' : Addr → Bool} {e key v : Value} {expr : Bool} {x dx dd tm dt it od : Addr} {mx sz sz' m : Int} {t u te : Tok} {xs is_ xs' is' : List (K × Value × Value)} {os : List Addr} {k : K} {p : Value × Value} {lv : Value}
theorem usets_room (T : Stat (KK w) B.heap) (hsz : xs.length ≤ sizeLine) (hk : knd.is B.heap k key) (hp : atK xs k = none) (hmx : sz < mx) (h0 : 0 ≤ sz) :
    USets w B knd (n + 3) x dx dd tm dt it key v sz (sz + 1) mx u m xs is_ (putK xs k key v) is_ os (fun os' => Shed rv os' os) ev kv rv rv ns :=
  fun _ _ _ _ _ _ _ _ r hsh S₀ h => c770_new c1488 T r S₀ (by walk_at "m_nin") (by simp) hsz hk hp hmx h0 fun _ _ S' => h _ _ _ _ hsh S'
theorem usets_there (T : Stat (KK w) B.heap) (hsz : xs.length ≤ sizeLine) (hk : knd.is B.heap k key) (hp : atK xs k = some p) (hmx : 0 < mx) :
    USets w B knd (n + 3) x dx dd tm dt it key v sz sz mx u m xs is_ (putK xs k key v) is_ os (fun os' => Shed rv os' os) ev kv rv rv ns :=
  fun _ _ _ _ _ _ _ _ r hsh S₀ h => c770_there c1488 T r S₀ (by walk_at "m_nin") (by simp) hsz hk hp hmx fun _ S' => h _ _ _ _ hsh S'
theorem usets_full {k0 : K} {is'' : List (K × Value × Value)} (T : Stat (KK w) B.heap) (h0 : 0 ≤ m) (nd : (ns.map (·.1)).Nodup) (hl : is_ = (k0, lv, .ref a) :: is'') (hp0 : atK xs k0 = some p)
    (ha : (a, d) ∈ ns) (hm : ∀ a ∈ os, a ∈ ns.map (·.1)) (he : ∀ a ∈ ns.map (·.1), ∃ te, ev a = .int endV te) (hlen : os.length < 900) (hsz : xs.length ≤ sizeLine) (hso : is_.length < 900)
    (hd1 : (delK xs k0).length ≤ sizeLine) (hk : knd.is B.heap k key) (hp : atK xs k = none) (hmx : sz = mx) (hs0 : 0 < sz) :
    USets w B knd (n + 12) x dx dd tm dt it key v sz (sz - 1 + 1) mx u m xs is_ (putK (delK xs k0) k key v) (delK is_ k0) os (fun os' => Shed rv os' os) ev kv rv (upd rv a true) ns := by
  intro A fs s q t od os₁ R r hsh S₀ h
  have hl1 := hsh.length
  refine c770_fullG (n := n + 9) (pf := 1470) (ext := (tm, instC 1044 dt) :: (dt, timC m) :: (it, dictC knd B is_) :: (od, listC (os₁.map .ref)) :: nodeCells 1397 (itf ev kv rv) ns)
    (G := fun more' ext' => ∃ od' os', Shed rv os' os ∧ more' = [(S "_TimedCache__timer", .ref tm), (S "_TLRUCache__items", .ref it), (S "_TLRUCache__order", .ref od'), (S "_TLRUCache__ttu", .ref aEnd)] ∧ ext' = (tm, instC 1044 dt) :: (dt, timC m) :: (it, dictC knd B (delK is_ k0)) :: (od', listC (os'.map .ref)) :: nodeCells 1397 (itf ev kv (upd rv a true)) ns)
    c1488 T r S₀ ?_ (by kernel_rfl) (by kernel_rfl) (by walk_at "m_nin") (by walk_at "m_nin") (by simp) (fun more' ext' hg => ?_) hd1 hk hp hmx hs0 (fun s' t' more' ext' hg S' => ?_)
  · intro A' fs' s' q' t' R' r' S' h'
    exact c1470 (d := d) T r' S' h0 nd hl hp0 ha (fun a ha => hm a (hsh.mem ha)) he (by omega) hsz hso fun b od' os' s' t' hsh' S' => h' _ _ _ _ _ ⟨od', os', hsh'.trans hsh, rfl, rfl⟩ S'.tail
  · obtain ⟨_, _, _, rfl, _⟩ := hg
    simp
  · obtain ⟨od', os', hsh', rfl, rfl⟩ := hg
    exact h _ _ _ _ hsh' S'
/-- setitem of TLRU, the key is there -/
theorem c1434_there {P : List Addr → Prop} (T : Stat (KK w) B.heap) {n' : Nat} (hn' : n' ≤ n + 11) (r : Room (n + 12) fs A) (S₀ : St B fs (tlruC w knd B x dx dd tm dt it od sz mx t u m xs is_ os ev kv rv ns l) s) (h0 : 0 ≤ m) (nd : (ns.map (·.1)).Nodup) (hk : knd.is B.heap k key)
    (hset : USets w B knd n' x dx dd tm dt it key v sz sz' mx u (m + 1) xs is_ xs' is' os P ev kv rv rv' ns) (hq : atK is' k = some (lv, .ref a)) (ha : (a, d) ∈ ns) (hso2 : (delK is' k).length < 900) (hso3 : (putK (delK is' k) k key (.ref a)).length < 900)
    (hm : ∀ a ∈ os, a ∈ ns.map (·.1)) (hP : ∀ os', P os' → (∀ a ∈ os', a ∈ ns.map (·.1)) ∧ os'.length < 900) (he : ∀ a ∈ ns.map (·.1), ∃ te, ev a = .int endV te) (hlen : os.length < 900) (hso : is_.length < 900) (hso' : is'.length < 900)
    (h : ∀ s' t' te b d' od' os' os'', b ∉ ns.map (·.1) → P os' → os''.Perm (os' ++ [b]) → St B fs (tlruC w knd B x dx dd tm dt it od' sz' mx t' u m xs' (putK (putK (delK is' k) k key (.ref a)) k key (.ref b)) os'' (upd ev b (.int endV te)) (upd kv b key) (upd (upd rv' a true) b false) ((b, d') :: ns) l) s' → R (.ok (.ret .none)) s') :
    codeAny (model pw w) A (.call (.ref 1434) ⟨[.ref x, key, v], []⟩) R s := by
  refine callS (binds := [(S "self", .ref x), (S "key", key), (S "value", v), (S "cache_setitem", .ref 770)]) (names := [S "self", S "key", S "value", S "cache_setitem"]) (locs := [(S "cache_setitem", .ref 770), (S "value", v), (S "key", key), (S "self", .ref x)]) fnOk1434 T S₀ r
    (bndT T S₀ [.ref 770] rfl (by kernel_rfl) (by rfl) (by kernel_rfl)) rfl rfl (by kernel_rfl) (by decide +kernel) (by kernel_rfl) fun L s' r₁ S₁ => ?_
  refine wpAny_execs_cons ?_
  walk_at "m_twith"
  walk_at "m_wki"
  refine methodCall_KW ?_
  walk_at "m_wki"
  refine methFn (f := 1463) T (by assumption) (by walk_at "m_mem") (by walk_at "m_mem") (by kernel_rfl) ?_ (by walk_at "m_nin")
  refine callFn T (by kernel_rfl) ?_
  refine args_cons ?_
  walk_at "m_wki"
  refine args_nil ⟨⟨_, _, by assumption⟩, wpAny_call ?_⟩
  refine c1463 T (r₁.less (m := n + 9) (by omega)) (St.perm (by assumption) (by walk_at "m_pm")) hm he hlen hso fun od₁ os₁ v' s' hsh S' => ?_
  walk_at "m_wki"
  refine methodCall_KW ?_
  walk_at "m_wki"
  refine methUsual T (by assumption) (by walk_at "m_mem") (by walk_at "m_mem") (by kernel_rfl) ?_
  walk_at "m_wki"
  refine callFn T (by kernel_rfl) ?_
  refine args_cons ?_
  walk_at "m_wki"
  refine args_cons ?_
  walk_at "m_wki"
  refine args_cons ?_
  walk_at "m_wki"
  refine args_nil ⟨⟨_, _, by assumption⟩, wpAny_call ?_⟩
  refine cEnd T (r₁.less (m := n + 1) (by omega)) (by assumption) fun s' t' S' => ?_
  walk_at "m_wki"
  refine Call_ ?_
  walk_at "m_wki"
  refine callFn T (by kernel_rfl) ?_
  refine args_cons ?_
  walk_at "m_wki"
  refine args_cons ?_
  walk_at "m_wki"
  refine args_cons ?_
  walk_at "m_wki"
  refine args_nil ⟨⟨_, _, by assumption⟩, wpAny_call ?_⟩
  refine hset _ _ _ _ _ _ os₁ _ (r₁.less (m := n') (by omega)) hsh (St.perm (by assumption) (by walk_at "m_pm")) fun s' t' od₂ os₂ hP₂ S' => ?_
  walk_at "m_wki"
  walk_at "m_tout"
  walk_at "m_wki"
  refine methodCall_KW ?_
  walk_at "m_wki"
  refine dictGetM (d := it) (by assumption) (by walk_at "m_mem") ?_
  refine callB ?_
  refine args_cons ?_
  walk_at "m_wki"
  refine args_nil ?_
  refine dgetS (d := it) (by assumption) (by walk_at "m_mem") r₁.u1 hk fun s' S' => ?_
  rw [hq]
  dsimp only [Option.map_some, Option.getD_some]
  walk_at "m_wki"
  refine setRem T (by assumption) (by walk_at "m_updn") (by walk_at "m_mem") fun s' S' => ?_
  walk_at "m_wki"
  refine methodCall_KW ?_
  walk_at "m_wki"
  refine dictPopM (d := it) (by assumption) (by walk_at "m_mem") ?_
  refine callB ?_
  refine args_cons ?_
  walk_at "m_wki"
  refine args_nil ?_
  refine popS (d := it) (by assumption) (by walk_at "m_updt") r₁.u1 hk hq (fun s₄ S₄ => ?_) (by rw [sizeLine_eq]; omega)
  walk_at "m_wki"
  refine putS (d := it) (by assumption) (by walk_at "m_updt") r₁.u1 hk (fun s₅ S₅ => ?_) (by rw [sizeLine_eq]; omega)
  walk_at "m_wki"
  refine methodCall_KW ?_
  walk_at "m_wki"
  refine methCls (f := 1397) T (by assumption) (by kernel_rfl) fun s' S' => ?_
  refine callFn T (by kernel_rfl) ?_
  refine args_cons ?_
  walk_at "m_wki"
  refine args_cons ?_
  walk_at "m_wki"
  refine args_nil ⟨⟨_, _, by assumption⟩, wpAny_call ?_⟩
  refine makeS (fun d => slotC 1397 d #[]) T (by assumption) (by kernel_rfl) (fI := 1386) (by kernel_rfl) (by kernel_rfl) (fun _ => ⟨rfl, rfl, rfl, rfl⟩) fun b d' s' S' => ?_
  refine c1386 T (r₁.make.less (m := n + 2) (by omega)) S' fun s' S' => ⟨rfl, ?_⟩
  walk_at "m_wki"
  refine putS (d := it) (by assumption) (by walk_at "m_updt") r₁.u1 hk (fun s₅ S₅ => ?_) (by rw [sizeLine_eq]; exact Nat.le_of_lt (Nat.lt_trans hso3 (by decide)))
  walk_at "m_wki"
  rename_i S'
  have hb : b ∉ ns.map (·.1) := St.freshNode S' (by walk_at "m_pm")
  have hos := hP os₂ hP₂
  have S2 := stNewItem (d := d') (S'.perm (l' := (b, _) :: (d', _) :: (nodeCells 1397 (itf ev kv (upd rv' a true)) ns ++ _)) (by walk_at "m_pm")) hb
  refine Call_ ?_
  walk_at "m_wki"
  refine callB ?_
  refine args_cons ?_
  walk_at "m_wki"
  refine args_cons ?_
  walk_at "m_wki"
  refine args_nil ?_
  have hm2 : ∀ a ∈ os₂ ++ [b], a ∈ ((b, d') :: ns).map (·.1) := fun a ha => by
    rcases List.mem_append.mp ha with ha | ha
    · exact List.mem_cons_of_mem _ (hos.1 a ha)
    · rw [List.mem_singleton.mp ha]; exact List.mem_cons_self
  have he2 : ∀ (tk : Tok), ∀ a ∈ ((b, d') :: ns).map (·.1), ∃ te, upd ev b (.int endV tk) a = .int endV te := fun tk a ha => by
    by_cases q : a = b
    · exact ⟨tk, by subst q; exact upd_same⟩
    · rw [upd_ne q]
      rcases List.mem_cons.mp ha with ha | ha
      · exact (q ha).elim
      · exact he a ha
  refine hpushS (n := n + 3) (vs := os₂.map .ref) T (r₁.less (by omega)) (St.perm (l' := (od₂, _) :: (nodeCells 1397 _ ((b, d') :: ns) ++ _)) (by assumption) (by walk_at "m_pm")) ?_ (by rw [List.length_map]; omega) fun vs' s' p S' => ?_
  · rw [show os₂.map Value.ref ++ [.ref b] = (os₂ ++ [b]).map Value.ref by simp]
    exact items_ok hm2 (he2 _)
  · rw [show os₂.map Value.ref ++ [.ref b] = (os₂ ++ [b]).map Value.ref by simp] at p
    obtain ⟨os3, p3, rfl⟩ := perm_of_map p
    walk_at "m_wki"
    exact h _ _ _ b d' od₂ os₂ os3 hb hP₂ p3 (St.done L S' (by walk_at "m_pm"))
end

end
-- IF2
section
set_option maxRecDepth 100000
set_option maxHeartbeats 400000
inductive Kind
  | fifo | lru | ttl | tlru
def clsOf : Kind → Addr
  | .fifo => 917 | .lru => 982 | .ttl => 1270 | .tlru => 1488
def inF : Kind → Addr
  | .fifo => 784 | .lru => 784 | .ttl => 1199 | .tlru => 1418
def getF : Kind → Addr
  | .fifo => 763 | .lru => 942 | .ttl => 1207 | .tlru => 1426
def setF : Kind → Addr
  | .fifo => 892 | .lru => 950 | .ttl => 1215 | .tlru => 1434
def delF : Kind → Addr
  | .fifo => 900 | .lru => 958 | .ttl => 1223 | .tlru => 1442
def popF : Kind → Addr
  | .fifo => 907 | .lru => 965 | .ttl => 1260 | .tlru => 1470
def lenF : Kind → Addr
  | .fifo => 805 | .lru => 805 | .ttl => 1072 | .tlru => 1072
section
variable {K : Type} [DecidableEq K]
def touchS (kd : Kind) (st : List (K × Value)) (k : K) (v : Value) : List (K × Value) := match kd with
  | .fifo => st
  | _ => dropS st k ++ [(k, v)]
def roomS (pl : Nat) (st : List (K × Value)) : List (K × Value) := if st.length < pl then st else st.tail
/-- the ring of a TTL cache, as far as it is asked -/
structure TtlOk (ls : List (K × Value × Value)) (rt : Addr) (ns : List (Addr × Addr)) (ev : Addr → Value) (nx pv : Addr → Addr) : Prop where
  hnd : (ns.map (·.1)).Nodup
  hrt : rt ∈ ns.map (·.1)
  hnx : ∀ a ∈ ns.map (·.1), nx a ∈ ns.map (·.1)
  hpv : ∀ a ∈ ns.map (·.1), pv a ∈ ns.map (·.1)
  hev : ∀ a ∈ ns.map (·.1), a ≠ rt → ∃ te, ev a = .int endV te
  hlk : ∀ e ∈ ls, ∃ a, e.2.2 = .ref a ∧ a ∈ ns.map (·.1) ∧ a ≠ rt
structure TlruOk (is_ : List (K × Value × Value)) (os : List Addr) (ns : List (Addr × Addr)) (ev : Addr → Value) (cnt : Nat) : Prop where
  hnd : (ns.map (·.1)).Nodup
  hev : ∀ a ∈ ns.map (·.1), ∃ te, ev a = .int endV te
  hos : ∀ a ∈ os, a ∈ ns.map (·.1)
  hlen : os.length ≤ cnt
  hlk : ∀ e ∈ is_, ∃ a, e.2.2 = .ref a ∧ a ∈ ns.map (·.1)
theorem mem_put {xs : List (K × Value × Value)} {k : K} {kv v : Value} {e : K × Value × Value} (h : e ∈ putK xs k kv v) : e.2.2 = v ∨ e ∈ xs := by
  unfold putK at h
  split at h
  · obtain ⟨y, hy, rfl⟩ := List.mem_map.mp h
    unfold putAtK
    split
    · exact .inl rfl
    · exact .inr hy
  · rcases List.mem_append.mp h with h | h
    · exact .inr h
    · rw [List.mem_singleton.mp h]; exact .inl rfl
theorem mem_del {xs : List (K × Value × Value)} {k : K} {e : K × Value × Value} (h : e ∈ delK xs k) : e ∈ xs := (List.mem_filter.mp h).1
theorem mem_upd {f : Addr → Addr} {N : List Addr} {a v b : Addr} (hv : v ∈ N) (h : f b ∈ N) : upd f a v b ∈ N := by
  unfold upd; split
  · exact hv
  · exact h
theorem at_mem {xs : List (K × Value × Value)} {k : K} {p : Value × Value} (h : atK xs k = some p) : ∃ e ∈ xs, e.1 = k ∧ e.2 = p := by
  unfold atK at h
  obtain ⟨e, he, rfl⟩ := Option.map_eq_some_iff.mp h
  exact ⟨e, List.mem_of_find?_eq_some he, of_decide_eq_true (List.find?_some (p := fun x : K × Value × Value => decide (x.1 = k)) he), rfl⟩
namespace TtlOk
variable {ls : List (K × Value × Value)} {rt : Addr} {ns : List (Addr × Addr)} {ev : Addr → Value} {nx pv : Addr → Addr} {k : K} {kv : Value} {a b d : Addr} {e : Value}
theorem unlink (h : TtlOk ls rt ns ev nx pv) (ha : a ∈ ns.map (·.1)) : TtlOk (delK ls k) rt ns ev (upd nx (pv a) (nx a)) (upd pv (nx a) (pv a)) :=
  ⟨h.hnd, h.hrt, fun b hb => mem_upd (h.hnx a ha) (h.hnx b hb), fun b hb => mem_upd (h.hpv a ha) (h.hpv b hb), h.hev, fun e he => h.hlk e (mem_del he)⟩
theorem touch (h : TtlOk ls rt ns ev nx pv) (ha : a ∈ ns.map (·.1)) (hr : a ≠ rt) : TtlOk (putK (delK ls k) k kv (.ref a)) rt ns ev nx pv :=
  ⟨h.hnd, h.hrt, h.hnx, h.hpv, h.hev, fun e he => by
    rcases mem_put he with q | q
    · exact ⟨a, q, ha, hr⟩
    · exact h.hlk e (mem_del q)⟩
theorem insert (h : TtlOk ls rt ns ev nx pv) (hb : b ∉ ns.map (·.1)) {te : Tok} (he : e = .int endV te) :
    TtlOk (putK ls k kv (.ref b)) rt ((b, d) :: ns) (upd ev b e) (upd (upd nx b rt) (pv rt) b) (upd (upd pv b (pv rt)) rt b) := by
  have hm : ∀ c ∈ ns.map (·.1), c ∈ ((b, d) :: ns).map (·.1) := fun c hc => List.mem_cons_of_mem _ hc
  refine ⟨List.nodup_cons.mpr ⟨hb, h.hnd⟩, hm _ h.hrt, fun c hc => ?_, fun c hc => ?_, fun c hc hr => ?_, fun e' he' => ?_⟩
  · rcases List.mem_cons.mp hc with rfl | hc
    · refine mem_upd List.mem_cons_self ?_
      rw [upd_same]; exact hm _ h.hrt
    · exact mem_upd List.mem_cons_self (mem_upd (hm _ h.hrt) (hm _ (h.hnx c hc)))
  · rcases List.mem_cons.mp hc with rfl | hc
    · refine mem_upd List.mem_cons_self ?_
      rw [upd_same]; exact hm _ (h.hpv _ h.hrt)
    · exact mem_upd List.mem_cons_self (mem_upd (hm _ (h.hpv _ h.hrt)) (hm _ (h.hpv c hc)))
  · by_cases q : c = b
    · subst q; exact ⟨te, by rw [upd_same, he]⟩
    · rw [upd_ne q]
      rcases List.mem_cons.mp hc with hc | hc
      · exact (q hc).elim
      · exact h.hev c hc hr
  · rcases mem_put he' with q | q
    · exact ⟨b, q, List.mem_cons_self, fun e => hb (e ▸ h.hrt)⟩
    · obtain ⟨a, h1, h2, h3⟩ := h.hlk e' q
      exact ⟨a, h1, hm _ h2, h3⟩
theorem first (h : TtlOk ls rt ns ev nx pv) : ∃ dr da, (rt, dr) ∈ ns ∧ (nx rt, da) ∈ ns ∧ (nx rt ≠ rt → ∃ te, ev (nx rt) = .int endV te) := by
  obtain ⟨dr, hr⟩ := node_of h.hrt
  obtain ⟨da, ha⟩ := node_of (h.hnx _ h.hrt)
  exact ⟨dr, da, hr, ha, fun q => h.hev _ (h.hnx _ h.hrt) q⟩
theorem link (h : TtlOk ls rt ns ev nx pv) {p : Value × Value} (hp : atK ls k = some p) : ∃ a d dn dp te, p.2 = .ref a ∧ (a, d) ∈ ns ∧ (nx a, dn) ∈ ns ∧ (pv a, dp) ∈ ns ∧ ev a = .int endV te ∧ a ≠ rt := by
  obtain ⟨e, he, _, rfl⟩ := at_mem hp
  obtain ⟨a, h1, h2, h3⟩ := h.hlk e he
  obtain ⟨d, hd⟩ := node_of h2
  obtain ⟨dn, hdn⟩ := node_of (h.hnx a h2)
  obtain ⟨dp, hdp⟩ := node_of (h.hpv a h2)
  obtain ⟨te, hte⟩ := h.hev a h2 h3
  exact ⟨a, d, dn, dp, te, h1, hd, hdn, hdp, hte, h3⟩
end TtlOk
theorem TlruOk.link {is_ : List (K × Value × Value)} {os : List Addr} {ns : List (Addr × Addr)} {ev : Addr → Value} {cnt : Nat} {k : K} {p : Value × Value} (h : TlruOk is_ os ns ev cnt) (hp : atK is_ k = some p) : ∃ a d te, p.2 = .ref a ∧ (a, d) ∈ ns ∧ ev a = .int endV te := by
  obtain ⟨e, he, _, rfl⟩ := at_mem hp
  obtain ⟨a, h1, h2⟩ := h.hlk e he
  obtain ⟨d, hd⟩ := node_of h2
  obtain ⟨te, hte⟩ := h.hev a h2
  exact ⟨a, d, te, h1, hd, hte⟩
end
/-- the cells of a cache of a kind that answers as st -/
def CRep (w : World) (B : Shared) {K : Type} [DecidableEq K] (knd : AnyKind pw w K) (x : Addr) (pl cnt : Nat) (st : List (K × Value)) (c : Cells) : Kind → Prop
  | .fifo => ∃ dx dd od t u xs os, c = fifoC w knd B x dx dd od st.length pl t u xs os [] ∧ Agree xs st ∧ os.map (·.1) = st.map (·.1)
  | .lru => ∃ dx dd od t u xs os, c = lruC w knd B x dx dd od st.length pl t u xs os [] ∧ Agree xs st ∧ os.map (·.1) = st.map (·.1)
  | .ttl => ∃ dx dd tm dt rt ld t u tl xs ls ev kv nx pv ns, c = (x, instC 1270 dx) :: (dx, idC (ttlN dd tm rt ld st.length pl t u tl)) :: (dd, dictC knd B xs) :: (tm, instC 1044 dt) :: (dt, timC 0) :: (ld, dictC knd B ls) :: nodeCells 1178 (lf ev kv nx pv) ns ∧
      Agree xs st ∧ ls.map (·.1) = st.map (·.1) ∧ TtlOk ls rt ns ev nx pv
  | .tlru => ∃ dx dd tm dt it od t u xs is_ os ev kv rv ns, c = (x, instC 1488 dx) :: (dx, idC (tlruN dd tm it od st.length pl t u)) :: (dd, dictC knd B xs) :: (tm, instC 1044 dt) :: (dt, timC 0) :: (it, dictC knd B is_) :: (od, listC (os.map .ref)) :: nodeCells 1397 (itf ev kv rv) ns ∧
      Agree xs st ∧ is_.map (·.1) = st.map (·.1) ∧ TlruOk is_ os ns ev cnt
/-- a cache that stands in the heap -/
structure Cach (w : World) (B : Shared) {K : Type} [DecidableEq K] (knd : AnyKind pw w K) (kd : Kind) (x : Addr) (pl cnt : Nat) (st : List (K × Value)) (c : Cells) : Prop where
  rep : CRep w B knd x pl cnt st c kd
  nd : (st.map (·.1)).Nodup
  len : st.length ≤ pl
  pl : pl ≤ 100
section
variable {w : World} {A : Around} {E : Value → Shared → Prop} {B : Shared} {fs : List Env} {l c : Cells} {s : Shared} {R : Result → Shared → Prop} {n : Nat} {K : Type} [DecidableEq K] {knd : AnyKind pw w K} {kd : Kind}
  {x : Addr} {pl cnt : Nat} {st st' : List (K × Value)} {key kv v : Value} {k : K}
theorem Cach.inst (C : Cach w B knd kd x pl cnt st c) : ∃ dx ns, (x, instC (clsOf kd) dx) ∈ c ∧ (dx, idC ns) ∈ c := by
  cases kd with
  | fifo => obtain ⟨dx, dd, od, t, u, xs, os, rfl, _⟩ := C.rep; exact ⟨dx, _, .head _, .tail _ (.head _)⟩
  | lru => obtain ⟨dx, dd, od, t, u, xs, os, rfl, _⟩ := C.rep; exact ⟨dx, _, .head _, .tail _ (.head _)⟩
  | ttl => obtain ⟨dx, dd, tm, dt, rt, ld, t, u, tl, xs, ls, ev, kv, nx, pv, ns, rfl, _⟩ := C.rep; exact ⟨dx, _, .head _, .tail _ (.head _)⟩
  | tlru => obtain ⟨dx, dd, tm, dt, it, od, t, u, xs, is_, os, ev, kv, rv, ns, rfl, _⟩ := C.rep; exact ⟨dx, _, .head _, .tail _ (.head _)⟩
theorem len_keys {xs : List (K × Value × Value)} (e : xs.map (·.1) = st.map (·.1)) : xs.length = st.length := by
  have := congrArg List.length e
  simpa using this
theorem has_key {xs : List (K × Value × Value)} (e : xs.map (·.1) = st.map (·.1)) (h : vAt st k = some v) : ∃ q, atK xs k = some q := by
  have : (atK xs k).isSome = true := atK_isSome.mpr (by rw [e]; exact vAt_isSome.mp (by rw [h]; rfl))
  exact Option.isSome_iff_exists.mp this
theorem no_key {xs : List (K × Value × Value)} (e : xs.map (·.1) = st.map (·.1)) (h : vAt st k = none) : atK xs k = none :=
  atK_eq_none.mpr (by rw [e]; exact vAt_eq_none.mp h)
/-- «key in cache» -/
theorem opIn (C : Cach w B knd kd x pl cnt st c) (T : Stat (KK w) B.heap) (r : Room (n + 20) fs A) (S₀ : St B fs (c ++ l) s) (hk : knd.is B.heap k key)
    (h : ∀ s' c', Cach w B knd kd x pl cnt st c' → St B fs (c' ++ l) s' → R (.ok (.ret (.bool (vAt st k).isSome))) s') : codeAny (model pw w) A (.call (.ref (inF kd)) ⟨[.ref x, key], []⟩) R s := by
  have C0 := C
  obtain ⟨rep, nd, hlen, hpl⟩ := C
  cases kd with
  | fifo =>
    obtain ⟨dx, dd, od, t, u, xs, os, rfl, ag, ek⟩ := rep
    refine c784 (n := n) c917 T (r.less (by omega)) S₀ hk fun s' S' => ?_
    have := h _ _ C0 S'
    rwa [← ag.val, Option.isSome_map] at this
  | lru =>
    obtain ⟨dx, dd, od, t, u, xs, os, rfl, ag, ek⟩ := rep
    refine c784 (n := n) c982 T (r.less (by omega)) S₀ hk fun s' S' => ?_
    have := h _ _ C0 S'
    rwa [← ag.val, Option.isSome_map] at this
  | ttl =>
    obtain ⟨dx, dd, tm, dt, rt, ld, t, u, tl, xs, ls, ev, kv, nx, pv, ns, rfl, ag, ek, ok⟩ := rep
    cases hv : vAt st k with
    | none =>
      refine c1199_not (n := n) T (r.less (by omega)) S₀ hk (no_key ek hv) fun s' S' => ?_
      have := h _ _ C0 S'
      rwa [hv] at this
    | some v =>
      obtain ⟨⟨lv, p2⟩, hq⟩ := has_key ek hv
      obtain ⟨a, d, dn, dp, te, rfl, ha, hn, hp, he, _⟩ := ok.link hq
      refine c1199_there (n := n) T (r.less (by omega)) S₀ hk hq ha he fun s' S' => ?_
      have := h _ _ C0 S'
      rwa [hv] at this
  | tlru =>
    obtain ⟨dx, dd, tm, dt, it, od, t, u, xs, is_, os, ev, kv, rv, ns, rfl, ag, ek, ok⟩ := rep
    cases hv : vAt st k with
    | none =>
      refine c1418_not (n := n) T (r.less (by omega)) S₀ hk (no_key ek hv) fun s' S' => ?_
      have := h _ _ C0 S'
      rwa [hv] at this
    | some v =>
      obtain ⟨⟨lv, p2⟩, hq⟩ := has_key ek hv
      obtain ⟨a, d, te, rfl, ha, he⟩ := ok.link hq
      refine c1418_there (n := n) T (r.less (by omega)) S₀ hk hq ha he fun s' S' => ?_
      have := h _ _ C0 S'
      rwa [hv] at this
end

end
-- IF3
section
set_option maxRecDepth 100000
set_option maxHeartbeats 400000
section
variable {K : Type} [DecidableEq K] {xs : List (K × Value × Value)} {st : List (K × Value)} {k : K} {kv v u : Value}
theorem small {n : Nat} (h : n ≤ 101) : n ≤ sizeLine := by rw [sizeLine_eq]; omega
theorem keys_touch (e : xs.map (·.1) = st.map (·.1)) : (putK (delK xs k) k kv u).map (·.1) = (dropS st k ++ [(k, v)]).map (·.1) := by
  have hn : atK (delK xs k) k = none := by rw [atK_del, if_pos rfl]
  rw [keys_put_new hn, List.map_append, keys_del, keys_drop, e]; rfl
theorem keys_new (e : xs.map (·.1) = st.map (·.1)) (h : vAt st k = none) : (putK xs k kv u).map (·.1) = (st ++ [(k, v)]).map (·.1) := by
  rw [keys_put_new (no_key e h), List.map_append, e]; rfl
theorem keys_del_head {k0 : K} {v0 : Value} {st' : List (K × Value)} (e : xs.map (·.1) = ((k0, v0) :: st').map (·.1)) (nd : (((k0, v0) :: st').map (·.1)).Nodup) : (delK xs k0).map (·.1) = st'.map (·.1) := by
  rw [keys_del, e, ← keys_drop, drop_head nd]
theorem head_of {k0 : K} {v0 : Value} {st' : List (K × Value)} (e : xs.map (·.1) = ((k0, v0) :: st').map (·.1)) : ∃ kv u xs', xs = (k0, kv, u) :: xs' := by
  cases xs with
  | nil => cases e
  | cons y r =>
    obtain ⟨a, b, c⟩ := y
    rw [List.map_cons, List.map_cons] at e
    obtain ⟨rfl, _⟩ := List.cons.inj e
    exact ⟨b, c, r, rfl⟩
theorem nd_snoc (nd : (st.map (·.1)).Nodup) (h : k ∉ st.map (·.1)) : ((st ++ [(k, v)]).map (·.1)).Nodup := by
  rw [List.map_append, List.nodup_append]
  exact ⟨nd, by simp, fun a ha b hb => by
    simp only [List.map_cons, List.map_nil, List.mem_singleton] at hb
    subst hb
    exact fun e => h (e ▸ ha)⟩
theorem nd_tail {k0 : K} {v0 : Value} {st' : List (K × Value)} (nd : (((k0, v0) :: st').map (·.1)).Nodup) : (st'.map (·.1)).Nodup := (List.nodup_cons.mp nd).2
theorem Agree.head {k0 : K} {v0 : Value} {st' : List (K × Value)} (h : Agree xs ((k0, v0) :: st')) (nx : (xs.map (·.1)).Nodup) (nd : (((k0, v0) :: st').map (·.1)).Nodup) : Agree (delK xs k0) st' := by
  have := h.del nx nd (k := k0) List.mem_cons_self
  rwa [drop_head nd] at this
end
section
variable {w : World} {A : Around} {E : Value → Shared → Prop} {B : Shared} {fs : List Env} {l c : Cells} {s : Shared} {R : Result → Shared → Prop} {n : Nat} {K : Type} [DecidableEq K] {knd : AnyKind pw w K} {kd : Kind}
  {x : Addr} {pl cnt : Nat} {st st' : List (K × Value)} {key kv v : Value} {k : K}
theorem len_touch (C : (st.map (·.1)).Nodup) (hv : vAt st k = some v) : (dropS st k ++ [(k, v)]).length = st.length := by
  have := len_drop C (vAt_isSome.mp (by rw [hv]; rfl))
  rw [List.length_append, List.length_singleton]; omega
theorem nd_touch (nd : (st.map (·.1)).Nodup) : ((dropS st k ++ [(k, v)]).map (·.1)).Nodup := nd_snoc (nodup_drop nd) not_mem_drop
/-- «cache[key]», the key is there -/
theorem opGet (C : Cach w B knd kd x pl cnt st c) (T : Stat (KK w) B.heap) (r : Room (n + 20) fs A) (S₀ : St B fs (c ++ l) s) (hk : knd.is B.heap k key) (hv : vAt st k = some v)
    (h : ∀ s' c', Cach w B knd kd x pl cnt (touchS kd st k v) c' → St B fs (c' ++ l) s' → R (.ok (.ret v)) s') : codeAny (model pw w) A (.call (.ref (getF kd)) ⟨[.ref x, key], []⟩) R s := by
  have C0 := C
  obtain ⟨rep, nd, hlen, hpl⟩ := C
  have e := len_touch nd hv
  have nd' := nd_touch (k := k) (v := v) nd
  cases kd with
  | fifo =>
    obtain ⟨dx, dd, od, t, u, xs, os, rfl, ag, ek⟩ := rep
    obtain ⟨kv, hp⟩ := ag.yes hv
    exact c763 (n := n) c917 T (r.less (by omega)) S₀ hk hp fun s' S' => h _ _ C0 S'
  | lru =>
    obtain ⟨dx, dd, od, t, u, xs, os, rfl, ag, ek⟩ := rep
    obtain ⟨kv, hp⟩ := ag.yes hv
    obtain ⟨q, hq⟩ := has_key ek hv
    have lo := len_keys ek
    have ld : (delK os k).length ≤ 101 := by have := List.length_filter_le (fun x : K × Value × Value => !decide (x.1 = k)) os; unfold delK; omega
    exact c942 (n := n) T (r.less (by omega)) S₀ (small (by omega)) (small ld) hk hp hq fun s' S' => h _ _ ⟨⟨dx, dd, od, t, u, xs, _, rfl, ag.touch nd hv, keys_touch ek⟩, nd', by show (dropS st k ++ [(k, v)]).length ≤ pl; omega, hpl⟩ (by show St B fs (lruC w knd B x dx dd od ((dropS st k ++ [(k, v)]).length : Nat) pl t u xs _ l) s'; rw [e]; exact S')
  | ttl =>
    obtain ⟨dx, dd, tm, dt, rt, ld, t, u, tl, xs, ls, ev, kv, nx, pv, ns, rfl, ag, ek, ok⟩ := rep
    obtain ⟨kv', hp⟩ := ag.yes hv
    obtain ⟨⟨lv, p2⟩, hq⟩ := has_key ek hv
    obtain ⟨a, d, dn, dp, te, rfl, ha, hn, hpv, he, hr⟩ := ok.link hq
    have lo := len_keys ek
    have ld' : (delK ls k).length ≤ 101 := by have := List.length_filter_le (fun x : K × Value × Value => !decide (x.1 = k)) ls; unfold delK; omega
    exact c1207 (n := n) T (r.less (by omega)) S₀ hk hp hq ha he (small (by omega)) (small ld') fun s' S' => h _ _ ⟨⟨dx, dd, tm, dt, rt, ld, t, u, tl, xs, _, ev, kv, nx, pv, ns, rfl, ag.touch nd hv, keys_touch ek, ok.touch (List.mem_map.mpr ⟨_, ha, rfl⟩) hr⟩, nd', by show (dropS st k ++ [(k, v)]).length ≤ pl; omega, hpl⟩
      (by show St B fs (ttlC w knd B x dx dd tm dt rt ld ((dropS st k ++ [(k, v)]).length : Nat) pl t u tl 0 xs _ ev kv nx pv ns l) s'; rw [e]; exact S')
  | tlru =>
    obtain ⟨dx, dd, tm, dt, it, od, t, u, xs, is_, os, ev, kv, rv, ns, rfl, ag, ek, ok⟩ := rep
    obtain ⟨kv', hp⟩ := ag.yes hv
    obtain ⟨⟨lv, p2⟩, hq⟩ := has_key ek hv
    obtain ⟨a, d, te, rfl, ha, he⟩ := ok.link hq
    have lo := len_keys ek
    have ld' : (delK is_ k).length ≤ 101 := by have := List.length_filter_le (fun x : K × Value × Value => !decide (x.1 = k)) is_; unfold delK; omega
    exact c1426 (n := n) T (r.less (by omega)) S₀ hk hp hq ha he (small (by omega)) (small ld') fun s' S' => h _ _ ⟨⟨dx, dd, tm, dt, it, od, t, u, xs, _, os, ev, kv, rv, ns, rfl, ag.touch nd hv, keys_touch ek, ⟨ok.hnd, ok.hev, ok.hos, ok.hlen, fun e he => by
        rcases mem_put he with q | q
        · exact ⟨a, q, List.mem_map.mpr ⟨_, ha, rfl⟩⟩
        · exact ok.hlk e (mem_del q)⟩⟩, nd', by show (dropS st k ++ [(k, v)]).length ≤ pl; omega, hpl⟩
      (by show St B fs (tlruC w knd B x dx dd tm dt it od ((dropS st k ++ [(k, v)]).length : Nat) pl t u 0 xs _ os ev kv rv ns l) s'; rw [e]; exact S')
/-- «len(cache)» -/
theorem opLen (C : Cach w B knd kd x pl cnt st c) (hc : cnt < 800) (T : Stat (KK w) B.heap) (r : Room (n + 20) fs A) (S₀ : St B fs (c ++ l) s)
    (h : ∀ s' c' t, Cach w B knd kd x pl cnt st c' → St B fs (c' ++ l) s' → R (.ok (.ret (.int st.length t))) s') : codeAny (model pw w) A (.call (.ref (lenF kd)) ⟨[.ref x], []⟩) R s := by
  have C0 := C
  obtain ⟨rep, nd, hlen, hpl⟩ := C
  cases kd with
  | fifo =>
    obtain ⟨dx, dd, od, t, u, xs, os, rfl, ag, ek⟩ := rep
    have := ag.len
    exact c805 (n := n) c917 T (r.less (by omega)) S₀ (small (by omega)) fun s' t' S' => by rw [ag.len]; exact h _ _ _ C0 S'
  | lru =>
    obtain ⟨dx, dd, od, t, u, xs, os, rfl, ag, ek⟩ := rep
    have := ag.len
    exact c805 (n := n) c982 T (r.less (by omega)) S₀ (small (by omega)) fun s' t' S' => by rw [ag.len]; exact h _ _ _ C0 S'
  | ttl =>
    obtain ⟨dx, dd, tm, dt, rt, ld, t, u, tl, xs, ls, ev, kv, nx, pv, ns, rfl, ag, ek, ok⟩ := rep
    have := ag.len
    obtain ⟨dr, da, h1, h2, h3⟩ := ok.first
    exact c1072_ttl (n := n) T (r.less (by omega)) S₀ (by omega) h1 h2 h3 (small (by omega)) fun s' t' S' => by rw [ag.len]; exact h _ _ _ C0 S'
  | tlru =>
    obtain ⟨dx, dd, tm, dt, it, od, t, u, xs, is_, os, ev, kv, rv, ns, rfl, ag, ek, ok⟩ := rep
    have := ag.len
    have := len_keys ek
    have := ok.hlen
    exact c1072_tlru (n := n) T (r.less (by omega)) S₀ (by omega) ok.hos ok.hev (by omega) (small (by omega)) (by omega) fun od' os' s' t' hsh S' => by
      rw [ag.len]
      have := hsh.length
      exact h _ _ _ ⟨⟨dx, dd, tm, dt, it, od', t, u, xs, is_, os', ev, kv, rv, ns, rfl, ag, ek, ⟨ok.hnd, ok.hev, fun a ha => ok.hos a (hsh.mem ha), by omega, ok.hlk⟩⟩, nd, hlen, hpl⟩ S'
end

end
-- IF4
section
set_option maxRecDepth 100000
set_option maxHeartbeats 800000
section
variable {w : World} {A : Around} {E : Value → Shared → Prop} {B : Shared} {fs : List Env} {l c : Cells} {s : Shared} {R : Result → Shared → Prop} {n : Nat} {K : Type} [DecidableEq K] {knd : AnyKind pw w K} {kd : Kind}
  {x : Addr} {pl cnt : Nat} {st st' : List (K × Value)} {key kv v : Value} {k : K}
theorem St.dictNd {d : Addr} {xs : List (K × Value × Value)} (S : St B fs l s) (m : (d, dictC knd B xs) ∈ l) : (xs.map (·.1)).Nodup := by
  obtain ⟨o, ho, es, ep, h1, h2, h3, h4, h5⟩ := S.has _ m
  exact h5
theorem roomS_room (h : st.length < pl) : roomS pl st = st := if_pos h
theorem roomS_full {k0 : K} {v0 : Value} (h : ((k0, v0) :: st').length = pl) : roomS pl ((k0, v0) :: st') = st' := if_neg (by omega)
theorem not_mem_tail {k0 : K} {v0 : Value} {st' : List (K × Value)} (h : vAt ((k0, v0) :: st') k = none) : k ∉ st'.map (·.1) := fun hm => vAt_eq_none.mp h (List.mem_cons_of_mem _ hm)
theorem TlruOk.insert {is_ : List (K × Value × Value)} {os os' os'' : List Addr} {ns : List (Addr × Addr)} {ev : Addr → Value} {rv : Addr → Bool} {kv : Value} {b d : Addr} {te : Tok} (ok : TlruOk is_ os ns ev cnt) (hb : b ∉ ns.map (·.1)) (hsh : Shed rv os' os) (p : os''.Perm (os' ++ [b])) :
    TlruOk (putK is_ k kv (.ref b)) os'' ((b, d) :: ns) (upd ev b (.int endV te)) (cnt + 1) where
  hnd := List.nodup_cons.mpr ⟨hb, ok.hnd⟩
  hev := fun a ha => by
    by_cases q : a = b
    · subst q; exact ⟨te, upd_same⟩
    · rw [upd_ne q]
      rcases List.mem_cons.mp ha with ha | ha
      · exact (q ha).elim
      · exact ok.hev a ha
  hos := fun a ha => by
    rcases List.mem_append.mp (p.mem_iff.mp ha) with ha | ha
    · exact List.mem_cons_of_mem _ (ok.hos a (hsh.mem ha))
    · rw [List.mem_singleton.mp ha]; exact List.mem_cons_self
  hlen := by have := p.length_eq; have := hsh.length; have := ok.hlen; rw [List.length_append, List.length_singleton] at *; omega
  hlk := fun e he => by
    rcases mem_put he with q | q
    · exact ⟨b, q, List.mem_cons_self⟩
    · obtain ⟨a, q1, q2⟩ := ok.hlk e q
      exact ⟨a, q1, List.mem_cons_of_mem _ q2⟩
theorem TlruOk.shed {is_ : List (K × Value × Value)} {os os' : List Addr} {ns : List (Addr × Addr)} {ev : Addr → Value} {rv : Addr → Bool} (ok : TlruOk is_ os ns ev cnt) (hsh : Shed rv os' os) : TlruOk (delK is_ k) os' ns ev cnt :=
  ⟨ok.hnd, ok.hev, fun a ha => ok.hos a (hsh.mem ha), by have := hsh.length; have := ok.hlen; omega, fun e he => ok.hlk e (mem_del he)⟩
/-- «cache[key] = value», a new key -/
theorem opSet (C : Cach w B knd kd x pl cnt st c) (hc : cnt < 800) (h0 : 0 < pl) (T : Stat (KK w) B.heap) (r : Room (n + 20) fs A) (S₀ : St B fs (c ++ l) s) (hk : knd.is B.heap k key) (hv : vAt st k = none)
    (h : ∀ s' c', Cach w B knd kd x pl (cnt + 1) (roomS pl st ++ [(k, v)]) c' → St B fs (c' ++ l) s' → R (.ok (.ret .none)) s') : codeAny (model pw w) A (.call (.ref (setF kd)) ⟨[.ref x, key, v], []⟩) R s := by
  obtain ⟨rep, nd, hlen, hpl⟩ := C
  have hnk := vAt_eq_none.mp hv
  by_cases hroom : st.length < pl
  · rw [roomS_room hroom] at h
    have nd' := nd_snoc (v := v) nd hnk
    have el : ((st ++ [(k, v)]).length : Int) = (st.length : Int) + 1 := by simp
    have el' : (st ++ [(k, v)]).length ≤ pl := by simp; omega
    cases kd with
    | fifo =>
      obtain ⟨dx, dd, od, t, u, xs, os, rfl, ag, ek⟩ := rep
      have := ag.len
      have := len_keys ek
      exact c892_new (n := n) T (r.less (by omega)) S₀ (small (by omega)) (small (by omega)) hk (ag.no hv) (no_key ek hv) (by omega) (by omega) fun s' t' S' =>
        h _ _ ⟨⟨dx, dd, od, t', u, _, _, rfl, ag.new hnk, keys_new ek hv⟩, nd', el', hpl⟩ (by show St B fs (fifoC w knd B x dx dd od ((st ++ [(k, v)]).length : Nat) pl t' u _ _ l) s'; rw [el]; exact S')
    | lru =>
      obtain ⟨dx, dd, od, t, u, xs, os, rfl, ag, ek⟩ := rep
      have := ag.len
      have := len_keys ek
      exact c950_new (n := n) T (r.less (by omega)) S₀ (small (by omega)) (small (by omega)) hk (ag.no hv) (no_key ek hv) (by omega) (by omega) fun s' t' S' =>
        h _ _ ⟨⟨dx, dd, od, t', u, _, _, rfl, ag.new hnk, keys_new ek hv⟩, nd', el', hpl⟩ (by show St B fs (lruC w knd B x dx dd od ((st ++ [(k, v)]).length : Nat) pl t' u _ _ l) s'; rw [el]; exact S')
    | ttl =>
      obtain ⟨dx, dd, tm, dt, rt, ld, t, u, tl, xs, ls, ev, kv, nx, pv, ns, rfl, ag, ek, ok⟩ := rep
      have := ag.len
      have := len_keys ek
      obtain ⟨dr, da, h1, h2, h3⟩ := ok.first
      obtain ⟨dp, h4⟩ := node_of (ok.hpv _ ok.hrt)
      exact c1215_new (n := n) T (n' := n + 3) (by omega) (r.less (by omega)) S₀ (by omega) ok.hnd hk (tsets_room T (small (by omega)) hk (ag.no hv) (by omega) (by omega)) (no_key ek hv) h1 h2 h4 h3 (small (by omega)) fun s' t' te a d hb S' =>
        h _ _ ⟨⟨dx, dd, tm, dt, rt, ld, t', u, tl, _, _, _, _, _, _, _, rfl, ag.new hnk, keys_new ek hv, ok.insert hb rfl⟩, nd', el', hpl⟩ (by show St B fs (ttlC w knd B x dx dd tm dt rt ld ((st ++ [(k, v)]).length : Nat) pl t' u tl 0 _ _ _ _ _ _ _ l) s'; rw [el]; exact S')
    | tlru =>
      obtain ⟨dx, dd, tm, dt, it, od, t, u, xs, is_, os, ev, kv, rv, ns, rfl, ag, ek, ok⟩ := rep
      have := ag.len
      have := len_keys ek
      have hlo := ok.hlen
      exact c1434_new (n := n) T (n' := n + 3) (by omega) (r.less (by omega)) S₀ (by omega) ok.hnd hk (usets_room T (small (by omega)) hk (ag.no hv) (by omega) (by omega)) (no_key ek hv) ok.hos (fun os' hsh => ⟨fun a ha => ok.hos a (hsh.mem ha), by have := hsh.length; omega⟩) ok.hev (by omega) (by omega) (by omega) fun s' t' te b d od' os' os'' hb hsh p S' =>
        h _ _ ⟨⟨dx, dd, tm, dt, it, od', t', u, _, _, os'', _, _, _, _, rfl, ag.new hnk, keys_new ek hv, ok.insert hb hsh p⟩, nd', el', hpl⟩ (by show St B fs (tlruC w knd B x dx dd tm dt it od' ((st ++ [(k, v)]).length : Nat) pl t' u 0 _ _ _ _ _ _ _ l) s'; rw [el]; exact S')
  · have hfull : st.length = pl := by omega
    obtain ⟨k0, v0, st', rfl⟩ : ∃ k0 v0 st', st = (k0, v0) :: st' := by
      cases st with
      | nil => simp at hfull; omega
      | cons y r => exact ⟨y.1, y.2, r, rfl⟩
    rw [roomS_full hfull] at h
    have hnt := not_mem_tail hv
    have nd' := nd_snoc (v := v) (nd_tail nd) hnt
    have el : ((st' ++ [(k, v)]).length : Int) = (((k0, v0) :: st').length : Int) - 1 + 1 := by simp only [List.length_append, List.length_singleton, List.length_cons, List.length_nil]; omega
    have el' : (st' ++ [(k, v)]).length ≤ pl := by simp only [List.length_append, List.length_singleton, List.length_cons, List.length_nil] at hfull ⊢; omega
    have e0 : vAt ((k0, v0) :: st') k0 = some v0 := vAt_head
    have hv' : vAt st' k = none := vAt_eq_none.mpr hnt
    cases kd with
    | fifo =>
      obtain ⟨dx, dd, od, t, u, xs, os, rfl, ag, ek⟩ := rep
      have := ag.len
      have := len_keys ek
      obtain ⟨kv0, hp0⟩ := ag.yes e0
      obtain ⟨kv1, ov, os', ho⟩ := head_of ek
      have ag' := ag.head (St.dictNd (knd := knd) (xs := xs) (d := dd) S₀ (.tail _ (.tail _ (.head _)))) nd
      have ek' := keys_del_head ek nd
      have l1 := ag'.len
      have l2 := len_keys ek'
      simp only [List.length_cons] at *
      exact c892_full (n := n) T (r.less (by omega)) S₀ (small (by omega)) (small (by omega)) ho hp0 (small (by omega)) (small (by omega)) hk (ag.no hv) (no_key ek' hv') (by omega) (by omega) fun s' t' S' =>
        h _ _ ⟨⟨dx, dd, od, t', u, _, _, rfl, ag'.new hnt, keys_new ek' hv'⟩, nd', el', hpl⟩ (by show St B fs (fifoC w knd B x dx dd od ((st' ++ [(k, v)]).length : Nat) pl t' u _ _ l) s'; rw [el]; exact S')
    | lru =>
      obtain ⟨dx, dd, od, t, u, xs, os, rfl, ag, ek⟩ := rep
      have := ag.len
      have := len_keys ek
      obtain ⟨kv0, hp0⟩ := ag.yes e0
      obtain ⟨kv1, ov, os', ho⟩ := head_of ek
      have ag' := ag.head (St.dictNd (knd := knd) (xs := xs) (d := dd) S₀ (.tail _ (.tail _ (.head _)))) nd
      have ek' := keys_del_head ek nd
      have l1 := ag'.len
      have l2 := len_keys ek'
      simp only [List.length_cons] at *
      exact c950_full (n := n) T (r.less (by omega)) S₀ (small (by omega)) (small (by omega)) ho hp0 (small (by omega)) (small (by omega)) hk (ag.no hv) (no_key ek' hv') (by omega) (by omega) fun s' t' S' =>
        h _ _ ⟨⟨dx, dd, od, t', u, _, _, rfl, ag'.new hnt, keys_new ek' hv'⟩, nd', el', hpl⟩ (by show St B fs (lruC w knd B x dx dd od ((st' ++ [(k, v)]).length : Nat) pl t' u _ _ l) s'; rw [el]; exact S')
    | ttl =>
      obtain ⟨dx, dd, tm, dt, rt, ld, t, u, tl, xs, ls, ev, kv, nx, pv, ns, rfl, ag, ek, ok⟩ := rep
      have := ag.len
      have := len_keys ek
      obtain ⟨dr, da, h1, h2, h3⟩ := ok.first
      obtain ⟨kv0, hp0⟩ := ag.yes e0
      obtain ⟨kv1, ov, ls', ho⟩ := head_of ek
      have hq0 : atK ls k0 = some (kv1, ov) := by rw [ho]; simp [atK]
      obtain ⟨a, d, dn, dpa, te, rfl, ha, hn, hpa, he, hra⟩ := ok.link hq0
      have ok' := ok.unlink (k := k0) (List.mem_map.mpr ⟨_, ha, rfl⟩)
      obtain ⟨dp, h4⟩ := node_of (ok'.hpv _ ok'.hrt)
      have ag' := ag.head (St.dictNd (knd := knd) (xs := xs) (d := dd) S₀ (.tail _ (.tail _ (.head _)))) nd
      have ek' := keys_del_head ek nd
      have l1 := ag'.len
      have l2 := len_keys ek'
      simp only [List.length_cons] at *
      exact c1215_new (n := n + 4) T (n' := n + 9) (by omega) (r.less (by omega)) S₀ (by omega) ok.hnd hk (tsets_full (n := n) (d := d) T (by omega) ok.hnd ho hp0 ha hn hpa he h1 h2 h3 (small (by omega)) (small (by omega)) (small (by omega)) hk (ag.no hv) (by omega) (by omega)) (no_key ek' hv') h1 h2 h4 h3 (small (by omega)) fun s' t' te b d hb S' =>
        h _ _ ⟨⟨dx, dd, tm, dt, rt, ld, t', u, tl, _, _, _, _, _, _, _, rfl, ag'.new hnt, keys_new ek' hv', ok'.insert hb rfl⟩, nd', el', hpl⟩ (by show St B fs (ttlC w knd B x dx dd tm dt rt ld ((st' ++ [(k, v)]).length : Nat) pl t' u tl 0 _ _ _ _ _ _ _ l) s'; rw [el]; exact S')
    | tlru =>
      obtain ⟨dx, dd, tm, dt, it, od, t, u, xs, is_, os, ev, kv, rv, ns, rfl, ag, ek, ok⟩ := rep
      have := ag.len
      have := len_keys ek
      have hlo := ok.hlen
      obtain ⟨kv0, hp0⟩ := ag.yes e0
      obtain ⟨kv1, ov, is', ho⟩ := head_of ek
      have hq0 : atK is_ k0 = some (kv1, ov) := by rw [ho]; simp [atK]
      obtain ⟨a, d, te, rfl, ha, he⟩ := ok.link hq0
      have ag' := ag.head (St.dictNd (knd := knd) (xs := xs) (d := dd) S₀ (.tail _ (.tail _ (.head _)))) nd
      have ek' := keys_del_head ek nd
      have l1 := ag'.len
      have l2 := len_keys ek'
      simp only [List.length_cons] at *
      exact c1434_new (n := n + 1) T (n' := n + 12) (by omega) (r.less (by omega)) S₀ (by omega) ok.hnd hk (usets_full (n := n) (d := d) T (by omega) ok.hnd ho hp0 ha ok.hos ok.hev (by omega) (small (by omega)) (by omega) (small (by omega)) hk (ag.no hv) (by omega) (by omega)) (no_key ek' hv') ok.hos (fun os' hsh => ⟨fun a ha => ok.hos a (hsh.mem ha), by have := hsh.length; omega⟩) ok.hev (by omega) (by omega) (by omega) fun s' t' te b d od' os' os'' hb hsh p S' =>
        h _ _ ⟨⟨dx, dd, tm, dt, it, od', t', u, _, _, os'', _, _, _, _, rfl, ag'.new hnt, keys_new ek' hv', (ok.shed hsh).insert hb (Shed.refl (rv := rv)) p⟩, nd', el', hpl⟩ (by show St B fs (tlruC w knd B x dx dd tm dt it od' ((st' ++ [(k, v)]).length : Nat) pl t' u 0 _ _ _ _ _ _ _ l) s'; rw [el]; exact S')
end

end
-- IF5
section
set_option maxRecDepth 100000
set_option maxHeartbeats 800000
section
variable {w : World} {A : Around} {E : Value → Shared → Prop} {B : Shared} {fs : List Env} {l c : Cells} {s : Shared} {R : Result → Shared → Prop} {n : Nat} {K : Type} [DecidableEq K] {knd : AnyKind pw w K} {kd : Kind}
  {x : Addr} {pl cnt : Nat} {st st' : List (K × Value)} {key kv v : Value} {k : K}
abbrev pairC (a b : Value) : Cell := objC { cls := .type "tuple", data := .seq #[a, b] }
/-- «cache.popitem()» of a cache that is not empty -/
theorem opPop {k0 : K} {v0 : Value} (C : Cach w B knd kd x pl cnt ((k0, v0) :: st') c) (hc : cnt < 800) (T : Stat (KK w) B.heap) (r : Room (n + 20) fs A) (S₀ : St B fs (c ++ l) s)
    (h : ∀ b kv s' c', knd.is B.heap k0 kv → Cach w B knd kd x pl cnt st' c' → St B fs ((b, pairC kv v0) :: (c' ++ l)) s' → R (.ok (.ret (.ref b))) s') : codeAny (model pw w) A (.call (.ref (popF kd)) ⟨[.ref x], []⟩) R s := by
  obtain ⟨rep, nd, hlen, hpl⟩ := C
  have nd' := nd_tail nd
  have e0 : vAt ((k0, v0) :: st') k0 = some v0 := vAt_head
  have el : (st'.length : Int) = (((k0, v0) :: st').length : Int) - 1 := by simp only [List.length_cons]; omega
  have el' : st'.length ≤ pl := by simp only [List.length_cons] at hlen; omega
  cases kd with
  | fifo =>
    obtain ⟨dx, dd, od, t, u, xs, os, rfl, ag, ek⟩ := rep
    have := ag.len
    have := len_keys ek
    obtain ⟨kv0, hp0⟩ := ag.yes e0
    obtain ⟨kv1, ov, os', ho⟩ := head_of ek
    have ag' := ag.head (St.dictNd (knd := knd) (xs := xs) (d := dd) S₀ (.tail _ (.tail _ (.head _)))) nd
    have hkey : knd.is B.heap k0 kv1 := S₀.keys (d := od) (.tail _ (.tail _ (.tail _ (.head _)))) (k0, kv1, ov) (by rw [ho]; exact List.mem_cons_self)
    exact c907 (n := n) T (r.less (by omega)) S₀ (small (by omega)) (small (by omega)) ho hp0 fun b s' t' S' => h b kv1 _ _ hkey ⟨⟨dx, dd, od, t', u, _, _, rfl, ag', keys_del_head ek nd⟩, nd', el', hpl⟩
      (by show St B fs ((b, _) :: fifoC w knd B x dx dd od (st'.length : Nat) pl t' u _ _ l) s'; rw [el]; exact S')
  | lru =>
    obtain ⟨dx, dd, od, t, u, xs, os, rfl, ag, ek⟩ := rep
    have := ag.len
    have := len_keys ek
    obtain ⟨kv0, hp0⟩ := ag.yes e0
    obtain ⟨kv1, ov, os', ho⟩ := head_of ek
    have ag' := ag.head (St.dictNd (knd := knd) (xs := xs) (d := dd) S₀ (.tail _ (.tail _ (.head _)))) nd
    have hkey : knd.is B.heap k0 kv1 := S₀.keys (d := od) (.tail _ (.tail _ (.tail _ (.head _)))) (k0, kv1, ov) (by rw [ho]; exact List.mem_cons_self)
    exact c965 (n := n) T (r.less (by omega)) S₀ (small (by omega)) (small (by omega)) ho hp0 fun b s' t' S' => h b kv1 _ _ hkey ⟨⟨dx, dd, od, t', u, _, _, rfl, ag', keys_del_head ek nd⟩, nd', el', hpl⟩
      (by show St B fs ((b, _) :: lruC w knd B x dx dd od (st'.length : Nat) pl t' u _ _ l) s'; rw [el]; exact S')
  | ttl =>
    obtain ⟨dx, dd, tm, dt, rt, ld, t, u, tl, xs, ls, ev, kv, nx, pv, ns, rfl, ag, ek, ok⟩ := rep
    have := ag.len
    have := len_keys ek
    obtain ⟨dr, da, h1, h2, h3⟩ := ok.first
    obtain ⟨kv0, hp0⟩ := ag.yes e0
    obtain ⟨kv1, ov, ls', ho⟩ := head_of ek
    have hq0 : atK ls k0 = some (kv1, ov) := by rw [ho]; simp [atK]
    obtain ⟨a, d, dn, dpa, te, rfl, ha, hn, hpa, he, hra⟩ := ok.link hq0
    have ag' := ag.head (St.dictNd (knd := knd) (xs := xs) (d := dd) S₀ (.tail _ (.tail _ (.head _)))) nd
    have hkey : knd.is B.heap k0 kv1 := S₀.keys (d := ld) (.tail _ (.tail _ (.tail _ (.tail _ (.tail _ (.head _)))))) (k0, kv1, .ref a) (by rw [ho]; exact List.mem_cons_self)
    exact c1260 (n := n) (d := d) T (r.less (by omega)) S₀ (by omega) ok.hnd ho hp0 ha hn hpa he h1 h2 h3 (small (by omega)) (small (by omega)) fun b s' t' S' =>
      h b kv1 _ _ hkey ⟨⟨dx, dd, tm, dt, rt, ld, t', u, tl, _, _, _, _, _, _, _, rfl, ag', keys_del_head ek nd, ok.unlink (List.mem_map.mpr ⟨_, ha, rfl⟩)⟩, nd', el', hpl⟩
      (by show St B fs ((b, _) :: ttlC w knd B x dx dd tm dt rt ld (st'.length : Nat) pl t' u tl 0 _ _ _ _ _ _ _ l) s'; rw [el]; exact S')
  | tlru =>
    obtain ⟨dx, dd, tm, dt, it, od, t, u, xs, is_, os, ev, kv, rv, ns, rfl, ag, ek, ok⟩ := rep
    have := ag.len
    have := len_keys ek
    have hlo := ok.hlen
    obtain ⟨kv0, hp0⟩ := ag.yes e0
    obtain ⟨kv1, ov, is', ho⟩ := head_of ek
    have hq0 : atK is_ k0 = some (kv1, ov) := by rw [ho]; simp [atK]
    obtain ⟨a, d, te, rfl, ha, he⟩ := ok.link hq0
    have ag' := ag.head (St.dictNd (knd := knd) (xs := xs) (d := dd) S₀ (.tail _ (.tail _ (.head _)))) nd
    have hkey : knd.is B.heap k0 kv1 := S₀.keys (d := it) (.tail _ (.tail _ (.tail _ (.tail _ (.tail _ (.head _)))))) (k0, kv1, .ref a) (by rw [ho]; exact List.mem_cons_self)
    exact c1470 (n := n) (d := d) T (r.less (by omega)) S₀ (by omega) ok.hnd ho hp0 ha ok.hos ok.hev (by omega) (small (by omega)) (by omega) fun b od' os' s' t' hsh S' =>
      h b kv1 _ _ hkey ⟨⟨dx, dd, tm, dt, it, od', t', u, _, _, os', _, _, _, _, rfl, ag', keys_del_head ek nd, ok.shed hsh⟩, nd', el', hpl⟩
      (by show St B fs ((b, _) :: tlruC w knd B x dx dd tm dt it od' (st'.length : Nat) pl t' u 0 _ _ _ _ _ _ _ l) s'; rw [el]; exact S')
/-- a new cache -/
def newArgs (pl : Nat) (u tl : Tok) : Kind → List Value
  | .fifo => [.int pl u] | .lru => [.int pl u] | .ttl => [.int pl u, .int lifeV tl, .ref aClock] | .tlru => [.int pl u, .ref aEnd, .ref aClock]
theorem agree_nil : Agree ([] : List (K × Value × Value)) [] := ⟨rfl, fun _ => rfl⟩
theorem opNew (knd : AnyKind pw w K) {u tl : Tok} (hpl : pl ≤ 100) (T : Stat (KK w) B.heap) (r : Room (n + 20) fs A) (S₀ : St B fs l s)
    (h : ∀ x c s', Cach w B knd kd x pl 0 [] c → St B fs (c ++ l) s' → R (.ok (.ret (.ref x))) s') : codeAny (model pw w) A (.call (.ref (clsOf kd)) ⟨newArgs pl u tl kd, []⟩) R s := by
  have r' : ∀ {C : Addr} {rest : List Value}, Room (n + 19) fs (A.under (.builtin "type.__call__" ⟨.ref C :: rest, []⟩)) := r.make
  cases kd with
  | fifo =>
    refine makeS (fun d => instC 917 d) T S₀ (by kernel_rfl) (fI := 884) (by kernel_rfl) (by kernel_rfl) (fun _ => ⟨rfl, rfl, rfl⟩) fun x dx s' S' => ?_
    exact c884 (n := n) knd T (r'.less (by omega)) S' (by omega) fun dd od s' t S' => ⟨rfl, h x _ _ ⟨⟨dx, dd, od, t, _, _, _, rfl, agree_nil, rfl⟩, List.nodup_nil, Nat.zero_le _, hpl⟩ S'⟩
  | lru =>
    refine makeS (fun d => instC 982 d) T S₀ (by kernel_rfl) (fI := 934) (by kernel_rfl) (by kernel_rfl) (fun _ => ⟨rfl, rfl, rfl⟩) fun x dx s' S' => ?_
    exact c934 (n := n) knd T (r'.less (by omega)) S' (by omega) fun dd od s' t S' => ⟨rfl, h x _ _ ⟨⟨dx, dd, od, t, _, _, _, rfl, agree_nil, rfl⟩, List.nodup_nil, Nat.zero_le _, hpl⟩ S'⟩
  | ttl =>
    refine makeS (fun d => instC 1270 d) T S₀ (by kernel_rfl) (fI := 1192) (by kernel_rfl) (by kernel_rfl) (fun _ => ⟨rfl, rfl, rfl⟩) fun x dx s' S' => ?_
    exact c1192 (n := n) knd T (r'.less (by omega)) S' (by omega) fun dd tm dt rt ld dr s' t S' => ⟨rfl, h x _ _ ⟨⟨dx, dd, tm, dt, rt, ld, t, _, _, _, _, _, _, _, _, [(rt, dr)], rfl, agree_nil, rfl,
      ⟨by simp, by simp, fun a _ => by simp, fun a _ => by simp, fun a ha hr => by simp at ha; exact (hr ha).elim, fun e he => (by cases he)⟩⟩, List.nodup_nil, Nat.zero_le _, hpl⟩ S'⟩
  | tlru =>
    refine makeS (fun d => instC 1488 d) T S₀ (by kernel_rfl) (fI := 1411) (by kernel_rfl) (by kernel_rfl) (fun _ => ⟨rfl, rfl, rfl⟩) fun x dx s' S' => ?_
    exact c1411 (n := n) knd T (r'.less (by omega)) S' (by omega) fun dd tm dt it od s' t S' => ⟨rfl, h x _ _ ⟨⟨dx, dd, tm, dt, it, od, t, _, _, _, [], _, _, _, [], rfl, agree_nil, rfl,
      ⟨by simp, fun a ha => (by cases ha), fun a ha => (by cases ha), Nat.le_refl _, fun e he => (by cases he)⟩⟩, List.nodup_nil, Nat.zero_le _, hpl⟩ S'⟩
end

end
-- N5
section
set_option maxRecDepth 100000
/-- the base has grown -/
structure Ext (B B' : Shared) : Prop where
  heap : B.heap.StaysIn B'.heap
  gens : B'.gens = B.gens
  drawn : B'.drawn = B.drawn
  os : B'.os = B.os
theorem Ext.refl (B : Shared) : Ext B B := ⟨fun _ _ h => h, rfl, rfl, rfl⟩
theorem Ext.trans {B B' B'' : Shared} (x : Ext B B') (y : Ext B' B'') : Ext B B'' := ⟨fun b o h => y.heap b o (x.heap b o h), y.gens.trans x.gens, y.drawn.trans x.drawn, y.os.trans x.os⟩
inductive Weak : Cells → Cells → Prop
  | nil : Weak [] []
  | cons {a : Addr} {c c' : Cell} {l l' : Cells} : (∀ o, c o → c' o) → (∀ o, c o → Soft c → Soft c') → Weak l l' → Weak ((a, c) :: l) ((a, c') :: l')
theorem Weak.refl : ∀ l : Cells, Weak l l
  | [] => .nil
  | (_, _) :: l => .cons (fun _ h => h) (fun _ _ h => h) (Weak.refl l)
theorem Weak.keep {x : Addr × Cell} {l l' : Cells} (h : Weak l l') : Weak (x :: l) (x :: l') := .cons (fun _ h => h) (fun _ _ h => h) h
theorem Weak.app {l l' m m' : Cells} (h : Weak l l') (h' : Weak m m') : Weak (l ++ m) (l' ++ m') := by
  induction h with
  | nil => exact h'
  | cons h1 h2 _ ih => exact .cons h1 h2 ih
theorem Weak.keys {l l' : Cells} (h : Weak l l') : l'.map (·.1) = l.map (·.1) := by
  induction h with
  | nil => rfl
  | cons _ _ _ ih => simp [ih]
theorem Weak.back {l l' : Cells} (h : Weak l l') : ∀ x ∈ l', ∃ c, (x.1, c) ∈ l ∧ (∀ o, c o → x.2 o) ∧ ∀ o, c o → Soft c → Soft x.2 := by
  induction h with
  | nil => intro x hx; cases hx
  | cons h1 h2 _ ih =>
    intro x hx
    rcases List.mem_cons.mp hx with rfl | hx
    · exact ⟨_, .head _, h1, h2⟩
    · obtain ⟨c, hc, r⟩ := ih x hx
      exact ⟨c, .tail _ hc, r⟩
section
variable {B B' : Shared} {fs : List Env} {l l' X : Cells} {s : Shared}
theorem St.weak (S : St B fs l s) (h : Weak l l') : St B fs l' s := by
  have hk := h.keys
  refine ⟨S.base, fun x hx => ?_, hk ▸ S.nd, fun x hx => ?_, S.frames, S.gens, S.drawn, S.os, S.low, fun x hx => ?_, fun x hx hm => ?_⟩
  all_goals obtain ⟨c, hc, h1, h2⟩ := h.back x hx
  · obtain ⟨o, ho, hco⟩ := S.has _ hc
    exact ⟨o, ho, h1 o hco⟩
  · exact S.fresh (x.1, c) hc
  · exact S.big (x.1, c) hc
  · obtain ⟨o, ho, hco⟩ := S.has _ hc
    exact h2 o hco (S.soft (x.1, c) hc hm)
/-- fixed cells join the base -/
theorem St.join (S : St B fs (X ++ l) s) (hf : ∀ b ∈ fs.filterMap (·.frame), b ∈ l.map (·.1)) : ∃ B', Ext B B' ∧ (∀ x ∈ X, ∃ o, B'.heap.get? x.1 = some o ∧ x.2 o) ∧ St B' fs l s := by
  have nd := S.nd
  rw [List.map_append, List.nodup_append] at nd
  have Sl : St B fs l s := S.sub (List.sublist_append_right _ _)
  have out : ∀ b o, B.heap.get? b = some o → b ∉ l.map (·.1) := fun b o hb hm => by
    obtain ⟨x, hx, rfl⟩ := List.mem_map.mp hm
    rw [Sl.fresh x hx] at hb; cases hb
  refine ⟨{ B with heap := hideAll s.heap (l.map (·.1)) }, ⟨fun b o hb => hideAll_get _ (S.base b o hb) (out b o hb), rfl, rfl, rfl⟩, fun x hx => ?_, Sl.rebase ?_ (fun b o hb => of_hideAll _ hb) (fun x hx => hideAll_none _ (List.mem_map_of_mem hx)) fun b hb => hideAll_none _ (hf b hb)⟩
  · obtain ⟨o, ho, hc⟩ := S.has x (List.mem_append_left _ hx)
    exact ⟨o, hideAll_get _ ho fun hm => nd.2.2 _ (List.mem_map_of_mem hx) _ hm rfl, hc⟩
  · obtain ⟨o, ho⟩ := S.low
    exact ⟨o, hideAll_get _ (S.base _ o ho) (out _ o ho)⟩
theorem St.back_to {B₀ : Shared} (S : St B fs l s) (x : Ext B₀ B) (hlow : ∃ o, B₀.heap.get? mainGlobals = some o) : St B₀ fs l s := S.unbase x.heap x.gens.symm x.drawn.symm x.os.symm hlow
end
section
variable {prog : Program} {w : World} {B B' : Shared} {K : Type} [DecidableEq K]
theorem Weak.dict {knd : AnyKind prog w K} {a : Addr} {xs : List (K × Value × Value)} {l l' : Cells} (hB : B.heap.StaysIn B'.heap) (h : Weak l l') : Weak ((a, dictC knd B xs) :: l) ((a, dictC knd B' xs) :: l') :=
  .cons (fun o ⟨es, ep, h1, h2, h3, h4, h5⟩ => ⟨es, ep, h1, h2, h3, fun x hx => knd.grows (h4 x hx) hB, h5⟩) (fun o h q => (notSoft_dictC o h q).elim) h
theorem Cach.rebase {w : World} {knd : AnyKind pw w K} {kd : Kind} {x : Addr} {pl cnt : Nat} {st : List (K × Value)} {c : Cells} (C : Cach w B knd kd x pl cnt st c) (hB : B.heap.StaysIn B'.heap) : ∃ c', Weak c c' ∧ Cach w B' knd kd x pl cnt st c' := by
  obtain ⟨rep, nd, hlen, hpl⟩ := C
  cases kd with
  | fifo =>
    obtain ⟨dx, dd, od, t, u, xs, os, rfl, r⟩ := rep
    exact ⟨_, .keep (.keep (.dict hB (.dict hB .nil))), ⟨⟨dx, dd, od, t, u, xs, os, rfl, r⟩, nd, hlen, hpl⟩⟩
  | lru =>
    obtain ⟨dx, dd, od, t, u, xs, os, rfl, r⟩ := rep
    exact ⟨_, .keep (.keep (.dict hB (.dict hB .nil))), ⟨⟨dx, dd, od, t, u, xs, os, rfl, r⟩, nd, hlen, hpl⟩⟩
  | ttl =>
    obtain ⟨dx, dd, tm, dt, rt, ld, t, u, tl, xs, ls, ev, kv, nx, pv, ns, rfl, r⟩ := rep
    exact ⟨_, .keep (.keep (.dict hB (.keep (.keep (.dict hB (.refl _)))))), ⟨⟨dx, dd, tm, dt, rt, ld, t, u, tl, xs, ls, ev, kv, nx, pv, ns, rfl, r⟩, nd, hlen, hpl⟩⟩
  | tlru =>
    obtain ⟨dx, dd, tm, dt, it, od, t, u, xs, is_, os, ev, kv, rv, ns, rfl, r⟩ := rep
    exact ⟨_, .keep (.keep (.dict hB (.keep (.keep (.dict hB (.refl _)))))), ⟨⟨dx, dd, tm, dt, it, od, t, u, xs, is_, os, ev, kv, rv, ns, rfl, r⟩, nd, hlen, hpl⟩⟩
end

end
-- KY
section
open PySem.SeqAt
/-- ints and texts -/
abbrev Atom := Int ⊕ Str
def Atom.is : Atom → Value → Bool
  | .inl i, v => Value.isInt i v
  | .inr x, v => Value.isStrOf x v
theorem Atom.shape {a : Atom} {v : Value} (h : Atom.is a v = true) : (∃ i t, a = .inl i ∧ v = .int i t) ∨ ∃ x t, a = .inr x ∧ v = .str x t := by
  cases a with
  | inl i => obtain ⟨t, rfl⟩ := Value.isInt_shape h; exact .inl ⟨i, t, rfl, rfl⟩
  | inr x => obtain ⟨t, rfl⟩ := Value.isStrOf_shape h; exact .inr ⟨x, t, rfl, rfl⟩
def atomKind (prog : Program) (w : World) : KeyKind prog w Atom where
  is := Atom.is
  hash := fun | .inl i => hashInt i | .inr x => hashStr w x
  inj := fun v a b ha hb => by
    rcases Atom.shape ha with ⟨i, t, rfl, rfl⟩ | ⟨x, t, rfl, rfl⟩
    · rcases Atom.shape hb with ⟨j, u, rfl, e⟩ | ⟨y, u, rfl, e⟩
      · cases e; rfl
      · cases e
    · rcases Atom.shape hb with ⟨j, u, rfl, e⟩ | ⟨y, u, rfl, e⟩
      · cases e
      · cases e; rfl
  byValue := fun k v h => by
    rcases Atom.shape h with ⟨i, t, rfl, rfl⟩ | ⟨x, t, rfl, rfl⟩ <;> rfl
  pyHash := fun hv h => by
    rcases Atom.shape hv with ⟨i, t, rfl, rfl⟩ | ⟨x, t, rfl, rfl⟩
    · exact wpAny_pyHash_int h
    · exact wpAny_pyHash_str h
  eqBool := fun hu hv h => by
    rcases Atom.shape hu with ⟨i, t, rfl, rfl⟩ | ⟨x, t, rfl, rfl⟩
    · rcases Atom.shape hv with ⟨j, u, rfl, rfl⟩ | ⟨y, u, rfl, rfl⟩
      · refine wpAny_eqBool_int ?_
        rwa [show (i == j) = decide ((Sum.inl i : Atom) = Sum.inl j) by rw [Bool.eq_iff_iff]; simp]
      · exact EqAt.int_str i t y u _ _ _ _ (by simpa using h)
    · rcases Atom.shape hv with ⟨j, u, rfl, rfl⟩ | ⟨y, u, rfl, rfl⟩
      · exact EqAt.str_int x t j u _ _ _ _ (by simpa using h)
      · refine wpAny_eqBool_str ?_
        rwa [show decide (x = y) = decide ((Sum.inr x : Atom) = Sum.inr y) by rw [Bool.eq_iff_iff]; simp]
  «strs» := fun k x t v h => by
    rcases Atom.shape h with ⟨i, u, rfl, e⟩ | ⟨y, u, rfl, e⟩
    · cases e
    · cases e; cases v <;> rfl

/-- ints, texts, and tuples of them -/
abbrev Key := Atom ⊕ List Atom
def keyIs (prog : Program) (w : World) (h : Heap) : Key → Value → Prop
  | .inl a, v => Atom.is a v = true
  | .inr l, v => ∃ a, v = .ref a ∧ IsTupleKey (atomKind prog w) h l a
theorem isTuple_of {prog : Program} {w : World} {h : Heap} {l : List Atom} {a : Addr} (x : IsTupleKey (atomKind prog w) h l a) : ∃ items, h.IsTuple a items := by
  obtain ⟨o, items, n, h1, h2, h3, _⟩ := x
  exact ⟨items, o, h1, h2, n, h3⟩
def keyKind (prog : Program) (w : World) : AnyKind prog w Key where
  is := keyIs prog w
  hash := fun | .inl a => (atomKind prog w).hash a | .inr l => tupleKeyHash (atomKind prog w) l
  draws := fun | .inl _ => 1 | .inr l => l.length + 1
  inj := fun {h v x y} hx hy => by
    cases x with
    | inl a =>
      cases y with
      | inl b => rw [(atomKind prog w).inj v a b hx hy]
      | inr l => obtain ⟨p, rfl, _⟩ := hy; rcases Atom.shape hx with ⟨_, _, _, e⟩ | ⟨_, _, _, e⟩ <;> cases e
    | inr m =>
      obtain ⟨p, rfl, hm⟩ := hx
      cases y with
      | inl b => rcases Atom.shape hy with ⟨_, _, _, e⟩ | ⟨_, _, _, e⟩ <;> cases e
      | inr l => obtain ⟨q, e, hl⟩ := hy; cases e; rw [hm.inj hl]
  keeps := fun {h h' k v d o es ep} hx ho hd hs => by
    cases k with
    | inl a => exact hx
    | inr m => obtain ⟨p, rfl, hm⟩ := hx; exact ⟨p, rfl, hm.keeps ho hd hs⟩
  grows := fun {h h' k v} hx hs => by
    cases k with
    | inl a => exact hx
    | inr m => obtain ⟨p, rfl, o, items, n, h1, h2, h3, h4⟩ := hx; exact ⟨p, rfl, o, items, n, hs _ _ h1, h2, h3, h4⟩
  pyHash := fun {A E s k v Q} hu hx h => by
    cases k with
    | inl a => exact (atomKind prog w).pyHash hx h
    | inr m => obtain ⟨p, rfl, hm⟩ := hx; exact wpAny_pyHash_tuple hu hm h
  eqBool := fun {A E s x y u v Q} hu hx hy h => by
    cases x with
    | inl a =>
      cases y with
      | inl b => exact (atomKind prog w).eqBool hx hy (by rwa [show decide (a = b) = decide ((Sum.inl a : Key) = Sum.inl b) by rw [Bool.eq_iff_iff]; simp])
      | inr l =>
        obtain ⟨p, rfl, hl⟩ := hy
        obtain ⟨_, ht⟩ := isTuple_of hl
        rcases Atom.shape hx with ⟨_, _, _, rfl⟩ | ⟨_, _, _, rfl⟩
        · exact EqAt.int_tuple _ _ ht hu _ _ _ _ (by simpa using h)
        · exact EqAt.str_tuple _ _ ht hu _ _ _ _ (by simpa using h)
    | inr m =>
      obtain ⟨p, rfl, hm⟩ := hx
      cases y with
      | inl b =>
        obtain ⟨_, ht⟩ := isTuple_of hm
        rcases Atom.shape hy with ⟨_, _, _, rfl⟩ | ⟨_, _, _, rfl⟩
        · exact EqAt.tuple_int _ _ ht hu _ _ _ _ (by simpa using h)
        · exact EqAt.tuple_str _ _ ht hu _ _ _ _ (by simpa using h)
      | inr l =>
        obtain ⟨q, rfl, hl⟩ := hy
        exact wpAny_eqBool_tuple hu hm hl (by rwa [show decide (m = l) = decide ((Sum.inr m : Key) = Sum.inr l) by rw [Bool.eq_iff_iff]; simp])
  quiet := fun {A E s k v Q} hx h => by
    cases k with
    | inl a => rw [eqIsQuiet_byValue _ ((atomKind prog w).byValue a v hx)]; exact wpAny_pure h
    | inr m => obtain ⟨p, rfl, hm⟩ := hx; exact wpAny_eqIsQuiet_tuple hm h
  ofStr := fun {h k k' x t v} hx hy => by
    cases k with
    | inr m => obtain ⟨p, e, _⟩ := hx; cases e
    | inl a =>
      rcases Atom.shape hx with ⟨_, _, _, e⟩ | ⟨y, u, rfl, e⟩
      · cases e
      · cases e
        cases k' with
        | inl b =>
          rcases Atom.shape hy with ⟨_, _, rfl, rfl⟩ | ⟨z, u, rfl, rfl⟩
          · simp [Value.isStr]
          · rw [Bool.eq_iff_iff]; simp [Value.isStr]
        | inr l => obtain ⟨q, rfl, _⟩ := hy; simp [Value.isStr]
/-- a table of keys -/
def pullKind {prog : Program} {w : World} {K J : Type} [DecidableEq K] [DecidableEq J] (knd : AnyKind prog w K) (f : J → K) (hf : ∀ x y, f x = f y → x = y) : AnyKind prog w J where
  is := fun h k v => knd.is h (f k) v
  hash := fun k => knd.hash (f k)
  draws := fun k => knd.draws (f k)
  inj := fun hx hy => hf _ _ (knd.inj hx hy)
  keeps := fun hx ho hd hs => knd.keeps hx ho hd hs
  grows := fun hx hs => knd.grows hx hs
  pyHash := fun hu hx h => knd.pyHash hu hx h
  eqBool := fun {A E s x y u v Q} hu hx hy h => knd.eqBool hu hx hy (by rwa [show decide (f x = f y) = decide (x = y) by rw [Bool.eq_iff_iff]; simp; exact ⟨hf _ _, fun e => e ▸ rfl⟩])
  quiet := fun hx h => knd.quiet hx h
  ofStr := fun {h k k' x t v} hx hy => by
    rw [knd.ofStr hx hy, Bool.eq_iff_iff]; simp; exact ⟨hf _ _, fun e => e ▸ rfl⟩

end
-- N6
section
set_option maxRecDepth 100000
section
variable {prog : Program} {w : World} {A : Around} {E : Value → Shared → Prop} {B : Shared} {fs : List Env} {l l' : Cells} {s : Shared} {a b : Addr} {vs ws : List Value} {v : Value} {i : Nat} {env : Env}
/-- a slice of a list -/
theorem sliceS {value : Expr} {lower upper : Option Expr} {p pos : Pos} {Q : Value → Shared → Prop}
    (h : wpAny (model prog w) A (eval value env) (fun o s₁ => wpAny (model prog w) A (evalPart lower env) (fun vl s₂ => wpAny (model prog w) A (evalPart upper env) (fun vu s₃ =>
      ∃ l items lo hi L, o = .ref l ∧ St B fs L s₃ ∧ s₃.heap.IsList l items ∧ items.size ≤ sizeLine ∧ IsPart vl lo ∧ IsPart vu hi ∧ ∀ D s', St B fs ((D, listC (slicePick items lo hi none).toList) :: L) s' → Q (.ref D) s') E s₂) E s₁) E s)
    (ht : ∀ o r, letTemporaryGo value o r = pure () := by intro _ _; rfl) : wpAny (model prog w) A (eval (.Subscript value (.Slice lower upper none p) pos) env) Q E s := by
  refine wpAny_Subscript_list_slice (wpAny_mono h (fun o s₁ h₁ => wpAny_mono h₁ (fun vl s₂ h₂ => wpAny_mono h₂ (fun vu s₃ h₃ => ?_) fun _ _ e => e) fun _ _ e => e) fun _ _ e => e) ht
  obtain ⟨l, items, lo, hi, L, rfl, S, hl, hsz, pl, pu, hQ⟩ := h₃
  refine ⟨l, items, lo, hi, rfl, hl, hsz, pl, pu, ?_⟩
  have S1 := S.keeps (h' := s₃.heap.push { cls := .type "slice", data := .fields #[vl, vu, .none] }) s₃.toks (fun _ _ e => Heap.get?_push_of_some _ e)
  have S2 := S1.push (o := { cls := .type "list", data := .seq (slicePick items lo hi none) }) (c := listC (slicePick items lo hi none).toList) ⟨rfl, rfl, 0, by simp⟩ s₃.toks
  have e : (s₃.heap.push { cls := .type "slice", data := .fields #[vl, vu, .none] }).objs.size = s₃.heap.objs.size + 1 := Heap.size_push ..
  have := hQ _ _ S2
  rw [show ({ s₃ with heap := s₃.heap.push { cls := .type "slice", data := .fields #[vl, vu, .none] }, toks := s₃.toks } : Shared).heap.objs.size = s₃.heap.objs.size + 1 from e] at this
  exact this
/-- a list display -/
theorem listDisp {elts : List Expr} {pos : Pos} {Q : Value → Shared → Prop} (h : wpAny (model prog w) A (spliced (backTo pos (starEach elts env))) (fun vs s₁ => vs.length ≤ sizeLine ∧ ∃ l, St B fs l s₁ ∧ ∀ d s', St B fs ((d, listC vs) :: l) s' → Q (.ref d) s') E s) :
    wpAny (model prog w) A (eval (.List elts pos) env) Q E s :=
  wpAny_List (wpAny_mono h (fun vs s₁ ⟨h1, l, S, h2⟩ => ⟨h1, h2 _ _ (S.push (c := listC vs) ⟨rfl, rfl, 0, rfl⟩ s₁.toks)⟩) fun _ _ z => z)
theorem tupDisp {elts : List Expr} {k : Nat} {pos : Pos} {Q : Value → Shared → Prop} (h : wpAny (model prog w) A (spliced (backTo pos (starEach elts env))) (fun vs s₁ => vs.length ≤ sizeLine ∧ ∃ l, St B fs l s₁ ∧ ∀ d s', St B fs ((d, objC { cls := .type "tuple", data := .seq vs.toArray }) :: l) s' → Q (.ref d) s') E s) :
    wpAny (model prog w) A (eval (.Tuple elts k pos) env) Q E s :=
  wpAny_Tuple (wpAny_mono h (fun vs s₁ ⟨h1, l, S, h2⟩ => ⟨h1, h2 _ _ (S.push (c := objC { cls := .type "tuple", data := .seq vs.toArray }) rfl s₁.toks)⟩) fun _ _ z => z)
theorem addLists {Q : Value → Shared → Prop} (S : St B fs l s) (ma : (a, listC vs) ∈ l) (mb : (b, listC ws) ∈ l) (hsz : vs.length + ws.length ≤ sizeLine) (h : ∀ d s', St B fs ((d, listC (vs ++ ws)) :: l) s' → Q (.ref d) s') :
    wpAny (model prog w) A (binaryOp .Add (.ref a) (.ref b)) Q E s := by
  obtain ⟨⟨cls, dd, data, sl⟩, ho, hc, n, hd⟩ := S.list ma
  obtain ⟨⟨cls2, dd2, data2, sl2⟩, ho2, hc2, n2, hd2⟩ := S.list mb
  simp only at hc hd hc2 hd2
  subst hc hd hc2 hd2
  have e : vs.toArray ++ ws.toArray = (vs ++ ws).toArray := by simp
  refine concat_meets ⟨_, ho, rfl⟩ ⟨_, ho2, rfl⟩ noFill_list_add seq_list_add PySem.F.slot_list_add PySem.F.entry_list_add (PySem.F.args_list_add_2 _ _) (list_addW a b vs.toArray ws.toArray n n2 dd dd2 sl sl2 (by simpa using hsz)) ⟨ho, ho2, ?_⟩
  rw [e]
  exact h _ _ (S.push (c := listC (vs ++ ws)) ⟨rfl, rfl, 0, rfl⟩ s.toks)
theorem modS {x y : Int} {t u : Tok} {Q : Value → Shared → Prop} (S : St B fs l s) (hy : y ≠ 0) (h : ∀ s' t', St B fs l s' → Q (.int (x.fmod y) t') s') : wpAny (model prog w) A (binaryOp .Mod (.int x t) (.int y u)) Q E s :=
  mod_int' hy (h _ _ (S.toks _))
theorem strS {x : Str} {k : Nat} {pos : Pos} {Q : Value → Shared → Prop} (S : St B fs l s) (h : ∀ s' t', St B fs l s' → Q (.str x t') s') : wpAny (model prog w) A (eval (.Constant (.str x) k pos) env) Q E s :=
  wpAny_Constant_str (h _ _ (S.toks _))
theorem addStr {x y : Str} {t u : Tok} {Q : Value → Shared → Prop} (S : St B fs l s) (hsz : x.length + y.length ≤ sizeLine) (h : ∀ s' t', St B fs l s' → Q (.str (x ++ y) t') s') : wpAny (model prog w) A (binaryOp .Add (.str x t) (.str y u)) Q E s :=
  add_str (fun t' tk => h _ t' (S.toks tk)) hsz
theorem strInt {x : Int} {t : Tok} {Q : Value → Shared → Prop} (S : St B fs l s) (h0 : 0 ≤ x) (h1 : x < 2000000) (h : ∀ s' t', St B fs l s' → Q (.str (toString x) t') s') : wpAny (model prog w) A (call (.type "str") [.int x t]) Q E s :=
  str_of_int_fit (N := 2000000) (by split <;> omega) (by decide) fun _ => h _ _ (S.toks _)
end

end
-- V1
section
set_option maxRecDepth 100000
set_option maxHeartbeats 800000
abbrev scL : Scope := scopeOf (stP [63])
abbrev lenv (L fa : Addr) (cd : Value) : Env := cenv scL (S "law") L fa cd
abbrev lst (i : Nat) : Stmt := stIn (inside (stP [63])) i
section
variable {L fa c : Addr} {cd : Value}
theorem hcNumbers : (cellsFrom (L + 1) scL.names []).lookup (S "numbers") = some (L + 1 + 0) := by kernel_rfl
theorem hcNamed : (cellsFrom (L + 1) scL.names []).lookup (S "named") = some (L + 1 + 1) := by kernel_rfl
theorem hcCache : (cellsFrom (L + 1) scL.names []).lookup (S "cache") = some (L + 1 + 2) := by kernel_rfl
theorem hcHits : (cellsFrom (L + 1) scL.names []).lookup (S "hits") = some (L + 1 + 3) := by kernel_rfl
end
section
variable {M : Model} {A : Around} {E : Value → Shared → Prop} {B : Shared} {fs : List Env} {l l' : Cells} {s : Shared} {L fa : Addr} {cd v : Value} {u : Option Value} {pos : Pos}
theorem ldNumbers {Q : Value → Shared → Prop} (S : St B fs l s) (m : (L + 1 + 0, cellC (some v)) ∈ l) (h : Q v s) : wpAny M A (eval (.Name (Str.ofString "numbers") pos) (lenv L fa cd)) Q E s := ldK S m hcNumbers (by kernel_rfl) (by decide +kernel) (by kernel_rfl) h
theorem ldNamed {Q : Value → Shared → Prop} (S : St B fs l s) (m : (L + 1 + 1, cellC (some v)) ∈ l) (h : Q v s) : wpAny M A (eval (.Name (Str.ofString "named") pos) (lenv L fa cd)) Q E s := ldK S m hcNamed (by kernel_rfl) (by decide +kernel) (by kernel_rfl) h
theorem ldCache {Q : Value → Shared → Prop} (S : St B fs l s) (m : (L + 1 + 2, cellC (some v)) ∈ l) (h : Q v s) : wpAny M A (eval (.Name (Str.ofString "cache") pos) (lenv L fa cd)) Q E s := ldK S m hcCache (by kernel_rfl) (by decide +kernel) (by kernel_rfl) h
theorem ldHits {Q : Value → Shared → Prop} (S : St B fs l s) (m : (L + 1 + 3, cellC (some v)) ∈ l) (h : Q v s) : wpAny M A (eval (.Name (Str.ofString "hits") pos) (lenv L fa cd)) Q E s := ldK S m hcHits (by kernel_rfl) (by decide +kernel) (by kernel_rfl) h
theorem stNumbers {Q : Unit → Shared → Prop} (S : St B fs l s) (m : Upd l (L + 1 + 0, cellC u) (L + 1 + 0, cellC (some v)) l') (h : ∀ s', St B fs l' s' → Q () s') : wpAny M A (storeName (lenv L fa cd) (Str.ofString "numbers") v) Q E s := stK S hcNumbers m (by kernel_rfl) (by kernel_rfl) h
theorem stNamed {Q : Unit → Shared → Prop} (S : St B fs l s) (m : Upd l (L + 1 + 1, cellC u) (L + 1 + 1, cellC (some v)) l') (h : ∀ s', St B fs l' s' → Q () s') : wpAny M A (storeName (lenv L fa cd) (Str.ofString "named") v) Q E s := stK S hcNamed m (by kernel_rfl) (by kernel_rfl) h
theorem stCache {Q : Unit → Shared → Prop} (S : St B fs l s) (m : Upd l (L + 1 + 2, cellC u) (L + 1 + 2, cellC (some v)) l') (h : ∀ s', St B fs l' s' → Q () s') : wpAny M A (storeName (lenv L fa cd) (Str.ofString "cache") v) Q E s := stK S hcCache m (by kernel_rfl) (by kernel_rfl) h
theorem stHits {Q : Unit → Shared → Prop} (S : St B fs l s) (m : Upd l (L + 1 + 3, cellC u) (L + 1 + 3, cellC (some v)) l') (h : ∀ s', St B fs l' s' → Q () s') : wpAny M A (storeName (lenv L fa cd) (Str.ofString "hits") v) Q E s := stK S hcHits m (by kernel_rfl) (by kernel_rfl) h
theorem ldRange {w : World} {Q : Value → Shared → Prop} (T : Stat (KK w) B.heap) (S : St B fs l s) (h : Q (.type "range") s) : wpAny M A (eval (.Name (Str.ofString "range") pos) (lenv L fa cd)) Q E s :=
  ldVB T S (by kernel_rfl) (by kernel_rfl) (by decide +kernel) (by kernel_rfl) (by decide +kernel) (by kernel_rfl) h
theorem ldEnum {w : World} {Q : Value → Shared → Prop} (T : Stat (KK w) B.heap) (S : St B fs l s) (h : Q (.type "enumerate") s) : wpAny M A (eval (.Name (Str.ofString "enumerate") pos) (lenv L fa cd)) Q E s :=
  ldVB T S (by kernel_rfl) (by kernel_rfl) (by decide +kernel) (by kernel_rfl) (by decide +kernel) (by kernel_rfl) h
theorem ldLen {w : World} {Q : Value → Shared → Prop} (T : Stat (KK w) B.heap) (S : St B fs l s) (h : Q (.builtin "len") s) : wpAny M A (eval (.Name (Str.ofString "len") pos) (lenv L fa cd)) Q E s :=
  ldVB T S (by kernel_rfl) (by kernel_rfl) (by decide +kernel) (by kernel_rfl) (by decide +kernel) (by kernel_rfl) h
end
end
local macro_rules | `(tactic| walk_at "m_wk1") => `(tactic| ((with_reducible show wpAny _ _ (eval (Expr.Name _ _) (cenv _ _ _ _ _)) _ _ _); first
  | ((with_reducible show wpAny _ _ (eval (Expr.Name (Str.ofString "numbers") _) _) _ _ _); refine ldNumbers (by assumption) (by walk_at "m_mem") ?_)
  | ((with_reducible show wpAny _ _ (eval (Expr.Name (Str.ofString "named") _) _) _ _ _); refine ldNamed (by assumption) (by walk_at "m_mem") ?_)
  | ((with_reducible show wpAny _ _ (eval (Expr.Name (Str.ofString "cache") _) _) _ _ _); refine ldCache (by assumption) (by walk_at "m_mem") ?_)
  | ((with_reducible show wpAny _ _ (eval (Expr.Name (Str.ofString "hits") _) _) _ _ _); refine ldHits (by assumption) (by walk_at "m_mem") ?_)
  | ((with_reducible show wpAny _ _ (eval (Expr.Name (Str.ofString "range") _) _) _ _ _); refine ldRange (by assumption) (by assumption) ?_)
  | ((with_reducible show wpAny _ _ (eval (Expr.Name (Str.ofString "enumerate") _) _) _ _ _); refine ldEnum (by assumption) (by assumption) ?_)
  | ((with_reducible show wpAny _ _ (eval (Expr.Name (Str.ofString "len") _) _) _ _ _); refine ldLen (by assumption) (by assumption) ?_)
  | refine ldV (by assumption) (by walk_at "m_mem") (by walk_at "m_mem") ?_))
section
set_option maxRecDepth 100000
set_option maxHeartbeats 800000
end
local macro_rules | `(tactic| walk_at "m_wk1") => `(tactic| ((with_reducible show wpAny _ _ (storeName (cenv _ _ _ _ _) _ _) _ _ _); first
  | ((with_reducible show wpAny _ _ (storeName _ (Str.ofString "numbers") _) _ _ _); refine stNumbers (by assumption) (by walk_at "m_updt") fun s' S' => ?_)
  | ((with_reducible show wpAny _ _ (storeName _ (Str.ofString "named") _) _ _ _); refine stNamed (by assumption) (by walk_at "m_updt") fun s' S' => ?_)
  | ((with_reducible show wpAny _ _ (storeName _ (Str.ofString "cache") _) _ _ _); refine stCache (by assumption) (by walk_at "m_updt") fun s' S' => ?_)
  | ((with_reducible show wpAny _ _ (storeName _ (Str.ofString "hits") _) _ _ _); refine stHits (by assumption) (by walk_at "m_updt") fun s' S' => ?_)
  | refine stV (by assumption) (by walk_at "m_updt") (by walk_at "m_updt") (fun s' S' => ?_)
  | refine stVnew (by assumption) (by walk_at "m_updt") (fun s' S' => ?_) (by walk_at "m_nin") (by kernel_rfl) (by decide +kernel)))
section
set_option maxRecDepth 100000
set_option maxHeartbeats 800000
/-- the frame of the law -/
abbrev frm (L : Addr) (hits cache named numbers : Option Value) (xs : Names) (l : Cells) : Cells :=
  (L + 1 + 3, cellC hits) :: (L + 1 + 2, cellC cache) :: (L + 1 + 1, cellC named) :: (L + 1 + 0, cellC numbers) :: (L, nsC scL xs) :: l
end
local macro_rules | `(tactic| walk_at "m_litc") => `(tactic| (refine args_cons ?_; walk_at "m_wk"))
section
set_option maxRecDepth 100000
set_option maxHeartbeats 800000
section
variable {w : World} {A : Around} {E : Value → Shared → Prop} {B : Shared} {fs : List Env} {l l' : Cells} {s : Shared} {L fa sc : Addr} {cd : Value} {n : Nat}
theorem intsAt : ∀ {vs : List Value} {ns : List Int}, IntsAre vs ns → ∀ i, i < ns.length → ∃ t, vs[i]? = some (.int (ns.getD i 0) t)
  | _, _, .nil, i, h => by simp at h
  | _, _, .cons m t r, 0, _ => ⟨t, rfl⟩
  | _, _, .cons m t r, i + 1, h => by obtain ⟨u, hu⟩ := intsAt r i (by simpa using h); exact ⟨u, by simpa using hu⟩
/-- numbers = script[:7] + [0] * 7 -/
theorem law0 {sv : List Value} {ns : List Int} {Q : Flow → Shared → Prop} (hl : B.heap.IsList sc sv.toArray) (hi : IntsAre sv ns) (hlen : ns.length ≤ 63) (S : St B fs (frm L none none none none [(Str.ofString "script", .ref sc)] l) s)
    (h : ∀ nl nv (N : Nat → Int) s', (∀ i, i < 7 → ∃ t, nv[i]? = some (.int (N i) t)) → St B fs ((nl, listC nv) :: frm L none none none (some (.ref nl)) [(Str.ofString "script", .ref sc)] l) s' → Q .next s') :
    wpAny (model pw w) A (exec (lst 0) (lenv L fa cd)) Q E s := by
  refine wpAny_Assign_Name ?_
  walk_at "m_wk"
  refine sliceS (B := B) (fs := fs) ?_
  walk_at "m_wk"
  refine wpAny_evalPart_none ?_
  refine wpAny_evalPart_some ?_
  walk_at "m_wk"
  rename_i s' t' S'
  have hL := hl.at fun o e => S'.base _ _ e
  refine ⟨sc, _, none, some 7, _, rfl, S', hL, ?_, .none, .int _ _, fun D s' S' => ?_⟩
  · have := hi.length
    rw [sizeLine_eq]; simp; omega
  have hp := slice_ints_uptoW hi (y := 7) (by decide)
  refine listDisp (B := B) (fs := fs) ?_
  walk_at "m_litc"
  walk_at "m_litc"
  walk_at "m_litc"
  walk_at "m_litc"
  walk_at "m_litc"
  walk_at "m_litc"
  walk_at "m_litc"
  refine args_nil ?_
  refine ⟨by rw [sizeLine_eq]; exact Nat.le_of_ble_eq_true rfl, _, by assumption, fun d s' S' => ?_⟩
  have hlen2 : (slicePick sv.toArray none (some 7) none).toList.length ≤ 7 := by
    rw [hp.length]; simp; omega
  refine addLists (a := D) (b := d) (by assumption) (by walk_at "m_mem") (by walk_at "m_mem") (by rw [sizeLine_eq]; simp only [List.length_cons, List.length_nil]; omega) fun e s' S' => ?_
  walk_at "m_wk"
  rename_i S'
  refine h e _ (fun i => (ns.take 7 ++ [0, 0, 0, 0, 0, 0, 0]).getD i 0) _ ?_ (S'.perm (l' := (d, _) :: (D, _) :: (e, _) :: frm L none none none (some (.ref e)) [(Str.ofString "script", .ref sc)] l) (by walk_at "m_pm")).tail.tail
  intro i hi7
  exact intsAt (hp.append (.cons _ _ (.cons _ _ (.cons _ _ (.cons _ _ (.cons _ _ (.cons _ _ (.cons _ _ .nil)))))))) i (Nat.lt_of_lt_of_le hi7 (by rw [List.length_append]; exact Nat.le_add_left _ _))
end

end
-- V2
section
set_option maxRecDepth 100000
set_option maxHeartbeats 800000
section
variable {w : World} {A : Around} {E : Value → Shared → Prop} {B : Shared} {fs : List Env} {l l' : Cells} {s : Shared} {c C : Addr} {x : Str} {v : Value} {pos : Pos} {env : Env} {scope : Scope}
theorem ldX1 {M : Model} {Q : Value → Shared → Prop} (S : St B fs l s) (m : (c, cellC (some v)) ∈ l) (hl : (relabel scope env).names.lookup x = some .cell) (hd : (x == ("__debug__" : Str)) = false) (hk : scope.kind = .function) (h : Q v s) :
    wpAny M A (eval (.Name x pos) (compEnvC scope [(x, c)] C env)) Q E s := ldXK S m hl (by rw [List.lookup_cons, beq_self_eq_true]) hd hk h
end
end
local macro_rules | `(tactic| walk_at "m_wk1") => `(tactic| ((with_reducible show wpAny _ _ (eval (Expr.Name _ _) (compEnvC _ _ _ _)) _ _ _); first | refine ldX (by assumption) (by walk_at "m_mem") (by walk_at "m_mem") ?_ | refine ldX1 (by assumption) (by walk_at "m_mem") (by kernel_rfl) (by decide +kernel) (by kernel_rfl) ?_))
section
set_option maxRecDepth 100000
set_option maxHeartbeats 800000
section
variable {w : World} {A : Around} {E : Value → Shared → Prop} {B : Shared} {fs : List Env} {l l' : Cells} {s : Shared} {L fa sc nl : Addr} {cd : Value} {n : Nat} {xs : Names} {nv : List Value} {N : Nat → Int}
theorem range_snoc {α : Type} (f : Nat → α) (n : Nat) : (List.range (n + 1)).map f = (List.range n).map f ++ [f n] := by
  rw [List.range_succ, List.map_append]; rfl
theorem snocAt {α : Type} {p : Nat → α → Prop} {ys : List α} {i : Nat} {y : α} (hl : ys.length = i) (hy : ∀ j, j < i → ∃ z, ys[j]? = some z ∧ p j z) (h : p i y) : ∀ j, j < i + 1 → ∃ z, (ys ++ [y])[j]? = some z ∧ p j z := by
  intro j hj
  by_cases q : j < i
  · obtain ⟨z, h1, h2⟩ := hy j q
    exact ⟨z, by rw [List.getElem?_append_left (by omega)]; exact h1, h2⟩
  · obtain rfl : j = i := by omega
    exact ⟨y, by rw [List.getElem?_append_right (by omega), hl, Nat.sub_self]; rfl, h⟩
/-- named = [5 * numbers[k] + k for k in range(5)] -/
theorem law1 {h0 c0 d0 : Option Value} {Q : Flow → Shared → Prop} (T : Stat (KK w) B.heap) (hh : A.handled = none) (hN : ∀ i, i < 7 → ∃ t, nv[i]? = some (.int (N i) t)) (S₀ : St B fs ((nl, listC nv) :: frm L h0 c0 d0 (some (.ref nl)) xs l) s)
    (h : ∀ d (vs : List Value) s', vs.length = 5 → (∀ i, i < 5 → ∃ z, vs[i]? = some z ∧ ∃ t, z = .int (5 * N i + i) t) → St B fs ((d, listC vs) :: (nl, listC nv) :: frm L h0 c0 (some (.ref d)) (some (.ref nl)) xs l) s' → Q .next s') :
    wpAny (model pw w) A (exec (lst 1) (lenv L fa cd)) Q NoE s := by
  refine wpAny_Assign_Name ?_
  refine compS (B := B) (fs := fs) (cl := [(S "numbers", L + 1 + 0)]) (by kernel_rfl) rfl (by decide +kernel) (by decide +kernel) ?_
  refine Call_ ?_
  walk_at "m_wk"
  refine PyProof.Rows.callWith_type1 ?_
  refine args_cons ?_
  walk_at "m_wk"
  refine args_nil ?_
  refine rangeS (by assumption) fun r t₁ t₂ s' S' => ?_
  refine iterRange (n := 5) (k := 5) (by assumption) rfl (by walk_at "m_mem") (by decide) fun I s' S' => ?_
  refine ⟨_, S', fun C D s₃ S₃ => ⟨fun P E' hp => iterRg S₃ (by walk_at "m_mem") hp, ?_⟩⟩
  refine compRange (n := 5) (fun i ys rest => rest = (r, rgC 0 5 1 t₁ _ t₂) :: (nl, listC nv) :: frm L h0 c0 d0 (some (.ref nl)) xs l ∧ i ≤ 5 ∧ ys.length = i ∧ ∀ j, j < i → ∃ z, ys[j]? = some z ∧ ∃ t, z = .int (5 * N j + j) t)
    (by kernel_rfl) (by decide +kernel) hh (S₃.perm (by walk_at "m_pm")) ⟨rfl, by decide, rfl, fun j hj => absurd hj (Nat.not_lt_zero _)⟩ ?_ ?_ ?_
  · rintro i ys rest ⟨rfl, h5, hl, hy⟩
    rw [hl, sizeLine_eq]; omega
  · rintro i t ys rest s hi ⟨rfl, h5, hl, hy⟩ S
    refine wpAny_tests_nil ?_
    rw [if_pos rfl]
    obtain ⟨u, hu⟩ := hN i (by omega)
    walk_at "m_wk"
    refine Subscript_ ?_
    walk_at "m_wk"
    refine subL (a := nl) (vs := nv) (by assumption) (by walk_at "m_mem") (by omega) (by omega) (by simpa using hu) ?_
    refine mulS (by assumption) (.of_left (intBits_le_64 (by decide) (by decide))) fun s' t' S' => ?_
    walk_at "m_wk"
    exact ⟨_, ⟨rfl, hi, by rw [List.length_append, hl]; rfl, snocAt hl hy ⟨_, rfl⟩⟩, by assumption⟩
  · rintro ys rest s ⟨rfl, h5, hl, hy⟩ S
    walk_at "m_wk"
    rename_i S'
    exact h D ys _ hl hy (S'.perm (l' := (r, _) :: (D, listC ys) :: (nl, listC nv) :: frm L h0 c0 (some (.ref D)) (some (.ref nl)) xs l) (by walk_at "m_pm")).tail
end

end
-- V3
section
set_option maxRecDepth 100000
set_option maxHeartbeats 800000
end
local macro_rules | `(tactic| walk_at "m_wk1") => `(tactic| ((with_reducible show wpAny _ _ (eval (Expr.Constant (Const.str _) _ _) _) _ _ _); refine strS (by assumption) (fun s' t' S' => ?_)))
section
set_option maxRecDepth 100000
set_option maxHeartbeats 800000
end
local macro_rules | `(tactic| walk_at "m_wk1") => `(tactic| ((with_reducible show wpAny _ _ (binaryOp Operator.Mod (Value.int _ _) (Value.int _ _)) _ _ _); refine modS (by assumption) (by decide) (fun s' t' S' => ?_)))
section
set_option maxRecDepth 100000
set_option maxHeartbeats 800000
theorem Str.len_app (x y : Str) : (x ++ y).length = x.length + y.length := by
  show (x.cps ++ y.cps).size = _
  rw [Array.size_append]; rfl
theorem strLe {x y : Str} {k : Int} (hx : x.length = 1) (hy : (y.length : Int) ≤ k.natAbs + 2) (hk : k.natAbs < 2000000) : x.length + y.length ≤ sizeLine := by rw [sizeLine_eq, hx]; omega
theorem strLen {x y : Str} {k : Int} (hx : x.length = 1) (hy : (y.length : Int) ≤ k.natAbs + 2) (hk : k.natAbs < 2000000) : (x ++ y).length ≤ 2000010 := by rw [Str.len_app, hx]; omega
theorem strLe2 {x y : Str} (hx : x.length ≤ 2000010) (hy : y.length = 1) : x.length + y.length ≤ sizeLine := by rw [sizeLine_eq, hy]; omega
theorem strLen2 {x y : Str} (hx : x.length ≤ 2000010) (hy : y.length = 1) : (x ++ y).length ≤ 2000011 := by rw [Str.len_app, hy]; omega
theorem strLe3 {x y : Str} {k : Int} (hx : x.length ≤ 2000011) (hy : (y.length : Int) ≤ k.natAbs + 2) (hk : k.natAbs < 100) : x.length + y.length ≤ sizeLine := by rw [sizeLine_eq]; omega
def keyStr (x : Int) (i : Nat) : Str := (((("k" : Str) ++ (toString (x.fmod 1000003) : Str)) ++ ("/" : Str)) ++ (toString (i : Int) : Str))
section
variable {w : World} {A : Around} {E : Value → Shared → Prop} {B : Shared} {fs : List Env} {l l' : Cells} {s : Shared} {L fa sc nl d : Addr} {cd : Value} {n : Nat} {xs : Names} {nv vs : List Value} {N X : Nat → Int}
theorem law2_no {h0 c0 d0 : Option Value} {Q : Flow → Shared → Prop} (hN : ∀ i, i < 7 → ∃ t, nv[i]? = some (.int (N i) t)) (S₀ : St B fs ((nl, listC nv) :: frm L h0 c0 d0 (some (.ref nl)) xs l) s) (hr : (N 5).fmod 3 ≠ 1)
    (h : ∀ s', St B fs ((nl, listC nv) :: frm L h0 c0 d0 (some (.ref nl)) xs l) s' → Q .next s') :
    wpAny (model pw w) A (exec (lst 2) (lenv L fa cd)) Q E s := by
  obtain ⟨u, hu⟩ := hN 5 (by decide)
  refine wpAny_If ?_
  walk_at "m_wk"
  refine Subscript_ ?_
  walk_at "m_wk"
  refine subL (a := nl) (vs := nv) (by assumption) (by walk_at "m_mem") (by decide) (by decide) hu ?_
  walk_at "m_wk"
  refine iteF (by simpa using hr) ?_
  walk_at "m_wk"
  exact h _ (by assumption)
theorem law3_no {h0 c0 d0 : Option Value} {Q : Flow → Shared → Prop} (hN : ∀ i, i < 7 → ∃ t, nv[i]? = some (.int (N i) t)) (S₀ : St B fs ((nl, listC nv) :: frm L h0 c0 d0 (some (.ref nl)) xs l) s) (hr : (N 5).fmod 3 ≠ 2)
    (h : ∀ s', St B fs ((nl, listC nv) :: frm L h0 c0 d0 (some (.ref nl)) xs l) s' → Q .next s') :
    wpAny (model pw w) A (exec (lst 3) (lenv L fa cd)) Q E s := by
  obtain ⟨u, hu⟩ := hN 5 (by decide)
  refine wpAny_If ?_
  walk_at "m_wk"
  refine Subscript_ ?_
  walk_at "m_wk"
  refine subL (a := nl) (vs := nv) (by assumption) (by walk_at "m_mem") (by decide) (by decide) hu ?_
  walk_at "m_wk"
  refine iteF (by simpa using hr) ?_
  walk_at "m_wk"
  exact h _ (by assumption)
/-- named = ['k' + str(key % 1000003) + '/' + str(place) ..] -/
theorem law2_yes {h0 c0 : Option Value} {Q : Flow → Shared → Prop} (T : Stat (KK w) B.heap) (hh : A.handled = none) (hN : ∀ i, i < 7 → ∃ t, nv[i]? = some (.int (N i) t)) (hl : vs.length = 5) (hX : ∀ i, i < 5 → ∃ z, vs[i]? = some z ∧ ∃ t, z = .int (X i) t)
    (S₀ : St B fs ((nl, listC nv) :: (d, listC vs) :: frm L h0 c0 (some (.ref d)) (some (.ref nl)) xs l) s) (hr : (N 5).fmod 3 = 1)
    (h : ∀ d (vs' : List Value) s', vs'.length = 5 → (∀ i, i < 5 → ∃ z, vs'[i]? = some z ∧ ∃ t, z = .str (keyStr (X i) i) t) → St B fs ((nl, listC nv) :: (d, listC vs') :: frm L h0 c0 (some (.ref d)) (some (.ref nl)) xs l) s' → Q .next s') :
    wpAny (model pw w) A (exec (lst 2) (lenv L fa cd)) Q NoE s := by
  obtain ⟨u, hu⟩ := hN 5 (by decide)
  refine wpAny_If ?_
  walk_at "m_wk"
  refine Subscript_ ?_
  walk_at "m_wk"
  refine subL (a := nl) (vs := nv) (by assumption) (by walk_at "m_mem") (by decide) (by decide) hu ?_
  walk_at "m_wk"
  refine iteT (by simpa using hr) ?_
  walk_at "m_wk1"
  walk_at "m_wk1"
  refine compS (B := B) (fs := fs) (cl := []) (closureFor_none (by decide +kernel)) rfl (by decide +kernel) (by decide +kernel) ?_
  refine Call_ ?_
  walk_at "m_wk"
  refine PyProof.Rows.callWith_type1 ?_
  refine args_cons ?_
  walk_at "m_wk"
  refine args_nil ?_
  refine enumS (a := d) (vs := vs) (by assumption) (by walk_at "m_mem") fun e it s' S' => ?_
  refine iterEnum (by assumption) (by walk_at "m_mem") ?_
  refine ⟨_, S', fun C D s₃ S₃ => ⟨fun P E' hp => iterEnum S₃ (by walk_at "m_mem") hp, ?_⟩⟩
  refine compEnum (a := d) (vs := vs) (fun i ys rest => rest = (nl, listC nv) :: (d, listC vs) :: frm L h0 c0 (some (.ref d)) (some (.ref nl)) xs l ∧ i ≤ 5 ∧ ys.length = i ∧ ∀ j, j < i → ∃ z, ys[j]? = some z ∧ ∃ t, z = .str (keyStr (X j) j) t)
    (by kernel_rfl) (by decide +kernel) (by kernel_rfl) (by decide +kernel) (by decide +kernel) hh (S₃.perm (by walk_at "m_pm")) ⟨rfl, by decide, rfl, fun j hj => absurd hj (Nat.not_lt_zero _)⟩ ?_ ?_ ?_
  · rintro i ys rest ⟨rfl, h5, hl, hy⟩
    exact ⟨by walk_at "m_mem", by rw [hl, sizeLine_eq]; omega⟩
  · rintro i v t old ys rest s hv ⟨rfl, h5, hyl, hy⟩ S
    have hi : i < 5 := by have := (List.getElem?_eq_some_iff.mp hv).1; omega
    obtain ⟨z, hz, t2, rfl⟩ := hX i hi
    rw [hz] at hv
    cases hv
    have hm1 : 0 ≤ (X i).fmod 1000003 := Int.fmod_nonneg_of_pos _ (by decide)
    have hm2 : (X i).fmod 1000003 < 1000003 := Int.fmod_lt_of_pos _ (by decide)
    have hlen1 := len_str_of_int ((X i).fmod 1000003)
    have hlen2 := len_str_of_int (i : Int)
    refine wpAny_tests_nil ?_
    rw [if_pos rfl]
    walk_at "m_wk"
    refine Call_ ?_
    refine ldXB T (by assumption) (by kernel_rfl) PyProof.Rows.Boot.«str» (by decide +kernel) (by kernel_rfl) (by decide +kernel) (by kernel_rfl) ?_
    refine PyProof.Rows.callWith_type1 ?_
    refine args_cons ?_
    walk_at "m_wk"
    refine args_nil ?_
    refine strInt (by assumption) hm1 (by omega) fun s' t' S' => ?_
    refine addStr (by assumption) ?_ fun s' t' S' => ?_
    · exact strLe (by decide +kernel : ("k" : Str).length = 1) hlen1 (by omega)
    walk_at "m_wk"
    refine addStr (by assumption) ?_ fun s' t' S' => ?_
    · exact strLe2 (strLen (by decide +kernel : ("k" : Str).length = 1) hlen1 (by omega)) (by decide +kernel : ("/" : Str).length = 1)
    refine Call_ ?_
    refine ldXB T (by assumption) (by kernel_rfl) PyProof.Rows.Boot.«str» (by decide +kernel) (by kernel_rfl) (by decide +kernel) (by kernel_rfl) ?_
    refine PyProof.Rows.callWith_type1 ?_
    refine args_cons ?_
    walk_at "m_wk"
    refine args_nil ?_
    refine strInt (by assumption) (by omega) (by omega) fun s' t' S' => ?_
    refine addStr (by assumption) ?_ fun s' t' S' => ?_
    · exact strLe3 (strLen2 (strLen (by decide +kernel : ("k" : Str).length = 1) hlen1 (by omega)) (by decide +kernel : ("/" : Str).length = 1)) hlen2 (by omega)
    exact ⟨_, ⟨rfl, hi, by rw [List.length_append, hyl]; rfl, snocAt hyl hy ⟨_, rfl⟩⟩, by assumption⟩
  · rintro ys rest s ⟨rfl, h5, hyl, hy⟩ S
    walk_at "m_wk"
    rename_i S'
    refine h D ys _ (by omega) (by rwa [hl] at hy) (S'.perm (l' := (d, _) :: (nl, _) :: (D, listC ys) :: frm L h0 c0 (some (.ref D)) (some (.ref nl)) xs l) (by walk_at "m_pm")).tail
end

end
-- V4
section
set_option maxRecDepth 100000
set_option maxHeartbeats 800000
section
variable {w : World} {A : Around} {E : Value → Shared → Prop} {B : Shared} {fs : List Env} {l l' : Cells} {s : Shared} {L fa sc nl d : Addr} {cd : Value} {n : Nat} {xs : Names} {nv vs : List Value} {N X : Nat → Int}
/-- named = [(place, key) ..] -/
theorem law3_yes {h0 c0 : Option Value} {Q : Flow → Shared → Prop} (T : Stat (KK w) B.heap) (hh : A.handled = none) (hN : ∀ i, i < 7 → ∃ t, nv[i]? = some (.int (N i) t)) (hl : vs.length = 5) (hX : ∀ i, i < 5 → ∃ z, vs[i]? = some z ∧ ∃ t, z = .int (X i) t)
    (S₀ : St B fs ((nl, listC nv) :: (d, listC vs) :: frm L h0 c0 (some (.ref d)) (some (.ref nl)) xs l) s) (hr : (N 5).fmod 3 = 2)
    (h : ∀ d (vs' : List Value) (tc : Cells) s', vs'.length = 5 → (∀ i : Nat, i < 5 → ∃ z, vs'[i]? = some z ∧ ∃ b t u, z = .ref b ∧ (b, pairC (.int i t) (.int (X i) u)) ∈ tc) → St B fs (tc ++ ((nl, listC nv) :: (d, listC vs') :: frm L h0 c0 (some (.ref d)) (some (.ref nl)) xs l)) s' → Q .next s') :
    wpAny (model pw w) A (exec (lst 3) (lenv L fa cd)) Q NoE s := by
  obtain ⟨u, hu⟩ := hN 5 (by decide)
  refine wpAny_If ?_
  walk_at "m_wk"
  refine Subscript_ ?_
  walk_at "m_wk"
  refine subL (a := nl) (vs := nv) (by assumption) (by walk_at "m_mem") (by decide) (by decide) hu ?_
  walk_at "m_wk"
  refine iteT (by simpa using hr) ?_
  walk_at "m_wk1"
  walk_at "m_wk1"
  refine compS (B := B) (fs := fs) (cl := []) (closureFor_none (by decide +kernel)) rfl (by decide +kernel) (by decide +kernel) ?_
  refine Call_ ?_
  walk_at "m_wk"
  refine PyProof.Rows.callWith_type1 ?_
  refine args_cons ?_
  walk_at "m_wk"
  refine args_nil ?_
  refine enumS (a := d) (vs := vs) (by assumption) (by walk_at "m_mem") fun e it s' S' => ?_
  refine iterEnum (by assumption) (by walk_at "m_mem") ?_
  refine ⟨_, S', fun C D s₃ S₃ => ⟨fun P E' hp => iterEnum S₃ (by walk_at "m_mem") hp, ?_⟩⟩
  refine compEnum (a := d) (vs := vs) (rest₀ := (nl, listC nv) :: (d, listC vs) :: frm L h0 c0 (some (.ref d)) (some (.ref nl)) xs l) (fun i ys rest => ∃ tc : Cells, rest = tc ++ ((nl, listC nv) :: (d, listC vs) :: frm L h0 c0 (some (.ref d)) (some (.ref nl)) xs l) ∧ i ≤ 5 ∧ ys.length = i ∧ ∀ j, j < i → ∃ z, ys[j]? = some z ∧ ∃ b t u, z = .ref b ∧ (b, pairC (.int j t) (.int (X j) u)) ∈ tc)
    (by kernel_rfl) (by decide +kernel) (by kernel_rfl) (by decide +kernel) (by decide +kernel) hh (S₃.perm (by walk_at "m_pm")) ⟨[], rfl, by decide, rfl, fun j hj => absurd hj (Nat.not_lt_zero _)⟩ ?_ ?_ ?_
  · rintro i ys rest ⟨tc, rfl, h5, hl, hy⟩
    exact ⟨List.mem_append_right _ (by walk_at "m_mem"), by rw [hl, sizeLine_eq]; omega⟩
  · rintro i v t old ys rest s hv ⟨tc, rfl, h5, hyl, hy⟩ S
    have hi : i < 5 := by have := (List.getElem?_eq_some_iff.mp hv).1; omega
    obtain ⟨z, hz, t2, rfl⟩ := hX i hi
    rw [hz] at hv
    cases hv
    refine wpAny_tests_nil ?_
    rw [if_pos rfl]
    refine tupDisp (B := B) (fs := fs) ?_
    refine args_cons ?_
    walk_at "m_wk"
    refine args_cons ?_
    walk_at "m_wk"
    refine args_nil ?_
    refine ⟨by rw [sizeLine_eq]; exact Nat.le_of_ble_eq_true rfl, _, by assumption, fun b s' S' => ?_⟩
    refine ⟨(b, pairC (.int i t) (.int (X i) t2)) :: (tc ++ ((nl, listC nv) :: (d, listC vs) :: frm L h0 c0 (some (.ref d)) (some (.ref nl)) xs l)), ⟨(b, _) :: tc, rfl, hi, by rw [List.length_append, hyl]; rfl, snocAt hyl (fun j hj => ?_) ⟨b, t, t2, rfl, .head _⟩⟩, S'.perm (by walk_at "m_pm")⟩
    obtain ⟨z, h1, b2, t', u', rfl, h2⟩ := hy j hj
    exact ⟨_, h1, b2, t', u', rfl, .tail _ h2⟩
  · rintro ys rest s ⟨tc, rfl, h5, hyl, hy⟩ S
    have S2 := S.perm (List.Perm.cons _ List.perm_append_comm : ((D, listC ys) :: (((nl, listC nv) :: (d, listC vs) :: frm L h0 c0 (some (.ref d)) (some (.ref nl)) xs l) ++ tc)).Perm _)
    simp only [List.cons_append] at S2
    walk_at "m_wk"
    rename_i S'
    have S3 := (S'.perm (l' := (d, listC vs) :: (nl, listC nv) :: (D, listC ys) :: frm L h0 c0 (some (.ref D)) (some (.ref nl)) xs (l ++ tc)) (by walk_at "m_pm")).tail
    have S4 := S3.perm (l' := tc ++ ((nl, listC nv) :: (D, listC ys) :: frm L h0 c0 (some (.ref D)) (some (.ref nl)) xs l)) List.perm_append_comm
    exact h D ys tc _ (by omega) (by rwa [hl] at hy) S4
end

end
-- V5
section
set_option maxRecDepth 100000
set_option maxHeartbeats 800000
def oldKey (j : Nat) : Key := .inr [.inr (S "old"), .inl j]
def tabOf (nm : Nat → Key) (k : Nat) : Key := if k < 5 then nm k else oldKey (k - 5)
theorem oldKey_inj {i j : Nat} (h : oldKey i = oldKey j) : i = j := by
  unfold oldKey at h
  injection h with h
  injection h with _ h
  injection h with h _
  injection h with h
  exact Int.ofNat.inj h
theorem tab_inj {nm : Nat → Key} (h1 : ∀ i j, i < 5 → j < 5 → nm i = nm j → i = j) (h2 : ∀ i j, nm i ≠ oldKey j) : ∀ x y, tabOf nm x = tabOf nm y → x = y := by
  intro x y h
  unfold tabOf at h
  split at h <;> split at h
  · exact h1 x y (by assumption) (by assumption) h
  · exact (h2 _ _ h).elim
  · exact (h2 _ _ h.symm).elim
  · have := oldKey_inj h; omega
theorem digit : ∀ i : Nat, i < 5 → (toString (i : Int) : Str) = ⟨#[48 + i]⟩
  | 0, _ => by decide +kernel
  | 1, _ => by decide +kernel
  | 2, _ => by decide +kernel
  | 3, _ => by decide +kernel
  | 4, _ => by decide +kernel
theorem Str.last_inj {x y : Str} {c d : Nat} (h : x ++ (⟨#[c]⟩ : Str) = y ++ (⟨#[d]⟩ : Str)) : c = d := by
  have h1 : (x.cps ++ #[c]).toList = (y.cps ++ #[d]).toList := congrArg (fun z : Str => z.cps.toList) h
  simp only [Array.toList_append] at h1
  have h2 := congrArg List.getLast? h1
  simpa using h2
theorem keyStr_inj {x y : Int} {i j : Nat} (hi : i < 5) (hj : j < 5) (h : keyStr x i = keyStr y j) : i = j := by
  unfold keyStr at h
  rw [digit i hi, digit j hj] at h
  have := Str.last_inj h
  omega
/-- five named keys, as they lie in the base -/
structure Named (w : World) (B : Shared) (f : Nat → Key) (kv : List Value) : Prop where
  inj : ∀ x y, f x = f y → x = y
  old : ∀ j, f (5 + j) = oldKey j
  len : kv.length = 5
  is : ∀ i, i < 5 → ∃ z, kv[i]? = some z ∧ keyIs pw w B.heap (f i) z
theorem tab_old {nm : Nat → Key} (j : Nat) : tabOf nm (5 + j) = oldKey j := by
  unfold tabOf; rw [if_neg (by omega)]; congr 1; omega
theorem tab_nm {nm : Nat → Key} {i : Nat} (h : i < 5) : tabOf nm i = nm i := if_pos h
section
variable {w : World} {A : Around} {E : Value → Shared → Prop} {B : Shared} {fs : List Env} {l l' : Cells} {s : Shared} {L fa sc nl d : Addr} {cd : Value} {n : Nat} {xs : Names} {nv vs : List Value} {N X : Nat → Int} {rest : List Stmt}
theorem lawNamed {Q : Flow → Shared → Prop} (T : Stat (KK w) B.heap) (hh : A.handled = none) (hfs : ∀ b ∈ fs.filterMap (·.frame), b = L) (hN : ∀ i, i < 7 → ∃ t, nv[i]? = some (.int (N i) t)) (S₀ : St B fs ((nl, listC nv) :: frm L none none none (some (.ref nl)) xs l) s)
    (h : ∀ B' d kv f s', Ext B B' → Named w B' f kv → St B' fs ((nl, listC nv) :: (d, listC kv) :: frm L none none (some (.ref d)) (some (.ref nl)) xs l) s' → wpAny (model pw w) A (execs rest (lenv L fa cd)) Q NoE s') :
    wpAny (model pw w) A (execs (lst 1 :: lst 2 :: lst 3 :: rest) (lenv L fa cd)) Q NoE s := by
  refine wpAny_execs_cons ?_
  refine law1 T hh hN S₀ fun d vs s' hl hX S' => ?_
  have S' := S'.perm (l' := (nl, listC nv) :: (d, listC vs) :: frm L none none (some (.ref d)) (some (.ref nl)) xs l) (by walk_at "m_pm")
  refine wpAny_execs_cons ?_
  by_cases h1 : (N 5).fmod 3 = 1
  · refine law2_yes (X := fun i => 5 * N i + i) T hh hN hl hX S' h1 fun d vs' s' hl hX S' => ?_
    refine wpAny_execs_cons ?_
    have S' := S'.perm (l' := (nl, listC nv) :: frm L none none (some (.ref d)) (some (.ref nl)) xs ((d, listC vs') :: l)) (by walk_at "m_pm")
    refine law3_no hN S' (by rw [h1]; decide) fun s' S' => ?_
    have S' := S'.perm (l' := (nl, listC nv) :: (d, listC vs') :: frm L none none (some (.ref d)) (some (.ref nl)) xs l) (by walk_at "m_pm")
    refine h B d vs' (tabOf fun i => .inl (.inr (keyStr (5 * N i + i) i))) s' (Ext.refl B) ⟨tab_inj (fun i j hi hj e => ?_) (fun i j e => ?_), tab_old, hl, fun i hi => ?_⟩ S'
    · injection e with e; injection e with e
      exact keyStr_inj hi hj e
    · unfold oldKey at e; cases e
    · obtain ⟨z, hz, t, rfl⟩ := hX i hi
      refine ⟨_, hz, ?_⟩
      rw [tab_nm hi]
      simp [keyIs, Atom.is, Value.isStrOf]
  · have S' := S'.perm (l' := (nl, listC nv) :: frm L none none (some (.ref d)) (some (.ref nl)) xs ((d, listC vs) :: l)) (by walk_at "m_pm")
    refine law2_no hN S' h1 fun s' S' => ?_
    refine wpAny_execs_cons ?_
    by_cases h2 : (N 5).fmod 3 = 2
    · have S' := S'.perm (l' := (nl, listC nv) :: (d, listC vs) :: frm L none none (some (.ref d)) (some (.ref nl)) xs l) (by walk_at "m_pm")
      refine law3_yes (X := fun i => 5 * N i + i) T hh hN hl hX S' h2 fun d vs' tc s' hl hX S' => ?_
      obtain ⟨B', hE, hT, S'⟩ := St.join (X := tc) S' (fun b hb => by rw [hfs b hb]; simp)
      refine h B' d vs' (tabOf fun i => .inr [.inl i, .inl (5 * N i + i)]) s' hE ⟨tab_inj (fun i j hi hj e => ?_) (fun i j e => ?_), tab_old, hl, fun i hi => ?_⟩ S'
      · injection e with e; injection e with e _; injection e with e
        exact Int.ofNat.inj e
      · unfold oldKey at e; injection e with e; injection e with e _; cases e
      · obtain ⟨z, hz, b, t, u, rfl, hm⟩ := hX i hi
        obtain ⟨o, ho, hc⟩ := hT _ hm
        refine ⟨_, hz, ?_⟩
        rw [tab_nm hi]
        have hc : o = { cls := .type "tuple", data := .seq #[.int (i : Nat) t, .int (5 * N i + i) u] } := hc
        refine ⟨b, rfl, o, #[.int (i : Nat) t, .int (5 * N i + i) u], 0, ho, by rw [hc], by rw [hc], ?_⟩
        refine .cons (by simp [atomKind, Atom.is, Value.isInt]) (.cons (by simp [atomKind, Atom.is, Value.isInt]) .nil)
    · refine law3_no hN S' h2 fun s' S' => ?_
      have S' := S'.perm (l' := (nl, listC nv) :: (d, listC vs) :: frm L none none (some (.ref d)) (some (.ref nl)) xs l) (by walk_at "m_pm")
      refine h B d vs (tabOf fun i => .inl (.inl (5 * N i + i))) s' (Ext.refl B) ⟨tab_inj (fun i j hi hj e => ?_) (fun i j e => ?_), tab_old, hl, fun i hi => ?_⟩ S'
      · injection e with e; injection e with e
        omega
      · unfold oldKey at e; cases e
      · obtain ⟨z, hz, t, rfl⟩ := hX i hi
        refine ⟨_, hz, ?_⟩
        rw [tab_nm hi]
        simp [keyIs, Atom.is, Value.isInt]
end

end
-- V6
section
set_option maxRecDepth 100000
set_option maxHeartbeats 800000
/-- caches just made -/
inductive Fresh (w : World) (B : Shared) {K : Type} [DecidableEq K] (knd : AnyKind pw w K) : List (Kind × Nat) → List Value → Cells → Prop
  | nil : Fresh w B knd [] [] []
  | cons {kd : Kind} {pl : Nat} {x : Addr} {c cs : Cells} {ks : List (Kind × Nat)} {xs : List Value} : Cach w B knd kd x pl 0 [] c → Fresh w B knd ks xs cs → Fresh w B knd ((kd, pl) :: ks) (.ref x :: xs) (c ++ cs)
section
variable {w : World} {A : Around} {E : Value → Shared → Prop} {B B' : Shared} {fs : List Env} {l l' cs c : Cells} {s : Shared} {L fa sc nl d x : Addr} {cd : Value} {n : Nat} {xs : Names} {K : Type} [DecidableEq K] {knd : AnyKind pw w K} {ks : List (Kind × Nat)} {vs : List Value} {kd : Kind} {pl : Nat} {R : Result → Shared → Prop} {u tl : Tok}
theorem Fresh.snoc (F : Fresh w B knd ks vs cs) (C : Cach w B knd kd x pl 0 [] c) : ∃ cs', cs'.Perm (c ++ cs) ∧ Fresh w B knd (ks ++ [(kd, pl)]) (vs ++ [.ref x]) cs' := by
  induction F with
  | nil => exact ⟨c ++ [], .refl _, .cons C .nil⟩
  | @cons kd' pl' x' c' cs' ks' vs' C' _ ih =>
    obtain ⟨cs2, p, F2⟩ := ih
    refine ⟨c' ++ cs2, ?_, .cons C' F2⟩
    refine (List.Perm.append_left c' p).trans ?_
    rw [← List.append_assoc, ← List.append_assoc]
    exact List.Perm.append_right cs' List.perm_append_comm
theorem Fresh.rebase (F : Fresh w B knd ks vs cs) (hB : B.heap.StaysIn B'.heap) : ∃ cs', Weak cs cs' ∧ Fresh w B' knd ks vs cs' := by
  induction F with
  | nil => exact ⟨[], .nil, .nil⟩
  | cons C _ ih =>
    obtain ⟨cs', W, F'⟩ := ih
    obtain ⟨c', W', C'⟩ := C.rebase hB
    exact ⟨_, W'.app W, .cons C' F'⟩
theorem newOne (knd : AnyKind pw w K) (hpl : pl ≤ 100) (T : Stat (KK w) B.heap) (r : Room (n + 20) fs A) (F : Fresh w B knd ks vs cs) (S₀ : St B fs (cs ++ l) s)
    (h : ∀ x cs' s', Fresh w B knd (ks ++ [(kd, pl)]) (vs ++ [.ref x]) cs' → St B fs (cs' ++ l) s' → R (.ok (.ret (.ref x))) s') : codeAny (model pw w) A (.call (.ref (clsOf kd)) ⟨newArgs pl u tl kd, []⟩) R s := by
  refine opNew (n := n) knd hpl T r S₀ fun x c s' C S' => ?_
  obtain ⟨cs', p, F'⟩ := F.snoc C
  refine h x cs' s' F' (S'.perm ?_)
  rw [← List.append_assoc]
  exact List.Perm.append_right l p
abbrev specs : List (Kind × Nat) := [(.fifo, 3), (.fifo, 4), (.lru, 3), (.lru, 4), (.ttl, 3), (.ttl, 4), (.tlru, 3), (.tlru, 4)]
theorem Fresh.length (F : Fresh w B knd ks vs cs) : vs.length = ks.length := by
  induction F with
  | nil => rfl
  | cons _ _ ih => simp [ih]
/-- made = [..] -/
theorem law4 (knd : AnyKind pw w K) {h0 c0 d0 n0 : Option Value} {Q : Flow → Shared → Prop} (T : Stat (KK w) B.heap) (r : Room (n + 20) fs A) (S₀ : St B fs (frm L h0 c0 d0 n0 [(Str.ofString "script", .ref sc)] l) s)
    (h : ∀ a vs cs s', Fresh w B knd specs vs cs → St B fs (cs ++ ((a, listC vs) :: frm L h0 c0 d0 n0 [(Str.ofString "made", .ref a), (Str.ofString "script", .ref sc)] l)) s' → Q .next s') :
    wpAny (model pw w) A (exec (lst 4) (lenv L fa cd)) Q E s := by
  refine wpAny_Assign_Name ?_
  refine listDisp (B := B) (fs := fs) ?_
  have F0 : Fresh w B knd [] [] [] := .nil
  have S0 : St B fs ([] ++ (frm L h0 c0 d0 n0 [(Str.ofString "script", .ref sc)] l)) s := S₀
  clear S₀
  refine args_cons ?_
  refine Call_ ?_
  refine ldVG (v := .ref 917) T S0 (by kernel_rfl) (by kernel_rfl) (by decide +kernel) (by kernel_rfl) ?_
  refine callFn T (by kernel_rfl) ?_
  refine args_cons ?_
  refine intS S0 fun s' u0 S0 => ?_
  refine args_nil ⟨⟨_, _, S0⟩, wpAny_call ?_⟩
  refine newOne (n := n) (kd := .fifo) (pl := 3) (u := u0) (tl := 0) knd (by decide) T r F0 S0 fun x0 cs0 s' F1 S1 => ?_
  refine args_cons ?_
  refine Call_ ?_
  refine ldVG (v := .ref 917) T S1 (by kernel_rfl) (by kernel_rfl) (by decide +kernel) (by kernel_rfl) ?_
  refine callFn T (by kernel_rfl) ?_
  refine args_cons ?_
  refine intS S1 fun s' u1 S1 => ?_
  refine args_nil ⟨⟨_, _, S1⟩, wpAny_call ?_⟩
  refine newOne (n := n) (kd := .fifo) (pl := 4) (u := u1) (tl := 0) knd (by decide) T r F1 S1 fun x1 cs1 s' F2 S2 => ?_
  refine args_cons ?_
  refine Call_ ?_
  refine ldVG (v := .ref 982) T S2 (by kernel_rfl) (by kernel_rfl) (by decide +kernel) (by kernel_rfl) ?_
  refine callFn T (by kernel_rfl) ?_
  refine args_cons ?_
  refine intS S2 fun s' u2 S2 => ?_
  refine args_nil ⟨⟨_, _, S2⟩, wpAny_call ?_⟩
  refine newOne (n := n) (kd := .lru) (pl := 3) (u := u2) (tl := 0) knd (by decide) T r F2 S2 fun x2 cs2 s' F3 S3 => ?_
  refine args_cons ?_
  refine Call_ ?_
  refine ldVG (v := .ref 982) T S3 (by kernel_rfl) (by kernel_rfl) (by decide +kernel) (by kernel_rfl) ?_
  refine callFn T (by kernel_rfl) ?_
  refine args_cons ?_
  refine intS S3 fun s' u3 S3 => ?_
  refine args_nil ⟨⟨_, _, S3⟩, wpAny_call ?_⟩
  refine newOne (n := n) (kd := .lru) (pl := 4) (u := u3) (tl := 0) knd (by decide) T r F3 S3 fun x3 cs3 s' F4 S4 => ?_
  refine args_cons ?_
  refine Call_ ?_
  refine ldVG (v := .ref 1270) T S4 (by kernel_rfl) (by kernel_rfl) (by decide +kernel) (by kernel_rfl) ?_
  refine callFn T (by kernel_rfl) ?_
  refine args_cons ?_
  refine intS S4 fun s' u4 S4 => ?_
  refine args_cons ?_
  refine intS S4 fun s' v4 S4 => ?_
  refine args_cons ?_
  refine ldVG (v := .ref aClock) T S4 (by kernel_rfl) (by kernel_rfl) (by decide +kernel) (by kernel_rfl) ?_
  refine args_nil ⟨⟨_, _, S4⟩, wpAny_call ?_⟩
  refine newOne (n := n) (kd := .ttl) (pl := 3) (u := u4) (tl := v4) knd (by decide) T r F4 S4 fun x4 cs4 s' F5 S5 => ?_
  refine args_cons ?_
  refine Call_ ?_
  refine ldVG (v := .ref 1270) T S5 (by kernel_rfl) (by kernel_rfl) (by decide +kernel) (by kernel_rfl) ?_
  refine callFn T (by kernel_rfl) ?_
  refine args_cons ?_
  refine intS S5 fun s' u5 S5 => ?_
  refine args_cons ?_
  refine intS S5 fun s' v5 S5 => ?_
  refine args_cons ?_
  refine ldVG (v := .ref aClock) T S5 (by kernel_rfl) (by kernel_rfl) (by decide +kernel) (by kernel_rfl) ?_
  refine args_nil ⟨⟨_, _, S5⟩, wpAny_call ?_⟩
  refine newOne (n := n) (kd := .ttl) (pl := 4) (u := u5) (tl := v5) knd (by decide) T r F5 S5 fun x5 cs5 s' F6 S6 => ?_
  refine args_cons ?_
  refine Call_ ?_
  refine ldVG (v := .ref 1488) T S6 (by kernel_rfl) (by kernel_rfl) (by decide +kernel) (by kernel_rfl) ?_
  refine callFn T (by kernel_rfl) ?_
  refine args_cons ?_
  refine intS S6 fun s' u6 S6 => ?_
  refine args_cons ?_
  refine ldVG (v := .ref aEnd) T S6 (by kernel_rfl) (by kernel_rfl) (by decide +kernel) (by kernel_rfl) ?_
  refine args_cons ?_
  refine ldVG (v := .ref aClock) T S6 (by kernel_rfl) (by kernel_rfl) (by decide +kernel) (by kernel_rfl) ?_
  refine args_nil ⟨⟨_, _, S6⟩, wpAny_call ?_⟩
  refine newOne (n := n) (kd := .tlru) (pl := 3) (u := u6) (tl := 0) knd (by decide) T r F6 S6 fun x6 cs6 s' F7 S7 => ?_
  refine args_cons ?_
  refine Call_ ?_
  refine ldVG (v := .ref 1488) T S7 (by kernel_rfl) (by kernel_rfl) (by decide +kernel) (by kernel_rfl) ?_
  refine callFn T (by kernel_rfl) ?_
  refine args_cons ?_
  refine intS S7 fun s' u7 S7 => ?_
  refine args_cons ?_
  refine ldVG (v := .ref aEnd) T S7 (by kernel_rfl) (by kernel_rfl) (by decide +kernel) (by kernel_rfl) ?_
  refine args_cons ?_
  refine ldVG (v := .ref aClock) T S7 (by kernel_rfl) (by kernel_rfl) (by decide +kernel) (by kernel_rfl) ?_
  refine args_nil ⟨⟨_, _, S7⟩, wpAny_call ?_⟩
  refine newOne (n := n) (kd := .tlru) (pl := 4) (u := u7) (tl := 0) knd (by decide) T r F7 S7 fun x7 cs7 s' F8 S8 => ?_
  refine args_nil ?_
  refine ⟨by rw [sizeLine_eq]; exact Nat.le_of_ble_eq_true rfl, _, S8, fun a s' S' => ?_⟩
  have S2 := S'.perm (List.perm_append_comm : (frm L h0 c0 d0 n0 [(Str.ofString "script", .ref sc)] l ++ ((a, listC [.ref x0, .ref x1, .ref x2, .ref x3, .ref x4, .ref x5, .ref x6, .ref x7]) :: cs7)).Perm _)
  simp only [List.cons_append] at S2
  clear S'
  walk_at "m_wk"
  rename_i S'
  refine h a [.ref x0, .ref x1, .ref x2, .ref x3, .ref x4, .ref x5, .ref x6, .ref x7] cs7 _ F8 (S'.perm ?_)
  refine List.perm_append_comm.trans ?_
  simp only [List.cons_append]
  walk_at "m_pm"
end

end
-- V7
section
set_option maxRecDepth 100000
set_option maxHeartbeats 800000
section
variable {w : World} {A : Around} {E : Value → Shared → Prop} {B : Shared} {fs : List Env} {l c : Cells} {s : Shared} {x : Addr} {n pl cnt : Nat} {K : Type} [DecidableEq K] {knd : AnyKind pw w K} {kd : Kind} {st st' : List (K × Value)} {k : K} {key v : Value}
theorem spIn : specFn (KK w) (clsOf kd) (Str.ofString "__contains__") (inF kd) = true := by cases kd <;> kernel_rfl
theorem spGet : specFn (KK w) (clsOf kd) (Str.ofString "__getitem__") (getF kd) = true := by cases kd <;> kernel_rfl
theorem fnGet : fnIn (KK w) (getF kd) = true := by cases kd <;> kernel_rfl
theorem spSet : specFn (KK w) (clsOf kd) (Str.ofString "__setitem__") (setF kd) = true := by cases kd <;> kernel_rfl
theorem spLen : specFn (KK w) (clsOf kd) (Str.ofString "__len__") (lenF kd) = true := by cases kd <;> kernel_rfl
theorem sqSet : noSeq (KK w) (clsOf kd) = true := by cases kd <;> kernel_rfl
theorem cacheIn {Q : Value → Shared → Prop} (C : Cach w B knd kd x pl cnt st c) (T : Stat (KK w) B.heap) (r : Room (n + 20) fs A) (S₀ : St B fs (c ++ l) s) (hk : knd.is B.heap k key)
    (h : ∀ s' c', Cach w B knd kd x pl cnt st c' → St B fs (c' ++ l) s' → Q (.bool (vAt st k).isSome) s') : wpAny (model pw w) A (compareOp .In key (.ref x)) Q E s := by
  obtain ⟨dx, ns, mi, md⟩ := C.inst
  refine inOwn T S₀ (List.mem_append_left _ mi) (List.mem_append_left _ md) spIn (wpAny_call (opIn (n := n) C T r S₀ hk fun s' c' C' S' => ?_))
  exact wpAny_truthy_bool (h s' c' C' S')
theorem cacheGet {value slice : Expr} {Q : Value → Shared → Prop} (C : Cach w B knd kd x pl cnt st c) (T : Stat (KK w) B.heap) (r : Room (n + 21) fs A) (S₀ : St B fs (c ++ l) s) (hk : knd.is B.heap k key) (hv : vAt st k = some v)
    (h : ∀ s' c', Cach w B knd kd x pl cnt (touchS kd st k v) c' → St B fs (c' ++ l) s' → Q v s')
    (hsl : subscripted slice true (.ref x) key = runValue (.builtin "lifetime.subscript" ⟨[.ref x, key], []⟩) := by with_unfolding_all rfl) : wpAny (model pw w) A (subscriptTail value slice (.ref x) key) Q E s := by
  obtain ⟨dx, ns, mi, md⟩ := C.inst
  exact subOwn T S₀ (List.mem_append_left _ mi) (List.mem_append_left _ md) spGet fnGet (wpAny_call (opGet (n := n) C T r.in1 S₀ hk hv fun s' c' C' S' => h s' c' C' S')) hsl
theorem cacheSet {Q : Unit → Shared → Prop} (C : Cach w B knd kd x pl cnt st c) (hc : cnt < 800) (h0 : 0 < pl) (T : Stat (KK w) B.heap) (r : Room (n + 20) fs A) (S₀ : St B fs (c ++ l) s) (hk : knd.is B.heap k key) (hv : vAt st k = none)
    (h : ∀ s' c', Cach w B knd kd x pl (cnt + 1) (roomS pl st ++ [(k, v)]) c' → St B fs (c' ++ l) s' → Q () s') : wpAny (model pw w) A (setItem (.ref x) key v) Q E s := by
  obtain ⟨dx, ns, mi, md⟩ := C.inst
  exact setOwnItem T S₀ (List.mem_append_left _ mi) (List.mem_append_left _ md) sqSet spSet (wpAny_call (opSet (n := n) C hc h0 T r S₀ hk hv fun s' c' C' S' => h s' c' C' S'))
theorem cacheLen {Q : Value → Shared → Prop} (C : Cach w B knd kd x pl cnt st c) (hc : cnt < 800) (T : Stat (KK w) B.heap) (r : Room (n + 21) fs A) (S₀ : St B fs (c ++ l) s)
    (h : ∀ s' c' t, Cach w B knd kd x pl cnt st c' → St B fs (c' ++ l) s' → Q (.int st.length t) s') : wpAny (model pw w) A (call (.builtin "len") [.ref x]) Q E s := by
  obtain ⟨dx, ns, mi, md⟩ := C.inst
  refine lenOwn T S₀ (List.mem_append_left _ mi) (List.mem_append_left _ md) spLen (wpAny_call (opLen (n := n) C hc T r.in1 S₀ fun s' c' t C' S' => ?_))
  have h1 := C'.len
  have h2 := C'.pl
  exact ⟨⟨by omega, by omega⟩, h _ c' _ C' (S'.toks _)⟩
theorem mthPop : methName (KK w) (clsOf kd) (Str.ofString "popitem") (popF kd) = true := by cases kd <;> kernel_rfl
theorem kpPop : keepIn (KK w) (.ref (popF kd)) = true := by cases kd <;> kernel_rfl
theorem Cach.instPop (C : Cach w B knd kd x pl cnt st c) : ∃ dx ns, (x, instC (clsOf kd) dx) ∈ c ∧ (dx, idC ns) ∈ c ∧ Str.ofString "popitem" ∉ ns.map (·.1) := by
  cases kd with
  | fifo => obtain ⟨dx, dd, od, t, u, xs, os, rfl, _⟩ := C.rep; exact ⟨dx, _, .head _, .tail _ (.head _), by walk_at "m_nin"⟩
  | lru => obtain ⟨dx, dd, od, t, u, xs, os, rfl, _⟩ := C.rep; exact ⟨dx, _, .head _, .tail _ (.head _), by walk_at "m_nin"⟩
  | ttl => obtain ⟨dx, dd, tm, dt, rt, ld, t, u, tl, xs, ls, ev, kv, nx, pv, ns, rfl, _⟩ := C.rep; exact ⟨dx, _, .head _, .tail _ (.head _), by walk_at "m_nin"⟩
  | tlru => obtain ⟨dx, dd, tm, dt, it, od, t, u, xs, is_, os, ev, kv, rv, ns, rfl, _⟩ := C.rep; exact ⟨dx, _, .head _, .tail _ (.head _), by walk_at "m_nin"⟩
theorem cachePop {env : Env} {pl' : Sem Bool} {pos : Pos} {k0 : K} {v0 : Value} {Q : Value → Shared → Prop} (C : Cach w B knd kd x pl cnt ((k0, v0) :: st') c) (hc : cnt < 800) (T : Stat (KK w) B.heap) (r : Room (n + 20) fs A) (S₀ : St B fs (c ++ l) s)
    (h : ∀ b kv s' c', knd.is B.heap k0 kv → Cach w B knd kd x pl cnt st' c' → St B fs ((b, pairC kv v0) :: (c' ++ l)) s' → Q (.ref b) s') :
    wpAny (model pw w) A (getMethod (.ref x) (Str.ofString "popitem") pl') (fun fx s₁ => wpAny (model pw w) A (callWith pos fx.1 fx.2 (backTo pos (starEach [] env)) []) Q E s₁) E s := by
  obtain ⟨dx, ns, mi, md, mn⟩ := C.instPop
  refine methFn T S₀ (List.mem_append_left _ mi) (List.mem_append_left _ md) mthPop ?_ mn
  refine callFn0 T S₀ kpPop (wpAny_call ?_)
  exact opPop (n := n) C hc T r S₀ fun b kv s' c' hk C' S' => h b kv s' c' hk C' S'
end

end
-- V8
section
set_option maxRecDepth 100000
/-! what the caches do, on keys alone -/
def touchK (kd : Kind) (ks : List Nat) (k : Nat) : List Nat := match kd with
  | .fifo => ks
  | _ => (ks.filter fun x => !decide (x = k)) ++ [k]
def roomK (pl : Nat) (ks : List Nat) : List Nat := if ks.length < pl then ks else ks.tail
def oldsK (pl : Nat) : Nat → List Nat
  | 0 => []
  | n + 1 => roomK pl (oldsK pl n) ++ [5 + n]
def asks : List Nat := [0, 1, 2, 3, 0, 1, 4, 0, 1, 2, 3, 4]
def stepK (kd : Kind) (pl : Nat) (q : List Nat × List Nat) (i a : Nat) : List Nat × List Nat :=
  if a ∈ q.2 then (q.1 ++ [i], touchK kd q.2 a) else (q.1, roomK pl q.2 ++ [a])
def machK (kd : Kind) (pl n : Nat) : Nat → List Nat × List Nat
  | 0 => ([], oldsK pl n)
  | i + 1 => stepK kd pl (machK kd pl n i) i (asks.getD i 0)
def hitsOf : Nat → List Nat
  | 0 => [7, 8, 11] | 1 => [4, 5] | 2 => [7, 8] | 3 => [4, 5, 7, 8] | 4 => [7, 8] | 5 => [4, 5, 7, 8] | 6 => [7, 8] | _ => [4, 5, 7, 8]
def specOf (which : Nat) : Kind × Nat := specs.getD which (.fifo, 3)
def missOf (hits : List Nat) : List Nat := ((List.range 12).filter fun i => !decide (i ∈ hits)).map fun i => asks.getD i 0
def lastOf (which : Nat) : List Nat := if which < 2 then (missOf (hitsOf which)).drop ((missOf (hitsOf which)).length - (specOf which).2) else [1, 2, 3, 4].drop (4 - (specOf which).2)
theorem run_ok : ∀ which, which < 8 → ∀ n, n < 5 → machK (specOf which).1 (specOf which).2 n 12 = (hitsOf which, lastOf which) := by decide
theorem last_len : ∀ which, which < 8 → (lastOf which).length = (specOf which).2 := by decide
theorem last_lt : ∀ which, which < 8 → ∀ k ∈ lastOf which, k < 5 := by decide
theorem spec_pl : ∀ which, which < 8 → (specOf which).2 = 3 + which % 2 := by decide
/-- a cache's answers over these keys -/
structure StOk (st : List (Nat × Value)) (ks : List Nat) : Prop where
  keys : st.map (·.1) = ks
  vals : ∀ p ∈ st, p.1 < 5 → ∃ t, p.2 = .int p.1 t
theorem StOk.nil : StOk [] [] := ⟨rfl, fun p hp => nomatch hp⟩
variable {st : List (Nat × Value)} {ks : List Nat} {k pl : Nat} {v : Value} {kd : Kind}
theorem StOk.isSome (h : StOk st ks) : (vAt st k).isSome = decide (k ∈ ks) := by
  rw [Bool.eq_iff_iff, vAt_isSome, h.keys]; simp
theorem StOk.room (h : StOk st ks) (hv : k < 5 → ∃ t, v = .int k t) : StOk (roomS pl st ++ [(k, v)]) (roomK pl ks ++ [k]) := by
  have hl : st.length = ks.length := by rw [← h.keys, List.length_map]
  refine ⟨?_, fun p hp h5 => ?_⟩
  · rw [List.map_append, ← h.keys]
    unfold roomS roomK
    rw [List.length_map]
    split
    · rfl
    · rw [List.map_tail]; rfl
  · rcases List.mem_append.mp hp with hp | hp
    · refine h.vals p ?_ h5
      unfold roomS at hp
      split at hp
      · exact hp
      · exact List.mem_of_mem_tail hp
    · rw [List.mem_singleton.mp hp] at h5 ⊢
      exact hv h5
theorem StOk.at (h : StOk st ks) (hv : vAt st k = some v) (h5 : k < 5) : ∃ t, v = .int k t := by
  unfold vAt at hv
  obtain ⟨p, hp, rfl⟩ := Option.map_eq_some_iff.mp hv
  have hk : p.1 = k := of_decide_eq_true (List.find?_some (p := fun x : Nat × Value => decide (x.1 = k)) hp)
  obtain ⟨t, ht⟩ := h.vals p (List.mem_of_find?_eq_some hp) (by omega)
  exact ⟨t, by rw [ht, hk]⟩
theorem StOk.touch (h : StOk st ks) (hv : vAt st k = some v) : StOk (touchS kd st k v) (touchK kd ks k) := by
  have gen : StOk (dropS st k ++ [(k, v)]) ((ks.filter fun x => !decide (x = k)) ++ [k]) := by
    refine ⟨?_, fun p hp h5 => ?_⟩
    · rw [List.map_append, keys_drop, h.keys]; rfl
    · rcases List.mem_append.mp hp with hp | hp
      · exact h.vals p (List.mem_filter.mp hp).1 h5
      · rw [List.mem_singleton.mp hp] at h5 ⊢
        exact h.at hv h5
  cases kd with
  | fifo => exact h
  | lru => exact gen
  | ttl => exact gen
  | tlru => exact gen

end
-- V9
section
set_option maxRecDepth 100000
set_option maxHeartbeats 800000
/-- a frame's names, as far as they are known -/
def naC (sc : Scope) (m : Names) : Cell := fun o => ∃ xs, nsC sc xs o ∧ ∀ p ∈ m, p ∈ xs
theorem soft_naC {sc : Scope} {m : Names} : Soft (naC sc m) := fun _ _ h => h
theorem naC_less {sc : Scope} {m m' : Names} (h : ∀ p ∈ m', p ∈ m) : ∀ o, naC sc m o → naC sc m' o := fun _ ⟨xs, h1, h2⟩ => ⟨xs, h1, fun p hp => h2 p (h p hp)⟩
theorem naC_of {sc : Scope} {m : Names} : ∀ o, nsC sc m o → naC sc m o := fun _ h => ⟨m, h, fun _ hp => hp⟩
theorem lookup_filter_ne {β : Type} {xs : List (Str × β)} {x y : Str} (h : y ≠ x) : (xs.filter fun p => !(p.1 == x)).lookup y = xs.lookup y := by
  induction xs with
  | nil => rfl
  | cons p r ih =>
    obtain ⟨z, u⟩ := p
    rw [List.filter_cons]
    by_cases e : z = x
    · subst e
      simp only [beq_self_eq_true, Bool.not_true, Bool.false_eq_true, if_false]
      rw [ih, List.lookup_cons, beq_eq_false_iff_ne.mpr h]
    · simp only [beq_eq_false_iff_ne.mpr e, Bool.not_false, if_true]
      rw [List.lookup_cons, List.lookup_cons, ih]
section
variable {M : Model} {A : Around} {E : Value → Shared → Prop} {B : Shared} {fs : List Env} {l l' : Cells} {s : Shared} {q : Str} {sc : Scope} {L fa c : Addr} {cd : Value} {m m' : Names} {x : Str} {v : Value} {pos : Pos}
theorem ldA {Q : Value → Shared → Prop} (S : St B fs l s) (mm : (L, naC sc m) ∈ l) (mv : (x, v) ∈ m) (h : Q v s) :
    wpAny M A (eval (.Name x pos) (cenv sc q L fa cd)) Q E s := by
  obtain ⟨o, ho, xs, ⟨⟨es, ep, h1, h2, h3⟩, nd, hk, hl⟩, hx⟩ := S.has _ mm
  have mv := hx _ mv
  exact wpAny_Name (wpAny_loadName_local hk (hl _ mv).1 ⟨o, es, ep, ho, h1, h2, h3⟩ (lookup_of_mem nd mv) h) (hl _ mv).2
theorem stA {Q : Unit → Shared → Prop} (S : St B fs l s) (mm : Upd l (L, naC sc m) (L, naC sc ((x, v) :: m)) l') (h : ∀ s', St B fs l' s' → Q () s') (hx : x ∉ m.map (·.1))
    (hl : sc.names.lookup x = some .local) (hd : (x == ("__debug__" : Str)) = false) :
    wpAny M A (storeName (cenv sc q L fa cd) x v) Q E s := by
  obtain ⟨o, ho, xs, ⟨⟨es, ep, h1, h2, h3⟩, nd, hk, hls⟩, hsub⟩ := S.has _ mm.mem
  refine wpAny_storeName_local hl ⟨o, es, ep, ho, h1, h2, h3⟩ (fun h' hn hs => h _ ?_) (by show (sc.kind == .class || (sc.kind == .module && L != mainGlobals)) = false; rw [hk]; rfl)
  obtain ⟨o', es', ep', ho', hd', hk', hf⟩ := hn
  refine S.set mm _ hs ho' ⟨(x, v) :: xs.filter fun p => !(p.1 == x), ⟨⟨es', ep', hd', hk', fun y => (hf y).trans ?_⟩, ?_, hk, fun p hp => ?_⟩, fun p hp => ?_⟩ (.inl fun vs e => by rw [hd'] at e; cases e) fun _ => soft_naC
  · show (if y = x then some v else List.lookup y xs) = _
    rw [List.lookup_cons]
    by_cases e : y = x
    · subst e; simp
    · rw [if_neg e, beq_eq_false_iff_ne.mpr e, lookup_filter_ne e]
  · rw [List.map_cons]
    refine List.nodup_cons.mpr ⟨fun hm => ?_, nd.sublist ((List.filter_sublist).map _)⟩
    obtain ⟨p, hp, e⟩ := List.mem_map.mp hm
    have := (List.mem_filter.mp hp).2
    rw [e] at this; simp at this
  · rcases List.mem_cons.mp hp with rfl | hp
    · exact ⟨hl, hd⟩
    · exact hls p (List.mem_filter.mp hp).1
  · rcases List.mem_cons.mp hp with rfl | hp
    · exact .head _
    · refine .tail _ (List.mem_filter.mpr ⟨hsub p hp, ?_⟩)
      have : p.1 ≠ x := fun e => hx (List.mem_map.mpr ⟨p, hp, e⟩)
      simp [this]
theorem Weak.names (h : ∀ p ∈ m', p ∈ m) (W : Weak l l') : Weak ((L, naC sc m) :: l) ((L, naC sc m') :: l') := .cons (naC_less h) (fun _ _ _ => soft_naC) W
theorem Weak.named (W : Weak l l') : Weak ((L, nsC sc m) :: l) ((L, naC sc m) :: l') := .cons naC_of (fun _ _ _ => soft_naC) W
end
end
local macro_rules | `(tactic| walk_at "m_wk1") => `(tactic| ((with_reducible show wpAny _ _ (eval (Expr.Name _ _) (cenv _ _ _ _ _)) _ _ _); refine ldA (by assumption) (by walk_at "m_mem") (by walk_at "m_mem") ?_))
section
set_option maxRecDepth 100000
set_option maxHeartbeats 800000
end
local macro_rules | `(tactic| walk_at "m_wk1") => `(tactic| ((with_reducible show wpAny _ _ (storeName (cenv _ _ _ _ _) _ _) _ _ _); refine stA (by assumption) (by walk_at "m_updt") (fun s' S' => ?_) (by walk_at "m_nin") (by kernel_rfl) (by decide +kernel)))
section
set_option maxRecDepth 100000
set_option maxHeartbeats 800000
def forBody : Stmt → List Stmt
  | .For _ _ b _ _ => b
  | _ => []
abbrev bst (i : Nat) : Stmt := stIn (forBody (lst 5)) i
abbrev frn (L : Addr) (hits cache named numbers : Option Value) (m : Names) (l : Cells) : Cells :=
  (L + 1 + 3, cellC hits) :: (L + 1 + 2, cellC cache) :: (L + 1 + 1, cellC named) :: (L + 1 + 0, cellC numbers) :: (L, naC scL m) :: l
abbrev scn (L : Addr) (h cch : Option Value) (d nl : Addr) (kv nv : List Value) (m : Names) (z : Cells) : Cells := frn L h cch (some (.ref d)) (some (.ref nl)) m ((nl, listC nv) :: (d, listC kv) :: z)
section
variable {w : World} {A : Around} {E : Value → Shared → Prop} {B : Shared} {fs : List Env} {l l' z : Cells} {s : Shared} {L fa nl d x : Addr} {cd : Value} {n : Nat} {nv kv : List Value} {h0 c0 : Option Value}
/-- room = 3 + which % 2 -/
theorem body0 {i : Nat} {t : Tok} {Q : Flow → Shared → Prop} (hi : i < 8) (S₀ : St B fs (scn L h0 c0 d nl kv nv [(Str.ofString "which", .int i t)] z) s)
    (h : ∀ s' t', St B fs (scn L h0 c0 d nl kv nv [(Str.ofString "room", .int ((3 + i % 2 : Nat) : Int) t'), (Str.ofString "which", .int i t)] z) s' → Q .next s') :
    wpAny (model pw w) A (exec (bst 0) (lenv L fa cd)) Q E s := by
  have e : (3 : Int) + (i : Int).fmod 2 = ((3 + i % 2 : Nat) : Int) := by
    have : ∀ i, i < 8 → (3 : Int) + ((i : Nat) : Int).fmod 2 = ((3 + i % 2 : Nat) : Int) := by decide
    exact this i hi
  refine wpAny_Assign_Name ?_
  walk_at "m_wk"
  rename_i S'
  rw [e] at S'
  exact h _ _ S'
end

end
-- V10
section
set_option maxRecDepth 100000
set_option maxHeartbeats 1600000
theorem Stat.ext {K : Frag} {B B' : Shared} (T : Stat K B.heap) (h : Ext B B') : Stat K B'.heap := T.keeps h.heap
theorem Named.ext {w : World} {B B' : Shared} {f : Nat → Key} {kv : List Value} (h : Named w B f kv) (e : Ext B B') : Named w B' f kv :=
  ⟨h.inj, h.old, h.len, fun i hi => let ⟨z, h1, h2⟩ := h.is i hi; ⟨z, h1, (keyKind pw w).grows h2 e.heap⟩⟩
abbrev kndOf (w : World) (f : Nat → Key) (hf : ∀ x y, f x = f y → x = y) : AnyKind pw w Nat := pullKind (keyKind pw w) f hf
theorem olds_lt (pl : Nat) : ∀ n, ∀ k ∈ oldsK pl n, k < 5 + n
  | 0, k, h => by cases h
  | n + 1, k, h => by
    rcases List.mem_append.mp h with h | h
    · have := olds_lt pl n k (by
        unfold roomK at h
        split at h
        · exact h
        · exact List.mem_of_mem_tail h)
      omega
    · rw [List.mem_singleton.mp h]; omega
section
variable {w : World} {A : Around} {E : Value → Shared → Prop} {B : Shared} {fs : List Env} {l l' z c cs : Cells} {s : Shared} {L fa nl d x : Addr} {cd : Value} {n n6 pl : Nat} {nv kv vs : List Value} {h0 c0 : Option Value} {N : Nat → Int} {f : Nat → Key} {hf : ∀ x y, f x = f y → x = y} {kd : Kind} {ks : List (Kind × Nat)} {m : Names}
/-- for old in range(numbers[6] % 5): cache['old', old] = old -/
theorem body1 {Q : Flow → Shared → Prop} (T : Stat (KK w) B.heap) (r : Room (n + 20) fs A) (hfs : ∀ b ∈ fs.filterMap (·.frame), b = L) (hN : ∀ i, i < 7 → ∃ t, nv[i]? = some (.int (N i) t)) (h6 : (N 6).fmod 5 = (n6 : Int)) (h5 : n6 < 5) (hpl : 0 < pl)
    (hm : Str.ofString "old" ∉ m.map (·.1)) (nm : Named w B f kv)
    (C : Cach w B (kndOf w f hf) kd x pl 0 [] c) (F : Fresh w B (kndOf w f hf) ks vs cs)
    (S₀ : St B fs (scn L h0 (some (.ref x)) d nl kv nv m (c ++ (cs ++ l))) s)
    (h : ∀ B' c' cs' st s', Ext B B' → Cach w B' (kndOf w f hf) kd x pl n6 st c' → StOk st (oldsK pl n6) → Fresh w B' (kndOf w f hf) ks vs cs' → St B' fs (scn L h0 (some (.ref x)) d nl kv nv m (c' ++ (cs' ++ l))) s' → Q .next s') :
    wpAny (model pw w) A (exec (bst 1) (lenv L fa cd)) Q NoE s := by
  obtain ⟨u, hu⟩ := hN 6 (by decide)
  refine wpAny_For ?_
  refine Call_ ?_
  walk_at "m_wk"
  refine PyProof.Rows.callWith_type1 ?_
  refine args_cons ?_
  walk_at "m_wk"
  refine Subscript_ ?_
  walk_at "m_wk"
  refine subL (a := nl) (vs := nv) (by assumption) (by walk_at "m_mem") (by decide) (by decide) hu ?_
  walk_at "m_wk"
  refine args_nil ?_
  refine rangeS (by assumption) fun rg t₁ t₂ s' S' => ?_
  refine iterRange (n := n6) (k := (N 6).fmod 5) (by assumption) h6 (by walk_at "m_mem") (by omega) fun I s' S' => ?_
  have S' := (S'.perm (l' := (rg, _) :: (I, ritC 0 n6) :: scn L h0 (some (.ref x)) d nl kv nv m (c ++ (cs ++ l))) (by walk_at "m_pm")).tail
  refine forRange (n := n6) (fun i B' l' => ∃ c' cs' st, Ext B B' ∧ Cach w B' (kndOf w f hf) kd x pl i st c' ∧ StOk st (oldsK pl i) ∧ Fresh w B' (kndOf w f hf) ks vs cs' ∧ l' = scn L h0 (some (.ref x)) d nl kv nv m (c' ++ (cs' ++ l)))
    r.handled S' ⟨c, cs, [], Ext.refl B, C, StOk.nil, F, rfl⟩ ?_ ?_
  · rintro i t B' l' s hi ⟨c', cs', st, hE, C', hst, F', rfl⟩ S
    have T' := T.ext hE
    refine wpAny_assign_Name ?_
    refine stA S (by walk_at "m_updt") (fun s' S' => ?_) hm (by kernel_rfl) (by decide +kernel)
    refine wpAny_execs_cons ?_
    refine wpAny_Assign_Subscript ?_
    walk_at "m_wk"
    refine tupDisp (B := B') (fs := fs) ?_
    refine args_cons ?_
    walk_at "m_wk"
    refine args_cons ?_
    walk_at "m_wk"
    refine args_nil ?_
    refine ⟨by rw [sizeLine_eq]; exact Nat.le_of_ble_eq_true rfl, _, by assumption, fun b s' S' => ?_⟩
    obtain ⟨B2, hE2, hT2, S2⟩ := St.join (X := [(b, _)]) S' (fun b hb => by rw [hfs b hb]; exact List.mem_map.mpr ⟨(L, naC scL _), by walk_at "m_mem", rfl⟩)
    obtain ⟨ob, hob, hbc⟩ := hT2 _ (.head _)
    have hbc : ob = _ := hbc
    obtain ⟨tk, hbd⟩ : ∃ tk, ob.data = .seq #[.str (Str.ofString "old") tk, .int (i : Nat) t] 0 := ⟨_, by rw [hbc]⟩
    have hbcl : ob.cls = .type "tuple" := by rw [hbc]
    have T2 := T'.ext hE2
    obtain ⟨c2, W1, C2⟩ := C'.rebase hE2.heap
    obtain ⟨cs2, W2, F2⟩ := F'.rebase hE2.heap
    have S3 := S2.weak (l' := (I, ritC ((i + 1 : Nat) : Int) ((n6 : Int) - ((i + 1 : Nat) : Int))) :: scn L h0 (some (.ref x)) d nl kv nv m (c2 ++ (cs2 ++ l)))
      (.keep (.keep (.keep (.keep (.keep (.names (fun p hp => .tail _ hp) (.keep (.keep (W1.app (W2.app (.refl _)))))))))))
    have hk : (kndOf w f hf).is B2.heap (5 + i) (.ref b) := by
      show keyIs pw w B2.heap (f (5 + i)) (.ref b)
      rw [nm.old i]
      refine ⟨b, rfl, ob, #[.str (Str.ofString "old") tk, .int (i : Nat) t], 0, hob, hbcl, hbd, ?_⟩
      · exact .cons (by simp [atomKind, Atom.is, Value.isStrOf]) (.cons (by simp [atomKind, Atom.is, Value.isInt]) .nil)
    have hv : vAt st (5 + i) = none := by
      have := hst.isSome (k := 5 + i)
      have h2 : ¬ 5 + i ∈ oldsK pl i := fun hm => absurd (olds_lt pl i _ hm) (Nat.lt_irrefl _)
      rw [decide_eq_false h2] at this
      cases q : vAt st (5 + i) with
      | none => rfl
      | some v => rw [q] at this; cases this
    refine cacheSet (n := n) C2 (by omega) hpl T2 r (S3.perm (l' := c2 ++ ((I, ritC ((i + 1 : Nat) : Int) ((n6 : Int) - ((i + 1 : Nat) : Int))) :: scn L h0 (some (.ref x)) d nl kv nv m (cs2 ++ l))) ?_) hk hv fun s' c' C' S' => ?_
    · walk_at "m_pm"
    refine wpAny_execs_nil ?_
    refine ⟨B2, _, ⟨c', cs2, _, hE.trans hE2, C', hst.room fun hlt => absurd hlt (by omega), F2, rfl⟩, S'.perm ?_⟩
    walk_at "m_pm"
  · rintro B' l' s ⟨c', cs', st, hE, C', hst, F', rfl⟩ S
    exact h B' c' cs' st s hE C' hst F' S
end

end
-- V11
section
set_option maxRecDepth 100000
set_option maxHeartbeats 1600000
def asksI : List Int := [0, 1, 2, 3, 0, 1, 4, 0, 1, 2, 3, 4]
theorem asksI_at : ∀ i, i < 12 → asksI.getD i 0 = ((asks.getD i 0 : Nat) : Int) := by decide
theorem asks_lt : ∀ i, i < 12 → asks.getD i 0 < 5 := by decide
section
variable {w : World} {A : Around} {E : Value → Shared → Prop} {B : Shared} {fs : List Env} {l l' z c cs : Cells} {s : Shared} {L fa nl d x : Addr} {cd : Value} {n n6 pl : Nat} {nv kv vs : List Value} {h0 c0 : Option Value} {N : Nat → Int} {f : Nat → Key} {hf : ∀ x y, f x = f y → x = y} {kd : Kind} {ks : List (Kind × Nat)} {m : Names} {R : Result → Shared → Prop}
/-- _law_asks() -/
theorem c1497 (T : Stat (KK w) B.heap) (r : Room (n + 1) fs A) (S₀ : St B fs l s) (h : ∀ a vs s', IntsAre vs asksI → St B fs ((a, listC vs) :: l) s' → R (.ok (.ret (.ref a))) s') : codeAny (model pw w) A (.call (.ref 1497) ⟨[], []⟩) R s := by
  refine callS (binds := []) (names := []) (locs := []) fnOk1497 T S₀ r (BindsTo.of_eq (by kernel_rfl)) rfl rfl (by kernel_rfl) (by decide +kernel) (by kernel_rfl) fun L s' r₁ S₁ => ?_
  refine wpAny_execs_cons ?_
  walk_at "m_wk"
  refine listDisp (B := B) (fs := fnEnv fd1497 L 1497 :: fs) ?_
  refine args_cons ?_
  walk_at "m_wk"
  refine args_cons ?_
  walk_at "m_wk"
  refine args_cons ?_
  walk_at "m_wk"
  refine args_cons ?_
  walk_at "m_wk"
  refine args_cons ?_
  walk_at "m_wk"
  refine args_cons ?_
  walk_at "m_wk"
  refine args_cons ?_
  walk_at "m_wk"
  refine args_cons ?_
  walk_at "m_wk"
  refine args_cons ?_
  walk_at "m_wk"
  refine args_cons ?_
  walk_at "m_wk"
  refine args_cons ?_
  walk_at "m_wk"
  refine args_cons ?_
  walk_at "m_wk"
  refine args_nil ?_
  refine ⟨by rw [sizeLine_eq]; exact Nat.le_of_ble_eq_true rfl, _, by assumption, fun a s' S' => ?_⟩
  exact h a _ _ (.cons _ _ (.cons _ _ (.cons _ _ (.cons _ _ (.cons _ _ (.cons _ _ (.cons _ _ (.cons _ _ (.cons _ _ (.cons _ _ (.cons _ _ (.cons _ _ .nil)))))))))))) (St.done L S' (by walk_at "m_pm"))
/-- hits = [] -/
theorem body2 {Q : Flow → Shared → Prop} (S₀ : St B fs (scn L h0 c0 d nl kv nv m z) s) (h : ∀ a s', St B fs ((a, listC []) :: scn L (some (.ref a)) c0 d nl kv nv m z) s' → Q .next s') :
    wpAny (model pw w) A (exec (bst 2) (lenv L fa cd)) Q E s := by
  refine wpAny_Assign_Name ?_
  refine listNil (by assumption) fun a s' S' => ?_
  refine stHits S' (by walk_at "m_updt") fun s' S' => ?_
  exact h a s' S'
theorem appendM {pl : Sem Bool} {a : Addr} {Q : Value × List Value → Shared → Prop} (S : St B fs l s) (mm : (a, listC vs) ∈ l) (h : Q (.builtin "list.append", [.ref a]) s) : wpAny (model pw w) A (getMethod (.ref a) (Str.ofString "append") pl) Q E s := by
  obtain ⟨o, ho, hc, hd, _⟩ := S.has _ mm
  exact getMethod_list_append ho hc hd h
/-- the asks, one cache -/
theorem body3 {t1 t2 : Tok} {i8 : Nat} {st : List (Nat × Value)} {hl : Addr} {Q : Flow → Shared → Prop} (T : Stat (KK w) B.heap) (r : Room (n + 22) fs A) (hpl : 0 < pl) (h5 : n6 < 5) (nm : Named w B f kv)
    (C : Cach w B (kndOf w f hf) kd x pl n6 st c) (hst : StOk st (oldsK pl n6))
    (S₀ : St B fs ((hl, listC []) :: scn L (some (.ref hl)) (some (.ref x)) d nl kv nv [(Str.ofString "room", .int (pl : Nat) t1), (Str.ofString "which", .int (i8 : Nat) t2)] (c ++ l)) s)
    (h : ∀ c' st cnt hv s', Cach w B (kndOf w f hf) kd x pl cnt st c' → cnt < 20 → StOk st (machK kd pl n6 12).2 → IntsAre hv ((machK kd pl n6 12).1.map fun (i : Nat) => (i : Int)) → St B fs ((hl, listC hv) :: scn L (some (.ref hl)) (some (.ref x)) d nl kv nv [(Str.ofString "room", .int (pl : Nat) t1), (Str.ofString "which", .int (i8 : Nat) t2)] (c' ++ l)) s' → Q .next s') :
    wpAny (model pw w) A (exec (bst 3) (lenv L fa cd)) Q NoE s := by
  refine wpAny_For ?_
  refine Call_ ?_
  refine ldEnum T S₀ ?_
  refine PyProof.Rows.callWith_type1 ?_
  refine args_cons ?_
  refine Call_ ?_
  refine ldVG (v := .ref 1497) T S₀ (by kernel_rfl) (by kernel_rfl) (by decide +kernel) (by kernel_rfl) ?_
  refine callFn0 T S₀ (by kernel_rfl) (wpAny_call (c1497 (n := n) T (r.less (by omega)) S₀ fun al av s' hav S' => ?_))
  refine args_nil ?_
  refine enumS (a := al) (vs := av) (by assumption) (by walk_at "m_mem") fun e it s' S' => ?_
  refine iterEnum (by assumption) (by walk_at "m_mem") ?_
  have hlen : av.length = 12 := hav.length
  refine forEnum (a := al) (vs := av) (fun i B' l' => B' = B ∧ ∃ c st cnt hv, Cach w B (kndOf w f hf) kd x pl cnt st c ∧ cnt ≤ n6 + i ∧ StOk st (machK kd pl n6 i).2 ∧ IntsAre hv ((machK kd pl n6 i).1.map fun (i : Nat) => (i : Int)) ∧ hv.length ≤ i ∧
      l' = (al, listC av) :: (hl, listC hv) :: scn L (some (.ref hl)) (some (.ref x)) d nl kv nv [(Str.ofString "room", .int (pl : Nat) t1), (Str.ofString "which", .int (i8 : Nat) t2)] (c ++ l))
    r.handled S' ⟨rfl, c, st, n6, [], C, Nat.le_refl _, hst, .nil, Nat.le_refl _, rfl⟩ ?_ ?_ ?_
  · rintro i B' l' ⟨rfl, c, st, cnt, hv, C, _, _, _, _, rfl⟩
    walk_at "m_mem"
  · rintro i v t B' l' s old hv ⟨rfl, c, st, cnt, hvs, C, hcnt, hst, hhv, hhl, rfl⟩ S
    have hi : i < 12 := by have := (List.getElem?_eq_some_iff.mp hv).1; omega
    obtain ⟨ta, hta⟩ := intsAt hav i (by show i < asksI.length; exact hi)
    rw [hv] at hta
    cases hta
    rw [asksI_at i hi]
    have ha := asks_lt i hi
    generalize hak : asks.getD i 0 = ak at ha
    obtain ⟨kz, hkz, hkey⟩ := nm.is ak ha
    have hkey : (kndOf w f hf).is B'.heap ak kz := hkey
    refine wpAny_assign_Name ?_
    walk_at "m_wk1"
    refine wpAny_assign_Name ?_
    walk_at "m_wk1"
    refine wpAny_execs_cons ?_
    refine wpAny_If ?_
    walk_at "m_wk"
    refine Subscript_ ?_
    walk_at "m_wk"
    refine subL (a := d) (vs := kv) (by assumption) (by walk_at "m_mem") (by omega) (by omega) (by simpa using hkz) ?_
    walk_at "m_wk"
    refine cacheIn (n := n) C T (r.less (by omega)) (St.perm (l' := c ++ ((e, enC it (i + 1) old) :: (it, litC al (i + 1)) :: (al, listC av) :: (hl, listC hvs) :: scn L (some (.ref hl)) (some (.ref x)) d nl kv nv [(Str.ofString "ask", .int (ak : Nat) ta), (Str.ofString "place", .int (i : Nat) t), (Str.ofString "room", .int (pl : Nat) t1), (Str.ofString "which", .int (i8 : Nat) t2)] l)) (by assumption) (by walk_at "m_pm")) hkey fun s' c1 C1 S1 => ?_
    have S1 := S1.perm (l' := (e, enC it (i + 1) old) :: (it, litC al (i + 1)) :: (al, listC av) :: (hl, listC hvs) :: scn L (some (.ref hl)) (some (.ref x)) d nl kv nv [(Str.ofString "ask", .int (ak : Nat) ta), (Str.ofString "place", .int (i : Nat) t), (Str.ofString "room", .int (pl : Nat) t1), (Str.ofString "which", .int (i8 : Nat) t2)] (c1 ++ l)) (by walk_at "m_pm")
    have his := hst.isSome (k := ak)
    by_cases hmem : ak ∈ (machK kd pl n6 i).2
    · rw [decide_eq_true hmem] at his
      have hrun : machK kd pl n6 (i + 1) = ((machK kd pl n6 i).1 ++ [i], touchK kd (machK kd pl n6 i).2 ak) := by
        show stepK _ _ _ _ _ = _
        rw [hak]; unfold stepK; rw [if_pos hmem]
      obtain ⟨v, hv⟩ := Option.isSome_iff_exists.mp his
      obtain ⟨tv, rfl⟩ := hst.at hv ha
      rw [his]
      walk_at "m_wk"
      refine iteT rfl ?_
      walk_at "m_wk"
      refine methodCall_KW ?_
      refine ldHits S1 (by walk_at "m_mem") ?_
      refine appendM S1 (by walk_at "m_mem" : (hl, listC hvs) ∈ _) ?_
      refine callB ?_
      refine args_cons ?_
      walk_at "m_wk"
      refine args_nil ?_
      refine appendL (ys := hvs) (D := hl) S1 (by walk_at "m_updt") (by rw [sizeLine_eq]; omega) fun s' S2 => ?_
      clear S1 S
      walk_at "m_wk"
      refine Subscript_ ?_
      walk_at "m_wk"
      refine Subscript_ ?_
      walk_at "m_wk"
      refine subL (a := d) (vs := kv) (by assumption) (by walk_at "m_mem") (by omega) (by omega) (by simpa using hkz) ?_
      refine cacheGet (n := n) C1 T (r.less (by omega)) (St.perm (l' := c1 ++ ((e, enC it (i + 1) old) :: (it, litC al (i + 1)) :: (al, listC av) :: (hl, listC (hvs ++ [.int (i : Nat) t])) :: scn L (some (.ref hl)) (some (.ref x)) d nl kv nv [(Str.ofString "ask", .int (ak : Nat) ta), (Str.ofString "place", .int (i : Nat) t), (Str.ofString "room", .int (pl : Nat) t1), (Str.ofString "which", .int (i8 : Nat) t2)] l)) (by assumption) (by walk_at "m_pm")) hkey hv fun s' c2 C2 S3 => ?_
      have S3 := S3.perm (l' := (e, enC it (i + 1) old) :: (it, litC al (i + 1)) :: (al, listC av) :: (hl, listC (hvs ++ [.int (i : Nat) t])) :: scn L (some (.ref hl)) (some (.ref x)) d nl kv nv [(Str.ofString "ask", .int (ak : Nat) ta), (Str.ofString "place", .int (i : Nat) t), (Str.ofString "room", .int (pl : Nat) t1), (Str.ofString "which", .int (i8 : Nat) t2)] (c2 ++ l)) (by walk_at "m_pm")
      clear S2
      walk_at "m_wk"
      refine iteF (by simp) ?_
      walk_at "m_wk"
      refine ⟨B', _, old, ⟨rfl, c2, _, cnt, _, C2, by omega, by rw [hrun]; exact hst.touch hv, by rw [hrun, List.map_append]; exact hhv.append (.cons _ _ .nil), by rw [List.length_append]; exact Nat.succ_le_succ hhl, rfl⟩, (St.weak (l := (e, enC it (i + 1) old) :: (it, litC al (i + 1)) :: (al, listC av) :: (hl, listC (hvs ++ [.int (i : Nat) t])) :: scn L (some (.ref hl)) (some (.ref x)) d nl kv nv [(Str.ofString "ask", .int (ak : Nat) ta), (Str.ofString "place", .int (i : Nat) t), (Str.ofString "room", .int (pl : Nat) t1), (Str.ofString "which", .int (i8 : Nat) t2)] (c2 ++ l)) (by assumption) (l' := (e, enC it (i + 1) old) :: (it, litC al (i + 1)) :: (al, listC av) :: (hl, listC (hvs ++ [.int (i : Nat) t])) :: scn L (some (.ref hl)) (some (.ref x)) d nl kv nv [(Str.ofString "room", .int (pl : Nat) t1), (Str.ofString "which", .int (i8 : Nat) t2)] (c2 ++ l)) (.keep (.keep (.keep (.keep (.keep (.keep (.keep (.keep (.names (fun p hp => .tail _ (.tail _ hp)) (.refl _)))))))))))⟩
    · rw [decide_eq_false hmem] at his
      have hrun : machK kd pl n6 (i + 1) = ((machK kd pl n6 i).1, roomK pl (machK kd pl n6 i).2 ++ [ak]) := by
        show stepK _ _ _ _ _ = _
        rw [hak]; unfold stepK; rw [if_neg hmem]
      have hv : vAt st ak = none := by
        cases q : vAt st ak with
        | none => rfl
        | some v => rw [q] at his; cases his
      rw [his]
      walk_at "m_wk"
      refine iteF rfl ?_
      walk_at "m_wk"
      refine Subscript_ ?_
      walk_at "m_wk"
      refine subL (a := d) (vs := kv) (by assumption) (by walk_at "m_mem") (by omega) (by omega) (by simpa using hkz) ?_
      refine cacheSet (n := n) C1 (by omega) hpl T (r.less (by omega)) (St.perm (l' := c1 ++ ((e, enC it (i + 1) old) :: (it, litC al (i + 1)) :: (al, listC av) :: (hl, listC hvs) :: scn L (some (.ref hl)) (some (.ref x)) d nl kv nv [(Str.ofString "ask", .int (ak : Nat) ta), (Str.ofString "place", .int (i : Nat) t), (Str.ofString "room", .int (pl : Nat) t1), (Str.ofString "which", .int (i8 : Nat) t2)] l)) (by assumption) (by walk_at "m_pm")) hkey hv fun s' c2 C2 S3 => ?_
      have S4 := S3.perm (l' := (e, enC it (i + 1) old) :: (it, litC al (i + 1)) :: (al, listC av) :: (hl, listC hvs) :: scn L (some (.ref hl)) (some (.ref x)) d nl kv nv [(Str.ofString "ask", .int (ak : Nat) ta), (Str.ofString "place", .int (i : Nat) t), (Str.ofString "room", .int (pl : Nat) t1), (Str.ofString "which", .int (i8 : Nat) t2)] (c2 ++ l)) (by walk_at "m_pm")
      walk_at "m_wk"
      refine ⟨B', _, old, ⟨rfl, c2, _, cnt + 1, _, C2, by omega, by rw [hrun]; exact hst.room fun _ => ⟨_, rfl⟩, by rw [hrun]; exact hhv, by omega, rfl⟩, (S4.weak (l' := (e, enC it (i + 1) old) :: (it, litC al (i + 1)) :: (al, listC av) :: (hl, listC hvs) :: scn L (some (.ref hl)) (some (.ref x)) d nl kv nv [(Str.ofString "room", .int (pl : Nat) t1), (Str.ofString "which", .int (i8 : Nat) t2)] (c2 ++ l)) (.keep (.keep (.keep (.keep (.keep (.keep (.keep (.keep (.names (fun p hp => .tail _ (.tail _ hp)) (.refl _)))))))))))⟩
  · rintro B' l' s ⟨rfl, c, st, cnt, hvs, C, hcnt, hst, hhv, hhl, rfl⟩ S
    rw [hlen] at hst hhv hcnt
    exact h c st cnt hvs s C (by omega) hst hhv S.tail
end

end
-- V12
section
set_option maxRecDepth 100000
set_option maxHeartbeats 1600000
def rowV : Nat → List Value
  | 0 => [.int 7 2289, .int 8 2290, .int 11 2291] | 1 => [.int 4 2292, .int 5 2293] | 2 => [.int 7 2294, .int 8 2295] | _ => [.int 4 2296, .int 5 2297, .int 7 2298, .int 8 2299]
def rowOf (which : Nat) : Nat := if which < 4 then which else 2 + which % 2
theorem rowOf_lt : ∀ i, i < 8 → rowOf i < 4 := by decide
section
variable {w : World} {A : Around} {E : Value → Shared → Prop} {B : Shared} {fs : List Env} {l l' z c cs : Cells} {s : Shared} {L fa nl d x a b : Addr} {cd : Value} {n n6 pl cnt : Nat} {nv kv vs ws : List Value} {ns : List Int} {h0 c0 : Option Value} {f : Nat → Key} {hf : ∀ x y, f x = f y → x = y} {kd : Kind} {ks : List (Kind × Nat)} {m : Names} {st : List (Nat × Value)}
theorem rows_list (T : Stat (KK w) B.heap) : B.heap.IsList 1502 (([.ref 1498, .ref 1499, .ref 1500, .ref 1501] : List Value).toArray) :=
  ⟨⟨.type "list", none, .seq #[.ref 1498, .ref 1499, .ref 1500, .ref 1501] 0, #[]⟩, T.X _ _ (by kernel_rfl), rfl, 0, rfl⟩
theorem row_list (T : Stat (KK w) B.heap) : ∀ j, j < 4 → B.heap.IsList (1498 + j) (rowV j).toArray
  | 0, _ => ⟨⟨.type "list", none, .seq #[.int 7 2289, .int 8 2290, .int 11 2291] 0, #[]⟩, T.X _ _ (by kernel_rfl), rfl, 0, rfl⟩
  | 1, _ => ⟨⟨.type "list", none, .seq #[.int 4 2292, .int 5 2293] 0, #[]⟩, T.X _ _ (by kernel_rfl), rfl, 0, rfl⟩
  | 2, _ => ⟨⟨.type "list", none, .seq #[.int 7 2294, .int 8 2295] 0, #[]⟩, T.X _ _ (by kernel_rfl), rfl, 0, rfl⟩
  | 3, _ => ⟨⟨.type "list", none, .seq #[.int 4 2296, .int 5 2297, .int 7 2298, .int 8 2299] 0, #[]⟩, T.X _ _ (by kernel_rfl), rfl, 0, rfl⟩
theorem row_ints : ∀ which, which < 8 → IntsAre (rowV (rowOf which)) ((hitsOf which).map fun (i : Nat) => (i : Int)) := by
  intro which h
  match which, h with
  | 0, _ => exact .cons _ _ (.cons _ _ (.cons _ _ .nil))
  | 1, _ => exact .cons _ _ (.cons _ _ .nil)
  | 2, _ => exact .cons _ _ (.cons _ _ .nil)
  | 3, _ => exact .cons _ _ (.cons _ _ (.cons _ _ (.cons _ _ .nil)))
  | 4, _ => exact .cons _ _ (.cons _ _ .nil)
  | 5, _ => exact .cons _ _ (.cons _ _ (.cons _ _ (.cons _ _ .nil)))
  | 6, _ => exact .cons _ _ (.cons _ _ .nil)
  | 7, _ => exact .cons _ _ (.cons _ _ (.cons _ _ (.cons _ _ .nil)))
theorem neInts {Q : Value → Shared → Prop} (ha : s.heap.IsList a vs.toArray) (hb : s.heap.IsList b ws.toArray) (hv : IntsAre vs ns) (hw : IntsAre ws ns) (hu : A.units < cLine) (h : Q (.bool false) s) : wpAny (model pw w) A (compareOp .NotEq (.ref a) (.ref b)) Q E s := by
  have e1 := hv.length
  have e2 := hw.length
  refine EqBoolInt.of_rcne (SeqAt.RcNeAt.lists (e := fun _ => true) ha hb (by simp; omega) hu fun j h1 h2 => ?_) ?_
  · obtain ⟨t, ht⟩ := intsAt hv j (by simp at h1; omega)
    obtain ⟨u, hu'⟩ := intsAt hw j (by simp at h1; omega)
    have h1' := List.getElem?_eq_some_iff.mp ht
    have h2' := List.getElem?_eq_some_iff.mp hu'
    have := SeqAt.EqAt.int_int (A := A.in1) (s := s) (ns.getD j 0) t (ns.getD j 0) u
    simp only [List.getElem_toArray]
    rw [h1'.2, h2'.2]
    simpa using this
  · rw [show (List.range vs.toArray.size).all (fun _ => true) = true from List.all_eq_true.mpr fun _ _ => rfl]
    exact h
theorem itemB {Q : Value → Shared → Prop} {value slice : Expr} {k : Int} {t : Tok} {v : Value} (hl : s.heap.IsList a vs.toArray) (h0 : 0 ≤ k) (hfit : k < 2 ^ 63) (hx : vs[k.toNat]? = some v) (h : Q v s)
    (hs : subscripted slice false (.ref a) (.int k t) = operate [.ref a, .int k t] (getItem (.ref a) (.int k t)) := by with_unfolding_all rfl) : wpAny (model pw w) A (subscriptTail value slice (.ref a) (.int k t)) Q E s :=
  tail_any hl.typeIs slot_list_getitem.lookup (wpAny_getItem_list hl h0 hfit (by simpa using hx) h) hs
theorem rows_at : ∀ j, j < 4 → ([.ref 1498, .ref 1499, .ref 1500, .ref 1501] : List Value)[j]? = some (.ref (1498 + j))
  | 0, _ => rfl
  | 1, _ => rfl
  | 2, _ => rfl
  | 3, _ => rfl
theorem atBase {vs : Array Value} (S : St B fs l s) (h : B.heap.IsList a vs) : s.heap.IsList a vs := h.at fun o e => S.base _ _ e
/-- if hits != .. or len(cache) != room: return False -/
theorem body4 {t1 t2 : Tok} {i8 : Nat} {hl : Addr} {hv : List Value} {Q : Flow → Shared → Prop} (T : Stat (KK w) B.heap) (r : Room (n + 22) fs A) (hi8 : i8 < 8) (hcnt : cnt < 800)
    (C : Cach w B (kndOf w f hf) kd x pl cnt st c) (hst : st.length = pl) (hhv : IntsAre hv ((hitsOf i8).map fun (i : Nat) => (i : Int)))
    (S₀ : St B fs ((hl, listC hv) :: scn L (some (.ref hl)) (some (.ref x)) d nl kv nv [(Str.ofString "room", .int (pl : Nat) t1), (Str.ofString "which", .int (i8 : Nat) t2)] (c ++ l)) s)
    (h : ∀ c' s', Cach w B (kndOf w f hf) kd x pl cnt st c' → St B fs ((hl, listC hv) :: scn L (some (.ref hl)) (some (.ref x)) d nl kv nv [(Str.ofString "room", .int (pl : Nat) t1), (Str.ofString "which", .int (i8 : Nat) t2)] (c' ++ l)) s' → Q .next s') :
    wpAny (model pw w) A (exec (bst 4) (lenv L fa cd)) Q NoE s := by
  refine wpAny_If ?_
  walk_at "m_wk"
  refine wpAny_IfExp ?_
  walk_at "m_wk"
  by_cases h4 : i8 < 4
  · refine iteT (by simp; omega) ?_
    refine Subscript_ ?_
    rename_i S'
    refine ldVG (v := .ref 1502) T S' (by kernel_rfl) (by kernel_rfl) (by decide +kernel) (by kernel_rfl) ?_
    walk_at "m_wk"
    refine itemB (atBase S' (rows_list T)) (by omega) (by omega) (by simpa using rows_at i8 h4) ?_
    have e : 1498 + i8 = 1498 + rowOf i8 := by unfold rowOf; rw [if_pos h4]
    rw [e]
    refine neInts (S'.list (a := hl) (by walk_at "m_mem")) (atBase S' (row_list T _ (rowOf_lt i8 hi8))) hhv (row_ints i8 hi8) r.u0 ?_
    walk_at "m_wk"
    refine iteF rfl ?_
    walk_at "m_wk"
    refine Call_ ?_
    walk_at "m_wk"
    refine PyProof.Rows.callWith_builtin1 ?_
    refine args_cons ?_
    walk_at "m_wk"
    refine args_nil ?_
    refine cacheLen (n := n) C hcnt T (r.less (by omega)) (St.perm (l' := c ++ ((hl, listC hv) :: scn L (some (.ref hl)) (some (.ref x)) d nl kv nv [(Str.ofString "room", .int (pl : Nat) t1), (Str.ofString "which", .int (i8 : Nat) t2)] l)) (by assumption) (by walk_at "m_pm")) fun s' c' t C' S1 => ?_
    have S1 := S1.perm (l' := (hl, listC hv) :: scn L (some (.ref hl)) (some (.ref x)) d nl kv nv [(Str.ofString "room", .int (pl : Nat) t1), (Str.ofString "which", .int (i8 : Nat) t2)] (c' ++ l)) (by walk_at "m_pm")
    clear S'
    walk_at "m_wk"
    refine iteF (by simp [hst]) ?_
    walk_at "m_wk"
    refine iteF rfl ?_
    walk_at "m_wk"
    exact h c' _ C' (by assumption)
  · refine iteF (by simp; omega) ?_
    refine Subscript_ ?_
    rename_i S'
    refine ldVG (v := .ref 1502) T S' (by kernel_rfl) (by kernel_rfl) (by decide +kernel) (by kernel_rfl) ?_
    walk_at "m_wk"
    rename_i S'
    have e2 : (2 : Int) + (i8 : Int).fmod 2 = ((2 + i8 % 2 : Nat) : Int) := by
      have : ∀ i, i < 8 → (2 : Int) + ((i : Nat) : Int).fmod 2 = ((2 + i % 2 : Nat) : Int) := by decide
      exact this i8 hi8
    rw [e2]
    refine itemB (atBase S' (rows_list T)) (by omega) (by omega) (by rw [Int.toNat_natCast]; exact rows_at (2 + i8 % 2) (by omega)) ?_
    have e : 1498 + (2 + i8 % 2) = 1498 + rowOf i8 := by unfold rowOf; rw [if_neg h4]
    rw [e]
    refine neInts (S'.list (a := hl) (by walk_at "m_mem")) (atBase S' (row_list T _ (rowOf_lt i8 hi8))) hhv (row_ints i8 hi8) r.u0 ?_
    walk_at "m_wk"
    refine iteF rfl ?_
    walk_at "m_wk"
    refine Call_ ?_
    walk_at "m_wk"
    refine PyProof.Rows.callWith_builtin1 ?_
    refine args_cons ?_
    walk_at "m_wk"
    refine args_nil ?_
    refine cacheLen (n := n) C hcnt T (r.less (by omega)) (St.perm (l' := c ++ ((hl, listC hv) :: scn L (some (.ref hl)) (some (.ref x)) d nl kv nv [(Str.ofString "room", .int (pl : Nat) t1), (Str.ofString "which", .int (i8 : Nat) t2)] l)) (by assumption) (by walk_at "m_pm")) fun s' c' t C' S1 => ?_
    have S1 := S1.perm (l' := (hl, listC hv) :: scn L (some (.ref hl)) (some (.ref x)) d nl kv nv [(Str.ofString "room", .int (pl : Nat) t1), (Str.ofString "which", .int (i8 : Nat) t2)] (c' ++ l)) (by walk_at "m_pm")
    clear S'
    walk_at "m_wk"
    refine iteF (by simp [hst]) ?_
    walk_at "m_wk"
    refine iteF rfl ?_
    walk_at "m_wk"
    exact h c' _ C' (by assumption)
end

end
-- V13
section
set_option maxRecDepth 100000
set_option maxHeartbeats 1600000
def missI (hits : List Nat) (n : Nat) : List Int := ((List.range n).filter fun i => !decide (i ∈ hits)).map fun i => ((asks.getD i 0 : Nat) : Int)
theorem missI_succ (hits : List Nat) (n : Nat) : missI hits (n + 1) = if n ∈ hits then missI hits n else missI hits n ++ [((asks.getD n 0 : Nat) : Int)] := by
  unfold missI
  rw [List.range_succ, List.filter_append]
  by_cases h : n ∈ hits
  · simp [h]
  · simp [h]
theorem pick_miss : ∀ which, which < 2 → pickNums (missI (hitsOf which) 12) (some (-((specOf which).2 : Int))) none none = (lastOf which).map fun (i : Nat) => (i : Int) := by decide
theorem pick_four : ∀ which, which < 8 → ¬ which < 2 → pickNums [1, 2, 3, 4] (some (-((specOf which).2 : Int))) none none = (lastOf which).map fun (i : Nat) => (i : Int) := by decide
theorem any_nat (l : List Nat) (i : Nat) : ((l.map fun (j : Nat) => (j : Int)).any fun x => x == (i : Int)) = decide (i ∈ l) := by
  rw [Bool.eq_iff_iff, List.any_eq_true]
  simp only [List.mem_map, beq_iff_eq, decide_eq_true_eq]
  constructor
  · rintro ⟨y, ⟨j, hj, rfl⟩, e⟩
    have : j = i := by omega
    exact this ▸ hj
  · intro h; exact ⟨_, ⟨i, h, rfl⟩, rfl⟩
section
variable {w : World} {A : Around} {E : Value → Shared → Prop} {B : Shared} {fs : List Env} {l l' z c cs : Cells} {s : Shared} {L fa nl d x a b : Addr} {cd : Value} {n n6 cnt : Nat} {nv kv vs ws : List Value} {ns : List Int} {h0 c0 : Option Value} {m : Names}
theorem negS {k : Int} {t : Tok} {Q : Value → Shared → Prop} (S : St B fs l s) (h : ∀ s' t', St B fs l s' → Q (.int (-k) t') s') : wpAny (model pw w) A (unaryOp .USub (.int k t)) Q E s := P.neg_int (h _ _ (S.toks _))
/-- a slice of a list that nothing else holds -/
theorem sliceT {env : Env} {value : Expr} {lower upper : Option Expr} {p pos : Pos} {Q : Value → Shared → Prop}
    (h : wpAny (model pw w) A (eval value env) (fun o s₁ => wpAny (model pw w) A (evalPart lower env) (fun vl s₂ => wpAny (model pw w) A (evalPart upper env) (fun vu s₃ =>
      ∃ l items lo hi L, o = .ref l ∧ St B fs L s₃ ∧ s₃.heap.IsList l items ∧ items.size ≤ sizeLine ∧ IsPart vl lo ∧ IsPart vu hi ∧ ∀ D s', St B fs ((D, listC (slicePick items lo hi none).toList) :: L) s' → Q (.ref D) s') E s₂) E s₁) E s) :
    wpAny (model pw w) A (eval (.Subscript value (.Slice lower upper none p) pos) env) Q E s := by
  refine Subscript_ (wpAny_mono h (fun o s₁ h₁ => wpAny_Slice (wpAny_mono h₁ (fun vl s₂ h₂ => wpAny_mono h₂ (fun vu s₃ h₃ => ?_) fun _ _ e => e) fun _ _ e => e)) fun _ _ e => e)
  obtain ⟨l, items, lo, hi, L, rfl, S, hl, hsz, pl, pu, hQ⟩ := h₃
  rw [evalPart_none]
  refine wpAny_pure (tail_any (hl.push _).typeIs slot_list_getitem.lookup (wpAny_getItem_list_slice (hl.push _) (Heap.IsSliceOf.new ..) pl pu .none (by simp) ?_ hsz) (by with_unfolding_all rfl))
  have S1 := S.keeps (h' := s₃.heap.push { cls := .type "slice", data := .fields #[vl, vu, .none] }) s₃.toks (fun _ _ e => Heap.get?_push_of_some _ e)
  have S2 := S1.push (o := { cls := .type "list", data := .seq (slicePick items lo hi none) }) (c := listC (slicePick items lo hi none).toList) ⟨rfl, rfl, 0, by simp⟩ s₃.toks
  exact hQ _ _ S2
/-- last = .. -/
theorem body5 {t1 t2 : Tok} {i8 pl : Nat} {hl : Addr} {hv : List Value} {Q : Flow → Shared → Prop} (T : Stat (KK w) B.heap) (r : Room (n + 22) fs A) (hi8 : i8 < 8) (hpl : pl = (specOf i8).2) (hhv : IntsAre hv ((hitsOf i8).map fun (i : Nat) => (i : Int)))
    (S₀ : St B fs ((hl, listC hv) :: scn L (some (.ref hl)) (some (.ref x)) d nl kv nv [(Str.ofString "room", .int (pl : Nat) t1), (Str.ofString "which", .int (i8 : Nat) t2)] (l)) s)
    (h : ∀ a lv s', IntsAre lv ((lastOf i8).map fun (i : Nat) => (i : Int)) → St B fs ((a, listC lv) :: scn L (some (.ref hl)) (some (.ref x)) d nl kv nv [(Str.ofString "last", .ref a), (Str.ofString "room", .int (pl : Nat) t1), (Str.ofString "which", .int (i8 : Nat) t2)] l) s' → Q .next s') :
    wpAny (model pw w) A (exec (bst 5) (lenv L fa cd)) Q NoE s := by
  refine wpAny_Assign_Name ?_
  refine wpAny_IfExp ?_
  walk_at "m_wk"
  by_cases h2 : i8 < 2
  · refine iteT (by simp; omega) ?_
    refine sliceT (B := B) (fs := fs) ?_
    refine compS (B := B) (fs := fs) (cl := [(Str.ofString "hits", L + 1 + 3)]) (by kernel_rfl) rfl (by decide +kernel) (by decide +kernel) ?_
    refine Call_ ?_
    walk_at "m_wk"
    refine PyProof.Rows.callWith_type1 ?_
    refine args_cons ?_
    refine Call_ ?_
    refine ldVG (v := .ref 1497) T (by assumption) (by kernel_rfl) (by kernel_rfl) (by decide +kernel) (by kernel_rfl) ?_
    refine callFn0 T (by assumption) (by kernel_rfl) (wpAny_call (c1497 (n := n) T (r.less (by omega)) (by assumption) fun al av s' hav S' => ?_))
    refine args_nil ?_
    have hlen : av.length = 12 := hav.length
    refine enumS (a := al) (vs := av) (by assumption) (by walk_at "m_mem") fun e it s' S' => ?_
    refine iterEnum (by assumption) (by walk_at "m_mem") ?_
    refine ⟨_, S', fun C D s₃ S₃ => ⟨fun P E' hp => iterEnum S₃ (by walk_at "m_mem") hp, ?_⟩⟩
    refine compEnum (a := al) (vs := av) (rest₀ := (al, listC av) :: (hl, listC hv) :: scn L (some (.ref hl)) (some (.ref x)) d nl kv nv [(Str.ofString "room", .int (pl : Nat) t1), (Str.ofString "which", .int (i8 : Nat) t2)] (l)) (fun i ys rest => rest = (al, listC av) :: (hl, listC hv) :: scn L (some (.ref hl)) (some (.ref x)) d nl kv nv [(Str.ofString "room", .int (pl : Nat) t1), (Str.ofString "which", .int (i8 : Nat) t2)] (l) ∧ i ≤ 12 ∧ ys.length ≤ i ∧ IntsAre ys (missI (hitsOf i8) i))
      (by kernel_rfl) (by decide +kernel) (by kernel_rfl) (by decide +kernel) (by decide +kernel) r.handled (S₃.perm (by walk_at "m_pm")) ⟨rfl, by decide, Nat.le_refl _, .nil⟩ ?_ ?_ ?_
    · rintro i ys rest ⟨rfl, h5, hyl, hy⟩
      exact ⟨by walk_at "m_mem", by rw [sizeLine_eq]; omega⟩
    · rintro i v t old ys rest s hv' ⟨rfl, h5, hyl, hy⟩ S
      have hi : i < 12 := by have := (List.getElem?_eq_some_iff.mp hv').1; omega
      obtain ⟨ta, hta⟩ := intsAt hav i (by show i < asksI.length; exact hi)
      rw [hv'] at hta
      cases hta
      rw [asksI_at i hi] at S ⊢
      refine wpAny_tests_one ?_
      walk_at "m_wk"
      refine notin_list_ints (S.list (a := hl) (by walk_at "m_mem")) hhv ?_
      rw [any_nat]
      walk_at "m_wk"
      have e := missI_succ (hitsOf i8) i
      by_cases hm : i ∈ hitsOf i8
      · rw [decide_eq_true hm]
        rw [if_pos hm] at e
        refine iteF rfl ⟨_, ⟨rfl, hi, by omega, by rw [e]; exact hy⟩, by assumption⟩
      · rw [decide_eq_false hm]
        rw [if_neg hm] at e
        refine iteT rfl ?_
        walk_at "m_wk"
        exact ⟨_, ⟨rfl, hi, by rw [List.length_append]; exact Nat.succ_le_succ hyl, by rw [e]; exact hy.append (.cons _ _ .nil)⟩, by assumption⟩
    · rintro ys rest s ⟨rfl, h5, hyl, hy⟩ S
      rw [hlen] at hy hyl
      refine wpAny_evalPart_some ?_
      walk_at "m_wk"
      refine negS (by assumption) fun s' t' S' => ?_
      refine wpAny_evalPart_none ?_
      refine ⟨D, _, some (-(pl : Int)), none, _, rfl, S', S'.list (a := D) (by walk_at "m_mem"), by rw [sizeLine_eq]; simp; omega, .int _ _, .none, fun D2 s' S' => ?_⟩
      have hp := IntsAre.pick hy (some (-(pl : Int))) none none
      rw [hpl, pick_miss i8 h2, ← hpl] at hp
      walk_at "m_wk"
      rename_i S2
      exact h D2 _ _ hp (S2.perm (l' := (D, _) :: (al, listC av) :: (hl, listC hv) :: (D2, _) :: scn L (some (.ref hl)) (some (.ref x)) d nl kv nv [(Str.ofString "last", .ref D2), (Str.ofString "room", .int (pl : Nat) t1), (Str.ofString "which", .int (i8 : Nat) t2)] l) (by walk_at "m_pm")).tail.tail.tail
  · refine iteF (by simp; omega) ?_
    refine sliceT (B := B) (fs := fs) ?_
    refine listDisp (B := B) (fs := fs) ?_
    refine args_cons ?_
    walk_at "m_wk"
    refine args_cons ?_
    walk_at "m_wk"
    refine args_cons ?_
    walk_at "m_wk"
    refine args_cons ?_
    walk_at "m_wk"
    refine args_nil ?_
    refine ⟨by rw [sizeLine_eq]; exact Nat.le_of_ble_eq_true rfl, _, by assumption, fun D s' S' => ?_⟩
    refine wpAny_evalPart_some ?_
    walk_at "m_wk"
    refine negS (by assumption) fun s' t' S' => ?_
    refine wpAny_evalPart_none ?_
    refine ⟨D, _, some (-(pl : Int)), none, _, rfl, S', S'.list (a := D) (by walk_at "m_mem"), by rw [sizeLine_eq]; exact Nat.le_of_ble_eq_true rfl, .int _ _, .none, fun D2 s' S' => ?_⟩
    · have hp : ∀ {vs : List Value}, IntsAre vs [1, 2, 3, 4] → IntsAre (slicePick vs.toArray (some (-(pl : Int))) none none).toList ((lastOf i8).map fun (i : Nat) => (i : Int)) := fun h => by
        have := IntsAre.pick h (some (-(pl : Int))) none none
        rwa [hpl, pick_four i8 hi8 h2, ← hpl] at this
      walk_at "m_wk"
      rename_i S2
      exact h D2 _ _ (hp (.cons _ _ (.cons _ _ (.cons _ _ (.cons _ _ .nil))))) (S2.perm (l' := (D, _) :: (hl, listC hv) :: (D2, _) :: scn L (some (.ref hl)) (some (.ref x)) d nl kv nv [(Str.ofString "last", .ref D2), (Str.ofString "room", .int (pl : Nat) t1), (Str.ofString "which", .int (i8 : Nat) t2)] l) (by walk_at "m_pm")).tail.tail
end

end
-- V14
section
set_option maxRecDepth 100000
set_option maxHeartbeats 1600000
open SeqAt
section
variable {w : World} {A : Around} {s : Shared} {a b : Addr} {xs ys : Array Value}
theorem tuplesEq (ha : s.heap.IsTuple a xs) (hb : s.heap.IsTuple b ys) (hsz : xs.size = ys.size) (hu : A.units < cLine) (he : ∀ j (h1 : j < xs.size) (h2 : j < ys.size), EqAt A.in1 s xs[j] ys[j] true) : EqAt A s (.ref a) (.ref b) true := by
  by_cases e : a = b
  · subst e; exact EqAt.same _
  · refine EqAt.of_refs e ?_
    have := RcAt.tuples (e := fun _ => true) ha hb hu he
    rwa [show (List.range (min xs.size ys.size)).all (fun _ => true) = true from List.all_eq_true.mpr fun _ _ => rfl, hsz, Bool.true_and, beq_self_eq_true] at this
theorem atomEq {k : Atom} {u v : Value} (hu : Atom.is k u = true) (hv : Atom.is k v = true) : EqAt A s u v true := by
  rcases Atom.shape hu with ⟨i, t, rfl, rfl⟩ | ⟨x, t, rfl, rfl⟩
  · rcases Atom.shape hv with ⟨j, u, e, rfl⟩ | ⟨y, u, e, rfl⟩
    · cases e
      have := EqAt.int_int (A := A) (s := s) i t i u
      rwa [beq_self_eq_true] at this
    · cases e
  · rcases Atom.shape hv with ⟨j, u, e, rfl⟩ | ⟨y, u, e, rfl⟩
    · cases e
    · cases e
      have := EqAt.str_str (A := A) (s := s) x t x u
      rwa [beq_self_eq_true] at this
theorem itemsEq {l : List Atom} {us vs : List Value} (hu : ItemsAre (atomKind pw w) l us) (hv : ItemsAre (atomKind pw w) l vs) : us.length = vs.length ∧ ∀ j (h1 : j < us.length) (h2 : j < vs.length), EqAt A s us[j] vs[j] true := by
  induction hu generalizing vs with
  | nil => cases hv; exact ⟨rfl, fun j h1 => absurd h1 (Nat.not_lt_zero _)⟩
  | cons h _ ih =>
    cases hv with
    | cons h' t' =>
      obtain ⟨e, r⟩ := ih t'
      refine ⟨by simp [e], fun j h1 h2 => ?_⟩
      cases j with
      | zero => exact atomEq h h'
      | succ j => exact r j (Nat.lt_of_succ_lt_succ h1) (Nat.lt_of_succ_lt_succ h2)
theorem keyEq {k : Key} {u v : Value} (hA : A.units < cLine) (hu : keyIs pw w s.heap k u) (hv : keyIs pw w s.heap k v) : EqAt A s u v true := by
  cases k with
  | inl a => exact atomEq hu hv
  | inr l =>
    obtain ⟨p, rfl, o, items, n, h1, h2, h3, h4⟩ := hu
    obtain ⟨q, rfl, o', items', n', g1, g2, g3, g4⟩ := hv
    obtain ⟨e, r⟩ := itemsEq (A := A.in1) (s := s) h4 g4
    exact tuplesEq ⟨o, h1, h2, n, h3⟩ ⟨o', g1, g2, n', g3⟩ (by simpa using e) hA fun j j1 j2 => by
      have := r j (by simpa using j1) (by simpa using j2)
      simpa using this
theorem pairsEq {k : Key} {i : Int} {u v : Value} {t t' : Tok} (hA : A.units + 1 < cLine) (ha : s.heap.IsTuple a #[u, .int i t]) (hb : s.heap.IsTuple b #[v, .int i t']) (hu : keyIs pw w s.heap k u) (hv : keyIs pw w s.heap k v) : EqAt A s (.ref a) (.ref b) true := by
  refine tuplesEq ha hb rfl (by omega) fun j j1 j2 => ?_
  match j, j1, j2 with
  | 0, _, _ => exact keyEq (A := A.in1) (by show A.units + 1 < cLine; exact hA) hu hv
  | 1, _, _ =>
    have := EqAt.int_int (A := A.in1) (s := s) i t i t'
    rwa [beq_self_eq_true] at this
end
/-- a list of pairs of keys and numbers -/
inductive PairsC (w : World) (B : Shared) (f : Nat → Key) (tc : Cells) : List Value → List Nat → Prop
  | nil : PairsC w B f tc [] []
  | cons {b : Addr} {kz : Value} {k : Nat} {t : Tok} {ys : List Value} {ks : List Nat} : (b, pairC kz (.int k t)) ∈ tc → keyIs pw w B.heap (f k) kz → PairsC w B f tc ys ks → PairsC w B f tc (.ref b :: ys) (k :: ks)
theorem PairsC.more {w : World} {B : Shared} {f : Nat → Key} {tc tc' : Cells} {ys : List Value} {ks : List Nat} (h : PairsC w B f tc ys ks) (hs : ∀ x ∈ tc, x ∈ tc') : PairsC w B f tc' ys ks := by
  induction h with
  | nil => exact .nil
  | cons h1 h2 _ ih => exact .cons (hs _ h1) h2 ih
theorem PairsC.snoc {w : World} {B : Shared} {f : Nat → Key} {tc : Cells} {ys : List Value} {ks : List Nat} {b : Addr} {kz : Value} {k : Nat} {t : Tok} (h : PairsC w B f tc ys ks) (h1 : keyIs pw w B.heap (f k) kz) : PairsC w B f ((b, pairC kz (.int k t)) :: tc) (ys ++ [.ref b]) (ks ++ [k]) := by
  induction h with
  | nil => exact .cons (.head _) h1 .nil
  | cons h2 h3 _ ih => exact .cons (.tail _ h2) h3 ih
theorem PairsC.len {w : World} {B : Shared} {f : Nat → Key} {tc : Cells} {ys : List Value} {ks : List Nat} (h : PairsC w B f tc ys ks) : ys.length = ks.length := by
  induction h with
  | nil => rfl
  | cons _ _ _ ih => simp [ih]
theorem PairsC.at {w : World} {B : Shared} {f : Nat → Key} {tc : Cells} {ys : List Value} {ks : List Nat} (h : PairsC w B f tc ys ks) : ∀ j (h1 : j < ys.length), ∃ b kz t, ys[j] = .ref b ∧ (b, pairC kz (.int (ks.getD j 0 : Nat) t)) ∈ tc ∧ keyIs pw w B.heap (f (ks.getD j 0)) kz := by
  induction h with
  | nil => intro j h1; exact absurd h1 (Nat.not_lt_zero _)
  | @cons b kz k t ys ks h1 h2 _ ih =>
    intro j hj
    cases j with
    | zero => exact ⟨b, kz, t, rfl, h1, h2⟩
    | succ j => exact ih j (Nat.lt_of_succ_lt_succ hj)
theorem pairTuple {B : Shared} {fs : List Env} {l : Cells} {s : Shared} {b : Addr} {u v : Value} (S : St B fs l s) (m : (b, pairC u v) ∈ l) : s.heap.IsTuple b #[u, v] := by
  obtain ⟨o, ho, hc⟩ := S.has _ m
  have hc : o = _ := hc
  exact ⟨o, ho, by rw [hc], 0, by rw [hc]⟩
theorem nePairs {w : World} {A : Around} {E : Value → Shared → Prop} {B : Shared} {fs : List Env} {l : Cells} {s : Shared} {f : Nat → Key} {t1 t2 : Cells} {a b : Addr} {us vs : List Value} {ks : List Nat} {Q : Value → Shared → Prop} (h1 : PairsC w B f t1 us ks) (h2 : PairsC w B f t2 vs ks) (S : St B fs l s)
    (m1 : ∀ x ∈ t1, x ∈ l) (m2 : ∀ x ∈ t2, x ∈ l) (ha : (a, listC us) ∈ l) (hb : (b, listC vs) ∈ l) (hA : A.units + 2 < cLine) (h : Q (.bool false) s) : wpAny (model pw w) A (compareOp .NotEq (.ref a) (.ref b)) Q E s := by
  have e1 := h1.len
  have e2 := h2.len
  refine EqBoolInt.of_rcne (RcNeAt.lists (e := fun _ => true) (S.list ha) (S.list hb) (by simp; omega) (by omega) fun j j1 j2 => ?_) ?_
  · obtain ⟨b1, k1, u1, g1, g2, g3⟩ := h1.at j (by simpa using j1)
    obtain ⟨b2, k2, u2, g4, g5, g6⟩ := h2.at j (by simpa using j2)
    simp only [List.getElem_toArray]
    rw [g1, g4]
    exact pairsEq (A := A.in1) (by show A.units + 1 + 1 < cLine; omega) (pairTuple S (m1 _ g2)) (pairTuple S (m2 _ g5)) ((keyKind pw w).grows g3 S.base) ((keyKind pw w).grows g6 S.base)
  · rw [show (List.range us.toArray.size).all (fun _ => true) = true from List.all_eq_true.mpr fun _ _ => rfl]
    exact h
theorem take_snoc {α : Type} {l : List α} {i : Nat} {y : α} (h : l[i]? = some y) : l.take (i + 1) = l.take i ++ [y] := by
  rw [List.take_add_one, h]; rfl
section
variable {w : World} {A : Around} {E : Value → Shared → Prop} {B : Shared} {fs : List Env} {l l' z c cs : Cells} {s : Shared} {L fa nl d x a b : Addr} {cd : Value} {n n6 cnt pl : Nat} {nv kv vs ws lv : List Value} {ns : List Int} {h0 c0 : Option Value} {f : Nat → Key} {hf : ∀ x y, f x = f y → x = y} {kd : Kind} {st : List (Nat × Value)} {m : Names}
/-- if [cache.popitem() ..] != [..]: return False -/
theorem body6 {t1 t2 : Tok} {i8 : Nat} {hl : Addr} {Q : Flow → Shared → Prop} (T : Stat (KK w) B.heap) (r : Room (n + 22) fs A) (hi8 : i8 < 8) (hpl : pl = (specOf i8).2) (hcnt : cnt < 800) (nm : Named w B f kv)
    (C : Cach w B (kndOf w f hf) kd x pl cnt st c) (hst : StOk st (lastOf i8)) (hlv : IntsAre lv ((lastOf i8).map fun (i : Nat) => (i : Int)))
    (S₀ : St B fs ((a, listC lv) :: scn L (some (.ref hl)) (some (.ref x)) d nl kv nv [(Str.ofString "last", .ref a), (Str.ofString "room", .int (pl : Nat) t1), (Str.ofString "which", .int (i8 : Nat) t2)] (c ++ l)) s)
    (h : ∀ c' st' s', Cach w B (kndOf w f hf) kd x pl cnt st' c' → St B fs (scn L (some (.ref hl)) (some (.ref x)) d nl kv nv [] (c' ++ l)) s' → Q .next s') :
    wpAny (model pw w) A (exec (bst 6) (lenv L fa cd)) Q NoE s := by
  have hlen : (lastOf i8).length = pl := by rw [hpl]; exact last_len i8 hi8
  have hstl : st.length = pl := by rw [← hlen, ← hst.keys, List.length_map]
  have hp100 := C.pl
  refine wpAny_If ?_
  walk_at "m_wk"
  refine compS (B := B) (fs := fs) (cl := [(Str.ofString "cache", L + 1 + 2)]) (by kernel_rfl) rfl (by decide +kernel) (by decide +kernel) ?_
  refine Call_ ?_
  walk_at "m_wk"
  refine PyProof.Rows.callWith_type1 ?_
  refine args_cons ?_
  walk_at "m_wk"
  refine args_nil ?_
  refine rangeS S₀ fun rg t₁ t₂ s' S' => ?_
  refine iterRange (n := pl) (k := pl) (by assumption) rfl (by walk_at "m_mem") (by omega) fun I s' S' => ?_
  have S' := (S'.perm (l' := (rg, _) :: (I, ritC 0 pl) :: (a, listC lv) :: scn L (some (.ref hl)) (some (.ref x)) d nl kv nv [(Str.ofString "last", .ref a), (Str.ofString "room", .int (pl : Nat) t1), (Str.ofString "which", .int (i8 : Nat) t2)] (c ++ l)) (by walk_at "m_pm")).tail
  refine ⟨_, S', fun C1 D s₃ S₃ => ⟨fun P E' hp => iterRg S₃ (by walk_at "m_mem") hp, ?_⟩⟩
  refine compRange (n := pl) (rest₀ := (a, listC lv) :: scn L (some (.ref hl)) (some (.ref x)) d nl kv nv [(Str.ofString "last", .ref a), (Str.ofString "room", .int (pl : Nat) t1), (Str.ofString "which", .int (i8 : Nat) t2)] (c ++ l)) (fun i ys rest => ∃ c' tc, Cach w B (kndOf w f hf) kd x pl cnt (st.drop i) c' ∧ PairsC w B f tc ys ((lastOf i8).take i) ∧ i ≤ pl ∧ ys.length = i ∧ rest = (a, listC lv) :: scn L (some (.ref hl)) (some (.ref x)) d nl kv nv [(Str.ofString "last", .ref a), (Str.ofString "room", .int (pl : Nat) t1), (Str.ofString "which", .int (i8 : Nat) t2)] (c' ++ (tc ++ l)))
    (by kernel_rfl) (by decide +kernel) r.handled (S₃.perm (by walk_at "m_pm")) ⟨c, [], C, .nil, Nat.zero_le _, rfl, rfl⟩ ?_ ?_ ?_
  · rintro i ys rest ⟨c', tc, C', hp, hi, hyl, rfl⟩
    rw [hyl, sizeLine_eq]; omega
  · rintro i t ys rest s hi ⟨c', tc, C', hp, hi', hyl, rfl⟩ S
    have hlt : i < st.length := by omega
    rw [List.drop_eq_getElem_cons hlt] at C'
    generalize hst0 : st[i] = p0 at C'
    obtain ⟨k0, v0⟩ := p0
    have hmem0 : (k0, v0) ∈ st := by rw [← hst0]; exact List.getElem_mem hlt
    have hk0 : (lastOf i8)[i]? = some k0 := by rw [← hst.keys, List.getElem?_map, List.getElem?_eq_getElem hlt, hst0]; rfl
    obtain ⟨tv, hv0⟩ := hst.vals _ hmem0 (last_lt i8 hi8 k0 (List.mem_of_getElem? hk0))
    have hv0 : v0 = .int k0 tv := hv0
    subst hv0
    refine wpAny_tests_nil ?_
    rw [if_pos rfl]
    refine methodCall_KW ?_
    walk_at "m_wk"
    refine cachePop (n := n) (env := compEnvC _ _ _ _) C' hcnt T (r.less (by omega)) (St.perm (l' := c' ++ ((I, ritC ((i + 1 : Nat) : Int) ((pl : Int) - ((i + 1 : Nat) : Int))) :: (C1, _) :: (D, listC ys) :: (a, listC lv) :: scn L (some (.ref hl)) (some (.ref x)) d nl kv nv [(Str.ofString "last", .ref a), (Str.ofString "room", .int (pl : Nat) t1), (Str.ofString "which", .int (i8 : Nat) t2)] (tc ++ l))) (by assumption) (by walk_at "m_pm")) fun b kz s' c2 hk C2 S2 => ?_
    refine ⟨_, ⟨c2, (b, pairC kz (.int k0 tv)) :: tc, C2, by rw [take_snoc hk0]; exact hp.snoc hk, hi, by rw [List.length_append, hyl]; rfl, rfl⟩, S2.perm ?_⟩
    simp only [List.cons_append]
    walk_at "m_pm"
  · rintro ys rest s ⟨c', tc, C', hp, hi, hyl, rfl⟩ S
    rw [← hlen, List.take_length] at hp
    refine compS (B := B) (fs := fs) (cl := [(Str.ofString "named", L + 1 + 1)]) (by kernel_rfl) rfl (by decide +kernel) (by decide +kernel) ?_
    walk_at "m_wk"
    refine iterL (a := a) (by assumption) (by walk_at "m_mem") fun I2 s' S' => ?_
    refine ⟨_, S', fun C2 D2 s₃ S₃ => ⟨fun P E' hp => iterIt S₃ (by walk_at "m_mem") hp, ?_⟩⟩
    refine compList (a := a) (vs := lv) (rest₀ := (D, listC ys) :: (a, listC lv) :: scn L (some (.ref hl)) (some (.ref x)) d nl kv nv [(Str.ofString "last", .ref a), (Str.ofString "room", .int (pl : Nat) t1), (Str.ofString "which", .int (i8 : Nat) t2)] ([] ++ (c' ++ (tc ++ l)))) (fun i ys2 rest => ∃ tc2, PairsC w B f tc2 ys2 ((lastOf i8).take i) ∧ i ≤ pl ∧ ys2.length = i ∧ rest = (D, listC ys) :: (a, listC lv) :: scn L (some (.ref hl)) (some (.ref x)) d nl kv nv [(Str.ofString "last", .ref a), (Str.ofString "room", .int (pl : Nat) t1), (Str.ofString "which", .int (i8 : Nat) t2)] (tc2 ++ (c' ++ (tc ++ l))))
      (by kernel_rfl) (by decide +kernel) r.handled (S₃.perm (by simp only [List.nil_append]; walk_at "m_pm")) ⟨[], .nil, Nat.zero_le _, rfl, rfl⟩ ?_ ?_ ?_
    · rintro i ys2 rest ⟨tc2, hp2, hi2, hyl2, rfl⟩
      exact ⟨by walk_at "m_mem", by rw [hyl2, sizeLine_eq]; omega⟩
    · rintro i v ys2 rest s hv ⟨tc2, hp2, hi2, hyl2, rfl⟩ S
      have hlt : i < (lastOf i8).length := by
        have := (List.getElem?_eq_some_iff.mp hv).1
        have h2 := hlv.length
        rw [List.length_map] at h2
        omega
      obtain ⟨tv, htv⟩ := intsAt hlv i (by rw [List.length_map]; exact hlt)
      rw [hv] at htv
      cases htv
      have hgd : ((lastOf i8).map fun (i : Nat) => (i : Int)).getD i 0 = (((lastOf i8).getD i 0 : Nat) : Int) := by
        rw [List.getD_eq_getElem?_getD, List.getD_eq_getElem?_getD, List.getElem?_map, List.getElem?_eq_getElem hlt]; rfl
      have hk0 : (lastOf i8)[i]? = some ((lastOf i8).getD i 0) := by
        rw [List.getD_eq_getElem?_getD, List.getElem?_eq_getElem hlt]; rfl
      rw [hgd] at S ⊢
      generalize (lastOf i8).getD i 0 = k0 at S hk0 ⊢
      have hk5 := last_lt i8 hi8 k0 (List.mem_of_getElem? hk0)
      obtain ⟨kz, hkz, hkey⟩ := nm.is k0 hk5
      refine wpAny_tests_nil ?_
      rw [if_pos rfl]
      refine tupDisp (B := B) (fs := fs) ?_
      refine args_cons ?_
      refine Subscript_ ?_
      walk_at "m_wk"
      refine subL (a := d) (vs := kv) (by assumption) (by walk_at "m_mem") (by omega) (by omega) (by simpa using hkz) ?_
      refine args_cons ?_
      walk_at "m_wk"
      refine args_nil ?_
      refine ⟨by rw [sizeLine_eq]; exact Nat.le_of_ble_eq_true rfl, _, by assumption, fun b s' S' => ?_⟩
      refine ⟨_, ⟨(b, pairC kz (.int k0 tv)) :: tc2, by rw [take_snoc hk0]; exact hp2.snoc hkey, by omega, by rw [List.length_append, hyl2]; rfl, rfl⟩, S'.perm ?_⟩
      simp only [List.cons_append]
      walk_at "m_pm"
    · rintro ys2 rest s ⟨tc2, hp2, hi2, hyl2, rfl⟩ S
      have hll : lv.length = (lastOf i8).length := by
        have h2 := hlv.length
        rwa [List.length_map] at h2
      rw [hll, List.take_length] at hp2
      have mm : ∀ y, y ∈ tc ∨ y ∈ tc2 → y ∈ (D2, listC ys2) :: (D, listC ys) :: (a, listC lv) :: scn L (some (.ref hl)) (some (.ref x)) d nl kv nv [(Str.ofString "last", .ref a), (Str.ofString "room", .int (pl : Nat) t1), (Str.ofString "which", .int (i8 : Nat) t2)] (tc2 ++ (c' ++ (tc ++ l))) := by
        intro y hy
        refine .tail _ (.tail _ (.tail _ (.tail _ (.tail _ (.tail _ (.tail _ (.tail _ (.tail _ (.tail _ ?_)))))))))
        rcases hy with hy | hy
        · exact List.mem_append_right _ (List.mem_append_right _ (List.mem_append_left _ hy))
        · exact List.mem_append_left _ hy
      refine nePairs hp hp2 S (fun y hy => mm y (.inl hy)) (fun y hy => mm y (.inr hy)) (by walk_at "m_mem") (by walk_at "m_mem") (by have := r.units; omega) ?_
      walk_at "m_wk"
      refine iteF rfl ?_
      walk_at "m_wk"
      have S2 : St B fs (scn L (some (.ref hl)) (some (.ref x)) d nl kv nv [(Str.ofString "last", .ref a), (Str.ofString "room", .int (pl : Nat) t1), (Str.ofString "which", .int (i8 : Nat) t2)] (c' ++ l)) s := S.sub (.cons _ (.cons _ (.cons _ (.cons₂ _ (.cons₂ _ (.cons₂ _ (.cons₂ _ (.cons₂ _ (.cons₂ _ (.cons₂ _ (((List.Sublist.refl c').append (List.sublist_append_right tc l)).trans (List.sublist_append_right tc2 _))))))))))))
      exact h c' _ _ C' (S2.weak (.keep (.keep (.keep (.keep (.names (fun p hp => nomatch hp) (.refl _)))))))
end

end
-- V15
section
set_option maxRecDepth 100000
set_option maxHeartbeats 1600000
theorem perm3 {α : Type} {c cs l : List α} {e i a : α} : (c ++ (cs ++ (e :: i :: a :: l))).Perm (e :: i :: a :: (c ++ (cs ++ l))) := by
  rw [← List.append_assoc, ← List.append_assoc]
  exact List.perm_middle.trans ((List.perm_middle.trans ((List.perm_middle).cons i)).cons e)
section
variable {w : World} {A : Around} {E : Value → Shared → Prop} {B : Shared} {fs : List Env} {l l' z c cs : Cells} {s : Shared} {L fa nl d x a b sc : Addr} {cd : Value} {n n6 : Nat} {nv kv vs : List Value} {N : Nat → Int} {f : Nat → Key} {hf : ∀ x y, f x = f y → x = y}
theorem fresh_at {K : Type} [DecidableEq K] {knd : AnyKind pw w K} {i : Nat} (hi : i < 8) (F : Fresh w B knd (specs.drop i) (vs.drop i) cs) : ∃ x c cs', vs[i]? = some (.ref x) ∧ cs = c ++ cs' ∧ Cach w B knd (specOf i).1 x (specOf i).2 0 [] c ∧ Fresh w B knd (specs.drop (i + 1)) (vs.drop (i + 1)) cs' := by
  have h1 : specs.drop i = specOf i :: specs.drop (i + 1) := by
    have : ∀ i, i < 8 → specs.drop i = specOf i :: specs.drop (i + 1) := by
      intro i hi
      match i, hi with
      | 0, _ => rfl
      | 1, _ => rfl
      | 2, _ => rfl
      | 3, _ => rfl
      | 4, _ => rfl
      | 5, _ => rfl
      | 6, _ => rfl
      | 7, _ => rfl
    exact this i hi
  rw [h1] at F
  generalize hv : vs.drop i = ws at F
  generalize hsp : specOf i = sp at F ⊢
  generalize hk : specs.drop (i + 1) = ks at F ⊢
  cases F with
  | @cons kd pl x c cs' ks xs C F' =>
    refine ⟨x, c, cs', ?_, rfl, C, ?_⟩
    · have : (vs.drop i)[0]? = some (.ref x) := by rw [hv]; rfl
      rwa [List.getElem?_drop, Nat.add_zero] at this
    · have : vs.drop (i + 1) = xs := by rw [← List.drop_drop, hv]; rfl
      rw [this]; exact F'
theorem law5 {Q : Flow → Shared → Prop} {h0 c0 : Option Value} (T : Stat (KK w) B.heap) (r : Room (n + 22) fs A) (hfs : ∀ b ∈ fs.filterMap (·.frame), b = L) (hN : ∀ i, i < 7 → ∃ t, nv[i]? = some (.int (N i) t)) (nm : Named w B f kv)
    (F : Fresh w B (kndOf w f hf) specs vs cs)
    (S₀ : St B fs (scn L h0 c0 d nl kv nv [(Str.ofString "made", .ref a), (Str.ofString "script", .ref sc)] ((a, listC vs) :: (cs ++ l))) s)
    (h : ∀ B' z s', Ext B B' → St B' fs z s' → Q .next s') :
    wpAny (model pw w) A (exec (lst 5) (lenv L fa cd)) Q NoE s := by
  obtain ⟨n6, h6, h5⟩ : ∃ n6 : Nat, (N 6).fmod 5 = (n6 : Int) ∧ n6 < 5 := by
    have h1 : 0 ≤ (N 6).fmod 5 := Int.fmod_nonneg_of_pos _ (by decide)
    have h2 : (N 6).fmod 5 < 5 := Int.fmod_lt_of_pos _ (by decide)
    exact ⟨((N 6).fmod 5).toNat, by omega, by omega⟩
  have hlen : vs.length = 8 := F.length
  refine wpAny_For ?_
  refine Call_ ?_
  refine ldEnum T S₀ ?_
  refine PyProof.Rows.callWith_type1 ?_
  refine args_cons ?_
  walk_at "m_wk"
  refine args_nil ?_
  refine enumS (a := a) (vs := vs) (by assumption) (by walk_at "m_mem") fun e it s' S' => ?_
  refine iterEnum (by assumption) (by walk_at "m_mem") ?_
  have S' := S'.weak (l' := (e, enC it 0 .none) :: (it, litC a 0) :: scn L h0 c0 d nl kv nv [] ((a, listC vs) :: (cs ++ l))) (.keep (.keep (.keep (.keep (.keep (.keep (.names (fun p hp => nomatch hp) (.refl _))))))))
  have S' := S'.perm (l' := (e, enC it 0 .none) :: (it, litC a 0) :: (a, listC vs) :: scn L h0 c0 d nl kv nv [] (cs ++ l)) (by walk_at "m_pm")
  refine forEnum (a := a) (vs := vs) (fun i B' l' => ∃ cs hh cc, Ext B B' ∧ Fresh w B' (kndOf w f hf) (specs.drop i) (vs.drop i) cs ∧ l' = (a, listC vs) :: scn L hh cc d nl kv nv [] (cs ++ l))
    r.handled S' ⟨cs, h0, c0, Ext.refl B, F, rfl⟩ ?_ ?_ ?_
  · rintro i B' l' ⟨cs, hh, cc, hE, F, rfl⟩
    walk_at "m_mem"
  · rintro i v t B1 l' s old hv ⟨cs, hh, cc, hE, F, rfl⟩ S
    have hi : i < 8 := by have := (List.getElem?_eq_some_iff.mp hv).1; omega
    obtain ⟨x, c, cs1, hx, rfl, C, F⟩ := fresh_at hi F
    rw [hv] at hx
    cases hx
    have hpl := spec_pl i hi
    have hrun := run_ok i hi n6 h5
    generalize hk : (specOf i).1 = kd at C hrun
    generalize hp : (specOf i).2 = pl at C hrun hpl
    have hpl0 : 0 < pl := by omega
    refine wpAny_assign_Name ?_
    walk_at "m_wk1"
    rename_i S'
    refine wpAny_assign_Name ?_
    refine stCache S' (by walk_at "m_updt") fun s' S' => ?_
    have S' := S'.perm (l' := scn L hh (some (.ref x)) d nl kv nv [(Str.ofString "which", .int (i : Nat) t)] (c ++ (cs1 ++ ((e, enC it (i + 1) old) :: (it, litC a (i + 1)) :: (a, listC vs) :: l))))
      (((((((((perm3.cons _).cons _).cons _).cons _).cons _).cons _).cons _)).trans (by simp only [List.append_assoc]; walk_at "m_pm"))
    refine wpAny_execs_cons ?_
    refine body0 hi S' fun s' t1 S' => ?_
    rw [← hpl] at S'
    refine wpAny_execs_cons ?_
    refine body1 (n := n + 2) (m := [(Str.ofString "room", .int (pl : Nat) t1), (Str.ofString "which", .int (i : Nat) t)]) (T.ext hE) r hfs hN h6 h5 hpl0 (by walk_at "m_nin") (nm.ext hE) C F S' fun B2 c2 cs2 st2 s' hE2 C hst F S' => ?_
    have T2 := (T.ext hE).ext hE2
    have nm2 := (nm.ext hE).ext hE2
    refine wpAny_execs_cons ?_
    refine body2 S' fun hl s' S' => ?_
    refine wpAny_execs_cons ?_
    refine body3 (n := n) (l := cs2 ++ ((e, enC it (i + 1) old) :: (it, litC a (i + 1)) :: (a, listC vs) :: l)) T2 r hpl0 h5 nm2 C hst S' fun c3 st3 cnt hv s' C hcnt hst hhv S' => ?_
    rw [hrun] at hst hhv
    have hst3 : st3.length = pl := by
      have := congrArg List.length hst.keys
      rw [List.length_map] at this
      rw [this, last_len i hi, hp]
    refine wpAny_execs_cons ?_
    refine body4 (n := n) (l := cs2 ++ ((e, enC it (i + 1) old) :: (it, litC a (i + 1)) :: (a, listC vs) :: l)) T2 r hi (by omega) C hst3 hhv S' fun c4 s' C S' => ?_
    refine wpAny_execs_cons ?_
    refine body5 (n := n) T2 r hi hp.symm hhv S' fun la lv s' hlv S' => ?_
    refine wpAny_execs_cons ?_
    refine body6 (n := n) (l := cs2 ++ ((e, enC it (i + 1) old) :: (it, litC a (i + 1)) :: (a, listC vs) :: l)) T2 r hi hp.symm (by omega) nm2 C hst hlv S' fun c6 st6 s' C S' => ?_
    refine wpAny_execs_nil ?_
    have S2 : St B2 fs (scn L (some (.ref hl)) (some (.ref x)) d nl kv nv [] (cs2 ++ ((e, enC it (i + 1) old) :: (it, litC a (i + 1)) :: (a, listC vs) :: l))) s' := S'.sub (.cons₂ _ (.cons₂ _ (.cons₂ _ (.cons₂ _ (.cons₂ _ (.cons₂ _ (.cons₂ _ (List.sublist_append_right c6 _))))))))
    exact ⟨B2, _, old, ⟨cs2, _, _, hE.trans hE2, F, rfl⟩, S2.perm (by walk_at "m_pm")⟩
  · rintro B1 l' s ⟨cs, hh, cc, hE, F, rfl⟩ S
    exact h B1 _ s hE S
end

end
-- V16
section
set_option maxRecDepth 100000
set_option maxHeartbeats 1600000
section
variable {w : World} {A : Around} {B : Shared} {fs : List Env} {l : Cells} {s : Shared} {L fa sc : Addr} {cd : Value} {n : Nat}
theorem lawAll {sv : List Value} {ns : List Int} {Q : Flow → Shared → Prop} (T : Stat (KK w) B.heap) (r : Room (n + 22) fs A) (hfs : ∀ b ∈ fs.filterMap (·.frame), b = L) (hl : B.heap.IsList sc sv.toArray) (hi : IntsAre sv ns) (hlen : ns.length ≤ 63)
    (S₀ : St B fs (frm L none none none none [(Str.ofString "script", .ref sc)] l) s)
    (h : ∀ B' z s', Ext B B' → St B' fs z s' → Q (.ret (.bool true)) s') :
    wpAny (model pw w) A (execs (inside (stP [63])) (lenv L fa cd)) Q NoE s := by
  refine wpAny_execs_cons ?_
  refine law0 hl hi hlen S₀ fun nl nv N s' hN S' => ?_
  refine lawNamed (rest := [lst 4, lst 5, lst 6]) T r.handled hfs hN S' fun B1 d kv f s' hE nm S' => ?_
  refine wpAny_execs_cons ?_
  have S' := S'.perm (l' := frm L none none (some (.ref d)) (some (.ref nl)) [(Str.ofString "script", .ref sc)] ((nl, listC nv) :: (d, listC kv) :: l)) (by walk_at "m_pm")
  refine law4 (n := n + 2) (kndOf w f nm.inj) (T.ext hE) r S' fun a vs cs s' F S' => ?_
  refine wpAny_execs_cons ?_
  have S' := S'.weak (l' := cs ++ ((a, listC vs) :: scn L none none d nl kv nv [(Str.ofString "made", .ref a), (Str.ofString "script", .ref sc)] l)) ((Weak.refl cs).app (.keep (.keep (.keep (.keep (.keep (.named (.refl _))))))))
  have S' := S'.perm (l' := scn L none none d nl kv nv [(Str.ofString "made", .ref a), (Str.ofString "script", .ref sc)] ((a, listC vs) :: (cs ++ l))) (by walk_at "m_pm")
  refine law5 (n := n) (T.ext hE) r hfs hN nm F S' fun B2 z s' hE2 S' => ?_
  refine wpAny_execs_cons ?_
  refine wpAny_Return_some ?_
  walk_at "m_wk"
  exact h B2 z _ (hE.trans hE2) (by assumption)
end
theorem stat_of {w : World} {mg mb : Str → Option Value} {h : Heap} {loose : List Str} {mean : ExcName → Option Value} (X : (kf w.params).In h) (T : Top qq loose mean mg mb h) : Stat (KK w) h :=
  ⟨X, T.nolimit, mg, mb, T.g, T.b, T.builtins⟩
theorem st_start {s : Shared} {mg : Str → Option Value} (h : s.heap.Ns mainGlobals mg) : St s [] [] s :=
  ⟨fun _ _ h => h, (fun x hx => nomatch hx), List.nodup_nil, (fun x hx => nomatch hx), trivial, rfl, rfl, rfl, (let ⟨o, _, _, ho, _⟩ := h; ⟨o, ho⟩), (fun x hx => nomatch hx), (fun x hx => nomatch hx)⟩
theorem room_start : Room 23 [] callerA := ⟨rfl, by decide +kernel, by decide +kernel, rfl⟩
theorem cells4 (L : Addr) : ∀ i, i < 4 → ∃ n, (cellsFrom (L + 1) scL.names []).lookup n = some (L + 1 + i)
  | 0, _ => ⟨_, hcNumbers⟩
  | 1, _ => ⟨_, hcNamed⟩
  | 2, _ => ⟨_, hcCache⟩
  | 3, _ => ⟨_, hcHits⟩
theorem walk1 : WalkO qq ll (fun _ _ => True) (fun w h => (kf w.params).In h) rw1.row.toRowW lawD [] fun f vs => PySem.call f vs := by
  intro w s₀ s₁ mg mb G Y fa o pm cd doc dV kV ho hd hcd hD hmg hg args vals as hpre hlay hrd hwl hlo
  refine Ground.open G ?_
  intro T B D TE TW
  wrow_args hpre hlay hrd hwl hlo
  rename_i ns hs0 lay0 hL1 hr1 hl2 w4 w3 sc sv w0 hL ra w1 r0 hI hr hcond hcond2
  obtain ⟨rfl, rfl⟩ : dV = .none ∧ kV = .none := by
    refine ⟨?_, ?_⟩
    · rcases hD.pos with ⟨_, h⟩ | ⟨h, _⟩
      · exact h
      · exact (h (by kernel_rfl)).elim
    · rcases hD.kw with ⟨_, h⟩ | ⟨h, _⟩
      · exact h
      · exact (h rfl).elim
  refine wpAny_call ?_
  refine callC (n := 22) (k := 4) (body := inside (stP [63])) (x := S "script") (v := .ref sc) (fs := []) (l := []) ho hd hcd rfl rfl rfl rfl (stat_of Y T) (st_start T.g) room_start (by kernel_rfl) (by kernel_rfl) (by decide +kernel) cells4 (by kernel_rfl) (by kernel_rfl) (by kernel_rfl) fun L s' r' S' => ?_
  have hlen : ns.length ≤ 63 := by omega
  refine lawAll (n := 0) (B := s₁) (fs := _) (L := L) (fa := fa) (sc := sc) (cd := cd) (l := []) (sv := sv) (ns := ns) (stat_of Y T) r' (fun b hb => ?_) hL hI hlen S' fun B' z s' hE S' => ?_
  · have : b ∈ [L] := hb
    exact List.mem_singleton.mp this
  · refine ⟨.inl ⟨.bool true, .bool true, [], rfl, fun _ => ?_, .bool true, ?_, fun _ => ⟨List.nodup_nil, fun a h => nomatch h⟩⟩, .of_keep (fun b o e => S'.base b o (hE.heap b o e)), S'.os.trans hE.os, .of_eq ((S'.gens.trans hE.gens).trans hg)⟩
    · rfl
    · kernel_rfl
theorem T_holds : rw1.Holds := law_of_walk walk1

end
end Mine
theorem PySem.Challenge.cw_bg0032_01_holds : PySem.Challenge.rw_bg0032_01.Holds := by
  exact Mine.T_holds
