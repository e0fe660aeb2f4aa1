import PyProof.Rows.All
import Wide.All
import OpenK.AllK
import Wide.FinOn
import PyProof.Rows.EqNone
import PyProof.ExcFactsAll.ValueError
import KE.KTryDeep
import KE.KBoundM
import KE.KParD
import KE.KPairTest
import KE.LcSums
import PySem.Challenge.RW_om0137_02
set_option Elab.async false
section
open PySem PySem.W PyProof.Rows
set_option Elab.async false
set_option maxRecDepth 100000
set_option maxHeartbeats 8000000
namespace Mine
/-- the top's run, over a heap laid as a tree -/
noncomputable def runG (st : SharedT → Thread → Option (SharedT × Thread)) (ok : Thread → Bool) (n : Nat) : SharedT → Thread → Option SharedT :=
  @Nat.rec (fun _ => SharedT → Thread → Option SharedT) (fun _ _ => none) (fun _ ih s t => @Bool.rec (fun _ => Option SharedT) (@Bool.rec (fun _ => Option SharedT) none (@Option.rec (SharedT × Thread) (fun _ => Option SharedT) none (fun r => ih r.1 r.2) (st s t)) (ok t)) (some s) (through t)) n
theorem runG_of {tb : String → Option Builtin} {p : Program} {w : World} {n₀ : Nat} {ann : Option Value} : ∀ {n : Nat} {s s' : SharedT} {t : Thread}, runG (stepT (denote tb) p w) (stepOk n₀ ann) n s t = some s' → topRun tb p w n₀ ann n s.abs t = some s'.abs
  | 0, _, _, _, h => by cases h
  | n + 1, s, s', t, h => by
    unfold topRun
    change @Bool.rec (fun _ => Option SharedT) (@Bool.rec (fun _ => Option SharedT) none (@Option.rec (SharedT × Thread) (fun _ => Option SharedT) none (fun r => runG (stepT (denote tb) p w) (stepOk n₀ ann) n r.1 r.2) (stepT (denote tb) p w s t)) (stepOk n₀ ann t)) (some s) (through t) = some s' at h
    cases he : through t with
    | true => rw [he] at h; cases h; rfl
    | false =>
      rw [he] at h
      cases hk : stepOk n₀ ann t with
      | false => rw [hk] at h; cases h
      | true =>
        rw [hk] at h
        cases hs : stepT (denote tb) p w s t with
        | none => rw [hs] at h; cases h
        | some r =>
          obtain ⟨s₂, t₂⟩ := r
          rw [hs] at h
          dsimp only
          rw [stepT_spec hs]
          exact runG_of h
/-- the opening's run, over a heap laid as a tree -/
noncomputable def impG (st : SharedT → Thread → Option (SharedT × Thread)) (n : Nat) : SharedT → Thread → Option SharedT :=
  @Nat.rec (fun _ => SharedT → Thread → Option SharedT) (fun _ _ => none) (fun _ ih s t => @Option.rec _ (fun _ => Option SharedT) (@Option.rec (SharedT × Thread) (fun _ => Option SharedT) none (fun r => ih r.1 r.2) (st s t)) (fun l => match l with | [] => some s | _ :: _ => none) t.atExitBegin) n
theorem impG_of {tb : String → Option Builtin} {p : Program} {w : World} : ∀ {n : Nat} {s s' : SharedT} {t : Thread}, impG (stepT (denote tb) p w) n s t = some s' → importEnds tb p w n s.abs t = some s'.abs
  | 0, _, _, _, h => by cases h
  | n + 1, s, s', t, h => by
    unfold importEnds
    change @Option.rec _ (fun _ => Option SharedT) (@Option.rec (SharedT × Thread) (fun _ => Option SharedT) none (fun r => impG (stepT (denote tb) p w) n r.1 r.2) (stepT (denote tb) p w s t)) (fun l => match l with | [] => some s | _ :: _ => none) t.atExitBegin = some s' at h
    cases he : t.atExitBegin with
    | some l => rw [he] at h; cases l <;> cases h; rfl
    | none =>
      rw [he] at h
      cases hs : stepT (denote tb) p w s t with
      | none => rw [hs] at h; cases h
      | some r =>
        obtain ⟨s₂, t₂⟩ := r
        rw [hs] at h
        dsimp only
        rw [stepT_spec hs]
        exact impG_of h
/-- a heap's objects, laid as a tree -/
noncomputable def lay : BT → Nat → List Obj → Option (BT × Nat)
  | t, n, [] => some (t, n)
  | t, n, o :: r => match ((t.ins n o).get n).isSome with
    | true => lay (t.ins n o) (n + 1) r
    | false => none
theorem lay_of {life : Life} : ∀ {l : List Obj} {t t' : BT} {n n' : Nat} {h : Heap}, lay t n l = some (t', n') → absHeap t n life = h → absHeap t' n' life = ⟨(h.objs.toList ++ l).toArray, h.life⟩
  | [], t, t', n, n', h, e, q => by
    cases e
    rw [q, List.append_nil]
  | o :: r, t, t', n, n', h, e, q => by
    unfold lay at e
    cases hi : ((t.ins n o).get n).isSome with
    | false => rw [hi] at e; cases e
    | true =>
      rw [hi] at e
      have := lay_of e (absHeap_ins (life := life) hi)
      rw [this, q]
      show (⟨_, _⟩ : Heap) = ⟨_, _⟩
      congr 1
      show ((h.objs.push o).toList ++ r).toArray = _
      simp
theorem lay_abs {h : Heap} {t : BT} {n : Nat} (e : lay .nil 0 h.objs.toList = some (t, n)) : absHeap t n h.life = h := by
  have := lay_of (life := h.life) (h := ⟨#[], h.life⟩) e rfl
  rw [this]
  rfl
/-- a state, its heap laid as a tree -/
noncomputable def layS (s : Shared) : Option SharedT := match lay .nil 0 s.heap.objs.toList with
  | some (t, n) => some ⟨t, n, s.heap.life, s.gens, s.drawn, s.toks, s.os⟩
  | none => none
theorem layS_abs {s : Shared} {x : SharedT} (e : layS s = some x) : x.abs = s := by
  unfold layS at e
  cases hl : lay .nil 0 s.heap.objs.toList with
  | none => rw [hl] at e; cases e
  | some y =>
    obtain ⟨t, n⟩ := y
    rw [hl] at e
    cases e
    unfold SharedT.abs
    rw [lay_abs hl]
/-- the opening and the whole top, once: the state ahead of the top, and the state behind it -/
noncomputable def onceG (st : (Code → Sem Fin) → Program → World → SharedT → Thread → Option (SharedT × Thread)) (den : Code → Sem Fin) (ok : Nat → Option Value → Thread → Bool) (fen : Program → Shared → Option Shared) (p : Program) (w : World) (N : Nat) : Option (Shared × Shared) :=
  (layS (start (opening p)).1).bind fun s => (impG (st den (opening p) w) N s (start (opening p)).2).bind fun s => (fen p s.abs).bind fun s₀ => @Bool.rec (fun _ => Option (Shared × Shared)) none ((layS s₀).bind fun s => (runG (st den p w) (ok s₀.heap.objs.size (s₀.heap.nsMap mainGlobals "__annotations__")) N s (topStub p)).map fun s' => (s₀, s'.abs)) (s₀.heap.isNs mainGlobals && s₀.gens.size == 0)
noncomputable abbrev once (p : Program) (w : World) (N : Nat) : Option (Shared × Shared) := onceG stepT (denote treeTable) stepOk fenceModules? p w N
/-- the same over the library's twins -/
noncomputable abbrev onceQ (p : Program) (w : World) (N : Nat) : Option (Shared × Shared) := onceG Fast.tw10156331382660048174 (Fast.tw11892475500146522536 Fast.tw14364793385576792824) Fast.tw6613529449190102663 Fast.tw14289696077712309145 p w N
theorem once_eq (p : Program) (w : World) (N : Nat) : once p w N = onceQ p w N := by
  unfold once onceQ
  rw [Fast.te10156331382660048174, Fast.te11892475500146522536, Fast.te14364793385576792824, Fast.te6613529449190102663, Fast.te14289696077712309145]
theorem of_once {p : Program} {w : World} {N : Nat} {s₀ s : Shared} (e : once p w N = some (s₀, s)) : fencedOpening treeTable p w N = some s₀ ∧ (s₀.heap.isNs mainGlobals && s₀.gens.size == 0) = true ∧ topRun treeTable p w s₀.heap.objs.size (s₀.heap.nsMap mainGlobals "__annotations__") N s₀ (topStub p) = some s := by
  unfold once onceG at e
  obtain ⟨a, ha, e⟩ := Option.bind_eq_some_iff.mp e
  obtain ⟨b, hb, e⟩ := Option.bind_eq_some_iff.mp e
  obtain ⟨c, hc, e⟩ := Option.bind_eq_some_iff.mp e
  cases hi : (c.heap.isNs mainGlobals && c.gens.size == 0) with
  | false => rw [hi] at e; cases e
  | true =>
    rw [hi] at e
    obtain ⟨d, hd, e⟩ := Option.bind_eq_some_iff.mp e
    obtain ⟨x, hx, e⟩ := Option.map_eq_some_iff.mp e
    cases e
    have hb := impG_of hb
    rw [layS_abs ha] at hb
    have hx := runG_of hx
    rw [layS_abs hd] at hx
    refine ⟨?_, hi, hx⟩
    unfold fencedOpening
    rw [hb]
    exact hc
theorem left_once {p q : Program} {loose : List Str} {Xt : Shared → Bool} {α : Type} {Yf : Shared → α} {Ya : World → α} {N : Nat} {g0 : Bool}
    (h : ∀ w : World, (onceQ p w N).map (fun x => ((staticsOk (importedModules p.main.body) x.1.heap x.2.heap && namesBound p x.2.heap && gensDone x.2 && laidKept x.1.heap x.2.heap), Fast.tw4187177175401517315 q loose (importedModules p.main.body) Xt g0 x.2)) = some (true, openGood q loose))
    (h' : ∀ w : World, (onceQ p w N).map (fun x => Yf x.2) = some (Ya w)) : LeftO p q loose Xt Yf Ya N g0 := fun w => by
  have h := h w
  have h' := h' w
  rw [← once_eq] at h h'
  rw [← Fast.te4187177175401517315] at h
  obtain ⟨⟨s₀, s⟩, e, e'⟩ := Option.map_eq_some_iff.mp h
  rw [e] at h'
  have l3 : Yf s = Ya w := Option.some.inj h'
  obtain ⟨l1, l2⟩ : _ ∧ _ := by simpa only [Prod.mk.injEq] using e'
  obtain ⟨f, hi, r⟩ := of_once e
  have tf : topFrom treeTable p w N s₀ = some s := by
    unfold topFrom
    rw [hi, r]
    show (match staticsOk (importedModules p.main.body) s₀.heap s.heap && namesBound p s.heap && gensDone s && laidKept s₀.heap s.heap with | true => _ | false => _) = _
    rw [l1]
  unfold openEnds
  rw [f]
  show (topFrom treeTable p w N s₀).map _ = _
  rw [tf]
  exact congrArg some (Prod.ext l2 l3)
end Mine
end

section
open PySem PySem.W PyProof.Rows
set_option Elab.async false
set_option maxRecDepth 100000
set_option maxHeartbeats 8000000
namespace Mine
noncomputable abbrev pr : Program := PySem.Challenge.rw_om0137_02.row.prog
noncomputable def keep1 : List Nat := [0, 1, 3, 5, 6, 7, 8, 9, 10, 11, 12, 14, 15, 16, 17, 18, 19, 21, 23, 26, 27, 28, 29, 30, 31, 32]
noncomputable def hd.view_39 : Program := view pr keep1
noncomputable def loose1 : List Str := [Str.ofString "UnsupportedOperation", Str.ofString "IOBase", Str.ofString "BufferedIOBase", Str.ofString "TextIOBase", Str.ofString "BytesIO", Str.ofString "StringIO", Str.ofString "shlex", Str.ofString "_initial_missing", Str.ofString "reduce"]
/-- a def's parts, by its place in the text -/
noncomputable def fdAt : List Stmt → List Nat → Option (Arguments × List Stmt × Scope)
  | _, [] => none
  | l, i :: r => match l[i]? with
    | some (.ClassDef _ _ _ b _ _ _ _ _ _ _) => fdAt b r
    | some (.FunctionDef _ a b _ _ _ sc _ _ _) => match r with
      | [] => some (a, b, sc)
      | _ => fdAt b r
    | _ => none
noncomputable def fArgs (p : List Nat) : Arguments := ((fdAt pr.main.body p).getD default).1
noncomputable def fBody (p : List Nat) : List Stmt := ((fdAt pr.main.body p).getD default).2.1
noncomputable def fScope (p : List Nat) : Scope := ((fdAt pr.main.body p).getD default).2.2
noncomputable def hd.heap_39 (P : Params) : Frag :=
  (nat_lit 2, ⟨Value.none, none, (Data.dict (List.toArray [⟨PyData.keyHash P (Str.ofString "\x69mport.loaded._collections"), (Value.str (Str.ofString "\x69mport.loaded._collections") 185), (Value.bool true)⟩, ⟨PyData.keyHash P (Str.ofString "class._frozen_\x69mportlib.BuiltinImporter"), (Value.str (Str.ofString "class._frozen_\x69mportlib.BuiltinImporter") 187), (Value.ref 15)⟩, ⟨PyData.keyHash P (Str.ofString "watched.\x69mport"), (Value.str (Str.ofString "watched.\x69mport") 208), (Value.ref 19)⟩, ⟨PyData.keyHash P (Str.ofString "class._frozen_\x69mportlib.ModuleSpec"), (Value.str (Str.ofString "class._frozen_\x69mportlib.ModuleSpec") 218), (Value.ref 23)⟩, ⟨PyData.keyHash P (Str.ofString "sys.modules.booked-epoch"), (Value.str (Str.ofString "sys.modules.booked-epoch") 247), (Value.int 3 0)⟩, ⟨PyData.keyHash P (Str.ofString "sys.modules.landed._collections"), (Value.str (Str.ofString "sys.modules.landed._collections") 248), (Value.bool true)⟩, ⟨PyData.keyHash P (Str.ofString "\x69mport.later-laid._collections"), (Value.str (Str.ofString "\x69mport.later-laid._collections") 263), (Value.bool true)⟩, ⟨PyData.keyHash P (Str.ofString "watched.library"), (Value.str (Str.ofString "watched.library") 265), (Value.ref 28)⟩, ⟨PyData.keyHash P (Str.ofString "watched.library-objects"), (Value.str (Str.ofString "watched.library-objects") 0), (Value.str (Str.ofString "\x0d") 0)⟩, ⟨PyData.keyHash P (Str.ofString "watched.library-deep._collections"), (Value.str (Str.ofString "watched.library-deep._collections") 266), (Value.str (Str.ofString "\x04\x00\x00\x0c\x04\x00\x00\x0c\x04\x00\x00\x03\x04\x00\x00\x0c\x08\x04dict\x02") 0)⟩, ⟨PyData.keyHash P (Str.ofString "type.__subclasses__.OSError.0"), (Value.str (Str.ofString "type.__subclasses__.OSError.0") 382), (Value.int 105 0)⟩, ⟨PyData.keyHash P (Str.ofString "type.__subclasses__.OSError.n"), (Value.str (Str.ofString "type.__subclasses__.OSError.n") 383), (Value.int 1 0)⟩]) 12), (List.toArray [])⟩) ::
  (nat_lit 3, ⟨(Value.type "dict"), none, (Data.dict (List.toArray [⟨PyData.keyHash P (Str.ofString "__name__"), (Value.str (Str.ofString "__name__") 165), (Value.str (Str.ofString "law_om0137_02") 1217)⟩, ⟨PyData.keyHash P (Str.ofString "__doc__"), (Value.str (Str.ofString "__doc__") 166), Value.none⟩, ⟨PyData.keyHash P (Str.ofString "__package__"), (Value.str (Str.ofString "__package__") 167), Value.none⟩, ⟨PyData.keyHash P (Str.ofString "__loader__"), (Value.str (Str.ofString "__loader__") 168), (Value.builtin "__main__.__loader__#opaque")⟩, ⟨PyData.keyHash P (Str.ofString "__spec__"), (Value.str (Str.ofString "__spec__") 169), Value.none⟩, ⟨PyData.keyHash P (Str.ofString "__annotations__"), (Value.str (Str.ofString "__annotations__") 170), (Value.ref 6)⟩, ⟨PyData.keyHash P (Str.ofString "__builtins__"), (Value.str (Str.ofString "__builtins__") 171), (Value.ref 4)⟩, ⟨PyData.keyHash P (Str.ofString "__file__"), (Value.str (Str.ofString "__file__") 173), (Value.str (Str.ofString "/claim/cut.py") 172)⟩, ⟨PyData.keyHash P (Str.ofString "__cached__"), (Value.str (Str.ofString "__cached__") 174), Value.none⟩, ⟨PyData.keyHash P (Str.ofString "deque"), (Value.str (Str.ofString "deque") 272), (Value.type "collections.deque")⟩, ⟨PyData.keyHash P (Str.ofString "_wall"), (Value.str (Str.ofString "_wall") 285), (Value.ref 39)⟩, ⟨PyData.keyHash P (Str.ofString "_netrclex"), (Value.str (Str.ofString "_netrclex") 345), (Value.ref 77)⟩, ⟨PyData.keyHash P (Str.ofString "_whence"), (Value.str (Str.ofString "_whence") 355), (Value.ref 88)⟩, ⟨PyData.keyHash P (Str.ofString "_index"), (Value.str (Str.ofString "_index") 363), (Value.ref 95)⟩, ⟨PyData.keyHash P (Str.ofString "UnsupportedOperation"), (Value.str (Str.ofString "UnsupportedOperation") 385), (Value.ref 105)⟩, ⟨PyData.keyHash P (Str.ofString "IOBase"), (Value.str (Str.ofString "IOBase") 417), (Value.ref 125)⟩, ⟨PyData.keyHash P (Str.ofString "BufferedIOBase"), (Value.str (Str.ofString "BufferedIOBase") 435), (Value.ref 140)⟩, ⟨PyData.keyHash P (Str.ofString "TextIOBase"), (Value.str (Str.ofString "TextIOBase") 453), (Value.ref 152)⟩, ⟨PyData.keyHash P (Str.ofString "BytesIO"), (Value.str (Str.ofString "BytesIO") 715), (Value.ref 382)⟩, ⟨PyData.keyHash P (Str.ofString "StringIO"), (Value.str (Str.ofString "StringIO") 1002), (Value.ref 629)⟩, ⟨PyData.keyHash P (Str.ofString "_kind"), (Value.str (Str.ofString "_kind") 1013), (Value.ref 638)⟩, ⟨PyData.keyHash P (Str.ofString "_fspath"), (Value.str (Str.ofString "_fspath") 1022), (Value.ref 645)⟩, ⟨PyData.keyHash P (Str.ofString "_check_arg_types"), (Value.str (Str.ofString "_check_arg_types") 1032), (Value.ref 652)⟩, ⟨PyData.keyHash P (Str.ofString "isabs"), (Value.str (Str.ofString "isabs") 1039), (Value.ref 659)⟩, ⟨PyData.keyHash P (Str.ofString "join"), (Value.str (Str.ofString "join") 1050), (Value.ref 666)⟩, ⟨PyData.keyHash P (Str.ofString "dirname"), (Value.str (Str.ofString "dirname") 1060), (Value.ref 673)⟩, ⟨PyData.keyHash P (Str.ofString "shlex"), (Value.str (Str.ofString "shlex") 1201), (Value.ref 764)⟩, ⟨PyData.keyHash P (Str.ofString "_initial_missing"), (Value.str (Str.ofString "_initial_missing") 1204), (Value.ref 769)⟩, ⟨PyData.keyHash P (Str.ofString "reduce"), (Value.str (Str.ofString "reduce") 1216), (Value.ref 777)⟩, ⟨PyData.keyHash P (Str.ofString "_law_piece"), (Value.str (Str.ofString "_law_piece") 1225), (Value.ref 784)⟩, ⟨PyData.keyHash P (Str.ofString "_law_whites"), (Value.str (Str.ofString "_law_whites") 1231), (Value.ref 789)⟩, ⟨PyData.keyHash P (Str.ofString "_law_given"), (Value.str (Str.ofString "_law_given") 1243), (Value.ref 796)⟩, ⟨PyData.keyHash P (Str.ofString "_law_read"), (Value.str (Str.ofString "_law_read") 1255), (Value.ref 803)⟩, ⟨PyData.keyHash P (Str.ofString "_law_word"), (Value.str (Str.ofString "_law_word") 1263), (Value.ref 810)⟩, ⟨PyData.keyHash P (Str.ofString "_law_next"), (Value.str (Str.ofString "_law_next") 1278), (Value.ref 817)⟩, ⟨PyData.keyHash P (Str.ofString "law"), (Value.str (Str.ofString "law") 1284), (Value.ref 822)⟩]) 36), (List.toArray [])⟩) ::
  (nat_lit 38, ⟨(Value.type "code"), none, (Data.fields (List.toArray [(Value.str (Str.ofString "_wall") 279), (Value.str (Str.ofString "_wall") 280), (Value.str (Str.ofString "/claim/cut.py") 281), (Value.int 2 0), (Value.int 1 0), (Value.int 0 0), (Value.int 0 0), (Value.int 3 0), (Value.ref 33), (Value.bool true), (Value.int 273 0), (Value.ref 34), Value.none, (Value.ref 35), (Value.ref 36), (Value.ref 37), (Value.int 283 0), (Value.int 2 0), (Value.str (Str.ofString "/claim/cut.py") 284)])), (List.toArray [])⟩) ::
  (nat_lit 39, ⟨(Value.type "function"), none, (Data.func ⟨(Str.ofString "_wall"), (Str.ofString "_wall"), fArgs [1], FuncBody.stmts (fBody [1]), fScope [1], 3, [], Value.none, Value.none, Value.none, (Value.str (Str.ofString "__main__") 164), none, (Value.ref 38), Value.none, 0⟩), (List.toArray [])⟩) ::
  (nat_lit 52, ⟨(Value.type "code"), none, (Data.fields (List.toArray [(Value.str (Str.ofString "__init__") 300), (Value.str (Str.ofString "_netrclex.__init__") 301), (Value.str (Str.ofString "/claim/cut.py") 302), (Value.int 8 0), (Value.int 2 0), (Value.int 0 0), (Value.int 0 0), (Value.int 3 0), (Value.ref 47), (Value.bool true), (Value.int 273 0), (Value.ref 48), Value.none, (Value.ref 49), (Value.ref 50), (Value.ref 51), (Value.int 305 0), (Value.int 8 0), (Value.str (Str.ofString "/claim/cut.py") 306)])), (List.toArray [])⟩) ::
  (nat_lit 53, ⟨(Value.type "function"), none, (Data.func ⟨(Str.ofString "__init__"), (Str.ofString "_netrclex.__init__"), fArgs [3, 0], FuncBody.stmts (fBody [3, 0]), fScope [3, 0], 3, [], Value.none, Value.none, Value.none, (Value.str (Str.ofString "cpy313.netrc") 286), none, (Value.ref 52), Value.none, 0⟩), (List.toArray [])⟩) ::
  (nat_lit 59, ⟨(Value.type "code"), none, (Data.fields (List.toArray [(Value.str (Str.ofString "_read_char") 308), (Value.str (Str.ofString "_netrclex._read_char") 309), (Value.str (Str.ofString "/claim/cut.py") 310), (Value.int 14 0), (Value.int 1 0), (Value.int 0 0), (Value.int 0 0), (Value.int 3 0), (Value.ref 54), (Value.bool true), (Value.int 273 0), (Value.ref 55), Value.none, (Value.ref 56), (Value.ref 57), (Value.ref 58), (Value.int 313 0), (Value.int 14 0), (Value.str (Str.ofString "/claim/cut.py") 314)])), (List.toArray [])⟩) ::
  (nat_lit 60, ⟨(Value.type "function"), none, (Data.func ⟨(Str.ofString "_read_char"), (Str.ofString "_netrclex._read_char"), fArgs [3, 1], FuncBody.stmts (fBody [3, 1]), fScope [3, 1], 3, [], Value.none, Value.none, Value.none, (Value.str (Str.ofString "cpy313.netrc") 286), none, (Value.ref 59), Value.none, 0⟩), (List.toArray [])⟩) ::
  (nat_lit 66, ⟨(Value.type "code"), none, (Data.fields (List.toArray [(Value.str (Str.ofString "get_token") 316), (Value.str (Str.ofString "_netrclex.get_token") 317), (Value.str (Str.ofString "/claim/cut.py") 318), (Value.int 20 0), (Value.int 1 0), (Value.int 0 0), (Value.int 0 0), (Value.int 3 0), (Value.ref 61), (Value.bool true), (Value.int 273 0), (Value.ref 62), Value.none, (Value.ref 63), (Value.ref 64), (Value.ref 65), (Value.int 323 0), (Value.int 20 0), (Value.str (Str.ofString "/claim/cut.py") 324)])), (List.toArray [])⟩) ::
  (nat_lit 67, ⟨(Value.type "function"), none, (Data.func ⟨(Str.ofString "get_token"), (Str.ofString "_netrclex.get_token"), fArgs [3, 2], FuncBody.stmts (fBody [3, 2]), fScope [3, 2], 3, [], Value.none, Value.none, Value.none, (Value.str (Str.ofString "cpy313.netrc") 286), none, (Value.ref 66), Value.none, 0⟩), (List.toArray [])⟩) ::
  (nat_lit 73, ⟨(Value.type "code"), none, (Data.fields (List.toArray [(Value.str (Str.ofString "push_token") 326), (Value.str (Str.ofString "_netrclex.push_token") 327), (Value.str (Str.ofString "/claim/cut.py") 328), (Value.int 47 0), (Value.int 2 0), (Value.int 0 0), (Value.int 0 0), (Value.int 3 0), (Value.ref 68), (Value.bool true), (Value.int 273 0), (Value.ref 69), Value.none, (Value.ref 70), (Value.ref 71), (Value.ref 72), (Value.int 331 0), (Value.int 47 0), (Value.str (Str.ofString "/claim/cut.py") 332)])), (List.toArray [])⟩) ::
  (nat_lit 74, ⟨(Value.type "function"), none, (Data.func ⟨(Str.ofString "push_token"), (Str.ofString "_netrclex.push_token"), fArgs [3, 3], FuncBody.stmts (fBody [3, 3]), fScope [3, 3], 3, [], Value.none, Value.none, Value.none, (Value.str (Str.ofString "cpy313.netrc") 286), none, (Value.ref 73), Value.none, 0⟩), (List.toArray [])⟩) ::
  (nat_lit 76, ⟨(Value.type "dict"), none, (Data.dict (List.toArray [⟨PyData.keyHash P (Str.ofString "__module__"), (Value.str (Str.ofString "__module__") 295), (Value.str (Str.ofString "cpy313.netrc") 286)⟩, ⟨PyData.keyHash P (Str.ofString "__firstlineno__"), (Value.str (Str.ofString "__firstlineno__") 299), (Value.int 6 298)⟩, ⟨PyData.keyHash P (Str.ofString "__init__"), (Value.str (Str.ofString "__init__") 307), (Value.ref 53)⟩, ⟨PyData.keyHash P (Str.ofString "_read_char"), (Value.str (Str.ofString "_read_char") 315), (Value.ref 60)⟩, ⟨PyData.keyHash P (Str.ofString "get_token"), (Value.str (Str.ofString "get_token") 325), (Value.ref 67)⟩, ⟨PyData.keyHash P (Str.ofString "push_token"), (Value.str (Str.ofString "push_token") 333), (Value.ref 74)⟩, ⟨PyData.keyHash P (Str.ofString "__static_attributes__"), (Value.str (Str.ofString "__static_attributes__") 338), (Value.ref 75)⟩, ⟨PyData.keyHash P (Str.ofString "__dict__"), (Value.str (Str.ofString "__dict__") 340), (Value.ref 78)⟩, ⟨PyData.keyHash P (Str.ofString "__weakref__"), (Value.str (Str.ofString "__weakref__") 342), (Value.ref 79)⟩, ⟨PyData.keyHash P (Str.ofString "__doc__"), (Value.str (Str.ofString "__doc__") 343), Value.none⟩]) 4), (List.toArray [])⟩) ::
  (nat_lit 77, ⟨(Value.type "type"), none, (Data.cls ⟨(Str.ofString "_netrclex"), [(Value.type "object")], [(Value.ref 77), (Value.type "object")], 76, (Str.ofString "_netrclex"), true, [], [], false, none, false⟩), (List.toArray [none, none, (some (Value.str (Str.ofString "_netrclex") 288)), (some (Value.str (Str.ofString "_netrclex") 296)), (some (Value.builtin "object.__new__")), (some (Value.bool true))])⟩) ::
  (nat_lit 78, ⟨(Value.type "getset_descriptor"), none, (Data.fields (List.toArray [(Value.str (Str.ofString "__dict__") 339), (Value.ref 77), (Value.builtin "function.__dict__"), (Value.builtin "function.__dict__#set")])), (List.toArray [])⟩) ::
  (nat_lit 79, ⟨(Value.type "getset_descriptor"), none, (Data.fields (List.toArray [(Value.str (Str.ofString "__weakref__") 341), (Value.ref 77), (Value.builtin "ExceptionGroup.__weakref__"), Value.none])), (List.toArray [])⟩) ::
  (nat_lit 87, ⟨(Value.type "code"), none, (Data.fields (List.toArray [(Value.str (Str.ofString "_whence") 348), (Value.str (Str.ofString "_whence") 349), (Value.str (Str.ofString "/claim/cut.py") 350), (Value.int 50 0), (Value.int 2 0), (Value.int 0 0), (Value.int 0 0), (Value.int 3 0), (Value.ref 82), (Value.bool true), (Value.int 273 0), (Value.ref 83), Value.none, (Value.ref 84), (Value.ref 85), (Value.ref 86), (Value.int 353 0), (Value.int 50 0), (Value.str (Str.ofString "/claim/cut.py") 354)])), (List.toArray [])⟩) ::
  (nat_lit 88, ⟨(Value.type "function"), none, (Data.func ⟨(Str.ofString "_whence"), (Str.ofString "_whence"), fArgs [5], FuncBody.stmts (fBody [5]), fScope [5], 3, [], Value.none, Value.none, Value.none, (Value.str (Str.ofString "io") 346), none, (Value.ref 87), Value.none, 0⟩), (List.toArray [])⟩) ::
  (nat_lit 94, ⟨(Value.type "code"), none, (Data.fields (List.toArray [(Value.str (Str.ofString "_index") 356), (Value.str (Str.ofString "_index") 357), (Value.str (Str.ofString "/claim/cut.py") 358), (Value.int 55 0), (Value.int 2 0), (Value.int 0 0), (Value.int 0 0), (Value.int 3 0), (Value.ref 89), (Value.bool true), (Value.int 273 0), (Value.ref 90), Value.none, (Value.ref 91), (Value.ref 92), (Value.ref 93), (Value.int 361 0), (Value.int 55 0), (Value.str (Str.ofString "/claim/cut.py") 362)])), (List.toArray [])⟩) ::
  (nat_lit 95, ⟨(Value.type "function"), none, (Data.func ⟨(Str.ofString "_index"), (Str.ofString "_index"), fArgs [6], FuncBody.stmts (fBody [6]), fScope [6], 3, [], Value.none, Value.none, Value.none, (Value.str (Str.ofString "io") 346), none, (Value.ref 94), Value.none, 0⟩), (List.toArray [])⟩) ::
  (nat_lit 104, ⟨(Value.type "dict"), none, (Data.dict (List.toArray [⟨PyData.keyHash P (Str.ofString "__module__"), (Value.str (Str.ofString "__module__") 371), (Value.str (Str.ofString "io") 376)⟩, ⟨PyData.keyHash P (Str.ofString "__firstlineno__"), (Value.str (Str.ofString "__firstlineno__") 375), (Value.int 62 374)⟩, ⟨PyData.keyHash P (Str.ofString "__static_attributes__"), (Value.str (Str.ofString "__static_attributes__") 378), (Value.ref 103)⟩, ⟨PyData.keyHash P (Str.ofString "__weakref__"), (Value.str (Str.ofString "__weakref__") 380), (Value.ref 106)⟩, ⟨PyData.keyHash P (Str.ofString "__doc__"), (Value.str (Str.ofString "__doc__") 381), Value.none⟩]) 3), (List.toArray [])⟩) ::
  (nat_lit 105, ⟨(Value.type "type"), none, (Data.cls ⟨(Str.ofString "UnsupportedOperation"), [(Value.type "OSError"), (Value.type "ValueError")], [(Value.ref 105), (Value.type "OSError"), (Value.type "ValueError"), (Value.type "Exception"), (Value.type "BaseException"), (Value.type "object")], 104, (Str.ofString "UnsupportedOperation"), true, [], [], false, none, false⟩), (List.toArray [(some (Value.ref 96)), none, (some (Value.str (Str.ofString "UnsupportedOperation") 364)), (some (Value.str (Str.ofString "UnsupportedOperation") 372)), (some (Value.builtin "OSError.__new__")), (some (Value.bool true))])⟩) ::
  (nat_lit 106, ⟨(Value.type "getset_descriptor"), none, (Data.fields (List.toArray [(Value.str (Str.ofString "__weakref__") 379), (Value.ref 105), (Value.builtin "ExceptionGroup.__weakref__"), Value.none])), (List.toArray [])⟩) ::
  (nat_lit 121, ⟨(Value.type "code"), none, (Data.fields (List.toArray [(Value.str (Str.ofString "__new__") 400), (Value.str (Str.ofString "IOBase.__new__") 401), (Value.str (Str.ofString "/claim/cut.py") 402), (Value.int 67 0), (Value.int 1 0), (Value.int 1 0), (Value.int 0 0), (Value.int 15 0), (Value.ref 116), (Value.bool true), (Value.int 273 0), (Value.ref 117), Value.none, (Value.ref 118), (Value.ref 119), (Value.ref 120), (Value.int 406 0), (Value.int 67 0), (Value.str (Str.ofString "/claim/cut.py") 407)])), (List.toArray [])⟩) ::
  (nat_lit 122, ⟨(Value.type "function"), none, (Data.func ⟨(Str.ofString "__new__"), (Str.ofString "IOBase.__new__"), fArgs [8, 1], FuncBody.stmts (fBody [8, 1]), fScope [8, 1], 3, [], Value.none, Value.none, Value.none, (Value.str (Str.ofString "io") 346), none, (Value.ref 121), Value.none, 0⟩), (List.toArray [])⟩) ::
  (nat_lit 124, ⟨(Value.type "dict"), none, (Data.dict (List.toArray [⟨PyData.keyHash P (Str.ofString "__module__"), (Value.str (Str.ofString "__module__") 393), (Value.str (Str.ofString "io") 398)⟩, ⟨PyData.keyHash P (Str.ofString "__firstlineno__"), (Value.str (Str.ofString "__firstlineno__") 397), (Value.int 64 396)⟩, ⟨PyData.keyHash P (Str.ofString "__new__"), (Value.str (Str.ofString "__new__") 408), (Value.ref 126)⟩, ⟨PyData.keyHash P (Str.ofString "__static_attributes__"), (Value.str (Str.ofString "__static_attributes__") 409), (Value.ref 123)⟩, ⟨PyData.keyHash P (Str.ofString "__dict__"), (Value.str (Str.ofString "__dict__") 412), (Value.ref 127)⟩, ⟨PyData.keyHash P (Str.ofString "__weakref__"), (Value.str (Str.ofString "__weakref__") 414), (Value.ref 128)⟩, ⟨PyData.keyHash P (Str.ofString "__doc__"), (Value.str (Str.ofString "__doc__") 415), Value.none⟩]) 4), (List.toArray [])⟩) ::
  (nat_lit 125, ⟨(Value.type "type"), none, (Data.cls ⟨(Str.ofString "IOBase"), [(Value.type "object")], [(Value.ref 125), (Value.type "object")], 124, (Str.ofString "IOBase"), true, [], [(Value.ref 140), (Value.ref 152)], false, none, false⟩), (List.toArray [none, none, (some (Value.str (Str.ofString "IOBase") 386)), (some (Value.str (Str.ofString "IOBase") 394)), (some Value.none), (some (Value.bool true))])⟩) ::
  (nat_lit 126, ⟨(Value.type "staticmethod"), none, (Data.fields (List.toArray [(Value.ref 122)])), (List.toArray [])⟩) ::
  (nat_lit 127, ⟨(Value.type "getset_descriptor"), none, (Data.fields (List.toArray [(Value.str (Str.ofString "__dict__") 411), (Value.ref 125), (Value.builtin "function.__dict__"), (Value.builtin "function.__dict__#set")])), (List.toArray [])⟩) ::
  (nat_lit 128, ⟨(Value.type "getset_descriptor"), none, (Data.fields (List.toArray [(Value.str (Str.ofString "__weakref__") 413), (Value.ref 125), (Value.builtin "ExceptionGroup.__weakref__"), Value.none])), (List.toArray [])⟩) ::
  (nat_lit 139, ⟨(Value.type "dict"), none, (Data.dict (List.toArray [⟨PyData.keyHash P (Str.ofString "__module__"), (Value.str (Str.ofString "__module__") 425), (Value.str (Str.ofString "io") 430)⟩, ⟨PyData.keyHash P (Str.ofString "__firstlineno__"), (Value.str (Str.ofString "__firstlineno__") 429), (Value.int 71 428)⟩, ⟨PyData.keyHash P (Str.ofString "__static_attributes__"), (Value.str (Str.ofString "__static_attributes__") 432), (Value.ref 138)⟩, ⟨PyData.keyHash P (Str.ofString "__doc__"), (Value.str (Str.ofString "__doc__") 433), Value.none⟩]) 2), (List.toArray [])⟩) ::
  (nat_lit 140, ⟨(Value.type "type"), none, (Data.cls ⟨(Str.ofString "BufferedIOBase"), [(Value.ref 125)], [(Value.ref 140), (Value.ref 125), (Value.type "object")], 139, (Str.ofString "BufferedIOBase"), true, [], [(Value.ref 382)], false, none, false⟩), (List.toArray [(some (Value.ref 131)), none, (some (Value.str (Str.ofString "BufferedIOBase") 418)), (some (Value.str (Str.ofString "BufferedIOBase") 426)), (some Value.none), (some (Value.bool true))])⟩) ::
  (nat_lit 151, ⟨(Value.type "dict"), none, (Data.dict (List.toArray [⟨PyData.keyHash P (Str.ofString "__module__"), (Value.str (Str.ofString "__module__") 443), (Value.str (Str.ofString "io") 448)⟩, ⟨PyData.keyHash P (Str.ofString "__firstlineno__"), (Value.str (Str.ofString "__firstlineno__") 447), (Value.int 73 446)⟩, ⟨PyData.keyHash P (Str.ofString "__static_attributes__"), (Value.str (Str.ofString "__static_attributes__") 450), (Value.ref 150)⟩, ⟨PyData.keyHash P (Str.ofString "__doc__"), (Value.str (Str.ofString "__doc__") 451), Value.none⟩]) 2), (List.toArray [])⟩) ::
  (nat_lit 152, ⟨(Value.type "type"), none, (Data.cls ⟨(Str.ofString "TextIOBase"), [(Value.ref 125)], [(Value.ref 152), (Value.ref 125), (Value.type "object")], 151, (Str.ofString "TextIOBase"), true, [], [(Value.ref 629)], false, none, false⟩), (List.toArray [(some (Value.ref 143)), none, (some (Value.str (Str.ofString "TextIOBase") 436)), (some (Value.str (Str.ofString "TextIOBase") 444)), (some Value.none), (some (Value.bool true))])⟩) ::
  (nat_lit 162, ⟨(Value.type "tuple"), none, (Data.seq (List.toArray [Value.none]) 0), (List.toArray [])⟩) ::
  (nat_lit 168, ⟨(Value.type "code"), none, (Data.fields (List.toArray [(Value.str (Str.ofString "__init__") 468), (Value.str (Str.ofString "BytesIO.__init__") 469), (Value.str (Str.ofString "/claim/cut.py") 470), (Value.int 78 0), (Value.int 2 0), (Value.int 0 0), (Value.int 0 0), (Value.int 3 0), (Value.ref 163), (Value.bool true), (Value.int 273 0), (Value.ref 164), Value.none, (Value.ref 165), (Value.ref 166), (Value.ref 167), (Value.int 473 0), (Value.int 78 0), (Value.str (Str.ofString "/claim/cut.py") 474)])), (List.toArray [])⟩) ::
  (nat_lit 169, ⟨(Value.type "function"), none, (Data.func ⟨(Str.ofString "__init__"), (Str.ofString "BytesIO.__init__"), fArgs [11, 1], FuncBody.stmts (fBody [11, 1]), fScope [11, 1], 3, [], (Value.ref 162), Value.none, Value.none, (Value.str (Str.ofString "io") 346), none, (Value.ref 168), Value.none, 0⟩), (List.toArray [])⟩) ::
  (nat_lit 175, ⟨(Value.type "code"), none, (Data.fields (List.toArray [(Value.str (Str.ofString "__check") 476), (Value.str (Str.ofString "BytesIO.__check") 477), (Value.str (Str.ofString "/claim/cut.py") 478), (Value.int 84 0), (Value.int 1 0), (Value.int 0 0), (Value.int 0 0), (Value.int 3 0), (Value.ref 170), (Value.bool true), (Value.int 273 0), (Value.ref 171), Value.none, (Value.ref 172), (Value.ref 173), (Value.ref 174), (Value.int 480 0), (Value.int 84 0), (Value.str (Str.ofString "/claim/cut.py") 481)])), (List.toArray [])⟩) ::
  (nat_lit 176, ⟨(Value.type "function"), none, (Data.func ⟨(Str.ofString "__check"), (Str.ofString "BytesIO.__check"), fArgs [11, 2], FuncBody.stmts (fBody [11, 2]), fScope [11, 2], 3, [], Value.none, Value.none, Value.none, (Value.str (Str.ofString "io") 346), none, (Value.ref 175), Value.none, 0⟩), (List.toArray [])⟩) ::
  (nat_lit 182, ⟨(Value.type "code"), none, (Data.fields (List.toArray [(Value.str (Str.ofString "__line") 483), (Value.str (Str.ofString "BytesIO.__line") 484), (Value.str (Str.ofString "/claim/cut.py") 485), (Value.int 88 0), (Value.int 2 0), (Value.int 0 0), (Value.int 0 0), (Value.int 3 0), (Value.ref 177), (Value.bool true), (Value.int 273 0), (Value.ref 178), Value.none, (Value.ref 179), (Value.ref 180), (Value.ref 181), (Value.int 491 0), (Value.int 88 0), (Value.str (Str.ofString "/claim/cut.py") 492)])), (List.toArray [])⟩) ::
  (nat_lit 183, ⟨(Value.type "function"), none, (Data.func ⟨(Str.ofString "__line"), (Str.ofString "BytesIO.__line"), fArgs [11, 3], FuncBody.stmts (fBody [11, 3]), fScope [11, 3], 3, [], Value.none, Value.none, Value.none, (Value.str (Str.ofString "io") 346), none, (Value.ref 182), Value.none, 0⟩), (List.toArray [])⟩) ::
  (nat_lit 189, ⟨(Value.type "code"), none, (Data.fields (List.toArray [(Value.str (Str.ofString "closed") 494), (Value.str (Str.ofString "BytesIO.closed") 495), (Value.str (Str.ofString "/claim/cut.py") 496), (Value.int 101 0), (Value.int 1 0), (Value.int 0 0), (Value.int 0 0), (Value.int 3 0), (Value.ref 184), (Value.bool true), (Value.int 273 0), (Value.ref 185), Value.none, (Value.ref 186), (Value.ref 187), (Value.ref 188), (Value.int 498 0), (Value.int 101 0), (Value.str (Str.ofString "/claim/cut.py") 499)])), (List.toArray [])⟩) ::
  (nat_lit 190, ⟨(Value.type "function"), none, (Data.func ⟨(Str.ofString "closed"), (Str.ofString "BytesIO.closed"), fArgs [11, 4], FuncBody.stmts (fBody [11, 4]), fScope [11, 4], 3, [], Value.none, Value.none, Value.none, (Value.str (Str.ofString "io") 346), none, (Value.ref 189), Value.none, 0⟩), (List.toArray [])⟩) ::
  (nat_lit 191, ⟨(Value.type "property"), none, (Data.fields (List.toArray [(Value.ref 190), Value.none, Value.none, Value.none, (Value.str (Str.ofString "closed") 501), (Value.bool false)])), (List.toArray [])⟩) ::
  (nat_lit 197, ⟨(Value.type "code"), none, (Data.fields (List.toArray [(Value.str (Str.ofString "close") 502), (Value.str (Str.ofString "BytesIO.close") 503), (Value.str (Str.ofString "/claim/cut.py") 504), (Value.int 105 0), (Value.int 1 0), (Value.int 0 0), (Value.int 0 0), (Value.int 3 0), (Value.ref 192), (Value.bool true), (Value.int 273 0), (Value.ref 193), Value.none, (Value.ref 194), (Value.ref 195), (Value.ref 196), (Value.int 506 0), (Value.int 105 0), (Value.str (Str.ofString "/claim/cut.py") 507)])), (List.toArray [])⟩) ::
  (nat_lit 198, ⟨(Value.type "function"), none, (Data.func ⟨(Str.ofString "close"), (Str.ofString "BytesIO.close"), fArgs [11, 5], FuncBody.stmts (fBody [11, 5]), fScope [11, 5], 3, [], Value.none, Value.none, Value.none, (Value.str (Str.ofString "io") 346), none, (Value.ref 197), Value.none, 0⟩), (List.toArray [])⟩) ::
  (nat_lit 204, ⟨(Value.type "code"), none, (Data.fields (List.toArray [(Value.str (Str.ofString "__enter__") 509), (Value.str (Str.ofString "BytesIO.__enter__") 510), (Value.str (Str.ofString "/claim/cut.py") 511), (Value.int 108 0), (Value.int 1 0), (Value.int 0 0), (Value.int 0 0), (Value.int 3 0), (Value.ref 199), (Value.bool true), (Value.int 273 0), (Value.ref 200), Value.none, (Value.ref 201), (Value.ref 202), (Value.ref 203), (Value.int 513 0), (Value.int 108 0), (Value.str (Str.ofString "/claim/cut.py") 514)])), (List.toArray [])⟩) ::
  (nat_lit 205, ⟨(Value.type "function"), none, (Data.func ⟨(Str.ofString "__enter__"), (Str.ofString "BytesIO.__enter__"), fArgs [11, 6], FuncBody.stmts (fBody [11, 6]), fScope [11, 6], 3, [], Value.none, Value.none, Value.none, (Value.str (Str.ofString "io") 346), none, (Value.ref 204), Value.none, 0⟩), (List.toArray [])⟩) ::
  (nat_lit 211, ⟨(Value.type "code"), none, (Data.fields (List.toArray [(Value.str (Str.ofString "__exit__") 516), (Value.str (Str.ofString "BytesIO.__exit__") 517), (Value.str (Str.ofString "/claim/cut.py") 518), (Value.int 112 0), (Value.int 1 0), (Value.int 0 0), (Value.int 0 0), (Value.int 7 0), (Value.ref 206), (Value.bool true), (Value.int 273 0), (Value.ref 207), Value.none, (Value.ref 208), (Value.ref 209), (Value.ref 210), (Value.int 521 0), (Value.int 112 0), (Value.str (Str.ofString "/claim/cut.py") 522)])), (List.toArray [])⟩) ::
  (nat_lit 212, ⟨(Value.type "function"), none, (Data.func ⟨(Str.ofString "__exit__"), (Str.ofString "BytesIO.__exit__"), fArgs [11, 7], FuncBody.stmts (fBody [11, 7]), fScope [11, 7], 3, [], Value.none, Value.none, Value.none, (Value.str (Str.ofString "io") 346), none, (Value.ref 211), Value.none, 0⟩), (List.toArray [])⟩) ::
  (nat_lit 218, ⟨(Value.type "code"), none, (Data.fields (List.toArray [(Value.str (Str.ofString "readable") 524), (Value.str (Str.ofString "BytesIO.readable") 525), (Value.str (Str.ofString "/claim/cut.py") 526), (Value.int 115 0), (Value.int 1 0), (Value.int 0 0), (Value.int 0 0), (Value.int 3 0), (Value.ref 213), (Value.bool true), (Value.int 273 0), (Value.ref 214), Value.none, (Value.ref 215), (Value.ref 216), (Value.ref 217), (Value.int 528 0), (Value.int 115 0), (Value.str (Str.ofString "/claim/cut.py") 529)])), (List.toArray [])⟩) ::
  (nat_lit 219, ⟨(Value.type "function"), none, (Data.func ⟨(Str.ofString "readable"), (Str.ofString "BytesIO.readable"), fArgs [11, 8], FuncBody.stmts (fBody [11, 8]), fScope [11, 8], 3, [], Value.none, Value.none, Value.none, (Value.str (Str.ofString "io") 346), none, (Value.ref 218), Value.none, 0⟩), (List.toArray [])⟩) ::
  (nat_lit 225, ⟨(Value.type "code"), none, (Data.fields (List.toArray [(Value.str (Str.ofString "writable") 531), (Value.str (Str.ofString "BytesIO.writable") 532), (Value.str (Str.ofString "/claim/cut.py") 533), (Value.int 119 0), (Value.int 1 0), (Value.int 0 0), (Value.int 0 0), (Value.int 3 0), (Value.ref 220), (Value.bool true), (Value.int 273 0), (Value.ref 221), Value.none, (Value.ref 222), (Value.ref 223), (Value.ref 224), (Value.int 535 0), (Value.int 119 0), (Value.str (Str.ofString "/claim/cut.py") 536)])), (List.toArray [])⟩) ::
  (nat_lit 226, ⟨(Value.type "function"), none, (Data.func ⟨(Str.ofString "writable"), (Str.ofString "BytesIO.writable"), fArgs [11, 9], FuncBody.stmts (fBody [11, 9]), fScope [11, 9], 3, [], Value.none, Value.none, Value.none, (Value.str (Str.ofString "io") 346), none, (Value.ref 225), Value.none, 0⟩), (List.toArray [])⟩) ::
  (nat_lit 232, ⟨(Value.type "code"), none, (Data.fields (List.toArray [(Value.str (Str.ofString "seekable") 538), (Value.str (Str.ofString "BytesIO.seekable") 539), (Value.str (Str.ofString "/claim/cut.py") 540), (Value.int 123 0), (Value.int 1 0), (Value.int 0 0), (Value.int 0 0), (Value.int 3 0), (Value.ref 227), (Value.bool true), (Value.int 273 0), (Value.ref 228), Value.none, (Value.ref 229), (Value.ref 230), (Value.ref 231), (Value.int 542 0), (Value.int 123 0), (Value.str (Str.ofString "/claim/cut.py") 543)])), (List.toArray [])⟩) ::
  (nat_lit 233, ⟨(Value.type "function"), none, (Data.func ⟨(Str.ofString "seekable"), (Str.ofString "BytesIO.seekable"), fArgs [11, 10], FuncBody.stmts (fBody [11, 10]), fScope [11, 10], 3, [], Value.none, Value.none, Value.none, (Value.str (Str.ofString "io") 346), none, (Value.ref 232), Value.none, 0⟩), (List.toArray [])⟩) ::
  (nat_lit 239, ⟨(Value.type "code"), none, (Data.fields (List.toArray [(Value.str (Str.ofString "isatty") 545), (Value.str (Str.ofString "BytesIO.isatty") 546), (Value.str (Str.ofString "/claim/cut.py") 547), (Value.int 127 0), (Value.int 1 0), (Value.int 0 0), (Value.int 0 0), (Value.int 3 0), (Value.ref 234), (Value.bool true), (Value.int 273 0), (Value.ref 235), Value.none, (Value.ref 236), (Value.ref 237), (Value.ref 238), (Value.int 549 0), (Value.int 127 0), (Value.str (Str.ofString "/claim/cut.py") 550)])), (List.toArray [])⟩) ::
  (nat_lit 240, ⟨(Value.type "function"), none, (Data.func ⟨(Str.ofString "isatty"), (Str.ofString "BytesIO.isatty"), fArgs [11, 11], FuncBody.stmts (fBody [11, 11]), fScope [11, 11], 3, [], Value.none, Value.none, Value.none, (Value.str (Str.ofString "io") 346), none, (Value.ref 239), Value.none, 0⟩), (List.toArray [])⟩) ::
  (nat_lit 246, ⟨(Value.type "code"), none, (Data.fields (List.toArray [(Value.str (Str.ofString "flush") 552), (Value.str (Str.ofString "BytesIO.flush") 553), (Value.str (Str.ofString "/claim/cut.py") 554), (Value.int 131 0), (Value.int 1 0), (Value.int 0 0), (Value.int 0 0), (Value.int 3 0), (Value.ref 241), (Value.bool true), (Value.int 273 0), (Value.ref 242), Value.none, (Value.ref 243), (Value.ref 244), (Value.ref 245), (Value.int 556 0), (Value.int 131 0), (Value.str (Str.ofString "/claim/cut.py") 557)])), (List.toArray [])⟩) ::
  (nat_lit 247, ⟨(Value.type "function"), none, (Data.func ⟨(Str.ofString "flush"), (Str.ofString "BytesIO.flush"), fArgs [11, 12], FuncBody.stmts (fBody [11, 12]), fScope [11, 12], 3, [], Value.none, Value.none, Value.none, (Value.str (Str.ofString "io") 346), none, (Value.ref 246), Value.none, 0⟩), (List.toArray [])⟩) ::
  (nat_lit 253, ⟨(Value.type "code"), none, (Data.fields (List.toArray [(Value.str (Str.ofString "fileno") 559), (Value.str (Str.ofString "BytesIO.fileno") 560), (Value.str (Str.ofString "/claim/cut.py") 561), (Value.int 134 0), (Value.int 1 0), (Value.int 0 0), (Value.int 0 0), (Value.int 3 0), (Value.ref 248), (Value.bool true), (Value.int 273 0), (Value.ref 249), Value.none, (Value.ref 250), (Value.ref 251), (Value.ref 252), (Value.int 563 0), (Value.int 134 0), (Value.str (Str.ofString "/claim/cut.py") 564)])), (List.toArray [])⟩) ::
  (nat_lit 254, ⟨(Value.type "function"), none, (Data.func ⟨(Str.ofString "fileno"), (Str.ofString "BytesIO.fileno"), fArgs [11, 13], FuncBody.stmts (fBody [11, 13]), fScope [11, 13], 3, [], Value.none, Value.none, Value.none, (Value.str (Str.ofString "io") 346), none, (Value.ref 253), Value.none, 0⟩), (List.toArray [])⟩) ::
  (nat_lit 260, ⟨(Value.type "code"), none, (Data.fields (List.toArray [(Value.str (Str.ofString "detach") 566), (Value.str (Str.ofString "BytesIO.detach") 567), (Value.str (Str.ofString "/claim/cut.py") 568), (Value.int 137 0), (Value.int 1 0), (Value.int 0 0), (Value.int 0 0), (Value.int 3 0), (Value.ref 255), (Value.bool true), (Value.int 273 0), (Value.ref 256), Value.none, (Value.ref 257), (Value.ref 258), (Value.ref 259), (Value.int 570 0), (Value.int 137 0), (Value.str (Str.ofString "/claim/cut.py") 571)])), (List.toArray [])⟩) ::
  (nat_lit 261, ⟨(Value.type "function"), none, (Data.func ⟨(Str.ofString "detach"), (Str.ofString "BytesIO.detach"), fArgs [11, 14], FuncBody.stmts (fBody [11, 14]), fScope [11, 14], 3, [], Value.none, Value.none, Value.none, (Value.str (Str.ofString "io") 346), none, (Value.ref 260), Value.none, 0⟩), (List.toArray [])⟩) ::
  (nat_lit 267, ⟨(Value.type "code"), none, (Data.fields (List.toArray [(Value.str (Str.ofString "getvalue") 573), (Value.str (Str.ofString "BytesIO.getvalue") 574), (Value.str (Str.ofString "/claim/cut.py") 575), (Value.int 140 0), (Value.int 1 0), (Value.int 0 0), (Value.int 0 0), (Value.int 3 0), (Value.ref 262), (Value.bool true), (Value.int 273 0), (Value.ref 263), Value.none, (Value.ref 264), (Value.ref 265), (Value.ref 266), (Value.int 577 0), (Value.int 140 0), (Value.str (Str.ofString "/claim/cut.py") 578)])), (List.toArray [])⟩) ::
  (nat_lit 268, ⟨(Value.type "function"), none, (Data.func ⟨(Str.ofString "getvalue"), (Str.ofString "BytesIO.getvalue"), fArgs [11, 15], FuncBody.stmts (fBody [11, 15]), fScope [11, 15], 3, [], Value.none, Value.none, Value.none, (Value.str (Str.ofString "io") 346), none, (Value.ref 267), Value.none, 0⟩), (List.toArray [])⟩) ::
  (nat_lit 274, ⟨(Value.type "code"), none, (Data.fields (List.toArray [(Value.str (Str.ofString "getbuffer") 580), (Value.str (Str.ofString "BytesIO.getbuffer") 581), (Value.str (Str.ofString "/claim/cut.py") 582), (Value.int 143 0), (Value.int 1 0), (Value.int 0 0), (Value.int 0 0), (Value.int 3 0), (Value.ref 269), (Value.bool true), (Value.int 273 0), (Value.ref 270), Value.none, (Value.ref 271), (Value.ref 272), (Value.ref 273), (Value.int 584 0), (Value.int 143 0), (Value.str (Str.ofString "/claim/cut.py") 585)])), (List.toArray [])⟩) ::
  (nat_lit 275, ⟨(Value.type "function"), none, (Data.func ⟨(Str.ofString "getbuffer"), (Str.ofString "BytesIO.getbuffer"), fArgs [11, 16], FuncBody.stmts (fBody [11, 16]), fScope [11, 16], 3, [], Value.none, Value.none, Value.none, (Value.str (Str.ofString "io") 346), none, (Value.ref 274), Value.none, 0⟩), (List.toArray [])⟩) ::
  (nat_lit 281, ⟨(Value.type "code"), none, (Data.fields (List.toArray [(Value.str (Str.ofString "tell") 587), (Value.str (Str.ofString "BytesIO.tell") 588), (Value.str (Str.ofString "/claim/cut.py") 589), (Value.int 146 0), (Value.int 1 0), (Value.int 0 0), (Value.int 0 0), (Value.int 3 0), (Value.ref 276), (Value.bool true), (Value.int 273 0), (Value.ref 277), Value.none, (Value.ref 278), (Value.ref 279), (Value.ref 280), (Value.int 591 0), (Value.int 146 0), (Value.str (Str.ofString "/claim/cut.py") 592)])), (List.toArray [])⟩) ::
  (nat_lit 282, ⟨(Value.type "function"), none, (Data.func ⟨(Str.ofString "tell"), (Str.ofString "BytesIO.tell"), fArgs [11, 17], FuncBody.stmts (fBody [11, 17]), fScope [11, 17], 3, [], Value.none, Value.none, Value.none, (Value.str (Str.ofString "io") 346), none, (Value.ref 281), Value.none, 0⟩), (List.toArray [])⟩) ::
  (nat_lit 283, ⟨(Value.type "tuple"), none, (Data.seq (List.toArray [(Value.int 0 594)]) 0), (List.toArray [])⟩) ::
  (nat_lit 289, ⟨(Value.type "code"), none, (Data.fields (List.toArray [(Value.str (Str.ofString "seek") 595), (Value.str (Str.ofString "BytesIO.seek") 596), (Value.str (Str.ofString "/claim/cut.py") 597), (Value.int 150 0), (Value.int 3 0), (Value.int 3 0), (Value.int 0 0), (Value.int 3 0), (Value.ref 284), (Value.bool true), (Value.int 273 0), (Value.ref 285), Value.none, (Value.ref 286), (Value.ref 287), (Value.ref 288), (Value.int 601 0), (Value.int 150 0), (Value.str (Str.ofString "/claim/cut.py") 602)])), (List.toArray [])⟩) ::
  (nat_lit 290, ⟨(Value.type "function"), none, (Data.func ⟨(Str.ofString "seek"), (Str.ofString "BytesIO.seek"), fArgs [11, 18], FuncBody.stmts (fBody [11, 18]), fScope [11, 18], 3, [], (Value.ref 283), Value.none, Value.none, (Value.str (Str.ofString "io") 346), none, (Value.ref 289), Value.none, 0⟩), (List.toArray [])⟩) ::
  (nat_lit 291, ⟨(Value.type "tuple"), none, (Data.seq (List.toArray [Value.none]) 0), (List.toArray [])⟩) ::
  (nat_lit 297, ⟨(Value.type "code"), none, (Data.fields (List.toArray [(Value.str (Str.ofString "truncate") 604), (Value.str (Str.ofString "BytesIO.truncate") 605), (Value.str (Str.ofString "/claim/cut.py") 606), (Value.int 167 0), (Value.int 2 0), (Value.int 2 0), (Value.int 0 0), (Value.int 3 0), (Value.ref 292), (Value.bool true), (Value.int 273 0), (Value.ref 293), Value.none, (Value.ref 294), (Value.ref 295), (Value.ref 296), (Value.int 609 0), (Value.int 167 0), (Value.str (Str.ofString "/claim/cut.py") 610)])), (List.toArray [])⟩) ::
  (nat_lit 298, ⟨(Value.type "function"), none, (Data.func ⟨(Str.ofString "truncate"), (Str.ofString "BytesIO.truncate"), fArgs [11, 19], FuncBody.stmts (fBody [11, 19]), fScope [11, 19], 3, [], (Value.ref 291), Value.none, Value.none, (Value.str (Str.ofString "io") 346), none, (Value.ref 297), Value.none, 0⟩), (List.toArray [])⟩) ::
  (nat_lit 299, ⟨(Value.type "tuple"), none, (Data.seq (List.toArray [(Value.int (-1) 613)]) 0), (List.toArray [])⟩) ::
  (nat_lit 305, ⟨(Value.type "code"), none, (Data.fields (List.toArray [(Value.str (Str.ofString "read") 614), (Value.str (Str.ofString "BytesIO.read") 615), (Value.str (Str.ofString "/claim/cut.py") 616), (Value.int 170 0), (Value.int 2 0), (Value.int 2 0), (Value.int 0 0), (Value.int 3 0), (Value.ref 300), (Value.bool true), (Value.int 273 0), (Value.ref 301), Value.none, (Value.ref 302), (Value.ref 303), (Value.ref 304), (Value.int 621 0), (Value.int 170 0), (Value.str (Str.ofString "/claim/cut.py") 622)])), (List.toArray [])⟩) ::
  (nat_lit 306, ⟨(Value.type "function"), none, (Data.func ⟨(Str.ofString "read"), (Str.ofString "BytesIO.read"), fArgs [11, 20], FuncBody.stmts (fBody [11, 20]), fScope [11, 20], 3, [], (Value.ref 299), Value.none, Value.none, (Value.str (Str.ofString "io") 346), none, (Value.ref 305), Value.none, 0⟩), (List.toArray [])⟩) ::
  (nat_lit 307, ⟨(Value.type "tuple"), none, (Data.seq (List.toArray [(Value.int (-1) 625)]) 0), (List.toArray [])⟩) ::
  (nat_lit 313, ⟨(Value.type "code"), none, (Data.fields (List.toArray [(Value.str (Str.ofString "read1") 626), (Value.str (Str.ofString "BytesIO.read1") 627), (Value.str (Str.ofString "/claim/cut.py") 628), (Value.int 184 0), (Value.int 2 0), (Value.int 2 0), (Value.int 0 0), (Value.int 3 0), (Value.ref 308), (Value.bool true), (Value.int 273 0), (Value.ref 309), Value.none, (Value.ref 310), (Value.ref 311), (Value.ref 312), (Value.int 631 0), (Value.int 184 0), (Value.str (Str.ofString "/claim/cut.py") 632)])), (List.toArray [])⟩) ::
  (nat_lit 314, ⟨(Value.type "function"), none, (Data.func ⟨(Str.ofString "read1"), (Str.ofString "BytesIO.read1"), fArgs [11, 21], FuncBody.stmts (fBody [11, 21]), fScope [11, 21], 3, [], (Value.ref 307), Value.none, Value.none, (Value.str (Str.ofString "io") 346), none, (Value.ref 313), Value.none, 0⟩), (List.toArray [])⟩) ::
  (nat_lit 320, ⟨(Value.type "code"), none, (Data.fields (List.toArray [(Value.str (Str.ofString "readinto") 634), (Value.str (Str.ofString "BytesIO.readinto") 635), (Value.str (Str.ofString "/claim/cut.py") 636), (Value.int 187 0), (Value.int 2 0), (Value.int 2 0), (Value.int 0 0), (Value.int 3 0), (Value.ref 315), (Value.bool true), (Value.int 273 0), (Value.ref 316), Value.none, (Value.ref 317), (Value.ref 318), (Value.ref 319), (Value.int 641 0), (Value.int 187 0), (Value.str (Str.ofString "/claim/cut.py") 642)])), (List.toArray [])⟩) ::
  (nat_lit 321, ⟨(Value.type "function"), none, (Data.func ⟨(Str.ofString "readinto"), (Str.ofString "BytesIO.readinto"), fArgs [11, 22], FuncBody.stmts (fBody [11, 22]), fScope [11, 22], 3, [], Value.none, Value.none, Value.none, (Value.str (Str.ofString "io") 346), none, (Value.ref 320), Value.none, 0⟩), (List.toArray [])⟩) ::
  (nat_lit 327, ⟨(Value.type "code"), none, (Data.fields (List.toArray [(Value.str (Str.ofString "readinto1") 644), (Value.str (Str.ofString "BytesIO.readinto1") 645), (Value.str (Str.ofString "/claim/cut.py") 646), (Value.int 201 0), (Value.int 2 0), (Value.int 2 0), (Value.int 0 0), (Value.int 3 0), (Value.ref 322), (Value.bool true), (Value.int 273 0), (Value.ref 323), Value.none, (Value.ref 324), (Value.ref 325), (Value.ref 326), (Value.int 649 0), (Value.int 201 0), (Value.str (Str.ofString "/claim/cut.py") 650)])), (List.toArray [])⟩) ::
  (nat_lit 328, ⟨(Value.type "function"), none, (Data.func ⟨(Str.ofString "readinto1"), (Str.ofString "BytesIO.readinto1"), fArgs [11, 23], FuncBody.stmts (fBody [11, 23]), fScope [11, 23], 3, [], Value.none, Value.none, Value.none, (Value.str (Str.ofString "io") 346), none, (Value.ref 327), Value.none, 0⟩), (List.toArray [])⟩) ::
  (nat_lit 329, ⟨(Value.type "tuple"), none, (Data.seq (List.toArray [(Value.int (-1) 653)]) 0), (List.toArray [])⟩) ::
  (nat_lit 335, ⟨(Value.type "code"), none, (Data.fields (List.toArray [(Value.str (Str.ofString "readline") 654), (Value.str (Str.ofString "BytesIO.readline") 655), (Value.str (Str.ofString "/claim/cut.py") 656), (Value.int 204 0), (Value.int 2 0), (Value.int 2 0), (Value.int 0 0), (Value.int 3 0), (Value.ref 330), (Value.bool true), (Value.int 273 0), (Value.ref 331), Value.none, (Value.ref 332), (Value.ref 333), (Value.ref 334), (Value.int 659 0), (Value.int 204 0), (Value.str (Str.ofString "/claim/cut.py") 660)])), (List.toArray [])⟩) ::
  (nat_lit 336, ⟨(Value.type "function"), none, (Data.func ⟨(Str.ofString "readline"), (Str.ofString "BytesIO.readline"), fArgs [11, 24], FuncBody.stmts (fBody [11, 24]), fScope [11, 24], 3, [], (Value.ref 329), Value.none, Value.none, (Value.str (Str.ofString "io") 346), none, (Value.ref 335), Value.none, 0⟩), (List.toArray [])⟩) ::
  (nat_lit 337, ⟨(Value.type "tuple"), none, (Data.seq (List.toArray [Value.none]) 0), (List.toArray [])⟩) ::
  (nat_lit 343, ⟨(Value.type "code"), none, (Data.fields (List.toArray [(Value.str (Str.ofString "readlines") 662), (Value.str (Str.ofString "BytesIO.readlines") 663), (Value.str (Str.ofString "/claim/cut.py") 664), (Value.int 211 0), (Value.int 2 0), (Value.int 2 0), (Value.int 0 0), (Value.int 3 0), (Value.ref 338), (Value.bool true), (Value.int 273 0), (Value.ref 339), Value.none, (Value.ref 340), (Value.ref 341), (Value.ref 342), (Value.int 667 0), (Value.int 211 0), (Value.str (Str.ofString "/claim/cut.py") 668)])), (List.toArray [])⟩) ::
  (nat_lit 344, ⟨(Value.type "function"), none, (Data.func ⟨(Str.ofString "readlines"), (Str.ofString "BytesIO.readlines"), fArgs [11, 25], FuncBody.stmts (fBody [11, 25]), fScope [11, 25], 3, [], (Value.ref 337), Value.none, Value.none, (Value.str (Str.ofString "io") 346), none, (Value.ref 343), Value.none, 0⟩), (List.toArray [])⟩) ::
  (nat_lit 350, ⟨(Value.type "code"), none, (Data.fields (List.toArray [(Value.str (Str.ofString "__iter__") 670), (Value.str (Str.ofString "BytesIO.__iter__") 671), (Value.str (Str.ofString "/claim/cut.py") 672), (Value.int 214 0), (Value.int 1 0), (Value.int 0 0), (Value.int 0 0), (Value.int 3 0), (Value.ref 345), (Value.bool true), (Value.int 273 0), (Value.ref 346), Value.none, (Value.ref 347), (Value.ref 348), (Value.ref 349), (Value.int 674 0), (Value.int 214 0), (Value.str (Str.ofString "/claim/cut.py") 675)])), (List.toArray [])⟩) ::
  (nat_lit 351, ⟨(Value.type "function"), none, (Data.func ⟨(Str.ofString "__iter__"), (Str.ofString "BytesIO.__iter__"), fArgs [11, 26], FuncBody.stmts (fBody [11, 26]), fScope [11, 26], 3, [], Value.none, Value.none, Value.none, (Value.str (Str.ofString "io") 346), none, (Value.ref 350), Value.none, 0⟩), (List.toArray [])⟩) ::
  (nat_lit 357, ⟨(Value.type "code"), none, (Data.fields (List.toArray [(Value.str (Str.ofString "__next__") 677), (Value.str (Str.ofString "BytesIO.__next__") 678), (Value.str (Str.ofString "/claim/cut.py") 679), (Value.int 217 0), (Value.int 1 0), (Value.int 0 0), (Value.int 0 0), (Value.int 3 0), (Value.ref 352), (Value.bool true), (Value.int 273 0), (Value.ref 353), Value.none, (Value.ref 354), (Value.ref 355), (Value.ref 356), (Value.int 682 0), (Value.int 217 0), (Value.str (Str.ofString "/claim/cut.py") 683)])), (List.toArray [])⟩) ::
  (nat_lit 358, ⟨(Value.type "function"), none, (Data.func ⟨(Str.ofString "__next__"), (Str.ofString "BytesIO.__next__"), fArgs [11, 27], FuncBody.stmts (fBody [11, 27]), fScope [11, 27], 3, [], Value.none, Value.none, Value.none, (Value.str (Str.ofString "io") 346), none, (Value.ref 357), Value.none, 0⟩), (List.toArray [])⟩) ::
  (nat_lit 364, ⟨(Value.type "code"), none, (Data.fields (List.toArray [(Value.str (Str.ofString "write") 685), (Value.str (Str.ofString "BytesIO.write") 686), (Value.str (Str.ofString "/claim/cut.py") 687), (Value.int 224 0), (Value.int 2 0), (Value.int 2 0), (Value.int 0 0), (Value.int 3 0), (Value.ref 359), (Value.bool true), (Value.int 273 0), (Value.ref 360), Value.none, (Value.ref 361), (Value.ref 362), (Value.ref 363), (Value.int 692 0), (Value.int 224 0), (Value.str (Str.ofString "/claim/cut.py") 693)])), (List.toArray [])⟩) ::
  (nat_lit 365, ⟨(Value.type "function"), none, (Data.func ⟨(Str.ofString "write"), (Str.ofString "BytesIO.write"), fArgs [11, 28], FuncBody.stmts (fBody [11, 28]), fScope [11, 28], 3, [], Value.none, Value.none, Value.none, (Value.str (Str.ofString "io") 346), none, (Value.ref 364), Value.none, 0⟩), (List.toArray [])⟩) ::
  (nat_lit 371, ⟨(Value.type "code"), none, (Data.fields (List.toArray [(Value.str (Str.ofString "writelines") 695), (Value.str (Str.ofString "BytesIO.writelines") 696), (Value.str (Str.ofString "/claim/cut.py") 697), (Value.int 240 0), (Value.int 2 0), (Value.int 2 0), (Value.int 0 0), (Value.int 3 0), (Value.ref 366), (Value.bool true), (Value.int 273 0), (Value.ref 367), Value.none, (Value.ref 368), (Value.ref 369), (Value.ref 370), (Value.int 700 0), (Value.int 240 0), (Value.str (Str.ofString "/claim/cut.py") 701)])), (List.toArray [])⟩) ::
  (nat_lit 372, ⟨(Value.type "function"), none, (Data.func ⟨(Str.ofString "writelines"), (Str.ofString "BytesIO.writelines"), fArgs [11, 29], FuncBody.stmts (fBody [11, 29]), fScope [11, 29], 3, [], Value.none, Value.none, Value.none, (Value.str (Str.ofString "io") 346), none, (Value.ref 371), Value.none, 0⟩), (List.toArray [])⟩) ::
  (nat_lit 378, ⟨(Value.type "code"), none, (Data.fields (List.toArray [(Value.str (Str.ofString "__repr__") 703), (Value.str (Str.ofString "BytesIO.__repr__") 704), (Value.str (Str.ofString "/claim/cut.py") 705), (Value.int 243 0), (Value.int 1 0), (Value.int 0 0), (Value.int 0 0), (Value.int 3 0), (Value.ref 373), (Value.bool true), (Value.int 273 0), (Value.ref 374), Value.none, (Value.ref 375), (Value.ref 376), (Value.ref 377), (Value.int 707 0), (Value.int 243 0), (Value.str (Str.ofString "/claim/cut.py") 708)])), (List.toArray [])⟩) ::
  (nat_lit 379, ⟨(Value.type "function"), none, (Data.func ⟨(Str.ofString "__repr__"), (Str.ofString "BytesIO.__repr__"), fArgs [11, 30], FuncBody.stmts (fBody [11, 30]), fScope [11, 30], 3, [], Value.none, Value.none, Value.none, (Value.str (Str.ofString "io") 346), none, (Value.ref 378), Value.none, 0⟩), (List.toArray [])⟩) ::
  (nat_lit 381, ⟨(Value.type "dict"), none, (Data.dict (List.toArray [⟨PyData.keyHash P (Str.ofString "__module__"), (Value.str (Str.ofString "__module__") 461), (Value.str (Str.ofString "_io") 466)⟩, ⟨PyData.keyHash P (Str.ofString "__firstlineno__"), (Value.str (Str.ofString "__firstlineno__") 465), (Value.int 75 464)⟩, ⟨PyData.keyHash P (Str.ofString "__init__"), (Value.str (Str.ofString "__init__") 475), (Value.ref 169)⟩, ⟨PyData.keyHash P (Str.ofString "_BytesIO__check"), (Value.str (Str.ofString "_BytesIO__check") 482), (Value.ref 176)⟩, ⟨PyData.keyHash P (Str.ofString "_BytesIO__line"), (Value.str (Str.ofString "_BytesIO__line") 493), (Value.ref 183)⟩, ⟨PyData.keyHash P (Str.ofString "closed"), (Value.str (Str.ofString "closed") 501), (Value.ref 191)⟩, ⟨PyData.keyHash P (Str.ofString "close"), (Value.str (Str.ofString "close") 508), (Value.ref 198)⟩, ⟨PyData.keyHash P (Str.ofString "__enter__"), (Value.str (Str.ofString "__enter__") 515), (Value.ref 205)⟩, ⟨PyData.keyHash P (Str.ofString "__exit__"), (Value.str (Str.ofString "__exit__") 523), (Value.ref 212)⟩, ⟨PyData.keyHash P (Str.ofString "readable"), (Value.str (Str.ofString "readable") 530), (Value.ref 219)⟩, ⟨PyData.keyHash P (Str.ofString "writable"), (Value.str (Str.ofString "writable") 537), (Value.ref 226)⟩, ⟨PyData.keyHash P (Str.ofString "seekable"), (Value.str (Str.ofString "seekable") 544), (Value.ref 233)⟩, ⟨PyData.keyHash P (Str.ofString "isatty"), (Value.str (Str.ofString "isatty") 551), (Value.ref 240)⟩, ⟨PyData.keyHash P (Str.ofString "flush"), (Value.str (Str.ofString "flush") 558), (Value.ref 247)⟩, ⟨PyData.keyHash P (Str.ofString "fileno"), (Value.str (Str.ofString "fileno") 565), (Value.ref 254)⟩, ⟨PyData.keyHash P (Str.ofString "detach"), (Value.str (Str.ofString "detach") 572), (Value.ref 261)⟩, ⟨PyData.keyHash P (Str.ofString "getvalue"), (Value.str (Str.ofString "getvalue") 579), (Value.ref 268)⟩, ⟨PyData.keyHash P (Str.ofString "getbuffer"), (Value.str (Str.ofString "getbuffer") 586), (Value.ref 275)⟩, ⟨PyData.keyHash P (Str.ofString "tell"), (Value.str (Str.ofString "tell") 593), (Value.ref 282)⟩, ⟨PyData.keyHash P (Str.ofString "seek"), (Value.str (Str.ofString "seek") 603), (Value.ref 290)⟩, ⟨PyData.keyHash P (Str.ofString "truncate"), (Value.str (Str.ofString "truncate") 611), (Value.ref 298)⟩, ⟨PyData.keyHash P (Str.ofString "read"), (Value.str (Str.ofString "read") 623), (Value.ref 306)⟩, ⟨PyData.keyHash P (Str.ofString "read1"), (Value.str (Str.ofString "read1") 633), (Value.ref 314)⟩, ⟨PyData.keyHash P (Str.ofString "readinto"), (Value.str (Str.ofString "readinto") 643), (Value.ref 321)⟩, ⟨PyData.keyHash P (Str.ofString "readinto1"), (Value.str (Str.ofString "readinto1") 651), (Value.ref 328)⟩, ⟨PyData.keyHash P (Str.ofString "readline"), (Value.str (Str.ofString "readline") 661), (Value.ref 336)⟩, ⟨PyData.keyHash P (Str.ofString "readlines"), (Value.str (Str.ofString "readlines") 669), (Value.ref 344)⟩, ⟨PyData.keyHash P (Str.ofString "__iter__"), (Value.str (Str.ofString "__iter__") 676), (Value.ref 351)⟩, ⟨PyData.keyHash P (Str.ofString "__next__"), (Value.str (Str.ofString "__next__") 684), (Value.ref 358)⟩, ⟨PyData.keyHash P (Str.ofString "write"), (Value.str (Str.ofString "write") 694), (Value.ref 365)⟩, ⟨PyData.keyHash P (Str.ofString "writelines"), (Value.str (Str.ofString "writelines") 702), (Value.ref 372)⟩, ⟨PyData.keyHash P (Str.ofString "__repr__"), (Value.str (Str.ofString "__repr__") 709), (Value.ref 379)⟩, ⟨PyData.keyHash P (Str.ofString "__static_attributes__"), (Value.str (Str.ofString "__static_attributes__") 712), (Value.ref 380)⟩, ⟨PyData.keyHash P (Str.ofString "__doc__"), (Value.str (Str.ofString "__doc__") 713), Value.none⟩]) 2), (List.toArray [])⟩) ::
  (nat_lit 382, ⟨(Value.type "type"), none, (Data.cls ⟨(Str.ofString "BytesIO"), [(Value.ref 140)], [(Value.ref 382), (Value.ref 140), (Value.ref 125), (Value.type "object")], 381, (Str.ofString "BytesIO"), true, [], [], false, none, false⟩), (List.toArray [(some (Value.ref 155)), none, (some (Value.str (Str.ofString "BytesIO") 454)), (some (Value.str (Str.ofString "BytesIO") 462)), (some Value.none), (some (Value.bool true))])⟩) ::
  (nat_lit 392, ⟨(Value.type "tuple"), none, (Data.seq (List.toArray [(Value.str (Str.ofString "") 730), (Value.str (Str.ofString "\n") 731)]) 0), (List.toArray [])⟩) ::
  (nat_lit 398, ⟨(Value.type "code"), none, (Data.fields (List.toArray [(Value.str (Str.ofString "__init__") 732), (Value.str (Str.ofString "StringIO.__init__") 733), (Value.str (Str.ofString "/claim/cut.py") 734), (Value.int 248 0), (Value.int 3 0), (Value.int 0 0), (Value.int 0 0), (Value.int 3 0), (Value.ref 393), (Value.bool true), (Value.int 273 0), (Value.ref 394), Value.none, (Value.ref 395), (Value.ref 396), (Value.ref 397), (Value.int 738 0), (Value.int 248 0), (Value.str (Str.ofString "/claim/cut.py") 739)])), (List.toArray [])⟩) ::
  (nat_lit 399, ⟨(Value.type "function"), none, (Data.func ⟨(Str.ofString "__init__"), (Str.ofString "StringIO.__init__"), fArgs [12, 1], FuncBody.stmts (fBody [12, 1]), fScope [12, 1], 3, [], (Value.ref 392), Value.none, Value.none, (Value.str (Str.ofString "io") 346), none, (Value.ref 398), Value.none, 0⟩), (List.toArray [])⟩) ::
  (nat_lit 405, ⟨(Value.type "code"), none, (Data.fields (List.toArray [(Value.str (Str.ofString "__translated") 741), (Value.str (Str.ofString "StringIO.__translated") 742), (Value.str (Str.ofString "/claim/cut.py") 743), (Value.int 261 0), (Value.int 2 0), (Value.int 0 0), (Value.int 0 0), (Value.int 3 0), (Value.ref 400), (Value.bool true), (Value.int 273 0), (Value.ref 401), Value.none, (Value.ref 402), (Value.ref 403), (Value.ref 404), (Value.int 747 0), (Value.int 261 0), (Value.str (Str.ofString "/claim/cut.py") 748)])), (List.toArray [])⟩) ::
  (nat_lit 406, ⟨(Value.type "function"), none, (Data.func ⟨(Str.ofString "__translated"), (Str.ofString "StringIO.__translated"), fArgs [12, 2], FuncBody.stmts (fBody [12, 2]), fScope [12, 2], 3, [], Value.none, Value.none, Value.none, (Value.str (Str.ofString "io") 346), none, (Value.ref 405), Value.none, 0⟩), (List.toArray [])⟩) ::
  (nat_lit 412, ⟨(Value.type "code"), none, (Data.fields (List.toArray [(Value.str (Str.ofString "__check") 750), (Value.str (Str.ofString "StringIO.__check") 751), (Value.str (Str.ofString "/claim/cut.py") 752), (Value.int 269 0), (Value.int 1 0), (Value.int 0 0), (Value.int 0 0), (Value.int 3 0), (Value.ref 407), (Value.bool true), (Value.int 273 0), (Value.ref 408), Value.none, (Value.ref 409), (Value.ref 410), (Value.ref 411), (Value.int 754 0), (Value.int 269 0), (Value.str (Str.ofString "/claim/cut.py") 755)])), (List.toArray [])⟩) ::
  (nat_lit 413, ⟨(Value.type "function"), none, (Data.func ⟨(Str.ofString "__check"), (Str.ofString "StringIO.__check"), fArgs [12, 3], FuncBody.stmts (fBody [12, 3]), fScope [12, 3], 3, [], Value.none, Value.none, Value.none, (Value.str (Str.ofString "io") 346), none, (Value.ref 412), Value.none, 0⟩), (List.toArray [])⟩) ::
  (nat_lit 419, ⟨(Value.type "code"), none, (Data.fields (List.toArray [(Value.str (Str.ofString "__check_dot") 757), (Value.str (Str.ofString "StringIO.__check_dot") 758), (Value.str (Str.ofString "/claim/cut.py") 759), (Value.int 273 0), (Value.int 1 0), (Value.int 0 0), (Value.int 0 0), (Value.int 3 0), (Value.ref 414), (Value.bool true), (Value.int 273 0), (Value.ref 415), Value.none, (Value.ref 416), (Value.ref 417), (Value.ref 418), (Value.int 761 0), (Value.int 273 0), (Value.str (Str.ofString "/claim/cut.py") 762)])), (List.toArray [])⟩) ::
  (nat_lit 420, ⟨(Value.type "function"), none, (Data.func ⟨(Str.ofString "__check_dot"), (Str.ofString "StringIO.__check_dot"), fArgs [12, 4], FuncBody.stmts (fBody [12, 4]), fScope [12, 4], 3, [], Value.none, Value.none, Value.none, (Value.str (Str.ofString "io") 346), none, (Value.ref 419), Value.none, 0⟩), (List.toArray [])⟩) ::
  (nat_lit 426, ⟨(Value.type "code"), none, (Data.fields (List.toArray [(Value.str (Str.ofString "__line") 764), (Value.str (Str.ofString "StringIO.__line") 765), (Value.str (Str.ofString "/claim/cut.py") 766), (Value.int 277 0), (Value.int 2 0), (Value.int 0 0), (Value.int 0 0), (Value.int 3 0), (Value.ref 421), (Value.bool true), (Value.int 273 0), (Value.ref 422), Value.none, (Value.ref 423), (Value.ref 424), (Value.ref 425), (Value.int 776 0), (Value.int 277 0), (Value.str (Str.ofString "/claim/cut.py") 777)])), (List.toArray [])⟩) ::
  (nat_lit 427, ⟨(Value.type "function"), none, (Data.func ⟨(Str.ofString "__line"), (Str.ofString "StringIO.__line"), fArgs [12, 5], FuncBody.stmts (fBody [12, 5]), fScope [12, 5], 3, [], Value.none, Value.none, Value.none, (Value.str (Str.ofString "io") 346), none, (Value.ref 426), Value.none, 0⟩), (List.toArray [])⟩) ::
  (nat_lit 433, ⟨(Value.type "code"), none, (Data.fields (List.toArray [(Value.str (Str.ofString "closed") 779), (Value.str (Str.ofString "StringIO.closed") 780), (Value.str (Str.ofString "/claim/cut.py") 781), (Value.int 309 0), (Value.int 1 0), (Value.int 0 0), (Value.int 0 0), (Value.int 3 0), (Value.ref 428), (Value.bool true), (Value.int 273 0), (Value.ref 429), Value.none, (Value.ref 430), (Value.ref 431), (Value.ref 432), (Value.int 783 0), (Value.int 309 0), (Value.str (Str.ofString "/claim/cut.py") 784)])), (List.toArray [])⟩) ::
  (nat_lit 434, ⟨(Value.type "function"), none, (Data.func ⟨(Str.ofString "closed"), (Str.ofString "StringIO.closed"), fArgs [12, 6], FuncBody.stmts (fBody [12, 6]), fScope [12, 6], 3, [], Value.none, Value.none, Value.none, (Value.str (Str.ofString "io") 346), none, (Value.ref 433), Value.none, 0⟩), (List.toArray [])⟩) ::
  (nat_lit 435, ⟨(Value.type "property"), none, (Data.fields (List.toArray [(Value.ref 434), Value.none, Value.none, Value.none, (Value.str (Str.ofString "closed") 786), (Value.bool false)])), (List.toArray [])⟩) ::
  (nat_lit 441, ⟨(Value.type "code"), none, (Data.fields (List.toArray [(Value.str (Str.ofString "line_buffering") 787), (Value.str (Str.ofString "StringIO.line_buffering") 788), (Value.str (Str.ofString "/claim/cut.py") 789), (Value.int 313 0), (Value.int 1 0), (Value.int 0 0), (Value.int 0 0), (Value.int 3 0), (Value.ref 436), (Value.bool true), (Value.int 273 0), (Value.ref 437), Value.none, (Value.ref 438), (Value.ref 439), (Value.ref 440), (Value.int 791 0), (Value.int 313 0), (Value.str (Str.ofString "/claim/cut.py") 792)])), (List.toArray [])⟩) ::
  (nat_lit 442, ⟨(Value.type "function"), none, (Data.func ⟨(Str.ofString "line_buffering"), (Str.ofString "StringIO.line_buffering"), fArgs [12, 7], FuncBody.stmts (fBody [12, 7]), fScope [12, 7], 3, [], Value.none, Value.none, Value.none, (Value.str (Str.ofString "io") 346), none, (Value.ref 441), Value.none, 0⟩), (List.toArray [])⟩) ::
  (nat_lit 443, ⟨(Value.type "property"), none, (Data.fields (List.toArray [(Value.ref 442), Value.none, Value.none, Value.none, (Value.str (Str.ofString "line_buffering") 794), (Value.bool false)])), (List.toArray [])⟩) ::
  (nat_lit 449, ⟨(Value.type "code"), none, (Data.fields (List.toArray [(Value.str (Str.ofString "newlines") 795), (Value.str (Str.ofString "StringIO.newlines") 796), (Value.str (Str.ofString "/claim/cut.py") 797), (Value.int 317 0), (Value.int 1 0), (Value.int 0 0), (Value.int 0 0), (Value.int 3 0), (Value.ref 444), (Value.bool true), (Value.int 273 0), (Value.ref 445), Value.none, (Value.ref 446), (Value.ref 447), (Value.ref 448), (Value.int 799 0), (Value.int 317 0), (Value.str (Str.ofString "/claim/cut.py") 800)])), (List.toArray [])⟩) ::
  (nat_lit 450, ⟨(Value.type "function"), none, (Data.func ⟨(Str.ofString "newlines"), (Str.ofString "StringIO.newlines"), fArgs [12, 8], FuncBody.stmts (fBody [12, 8]), fScope [12, 8], 3, [], Value.none, Value.none, Value.none, (Value.str (Str.ofString "io") 346), none, (Value.ref 449), Value.none, 0⟩), (List.toArray [])⟩) ::
  (nat_lit 451, ⟨(Value.type "property"), none, (Data.fields (List.toArray [(Value.ref 450), Value.none, Value.none, Value.none, (Value.str (Str.ofString "newlines") 802), (Value.bool false)])), (List.toArray [])⟩) ::
  (nat_lit 457, ⟨(Value.type "code"), none, (Data.fields (List.toArray [(Value.str (Str.ofString "encoding") 803), (Value.str (Str.ofString "StringIO.encoding") 804), (Value.str (Str.ofString "/claim/cut.py") 805), (Value.int 321 0), (Value.int 1 0), (Value.int 0 0), (Value.int 0 0), (Value.int 3 0), (Value.ref 452), (Value.bool true), (Value.int 273 0), (Value.ref 453), Value.none, (Value.ref 454), (Value.ref 455), (Value.ref 456), (Value.int 807 0), (Value.int 321 0), (Value.str (Str.ofString "/claim/cut.py") 808)])), (List.toArray [])⟩) ::
  (nat_lit 458, ⟨(Value.type "function"), none, (Data.func ⟨(Str.ofString "encoding"), (Str.ofString "StringIO.encoding"), fArgs [12, 9], FuncBody.stmts (fBody [12, 9]), fScope [12, 9], 3, [], Value.none, Value.none, Value.none, (Value.str (Str.ofString "io") 346), none, (Value.ref 457), Value.none, 0⟩), (List.toArray [])⟩) ::
  (nat_lit 459, ⟨(Value.type "property"), none, (Data.fields (List.toArray [(Value.ref 458), Value.none, Value.none, Value.none, (Value.str (Str.ofString "encoding") 810), (Value.bool false)])), (List.toArray [])⟩) ::
  (nat_lit 465, ⟨(Value.type "code"), none, (Data.fields (List.toArray [(Value.str (Str.ofString "errors") 811), (Value.str (Str.ofString "StringIO.errors") 812), (Value.str (Str.ofString "/claim/cut.py") 813), (Value.int 325 0), (Value.int 1 0), (Value.int 0 0), (Value.int 0 0), (Value.int 3 0), (Value.ref 460), (Value.bool true), (Value.int 273 0), (Value.ref 461), Value.none, (Value.ref 462), (Value.ref 463), (Value.ref 464), (Value.int 815 0), (Value.int 325 0), (Value.str (Str.ofString "/claim/cut.py") 816)])), (List.toArray [])⟩) ::
  (nat_lit 466, ⟨(Value.type "function"), none, (Data.func ⟨(Str.ofString "errors"), (Str.ofString "StringIO.errors"), fArgs [12, 10], FuncBody.stmts (fBody [12, 10]), fScope [12, 10], 3, [], Value.none, Value.none, Value.none, (Value.str (Str.ofString "io") 346), none, (Value.ref 465), Value.none, 0⟩), (List.toArray [])⟩) ::
  (nat_lit 467, ⟨(Value.type "property"), none, (Data.fields (List.toArray [(Value.ref 466), Value.none, Value.none, Value.none, (Value.str (Str.ofString "errors") 818), (Value.bool false)])), (List.toArray [])⟩) ::
  (nat_lit 473, ⟨(Value.type "code"), none, (Data.fields (List.toArray [(Value.str (Str.ofString "close") 819), (Value.str (Str.ofString "StringIO.close") 820), (Value.str (Str.ofString "/claim/cut.py") 821), (Value.int 329 0), (Value.int 1 0), (Value.int 0 0), (Value.int 0 0), (Value.int 3 0), (Value.ref 468), (Value.bool true), (Value.int 273 0), (Value.ref 469), Value.none, (Value.ref 470), (Value.ref 471), (Value.ref 472), (Value.int 823 0), (Value.int 329 0), (Value.str (Str.ofString "/claim/cut.py") 824)])), (List.toArray [])⟩) ::
  (nat_lit 474, ⟨(Value.type "function"), none, (Data.func ⟨(Str.ofString "close"), (Str.ofString "StringIO.close"), fArgs [12, 11], FuncBody.stmts (fBody [12, 11]), fScope [12, 11], 3, [], Value.none, Value.none, Value.none, (Value.str (Str.ofString "io") 346), none, (Value.ref 473), Value.none, 0⟩), (List.toArray [])⟩) ::
  (nat_lit 480, ⟨(Value.type "code"), none, (Data.fields (List.toArray [(Value.str (Str.ofString "__enter__") 826), (Value.str (Str.ofString "StringIO.__enter__") 827), (Value.str (Str.ofString "/claim/cut.py") 828), (Value.int 332 0), (Value.int 1 0), (Value.int 0 0), (Value.int 0 0), (Value.int 3 0), (Value.ref 475), (Value.bool true), (Value.int 273 0), (Value.ref 476), Value.none, (Value.ref 477), (Value.ref 478), (Value.ref 479), (Value.int 830 0), (Value.int 332 0), (Value.str (Str.ofString "/claim/cut.py") 831)])), (List.toArray [])⟩) ::
  (nat_lit 481, ⟨(Value.type "function"), none, (Data.func ⟨(Str.ofString "__enter__"), (Str.ofString "StringIO.__enter__"), fArgs [12, 12], FuncBody.stmts (fBody [12, 12]), fScope [12, 12], 3, [], Value.none, Value.none, Value.none, (Value.str (Str.ofString "io") 346), none, (Value.ref 480), Value.none, 0⟩), (List.toArray [])⟩) ::
  (nat_lit 487, ⟨(Value.type "code"), none, (Data.fields (List.toArray [(Value.str (Str.ofString "__exit__") 833), (Value.str (Str.ofString "StringIO.__exit__") 834), (Value.str (Str.ofString "/claim/cut.py") 835), (Value.int 336 0), (Value.int 1 0), (Value.int 0 0), (Value.int 0 0), (Value.int 7 0), (Value.ref 482), (Value.bool true), (Value.int 273 0), (Value.ref 483), Value.none, (Value.ref 484), (Value.ref 485), (Value.ref 486), (Value.int 838 0), (Value.int 336 0), (Value.str (Str.ofString "/claim/cut.py") 839)])), (List.toArray [])⟩) ::
  (nat_lit 488, ⟨(Value.type "function"), none, (Data.func ⟨(Str.ofString "__exit__"), (Str.ofString "StringIO.__exit__"), fArgs [12, 13], FuncBody.stmts (fBody [12, 13]), fScope [12, 13], 3, [], Value.none, Value.none, Value.none, (Value.str (Str.ofString "io") 346), none, (Value.ref 487), Value.none, 0⟩), (List.toArray [])⟩) ::
  (nat_lit 494, ⟨(Value.type "code"), none, (Data.fields (List.toArray [(Value.str (Str.ofString "readable") 841), (Value.str (Str.ofString "StringIO.readable") 842), (Value.str (Str.ofString "/claim/cut.py") 843), (Value.int 339 0), (Value.int 1 0), (Value.int 0 0), (Value.int 0 0), (Value.int 3 0), (Value.ref 489), (Value.bool true), (Value.int 273 0), (Value.ref 490), Value.none, (Value.ref 491), (Value.ref 492), (Value.ref 493), (Value.int 845 0), (Value.int 339 0), (Value.str (Str.ofString "/claim/cut.py") 846)])), (List.toArray [])⟩) ::
  (nat_lit 495, ⟨(Value.type "function"), none, (Data.func ⟨(Str.ofString "readable"), (Str.ofString "StringIO.readable"), fArgs [12, 14], FuncBody.stmts (fBody [12, 14]), fScope [12, 14], 3, [], Value.none, Value.none, Value.none, (Value.str (Str.ofString "io") 346), none, (Value.ref 494), Value.none, 0⟩), (List.toArray [])⟩) ::
  (nat_lit 501, ⟨(Value.type "code"), none, (Data.fields (List.toArray [(Value.str (Str.ofString "writable") 848), (Value.str (Str.ofString "StringIO.writable") 849), (Value.str (Str.ofString "/claim/cut.py") 850), (Value.int 343 0), (Value.int 1 0), (Value.int 0 0), (Value.int 0 0), (Value.int 3 0), (Value.ref 496), (Value.bool true), (Value.int 273 0), (Value.ref 497), Value.none, (Value.ref 498), (Value.ref 499), (Value.ref 500), (Value.int 852 0), (Value.int 343 0), (Value.str (Str.ofString "/claim/cut.py") 853)])), (List.toArray [])⟩) ::
  (nat_lit 502, ⟨(Value.type "function"), none, (Data.func ⟨(Str.ofString "writable"), (Str.ofString "StringIO.writable"), fArgs [12, 15], FuncBody.stmts (fBody [12, 15]), fScope [12, 15], 3, [], Value.none, Value.none, Value.none, (Value.str (Str.ofString "io") 346), none, (Value.ref 501), Value.none, 0⟩), (List.toArray [])⟩) ::
  (nat_lit 508, ⟨(Value.type "code"), none, (Data.fields (List.toArray [(Value.str (Str.ofString "seekable") 855), (Value.str (Str.ofString "StringIO.seekable") 856), (Value.str (Str.ofString "/claim/cut.py") 857), (Value.int 347 0), (Value.int 1 0), (Value.int 0 0), (Value.int 0 0), (Value.int 3 0), (Value.ref 503), (Value.bool true), (Value.int 273 0), (Value.ref 504), Value.none, (Value.ref 505), (Value.ref 506), (Value.ref 507), (Value.int 859 0), (Value.int 347 0), (Value.str (Str.ofString "/claim/cut.py") 860)])), (List.toArray [])⟩) ::
  (nat_lit 509, ⟨(Value.type "function"), none, (Data.func ⟨(Str.ofString "seekable"), (Str.ofString "StringIO.seekable"), fArgs [12, 16], FuncBody.stmts (fBody [12, 16]), fScope [12, 16], 3, [], Value.none, Value.none, Value.none, (Value.str (Str.ofString "io") 346), none, (Value.ref 508), Value.none, 0⟩), (List.toArray [])⟩) ::
  (nat_lit 515, ⟨(Value.type "code"), none, (Data.fields (List.toArray [(Value.str (Str.ofString "isatty") 862), (Value.str (Str.ofString "StringIO.isatty") 863), (Value.str (Str.ofString "/claim/cut.py") 864), (Value.int 351 0), (Value.int 1 0), (Value.int 0 0), (Value.int 0 0), (Value.int 3 0), (Value.ref 510), (Value.bool true), (Value.int 273 0), (Value.ref 511), Value.none, (Value.ref 512), (Value.ref 513), (Value.ref 514), (Value.int 866 0), (Value.int 351 0), (Value.str (Str.ofString "/claim/cut.py") 867)])), (List.toArray [])⟩) ::
  (nat_lit 516, ⟨(Value.type "function"), none, (Data.func ⟨(Str.ofString "isatty"), (Str.ofString "StringIO.isatty"), fArgs [12, 17], FuncBody.stmts (fBody [12, 17]), fScope [12, 17], 3, [], Value.none, Value.none, Value.none, (Value.str (Str.ofString "io") 346), none, (Value.ref 515), Value.none, 0⟩), (List.toArray [])⟩) ::
  (nat_lit 522, ⟨(Value.type "code"), none, (Data.fields (List.toArray [(Value.str (Str.ofString "flush") 869), (Value.str (Str.ofString "StringIO.flush") 870), (Value.str (Str.ofString "/claim/cut.py") 871), (Value.int 355 0), (Value.int 1 0), (Value.int 0 0), (Value.int 0 0), (Value.int 3 0), (Value.ref 517), (Value.bool true), (Value.int 273 0), (Value.ref 518), Value.none, (Value.ref 519), (Value.ref 520), (Value.ref 521), (Value.int 873 0), (Value.int 355 0), (Value.str (Str.ofString "/claim/cut.py") 874)])), (List.toArray [])⟩) ::
  (nat_lit 523, ⟨(Value.type "function"), none, (Data.func ⟨(Str.ofString "flush"), (Str.ofString "StringIO.flush"), fArgs [12, 18], FuncBody.stmts (fBody [12, 18]), fScope [12, 18], 3, [], Value.none, Value.none, Value.none, (Value.str (Str.ofString "io") 346), none, (Value.ref 522), Value.none, 0⟩), (List.toArray [])⟩) ::
  (nat_lit 529, ⟨(Value.type "code"), none, (Data.fields (List.toArray [(Value.str (Str.ofString "fileno") 876), (Value.str (Str.ofString "StringIO.fileno") 877), (Value.str (Str.ofString "/claim/cut.py") 878), (Value.int 358 0), (Value.int 1 0), (Value.int 0 0), (Value.int 0 0), (Value.int 3 0), (Value.ref 524), (Value.bool true), (Value.int 273 0), (Value.ref 525), Value.none, (Value.ref 526), (Value.ref 527), (Value.ref 528), (Value.int 880 0), (Value.int 358 0), (Value.str (Str.ofString "/claim/cut.py") 881)])), (List.toArray [])⟩) ::
  (nat_lit 530, ⟨(Value.type "function"), none, (Data.func ⟨(Str.ofString "fileno"), (Str.ofString "StringIO.fileno"), fArgs [12, 19], FuncBody.stmts (fBody [12, 19]), fScope [12, 19], 3, [], Value.none, Value.none, Value.none, (Value.str (Str.ofString "io") 346), none, (Value.ref 529), Value.none, 0⟩), (List.toArray [])⟩) ::
  (nat_lit 536, ⟨(Value.type "code"), none, (Data.fields (List.toArray [(Value.str (Str.ofString "detach") 883), (Value.str (Str.ofString "StringIO.detach") 884), (Value.str (Str.ofString "/claim/cut.py") 885), (Value.int 361 0), (Value.int 1 0), (Value.int 0 0), (Value.int 0 0), (Value.int 3 0), (Value.ref 531), (Value.bool true), (Value.int 273 0), (Value.ref 532), Value.none, (Value.ref 533), (Value.ref 534), (Value.ref 535), (Value.int 887 0), (Value.int 361 0), (Value.str (Str.ofString "/claim/cut.py") 888)])), (List.toArray [])⟩) ::
  (nat_lit 537, ⟨(Value.type "function"), none, (Data.func ⟨(Str.ofString "detach"), (Str.ofString "StringIO.detach"), fArgs [12, 20], FuncBody.stmts (fBody [12, 20]), fScope [12, 20], 3, [], Value.none, Value.none, Value.none, (Value.str (Str.ofString "io") 346), none, (Value.ref 536), Value.none, 0⟩), (List.toArray [])⟩) ::
  (nat_lit 543, ⟨(Value.type "code"), none, (Data.fields (List.toArray [(Value.str (Str.ofString "getvalue") 890), (Value.str (Str.ofString "StringIO.getvalue") 891), (Value.str (Str.ofString "/claim/cut.py") 892), (Value.int 364 0), (Value.int 1 0), (Value.int 0 0), (Value.int 0 0), (Value.int 3 0), (Value.ref 538), (Value.bool true), (Value.int 273 0), (Value.ref 539), Value.none, (Value.ref 540), (Value.ref 541), (Value.ref 542), (Value.int 894 0), (Value.int 364 0), (Value.str (Str.ofString "/claim/cut.py") 895)])), (List.toArray [])⟩) ::
  (nat_lit 544, ⟨(Value.type "function"), none, (Data.func ⟨(Str.ofString "getvalue"), (Str.ofString "StringIO.getvalue"), fArgs [12, 21], FuncBody.stmts (fBody [12, 21]), fScope [12, 21], 3, [], Value.none, Value.none, Value.none, (Value.str (Str.ofString "io") 346), none, (Value.ref 543), Value.none, 0⟩), (List.toArray [])⟩) ::
  (nat_lit 550, ⟨(Value.type "code"), none, (Data.fields (List.toArray [(Value.str (Str.ofString "tell") 897), (Value.str (Str.ofString "StringIO.tell") 898), (Value.str (Str.ofString "/claim/cut.py") 899), (Value.int 367 0), (Value.int 1 0), (Value.int 0 0), (Value.int 0 0), (Value.int 3 0), (Value.ref 545), (Value.bool true), (Value.int 273 0), (Value.ref 546), Value.none, (Value.ref 547), (Value.ref 548), (Value.ref 549), (Value.int 901 0), (Value.int 367 0), (Value.str (Str.ofString "/claim/cut.py") 902)])), (List.toArray [])⟩) ::
  (nat_lit 551, ⟨(Value.type "function"), none, (Data.func ⟨(Str.ofString "tell"), (Str.ofString "StringIO.tell"), fArgs [12, 22], FuncBody.stmts (fBody [12, 22]), fScope [12, 22], 3, [], Value.none, Value.none, Value.none, (Value.str (Str.ofString "io") 346), none, (Value.ref 550), Value.none, 0⟩), (List.toArray [])⟩) ::
  (nat_lit 552, ⟨(Value.type "tuple"), none, (Data.seq (List.toArray [(Value.int 0 904)]) 0), (List.toArray [])⟩) ::
  (nat_lit 558, ⟨(Value.type "code"), none, (Data.fields (List.toArray [(Value.str (Str.ofString "seek") 905), (Value.str (Str.ofString "StringIO.seek") 906), (Value.str (Str.ofString "/claim/cut.py") 907), (Value.int 371 0), (Value.int 3 0), (Value.int 3 0), (Value.int 0 0), (Value.int 3 0), (Value.ref 553), (Value.bool true), (Value.int 273 0), (Value.ref 554), Value.none, (Value.ref 555), (Value.ref 556), (Value.ref 557), (Value.int 911 0), (Value.int 371 0), (Value.str (Str.ofString "/claim/cut.py") 912)])), (List.toArray [])⟩) ::
  (nat_lit 559, ⟨(Value.type "function"), none, (Data.func ⟨(Str.ofString "seek"), (Str.ofString "StringIO.seek"), fArgs [12, 23], FuncBody.stmts (fBody [12, 23]), fScope [12, 23], 3, [], (Value.ref 552), Value.none, Value.none, (Value.str (Str.ofString "io") 346), none, (Value.ref 558), Value.none, 0⟩), (List.toArray [])⟩) ::
  (nat_lit 560, ⟨(Value.type "tuple"), none, (Data.seq (List.toArray [Value.none]) 0), (List.toArray [])⟩) ::
  (nat_lit 566, ⟨(Value.type "code"), none, (Data.fields (List.toArray [(Value.str (Str.ofString "truncate") 914), (Value.str (Str.ofString "StringIO.truncate") 915), (Value.str (Str.ofString "/claim/cut.py") 916), (Value.int 388 0), (Value.int 2 0), (Value.int 2 0), (Value.int 0 0), (Value.int 3 0), (Value.ref 561), (Value.bool true), (Value.int 273 0), (Value.ref 562), Value.none, (Value.ref 563), (Value.ref 564), (Value.ref 565), (Value.int 919 0), (Value.int 388 0), (Value.str (Str.ofString "/claim/cut.py") 920)])), (List.toArray [])⟩) ::
  (nat_lit 567, ⟨(Value.type "function"), none, (Data.func ⟨(Str.ofString "truncate"), (Str.ofString "StringIO.truncate"), fArgs [12, 24], FuncBody.stmts (fBody [12, 24]), fScope [12, 24], 3, [], (Value.ref 560), Value.none, Value.none, (Value.str (Str.ofString "io") 346), none, (Value.ref 566), Value.none, 0⟩), (List.toArray [])⟩) ::
  (nat_lit 568, ⟨(Value.type "tuple"), none, (Data.seq (List.toArray [(Value.int (-1) 923)]) 0), (List.toArray [])⟩) ::
  (nat_lit 574, ⟨(Value.type "code"), none, (Data.fields (List.toArray [(Value.str (Str.ofString "read") 924), (Value.str (Str.ofString "StringIO.read") 925), (Value.str (Str.ofString "/claim/cut.py") 926), (Value.int 391 0), (Value.int 2 0), (Value.int 2 0), (Value.int 0 0), (Value.int 3 0), (Value.ref 569), (Value.bool true), (Value.int 273 0), (Value.ref 570), Value.none, (Value.ref 571), (Value.ref 572), (Value.ref 573), (Value.int 931 0), (Value.int 391 0), (Value.str (Str.ofString "/claim/cut.py") 932)])), (List.toArray [])⟩) ::
  (nat_lit 575, ⟨(Value.type "function"), none, (Data.func ⟨(Str.ofString "read"), (Str.ofString "StringIO.read"), fArgs [12, 25], FuncBody.stmts (fBody [12, 25]), fScope [12, 25], 3, [], (Value.ref 568), Value.none, Value.none, (Value.str (Str.ofString "io") 346), none, (Value.ref 574), Value.none, 0⟩), (List.toArray [])⟩) ::
  (nat_lit 576, ⟨(Value.type "tuple"), none, (Data.seq (List.toArray [(Value.int (-1) 935)]) 0), (List.toArray [])⟩) ::
  (nat_lit 582, ⟨(Value.type "code"), none, (Data.fields (List.toArray [(Value.str (Str.ofString "readline") 936), (Value.str (Str.ofString "StringIO.readline") 937), (Value.str (Str.ofString "/claim/cut.py") 938), (Value.int 405 0), (Value.int 2 0), (Value.int 2 0), (Value.int 0 0), (Value.int 3 0), (Value.ref 577), (Value.bool true), (Value.int 273 0), (Value.ref 578), Value.none, (Value.ref 579), (Value.ref 580), (Value.ref 581), (Value.int 941 0), (Value.int 405 0), (Value.str (Str.ofString "/claim/cut.py") 942)])), (List.toArray [])⟩) ::
  (nat_lit 583, ⟨(Value.type "function"), none, (Data.func ⟨(Str.ofString "readline"), (Str.ofString "StringIO.readline"), fArgs [12, 26], FuncBody.stmts (fBody [12, 26]), fScope [12, 26], 3, [], (Value.ref 576), Value.none, Value.none, (Value.str (Str.ofString "io") 346), none, (Value.ref 582), Value.none, 0⟩), (List.toArray [])⟩) ::
  (nat_lit 584, ⟨(Value.type "tuple"), none, (Data.seq (List.toArray [(Value.int (-1) 945)]) 0), (List.toArray [])⟩) ::
  (nat_lit 590, ⟨(Value.type "code"), none, (Data.fields (List.toArray [(Value.str (Str.ofString "readlines") 946), (Value.str (Str.ofString "StringIO.readlines") 947), (Value.str (Str.ofString "/claim/cut.py") 948), (Value.int 412 0), (Value.int 2 0), (Value.int 2 0), (Value.int 0 0), (Value.int 3 0), (Value.ref 585), (Value.bool true), (Value.int 273 0), (Value.ref 586), Value.none, (Value.ref 587), (Value.ref 588), (Value.ref 589), (Value.int 951 0), (Value.int 412 0), (Value.str (Str.ofString "/claim/cut.py") 952)])), (List.toArray [])⟩) ::
  (nat_lit 591, ⟨(Value.type "function"), none, (Data.func ⟨(Str.ofString "readlines"), (Str.ofString "StringIO.readlines"), fArgs [12, 27], FuncBody.stmts (fBody [12, 27]), fScope [12, 27], 3, [], (Value.ref 584), Value.none, Value.none, (Value.str (Str.ofString "io") 346), none, (Value.ref 590), Value.none, 0⟩), (List.toArray [])⟩) ::
  (nat_lit 597, ⟨(Value.type "code"), none, (Data.fields (List.toArray [(Value.str (Str.ofString "__iter__") 954), (Value.str (Str.ofString "StringIO.__iter__") 955), (Value.str (Str.ofString "/claim/cut.py") 956), (Value.int 415 0), (Value.int 1 0), (Value.int 0 0), (Value.int 0 0), (Value.int 3 0), (Value.ref 592), (Value.bool true), (Value.int 273 0), (Value.ref 593), Value.none, (Value.ref 594), (Value.ref 595), (Value.ref 596), (Value.int 958 0), (Value.int 415 0), (Value.str (Str.ofString "/claim/cut.py") 959)])), (List.toArray [])⟩) ::
  (nat_lit 598, ⟨(Value.type "function"), none, (Data.func ⟨(Str.ofString "__iter__"), (Str.ofString "StringIO.__iter__"), fArgs [12, 28], FuncBody.stmts (fBody [12, 28]), fScope [12, 28], 3, [], Value.none, Value.none, Value.none, (Value.str (Str.ofString "io") 346), none, (Value.ref 597), Value.none, 0⟩), (List.toArray [])⟩) ::
  (nat_lit 604, ⟨(Value.type "code"), none, (Data.fields (List.toArray [(Value.str (Str.ofString "__next__") 961), (Value.str (Str.ofString "StringIO.__next__") 962), (Value.str (Str.ofString "/claim/cut.py") 963), (Value.int 419 0), (Value.int 1 0), (Value.int 0 0), (Value.int 0 0), (Value.int 3 0), (Value.ref 599), (Value.bool true), (Value.int 273 0), (Value.ref 600), Value.none, (Value.ref 601), (Value.ref 602), (Value.ref 603), (Value.int 966 0), (Value.int 419 0), (Value.str (Str.ofString "/claim/cut.py") 967)])), (List.toArray [])⟩) ::
  (nat_lit 605, ⟨(Value.type "function"), none, (Data.func ⟨(Str.ofString "__next__"), (Str.ofString "StringIO.__next__"), fArgs [12, 29], FuncBody.stmts (fBody [12, 29]), fScope [12, 29], 3, [], Value.none, Value.none, Value.none, (Value.str (Str.ofString "io") 346), none, (Value.ref 604), Value.none, 0⟩), (List.toArray [])⟩) ::
  (nat_lit 611, ⟨(Value.type "code"), none, (Data.fields (List.toArray [(Value.str (Str.ofString "write") 969), (Value.str (Str.ofString "StringIO.write") 970), (Value.str (Str.ofString "/claim/cut.py") 971), (Value.int 426 0), (Value.int 2 0), (Value.int 2 0), (Value.int 0 0), (Value.int 3 0), (Value.ref 606), (Value.bool true), (Value.int 273 0), (Value.ref 607), Value.none, (Value.ref 608), (Value.ref 609), (Value.ref 610), (Value.int 978 0), (Value.int 426 0), (Value.str (Str.ofString "/claim/cut.py") 979)])), (List.toArray [])⟩) ::
  (nat_lit 612, ⟨(Value.type "function"), none, (Data.func ⟨(Str.ofString "write"), (Str.ofString "StringIO.write"), fArgs [12, 30], FuncBody.stmts (fBody [12, 30]), fScope [12, 30], 3, [], Value.none, Value.none, Value.none, (Value.str (Str.ofString "io") 346), none, (Value.ref 611), Value.none, 0⟩), (List.toArray [])⟩) ::
  (nat_lit 618, ⟨(Value.type "code"), none, (Data.fields (List.toArray [(Value.str (Str.ofString "writelines") 981), (Value.str (Str.ofString "StringIO.writelines") 982), (Value.str (Str.ofString "/claim/cut.py") 983), (Value.int 445 0), (Value.int 2 0), (Value.int 2 0), (Value.int 0 0), (Value.int 3 0), (Value.ref 613), (Value.bool true), (Value.int 273 0), (Value.ref 614), Value.none, (Value.ref 615), (Value.ref 616), (Value.ref 617), (Value.int 986 0), (Value.int 445 0), (Value.str (Str.ofString "/claim/cut.py") 987)])), (List.toArray [])⟩) ::
  (nat_lit 619, ⟨(Value.type "function"), none, (Data.func ⟨(Str.ofString "writelines"), (Str.ofString "StringIO.writelines"), fArgs [12, 31], FuncBody.stmts (fBody [12, 31]), fScope [12, 31], 3, [], Value.none, Value.none, Value.none, (Value.str (Str.ofString "io") 346), none, (Value.ref 618), Value.none, 0⟩), (List.toArray [])⟩) ::
  (nat_lit 625, ⟨(Value.type "code"), none, (Data.fields (List.toArray [(Value.str (Str.ofString "__repr__") 989), (Value.str (Str.ofString "StringIO.__repr__") 990), (Value.str (Str.ofString "/claim/cut.py") 991), (Value.int 448 0), (Value.int 1 0), (Value.int 0 0), (Value.int 0 0), (Value.int 3 0), (Value.ref 620), (Value.bool true), (Value.int 273 0), (Value.ref 621), Value.none, (Value.ref 622), (Value.ref 623), (Value.ref 624), (Value.int 993 0), (Value.int 448 0), (Value.str (Str.ofString "/claim/cut.py") 994)])), (List.toArray [])⟩) ::
  (nat_lit 626, ⟨(Value.type "function"), none, (Data.func ⟨(Str.ofString "__repr__"), (Str.ofString "StringIO.__repr__"), fArgs [12, 32], FuncBody.stmts (fBody [12, 32]), fScope [12, 32], 3, [], Value.none, Value.none, Value.none, (Value.str (Str.ofString "io") 346), none, (Value.ref 625), Value.none, 0⟩), (List.toArray [])⟩) ::
  (nat_lit 628, ⟨(Value.type "dict"), none, (Data.dict (List.toArray [⟨PyData.keyHash P (Str.ofString "__module__"), (Value.str (Str.ofString "__module__") 723), (Value.str (Str.ofString "_io") 728)⟩, ⟨PyData.keyHash P (Str.ofString "__firstlineno__"), (Value.str (Str.ofString "__firstlineno__") 727), (Value.int 245 726)⟩, ⟨PyData.keyHash P (Str.ofString "__init__"), (Value.str (Str.ofString "__init__") 740), (Value.ref 399)⟩, ⟨PyData.keyHash P (Str.ofString "_StringIO__translated"), (Value.str (Str.ofString "_StringIO__translated") 749), (Value.ref 406)⟩, ⟨PyData.keyHash P (Str.ofString "_StringIO__check"), (Value.str (Str.ofString "_StringIO__check") 756), (Value.ref 413)⟩, ⟨PyData.keyHash P (Str.ofString "_StringIO__check_dot"), (Value.str (Str.ofString "_StringIO__check_dot") 763), (Value.ref 420)⟩, ⟨PyData.keyHash P (Str.ofString "_StringIO__line"), (Value.str (Str.ofString "_StringIO__line") 778), (Value.ref 427)⟩, ⟨PyData.keyHash P (Str.ofString "closed"), (Value.str (Str.ofString "closed") 786), (Value.ref 435)⟩, ⟨PyData.keyHash P (Str.ofString "line_buffering"), (Value.str (Str.ofString "line_buffering") 794), (Value.ref 443)⟩, ⟨PyData.keyHash P (Str.ofString "newlines"), (Value.str (Str.ofString "newlines") 802), (Value.ref 451)⟩, ⟨PyData.keyHash P (Str.ofString "encoding"), (Value.str (Str.ofString "encoding") 810), (Value.ref 459)⟩, ⟨PyData.keyHash P (Str.ofString "errors"), (Value.str (Str.ofString "errors") 818), (Value.ref 467)⟩, ⟨PyData.keyHash P (Str.ofString "close"), (Value.str (Str.ofString "close") 825), (Value.ref 474)⟩, ⟨PyData.keyHash P (Str.ofString "__enter__"), (Value.str (Str.ofString "__enter__") 832), (Value.ref 481)⟩, ⟨PyData.keyHash P (Str.ofString "__exit__"), (Value.str (Str.ofString "__exit__") 840), (Value.ref 488)⟩, ⟨PyData.keyHash P (Str.ofString "readable"), (Value.str (Str.ofString "readable") 847), (Value.ref 495)⟩, ⟨PyData.keyHash P (Str.ofString "writable"), (Value.str (Str.ofString "writable") 854), (Value.ref 502)⟩, ⟨PyData.keyHash P (Str.ofString "seekable"), (Value.str (Str.ofString "seekable") 861), (Value.ref 509)⟩, ⟨PyData.keyHash P (Str.ofString "isatty"), (Value.str (Str.ofString "isatty") 868), (Value.ref 516)⟩, ⟨PyData.keyHash P (Str.ofString "flush"), (Value.str (Str.ofString "flush") 875), (Value.ref 523)⟩, ⟨PyData.keyHash P (Str.ofString "fileno"), (Value.str (Str.ofString "fileno") 882), (Value.ref 530)⟩, ⟨PyData.keyHash P (Str.ofString "detach"), (Value.str (Str.ofString "detach") 889), (Value.ref 537)⟩, ⟨PyData.keyHash P (Str.ofString "getvalue"), (Value.str (Str.ofString "getvalue") 896), (Value.ref 544)⟩, ⟨PyData.keyHash P (Str.ofString "tell"), (Value.str (Str.ofString "tell") 903), (Value.ref 551)⟩, ⟨PyData.keyHash P (Str.ofString "seek"), (Value.str (Str.ofString "seek") 913), (Value.ref 559)⟩, ⟨PyData.keyHash P (Str.ofString "truncate"), (Value.str (Str.ofString "truncate") 921), (Value.ref 567)⟩, ⟨PyData.keyHash P (Str.ofString "read"), (Value.str (Str.ofString "read") 933), (Value.ref 575)⟩, ⟨PyData.keyHash P (Str.ofString "readline"), (Value.str (Str.ofString "readline") 943), (Value.ref 583)⟩, ⟨PyData.keyHash P (Str.ofString "readlines"), (Value.str (Str.ofString "readlines") 953), (Value.ref 591)⟩, ⟨PyData.keyHash P (Str.ofString "__iter__"), (Value.str (Str.ofString "__iter__") 960), (Value.ref 598)⟩, ⟨PyData.keyHash P (Str.ofString "__next__"), (Value.str (Str.ofString "__next__") 968), (Value.ref 605)⟩, ⟨PyData.keyHash P (Str.ofString "write"), (Value.str (Str.ofString "write") 980), (Value.ref 612)⟩, ⟨PyData.keyHash P (Str.ofString "writelines"), (Value.str (Str.ofString "writelines") 988), (Value.ref 619)⟩, ⟨PyData.keyHash P (Str.ofString "__repr__"), (Value.str (Str.ofString "__repr__") 995), (Value.ref 626)⟩, ⟨PyData.keyHash P (Str.ofString "__static_attributes__"), (Value.str (Str.ofString "__static_attributes__") 999), (Value.ref 627)⟩, ⟨PyData.keyHash P (Str.ofString "__doc__"), (Value.str (Str.ofString "__doc__") 1000), Value.none⟩]) 2), (List.toArray [])⟩) ::
  (nat_lit 629, ⟨(Value.type "type"), none, (Data.cls ⟨(Str.ofString "StringIO"), [(Value.ref 152)], [(Value.ref 629), (Value.ref 152), (Value.ref 125), (Value.type "object")], 628, (Str.ofString "StringIO"), true, [], [], false, none, false⟩), (List.toArray [(some (Value.ref 385)), none, (some (Value.str (Str.ofString "StringIO") 716)), (some (Value.str (Str.ofString "StringIO") 724)), (some Value.none), (some (Value.bool true))])⟩) ::
  (nat_lit 637, ⟨(Value.type "code"), none, (Data.fields (List.toArray [(Value.str (Str.ofString "_kind") 1005), (Value.str (Str.ofString "_kind") 1006), (Value.str (Str.ofString "/claim/cut.py") 1007), (Value.int 451 0), (Value.int 2 0), (Value.int 0 0), (Value.int 0 0), (Value.int 3 0), (Value.ref 632), (Value.bool true), (Value.int 273 0), (Value.ref 633), Value.none, (Value.ref 634), (Value.ref 635), (Value.ref 636), (Value.int 1011 0), (Value.int 451 0), (Value.str (Str.ofString "/claim/cut.py") 1012)])), (List.toArray [])⟩) ::
  (nat_lit 638, ⟨(Value.type "function"), none, (Data.func ⟨(Str.ofString "_kind"), (Str.ofString "_kind"), fArgs [14], FuncBody.stmts (fBody [14]), fScope [14], 3, [], Value.none, Value.none, Value.none, (Value.str (Str.ofString "os.path") 1003), none, (Value.ref 637), Value.none, 0⟩), (List.toArray [])⟩) ::
  (nat_lit 644, ⟨(Value.type "code"), none, (Data.fields (List.toArray [(Value.str (Str.ofString "_fspath") 1014), (Value.str (Str.ofString "_fspath") 1015), (Value.str (Str.ofString "/claim/cut.py") 1016), (Value.int 472 0), (Value.int 2 0), (Value.int 0 0), (Value.int 0 0), (Value.int 3 0), (Value.ref 639), (Value.bool true), (Value.int 273 0), (Value.ref 640), Value.none, (Value.ref 641), (Value.ref 642), (Value.ref 643), (Value.int 1020 0), (Value.int 472 0), (Value.str (Str.ofString "/claim/cut.py") 1021)])), (List.toArray [])⟩) ::
  (nat_lit 645, ⟨(Value.type "function"), none, (Data.func ⟨(Str.ofString "_fspath"), (Str.ofString "_fspath"), fArgs [15], FuncBody.stmts (fBody [15]), fScope [15], 3, [], Value.none, Value.none, Value.none, (Value.str (Str.ofString "os.path") 1003), none, (Value.ref 644), Value.none, 0⟩), (List.toArray [])⟩) ::
  (nat_lit 651, ⟨(Value.type "code"), none, (Data.fields (List.toArray [(Value.str (Str.ofString "_check_arg_types") 1023), (Value.str (Str.ofString "_check_arg_types") 1024), (Value.str (Str.ofString "/claim/cut.py") 1025), (Value.int 477 0), (Value.int 1 0), (Value.int 0 0), (Value.int 0 0), (Value.int 7 0), (Value.ref 646), (Value.bool true), (Value.int 273 0), (Value.ref 647), Value.none, (Value.ref 648), (Value.ref 649), (Value.ref 650), (Value.int 1030 0), (Value.int 477 0), (Value.str (Str.ofString "/claim/cut.py") 1031)])), (List.toArray [])⟩) ::
  (nat_lit 652, ⟨(Value.type "function"), none, (Data.func ⟨(Str.ofString "_check_arg_types"), (Str.ofString "_check_arg_types"), fArgs [16], FuncBody.stmts (fBody [16]), fScope [16], 3, [], Value.none, Value.none, Value.none, (Value.str (Str.ofString "os.path") 1003), none, (Value.ref 651), Value.none, 0⟩), (List.toArray [])⟩) ::
  (nat_lit 658, ⟨(Value.type "code"), none, (Data.fields (List.toArray [(Value.str (Str.ofString "isabs") 1033), (Value.str (Str.ofString "isabs") 1034), (Value.str (Str.ofString "/claim/cut.py") 1035), (Value.int 482 0), (Value.int 1 0), (Value.int 0 0), (Value.int 0 0), (Value.int 3 0), (Value.ref 653), (Value.bool true), (Value.int 273 0), (Value.ref 654), Value.none, (Value.ref 655), (Value.ref 656), (Value.ref 657), (Value.int 1037 0), (Value.int 482 0), (Value.str (Str.ofString "/claim/cut.py") 1038)])), (List.toArray [])⟩) ::
  (nat_lit 659, ⟨(Value.type "function"), none, (Data.func ⟨(Str.ofString "isabs"), (Str.ofString "isabs"), fArgs [17], FuncBody.stmts (fBody [17]), fScope [17], 3, [], Value.none, Value.none, Value.none, (Value.str (Str.ofString "os.path") 1003), none, (Value.ref 658), Value.none, 0⟩), (List.toArray [])⟩) ::
  (nat_lit 665, ⟨(Value.type "code"), none, (Data.fields (List.toArray [(Value.str (Str.ofString "join") 1040), (Value.str (Str.ofString "join") 1041), (Value.str (Str.ofString "/claim/cut.py") 1042), (Value.int 485 0), (Value.int 1 0), (Value.int 0 0), (Value.int 0 0), (Value.int 7 0), (Value.ref 660), (Value.bool true), (Value.int 273 0), (Value.ref 661), Value.none, (Value.ref 662), (Value.ref 663), (Value.ref 664), (Value.int 1048 0), (Value.int 485 0), (Value.str (Str.ofString "/claim/cut.py") 1049)])), (List.toArray [])⟩) ::
  (nat_lit 666, ⟨(Value.type "function"), none, (Data.func ⟨(Str.ofString "join"), (Str.ofString "join"), fArgs [18], FuncBody.stmts (fBody [18]), fScope [18], 3, [], Value.none, Value.none, Value.none, (Value.str (Str.ofString "os.path") 1003), none, (Value.ref 665), Value.none, 0⟩), (List.toArray [])⟩) ::
  (nat_lit 672, ⟨(Value.type "code"), none, (Data.fields (List.toArray [(Value.str (Str.ofString "dirname") 1051), (Value.str (Str.ofString "dirname") 1052), (Value.str (Str.ofString "/claim/cut.py") 1053), (Value.int 505 0), (Value.int 1 0), (Value.int 0 0), (Value.int 0 0), (Value.int 3 0), (Value.ref 667), (Value.bool true), (Value.int 273 0), (Value.ref 668), Value.none, (Value.ref 669), (Value.ref 670), (Value.ref 671), (Value.int 1058 0), (Value.int 505 0), (Value.str (Str.ofString "/claim/cut.py") 1059)])), (List.toArray [])⟩) ::
  (nat_lit 673, ⟨(Value.type "function"), none, (Data.func ⟨(Str.ofString "dirname"), (Str.ofString "dirname"), fArgs [19], FuncBody.stmts (fBody [19]), fScope [19], 3, [], Value.none, Value.none, Value.none, (Value.str (Str.ofString "os.path") 1003), none, (Value.ref 672), Value.none, 0⟩), (List.toArray [])⟩) ::
  (nat_lit 681, ⟨(Value.type "tuple"), none, (Data.seq (List.toArray [Value.none, Value.none, (Value.bool false), (Value.bool false)]) 0), (List.toArray [])⟩) ::
  (nat_lit 687, ⟨(Value.type "code"), none, (Data.fields (List.toArray [(Value.str (Str.ofString "__init__") 1075), (Value.str (Str.ofString "shlex.__init__") 1076), (Value.str (Str.ofString "/claim/cut.py") 1077), (Value.int 516 0), (Value.int 5 0), (Value.int 0 0), (Value.int 0 0), (Value.int 3 0), (Value.ref 682), (Value.bool true), (Value.int 273 0), (Value.ref 683), Value.none, (Value.ref 684), (Value.ref 685), (Value.ref 686), (Value.int 1084 0), (Value.int 516 0), (Value.str (Str.ofString "/claim/cut.py") 1085)])), (List.toArray [])⟩) ::
  (nat_lit 688, ⟨(Value.type "function"), none, (Data.func ⟨(Str.ofString "__init__"), (Str.ofString "shlex.__init__"), fArgs [21, 0], FuncBody.stmts (fBody [21, 0]), fScope [21, 0], 3, [], (Value.ref 681), Value.none, Value.none, (Value.str (Str.ofString "cpy313.shlex") 1061), none, (Value.ref 687), Value.none, 0⟩), (List.toArray [])⟩) ::
  (nat_lit 694, ⟨(Value.type "code"), none, (Data.fields (List.toArray [(Value.str (Str.ofString "punctuation_chars") 1087), (Value.str (Str.ofString "shlex.punctuation_chars") 1088), (Value.str (Str.ofString "/claim/cut.py") 1089), (Value.int 557 0), (Value.int 1 0), (Value.int 0 0), (Value.int 0 0), (Value.int 3 0), (Value.ref 689), (Value.bool true), (Value.int 273 0), (Value.ref 690), Value.none, (Value.ref 691), (Value.ref 692), (Value.ref 693), (Value.int 1091 0), (Value.int 557 0), (Value.str (Str.ofString "/claim/cut.py") 1092)])), (List.toArray [])⟩) ::
  (nat_lit 695, ⟨(Value.type "function"), none, (Data.func ⟨(Str.ofString "punctuation_chars"), (Str.ofString "shlex.punctuation_chars"), fArgs [21, 1], FuncBody.stmts (fBody [21, 1]), fScope [21, 1], 3, [], Value.none, Value.none, Value.none, (Value.str (Str.ofString "cpy313.shlex") 1061), none, (Value.ref 694), Value.none, 0⟩), (List.toArray [])⟩) ::
  (nat_lit 696, ⟨(Value.type "property"), none, (Data.fields (List.toArray [(Value.ref 695), Value.none, Value.none, Value.none, (Value.str (Str.ofString "punctuation_chars") 1094), (Value.bool false)])), (List.toArray [])⟩) ::
  (nat_lit 702, ⟨(Value.type "code"), none, (Data.fields (List.toArray [(Value.str (Str.ofString "push_token") 1095), (Value.str (Str.ofString "shlex.push_token") 1096), (Value.str (Str.ofString "/claim/cut.py") 1097), (Value.int 561 0), (Value.int 2 0), (Value.int 0 0), (Value.int 0 0), (Value.int 3 0), (Value.ref 697), (Value.bool true), (Value.int 273 0), (Value.ref 698), Value.none, (Value.ref 699), (Value.ref 700), (Value.ref 701), (Value.int 1100 0), (Value.int 561 0), (Value.str (Str.ofString "/claim/cut.py") 1101)])), (List.toArray [])⟩) ::
  (nat_lit 703, ⟨(Value.type "function"), none, (Data.func ⟨(Str.ofString "push_token"), (Str.ofString "shlex.push_token"), fArgs [21, 2], FuncBody.stmts (fBody [21, 2]), fScope [21, 2], 3, [], Value.none, Value.none, Value.none, (Value.str (Str.ofString "cpy313.shlex") 1061), none, (Value.ref 702), Value.none, 0⟩), (List.toArray [])⟩) ::
  (nat_lit 704, ⟨(Value.type "tuple"), none, (Data.seq (List.toArray [Value.none]) 0), (List.toArray [])⟩) ::
  (nat_lit 710, ⟨(Value.type "code"), none, (Data.fields (List.toArray [(Value.str (Str.ofString "push_source") 1103), (Value.str (Str.ofString "shlex.push_source") 1104), (Value.str (Str.ofString "/claim/cut.py") 1105), (Value.int 564 0), (Value.int 3 0), (Value.int 0 0), (Value.int 0 0), (Value.int 3 0), (Value.ref 705), (Value.bool true), (Value.int 273 0), (Value.ref 706), Value.none, (Value.ref 707), (Value.ref 708), (Value.ref 709), (Value.int 1109 0), (Value.int 564 0), (Value.str (Str.ofString "/claim/cut.py") 1110)])), (List.toArray [])⟩) ::
  (nat_lit 711, ⟨(Value.type "function"), none, (Data.func ⟨(Str.ofString "push_source"), (Str.ofString "shlex.push_source"), fArgs [21, 3], FuncBody.stmts (fBody [21, 3]), fScope [21, 3], 3, [], (Value.ref 704), Value.none, Value.none, (Value.str (Str.ofString "cpy313.shlex") 1061), none, (Value.ref 710), Value.none, 0⟩), (List.toArray [])⟩) ::
  (nat_lit 717, ⟨(Value.type "code"), none, (Data.fields (List.toArray [(Value.str (Str.ofString "pop_source") 1112), (Value.str (Str.ofString "shlex.pop_source") 1113), (Value.str (Str.ofString "/claim/cut.py") 1114), (Value.int 577 0), (Value.int 1 0), (Value.int 0 0), (Value.int 0 0), (Value.int 3 0), (Value.ref 712), (Value.bool true), (Value.int 273 0), (Value.ref 713), Value.none, (Value.ref 714), (Value.ref 715), (Value.ref 716), (Value.int 1116 0), (Value.int 577 0), (Value.str (Str.ofString "/claim/cut.py") 1117)])), (List.toArray [])⟩) ::
  (nat_lit 718, ⟨(Value.type "function"), none, (Data.func ⟨(Str.ofString "pop_source"), (Str.ofString "shlex.pop_source"), fArgs [21, 4], FuncBody.stmts (fBody [21, 4]), fScope [21, 4], 3, [], Value.none, Value.none, Value.none, (Value.str (Str.ofString "cpy313.shlex") 1061), none, (Value.ref 717), Value.none, 0⟩), (List.toArray [])⟩) ::
  (nat_lit 724, ⟨(Value.type "code"), none, (Data.fields (List.toArray [(Value.str (Str.ofString "get_token") 1119), (Value.str (Str.ofString "shlex.get_token") 1120), (Value.str (Str.ofString "/claim/cut.py") 1121), (Value.int 584 0), (Value.int 1 0), (Value.int 0 0), (Value.int 0 0), (Value.int 3 0), (Value.ref 719), (Value.bool true), (Value.int 273 0), (Value.ref 720), Value.none, (Value.ref 721), (Value.ref 722), (Value.ref 723), (Value.int 1128 0), (Value.int 584 0), (Value.str (Str.ofString "/claim/cut.py") 1129)])), (List.toArray [])⟩) ::
  (nat_lit 725, ⟨(Value.type "function"), none, (Data.func ⟨(Str.ofString "get_token"), (Str.ofString "shlex.get_token"), fArgs [21, 5], FuncBody.stmts (fBody [21, 5]), fScope [21, 5], 3, [], Value.none, Value.none, Value.none, (Value.str (Str.ofString "cpy313.shlex") 1061), none, (Value.ref 724), Value.none, 0⟩), (List.toArray [])⟩) ::
  (nat_lit 731, ⟨(Value.type "code"), none, (Data.fields (List.toArray [(Value.str (Str.ofString "read_token") 1131), (Value.str (Str.ofString "shlex.read_token") 1132), (Value.str (Str.ofString "/claim/cut.py") 1133), (Value.int 611 0), (Value.int 1 0), (Value.int 0 0), (Value.int 0 0), (Value.int 3 0), (Value.ref 726), (Value.bool true), (Value.int 273 0), (Value.ref 727), Value.none, (Value.ref 728), (Value.ref 729), (Value.ref 730), (Value.int 1139 0), (Value.int 611 0), (Value.str (Str.ofString "/claim/cut.py") 1140)])), (List.toArray [])⟩) ::
  (nat_lit 732, ⟨(Value.type "function"), none, (Data.func ⟨(Str.ofString "read_token"), (Str.ofString "shlex.read_token"), fArgs [21, 6], FuncBody.stmts (fBody [21, 6]), fScope [21, 6], 3, [], Value.none, Value.none, Value.none, (Value.str (Str.ofString "cpy313.shlex") 1061), none, (Value.ref 731), Value.none, 0⟩), (List.toArray [])⟩) ::
  (nat_lit 738, ⟨(Value.type "code"), none, (Data.fields (List.toArray [(Value.str (Str.ofString "sourcehook") 1142), (Value.str (Str.ofString "shlex.sourcehook") 1143), (Value.str (Str.ofString "/claim/cut.py") 1144), (Value.int 748 0), (Value.int 2 0), (Value.int 0 0), (Value.int 0 0), (Value.int 3 0), (Value.ref 733), (Value.bool true), (Value.int 273 0), (Value.ref 734), Value.none, (Value.ref 735), (Value.ref 736), (Value.ref 737), (Value.int 1147 0), (Value.int 748 0), (Value.str (Str.ofString "/claim/cut.py") 1148)])), (List.toArray [])⟩) ::
  (nat_lit 739, ⟨(Value.type "function"), none, (Data.func ⟨(Str.ofString "sourcehook"), (Str.ofString "shlex.sourcehook"), fArgs [21, 7], FuncBody.stmts (fBody [21, 7]), fScope [21, 7], 3, [], Value.none, Value.none, Value.none, (Value.str (Str.ofString "cpy313.shlex") 1061), none, (Value.ref 738), Value.none, 0⟩), (List.toArray [])⟩) ::
  (nat_lit 740, ⟨(Value.type "tuple"), none, (Data.seq (List.toArray [Value.none, Value.none]) 0), (List.toArray [])⟩) ::
  (nat_lit 746, ⟨(Value.type "code"), none, (Data.fields (List.toArray [(Value.str (Str.ofString "error_leader") 1150), (Value.str (Str.ofString "shlex.error_leader") 1151), (Value.str (Str.ofString "/claim/cut.py") 1152), (Value.int 755 0), (Value.int 3 0), (Value.int 0 0), (Value.int 0 0), (Value.int 3 0), (Value.ref 741), (Value.bool true), (Value.int 273 0), (Value.ref 742), Value.none, (Value.ref 743), (Value.ref 744), (Value.ref 745), (Value.int 1156 0), (Value.int 755 0), (Value.str (Str.ofString "/claim/cut.py") 1157)])), (List.toArray [])⟩) ::
  (nat_lit 747, ⟨(Value.type "function"), none, (Data.func ⟨(Str.ofString "error_leader"), (Str.ofString "shlex.error_leader"), fArgs [21, 8], FuncBody.stmts (fBody [21, 8]), fScope [21, 8], 3, [], (Value.ref 740), Value.none, Value.none, (Value.str (Str.ofString "cpy313.shlex") 1061), none, (Value.ref 746), Value.none, 0⟩), (List.toArray [])⟩) ::
  (nat_lit 753, ⟨(Value.type "code"), none, (Data.fields (List.toArray [(Value.str (Str.ofString "__iter__") 1159), (Value.str (Str.ofString "shlex.__iter__") 1160), (Value.str (Str.ofString "/claim/cut.py") 1161), (Value.int 758 0), (Value.int 1 0), (Value.int 0 0), (Value.int 0 0), (Value.int 3 0), (Value.ref 748), (Value.bool true), (Value.int 273 0), (Value.ref 749), Value.none, (Value.ref 750), (Value.ref 751), (Value.ref 752), (Value.int 1163 0), (Value.int 758 0), (Value.str (Str.ofString "/claim/cut.py") 1164)])), (List.toArray [])⟩) ::
  (nat_lit 754, ⟨(Value.type "function"), none, (Data.func ⟨(Str.ofString "__iter__"), (Str.ofString "shlex.__iter__"), fArgs [21, 9], FuncBody.stmts (fBody [21, 9]), fScope [21, 9], 3, [], Value.none, Value.none, Value.none, (Value.str (Str.ofString "cpy313.shlex") 1061), none, (Value.ref 753), Value.none, 0⟩), (List.toArray [])⟩) ::
  (nat_lit 760, ⟨(Value.type "code"), none, (Data.fields (List.toArray [(Value.str (Str.ofString "__next__") 1166), (Value.str (Str.ofString "shlex.__next__") 1167), (Value.str (Str.ofString "/claim/cut.py") 1168), (Value.int 761 0), (Value.int 1 0), (Value.int 0 0), (Value.int 0 0), (Value.int 3 0), (Value.ref 755), (Value.bool true), (Value.int 273 0), (Value.ref 756), Value.none, (Value.ref 757), (Value.ref 758), (Value.ref 759), (Value.int 1171 0), (Value.int 761 0), (Value.str (Str.ofString "/claim/cut.py") 1172)])), (List.toArray [])⟩) ::
  (nat_lit 761, ⟨(Value.type "function"), none, (Data.func ⟨(Str.ofString "__next__"), (Str.ofString "shlex.__next__"), fArgs [21, 10], FuncBody.stmts (fBody [21, 10]), fScope [21, 10], 3, [], Value.none, Value.none, Value.none, (Value.str (Str.ofString "cpy313.shlex") 1061), none, (Value.ref 760), Value.none, 0⟩), (List.toArray [])⟩) ::
  (nat_lit 763, ⟨(Value.type "dict"), none, (Data.dict (List.toArray [⟨PyData.keyHash P (Str.ofString "__module__"), (Value.str (Str.ofString "__module__") 1070), (Value.str (Str.ofString "cpy313.shlex") 1061)⟩, ⟨PyData.keyHash P (Str.ofString "__firstlineno__"), (Value.str (Str.ofString "__firstlineno__") 1074), (Value.int 514 1073)⟩, ⟨PyData.keyHash P (Str.ofString "__init__"), (Value.str (Str.ofString "__init__") 1086), (Value.ref 688)⟩, ⟨PyData.keyHash P (Str.ofString "punctuation_chars"), (Value.str (Str.ofString "punctuation_chars") 1094), (Value.ref 696)⟩, ⟨PyData.keyHash P (Str.ofString "push_token"), (Value.str (Str.ofString "push_token") 1102), (Value.ref 703)⟩, ⟨PyData.keyHash P (Str.ofString "push_source"), (Value.str (Str.ofString "push_source") 1111), (Value.ref 711)⟩, ⟨PyData.keyHash P (Str.ofString "pop_source"), (Value.str (Str.ofString "pop_source") 1118), (Value.ref 718)⟩, ⟨PyData.keyHash P (Str.ofString "get_token"), (Value.str (Str.ofString "get_token") 1130), (Value.ref 725)⟩, ⟨PyData.keyHash P (Str.ofString "read_token"), (Value.str (Str.ofString "read_token") 1141), (Value.ref 732)⟩, ⟨PyData.keyHash P (Str.ofString "sourcehook"), (Value.str (Str.ofString "sourcehook") 1149), (Value.ref 739)⟩, ⟨PyData.keyHash P (Str.ofString "error_leader"), (Value.str (Str.ofString "error_leader") 1158), (Value.ref 747)⟩, ⟨PyData.keyHash P (Str.ofString "__iter__"), (Value.str (Str.ofString "__iter__") 1165), (Value.ref 754)⟩, ⟨PyData.keyHash P (Str.ofString "__next__"), (Value.str (Str.ofString "__next__") 1173), (Value.ref 761)⟩, ⟨PyData.keyHash P (Str.ofString "__static_attributes__"), (Value.str (Str.ofString "__static_attributes__") 1194), (Value.ref 762)⟩, ⟨PyData.keyHash P (Str.ofString "__dict__"), (Value.str (Str.ofString "__dict__") 1196), (Value.ref 765)⟩, ⟨PyData.keyHash P (Str.ofString "__weakref__"), (Value.str (Str.ofString "__weakref__") 1198), (Value.ref 766)⟩, ⟨PyData.keyHash P (Str.ofString "__doc__"), (Value.str (Str.ofString "__doc__") 1199), Value.none⟩]) 4), (List.toArray [])⟩) ::
  (nat_lit 764, ⟨(Value.type "type"), none, (Data.cls ⟨(Str.ofString "shlex"), [(Value.type "object")], [(Value.ref 764), (Value.type "object")], 763, (Str.ofString "shlex"), true, [], [], false, none, false⟩), (List.toArray [none, none, (some (Value.str (Str.ofString "shlex") 1063)), (some (Value.str (Str.ofString "shlex") 1071)), (some (Value.builtin "object.__new__")), (some (Value.bool true))])⟩) ::
  (nat_lit 765, ⟨(Value.type "getset_descriptor"), none, (Data.fields (List.toArray [(Value.str (Str.ofString "__dict__") 1195), (Value.ref 764), (Value.builtin "function.__dict__"), (Value.builtin "function.__dict__#set")])), (List.toArray [])⟩) ::
  (nat_lit 766, ⟨(Value.type "getset_descriptor"), none, (Data.fields (List.toArray [(Value.str (Str.ofString "__weakref__") 1197), (Value.ref 764), (Value.builtin "ExceptionGroup.__weakref__"), Value.none])), (List.toArray [])⟩) ::
  (nat_lit 769, ⟨(Value.type "object"), none, Data.plain, (List.toArray [])⟩) ::
  (nat_lit 770, ⟨(Value.type "tuple"), none, (Data.seq (List.toArray [(Value.ref 769)]) 0), (List.toArray [])⟩) ::
  (nat_lit 776, ⟨(Value.type "code"), none, (Data.fields (List.toArray [(Value.str (Str.ofString "reduce") 1205), (Value.str (Str.ofString "reduce") 1206), (Value.str (Str.ofString "/claim/cut.py") 1207), (Value.int 768 0), (Value.int 3 0), (Value.int 0 0), (Value.int 0 0), (Value.int 3 0), (Value.ref 771), (Value.bool true), (Value.int 273 0), (Value.ref 772), Value.none, (Value.ref 773), (Value.ref 774), (Value.ref 775), (Value.int 1214 0), (Value.int 768 0), (Value.str (Str.ofString "/claim/cut.py") 1215)])), (List.toArray [])⟩) ::
  (nat_lit 777, ⟨(Value.type "function"), none, (Data.func ⟨(Str.ofString "reduce"), (Str.ofString "reduce"), fArgs [24], FuncBody.stmts (fBody [24]), fScope [24], 3, [], (Value.ref 770), Value.none, Value.none, (Value.str (Str.ofString "cpy313.functools") 1202), none, (Value.ref 776), Value.none, 0⟩), (List.toArray [])⟩) ::
  (nat_lit 783, ⟨(Value.type "code"), none, (Data.fields (List.toArray [(Value.str (Str.ofString "_law_piece") 1219), (Value.str (Str.ofString "_law_piece") 1220), (Value.str (Str.ofString "/claim/cut.py") 1221), (Value.int 781 0), (Value.int 1 0), (Value.int 0 0), (Value.int 0 0), (Value.int 3 0), (Value.ref 778), (Value.bool true), (Value.int 273 0), (Value.ref 779), Value.none, (Value.ref 780), (Value.ref 781), (Value.ref 782), (Value.int 1223 0), (Value.int 781 0), (Value.str (Str.ofString "/claim/cut.py") 1224)])), (List.toArray [])⟩) ::
  (nat_lit 784, ⟨(Value.type "function"), none, (Data.func ⟨(Str.ofString "_law_piece"), (Str.ofString "_law_piece"), fArgs [26], FuncBody.stmts (fBody [26]), fScope [26], 3, [], Value.none, Value.none, Value.none, (Value.str (Str.ofString "law_om0137_02") 1217), none, (Value.ref 783), Value.none, 0⟩), (List.toArray [])⟩) ::
  (nat_lit 788, ⟨(Value.type "code"), none, (Data.fields (List.toArray [(Value.str (Str.ofString "_law_whites") 1226), (Value.str (Str.ofString "_law_whites") 1227), (Value.str (Str.ofString "/claim/cut.py") 1228), (Value.int 783 0), (Value.int 1 0), (Value.int 0 0), (Value.int 0 0), (Value.int 3 0), (Value.ref 785), (Value.bool true), (Value.int 273 0), (Value.ref 786), Value.none, Value.none, Value.none, (Value.ref 787), (Value.int 1229 0), (Value.int 783 0), (Value.str (Str.ofString "/claim/cut.py") 1230)])), (List.toArray [])⟩) ::
  (nat_lit 789, ⟨(Value.type "function"), none, (Data.func ⟨(Str.ofString "_law_whites"), (Str.ofString "_law_whites"), fArgs [27], FuncBody.stmts (fBody [27]), fScope [27], 3, [], Value.none, Value.none, Value.none, (Value.str (Str.ofString "law_om0137_02") 1217), none, (Value.ref 788), Value.none, 0⟩), (List.toArray [])⟩) ::
  (nat_lit 795, ⟨(Value.type "code"), none, (Data.fields (List.toArray [(Value.str (Str.ofString "_law_given") 1232), (Value.str (Str.ofString "_law_given") 1233), (Value.str (Str.ofString "/claim/cut.py") 1234), (Value.int 788 0), (Value.int 2 0), (Value.int 0 0), (Value.int 0 0), (Value.int 3 0), (Value.ref 790), (Value.bool true), (Value.int 273 0), (Value.ref 791), Value.none, (Value.ref 792), (Value.ref 793), (Value.ref 794), (Value.int 1241 0), (Value.int 788 0), (Value.str (Str.ofString "/claim/cut.py") 1242)])), (List.toArray [])⟩) ::
  (nat_lit 796, ⟨(Value.type "function"), none, (Data.func ⟨(Str.ofString "_law_given"), (Str.ofString "_law_given"), fArgs [28], FuncBody.stmts (fBody [28]), fScope [28], 3, [], Value.none, Value.none, Value.none, (Value.str (Str.ofString "law_om0137_02") 1217), none, (Value.ref 795), Value.none, 0⟩), (List.toArray [])⟩) ::
  (nat_lit 802, ⟨(Value.type "code"), none, (Data.fields (List.toArray [(Value.str (Str.ofString "_law_read") 1244), (Value.str (Str.ofString "_law_read") 1245), (Value.str (Str.ofString "/claim/cut.py") 1246), (Value.int 796 0), (Value.int 2 0), (Value.int 0 0), (Value.int 0 0), (Value.int 3 0), (Value.ref 797), (Value.bool true), (Value.int 273 0), (Value.ref 798), Value.none, (Value.ref 799), (Value.ref 800), (Value.ref 801), (Value.int 1253 0), (Value.int 796 0), (Value.str (Str.ofString "/claim/cut.py") 1254)])), (List.toArray [])⟩) ::
  (nat_lit 803, ⟨(Value.type "function"), none, (Data.func ⟨(Str.ofString "_law_read"), (Str.ofString "_law_read"), fArgs [29], FuncBody.stmts (fBody [29]), fScope [29], 3, [], Value.none, Value.none, Value.none, (Value.str (Str.ofString "law_om0137_02") 1217), none, (Value.ref 802), Value.none, 0⟩), (List.toArray [])⟩) ::
  (nat_lit 809, ⟨(Value.type "code"), none, (Data.fields (List.toArray [(Value.str (Str.ofString "_law_word") 1256), (Value.str (Str.ofString "_law_word") 1257), (Value.str (Str.ofString "/claim/cut.py") 1258), (Value.int 809 0), (Value.int 2 0), (Value.int 0 0), (Value.int 0 0), (Value.int 3 0), (Value.ref 804), (Value.bool true), (Value.int 273 0), (Value.ref 805), Value.none, (Value.ref 806), (Value.ref 807), (Value.ref 808), (Value.int 1261 0), (Value.int 809 0), (Value.str (Str.ofString "/claim/cut.py") 1262)])), (List.toArray [])⟩) ::
  (nat_lit 810, ⟨(Value.type "function"), none, (Data.func ⟨(Str.ofString "_law_word"), (Str.ofString "_law_word"), fArgs [30], FuncBody.stmts (fBody [30]), fScope [30], 3, [], Value.none, Value.none, Value.none, (Value.str (Str.ofString "law_om0137_02") 1217), none, (Value.ref 809), Value.none, 0⟩), (List.toArray [])⟩) ::
  (nat_lit 816, ⟨(Value.type "code"), none, (Data.fields (List.toArray [(Value.str (Str.ofString "_law_next") 1264), (Value.str (Str.ofString "_law_next") 1265), (Value.str (Str.ofString "/claim/cut.py") 1266), (Value.int 814 0), (Value.int 2 0), (Value.int 0 0), (Value.int 0 0), (Value.int 3 0), (Value.ref 811), (Value.bool true), (Value.int 273 0), (Value.ref 812), Value.none, (Value.ref 813), (Value.ref 814), (Value.ref 815), (Value.int 1276 0), (Value.int 814 0), (Value.str (Str.ofString "/claim/cut.py") 1277)])), (List.toArray [])⟩) ::
  (nat_lit 817, ⟨(Value.type "function"), none, (Data.func ⟨(Str.ofString "_law_next"), (Str.ofString "_law_next"), fArgs [31], FuncBody.stmts (fBody [31]), fScope [31], 3, [], Value.none, Value.none, Value.none, (Value.str (Str.ofString "law_om0137_02") 1217), none, (Value.ref 816), Value.none, 0⟩), (List.toArray [])⟩) ::
  (nat_lit 821, ⟨(Value.type "code"), none, (Data.fields (List.toArray [(Value.str (Str.ofString "law") 1279), (Value.str (Str.ofString "law") 1280), (Value.str (Str.ofString "/claim/cut.py") 1281), (Value.int 829 0), (Value.int 1 0), (Value.int 0 0), (Value.int 0 0), (Value.int 3 0), (Value.ref 818), (Value.bool true), (Value.int 273 0), (Value.ref 819), Value.none, Value.none, Value.none, (Value.ref 820), (Value.int 1282 0), (Value.int 829 0), (Value.str (Str.ofString "/claim/cut.py") 1283)])), (List.toArray [])⟩) ::
  (nat_lit 822, ⟨(Value.type "function"), none, (Data.func ⟨(Str.ofString "law"), (Str.ofString "law"), fArgs [32], FuncBody.stmts (fBody [32]), fScope [32], 3, [], Value.none, Value.none, Value.none, (Value.str (Str.ofString "law_om0137_02") 1217), none, (Value.ref 821), Value.none, 0⟩), (List.toArray [])⟩) :: []
noncomputable def Ks : List Addr := nat_lit 2 :: nat_lit 3 :: nat_lit 38 :: nat_lit 39 :: nat_lit 52 :: nat_lit 53 :: nat_lit 59 :: nat_lit 60 :: nat_lit 66 :: nat_lit 67 :: nat_lit 73 :: nat_lit 74 :: nat_lit 76 :: nat_lit 77 :: nat_lit 78 :: nat_lit 79 :: nat_lit 87 :: nat_lit 88 :: nat_lit 94 :: nat_lit 95 :: nat_lit 104 :: nat_lit 105 :: nat_lit 106 :: nat_lit 121 :: nat_lit 122 :: nat_lit 124 :: nat_lit 125 :: nat_lit 126 :: nat_lit 127 :: nat_lit 128 :: nat_lit 139 :: nat_lit 140 :: nat_lit 151 :: nat_lit 152 :: nat_lit 162 :: nat_lit 168 :: nat_lit 169 :: nat_lit 175 :: nat_lit 176 :: nat_lit 182 :: nat_lit 183 :: nat_lit 189 :: nat_lit 190 :: nat_lit 191 :: nat_lit 197 :: nat_lit 198 :: nat_lit 204 :: nat_lit 205 :: nat_lit 211 :: nat_lit 212 :: nat_lit 218 :: nat_lit 219 :: nat_lit 225 :: nat_lit 226 :: nat_lit 232 :: nat_lit 233 :: nat_lit 239 :: nat_lit 240 :: nat_lit 246 :: nat_lit 247 :: nat_lit 253 :: nat_lit 254 :: nat_lit 260 :: nat_lit 261 :: nat_lit 267 :: nat_lit 268 :: nat_lit 274 :: nat_lit 275 :: nat_lit 281 :: nat_lit 282 :: nat_lit 283 :: nat_lit 289 :: nat_lit 290 :: nat_lit 291 :: nat_lit 297 :: nat_lit 298 :: nat_lit 299 :: nat_lit 305 :: nat_lit 306 :: nat_lit 307 :: nat_lit 313 :: nat_lit 314 :: nat_lit 320 :: nat_lit 321 :: nat_lit 327 :: nat_lit 328 :: nat_lit 329 :: nat_lit 335 :: nat_lit 336 :: nat_lit 337 :: nat_lit 343 :: nat_lit 344 :: nat_lit 350 :: nat_lit 351 :: nat_lit 357 :: nat_lit 358 :: nat_lit 364 :: nat_lit 365 :: nat_lit 371 :: nat_lit 372 :: nat_lit 378 :: nat_lit 379 :: nat_lit 381 :: nat_lit 382 :: nat_lit 392 :: nat_lit 398 :: nat_lit 399 :: nat_lit 405 :: nat_lit 406 :: nat_lit 412 :: nat_lit 413 :: nat_lit 419 :: nat_lit 420 :: nat_lit 426 :: nat_lit 427 :: nat_lit 433 :: nat_lit 434 :: nat_lit 435 :: nat_lit 441 :: nat_lit 442 :: nat_lit 443 :: nat_lit 449 :: nat_lit 450 :: nat_lit 451 :: nat_lit 457 :: nat_lit 458 :: nat_lit 459 :: nat_lit 465 :: nat_lit 466 :: nat_lit 467 :: nat_lit 473 :: nat_lit 474 :: nat_lit 480 :: nat_lit 481 :: nat_lit 487 :: nat_lit 488 :: nat_lit 494 :: nat_lit 495 :: nat_lit 501 :: nat_lit 502 :: nat_lit 508 :: nat_lit 509 :: nat_lit 515 :: nat_lit 516 :: nat_lit 522 :: nat_lit 523 :: nat_lit 529 :: nat_lit 530 :: nat_lit 536 :: nat_lit 537 :: nat_lit 543 :: nat_lit 544 :: nat_lit 550 :: nat_lit 551 :: nat_lit 552 :: nat_lit 558 :: nat_lit 559 :: nat_lit 560 :: nat_lit 566 :: nat_lit 567 :: nat_lit 568 :: nat_lit 574 :: nat_lit 575 :: nat_lit 576 :: nat_lit 582 :: nat_lit 583 :: nat_lit 584 :: nat_lit 590 :: nat_lit 591 :: nat_lit 597 :: nat_lit 598 :: nat_lit 604 :: nat_lit 605 :: nat_lit 611 :: nat_lit 612 :: nat_lit 618 :: nat_lit 619 :: nat_lit 625 :: nat_lit 626 :: nat_lit 628 :: nat_lit 629 :: nat_lit 637 :: nat_lit 638 :: nat_lit 644 :: nat_lit 645 :: nat_lit 651 :: nat_lit 652 :: nat_lit 658 :: nat_lit 659 :: nat_lit 665 :: nat_lit 666 :: nat_lit 672 :: nat_lit 673 :: nat_lit 681 :: nat_lit 687 :: nat_lit 688 :: nat_lit 694 :: nat_lit 695 :: nat_lit 696 :: nat_lit 702 :: nat_lit 703 :: nat_lit 704 :: nat_lit 710 :: nat_lit 711 :: nat_lit 717 :: nat_lit 718 :: nat_lit 724 :: nat_lit 725 :: nat_lit 731 :: nat_lit 732 :: nat_lit 738 :: nat_lit 739 :: nat_lit 740 :: nat_lit 746 :: nat_lit 747 :: nat_lit 753 :: nat_lit 754 :: nat_lit 760 :: nat_lit 761 :: nat_lit 763 :: nat_lit 764 :: nat_lit 765 :: nat_lit 766 :: nat_lit 769 :: nat_lit 770 :: nat_lit 776 :: nat_lit 777 :: nat_lit 783 :: nat_lit 784 :: nat_lit 788 :: nat_lit 789 :: nat_lit 795 :: nat_lit 796 :: nat_lit 802 :: nat_lit 803 :: nat_lit 809 :: nat_lit 810 :: nat_lit 816 :: nat_lit 817 :: nat_lit 821 :: nat_lit 822 :: []
end Mine
end

section
open PySem PySem.W PyProof.Rows
set_option Elab.async false
set_option maxRecDepth 100000
set_option maxHeartbeats 0
namespace Mine
theorem said_Q : Fast.tw9446332074065402090 PySem.Challenge.rw_om0137_02 = true := by decide +kernel
theorem said_02 : OpenLaw.wellSaid PySem.Challenge.rw_om0137_02 = true := by rw [Fast.te9446332074065402090]; exact said_Q
theorem ks_K (P : Params) : Ks = (hd.heap_39 P).map (·.1) := rfl
noncomputable def hook : Hook := kHook hd.heap_39 Ks ks_K
theorem top_A (w : World) : (onceQ pr w 10750).map (fun x => ((staticsOk (importedModules pr.main.body) x.1.heap x.2.heap && namesBound pr x.2.heap && gensDone x.2 && laidKept x.1.heap x.2.heap), Fast.tw4187177175401517315 hd.view_39 loose1 (importedModules pr.main.body) (fun s => xlAt hd.view_39 [] s && recOk PySem.Challenge.rw_om0137_02.row.toRowW.records s) true x.2)) = some (true, openGood hd.view_39 loose1) := by
  kernel_rfl!
theorem top_B (w : World) : (onceQ pr w 10750).map (fun x => hook.obs x.2) = some (hook.val w) := by
  kernel_rfl!
theorem left1 : LeftO pr hd.view_39 loose1 (fun s => xlAt hd.view_39 [] s && recOk PySem.Challenge.rw_om0137_02.row.toRowW.records s) hook.obs hook.val 10750 true := left_once top_A top_B
end Mine
end

section
open PySem PySem.W PyProof.Rows PySem.Calls
set_option Elab.async false
set_option maxRecDepth 100000
set_option maxHeartbeats 8000000
namespace Mine
theorem wpAny_gen {α : Type} {M : Model} {A : Around} {c : Sem α} {Q : α → Shared → Prop} {E : Value → Shared → Prop} {s : Shared} (h : ∀ Q' E', Q' = Q → E' = E → wpAny M A c Q' E' s) : wpAny M A c Q E s := h Q E rfl rfl
theorem tok_norm {α : Type} {M : Model} {A : Around} {c : Sem α} {Q : α → Shared → Prop} {E : Value → Shared → Prop} (s0 : Shared) {h : Heap} {t : Nat} (H : ∀ tk, wpAny M A c Q E { s0 with heap := h, toks := tk }) : wpAny M A c Q E { s0 with heap := h, toks := t } := H t
noncomputable abbrev lo : List Str := looseW hd.view_39
      [Str.ofString "UnsupportedOperation", Str.ofString "IOBase", Str.ofString "BufferedIOBase",
        Str.ofString "TextIOBase", Str.ofString "BytesIO", Str.ofString "StringIO", Str.ofString "shlex",
        Str.ofString "_initial_missing", Str.ofString "reduce"]
/-- what stands below a call: the frames, the written part, the top -/
structure Gd (w : World) (A : Around) (base : Heap) (fr : List Env) (mean : ExcName → Option Value) (mg mb : Str → Option Value) (g : Heap) : Prop where
  B : Below A base fr g
  X : (hd.heap_39 w.params).In g
  T : Top hd.view_39 lo mean mg mb g
noncomputable def Sub (g h : Heap) (sub : List (Addr × Obj)) : Prop := ∀ p ∈ sub, h.get? p.1 = some p.2 ∧ g.get? p.1 = none
structure Ke (g h : Heap) : Prop where
  keep : ∀ b o, g.get? b = some o → h.get? b = some o
  size : g.objs.size ≤ h.objs.size
theorem Ke.of_fr {g h : Heap} {L : Addr} {m : Str → Option Value} (F : Fr g L h m) : Ke g h := by
  obtain ⟨oL, _, _, hL, _⟩ := F.ns
  exact ⟨F.keep, Nat.le_trans F.above (Nat.le_of_lt (Heap.lt_size hL))⟩
theorem Sub.of_news {g h : Heap} {L : Addr} {sub : List (Addr × Obj)} (N : News g L h sub) : Sub g h sub := fun p hp => ⟨(N p hp).1, (N p hp).2.2⟩

section
variable {w : World} {A₀ A : Around} {s : Shared} {base h₀ g : Heap} {outer fr : List Env} {L : Addr} {m mg mb : Str → Option Value} {mean : ExcName → Option Value} {env : Env} {sub : List (Addr × Obj)}
  {R : Result → Shared → Prop} {name qual : Str} {q1 q2 : List Arg} {q3 q6 : Option Arg} {q4 : List Arg} {q5 : List (Option Expr)} {q7 : List Expr} {b : Stmt} {body : List Stmt} {sk : ScopeKind} {sn : List (Str × NameKind)} {sg sc : Bool} {sm : List (Str × Const)} {dV kV doc pm cdv ct oc : Value} {an od : Option Addr} {osl : Array (Option Value)} {f : Addr} {args : Args} {binds : List (Str × Value)}

/-- a call of a def, entered with a part of the ledger -/
theorem enterG (G : Gd w A base fr mean mg mb g) (N : Sub g s.heap sub) (kg : Ke g s.heap)
    (ho : (hd.heap_39 w.params).lookup f = some ⟨oc, od, .func (fnOf name qual (Arguments.mk q1 q2 q3 q4 q5 q6 q7) (b :: body) (Scope.mk sk sn sg sc sm) dV kV doc pm an cdv ct), osl⟩) (hcd : codeIn (hd.heap_39 w.params) cdv qual = true) (hroom : A.depth < recursionLimit)
    (hbind : BindsTo s (fnOf name qual (Arguments.mk q1 q2 q3 q4 q5 q6 q7) (b :: body) (Scope.mk sk sn sg sc sm) dV kV doc pm an cdv ct) args binds) (hloc : (binds.all fun y => decide ((Scope.mk sk sn sg sc sm).names.lookup y.1 = some .local)) = true)
    (h : ∀ L' h₁, Fr g L' h₁ (fun y => binds.reverse.lookup y) → News g L' h₁ sub → (∀ p ∈ sub, p.1 < L') →
      wpAny (model PySem.Challenge.rw_om0137_02.row.prog w) (A.deeper (envOf qual (Scope.mk sk sn sg sc sm) L' f cdv)) (execs (b :: body) (envOf qual (Scope.mk sk sn sg sc sm) L' f cdv))
        (fun fl s' => R (.ok (.ret (match fl with | .ret v => v | _ => .none))) s')
        (fun e s' => wpAny (model PySem.Challenge.rw_om0137_02.row.prog w) (A.deeper (envOf qual (Scope.mk sk sn sg sc sm) L' f cdv)) (leaving (envOf qual (Scope.mk sk sn sg sc sm) L' f cdv) e) (fun _ s'' => R (.error e) s'') (fun e' s'' => R (.error e') s'') s')
        { s with heap := h₁, toks := s.toks + binds.length })
    (hcell : ∀ x ∈ (Scope.mk sk sn sg sc sm).names, x.2 ≠ .cell) (hco : (Scope.mk sk sn sg sc sm).isCoroutine = false) (hgen : (Scope.mk sk sn sg sc sm).isGenerator = false) (hk : (Scope.mk sk sn sg sc sm).kind = .function) :
    codeAny (model PySem.Challenge.rw_om0137_02.row.prog w) A (.call (.ref f) args) R s := by
  have X := G.X.keeps kg.keep
  refine codeAny_call_def (fd := fnOf name qual (Arguments.mk q1 q2 q3 q4 q5 q6 q7) (b :: body) (Scope.mk sk sn sg sc sm) dV kV doc pm an cdv ct) (body := b :: body) (binds := binds) hroom (X _ _ ho) rfl (G.T.nolimit.keeps kg.keep) (codeRec_of X hcd) rfl hbind hcell (locs hloc) (fun h₁ hns hk₁ => ?_) hco hgen hk
  exact h s.heap.objs.size h₁ ⟨hns, fun b o e => hk₁ b o (kg.keep b o e), kg.size⟩
    (fun p hp => ⟨hk₁ _ _ (N p hp).1, Nat.ne_of_lt (Heap.lt_size (N p hp).1), (N p hp).2⟩) (fun p hp => Heap.lt_size (N p hp).1)

theorem pushY (B : Below A₀ base outer h₀) (F : Fr h₀ L s.heap m) (N : News h₀ L s.heap sub) (hA : A.frames = some (env :: outer)) (hf : env.frame = some L) (hke : env.scope.kind = .function)
    (X : (hd.heap_39 w.params).In h₀) (T : Top hd.view_39 lo mean mg mb h₀) : Gd w A base (env :: outer) mean mg mb (hideAll s.heap (sub.map (·.1))) ∧ Sub (hideAll s.heap (sub.map (·.1))) s.heap sub ∧ Ke (hideAll s.heap (sub.map (·.1))) s.heap ∧
      (∀ rest, News h₀ L s.heap rest → (∀ p ∈ rest, p.1 ∉ sub.map (·.1)) → ∀ h' sub', Ke (hideAll s.heap (sub.map (·.1))) h' → Sub (hideAll s.heap (sub.map (·.1))) h' sub' → Fr h₀ L h' m ∧ News h₀ L h' (sub' ++ rest)) := by
  obtain ⟨FG, BG, st, _⟩ := groundX (R := fun _ _ => True) B F N hA hf hke
  refine ⟨⟨BG, X.keeps st, T.keeps st⟩, fun p hp => ⟨(N p hp).1, hideAll_none _ (List.mem_map_of_mem hp)⟩, ⟨fun b o e => of_hideAll _ e, Nat.le_of_eq (hideAll_size _ _)⟩, ?_⟩
  intro rest NR hr h' sub' k' S'
  refine ⟨⟨FG.ns.keeps k'.keep, fun b o e => k'.keep b o (st b o e), F.above⟩, ?_⟩
  intro p hp
  rcases List.mem_append.mp hp with hp | hp
  · refine ⟨(S' p hp).1, fun q => ?_, ?_⟩
    · obtain ⟨oL, _, _, hL, _⟩ := FG.ns
      have := (S' p hp).2
      rw [q, hL] at this; cases this
    · cases q : h₀.get? p.1 with
      | none => rfl
      | some o => have := (S' p hp).2; rw [st _ _ q] at this; cases this
  · exact ⟨k'.keep _ _ (hideAll_get _ (NR p hp).1 (hr p hp)), (NR p hp).2.1, (NR p hp).2.2⟩
end
end Mine
end

section
open PySem PySem.W PyProof.Rows PySem.Calls
set_option Elab.async false
set_option maxRecDepth 100000
set_option maxHeartbeats 8000000
namespace Mine

theorem slice_one {buf : Str} {p : Nat} {j : Int} {c : Nat} {r : List Nat} (h : buf.cps.toList.drop p = c :: r) (hj : j = (p : Int) + 1) : Txt.slice buf (some (p : Int)) (some j) = ⟨#[c]⟩ := by
  have hl : p < buf.cps.toList.length := by
    have := congrArg List.length h
    rw [List.length_drop, List.length_cons] at this; omega
  have q := eq_of_beq (slice_closes (x := buf) (i := (p : Int)) (j := j) ⟨by omega, by omega, by omega⟩)
  rw [q, hj]
  have e1 : ((p : Int)).toNat = p := by omega
  have e2 : ((p : Int) + 1 - (p : Int)).toNat = 1 := by omega
  rw [e1, e2, h]; rfl
theorem drop_some {buf : Str} {p : Nat} (h : ¬ ((buf.length : Int) ≤ (p : Int))) : ∃ c r, buf.cps.toList.drop p = c :: r := by
  cases q : buf.cps.toList.drop p with
  | cons c r => exact ⟨c, r, rfl⟩
  | nil =>
    have := congrArg List.length q
    rw [List.length_drop, List.length_nil] at this
    have e : buf.length = buf.cps.toList.length := by simp [Str.length]
    omega
theorem drop_none {buf : Str} {p : Nat} (h : (buf.length : Int) ≤ (p : Int)) : buf.cps.toList.drop p = [] := by
  apply List.drop_eq_nil_of_le
  have e : buf.length = buf.cps.toList.length := by simp [Str.length]
  omega

noncomputable abbrev ioDict (h1 h2 h3 : Int) (t1 t2 t3 t4 t5 t6 : Nat) (buf : Str) (p : Int) : Obj := dictOf [⟨h1, .str "_StringIO__newline" t1, .str "\n" t2⟩, ⟨h2, .str "_StringIO__buf" t3, .str buf t4⟩, ⟨h3, .str "_StringIO__pos" t5, .int p t6⟩] 3

theorem read1 (w : World) {s : Shared} {A : Around} {base g : Heap} {fr : List Env} {mg mb : Str → Option Value} {mean : ExcName → Option Value} {io dio : Addr} {buf : Str} {p t1 t2 t3 t4 t5 t6 tk : Nat} {h1 h2 h3 : Int} {R : Result → Shared → Prop}
    (G : Gd w A base fr mean mg mb g) (hroom : A.depth + 4 < recursionLimit) (k : Ke g s.heap)
    (S : Sub g s.heap [(io, instObj 629 dio), (dio, ioDict h1 h2 h3 t1 t2 t3 t4 t5 t6 buf p)])
    (hne : io ≠ dio) (hp : p ≤ 1000) (hb : buf.length ≤ 1000)
    (hN : buf.cps.toList.drop p = [] → ∀ h' tk t', Ke g h' → Sub g h' [(io, instObj 629 dio), (dio, ioDict h1 h2 h3 t1 t2 t3 t4 t5 t6 buf p)] → R (.ok (.ret (.str (Str.ofString "") t'))) { s with heap := h', toks := tk })
    (hC : ∀ c r, buf.cps.toList.drop p = c :: r → ∀ h' tk t' t6', Ke g h' → Sub g h' [(io, instObj 629 dio), (dio, ioDict h1 h2 h3 t1 t2 t3 t4 t5 t6' buf ((p : Int) + 1))] → R (.ok (.ret (.str ⟨#[c]⟩ t'))) { s with heap := h', toks := tk }) :
    codeAny (model PySem.Challenge.rw_om0137_02.row.prog w) A (.call (.ref 575) ⟨[.ref io, .int 1 tk], []⟩) R s := by
  have X := G.X
  have hA := G.B.stack
  revert X
  k_fill
  intro X
  refine enterG (binds := [("self", .ref io), ("size", .int 1 tk)]) G S k (by k_is) (by k_is) (by omega) (binds_K (Frag.In.keeps X k.keep) rfl (by k_is) rfl rfl rfl) rfl ?_ (by decide) rfl rfl rfl
  intro L' h₁ F' N' hlt
  have B' := G.B
  have T' := G.T
  clear G S
  k_lt hlt
  (w_on; repeat' (first | (k_unfold; (try dsimp only)) | ((with_reducible show wpAny _ _ (call (Value.ref _) _ _) _ _ _); k_here; k_dflt (refine wpAny_call ?_; (refine' code_def ?k1 ?k2 ?k3 ?k4 ?k5 ?kA ?kF ?kK ?k6 ?k7 ?k8 ?k9 ?kB ?_ ?c2 ?c3 ?c4 ?c5; (case kA => first | exact Around.frames_deeper (by assumption) | exact Around.frames_deeper (Around.frames_deeper (by assumption)) | exact Around.frames_deeper (Around.frames_deeper (Around.frames_deeper (by assumption)))); (case kF => exact rfl); (case kK => exact rfl); (case k1 => k_asm); (case k2 => k_asm); (case k3 => k_asm); (case k4 => k_asm); (case k5 => k_asm); (case k6 => k_is); (case k7 => k_is); (case k8 => ((simp only [depth_under_make, depth_under_kw, depth_in1, depth_deeper]); (simp only [recursionLimit] at *); omega)); (case k9 => first | exact BindsTo.of_eq rfl | exact binds_K (by k_in) rfl (by k_is) rfl rfl rfl); (case c5 => decide); (case kB => exact locs rfl); (case c2 => exact rfl); (case c3 => exact rfl); (case c4 => exact rfl); k_whole; intro g' L' h' FG' F' N' B' X' T'; (try dsimp only); (try k_lift B'); (try k_fold)))) | walk1 | (dsimp only; (first | ((with_reducible show wpAny _ _ (call (Value.ref _) _ _) _ _ _); k_here; k_dflt (refine wpAny_call ?_; (refine' code_def ?k1 ?k2 ?k3 ?k4 ?k5 ?kA ?kF ?kK ?k6 ?k7 ?k8 ?k9 ?kB ?_ ?c2 ?c3 ?c4 ?c5; (case kA => first | exact Around.frames_deeper (by assumption) | exact Around.frames_deeper (Around.frames_deeper (by assumption)) | exact Around.frames_deeper (Around.frames_deeper (Around.frames_deeper (by assumption)))); (case kF => exact rfl); (case kK => exact rfl); (case k1 => k_asm); (case k2 => k_asm); (case k3 => k_asm); (case k4 => k_asm); (case k5 => k_asm); (case k6 => k_is); (case k7 => k_is); (case k8 => ((simp only [depth_under_make, depth_under_kw, depth_in1, depth_deeper]); (simp only [recursionLimit] at *); omega)); (case k9 => first | exact BindsTo.of_eq rfl | exact binds_K (by k_in) rfl (by k_is) rfl rfl rfl); (case c5 => decide); (case kB => exact locs rfl); (case c2 => exact rfl); (case c3 => exact rfl); (case c4 => exact rfl); k_whole; intro g' L' h' FG' F' N' B' X' T'; (try dsimp only); (try k_lift B'); (try k_fold)))) | walk1))))
  all_goals (try dsimp only)
  all_goals first
    | exact hN (drop_none (by omega)) _ _ _ (Ke.of_fr (by assumption)) (Sub.of_news (by assumption))
    | (obtain ⟨c, r, hq⟩ := drop_some (buf := buf) (p := p) (by omega)
       have hl : p + 1 ≤ buf.length := by omega
       rw [slice_one hq (by omega)]
       exact hC c r hq _ _ _ _ (Ke.of_fr (by assumption)) (Sub.of_news (by assumption)))
    | (obtain ⟨c, r, hq⟩ := drop_some (buf := buf) (p := p) (by omega)
       have hl : (buf.length : Int) = (p : Int) + 1 := by omega
       rw [slice_one hq (by omega)]
       (rename News _ _ _ _ => hNw)
       have hS := Sub.of_news hNw
       rw [hl] at hS
       exact hC c r hq _ _ _ _ (Ke.of_fr (by assumption)) hS)
end Mine
end

section
open PySem PySem.W PyProof.Rows PySem.Calls
set_option Elab.async false
set_option maxRecDepth 100000
set_option maxHeartbeats 8000000
namespace Mine

section
variable {w : World} {A₀ A : Around} {s : Shared} {base h₀ : Heap} {outer : List Env} {L : Addr} {m mg mb : Str → Option Value} {mean : ExcName → Option Value} {env : Env} {rest : List (Addr × Obj)}
  {E : Value → Shared → Prop} {Q : Value → Shared → Prop} {io dio : Addr} {buf : Str} {p t1 t2 t3 t4 t5 t6 tk : Nat} {h1 h2 h3 : Int}
/-- read(1) within a frame -/
theorem read_K (B : Below A₀ base outer h₀) (F : Fr h₀ L s.heap m) (X : (hd.heap_39 w.params).In h₀) (T : Top hd.view_39 lo mean mg mb h₀)
    (N : News h₀ L s.heap ((io, instObj 629 dio) :: (dio, ioDict h1 h2 h3 t1 t2 t3 t4 t5 t6 buf p) :: rest))
    (hA : A.frames = some (env :: outer)) (hf : env.frame = some L) (hke : env.scope.kind = .function) (hroom : A.depth + 4 < recursionLimit)
    (hne : io ≠ dio) (hr : ∀ p ∈ rest, p.1 ≠ io) (hr2 : ∀ p ∈ rest, p.1 ≠ dio) (hp : p ≤ 1000) (hb : buf.length ≤ 1000)
    (hN : buf.cps.toList.drop p = [] → ∀ h' tk t', Fr h₀ L h' m → News h₀ L h' ((io, instObj 629 dio) :: (dio, ioDict h1 h2 h3 t1 t2 t3 t4 t5 t6 buf p) :: rest) → Q (.str (Str.ofString "") t') { s with heap := h', toks := tk })
    (hC : ∀ c r, buf.cps.toList.drop p = c :: r → ∀ h' tk t' t6', Fr h₀ L h' m → News h₀ L h' ((io, instObj 629 dio) :: (dio, ioDict h1 h2 h3 t1 t2 t3 t4 t5 t6' buf ((p : Int) + 1)) :: rest) → Q (.str ⟨#[c]⟩ t') { s with heap := h', toks := tk }) :
    wpAny (model PySem.Challenge.rw_om0137_02.row.prog w) A (call (.ref 575) [.ref io, .int 1 tk] []) Q E s := by
  have NS : News h₀ L s.heap [(io, instObj 629 dio), (dio, ioDict h1 h2 h3 t1 t2 t3 t4 t5 t6 buf p)] := fun q hq => N q (by
    rcases List.mem_cons.mp hq with rfl | hq
    · exact .head _
    · rcases List.mem_cons.mp hq with rfl | hq
      · exact .tail _ (.head _)
      · cases hq)
  have NR : News h₀ L s.heap rest := fun q hq => N q (.tail _ (.tail _ hq))
  obtain ⟨G, S, k, back⟩ := pushY B F NS hA hf hke X T
  have hd : ∀ q ∈ rest, q.1 ∉ List.map (fun x : Addr × Obj => x.1) [(io, instObj 629 dio), (dio, ioDict h1 h2 h3 t1 t2 t3 t4 t5 t6 buf p)] := fun q hq hm => by
    simp only [List.map_cons, List.map_nil, List.mem_cons, List.not_mem_nil, or_false] at hm
    rcases hm with e | e
    · exact hr q hq e
    · exact hr2 q hq e
  refine wpAny_call (read1 w G hroom k S hne hp hb (fun e h' tk t' k' S' => ?_) fun c r e h' tk t' t6' k' S' => ?_)
  · obtain ⟨F', N'⟩ := back rest NR hd h' _ k' S'
    exact hN e h' tk t' F' N'
  · obtain ⟨F', N'⟩ := back rest NR hd h' _ k' S'
    exact hC c r e h' tk t' t6' F' N'
end
end Mine
end

section
open PySem PySem.W PyProof.Rows PySem.Calls
set_option Elab.async false
set_option maxRecDepth 100000
set_option maxHeartbeats 4000000
namespace Mine
/-- a value, as a small evaluator sees it -/
inductive V where
  | none
  | bool (b : Bool)
  | str (x : List Nat)
  | acc (ne : Bool) (l : List Nat)
  | row (d : Nat)
  | int (i : Int)
  | whites (c : Nat) (b : Bool)
  | obj (k : Nat)
  deriving DecidableEq
inductive Fl where
  | next | brk | cont | ret (v : V) | exc
  deriving DecidableEq
/-- the state of the small evaluator -/
structure MS where
  pc : Bool
  ls : List Str
  loc : List (Str × V)
  fld : List (Str × V)
noncomputable abbrev sL (x : Str) : List Nat := x.cps.toList
noncomputable def eqS (x y : Str) : Bool := sL x == sL y
noncomputable def lookS (x : Str) : List (Str × V) → Option V
  | [] => none
  | (y, v) :: r => if eqS y x then some v else lookS x r
noncomputable def setS (x : Str) (v : V) : List (Str × V) → List (Str × V)
  | [] => []
  | (y, u) :: r => if eqS y x then (y, v) :: r else (y, u) :: setS x v r
noncomputable def truth : V → Option Bool
  | .none => some false
  | .bool b => some b
  | .str x => if x.length ≤ 50 then some (!x.isEmpty) else none
  | .acc ne l => if l.length ≤ 100 then some (ne || !l.isEmpty) else none
  | .int i => some (i != 0)
  | _ => none
noncomputable def getStr : V → Option (List Nat)
  | .str x => some x
  | _ => none
noncomputable def getInt : V → Option Int
  | .int i => some i
  | _ => none
noncomputable def isN : V → Bool
  | .none => true
  | _ => false
noncomputable def getOne : List Nat → Option Nat
  | [c] => some c
  | _ => none
noncomputable def cEq (a b : V) : Option Bool := match a with
  | .str x => (getStr b).map fun y => x == y
  | .acc ne l => if isN b then some false else (getStr b).bind fun y => if y.isEmpty then some (!(ne || !l.isEmpty)) else none
  | .none => if isN b then some true else none
  | _ => none
noncomputable def cIn (y : List Nat) (b : V) : Option Bool := match b with
  | .str x => (getOne y).map fun c => x.contains c
  | .whites c w => if y == [c] then some w else none
  | _ => none
noncomputable def cmp (op : CmpOp) (a b : V) : Option Bool := match op with
  | .Eq => cEq a b
  | .NotEq => (getStr a).bind fun x => (getStr b).map fun y => !(x == y)
  | .Is => if isN b then (if isN a then some true else (getStr a).map fun _ => false) else none
  | .IsNot => if isN b && isN a then some false else none
  | .GtE => (getInt a).bind fun x => (getInt b).map fun y => decide (y ≤ x)
  | .Gt => (getInt a).bind fun x => (getInt b).map fun y => decide (y < x)
  | .In => (getStr a).bind fun y => cIn y b
  | .NotIn => (getStr a).bind fun y => (getStr b).bind fun x => (getOne y).map fun c => !x.contains c
  | _ => none
theorem getStr_elim {v : V} {x : List Nat} (h : getStr v = some x) : v = .str x := by
  unfold getStr at h
  split at h
  · rw [Option.some.inj h]
  · cases h
theorem getInt_elim {v : V} {i : Int} (h : getInt v = some i) : v = .int i := by
  unfold getInt at h
  split at h
  · rw [Option.some.inj h]
  · cases h
theorem isN_elim {v : V} (h : isN v = true) : v = .none := by
  unfold isN at h
  split at h
  · rfl
  · cases h
theorem getOne_elim {l : List Nat} {c : Nat} (h : getOne l = some c) : l = [c] := by
  unfold getOne at h
  split at h
  · rw [Option.some.inj h]
  · cases h
noncomputable def plus : V → V → Option V
  | .acc ne l, .str y => if l.length ≤ 50 && y.length ≤ 50 then some (.acc ne (l ++ y)) else none
  | .str x, .str y => if x.length ≤ 50 && y.length ≤ 50 then some (.str (x ++ y)) else none
  | .row d, .int i => if i == 1 then some (.row (d + 1)) else none
  | _, _ => none
noncomputable def evE (μ : MS) : Expr → Option V
  | .Name x _ => if μ.ls.any (eqS x) then lookS x μ.loc else none
  | .Constant (.str x) _ _ => some (.str (sL x))
  | .Constant (.int i) _ _ => some (.int i)
  | .Constant .none _ _ => some .none
  | .Constant (.bool b) _ _ => some (.bool b)
  | .Attribute (.Name o _) f _ => if eqS o "self" then (if eqS f "punctuation_chars" then (if μ.pc = true ∧ lookS "_punctuation_chars" μ.fld = some (.str []) then some (.str []) else none) else lookS f μ.fld) else none
  | _ => none
noncomputable def strC : Expr → Option Str
  | .Constant c _ _ => match c with
    | .str x => some x
    | _ => none
  | _ => none
noncomputable def strsOf : List Expr → Option (List Str)
  | [] => some []
  | e :: r => (strC e).bind fun x => (strsOf r).map (x :: ·)
noncomputable def isTup : Expr → Option (List Expr)
  | .Tuple es _ _ => some es
  | _ => none
noncomputable def evC (μ : MS) (l : Expr) (op : CmpOp) (r : Expr) : Option Bool := match isTup r with
  | some es => if op = .In then (match evE μ l with
    | some (.str y) => (strsOf es).bind fun ys => if ys.length ≤ 100 then some (ys.any fun x => sL x == y) else none
    | _ => none) else none
  | none => (evE μ l).bind fun a => (evE μ r).bind fun b => cmp op a b
noncomputable def evT : Nat → MS → Expr → Option Bool
  | 0, _, _ => none
  | n + 1, μ, e => match e with
    | .Compare l ops rs _ => match ops with
      | [op] => match rs with
        | [r] => evC μ l op r
        | _ => none
      | _ => none
    | .BoolOp op xs p => match xs with
      | [] => some (op == .And)
      | x :: r => (evT n μ x).bind fun b => if b == (op == .And) then evT n μ (.BoolOp op r p) else some b
    | .UnaryOp op x _ => if op = .Not then (evT n μ x).map (!·) else none
    | .Name x p => (evE μ (.Name x p)).bind truth
    | .Attribute o f p => (evE μ (.Attribute o f p)).bind truth
    | _ => none
noncomputable def isSelf : Expr → Bool
  | .Name o _ => eqS o "self"
  | _ => false
noncomputable def okF (μ : MS) (o : Expr) (f : Str) : Bool := isSelf o && !eqS f "punctuation_chars" && (lookS f μ.fld).isSome
noncomputable def isVE : Expr → Bool
  | .Call (.Name x _) [.Constant (.str _) _ _] [] _ => eqS x "ValueError"
  | _ => false
noncomputable def exA (μ : MS) : Stmt → Option (Fl × MS)
  | .Assign ts e _ => match ts with
    | [.Name x _] => if μ.ls.any (eqS x) then (evE μ e).map fun v => (.next, { μ with loc := (x, v) :: μ.loc }) else none
    | [.Attribute o f _] => if okF μ o f then (evE μ e).map fun v => (.next, { μ with fld := setS f v μ.fld }) else none
    | _ => none
  | .AugAssign t op e _ => if op = .Add then (match t with
    | .Attribute o f _ => if okF μ o f then (lookS f μ.fld).bind fun u => (evE μ e).bind fun v => (plus u v).map fun z => (.next, { μ with fld := setS f z μ.fld }) else none
    | .Name x _ => if μ.ls.any (eqS x) then (lookS x μ.loc).bind fun u => (evE μ e).bind fun v => (plus u v).map fun z => (.next, { μ with loc := (x, z) :: μ.loc }) else none
    | _ => none) else none
  | .Break _ => some (.brk, μ)
  | .Continue _ => some (.cont, μ)
  | .Return v _ => v.bind fun e => (evE μ e).map fun v => (.ret v, μ)
  | .Raise x c _ => match c with
    | none => x.bind fun e => if isVE e && μ.pc then some (.exc, μ) else none
    | some _ => none
  | _ => none
noncomputable def exS : Nat → MS → List Stmt → Option (Fl × MS)
  | 0, _, _ => none
  | n + 1, μ, l => match l with
    | [] => some (.next, μ)
    | st :: rest => match (match st with
        | .If t b o _ => (evT n μ t).bind fun c => exS n μ (if c then b else o)
        | st => exA μ st) with
      | some (.next, μ') => exS n μ' rest
      | r => r
end Mine
end

section
open PySem PySem.W PyProof.Rows PySem.Calls
set_option Elab.async false
set_option maxRecDepth 100000
set_option maxHeartbeats 4000000
namespace Mine
/-- y stands in x -/
@[irreducible] def has (x y : Str) : Bool := !(Builtin.Str.occurrences x y 0 x.length 1).isEmpty
noncomputable abbrev sg (c : Nat) : Str := ⟨#[c]⟩
noncomputable abbrev ofL (l : List Nat) : Str := ⟨l.toArray⟩
theorem has_one (x : Str) (c : Nat) : has x (sg c) = x.cps.toList.contains c := by
  unfold has
  rw [StrLaws.found_one x c]
  simp
theorem eqS_iff {x y : Str} : eqS x y = true ↔ x = y := by
  unfold eqS sL
  rw [toList_beq]
  exact beq_iff_eq
theorem in_has {prog : Program} {w : World} {A : Around} {E : Value → Shared → Prop} {s : Shared} {x y : Str} {t u : Tok} {Q : Value → Shared → Prop} (h : Q (.bool (has x y)) s) : wpAny (model prog w) A (compareOp .In (.str y u) (.str x t)) Q E s := by
  unfold has at h
  exact in_str h
theorem notin_has {prog : Program} {w : World} {A : Around} {E : Value → Shared → Prop} {s : Shared} {x y : Str} {t u : Tok} {Q : Value → Shared → Prop} (h : Q (.bool (!has x y)) s) : wpAny (model prog w) A (compareOp .NotIn (.str y u) (.str x t)) Q E s := by
  unfold has at h
  exact PyProof.Rows.notIn_str h
theorem sL_ofL (l : List Nat) : sL (ofL l) = l := rfl
theorem ofL_sL (x : Str) : ofL (sL x) = x := by cases x with | mk a => cases a; rfl
structure Cx where
  prog : Program
  w : World
  A : Around
  env : Env
  K : Frag
  g : Heap
  L : Addr
  s0 : Shared
  x : Addr
  dx : Addr
  C : Addr
  n : Nat
  led : List (Addr × Obj)
  T0 : Str
  ln0 : Int
  W : Str
  refs : Nat → Value
noncomputable def Rep (Γ : Cx) : V → Value → Prop
  | .none, v => v = .none
  | .bool b, v => v = .bool b
  | .str x, v => ∃ t, v = .str (ofL x) t
  | .acc ne l, v => ne = (Γ.T0.length != 0) ∧ ∃ t, v = .str (Γ.T0 ++ ofL l) t
  | .row d, v => ∃ t, v = .int (Γ.ln0 + d) t
  | .int i, v => ∃ t, v = .int i t
  | .whites c b, v => has Γ.W (sg c) = b ∧ ∃ t, v = .str Γ.W t
  | .obj k, v => v = Γ.refs k ∧ handedIn (Γ.refs k) = true
noncomputable def LocRep (Γ : Cx) (loc : List (Str × V)) (m : Str → Option Value) : Prop := ∀ x v, lookS x loc = some v → ∃ u, m x = some u ∧ Rep Γ v u
inductive FldRep (Γ : Cx) : List (Str × V) → List DictEntry → Prop
  | nil : FldRep Γ [] []
  | cons {f v r h t u es} : Rep Γ v u → FldRep Γ r es → FldRep Γ ((f, v) :: r) (⟨h, .str f t, u⟩ :: es)
structure Rel (Γ : Cx) (μ : MS) (s : Shared) : Prop where
  ex : ∃ h tk m es, s = { Γ.s0 with heap := h, toks := tk } ∧ Fr Γ.g Γ.L h m ∧ LocRep Γ μ.loc m ∧ m (Str.ofString "self") = some (.ref Γ.x) ∧ FldRep Γ μ.fld es ∧ News Γ.g Γ.L h ((Γ.x, instObj Γ.C Γ.dx) :: (Γ.dx, dictOf es Γ.n) :: Γ.led)
/-- what the small evaluator takes for granted -/
structure Ok (Γ : Cx) (pc : Bool) (ls : List Str) (names : List Str) : Prop where
  X : Γ.K.In Γ.g
  kind : Γ.env.scope.kind = .function
  locals : Γ.env.locals = Γ.L
  isLoc : ∀ x, ls.any (eqS x) = true → Γ.env.kindOf x = some .local ∧ (x == ("__debug__" : Str)) = false ∧ x ≠ Str.ofString "self"
  self : Γ.env.kindOf (Str.ofString "self") = some .local
  apart : Γ.x ≠ Γ.dx ∧ ∀ p ∈ Γ.led, p.1 ≠ Γ.dx
  plain : ∀ name, plainGet Γ.K Γ.C name = true
  dict : hasDictIn Γ.K Γ.C = true
  find : ∀ f, names.any (eqS f) = true → ∃ a, findIn Γ.K (.ref Γ.C) f = some a ∧ noGet Γ.K a = true
  setter : findIn Γ.K (.ref Γ.C) "__setattr__" = some (some (.builtin "object.__setattr__"))
  over : plainOver Γ.K Γ.C = true
  taker : ∀ f, names.any (eqS f) = true → takerIn Γ.K Γ.C f = some none
  small : Γ.T0.length ≤ 3000
  prop : pc = true → ∀ μ s (Q : Value → Shared → Prop) (E : Value → Shared → Prop), lookS "_punctuation_chars" μ.fld = some (.str []) → Rel Γ μ s → (∀ t s', Rel Γ μ s' → Q (.str (Str.ofString "") t) s') → wpAny (model Γ.prog Γ.w) Γ.A (getAttr (.ref Γ.x) "punctuation_chars" true) Q E s
  valErr : pc = true → ∀ s (pos : Pos) (Q : Value → Shared → Prop) (E : Value → Shared → Prop) μ, Rel Γ μ s → (∀ s', Rel Γ μ s' → Q (.type "ValueError") s') → wpAny (model Γ.prog Γ.w) Γ.A (eval (.Name (Str.ofString "ValueError") pos) Γ.env) Q E s
section
variable {Γ : Cx} {pc : Bool} {ls names : List Str} {μ : MS} {E : Value → Shared → Prop} {s : Shared}
theorem getL_of {f : Str} {v : V} : ∀ {fld : List (Str × V)} {es : List DictEntry}, FldRep Γ fld es → lookS f fld = some v → ∃ u, getL f es = some (some u) ∧ Rep Γ v u
  | _, _, .nil, h => nomatch h
  | _, _, .cons (f := y) (v := v') (r := r) (h := hh) (t := t) (u := u) (es := es) hr R, h => by
    unfold lookS at h
    by_cases q : eqS y f = true
    · rw [if_pos q] at h
      obtain rfl := eqS_iff.mp q
      obtain rfl := Option.some.inj h
      refine ⟨u, ?_, hr⟩
      unfold getL
      rw [List.find?_cons_of_pos (by simp [Value.isStr])]
    · rw [if_neg q] at h
      obtain ⟨u', e, r'⟩ := getL_of R h
      refine ⟨u', ?_, r'⟩
      have ne : ¬ (Value.isStr (.str y t) f = true) := fun e => q (eqS_iff.mpr (by simpa [Value.isStr] using e))
      unfold getL at e ⊢
      rw [List.find?_cons_of_neg (by simpa using ne)]
      revert e
      cases es.find? (fun x => x.key.isStr f) with
      | some _ => exact id
      | none =>
        intro e
        dsimp only at e
        split at e <;> cases e
theorem putL_of {f : Str} {v : V} {hsh : Int} {key val : Value} (hv : Rep Γ v val) : ∀ {fld : List (Str × V)} {es : List DictEntry}, FldRep Γ fld es → (lookS f fld).isSome = true → FldRep Γ (setS f v fld) (putL f hsh key val es) ∧ (∀ n, putN f es n = n)
  | _, _, .nil, h => nomatch h
  | _, _, .cons (f := y) (v := v') (r := r) (h := hh) (t := t) (u := u) (es := es) hr R, h => by
    unfold lookS at h
    by_cases q : eqS y f = true
    · obtain rfl := eqS_iff.mp q
      have c1 : Value.isStr (.str y t) y = true := by simp [Value.isStr]
      refine ⟨?_, fun n => ?_⟩
      · unfold setS putL
        rw [if_pos q, if_pos c1]
        exact .cons hv R
      · unfold putN
        rw [if_pos (by simp [c1])]
    · rw [if_neg q] at h
      obtain ⟨a, b⟩ := putL_of (hsh := hsh) (key := key) hv R h
      have ne : ¬ (Value.isStr (.str y t) f = true) := fun e => q (eqS_iff.mpr (by simpa [Value.isStr] using e))
      refine ⟨?_, fun n => ?_⟩
      · unfold setS putL
        rw [if_neg q, if_neg ne]
        exact .cons hr a
      · have := b n
        unfold putN at this ⊢
        rw [List.any_cons]
        dsimp only
        rw [Bool.eq_false_iff.mpr ne, Bool.false_or]
        exact this
theorem FldRep.length {fld : List (Str × V)} {es : List DictEntry} (h : FldRep Γ fld es) : es.length = fld.length := by
  induction h with
  | nil => rfl
  | cons _ _ ih => simp [ih]
theorem handed {v : V} {u : Value} (h : Rep Γ v u) : handedIn u = true := by
  cases v <;> simp only [Rep] at h
  · subst h; rfl
  · subst h; rfl
  · obtain ⟨t, rfl⟩ := h; rfl
  · obtain ⟨_, t, rfl⟩ := h; rfl
  · obtain ⟨t, rfl⟩ := h; rfl
  · obtain ⟨t, rfl⟩ := h; rfl
  · obtain ⟨_, t, rfl⟩ := h; rfl
  · obtain ⟨rfl, t⟩ := h; exact t
theorem LocRep.set {loc : List (Str × V)} {m : Str → Option Value} {x : Str} {v : V} {u : Value} (h : LocRep Γ loc m) (r : Rep Γ v u) : LocRep Γ ((x, v) :: loc) (fun y => if y = x then some u else m y) := by
  intro y v' e
  unfold lookS at e
  by_cases q : eqS x y = true
  · rw [if_pos q] at e
    obtain rfl := eqS_iff.mp q
    obtain rfl := Option.some.inj e
    exact ⟨u, by simp, r⟩
  · rw [if_neg q] at e
    obtain ⟨u', e', r'⟩ := h y v' e
    exact ⟨u', by show (if y = x then some u else m y) = some u'; rw [if_neg (fun z => q (eqS_iff.mpr z.symm))]; exact e', r'⟩
theorem Rel.toks {tk : Nat} {s : Shared} (h : Rel Γ μ s) : Rel Γ μ { s with toks := tk } := by
  obtain ⟨h, tk', m, es, rfl, r⟩ := h
  exact ⟨h, tk, m, es, rfl, r⟩
theorem Rel.push {s : Shared} {o : Obj} (h : Rel Γ μ s) (ho : o.isFreed = false) : Rel Γ μ { s with heap := s.heap.push o } := by
  obtain ⟨h, tk', m, es, rfl, F, l, sf, f, N⟩ := h
  exact ⟨_, tk', m, es, rfl, F.push o, l, sf, f, fun p hp => N.push F o ho p (.tail _ hp)⟩

theorem self_ok (O : Ok Γ pc ls names) {pos : Pos} {Q : Value → Shared → Prop} (R : Rel Γ μ s) (h : Q (.ref Γ.x) s) : wpAny (model Γ.prog Γ.w) Γ.A (eval (.Name (Str.ofString "self") pos) Γ.env) Q E s := by
  obtain ⟨h, tk, m, es, rfl, F, l, sf, f, N⟩ := R
  exact wpAny_Name (wpAny_loadName_local O.kind O.self (by rw [O.locals]; exact F.ns) sf (by assumption))
theorem get_ok (O : Ok Γ pc ls names) {f : Str} {v : V} {Q : Value → Shared → Prop} (R : Rel Γ μ s) (hn : ∀ f v, lookS f μ.fld = some v → names.any (eqS f) = true) (e : lookS f μ.fld = some v) (h : ∀ u s', Rep Γ v u → Rel Γ μ s' → Q u s') :
    wpAny (model Γ.prog Γ.w) Γ.A (getAttr (.ref Γ.x) f true) Q E s := by
  have R' := R
  obtain ⟨hp, tk, m, es, rfl, F, l, sf, fr, N⟩ := R
  obtain ⟨u, eu, ru⟩ := getL_of fr e
  obtain ⟨a, ha, hg⟩ := O.find f (hn f v e)
  exact get_own F O.X (InstAt.of_news N (.head _) (.tail _ (.head _))) (O.plain f) O.dict ha hg eu (handed ru) (h u _ ru R'.toks)
theorem upd_one {x dx : Addr} {o od od' : Obj} {led : List (Addr × Obj)} (h1 : x ≠ dx) (h2 : ∀ p ∈ led, p.1 ≠ dx) : Upd dx od od' ((x, o) :: (dx, od) :: led) ((x, o) :: (dx, od') :: led) := .tail h1 (.head h2)
theorem set_ok (O : Ok Γ pc ls names) {f : Str} {v : V} {u : Value} {Q : Unit → Shared → Prop} (R : Rel Γ μ s) (hn : ∀ f v, lookS f μ.fld = some v → names.any (eqS f) = true) (hl : μ.fld.length ≤ 100) (e : (lookS f μ.fld).isSome = true) (r : Rep Γ v u) (h : ∀ s', Rel Γ { μ with fld := setS f v μ.fld } s' → Q () s') :
    wpAny (model Γ.prog Γ.w) Γ.A (setAttr (.ref Γ.x) f u) Q E s := by
  obtain ⟨hp, tk, m, es, rfl, F, l, sf, fr, N⟩ := R
  obtain ⟨v0, e0⟩ := Option.isSome_iff_exists.mp e
  obtain ⟨u0, eu, ru⟩ := getL_of fr e0
  obtain ⟨a, b⟩ := putL_of (f := f) (hsh := PyData.keyHash Γ.w.params f) (key := .str f (tk + 1)) r fr e
  have hlen := a.length
  have hsl : ∀ l : List (Str × V), (setS f v l).length = l.length := fun l => by
    induction l with
    | nil => rfl
    | cons p l ih => unfold setS; split <;> simp [ih]
  exact set_dict (es := es) (n := Γ.n) (dx := Γ.dx) F O.X N (InstAt.of_news N (.head _) (.tail _ (.head _))) rfl O.setter O.over (O.taker f (hn f v0 e0)) O.dict (by rw [eu]; rfl) (by rw [b]) (upd_one O.apart.1 O.apart.2) (by rw [hlen, hsl]; omega)
    (fun h' F' N' => h _ ⟨h', _, m, _, rfl, F', l, sf, a, N'⟩)
end
end Mine
end

section
open PySem PySem.W PyProof.Rows PySem.Calls
set_option Elab.async false
set_option maxRecDepth 100000
set_option maxHeartbeats 4000000
namespace Mine
noncomputable def NamesOk (μ : MS) (ls names : List Str) : Prop := μ.ls = ls ∧ (∀ f v, lookS f μ.fld = some v → names.any (eqS f) = true) ∧ μ.fld.length ≤ 100
section
variable {Γ : Cx} {pc : Bool} {ls names : List Str} {μ : MS} {E : Value → Shared → Prop} {s : Shared}
theorem evE_ok (O : Ok Γ pc ls names) (hpc : μ.pc = pc) (HN : NamesOk μ ls names) {e : Expr} {v : V} {Q : Value → Shared → Prop} (h : evE μ e = some v) (R : Rel Γ μ s) (q : ∀ u s', Rep Γ v u → Rel Γ μ s' → Q u s') :
    wpAny (model Γ.prog Γ.w) Γ.A (eval e Γ.env) Q E s := by
  unfold evE at h
  split at h
  · rename_i x pos
    split at h
    · rename_i hx
      rw [HN.1] at hx
      obtain ⟨a, b, _⟩ := O.isLoc x hx
      have R' := R
      obtain ⟨hp, tk, m, es, rfl, F, l, sf, fr, N⟩ := R
      obtain ⟨u, eu, ru⟩ := l x v h
      exact wpAny_Name (wpAny_loadName_local O.kind a (by rw [O.locals]; exact F.ns) eu (q u _ ru R')) b
    · cases h
  · cases h
    exact wpAny_Constant_str (q _ _ ⟨_, by rw [ofL_sL]⟩ R.toks)
  · cases h
    exact wpAny_Constant_int (q _ _ ⟨_, rfl⟩ R.toks)
  · cases h
    exact wpAny_Constant_none (q _ _ rfl R)
  · cases h
    exact wpAny_Constant_bool (q _ _ rfl R)
  · rename_i o op f pos
    split at h
    · rename_i ho
      obtain rfl := eqS_iff.mp ho
      split at h
      · rename_i hf
        obtain rfl := eqS_iff.mp hf
        split at h
        · rename_i hp
          cases h
          exact Attribute_Name_ (self_ok O R (O.prop (hpc ▸ hp.1) μ _ Q E hp.2 R fun t s' R' => q _ s' ⟨t, rfl⟩ R'))
        · cases h
      · exact Attribute_Name_ (self_ok O R (get_ok O R HN.2.1 h q))
    · cases h
  · cases h
theorem truth_ok (O : Ok Γ pc ls names) {v : V} {u : Value} {b : Bool} {Q : Bool → Shared → Prop} (h : truth v = some b) (r : Rep Γ v u) (R : Rel Γ μ s) (q : ∀ s', Rel Γ μ s' → Q b s') : wpAny (model Γ.prog Γ.w) Γ.A (truthy u) Q E s := by
  cases v <;> simp only [truth, Option.some.injEq, reduceCtorEq] at h <;> simp only [Rep] at r
  · subst h r; exact truthy_none (q _ R)
  · subst h r; exact wpAny_truthy_bool (q _ R)
  · rename_i x
    obtain ⟨t, rfl⟩ := r
    split at h
    · rename_i hl
      refine PySem.P.truthy_str (by have : (ofL x).length = x.length := List.size_toArray ..; omega) ?_
      have e : ((((ofL x).length : Nat) : Int) != 0) = b := by
        rw [← Option.some.inj h]
        cases x with
        | nil => rfl
        | cons a l =>
          show ((((a :: l).toArray.size : Nat) : Int) != 0) = true
          rw [List.size_toArray, List.length_cons]
          exact bne_iff_ne.mpr (by omega)
      rw [e]
      exact q _ R.toks
    · cases h
  · rename_i ne l
    obtain ⟨rfl, t, rfl⟩ := r
    have hs := O.small
    have hL : (Γ.T0 ++ ofL l).length = Γ.T0.length + l.length := by
      rw [Str.length_append]; congr 1
    split at h
    · refine PySem.P.truthy_str (by omega) ?_
      have e : ((((Γ.T0 ++ ofL l).length : Nat) : Int) != 0) = b := by
        rw [← Option.some.inj h, hL]
        cases l with
        | nil =>
          simp only [List.length_nil, Nat.add_zero, List.isEmpty_nil, Bool.not_true, Bool.or_false]
          rw [Bool.eq_iff_iff, bne_iff_ne, bne_iff_ne]
          omega
        | cons a l =>
          simp only [List.isEmpty_cons, Bool.not_false, Bool.or_true, List.length_cons]
          exact bne_iff_ne.mpr (by omega)
      rw [e]
      exact q _ R.toks
    · cases h
  · obtain ⟨t, rfl⟩ := r
    subst h
    exact PyProof.Rows.truthy_int (q _ R)
theorem cmp_ok (O : Ok Γ pc ls names) {op : CmpOp} {a b : V} {u v : Value} {c : Bool} {Q : Value → Shared → Prop} (h : cmp op a b = some c) (ra : Rep Γ a u) (rb : Rep Γ b v) (R : Rel Γ μ s) (q : ∀ s', Rel Γ μ s' → Q (.bool c) s') : wpAny (model Γ.prog Γ.w) Γ.A (compareOp op u v) Q E s := by
  unfold cmp at h
  split at h
  · unfold cEq at h
    split at h
    · rw [Option.map_eq_some_iff] at h; obtain ⟨y, hy, h⟩ := h
      obtain rfl := getStr_elim hy
      obtain ⟨t, rfl⟩ := ra
      obtain ⟨t', rfl⟩ := rb
      refine PyProof.Rows.eq_str ?_
      rw [← toList_beq]
      rw [h]
      exact q _ R
    · rename_i ne l
      obtain ⟨rfl, t, rfl⟩ := ra
      split at h
      · rename_i hb
        obtain rfl := isN_elim hb
        cases rb; cases h; exact PySem.EqNone.eq_str_none (q _ R)
      · rw [Option.bind_eq_some_iff] at h; obtain ⟨y, hy, h⟩ := h
        obtain rfl := getStr_elim hy
        obtain ⟨t', rfl⟩ := rb
        split at h
        · rename_i hy
          obtain rfl := List.isEmpty_iff.mp hy
          refine PyProof.Rows.eq_str ?_
          have e : ((Γ.T0 ++ ofL l) == ofL []) = c := by
            rw [← Option.some.inj h, Bool.eq_iff_iff, beq_iff_eq]
            have hL : (Γ.T0 ++ ofL l).length = Γ.T0.length + l.length := by
              rw [Str.length_append]; congr 1
            constructor
            · intro q
              rw [q] at hL
              have h0 : (ofL []).length = 0 := rfl
              rw [h0] at hL
              have e1 : Γ.T0.length = 0 := by omega
              have e2 : l = [] := List.length_eq_zero_iff.mp (by omega)
              subst e2
              simp [e1]
            · intro q
              simp only [Bool.not_eq_true', Bool.or_eq_false_iff, Bool.not_eq_false', List.isEmpty_iff] at q
              obtain ⟨q1, rfl⟩ := q
              have e1 : Γ.T0.length = 0 := by simpa using q1
              have : Γ.T0 = ofL [] := by
                cases hT : Γ.T0 with
                | mk a =>
                  rw [hT] at e1
                  have : a.size = 0 := e1
                  rw [Array.size_eq_zero_iff.mp this]
              rw [this]; rfl
          rw [e]
          exact q _ R
        · cases h
    · split at h
      · rename_i hb
        obtain rfl := isN_elim hb
        cases ra; cases rb; cases h; exact PySem.EqNone.eq_none_none (q _ R)
      · cases h
    · cases h
  · rw [Option.bind_eq_some_iff] at h; obtain ⟨x, hx, h⟩ := h
    rw [Option.map_eq_some_iff] at h; obtain ⟨y, hy, h⟩ := h
    obtain rfl := getStr_elim hx
    obtain rfl := getStr_elim hy
    obtain ⟨t, rfl⟩ := ra
    obtain ⟨t', rfl⟩ := rb
    refine PyProof.Rows.ne_str ?_
    rw [← toList_bne]
    simp only [bne]
    rw [h]
    exact q _ R
  · split at h
    · rename_i hb
      obtain rfl := isN_elim hb
      cases rb
      split at h
      · rename_i ha
        obtain rfl := isN_elim ha
        cases ra; cases h; exact is_none_none (q _ R)
      · rw [Option.map_eq_some_iff] at h; obtain ⟨x, hx, h⟩ := h
        obtain rfl := getStr_elim hx
        obtain ⟨t, rfl⟩ := ra
        cases h; exact is_none_ne (by intro e; cases e) (q _ R)
    · cases h
  · split at h
    · rename_i hb
      rw [Bool.and_eq_true] at hb
      obtain rfl := isN_elim hb.1
      obtain rfl := isN_elim hb.2
      cases ra; cases rb; cases h; exact isNot_none (q _ R)
    · cases h
  · rw [Option.bind_eq_some_iff] at h; obtain ⟨x, hx, h⟩ := h
    rw [Option.map_eq_some_iff] at h; obtain ⟨y, hy, h⟩ := h
    obtain rfl := getInt_elim hx
    obtain rfl := getInt_elim hy
    obtain ⟨t, rfl⟩ := ra
    obtain ⟨t', rfl⟩ := rb
    cases h
    exact PyProof.Rows.ge_int (q _ R)
  · rw [Option.bind_eq_some_iff] at h; obtain ⟨x, hx, h⟩ := h
    rw [Option.map_eq_some_iff] at h; obtain ⟨y, hy, h⟩ := h
    obtain rfl := getInt_elim hx
    obtain rfl := getInt_elim hy
    obtain ⟨t, rfl⟩ := ra
    obtain ⟨t', rfl⟩ := rb
    cases h
    exact PyProof.Rows.gt_int (q _ R)
  · rw [Option.bind_eq_some_iff] at h; obtain ⟨y, hy, h⟩ := h
    obtain rfl := getStr_elim hy
    obtain ⟨t, rfl⟩ := ra
    unfold cIn at h
    split at h
    · obtain ⟨t', rfl⟩ := rb
      rw [Option.map_eq_some_iff] at h; obtain ⟨c, hc, h⟩ := h
      obtain rfl := getOne_elim hc
      refine in_has ?_
      rw [show ofL [c] = sg c from rfl, has_one]
      rw [h]
      exact q _ R
    · rename_i c b
      obtain ⟨hb, t', rfl⟩ := rb
      split at h
      · rename_i hy
        obtain rfl := eq_of_beq hy
        obtain rfl := Option.some.inj h
        refine in_has ?_
        rw [show ofL [c] = sg c from rfl, hb]
        exact q _ R
      · cases h
    · cases h
  · rw [Option.bind_eq_some_iff] at h; obtain ⟨y, hy, h⟩ := h
    rw [Option.bind_eq_some_iff] at h; obtain ⟨x, hx, h⟩ := h
    rw [Option.map_eq_some_iff] at h; obtain ⟨c, hc, h⟩ := h
    obtain rfl := getStr_elim hy
    obtain rfl := getStr_elim hx
    obtain rfl := getOne_elim hc
    obtain ⟨t, rfl⟩ := ra
    obtain ⟨t', rfl⟩ := rb
    refine notin_has ?_
    rw [show ofL [c] = sg c from rfl, has_one]
    rw [h]
    exact q _ R
  · cases h
end
end Mine
end

section
open PySem PySem.W PyProof.Rows PySem.Calls
set_option Elab.async false
set_option maxRecDepth 100000
set_option maxHeartbeats 4000000
namespace Mine
section
variable {Γ : Cx} {pc : Bool} {ls names : List Str} {μ : MS} {E : Value → Shared → Prop} {s : Shared}
theorem plus_ok (O : Ok Γ pc ls names) {a b c : V} {u v : Value} {Q : Value → Shared → Prop} (h : plus a b = some c) (ra : Rep Γ a u) (rb : Rep Γ b v) (R : Rel Γ μ s) (q : ∀ z s', Rep Γ c z → Rel Γ μ s' → Q z s') : wpAny (model Γ.prog Γ.w) Γ.A (inplaceOp .Add u v) Q E s := by
  have hs := O.small
  unfold plus at h
  split at h
  · rename_i ne l y
    obtain ⟨rfl, t, rfl⟩ := ra
    obtain ⟨t', rfl⟩ := rb
    split at h
    · rename_i hl
      rw [Bool.and_eq_true, decide_eq_true_iff, decide_eq_true_iff] at hl
      cases h
      have e1 : (Γ.T0 ++ ofL l).length = Γ.T0.length + l.length := by
        rw [Str.length_append]; congr 1
      have e2 : (ofL y).length = y.length := List.size_toArray ..
      refine PyProof.Rows.iadd_str (fun t' tk => q _ _ ⟨rfl, t', ?_⟩ R.toks) (by rw [sizeLine_eq]; omega)
      congr 1
      cases Γ.T0 with | mk a =>
      show (⟨(a ++ l.toArray) ++ y.toArray⟩ : Str) = ⟨a ++ (l ++ y).toArray⟩
      simp
    · cases h
  · rename_i l y
    obtain ⟨t, rfl⟩ := ra
    obtain ⟨t', rfl⟩ := rb
    split at h
    · rename_i hl
      rw [Bool.and_eq_true, decide_eq_true_iff, decide_eq_true_iff] at hl
      cases h
      have e1 : (ofL l).length = l.length := List.size_toArray ..
      have e2 : (ofL y).length = y.length := List.size_toArray ..
      refine PyProof.Rows.iadd_str (fun t' tk => q _ _ ⟨t', ?_⟩ R.toks) (by rw [sizeLine_eq]; omega)
      congr 1
      show (⟨l.toArray ++ y.toArray⟩ : Str) = ⟨(l ++ y).toArray⟩
      simp
    · cases h
  · rename_i d i
    obtain ⟨t, rfl⟩ := ra
    obtain ⟨t', rfl⟩ := rb
    split at h
    · rename_i hi
      obtain rfl := eq_of_beq hi
      cases h
      refine PyProof.Rows.iadd_int (q _ _ ⟨s.toks, ?_⟩ R.toks)
      congr 1
      push_cast
      omega
    · cases h
  · cases h
theorem strC_elim {e : Expr} {x : Str} (h : strC e = some x) : ∃ k p, e = .Constant (.str x) k p := by
  cases e with
  | Constant c k p =>
    cases c with
    | str y => cases h; exact ⟨_, _, rfl⟩
    | _ => cases h
  | _ => cases h
theorem strs_ok {pos : Pos} {es : List Expr} : ∀ {Q : List Value → Shared → Prop} {ys : List Str} {s : Shared}, strsOf es = some ys → Rel Γ μ s → (∀ vs s', StrsAre vs ys → Rel Γ μ s' → Q vs s') → wpAny (model Γ.prog Γ.w) Γ.A (spliced (backTo pos (starEach es Γ.env))) Q E s := by
  induction es with
  | nil =>
    intro Q ys s h R q
    cases h
    exact Calls.spliced_nil (q _ _ .nil R)
  | cons e r ih =>
    intro Q ys s h R q
    obtain ⟨x, h1, h⟩ := Option.bind_eq_some_iff.mp h
    obtain ⟨yr, h2, h⟩ := Option.map_eq_some_iff.mp h
    subst h
    obtain ⟨k, p, rfl⟩ := strC_elim h1
    refine spliced_more (wpAny_Constant_str ?_)
    exact ih h2 R.toks fun vs s' hv R' => q _ _ (.cons _ _ hv) R'
theorem strsAre_length {vs : List Value} {ys : List Str} (h : StrsAre vs ys) : vs.length = ys.length := by
  induction h with
  | nil => rfl
  | cons _ _ _ ih => simp [ih]
theorem isTup_elim {r : Expr} {es : List Expr} (h : isTup r = some es) : ∃ k p, r = .Tuple es k p := by
  cases r <;> simp only [isTup, reduceCtorEq, Option.some.injEq] at h
  subst h
  exact ⟨_, _, rfl⟩
theorem evE_marks {op : CmpOp} {e : Expr} {v : V} (h : evE μ e = some v) : behindInMarks op e = false := by
  cases e <;> first | rfl | (simp only [evE, reduceCtorEq] at h)
theorem evC_ok (O : Ok Γ pc ls names) (hpc : μ.pc = pc) (HN : NamesOk μ ls names) {l r : Expr} {op : CmpOp} {p : Pos} {b : Bool} {Q : Bool → Shared → Prop} {s : Shared} (h : evC μ l op r = some b) (R : Rel Γ μ s) (q : ∀ s', Rel Γ μ s' → Q b s') (whole : Sem Value) :
    wpAny (model Γ.prog Γ.w) Γ.A (isTrue (.Compare l [op] [r] p) Γ.env whole) Q E s := by
  unfold evC at h
  split at h
  · rename_i es hr
    obtain ⟨k, p2, rfl⟩ := isTup_elim hr
    split at h
    · rename_i hop
      subst hop
      split at h
      · rename_i y h1
        obtain ⟨ys, h2, h⟩ := Option.bind_eq_some_iff.mp h
        split at h
        · rename_i hlen
          cases h
          refine wpAny_isTrue_Compare1 (evE_ok O hpc HN h1 R fun u s' r R' => ?_) rfl
          obtain ⟨t, rfl⟩ := r
          refine wpAny_Tuple (strs_ok h2 R' fun vs s2 hv R2 => ⟨?_, ?_⟩)
          · rw [strsAre_length hv, sizeLine_eq]; omega
          · have hN : ({ s2 with heap := s2.heap.push { cls := .type "tuple", data := .seq vs.toArray } } : Shared).heap.get? s2.heap.objs.size = some { cls := .type "tuple", data := .seq vs.toArray } := Heap.get?_push_size _ rfl
            refine in_tuple_strs (ys := ys) ⟨_, hN, rfl, _, rfl⟩ hv (wpAny_truthy_bool ?_)
            have e : (ys.any fun x => x == ofL y) = (ys.any fun x => sL x == y) := by
              congr 1; funext x; rw [← toList_beq]
            rw [e]
            exact q _ (R2.push rfl)
        · cases h
      · cases h
    · cases h
  · obtain ⟨a, h1, h⟩ := Option.bind_eq_some_iff.mp h
    obtain ⟨c, h2, h⟩ := Option.bind_eq_some_iff.mp h
    exact wpAny_isTrue_Compare1 (evE_ok O hpc HN h1 R fun u s' ru R' => evE_ok O hpc HN h2 R' fun v s2 rv R2 => cmp_ok O h ru rv R2 fun s3 R3 => wpAny_truthy_bool (q _ R3)) (evE_marks h2)
theorem evT_ok (O : Ok Γ pc ls names) (hpc : μ.pc = pc) (HN : NamesOk μ ls names) : ∀ (n : Nat) {e : Expr} {b : Bool} {Q : Bool → Shared → Prop} {s : Shared}, evT n μ e = some b → Rel Γ μ s → (∀ s', Rel Γ μ s' → Q b s') →
    wpAny (model Γ.prog Γ.w) Γ.A (isTrue e Γ.env (eval e Γ.env)) Q E s := by
  intro n
  induction n with
  | zero => intro e b Q s h; cases h
  | succ n ih =>
    intro e b Q s h R q
    cases e with
    | Compare l ops rs p =>
      simp only [evT] at h
      split at h
      · split at h
        · exact evC_ok O hpc HN h R q _
        · cases h
      · cases h
    | BoolOp op xs p =>
      simp only [evT] at h
      split at h
      · cases h
        cases op with
        | And => exact wpAny_isTrue_BoolOp (wpAny_allTrue_And_nil (q _ R))
        | Or => exact wpAny_isTrue_BoolOp (wpAny_allTrue_Or_nil (q _ R))
      · rename_i x r
        obtain ⟨c, h1, h⟩ := Option.bind_eq_some_iff.mp h
        cases op with
        | And =>
          refine wpAny_isTrue_BoolOp (wpAny_allTrue_And_cons (ih h1 R fun s' R' => ?_))
          cases c with
          | true =>
            have := ih (Q := Q) (s := s') h R' q
            rw [arm_isTrue_BoolOp] at this
            exact this
          | false => cases h; exact q _ R'
        | Or =>
          refine wpAny_isTrue_BoolOp (wpAny_allTrue_Or_cons (ih h1 R fun s' R' => ?_))
          cases c with
          | false =>
            have := ih (Q := Q) (s := s') h R' q
            rw [arm_isTrue_BoolOp] at this
            exact this
          | true => cases h; exact q _ R'
    | UnaryOp op x p =>
      simp only [evT] at h
      split at h
      · rename_i ho
        subst ho
        obtain ⟨c, h1, h⟩ := Option.map_eq_some_iff.mp h
        subst h
        exact wpAny_isTrue_Not (ih h1 R q)
      · cases h
    | Name x p =>
      simp only [evT] at h
      obtain ⟨v, h1, h⟩ := Option.bind_eq_some_iff.mp h
      exact wpAny_isTrue_value (evE_ok O hpc HN h1 R fun u s' r R' => truth_ok O h r R' q)
    | Attribute o f p =>
      simp only [evT] at h
      obtain ⟨v, h1, h⟩ := Option.bind_eq_some_iff.mp h
      exact wpAny_isTrue_value (evE_ok O hpc HN h1 R fun u s' r R' => truth_ok O h r R' q)
    | _ => cases h
end
end Mine
end

section
open PySem PySem.W PyProof.Rows PySem.Calls
set_option Elab.async false
set_option maxRecDepth 100000
set_option maxHeartbeats 4000000
namespace Mine
noncomputable def FlRep (Γ : Cx) : Fl → Flow → Prop
  | .next, f => f = .next
  | .brk, f => f = .brk
  | .cont, f => f = .cont
  | .ret v, f => ∃ u, f = .ret u ∧ Rep Γ v u
  | .exc, _ => False
/-- a ValueError, just made -/
noncomputable def ExcAt (Γ : Cx) (μ : MS) (e : Value) (s : Shared) : Prop := ∃ s₂ h' a args, e = .ref a ∧ Rel Γ μ s₂ ∧ Heap.MadeExc s₂.heap h' a "ValueError" args ∧ s = { s₂ with heap := h' }
section
variable {Γ : Cx} {pc : Bool} {ls names : List Str} {μ : MS} {E : Value → Shared → Prop} {s : Shared}
theorem lookS_setS {f g : Str} {v u : V} {l : List (Str × V)} (h : lookS g (setS f v l) = some u) : ∃ u', lookS g l = some u' := by
  induction l with
  | nil => exact ⟨u, h⟩
  | cons p l ih =>
    obtain ⟨y, z⟩ := p
    unfold setS at h
    unfold lookS
    split at h
    · unfold lookS at h
      split at h
      · rename_i hy; rw [if_pos hy]; exact ⟨_, rfl⟩
      · rename_i hy; rw [if_neg hy]; exact ⟨_, h⟩
    · unfold lookS at h
      split at h
      · rename_i hy; rw [if_pos hy]; exact ⟨_, rfl⟩
      · rename_i hy; rw [if_neg hy]; exact ih h
theorem setS_length (f : Str) (v : V) (l : List (Str × V)) : (setS f v l).length = l.length := by
  induction l with
  | nil => rfl
  | cons p l ih => unfold setS; split <;> simp [ih]
theorem NamesOk.set {f : Str} {v : V} (h : NamesOk μ ls names) : NamesOk { μ with fld := setS f v μ.fld } ls names :=
  ⟨h.1, fun g u e => let ⟨u', e'⟩ := lookS_setS e; h.2.1 g u' e', by show (setS f v μ.fld).length ≤ 100; rw [setS_length]; exact h.2.2⟩
theorem evE_noSwap {e : Expr} {v : V} {t : Option Expr} {n : Nat} {env : Env} (h : evE μ e = some v) : swapsWith e t n env = pure false := by
  cases e <;> first | rfl | (simp only [evE, reduceCtorEq] at h)
theorem store_ok (O : Ok Γ pc ls names) {x : Str} {v : V} {u : Value} {Q : Unit → Shared → Prop} (hx : ls.any (eqS x) = true) (R : Rel Γ μ s) (r : Rep Γ v u) (h : ∀ s', Rel Γ { μ with loc := (x, v) :: μ.loc } s' → Q () s') :
    wpAny (model Γ.prog Γ.w) Γ.A (storeName Γ.env x u) Q E s := by
  obtain ⟨a, b, c⟩ := O.isLoc x hx
  obtain ⟨hp, tk, m, es, rfl, F, l, sf, fr, N⟩ := R
  refine wpAny_storeName_local a (by rw [O.locals]; exact F.ns) (fun h' hn hs => h _ ⟨h', _, _, es, rfl, F.set (by rw [O.locals] at hn; exact hn) (by rw [O.locals] at hs; exact hs), l.set r, ?_, fr, N.set (by rw [O.locals] at hs; exact hs)⟩) (by rw [O.kind]; rfl)
  show (if Str.ofString "self" = x then some u else m (Str.ofString "self")) = _
  rw [if_neg (Ne.symm c)]; exact sf
theorem isSelf_elim {o : Expr} (h : isSelf o = true) : ∃ p, o = .Name (Str.ofString "self") p := by
  cases o with
  | Name x p => exact ⟨p, by rw [eqS_iff.mp h]⟩
  | _ => cases h
theorem isVE_elim {e : Expr} (h : isVE e = true) : ∃ np x k p cp, e = .Call (.Name (Str.ofString "ValueError") np) [.Constant (.str x) k p] [] cp := by
  unfold isVE at h
  split at h
  · obtain rfl := eqS_iff.mp h
    exact ⟨_, _, _, _, _, rfl⟩
  · cases h
theorem exA_ok (O : Ok Γ pc ls names) (hpc : μ.pc = pc) (HN : NamesOk μ ls names) {st : Stmt} {f : Fl} {μ' : MS} {Q : Flow → Shared → Prop} {s : Shared} (h : exA μ st = some (f, μ')) (R : Rel Γ μ s)
    (q : ∀ fl s', FlRep Γ f fl → Rel Γ μ' s' → Q fl s') (qe : f = .exc → Γ.A.handled = none ∧ ∀ e s', ExcAt Γ μ' e s' → E e s') : wpAny (model Γ.prog Γ.w) Γ.A (exec st Γ.env) Q E s := by
  cases st with
  | Assign ts e pos =>
    simp only [exA] at h
    split at h
    · split at h
      · rename_i x p hx
        obtain ⟨v, h1, h⟩ := Option.map_eq_some_iff.mp h
        cases h
        exact (wpAny_Assign_Name (evE_ok O hpc HN h1 R fun u s' r R' => store_ok O (HN.1 ▸ hx) R' r fun s2 R2 => q _ _ rfl R2) (evE_noSwap h1))
      · cases h
    · split at h
      · rename_i o f' p ho
        obtain ⟨v, h1, h⟩ := Option.map_eq_some_iff.mp h
        cases h
        unfold okF at ho
        rw [Bool.and_eq_true, Bool.and_eq_true] at ho
        obtain ⟨p', rfl⟩ := isSelf_elim ho.1.1
        exact (plainObj_wpAny_Assign_Attribute (evE_ok O hpc HN h1 R fun u s' r R' => self_ok O R' (set_ok O R' HN.2.1 HN.2.2 ho.2 r fun s2 R2 => q _ _ rfl R2)) (evE_noSwap h1))
      · cases h
    · cases h
  | AugAssign t op e pos =>
    simp only [exA] at h
    split at h
    · rename_i hop
      subst hop
      split at h
      · split at h
        · rename_i o f' p ho
          obtain ⟨u0, h0, h⟩ := Option.bind_eq_some_iff.mp h
          obtain ⟨v, h1, h⟩ := Option.bind_eq_some_iff.mp h
          obtain ⟨z, h2, h⟩ := Option.map_eq_some_iff.mp h
          cases h
          unfold okF at ho
          rw [Bool.and_eq_true, Bool.and_eq_true] at ho
          obtain ⟨p', rfl⟩ := isSelf_elim ho.1.1
          exact (wpAny_AugAssign_AttributeAny (self_ok O R (get_ok O R HN.2.1 h0 fun a s1 ra R1 => evE_ok O hpc HN h1 R1 fun b s2 rb R2 => plus_ok O h2 ra rb R2 fun c s3 rc R3 => set_ok O R3 HN.2.1 HN.2.2 ho.2 rc fun s4 R4 => q _ _ rfl R4)))
        · cases h
      · split at h
        · rename_i x p hx
          obtain ⟨u0, h0, h⟩ := Option.bind_eq_some_iff.mp h
          obtain ⟨v, h1, h⟩ := Option.bind_eq_some_iff.mp h
          obtain ⟨z, h2, h⟩ := Option.map_eq_some_iff.mp h
          cases h
          rw [HN.1] at hx
          obtain ⟨a, b, c⟩ := O.isLoc x hx
          refine (wpAny_AugAssign_Name ?_)
          have R' := R
          obtain ⟨hp, tk, m, es, rfl, F, l, sf, fr, N⟩ := R
          obtain ⟨u, eu, ru⟩ := l x u0 h0
          exact wpAny_loadName_local O.kind a (by rw [O.locals]; exact F.ns) eu (evE_ok O hpc HN h1 R' fun b s2 rb R2 => plus_ok O h2 ru rb R2 fun c s3 rc R3 => store_ok O hx R3 rc fun s4 R4 => q _ _ rfl R4)
        · cases h
      · cases h
    · cases h
  | Break p => cases h; exact (wpAny_Break (q _ _ rfl R))
  | Continue p => cases h; exact (wpAny_Continue (q _ _ rfl R))
  | Return v p =>
    obtain ⟨e, h1, h⟩ := Option.bind_eq_some_iff.mp h
    obtain ⟨v, h2, h⟩ := Option.map_eq_some_iff.mp h
    cases h
    subst h1
    exact (wpAny_Return_some (evE_ok O hpc HN h2 R fun u s' r R' => q _ _ ⟨u, rfl, r⟩ R'))
  | Raise x c p =>
    simp only [exA] at h
    split at h
    · obtain ⟨e, h1, h2⟩ := Option.bind_eq_some_iff.mp h
      clear h
      subst h1
      split at h2
      · rename_i hv
        cases h2
        rw [Bool.and_eq_true] at hv
        obtain ⟨np, x, k, p1, cp, rfl⟩ := isVE_elim hv.1
        refine wpAny_Raise_call PySem.F.excCall_ValueError PySem.F.excRaise_ValueError (qe rfl).1 rfl (O.valErr (hpc ▸ hv.2) _ _ _ _ μ R fun s1 R1 => ⟨rfl, ?_⟩)
        refine Calls.evalArgs_plain (spliced_more (wpAny_Constant_str (spliced_none ⟨rfl, ?_, ?_⟩)))
        · rw [sizeLine_eq]; show 1 ≤ _; omega
        · intro h' e hm
          exact (qe rfl).2 _ _ ⟨_, h', e, _, rfl, R1.toks, hm, rfl⟩
      · cases h2
    · cases h
  | _ => cases h
theorem exA_names (HN : NamesOk μ ls names) {st : Stmt} {f : Fl} {μ' : MS} (h : exA μ st = some (f, μ')) : μ'.pc = μ.pc ∧ NamesOk μ' ls names := by
  cases st with
  | Assign ts e pos =>
    simp only [exA] at h
    split at h
    · split at h
      · obtain ⟨v, h1, h⟩ := Option.map_eq_some_iff.mp h
        cases h
        exact ⟨rfl, HN⟩
      · cases h
    · split at h
      · obtain ⟨v, h1, h⟩ := Option.map_eq_some_iff.mp h
        cases h
        exact ⟨rfl, HN.set⟩
      · cases h
    · cases h
  | AugAssign t op e pos =>
    simp only [exA] at h
    split at h
    · split at h
      · split at h
        · obtain ⟨u0, h0, h⟩ := Option.bind_eq_some_iff.mp h
          obtain ⟨v, h1, h⟩ := Option.bind_eq_some_iff.mp h
          obtain ⟨z, h2, h⟩ := Option.map_eq_some_iff.mp h
          cases h
          exact ⟨rfl, HN.set⟩
        · cases h
      · split at h
        · obtain ⟨u0, h0, h⟩ := Option.bind_eq_some_iff.mp h
          obtain ⟨v, h1, h⟩ := Option.bind_eq_some_iff.mp h
          obtain ⟨z, h2, h⟩ := Option.map_eq_some_iff.mp h
          cases h
          exact ⟨rfl, HN⟩
        · cases h
      · cases h
    · cases h
  | Break p => cases h; exact ⟨rfl, HN⟩
  | Continue p => cases h; exact ⟨rfl, HN⟩
  | Return v p =>
    obtain ⟨e, h1, h⟩ := Option.bind_eq_some_iff.mp h
    obtain ⟨v, h2, h⟩ := Option.map_eq_some_iff.mp h
    cases h
    exact ⟨rfl, HN⟩
  | Raise x c p =>
    simp only [exA] at h
    split at h
    · obtain ⟨e, h1, h2⟩ := Option.bind_eq_some_iff.mp h
      split at h2
      · cases h2; exact ⟨rfl, HN⟩
      · cases h2
    · cases h
  | _ => cases h
theorem exS_names : ∀ (n : Nat) {μ : MS} {l : List Stmt} {f : Fl} {μ' : MS}, NamesOk μ ls names → exS n μ l = some (f, μ') → μ'.pc = μ.pc ∧ NamesOk μ' ls names := by
  intro n
  induction n with
  | zero => intro μ l f μ' _ h; cases h
  | succ n ih =>
    intro μ l f μ' HN h
    cases l with
    | nil => cases h; exact ⟨rfl, HN⟩
    | cons st rest =>
      simp only [exS] at h
      have key : ∀ f1 μ1, (match st with
        | .If t b o _ => (evT n μ t).bind fun c => exS n μ (if c then b else o)
        | st => exA μ st) = some (f1, μ1) → μ1.pc = μ.pc ∧ NamesOk μ1 ls names := by
        intro f1 μ1 h
        split at h
        · obtain ⟨c, h1, h⟩ := Option.bind_eq_some_iff.mp h
          exact ih HN h
        · exact exA_names HN h
      split at h
      · rename_i μ1 h1
        obtain ⟨a, b⟩ := key _ _ h1
        obtain ⟨a', b'⟩ := ih b h
        exact ⟨a'.trans a, b'⟩
      · exact key _ _ h
theorem exS_ok (O : Ok Γ pc ls names) : ∀ (n : Nat) {μ : MS} {l : List Stmt} {f : Fl} {μ' : MS} {Q : Flow → Shared → Prop} {s : Shared}, μ.pc = pc → NamesOk μ ls names → exS n μ l = some (f, μ') → Rel Γ μ s →
    (∀ fl s', FlRep Γ f fl → Rel Γ μ' s' → Q fl s') → (f = .exc → Γ.A.handled = none ∧ ∀ e s', ExcAt Γ μ' e s' → E e s') → wpAny (model Γ.prog Γ.w) Γ.A (execs l Γ.env) Q E s := by
  intro n
  induction n with
  | zero => intro μ l f μ' Q s _ _ h; cases h
  | succ n ih =>
    intro μ l f μ' Q s hpc HN h R q qe
    cases l with
    | nil =>
      cases h
      exact wpAny_execs_nil (q _ _ rfl R)
    | cons st rest =>
      simp only [exS] at h
      have key : ∀ f1 μ1 (Q1 : Flow → Shared → Prop), (match st with
        | .If t b o _ => (evT n μ t).bind fun c => exS n μ (if c then b else o)
        | st => exA μ st) = some (f1, μ1) → (∀ fl s', FlRep Γ f1 fl → Rel Γ μ1 s' → Q1 fl s') → (f1 = .exc → Γ.A.handled = none ∧ ∀ e s', ExcAt Γ μ1 e s' → E e s') → wpAny (model Γ.prog Γ.w) Γ.A (exec st Γ.env) Q1 E s ∧ (μ1.pc = μ.pc ∧ NamesOk μ1 ls names) := by
        intro f1 μ1 Q1 h q qe
        split at h
        · rename_i t b o p
          obtain ⟨c, h1, h⟩ := Option.bind_eq_some_iff.mp h
          refine ⟨wpAny_If (evT_ok O hpc HN n h1 R fun s' R' => ?_), exS_names n HN h⟩
          have := ih (s := s') hpc HN h R' q qe
          cases c with
          | true => exact this
          | false => exact this
        · exact ⟨exA_ok O hpc HN h R q qe, exA_names HN h⟩
      split at h
      · rename_i μ1 h1
        have g := (key _ _ (fun _ _ => True) h1 (fun _ _ _ _ => trivial) (fun e => nomatch e)).2
        refine wpAny_execs_cons (key _ _ _ h1 (fun fl s' hf R' => ?_) (fun e => nomatch e)).1
        cases hf
        exact ih (g.1.trans hpc) g.2 h R' q qe
      · rename_i hn
        refine wpAny_execs_cons (key _ _ _ h (fun fl s' hf R' => ?_) qe).1
        cases f with
        | next => exact absurd h (by intro e; exact hn _ e)
        | brk => cases hf; exact q _ _ rfl R'
        | cont => cases hf; exact q _ _ rfl R'
        | ret v => obtain ⟨u, rfl, r⟩ := hf; exact q _ _ ⟨u, rfl, r⟩ R'
        | exc => exact hf.elim
end
end Mine
end

section
open PySem PySem.W PyProof.Rows PySem.Calls
set_option Elab.async false
set_option maxRecDepth 100000
set_option maxHeartbeats 4000000
namespace Mine
section
variable {M : Model} {A : Around} {E : Value → Shared → Prop} {s : Shared}
theorem setFlight_at {base : Heap} {l : List Env} {e L : Addr} {cls a0 fl : Value} {Q : Unit → Shared → Prop}
    (hkb : base.StaysIn s.heap) (hen : base.get? e = none) (hl : s.heap.FunFrames base l) (ht : s.heap.TracedAtW base e cls a0 fl)
    (h : ∀ h', Heap.HeldW base l e cls a0 L h' → s.heap.UpToSlots h' → Q () { s with heap := h' }) :
    wpAny M A (setFlight (.ref e) (some L)) Q E s := by
  obtain ⟨oe, vs, T, oT, ts, he, hcls, hd, h1, hnT, hTe, hT, hdT, h3⟩ := ht
  have hsz3 : 3 < ts.size := (Array.getElem?_eq_some_iff.mp h3).1
  have other : ∀ b, b ≠ T → (s.heap.update T (Obj.mapFields (·.setIfInBounds 3 ((some L : Option Addr).elim Value.none fun f => rawInt f)))).get? b = s.heap.get? b :=
    fun b hb => Heap.get?_update_other _ _ (Ne.symm hb)
  have noRecord : ∀ b o, s.heap.get? b = some o → (∀ vs, o.data ≠ .fields vs) → b ≠ T := fun b o hb hnf q => by
    rw [q, hT] at hb; injection hb with hb; subst hb; exact hnf ts hdT
  unfold setFlight
  refine wpAny_bind (wpAny_field he hd h1 ?_)
  rw [if_pos (show (Value.ref T != Value.none) = true from by simp)]
  refine wpAny_setField hT hdT hsz3 (h _ ⟨fun b o hbo => (other b fun q => by rw [q, hnT] at hbo; cases hbo).trans (hkb b o hbo), hen,
    hl.of_keeps fun b o hb hnf => ⟨o, (other b (noRecord b o hb hnf)).trans hb, rfl⟩, ?_⟩ fun b o hb hnf => ⟨o.slots, (other b (noRecord b o hb hnf)).trans hb⟩)
  exact ⟨oe, vs, T, _, _, (other e (Ne.symm hTe)).trans he, hcls, hd, h1, hnT, hTe, Heap.get?_update_self _ hT (Obj.isFreed_of_fields (Obj.data_mapFields hdT _)), Obj.data_mapFields hdT _, by simp [hsz3]⟩
/-- the first note of a new exception -/
theorem note_made {base h : Heap} {env : Env} {outer : List Env} {L e : Addr} {cls : Value} {args : List Value} {Q : Unit → Shared → Prop}
    (hfr : A.frames = some (env :: outer)) (hf : env.frame = some L) (hkb : base.StaysIn h) (hl : h.FunFrames base (env :: outer)) (hx : Heap.MadeExcOf h s.heap e cls args)
    (hQ : ∀ h' t, Heap.HeldW base (env :: outer) e cls (.ref t) L h' → h'.TupAt t args → base.get? t = none → s.heap.UpToSlots h' → Q () { s with heap := h' }) : wpAny M A (noteFrame (.ref e) env) Q E s := by
  obtain ⟨t, he, htn, ht⟩ := hx.there
  have fresh : ∀ b, h.get? b = none → base.get? b = none := fun b hb => by
    cases hq : base.get? b with
    | none => rfl
    | some o' => have := hkb b o' hq; rw [hb] at this; cases this
  unfold noteFrame
  simp only [hf]
  refine wpAny_bind (wpAny_field (x := .none) he rfl rfl ?_)
  rw [if_neg (by decide)]
  refine wpAny_entryW (a0 := .ref t) hfr (hl.of_keeps fun b o hb _ => ⟨o, hx.keeps b o hb, rfl⟩) hf he (fun b o hb => hx.keeps b o (hkb b o hb)) (fresh e hx.new) rfl (by show 1 < 6; omega) rfl fun h' hL => ?_
  obtain ⟨k1, k2, k3, k4⟩ := hL
  exact hQ h' t ⟨k1, fresh e hx.new, k2, k3⟩ (Heap.TupAt.of_slots ⟨_, _, ht, rfl, rfl⟩ k4) (fresh t htn) k4
theorem came_back {base : Heap} {env : Env} {outer : List Env} {L e : Addr} {cls a0 : Value} (hf : env.frame = some L) (hh : Heap.HeldW base (env :: outer) e cls a0 L s.heap)
    (hQ : ∀ h', Heap.HeldW base (env :: outer) e cls a0 L h' → s.heap.UpToSlots h' → E (.ref e) { s with heap := h' }) : cameBackBy M A env E (.ref e) s := by
  unfold cameBackBy
  obtain ⟨f1, f2, f3, f4⟩ := hh
  have f4' := f4
  obtain ⟨oe, vs, T, oT, ts, he, hcls, hd, h1, hnT, hTe, hT, hdT, h3⟩ := f4
  refine wpAny_bind (wpAny_field he hd h1 ?_)
  rw [hf]
  exact setFlight_at f1 f2 f3 f4' hQ
/-- out of a loop's turn and out of the frame -/
theorem leave_loop {base g h : Heap} {outer : List Env} {L a e : Addr} {m : Str → Option Value} {name : Str} {scope : Scope} {cd : Value} {cls : Value} {vs : List Value} {R : Value → Shared → Prop} (K : Below A base outer g) (hx : Heap.MadeExcOf h s.heap e cls vs) (F : Fr g L h m)
    (hQ : ∀ h' t, RaisedS base g outer e cls t vs [] h' → g.UpToSlots h' → R (.ref e) { s with heap := h' }) (hk : scope.kind = .function) :
    notedBy M (A.deeper (envOf name scope L a cd)) (envOf name scope L a cd) (fun e s' => cameBackBy M (A.deeper (envOf name scope L a cd)) (envOf name scope L a cd) (fun e s' => wpAny M (A.deeper (envOf name scope L a cd)) (leaving (envOf name scope L a cd) e) (fun _ s'' => R e s'') (fun e' s'' => R e' s'') s') e s') (.ref e) s := by
  have K' := K.push (name := name) (a := a) (cd := cd) F hk
  have hin : ∀ env ∈ (envOf name scope L a cd :: outer), ∀ b, env.frame = some b → b ∈ (envOf name scope L a cd :: outer).filterMap (·.frame) := fun env he b hb => List.mem_filterMap.mpr ⟨env, he, hb⟩
  have st : base.StaysIn (hideAll h ((envOf name scope L a cd :: outer).filterMap (·.frame))) := fun b o q => hideAll_get _ (K'.stays b o q) fun hm => by
    rw [(K'.frames.mem hm).1] at q; cases q
  have sg : ∀ b o, g.get? b = some o → b ∉ outer.filterMap (·.frame) → (hideAll h ((envOf name scope L a cd :: outer).filterMap (·.frame))).get? b = some o := fun b o q nm => hideAll_get _ (F.keep b o q) fun hm => by
    rcases kts_mem hm with z | z
    · rw [z, kts_self F] at q
      cases q
    · exact nm z
  unfold notedBy
  refine note_made (env := envOf name scope L a cd) (outer := outer) (L := L) K'.stack rfl (fun b o q => of_hideAll _ q) (funFrames_hide K'.frames hin) hx fun h1 t x1 x2 x3 x4 => ?_
  refine came_back rfl x1 fun h2 y1 y2 => ?_
  have y1' := y1
  unfold leaving
  refine wpAny_bind (wpAny_noteFrame_againW rfl y1.2.2.2 ?_)
  refine wpAny_landsW y1 fun h3 z1 z2 => ?_
  obtain ⟨k1, k2, ⟨_, _, k3⟩, k4⟩ := z1
  exact hQ h3 t ⟨⟨_, st, sg, (fun _ hq => nomatch hq), ⟨k1, k2, k3, k4⟩, x3⟩, (x2.of_slots y2).of_slots z2⟩ (((((Heap.UpToSlots.of_keeps F.keep).trans (Heap.UpToSlots.of_keeps hx.keeps)).trans x4).trans y2).trans z2)
end
end Mine
end

section
open PySem PySem.W PyProof.Rows PySem.Calls Builtin
set_option Elab.async false
set_option maxRecDepth 100000
set_option maxHeartbeats 4000000
namespace Mine
noncomputable abbrev dequeObj : Obj := { cls := .type "collections.deque", data := .fields #[.none, rawInt 0] }
theorem noBool_deque : typeLookup (.type "collections.deque") "__bool__" = pure none := by rw [typeLookup_type, builtinLookup_eq_fast]; kernel_rfl
theorem slot_deque_len : Slot "collections.deque" "__len__" "collections.deque.__len__" :=
  .of (owner := "collections.deque") (n := "__len__") (by rw [typeLookup_type, builtinLookup_eq_fast]; kernel_rfl) (by decide +kernel) (by decide +kernel) (by decide +kernel)
    (by first | exact .inl (by decide +kernel) | exact .inr (by decide +kernel)) (by rw [isSubtype_type]; kernel_rfl)
theorem entry_deque_len : entryFor table "collections.deque.__len__" = some Builtin.«collections.deque.__len__» := entryFor_of_fast (by kernel_rfl)
theorem args_deque_len (a : Value) : argsOk "collections.deque.__len__" ⟨[a], []⟩ := by unfold argsOk; kernel_rfl
section
variable {prog : Program} {w : World} {A : Around} {E : Value → Shared → Prop} {s : Shared}
theorem len_deque {l : Addr} {Q : Value → Shared → Prop} (hl : s.heap.get? l = some dequeObj)
    (h : Q (.int 0 (s.toks + 1)) { s with toks := s.toks + 1 + 1 }) : wpAny (model prog w) A (Builtin.«len» ⟨[.ref l], []⟩) (fun fin s' => ∃ r, fin = .done (.ret r) ∧ Q r s') E s := by
  have hT : s.TypeIs (.ref l) "collections.deque" := ⟨_, hl, rfl⟩
  unfold Builtin.«len»
  refine wpAny_bind (m := oneArg "len" _) (wpAny_pure ?_)
  refine wpAny_bind (m := callSpecial? (.ref l) (Str.ofString "__len__")) (wpAny_callSpecial?_slot (name := Str.ofString "__len__") hT slot_deque_len
    (wpAny_call_entry slot_deque_len hT entry_deque_len ?_ (args_deque_len _)))
  show wpAny _ _ (do retInt (← Builtin.Deque.size (← slotArgs "__len__" 0 ⟨[.ref l], []⟩).1)) _ _ s
  refine wpAny_bind (m := slotArgs "__len__" 0 ⟨[.ref l], []⟩) (wpAny_pure ?_)
  unfold Builtin.Deque.size
  refine wpAny_bind (wpAny_bind (wpAny_fieldsOf hl rfl (wpAny_pure ?_)))
  refine wpAny_bind (wpAny_mkInt (wpAny_pure ⟨_, rfl, ?_⟩))
  refine wpAny_bind (wpAny_holding (wpAny_pure ?_))
  refine wpAny_bind (wpAny_letGo ?_)
  show wpAny _ _ (if (0 : Int) < 0 then _ else _) _ _ _
  rw [if_neg (by omega)]
  show wpAny _ _ (if (0 : Int) ≥ 2 ^ 63 then _ else _) _ _ _
  rw [if_neg (by omega)]
  exact wpAny_bind (wpAny_mkInt (wpAny_pure ⟨_, rfl, h⟩))
theorem truthy_deque {l : Addr} {Q : Bool → Shared → Prop} (hl : s.heap.get? l = some dequeObj)
    (h : Q false { s with toks := s.toks + 1 + 1 }) : wpAny (model prog w) A (truthy (.ref l)) Q E s := by
  have hT : s.TypeIs (.ref l) "collections.deque" := ⟨_, hl, rfl⟩
  have key : wpAny (model prog w) A (runValue (.builtin "len" ⟨[.ref l], []⟩)) (fun r s' => r = .int 0 (s.toks + 1) ∧ Q false s') E s := by
    refine wpAny_runValue (codeAny_builtin entry_len ?_)
    rw [Around.under_plainId plain_len _]
    exact wpAny_mono (len_deque (Q := fun r s' => r = .int 0 (s.toks + 1) ∧ Q false s') hl ⟨rfl, h⟩)
      (fun fin s' h' => by obtain ⟨r, rfl, hq⟩ := h'; exact hq) fun _ _ e => e
  unfold truthy
  first
    | refine wpAny_bind (wpAny_callSpecial?_none (name := Str.ofString "__bool__") hT noBool_deque ?_)
    | refine wpAny_bind (wpAny_pure (wpAny_bind (wpAny_callSpecial?_none (name := Str.ofString "__bool__") hT noBool_deque ?_)))
  first
    | refine wpAny_bind (wpAny_specialOf (name := Str.ofString "__len__") hT slot_deque_len.lookup ?_)
    | refine wpAny_bind (wpAny_pure (wpAny_bind (wpAny_specialOf (name := Str.ofString "__len__") hT slot_deque_len.lookup ?_)))
  first
    | exact wpAny_bind (wpAny_mono key (fun r s' h' => by obtain ⟨rfl, hq⟩ := h'; exact wpAny_pure hq) fun _ _ e => e)
    | exact wpAny_bind (wpAny_pure (wpAny_bind (wpAny_mono key (fun r s' h' => by obtain ⟨rfl, hq⟩ := h'; exact wpAny_pure hq) fun _ _ e => e)))
end
end Mine
end

section
open PySem PySem.W PyProof.Rows PySem.Calls Builtin
set_option Elab.async false
set_option maxRecDepth 100000
set_option maxHeartbeats 4000000
namespace Mine
noncomputable abbrev citObj (f sent : Value) (b : Bool) : Obj := { cls := .type "callable_iterator", data := .fields #[f, sent, .bool b] }
theorem slot_cit_next : Slot "callable_iterator" "__next__" "callable_iterator.__next__" :=
  .of (owner := "callable_iterator") (n := "__next__") (by rw [typeLookup_type, builtinLookup_eq_fast]; kernel_rfl) (by decide +kernel) (by decide +kernel) (by decide +kernel)
    (by first | exact .inl (by decide +kernel) | exact .inr (by decide +kernel)) (by rw [isSubtype_type]; kernel_rfl)
theorem entry_cit_next : entryFor table "callable_iterator.__next__" = some Builtin.«callable_iterator.__next__» := entryFor_of_fast (by kernel_rfl)
theorem args_cit_next (a : Value) : argsOk "callable_iterator.__next__" ⟨[a], []⟩ := by unfold argsOk; kernel_rfl
theorem slot_cit_iter : Slot "callable_iterator" "__iter__" "callable_iterator.__iter__" :=
  .of (owner := "callable_iterator") (n := "__iter__") (by rw [typeLookup_type, builtinLookup_eq_fast]; kernel_rfl) (by decide +kernel) (by decide +kernel) (by decide +kernel)
    (by first | exact .inl (by decide +kernel) | exact .inr (by decide +kernel)) (by rw [isSubtype_type]; kernel_rfl)
theorem entry_cit_iter : entryFor table "callable_iterator.__iter__" = some Builtin.«dict_keyiterator.__iter__» :=
  entryFor_alias (id' := "dict_keyiterator.__iter__") (by kernel_rfl) rfl (by decide +kernel) (by kernel_rfl)
theorem args_cit_iter (a : Value) : argsOk "callable_iterator.__iter__" ⟨[a], []⟩ := by unfold argsOk; kernel_rfl
section
variable {prog : Program} {w : World} {A : Around} {E : Value → Shared → Prop} {s : Shared}
theorem callBorrowed_ok {M : Model} {f : Value} {pos : List Value} {Q : Value → Shared → Prop}
    (hc : codeAny M A (.call f ⟨pos, []⟩) (fun r s' => match r with | .ok (.ret v) => Q v s' | .ok _ => False | .error e => E e s') s) : wpAny M A (callBorrowed f pos) Q E s := by
  intro Γ p hΓ
  have := wpAny_call hc Γ p hΓ
  rw [Sem.wp_cmd_call] at this
  unfold callBorrowed
  rw [Sem.wp_call]
  refine Eq.mp ?_ this
  congr 1
  funext r s'
  cases r with
  | error e => rfl
  | ok f => cases f <;> rfl
theorem iter_cit {it : Addr} {f sent : Value} {b : Bool} {Q : Value → Shared → Prop} (hit : s.heap.get? it = some (citObj f sent b)) (h : Q (.ref it) s) : wpAny (model prog w) A (pyIter (.ref it)) Q E s := by
  have hT : s.TypeIs (.ref it) "callable_iterator" := ⟨_, hit, rfl⟩
  refine wpAny_pyIter_slot hT slot_cit_iter (wpAny_call_entry slot_cit_iter hT entry_cit_iter ?_ (args_cit_iter _))
  exact wpAny_pure ⟨_, rfl, "callable_iterator", _, hT, slot_cit_next.lookup, h⟩
theorem borrows_meth {q fn : Addr} {self : Value} {ofn : Obj} {fd : FuncData} {Q : Bool → Shared → Prop} (hq : s.heap.get? q = some (methodObj (.ref fn) self)) (hf : s.heap.get? fn = some ofn) (hd : ofn.data = .func fd) (h : Q true s) : wpAny (model prog w) A (borrowsExactly (.ref q)) Q E s := by
  unfold borrowsExactly
  refine wpAny_bind (wpAny_load hq ?_)
  show wpAny _ _ (do match (← load fn).data with | .func _ => pure true | _ => pure false) _ _ _
  refine wpAny_bind (wpAny_load hf ?_)
  rw [hd]
  exact wpAny_pure h
theorem next_cit {it q fn : Addr} {self : Value} {ofn : Obj} {fd : FuncData} {t : Nat} {Q : Option Value → Shared → Prop} (hh : A.handled = none) (hit : s.heap.get? it = some (citObj (.ref q) (.str (Str.ofString "") t) false)) (hq : s.heap.get? q = some (methodObj (.ref fn) self)) (hf : s.heap.get? fn = some ofn) (hd : ofn.data = .func fd)
    (hc : codeAny (model prog w) A.in1 (.call (.ref fn) ⟨[self], []⟩) (fun r s' => match r with
      | .ok (.ret v) => ∃ x t', v = .str x t' ∧ s'.heap.get? it = some (citObj (.ref q) (.str (Str.ofString "") t) false) ∧ s'.heap.get? q = some (methodObj (.ref fn) self) ∧ s'.heap.get? fn = some ofn ∧
        (if x = Str.ofString "" then ∀ h', h'.get? it = some (citObj .none .none true) → Heap.ExtBut it s'.heap h' → Q none { s' with heap := h' } else Q (some (.str x t')) s')
      | _ => False) s) : wpAny (model prog w) A (pyNext (.ref it)) Q E s := by
  have hT : s.TypeIs (.ref it) "callable_iterator" := ⟨_, hit, rfl⟩
  unfold pyNext
  refine wpAny_bind (wpAny_attempt (wpAny_callSpecial?_slot (name := Str.ofString "__next__") hT slot_cit_next
    (wpAny_call_entry slot_cit_next hT entry_cit_next ?_ (args_cit_next _))))
  unfold Builtin.«callable_iterator.__next__»
  refine wpAny_bind (m := slotArgs "__next__" 0 _) (wpAny_pure ?_)
  refine wpAny_bind (wpAny_field hit rfl (x := .bool false) rfl ?_)
  rw [if_neg (by decide)]
  refine wpAny_bind (wpAny_field hit rfl (x := .ref q) rfl ?_)
  refine wpAny_bind (wpAny_attempt ?_)
  unfold callOutOfASlot
  refine wpAny_bind (borrows_meth hq hf hd ?_)
  rw [if_pos rfl]
  refine callBorrowed_ok (method_call hq (codeAny_mono hc ?_))
  intro r s' h
  cases r with
  | error e => exact h.elim
  | ok fl =>
    cases fl with
    | ret v =>
      obtain ⟨x, t', rfl, hit', hq', hf', h⟩ := h
      dsimp only
      refine wpAny_bind (wpAny_field hit' rfl (x := .bool false) rfl ?_)
      rw [if_neg (by decide)]
      refine wpAny_bind (wpAny_field hit' rfl (x := .str (Str.ofString "") t) rfl ?_)
      refine wpAny_bind (wpAny_holding (eqBool_str ?_))
      by_cases hx : x = Str.ofString ""
      · subst hx
        rw [if_pos rfl] at h
        rw [if_neg (by decide)]
        refine wpAny_bind (wpAny_rule ?_)
        refine wpAny_bind ?_
        refine wpAny_bind (wpAny_field hit' rfl (x := .ref q) rfl ?_)
        refine wpAny_bind ?_
        unfold slotLetsGo
        refine wpAny_bind (borrows_meth hq' hf' hd ?_)
        rw [if_pos rfl]
        refine wpAny_pure ?_
        refine wpAny_bind (wpAny_setField hit' rfl (by show 0 < 3; omega) ?_)
        have g1 := Heap.get?_update_self (Obj.mapFields (·.setIfInBounds 0 Value.none)) hit' rfl
        refine wpAny_bind (wpAny_setField g1 rfl (by show 1 < 3; omega) ?_)
        have g2 := Heap.get?_update_self (Obj.mapFields (·.setIfInBounds 1 Value.none)) g1 rfl
        refine wpAny_setField g2 rfl (by show 2 < 3; omega) ?_
        have g3 := Heap.get?_update_self (Obj.mapFields (·.setIfInBounds 2 (Value.bool true))) g2 rfl
        have gb := ((Heap.SameBut.update s'.heap it (Obj.mapFields (·.setIfInBounds 0 Value.none))).trans (Heap.SameBut.update _ it (Obj.mapFields (·.setIfInBounds 1 Value.none)))).trans (Heap.SameBut.update _ it (Obj.mapFields (·.setIfInBounds 2 (Value.bool true))))
        show wpAny _ _ (newExc (.type "StopIteration") [] >>= _) _ _ _
        refine wpAny_bind ?_
        simp only [newExc, newTuple]
        refine wpAny_bind (wpAny_newObj_type ?_ (by size_fits))
        refine wpAny_bind (m := firstArgMember _ _) (wpAny_of_eq (a := Value.none) (by first | rfl | (simp only [firstArgMember]; rfl)) ?_)
        refine wpAny_newObj_type ?_ (by size_fits)
        simp only [raiseNew]
        refine wpAny_bind (wpAny_handled ?_)
        first | rw [show A.in1.handled = none from hh] | rw [hh]
        refine wpAny_bind (wpAny_pure (wpAny_throw ?_))
        refine wpAny_bind (wpAny_isInstance (T := "StopIteration") (b := true) ⟨_, Heap.get?_push_size _ rfl, rfl⟩ isSubtype_stop ?_)
        refine wpAny_pure (h _ ?_ ?_)
        · exact Heap.get?_push_of_some _ (Heap.get?_push_of_some _ g3)
        · exact fun b o hb e => Heap.get?_push_of_some _ (Heap.get?_push_of_some _ ((gb.2 b hb).trans e))
      · rw [if_neg hx] at h
        have e : (Str.ofString "" == x) = false := by
          rw [beq_eq_false_iff_ne]; exact fun e => hx e.symm
        rw [e, if_pos (by decide)]
        exact wpAny_bind (wpAny_pure (wpAny_pure ⟨_, rfl, wpAny_pure h⟩))
    | _ => exact h.elim
end
end Mine
end

section
open PySem PySem.W PyProof.Rows PySem.Calls Builtin
set_option Elab.async false
set_option maxRecDepth 100000
set_option maxHeartbeats 4000000
namespace Mine
theorem kind_iter : builtinKind "iter" = none := by decide +kernel
theorem plain_iter : plainId "iter" = true := by decide +kernel
theorem entry_iter : entryFor table "iter" = some Builtin.«iter» := entryFor_of_fast (by kernel_rfl)
theorem args_iter2 (a b : Value) : argsOk "iter" ⟨[a, b], []⟩ := by unfold argsOk; kernel_rfl
theorem method_call_lookup : typeLookup (.type "method") "__call__" = pure (some (.builtin "method.__call__")) := by rw [typeLookup_type, builtinLookup_eq_fast]; kernel_rfl
section
variable {prog : Program} {w : World} {A : Around} {E : Value → Shared → Prop} {s : Shared}
theorem iter2 {q : Addr} {f self sent : Value} {Q : Value → Shared → Prop} (hq : s.heap.get? q = some (methodObj f self)) (h : Q (.ref s.heap.objs.size) { s with heap := s.heap.push (citObj (.ref q) sent false) }) : wpAny (model prog w) A (call (.builtin "iter") [.ref q, sent]) Q E s := by
  have hT : s.TypeIs (.ref q) "method" := ⟨_, hq, rfl⟩
  refine Calls.call_function_entry kind_iter plain_iter entry_iter (args_iter2 _ _) ?_
  unfold Builtin.«iter»
  refine wpAny_bind (m := someArgs "iter" 1 2 _) (wpAny_of_eq (a := [.ref q, sent]) rfl ?_)
  dsimp only
  refine wpAny_bind (wpAny_specialOf (name := Str.ofString "__call__") hT method_call_lookup ?_)
  rw [if_neg (by decide)]
  refine wpAny_bind (wpAny_rule ?_)
  refine wpAny_bind ?_
  unfold newFields
  exact wpAny_newObj_type (wpAny_pure ⟨_, rfl, h⟩) (by size_fits)
theorem next_cit_ended {it : Addr} {Q : Option Value → Shared → Prop} (hh : A.handled = none) (hit : s.heap.get? it = some (citObj .none .none true))
    (hQ : ∀ h', Heap.ExtBut it s.heap h' → h'.get? it = some (citObj .none .none true) → Q none { s with heap := h' }) : wpAny (model prog w) A (pyNext (.ref it)) Q E s := by
  have hT : s.TypeIs (.ref it) "callable_iterator" := ⟨_, hit, rfl⟩
  unfold pyNext
  refine wpAny_bind (wpAny_attempt (wpAny_callSpecial?_slot (name := Str.ofString "__next__") hT slot_cit_next
    (wpAny_call_entry slot_cit_next hT entry_cit_next ?_ (args_cit_next _))))
  unfold Builtin.«callable_iterator.__next__»
  refine wpAny_bind (m := slotArgs "__next__" 0 _) (wpAny_pure ?_)
  refine wpAny_bind (wpAny_field hit rfl (x := .bool true) rfl ?_)
  rw [if_pos (by decide)]
  refine wpAny_bind (wpAny_rule ?_)
  refine wpAny_bind ?_
  show wpAny _ _ (newExc (.type "StopIteration") [] >>= _) _ _ _
  refine wpAny_bind ?_
  simp only [newExc, newTuple]
  refine wpAny_bind (wpAny_newObj_type ?_ (by size_fits))
  refine wpAny_bind (m := firstArgMember _ _) (wpAny_of_eq (a := Value.none) (by first | rfl | (simp only [firstArgMember]; rfl)) ?_)
  refine wpAny_newObj_type ?_ (by size_fits)
  simp only [raiseNew]
  refine wpAny_bind (wpAny_handled ?_)
  first | rw [show A.in1.handled = none from hh] | rw [hh]
  refine wpAny_bind (wpAny_pure (wpAny_throw ?_))
  refine wpAny_bind (wpAny_isInstance (T := "StopIteration") (b := true) ⟨_, Heap.get?_push_size _ rfl, rfl⟩ isSubtype_stop ?_)
  exact wpAny_pure (hQ _ (((Heap.ExtBut.refl it s.heap).push _).push _) (Heap.get?_push_of_some _ (Heap.get?_push_of_some _ hit)))
end
end Mine
end

section
open PySem PySem.W PyProof.Rows PySem.Calls
set_option Elab.async false
set_option maxRecDepth 100000
set_option maxHeartbeats 8000000
namespace Mine
section
variable {w : World} {s : Shared} {A : Around} {base g : Heap} {fr : List Env} {mg mb : Str → Option Value} {mean : ExcName → Option Value} {x dx : Addr} {es : List DictEntry} {led : List (Addr × Obj)} {t n : Nat} {R : Result → Shared → Prop}
theorem punct (G : Gd w A base fr mean mg mb g) (hroom : A.depth + 2 < recursionLimit) (k : Ke g s.heap) (S : Sub g s.heap ((x, instObj 764 dx) :: (dx, dictOf es n) :: led)) (hg : getL "_punctuation_chars" es = some (some (.str (Str.ofString "") t)))
    (hR : ∀ h' tk, Ke g h' → Sub g h' ((x, instObj 764 dx) :: (dx, dictOf es n) :: led) → R (.ok (.ret (.str (Str.ofString "") t))) { s with heap := h', toks := tk }) :
    codeAny (model PySem.Challenge.rw_om0137_02.row.prog w) A (.call (.ref 695) ⟨[.ref x], []⟩) R s := by
  have X := G.X
  revert X
  k_fill
  intro X
  refine enterG (binds := [("self", .ref x)]) G S k (by k_is) (by k_is) (by omega) (BindsTo.of_eq rfl) rfl ?_ (by decide) rfl rfl rfl
  intro L' h₁ F' N' hlt
  refine wpAny_execs_cons (wpAny_Return_some (Attribute_Name_ (wpAny_Name (wpAny_loadName_local rfl rfl F'.ns rfl (get_own F' G.X (InstAt.of_news N' (.head _) (.tail _ (.head _))) (by k_is) (by k_is) (by k_is) (by k_is) hg rfl ?_)))))
  exact hR _ _ (Ke.of_fr F') (Sub.of_news N')
end
noncomputable abbrev CxR (w : World) (A : Around) (env : Env) (g : Heap) (L : Addr) (s : Shared) (x dx C n : Addr) (led : List (Addr × Obj)) (T0 : Str) (ln0 : Int) (W : Str) (refs : Nat → Value) : Cx :=
  { prog := PySem.Challenge.rw_om0137_02.row.prog, w := w, A := A, env := env, K := hd.heap_39 w.params, g := g, L := L, s0 := s, x := x, dx := dx, C := C, n := n, led := led, T0 := T0, ln0 := ln0, W := W, refs := refs }
noncomputable def lsR : List Str := ["nextchar", "quoted", "escapedstate", "result"]
noncomputable def namesR : List Str := ["instream", "infile", "posix", "eof", "commenters", "wordchars", "whitespace", "whitespace_split", "quotes", "escape", "escapedquotes", "state", "pushback", "lineno", "debug", "token", "filestack", "source", "_punctuation_chars"]
theorem any_eqS {x : Str} {l : List Str} (h : l.any (eqS x) = true) : x ∈ l := by
  obtain ⟨y, hy, e⟩ := List.any_eq_true.mp h
  rw [eqS_iff.mp e]; exact hy
theorem all_of {P : Str → Prop} : ∀ {l : List Str}, (∀ x ∈ l, P x) ↔ l.foldr (fun x r => P x ∧ r) True
  | [] => by simp
  | a :: l => by simp only [List.foldr, List.mem_cons, forall_eq_or_imp]; rw [all_of]
theorem lsR_ok : ∀ y ∈ lsR, (y == ("__debug__" : Str)) = false ∧ y ≠ Str.ofString "self" := by decide
theorem find_lex (w : World) (f : Str) (hf : f ∈ namesR) : findIn (hd.heap_39 w.params) (.ref 764) f = some none ∧ takerIn (hd.heap_39 w.params) 764 f = some none := by
  have e : PySem.Challenge.rw_om0137_02 = PySem.Challenge.rw_om0137_02 := rfl
  revert e
  k_fill
  intro _
  revert f
  rw [all_of]
  simp only [namesR, List.foldr]
  refine ⟨?_, ?_, ?_, ?_, ?_, ?_, ?_, ?_, ?_, ?_, ?_, ?_, ?_, ?_, ?_, ?_, ?_, ?_, ?_, trivial⟩ <;> (constructor <;> k_is)
theorem cls_lex (w : World) : plainGet (hd.heap_39 w.params) 764 "state" = true ∧ hasDictIn (hd.heap_39 w.params) 764 = true ∧ findIn (hd.heap_39 w.params) (.ref 764) "__setattr__" = some (some (.builtin "object.__setattr__")) ∧ plainOver (hd.heap_39 w.params) 764 = true ∧ nsIn (hd.heap_39 w.params) mainGlobals "ValueError" = some none := by
  have e : PySem.Challenge.rw_om0137_02 = PySem.Challenge.rw_om0137_02 := rfl
  revert e
  k_fill
  intro _
  refine ⟨?_, ?_, ?_, ?_, ?_⟩ <;> k_is
theorem prop_lex (w : World) : ∃ p rest, findIn (hd.heap_39 w.params) (.ref 764) "punctuation_chars" = some (some (.ref p)) ∧ specialIn (hd.heap_39 w.params) (.ref p) "__get__" = some (some (.builtin "property.__get__")) ∧ takesIn (hd.heap_39 w.params) (.ref p) = some true ∧ recIn (hd.heap_39 w.params) p "property" = some (.ref 695 :: rest) := by
  have e : PySem.Challenge.rw_om0137_02 = PySem.Challenge.rw_om0137_02 := rfl
  revert e
  k_fill
  intro _
  exact ⟨_, _, by k_is, by k_is, by k_is, by k_is⟩

section
variable {w : World} {s : Shared} {A : Around} {base g : Heap} {fr : List Env} {mg mb : Str → Option Value} {mean : ExcName → Option Value} {x dx L f : Addr} {led : List (Addr × Obj)} {cn : Str} {cs : Scope} {cd : Value} {T0 W : Str} {ln0 : Int} {refs : Nat → Value} {pc : Bool} {ls : List Str}
theorem ok_lex (G : Gd w A base fr mean mg mb g) (hroom : A.depth + 8 < recursionLimit) (hk : cs.kind = .function) (hl : ∀ x ∈ ls, cs.names.lookup x = some .local) (hls : ∀ y ∈ ls, (y == ("__debug__" : Str)) = false ∧ y ≠ Str.ofString "self") (hsf : cs.names.lookup (Str.ofString "self") = some .local) (hv : pc = true → cs.names.lookup (Str.ofString "ValueError") = some .globalImplicit)
    (hap : x ≠ dx ∧ ∀ p ∈ led, p.1 ≠ dx) (hT : T0.length ≤ 3000) :
    Ok (CxR w (A.deeper (envOf cn cs L f cd)) (envOf cn cs L f cd) g L s x dx 764 19 led T0 ln0 W refs) pc ls namesR where
  X := G.X
  kind := hk
  locals := rfl
  isLoc := fun y hy => ⟨hl y (any_eqS hy), hls y (any_eqS hy)⟩
  self := hsf
  apart := hap
  plain := fun _ => (cls_lex w).1
  dict := (cls_lex w).2.1
  find := fun f hf => ⟨none, (find_lex w f (any_eqS hf)).1, rfl⟩
  setter := (cls_lex w).2.2.1
  over := (cls_lex w).2.2.2.1
  taker := fun f hf => (find_lex w f (any_eqS hf)).2
  small := hT
  prop := by
    intro _ μ s' Q E hp R q
    obtain ⟨h, tk, m, es, rfl, F, l, sf, fr', N⟩ := R
    obtain ⟨p, rest, p1, p2, p3, p4⟩ := prop_lex w
    obtain ⟨u, eu, t, rfl⟩ := getL_of fr' hp
    refine get_prop F G.X (InstAt.of_news N (.head _) (.tail _ (.head _))) (cls_lex w).1 (cls_lex w).2.1 p1 p2 p3 p4 ?_
    obtain ⟨G', S', k', back⟩ := pushY (A := (A.deeper (envOf cn cs L f cd)).in1) (s := { s with heap := h, toks := tk + 1 }) G.B F N (Around.frames_deeper G.B.stack) rfl hk G.X G.T
    refine punct G' (by simp only [depth_in1, depth_deeper]; omega) k' S' eu fun h' tk' k2 S2 => ?_
    obtain ⟨F2, N2⟩ := back [] News.nil (fun _ hp => nomatch hp) h' _ k2 S2
    rw [List.append_nil] at N2
    refine wpAny_of_eq (a := _) (handedOut_of rfl) ?_
    exact q t _ ⟨h', tk', m, es, rfl, F2, l, sf, fr', N2⟩
  valErr := by
    intro hpc s' pos Q E μ R q
    have R' := R
    obtain ⟨h, tk, m, es, rfl, F, l, sf, fr', N⟩ := R
    exact ld_builtin_at F G.T.g (mg_none_of G.X G.T.g (cls_lex w).2.2.2.2) G.T.b ((G.T.builtins _ (by decide)).trans (by boot_by_name)) (q _ R') hk (hv hpc) (by decide)
end
end Mine
end

section
open PySem PySem.W PyProof.Rows PySem.Calls
set_option Elab.async false
set_option maxRecDepth 100000
set_option maxHeartbeats 8000000
namespace Mine
noncomputable def clsBody (c : Str) : List Stmt → List Stmt
  | [] => []
  | .ClassDef n _ _ b _ _ _ _ _ _ _ :: r => if eqS n c then b else clsBody c r
  | _ :: r => clsBody c r
noncomputable def defBody (c : Str) : List Stmt → List Stmt
  | [] => []
  | .FunctionDef n _ b _ _ _ _ _ _ _ :: r => if eqS n c then b else defBody c r
  | _ :: r => defBody c r
noncomputable def rtBody : List Stmt := defBody "read_token" (clsBody "shlex" PySem.Challenge.rw_om0137_02.row.prog.main.body)
noncomputable def rtTurn : List Stmt := match rtBody with
  | [_, _, .While _ b _ _, _, _, _, _, _] => b
  | _ => []
noncomputable def rtRest : List Stmt := rtTurn.drop 1
noncomputable def wdL : List Nat := sL (Str.ofString "abcdfeghijklmnopqrstuvwxyzABCDEFGHIJKLMNOPQRSTUVWXYZ0123456789_ßàáâãäåæçèéêëìíîïðñòóôõöøùúûüýþÿÀÁÂÃÄÅÆÇÈÉÊËÌÍÎÏÐÑÒÓÔÕÖØÙÚÛÜÝÞ")
noncomputable def lf (st tok ln : V) (wc : Nat) (wb : Bool) (Qs Cs : List Nat) (ws : Bool) : List (Str × V) := [("instream", .obj 0), ("infile", .none), ("posix", .bool true), ("eof", .none), ("commenters", .str Cs),
  ("wordchars", .str wdL),
  ("whitespace", .whites wc wb), ("whitespace_split", .bool ws), ("quotes", .str Qs), ("escape", .str [92]), ("escapedquotes", .str [34]), ("state", st), ("pushback", .obj 1), ("lineno", ln), ("debug", .int 0), ("token", tok), ("filestack", .obj 2), ("source", .none), ("_punctuation_chars", .str [])]
noncomputable def stV : Option Nat → V
  | none => .none
  | some k => .str [k]
noncomputable def ncV : Option Nat → V
  | none => .str []
  | some c => .str [c]
/-- a turn of read_token's loop -/
structure Stp where
  f : Fl
  es : Nat
  q : Bool
  st : Option Nat
  set : Bool
  add : List Nat
noncomputable def stepC (qs : List Nat) (wh : Bool) (st : Option Nat) (es : Nat) (q ne : Bool) (c : Option Nat) : Stp := match st with
  | none => ⟨.brk, es, q, none, true, []⟩
  | some k => match c with
    | none => if qs.contains k || k == 92 then ⟨.exc, es, q || qs.contains k, st, false, []⟩ else ⟨.brk, es, q, none, false, []⟩
    | some c =>
      if k == 32 then
        (if wh then ⟨if ne || q then .brk else .cont, es, q, st, false, []⟩
        else if c == 92 then ⟨.next, 97, q, some 92, false, []⟩
        else if qs.contains c then ⟨.next, es, q, some c, false, []⟩
        else ⟨.next, es, q, some 97, true, [c]⟩)
      else if qs.contains k then
        (if c == k then ⟨.next, es, true, some 97, false, []⟩
        else if c == 92 && k == 34 then ⟨.next, k, true, some 92, false, []⟩
        else ⟨.next, es, true, st, false, [c]⟩)
      else if k == 92 then ⟨.next, es, q, some es, false, if qs.contains es && c != 92 && c != es then [92, c] else [c]⟩
      else if wh then ⟨if ne || q then .brk else .cont, es, q, some 32, false, []⟩
      else if qs.contains c then ⟨.next, es, q, some c, false, []⟩
      else if c == 92 then ⟨.next, 97, q, some 92, false, []⟩
      else ⟨.next, es, q, st, false, [c]⟩
noncomputable def m0 (st : Option Nat) (ne : Bool) (es : Nat) (q : Bool) (c : Option Nat) (wb : Bool) (Qs Cs : List Nat) (ws : Bool) : MS := ⟨true, lsR, [("nextchar", ncV c), ("escapedstate", .str [es]), ("quoted", .bool q)], lf (stV st) (.acc ne []) (.row 0) (c.getD 0) wb Qs Cs ws⟩
noncomputable def sameF : List (Str × V) → List (Str × V) → Bool
  | [], [] => true
  | (x, v) :: r, (y, u) :: r' => eqS x y && decide (v = u) && sameF r r'
  | _, _ => false
theorem sameF_eq : ∀ {l l' : List (Str × V)}, sameF l l' = true → l = l'
  | [], [], _ => rfl
  | (x, v) :: r, (y, u) :: r', h => by
    unfold sameF at h
    rw [Bool.and_eq_true, Bool.and_eq_true] at h
    rw [eqS_iff.mp h.1.1, of_decide_eq_true h.1.2, sameF_eq h.2]
  | [], _ :: _, h => nomatch h
  | _ :: _, [], h => nomatch h
noncomputable def chk (Qs Cs : List Nat) (ws : Bool) (sts : List (Option Nat)) (ess : List Nat) (wb : Bool) (st : Option Nat) (es : Nat) (q ne : Bool) (c : Option Nat) : Bool :=
  let z := stepC Qs wb st es q ne c
  match exS 40 (m0 st ne es q c wb Qs Cs ws) rtRest with
  | none => false
  | some (f, μ) => decide (f = z.f) && decide (lookS "escapedstate" μ.loc = some (.str [z.es])) && decide (lookS "quoted" μ.loc = some (.bool z.q)) &&
    sameF μ.fld (lf (stV z.st) (if z.set then .str z.add else .acc ne z.add) (.row (if c == some 10 then 1 else 0)) (c.getD 0) wb Qs Cs ws) && ess.contains z.es && (sts.contains z.st || decide (z.f = .exc)) && (decide (z.f = .brk) || decide (z.f = .exc) || z.st.isSome && c.isSome) && decide (z.add.length ≤ 2)
noncomputable def bools : List Bool := [true, false]
noncomputable def alpha1 : List Nat := [97, 32, 92, 34, 39, 10, 98, 9, 35, 13, 233, 160]
noncomputable def sts1 : List (Option Nat) := [none, some 32, some 97, some 92]
noncomputable def ess1 : List Nat := [32, 97]
/-- the signs that W holds -/
noncomputable def whW (W : Str) (c : Nat) : Bool := has W (sg c)
theorem tab0 : (bools.all fun wb => sts1.all fun st => ess1.all fun es => bools.all fun q => bools.all fun ne => chk [] [] true sts1 ess1 wb st es q ne none) = true := by decide +kernel
theorem tab1a : (bools.all fun wb => ([97, 32, 92, 34, 39, 10] : List Nat).all fun c => sts1.all fun st => ess1.all fun es => bools.all fun q => bools.all fun ne => chk [] [] true sts1 ess1 wb st es q ne (some c)) = true := by decide +kernel
theorem tab1b : (bools.all fun wb => ([98, 9, 35, 13, 233, 160] : List Nat).all fun c => sts1.all fun st => ess1.all fun es => bools.all fun q => bools.all fun ne => chk [] [] true sts1 ess1 wb st es q ne (some c)) = true := by decide +kernel
end Mine
end

section
open PySem PySem.W PyProof.Rows PySem.Calls
set_option Elab.async false
set_option maxRecDepth 100000
set_option maxHeartbeats 8000000
namespace Mine
theorem Rep.congr {Γ Γ' : Cx} {v : V} {u : Value} (h1 : Γ'.T0 = Γ.T0) (h2 : Γ'.ln0 = Γ.ln0) (h3 : Γ'.W = Γ.W) (h4 : Γ'.refs = Γ.refs) (h : Rep Γ v u) : Rep Γ' v u := by
  cases v <;> simp only [Rep] at h ⊢ <;> (try rw [h1]) <;> (try rw [h2]) <;> (try rw [h3]) <;> (try rw [h4]) <;> exact h
inductive Conv (Γ Γ' : Cx) : List (Str × V) → List (Str × V) → Prop
  | nil : Conv Γ Γ' [] []
  | cons {f v v' r r'} : (∀ u, Rep Γ v u → Rep Γ' v' u) → Conv Γ Γ' r r' → Conv Γ Γ' ((f, v) :: r) ((f, v') :: r')
theorem FldRep.conv {Γ Γ' : Cx} {l l' : List (Str × V)} (c : Conv Γ Γ' l l') : ∀ {es : List DictEntry}, FldRep Γ l es → FldRep Γ' l' es := by
  induction c with
  | nil => intro es h; cases h; exact .nil
  | cons a _ ih => intro es h; cases h with | cons b d => exact .cons (a _ b) (ih d)
theorem Conv.same {Γ Γ' : Cx} (h1 : Γ'.T0 = Γ.T0) (h2 : Γ'.ln0 = Γ.ln0) (h3 : Γ'.W = Γ.W) (h4 : Γ'.refs = Γ.refs) : ∀ l, Conv Γ Γ' l l
  | [] => .nil
  | (_, _) :: r => .cons (fun _ h => h.congr h1 h2 h3 h4) (Conv.same h1 h2 h3 h4 r)
theorem lf_conv {Γ Γ' : Cx} {st tok ln st' tok' ln' : V} {wc wc' : Nat} {wb wb' : Bool} {Qs Cs : List Nat} {ws : Bool} (h4 : Γ'.refs = Γ.refs) (hs : ∀ u, Rep Γ st u → Rep Γ' st' u) (ht : ∀ u, Rep Γ tok u → Rep Γ' tok' u) (hl : ∀ u, Rep Γ ln u → Rep Γ' ln' u) (hw : ∀ u, Rep Γ (.whites wc wb) u → Rep Γ' (.whites wc' wb') u) :
    Conv Γ Γ' (lf st tok ln wc wb Qs Cs ws) (lf st' tok' ln' wc' wb' Qs Cs ws) := by
  have ho : ∀ k u, Rep Γ (.obj k) u → Rep Γ' (.obj k) u := fun k u h => by simp only [Rep] at h ⊢; rw [h4]; exact h
  exact .cons (ho 0) (.cons (fun _ h => h) (.cons (fun _ h => h) (.cons (fun _ h => h) (.cons (fun _ h => h) (.cons (fun _ h => h) (.cons hw (.cons (fun _ h => h) (.cons (fun _ h => h) (.cons (fun _ h => h) (.cons (fun _ h => h) (.cons hs (.cons (ho 1) (.cons hl (.cons (fun _ h => h) (.cons ht (.cons (ho 2) (.cons (fun _ h => h) (.cons (fun _ h => h) .nil))))))))))))))))))
theorem LocRep.congr {Γ Γ' : Cx} {loc : List (Str × V)} {m : Str → Option Value} (h1 : Γ'.T0 = Γ.T0) (h2 : Γ'.ln0 = Γ.ln0) (h3 : Γ'.W = Γ.W) (h4 : Γ'.refs = Γ.refs) (h : LocRep Γ loc m) : LocRep Γ' loc m :=
  fun x v e => let ⟨u, e', r⟩ := h x v e; ⟨u, e', r.congr h1 h2 h3 h4⟩
/-- the io part of the ledger -/
structure IO where
  io : Addr
  dio : Addr
  h1 : Int
  h2 : Int
  h3 : Int
  t1 : Nat
  t2 : Nat
  t3 : Nat
  t4 : Nat
  t5 : Nat
  buf : Str
noncomputable abbrev IO.led (i : IO) (p t6 : Nat) : List (Addr × Obj) := [(i.io, instObj 629 i.dio), (i.dio, ioDict i.h1 i.h2 i.h3 i.t1 i.t2 i.t3 i.t4 i.t5 t6 i.buf p)]
theorem read_lex (w : World) : plainGet (hd.heap_39 w.params) 629 "read" = true ∧ findIn (hd.heap_39 w.params) (.ref 629) "read" = some (some (.ref 575)) ∧ isFn (hd.heap_39 w.params) (.ref 575) = true ∧ keepIn (hd.heap_39 w.params) (.ref 575) = true := by
  have e : PySem.Challenge.rw_om0137_02 = PySem.Challenge.rw_om0137_02 := rfl
  revert e
  k_fill
  intro _
  refine ⟨?_, ?_, ?_, ?_⟩ <;> k_is
section
variable {w : World} {s s' : Shared} {A : Around} {base g : Heap} {fr : List Env} {mg mb : Str → Option Value} {mean : ExcName → Option Value} {x dx L f : Addr} {cn : Str} {cs : Scope} {cd : Value} {T0 W : Str} {ln0 : Int} {refs : Nat → Value} {i : IO} {p t6 : Nat} {μ : MS} {E : Value → Shared → Prop} {ls names : List Str}
/-- self.instream.read(1) -/
theorem readE_ok (G : Gd w A base fr mean mg mb g) (hroom : A.depth + 8 < recursionLimit) (hk : cs.kind = .function) (C n : Addr)
    (O : Ok (CxR w (A.deeper (envOf cn cs L f cd)) (envOf cn cs L f cd) g L s x dx C n (i.led p t6) T0 ln0 W refs) pc ls names) (HN : NamesOk μ ls names) (hin : lookS "instream" μ.fld = some (.obj 0)) (h0 : refs 0 = .ref i.io)
    (hne : i.io ≠ i.dio ∧ i.io ≠ x ∧ i.io ≠ dx ∧ i.dio ≠ x ∧ i.dio ≠ dx) (hp : p ≤ 1000) (hb : i.buf.length ≤ 1000)
    (R : Rel (CxR w (A.deeper (envOf cn cs L f cd)) (envOf cn cs L f cd) g L s x dx C n (i.led p t6) T0 ln0 W refs) μ s') {p2 p3 p4 p5 p6 : Pos} {k : Nat} {Q : Value → Shared → Prop} {pl : Sem Bool}
    (he : eval (.Call (.Attribute (.Attribute (.Name (Str.ofString "self") p2) (Str.ofString "instream") p3) (Str.ofString "read") p4) [.Constant (.int 1) k p5] [] p6) (envOf cn cs L f cd) = (do
      let ov ← eval (.Attribute (.Name (Str.ofString "self") p2) (Str.ofString "instream") p3) (envOf cn cs L f cd)
      standAt p4.atName
      let (fz, first) ← holding [ov] (getMethod ov (Str.ofString "read") pl)
      callWith p6 fz first (backTo p6 (starEach [.Constant (.int 1) k p5] (envOf cn cs L f cd))) []))
    (hN : (sL i.buf).drop p = [] → ∀ s'' t, Rel (CxR w (A.deeper (envOf cn cs L f cd)) (envOf cn cs L f cd) g L s x dx C n (i.led p t6) T0 ln0 W refs) μ s'' → Q (.str (ofL []) t) s'')
    (hC : ∀ c r t6', (sL i.buf).drop p = c :: r → ∀ s'' t, Rel (CxR w (A.deeper (envOf cn cs L f cd)) (envOf cn cs L f cd) g L s x dx C n (i.led (p + 1) t6') T0 ln0 W refs) μ s'' → Q (.str (ofL [c]) t) s'') :
    wpAny (model PySem.Challenge.rw_om0137_02.row.prog w) (A.deeper (envOf cn cs L f cd)) (eval (.Call (.Attribute (.Attribute (.Name (Str.ofString "self") p2) (Str.ofString "instream") p3) (Str.ofString "read") p4) [.Constant (.int 1) k p5] [] p6) (envOf cn cs L f cd)) Q E s' := by
  obtain ⟨r1, r2, r3, r4⟩ := read_lex w
  refine MethodCall_ (pl := pl) (Attribute_Name_ (self_ok O R (get_ok O R HN.2.1 hin fun u s2 ru R2 => ?_))) he
  obtain ⟨rfl, -⟩ := ru
  obtain ⟨h, tk, m, es, rfl, F, l, sf, fr', N⟩ := R2
  show wpAny _ _ (getMethod (refs 0) _ _) _ _ _
  rw [h0]
  refine method_inst F G.X (InstAt.of_news N (.tail _ (.tail _ (.head _))) (.tail _ (.tail _ (.tail _ (.head _))))) r1 r2 r3 rfl ?_
  refine callWith_K G.X r4 (spliced_more (wpAny_Constant_int (spliced_none ⟨G.X.keeps F.keep, ?_⟩)))
  refine read_K (A₀ := A) (p := p) (h1 := i.h1) (h2 := i.h2) (h3 := i.h3) (t1 := i.t1) (t2 := i.t2) (t3 := i.t3) (t4 := i.t4) (t5 := i.t5) (t6 := t6) (buf := i.buf) (rest := [(x, instObj C dx), (dx, dictOf es n)]) (io := i.io) (dio := i.dio) G.B F G.X G.T (fun q hq => N q ?_) (Around.frames_deeper G.B.stack) rfl hk (by simp only [depth_deeper]; omega) hne.1 ?_ ?_ hp hb ?_ ?_
  · simp only [List.mem_cons, List.not_mem_nil, or_false] at hq ⊢
    rcases hq with h | h | h | h <;> simp [h]
  · intro q hq
    simp only [List.mem_cons, List.not_mem_nil, or_false] at hq
    rcases hq with h | h <;> rw [h]
    · exact Ne.symm hne.2.1
    · exact Ne.symm hne.2.2.1
  · intro q hq
    simp only [List.mem_cons, List.not_mem_nil, or_false] at hq
    rcases hq with h | h <;> rw [h]
    · exact Ne.symm hne.2.2.2.1
    · exact Ne.symm hne.2.2.2.2
  · intro hD h' tk' t' F' N'
    refine hN hD _ _ ⟨h', tk', m, es, rfl, F', l, sf, fr', fun q hq => N' q ?_⟩
    simp only [List.mem_cons, List.not_mem_nil, or_false] at hq ⊢
    rcases hq with h | h | h | h <;> simp [h]
  · intro c r hD h' tk' t' t6' F' N'
    have cv : Conv (CxR w (A.deeper (envOf cn cs L f cd)) (envOf cn cs L f cd) g L s x dx C n (i.led p t6) T0 ln0 W refs) (CxR w (A.deeper (envOf cn cs L f cd)) (envOf cn cs L f cd) g L s x dx C n (i.led (p + 1) t6') T0 ln0 W refs) μ.fld μ.fld := by apply Conv.same <;> rfl
    refine hC c r t6' hD _ _ ⟨h', tk', m, es, rfl, F', (by apply LocRep.congr (h := l) <;> rfl), sf, fr'.conv cv, fun q hq => N' q ?_⟩
    simp only [List.mem_cons, List.not_mem_nil, or_false] at hq ⊢
    rcases hq with h | h | h | h <;> simp [h]
end
end Mine
end

section
open PySem PySem.W PyProof.Rows PySem.Calls
set_option Elab.async false
set_option maxRecDepth 100000
set_option maxHeartbeats 8000000
namespace Mine
inductive Out where
  | brk (r : List Nat) (st : Option Nat) (ln : Int) (tok : List Nat) (q : Bool)
  | bad
noncomputable def newTok (z : Stp) (tok : List Nat) : List Nat := if z.set then z.add else tok ++ z.add
/-- read_token's loop -/
noncomputable def run (qs : List Nat) (wh : Nat → Bool) : List Nat → Option Nat → Nat → Bool → List Nat → Int → Out
  | [], st, es, q, tok, ln =>
    let z := stepC qs false st es q (!tok.isEmpty) none
    if z.f = .brk then .brk [] z.st ln (newTok z tok) z.q else .bad
  | c :: r, st, es, q, tok, ln =>
    let z := stepC qs (wh c) st es q (!tok.isEmpty) (some c)
    let ln' := if c == 10 then ln + 1 else ln
    if z.f = .brk then .brk r z.st ln' (newTok z tok) z.q else if z.f = .exc then .bad else run qs wh r z.st z.es z.q (newTok z tok) ln'
noncomputable def rt0B : List Stmt := match rtTurn with
  | .If _ b _ _ :: _ => b
  | _ => []
theorem rtTurn_eq : rtTurn = .If (.BoolOp .And [.Attribute (.Name (Str.ofString "self") ⟨615, 15, 615, 19⟩) (Str.ofString "punctuation_chars") ⟨615, 15, 615, 37⟩, .Attribute (.Name (Str.ofString "self") ⟨615, 42, 615, 46⟩) (Str.ofString "_pushback_chars") ⟨615, 42, 615, 62⟩] ⟨615, 15, 615, 62⟩)
    rt0B [.Assign [.Name (Str.ofString "nextchar") ⟨618, 16, 618, 24⟩] (.Call (.Attribute (.Attribute (.Name (Str.ofString "self") ⟨618, 27, 618, 31⟩) (Str.ofString "instream") ⟨618, 27, 618, 40⟩) (Str.ofString "read") ⟨618, 27, 618, 45⟩) [.Constant (.int 1) 0 ⟨618, 46, 618, 47⟩] [] ⟨618, 27, 618, 48⟩) ⟨618, 16, 618, 48⟩] ⟨615, 12, 618, 48⟩ :: rtRest := by kernel_rfl
/-- ahead of a turn -/
noncomputable def μI (Qs Cs : List Nat) (ws : Bool) (ne : Bool) (st : Option Nat) (es : Nat) (q : Bool) : MS := ⟨true, lsR, [("escapedstate", .str [es]), ("quoted", .bool q)], lf (stV st) (.acc ne []) (.row 0) 0 false Qs Cs ws⟩
theorem lf_names {st tok ln : V} {wc : Nat} {wb : Bool} {Qs Cs : List Nat} {ws : Bool} {f : Str} {v : V} (h : lookS f (lf st tok ln wc wb Qs Cs ws) = some v) : namesR.any (eqS f) = true := by
  have aux : ∀ (l : List (Str × V)) (names : List Str), l.map (·.1) = names → lookS f l = some v → names.any (eqS f) = true := by
    intro l
    induction l with
    | nil => intro names _ h; cases h
    | cons p l ih =>
      intro names e h
      subst e
      obtain ⟨y, u⟩ := p
      unfold lookS at h
      rw [List.map_cons, List.any_cons]
      split at h
      · rename_i hy
        rw [eqS_iff.mp hy, eqS_iff.mpr rfl]; rfl
      · rw [ih _ rfl h, Bool.or_true]
  exact aux _ _ rfl h
theorem names_lf {st tok ln : V} {wc : Nat} {wb : Bool} {Qs Cs : List Nat} {ws : Bool} {loc : List (Str × V)} : NamesOk ⟨true, lsR, loc, lf st tok ln wc wb Qs Cs ws⟩ lsR namesR :=
  ⟨rfl, fun _ _ h => lf_names h, by show 19 ≤ 100; omega⟩
theorem pun_lf {st tok ln : V} {wc : Nat} {wb : Bool} {Qs Cs : List Nat} {ws : Bool} : lookS "_punctuation_chars" (lf st tok ln wc wb Qs Cs ws) = some (.str []) := by kernel_rfl
theorem ins_lf {st tok ln : V} {wc : Nat} {wb : Bool} {Qs Cs : List Nat} {ws : Bool} : lookS "instream" (lf st tok ln wc wb Qs Cs ws) = some (.obj 0) := by kernel_rfl
theorem test0 {μ : MS} {e : Expr} {p1 p2 p3 : Pos} (hp : μ.pc = true) (h : lookS "_punctuation_chars" μ.fld = some (.str [])) : evT 5 μ (.BoolOp .And [.Attribute (.Name (Str.ofString "self") p1) (Str.ofString "punctuation_chars") p2, e] p3) = some false := by
  have h1 : evE μ (.Attribute (.Name (Str.ofString "self") p1) (Str.ofString "punctuation_chars") p2) = some (.str []) := by
    show (if eqS (Str.ofString "self") "self" then (if eqS (Str.ofString "punctuation_chars") "punctuation_chars" then (if μ.pc = true ∧ lookS "_punctuation_chars" μ.fld = some (.str []) then some (.str []) else none) else lookS (Str.ofString "punctuation_chars") μ.fld) else none) = some (V.str [])
    have e1 : eqS (Str.ofString "self") "self" = true := eqS_iff.mpr rfl
    have e2 : eqS (Str.ofString "punctuation_chars") "punctuation_chars" = true := eqS_iff.mpr rfl
    rw [if_pos e1, if_pos e2, if_pos ⟨hp, h⟩]
  simp only [evT, h1, Option.bind_some, truth]
  rfl
theorem len_ofL (l : List Nat) : (ofL l).length = l.length := List.size_toArray ..
theorem ne_ofL (l : List Nat) : ((ofL l).length != 0) = !l.isEmpty := by
  rw [len_ofL]
  cases l <;> rfl
theorem app_ofL (l r : List Nat) : ofL l ++ ofL r = ofL (l ++ r) := by
  show (⟨l.toArray ++ r.toArray⟩ : Str) = ⟨(l ++ r).toArray⟩
  simp
end Mine
end

section
open PySem PySem.W PyProof.Rows PySem.Calls
set_option Elab.async false
set_option maxRecDepth 100000
set_option maxHeartbeats 8000000
namespace Mine
theorem chk_elim {Qs Cs : List Nat} {ws : Bool} {sts : List (Option Nat)} {ess : List Nat} {wb : Bool} {st : Option Nat} {es : Nat} {q ne : Bool} {c : Option Nat} (h : chk Qs Cs ws sts ess wb st es q ne c = true) :
    ∃ μ, exS 40 (m0 st ne es q c wb Qs Cs ws) rtRest = some ((stepC Qs wb st es q ne c).f, μ) ∧ lookS "escapedstate" μ.loc = some (.str [(stepC Qs wb st es q ne c).es]) ∧ lookS "quoted" μ.loc = some (.bool (stepC Qs wb st es q ne c).q) ∧
      μ.fld = lf (stV (stepC Qs wb st es q ne c).st) (if (stepC Qs wb st es q ne c).set then .str (stepC Qs wb st es q ne c).add else .acc ne (stepC Qs wb st es q ne c).add) (.row (if c == some 10 then 1 else 0)) (c.getD 0) wb Qs Cs ws ∧
      (stepC Qs wb st es q ne c).es ∈ ess ∧ ((stepC Qs wb st es q ne c).f ≠ .exc → (stepC Qs wb st es q ne c).st ∈ sts) ∧ ((stepC Qs wb st es q ne c).f ≠ .brk → (stepC Qs wb st es q ne c).f ≠ .exc → c.isSome = true) ∧ (stepC Qs wb st es q ne c).add.length ≤ 2 := by
  unfold chk at h
  dsimp only at h
  split at h
  · cases h
  · rename_i f μ hx
    simp only [Bool.and_eq_true, Bool.or_eq_true, decide_eq_true_eq] at h
    obtain ⟨⟨⟨⟨⟨⟨⟨h1, h2⟩, h3⟩, h4⟩, h5⟩, h6⟩, h7⟩, h8⟩ := h
    subst h1
    refine ⟨μ, hx, h2, h3, sameF_eq h4, List.contains_iff_mem.mp h5, fun hn => ?_, fun hb hn => ?_, h8⟩
    · rcases h6 with h | h
      · exact List.contains_iff_mem.mp h
      · exact absurd h hn
    · rcases h7 with (h | h) | h
      · exact absurd h hb
      · exact absurd h hn
      · exact h.2
theorem chk1 {W : Str} {c : Option Nat} {st : Option Nat} {es : Nat} {q ne : Bool} (hc : ∀ k, c = some k → k ∈ alpha1) (hs : st ∈ sts1) (he : es ∈ ess1) : chk [] [] true sts1 ess1 ((c.map (whW W)).getD false) st es q ne c = true := by
  have hb : ∀ b : Bool, b ∈ bools := by decide
  generalize (c.map (whW W)).getD false = wb
  cases c with
  | none => exact List.all_eq_true.mp (List.all_eq_true.mp (List.all_eq_true.mp (List.all_eq_true.mp (List.all_eq_true.mp tab0 wb (hb wb)) st hs) es he) q (hb q)) ne (hb ne)
  | some k =>
    have hm : k ∈ ([97, 32, 92, 34, 39, 10] : List Nat) ∨ k ∈ ([98, 9, 35, 13, 233, 160] : List Nat) := by
      have := hc k rfl
      revert this
      simp only [alpha1, List.mem_cons, List.not_mem_nil, or_false]
      intro h
      rcases h with h | h | h | h | h | h | h | h | h | h | h | h <;> simp [h]
    rcases hm with h | h
    · exact List.all_eq_true.mp (List.all_eq_true.mp (List.all_eq_true.mp (List.all_eq_true.mp (List.all_eq_true.mp (List.all_eq_true.mp tab1a wb (hb wb)) k h) st hs) es he) q (hb q)) ne (hb ne)
    · exact List.all_eq_true.mp (List.all_eq_true.mp (List.all_eq_true.mp (List.all_eq_true.mp (List.all_eq_true.mp (List.all_eq_true.mp tab1b wb (hb wb)) k h) st hs) es he) q (hb q)) ne (hb ne)
section
variable {w : World} {s s' : Shared} {A : Around} {base g : Heap} {fr : List Env} {mg mb : Str → Option Value} {mean : ExcName → Option Value} {x dx L f : Addr} {cn : Str} {cs : Scope} {cd : Value} {W : Str} {refs : Nat → Value} {i : IO} {p t6 : Nat} {μ : MS} {E : Value → Shared → Prop}
  {st : Option Nat} {es : Nat} {q : Bool} {tok : List Nat} {ln : Int}
/-- the rest of a turn -/
theorem rest1 (G : Gd w A base fr mean mg mb g) (hroom : A.depth + 8 < recursionLimit) (hk : cs.kind = .function) (hl : ∀ x ∈ lsR, cs.names.lookup x = some .local) (hsf : cs.names.lookup (Str.ofString "self") = some .local) (hv : cs.names.lookup (Str.ofString "ValueError") = some .globalImplicit)
    (hap : x ≠ dx ∧ ∀ r ∈ i.led p t6, r.1 ≠ dx) {c : Option Nat} (hc : ∀ k, c = some k → k ∈ alpha1) (hs : st ∈ sts1) (he : es ∈ ess1) (hW : has W (sg (c.getD 0)) = (c.map (whW W)).getD false) (hT : tok.length ≤ 2000) (h0 : has W (sg 0) = false)
    (R : Rel (CxR w (A.deeper (envOf cn cs L f cd)) (envOf cn cs L f cd) g L s x dx 764 19 (i.led p t6) (ofL tok) ln W refs) { μI [] [] true (!tok.isEmpty) st es q with loc := (Str.ofString "nextchar", ncV c) :: (μI [] [] true (!tok.isEmpty) st es q).loc } s') {Q : Flow → Shared → Prop}
    (z : Stp) (hz : z = stepC [] ((c.map (whW W)).getD false) st es q (!tok.isEmpty) c)
    (q1 : ∀ fl s'', (z.f = .brk ∧ fl = .brk ∨ (z.f ≠ .brk ∧ z.f ≠ .exc ∧ c.isSome = true) ∧ (fl = .next ∨ fl = .cont)) → z.st ∈ sts1 → z.es ∈ ess1 → z.add.length ≤ 2 →
      Rel (CxR w (A.deeper (envOf cn cs L f cd)) (envOf cn cs L f cd) g L s x dx 764 19 (i.led p t6) (ofL (newTok z tok)) (if c == some 10 then ln + 1 else ln) W refs) (μI [] [] true (!(newTok z tok).isEmpty) z.st z.es z.q) s'' → Q fl s'')
    (q2 : z.f = .exc → A.handled = none ∧ ∀ e s'' μ', ExcAt (CxR w (A.deeper (envOf cn cs L f cd)) (envOf cn cs L f cd) g L s x dx 764 19 (i.led p t6) (ofL tok) ln W refs) μ' e s'' → E e s'') :
    wpAny (model PySem.Challenge.rw_om0137_02.row.prog w) (A.deeper (envOf cn cs L f cd)) (execs rtRest (envOf cn cs L f cd)) Q E s' := by
  have O : Ok (CxR w (A.deeper (envOf cn cs L f cd)) (envOf cn cs L f cd) g L s x dx 764 19 (i.led p t6) (ofL tok) ln W refs) true lsR namesR :=
    ok_lex G hroom hk hl lsR_ok hsf (fun _ => hv) hap (by rw [len_ofL]; omega)
  obtain ⟨μ', hx, e1, e2, e3, e4, e5, e6, e7⟩ := chk_elim (chk1 (q := q) (ne := !tok.isEmpty) hc hs he)
  rw [← hz] at hx e1 e2 e3 e4 e5 e6 e7
  have R0 : Rel (CxR w (A.deeper (envOf cn cs L f cd)) (envOf cn cs L f cd) g L s x dx 764 19 (i.led p t6) (ofL tok) ln W refs) (m0 st (!tok.isEmpty) es q c ((c.map (whW W)).getD false) [] [] true) s' := by
    obtain ⟨h, tk, m, es', rfl, F, l, sf, fr', N⟩ := R
    refine ⟨h, tk, m, es', rfl, F, l, sf, fr'.conv (lf_conv rfl (fun _ h => h) (fun _ h => h) (fun _ h => h) fun u hu => ?_), N⟩
    exact ⟨hW, hu.2⟩
  refine exS_ok O 40 rfl names_lf hx R0 (fun fl s'' hf R' => ?_) (fun hexc => ⟨(q2 hexc).1, fun e s'' he => (q2 hexc).2 e s'' μ' he⟩)
  have hfl : z.f = .brk ∧ fl = .brk ∨ (z.f ≠ .brk ∧ z.f ≠ .exc ∧ c.isSome = true) ∧ (fl = .next ∨ fl = .cont) := by
    cases hzf : z.f with
    | brk => rw [hzf] at hf; exact .inl ⟨rfl, hf⟩
    | next => rw [hzf] at hf e6; exact .inr ⟨⟨by simp, by simp, e6 (by simp) (by simp)⟩, .inl hf⟩
    | cont => rw [hzf] at hf e6; exact .inr ⟨⟨by simp, by simp, e6 (by simp) (by simp)⟩, .inr hf⟩
    | exc => rw [hzf] at hf; exact hf.elim
    | ret v =>
      exfalso
      rw [hz] at hzf
      revert hzf
      unfold stepC
      repeat' split
      all_goals (intro h; cases h)
  have hne : z.f ≠ .exc := by rcases hfl with h | h <;> simp_all
  refine q1 fl s'' hfl (e5 hne) e4 e7 ?_
  obtain ⟨h, tk, m, es', rfl, F, l, sf, fr', N⟩ := R'
  rw [e3] at fr'
  refine ⟨h, tk, m, es', rfl, F, ?_, sf, ?_, N⟩
  · intro y v hy
    unfold μI at hy
    simp only [lookS] at hy
    split at hy
    · rename_i h1
      obtain rfl := eqS_iff.mp h1
      cases hy
      obtain ⟨u, hu, ru⟩ := l _ _ e1
      exact ⟨u, hu, ru⟩
    · split at hy
      · rename_i h1
        obtain rfl := eqS_iff.mp h1
        cases hy
        obtain ⟨u, hu, ru⟩ := l _ _ e2
        exact ⟨u, hu, ru⟩
      · cases hy
  · refine FldRep.conv (lf_conv ?_ (fun u hu => ?_) (fun u hu => ?_) (fun u hu => ?_) fun u hu => ?_) fr'
    · rfl
    · cases hst : z.st with
      | none => rw [hst] at hu; exact hu
      | some k => rw [hst] at hu; exact hu
    · show _ ∧ _
      refine ⟨(ne_ofL _).symm, ?_⟩
      rw [app_ofL, List.append_nil]
      unfold newTok
      cases hset : z.set with
      | true => rw [hset] at hu; exact hu
      | false =>
        rw [hset] at hu
        obtain ⟨_, t, hu⟩ := hu
        exact ⟨t, by rw [hu, app_ofL]; rfl⟩
    · obtain ⟨t, hu⟩ := hu
      refine ⟨t, ?_⟩
      rw [hu]
      show Value.int (ln + ((if (c == some 10) = true then 1 else 0 : Nat) : Int)) t = Value.int ((if (c == some 10) = true then ln + 1 else ln) + ((0 : Nat) : Int)) t
      congr 1
      split <;> simp
    · exact ⟨h0, hu.2⟩
end
end Mine
end

section
open PySem PySem.W PyProof.Rows PySem.Calls
set_option Elab.async false
set_option maxRecDepth 100000
set_option maxHeartbeats 8000000
namespace Mine
section
variable {w : World} {s s' : Shared} {A : Around} {base g : Heap} {fr : List Env} {mg mb : Str → Option Value} {mean : ExcName → Option Value} {x dx L f : Addr} {cn : Str} {cs : Scope} {cd : Value} {W : Str} {refs : Nat → Value} {i : IO} {p t6 : Nat} {E : Value → Shared → Prop}
  {st : Option Nat} {es : Nat} {q : Bool} {tok : List Nat} {ln : Int}
/-- what a loop of read_token takes for granted -/
structure LoopOk (w : World) (A : Around) (base g : Heap) (fr : List Env) (mean : ExcName → Option Value) (mg mb : Str → Option Value) (cs : Scope) (x dx : Addr) (i : IO) (W : Str) (refs : Nat → Value) : Prop where
  G : Gd w A base fr mean mg mb g
  room : A.depth + 8 < recursionLimit
  hk : cs.kind = .function
  hl : ∀ x ∈ lsR, cs.names.lookup x = some .local
  hsf : cs.names.lookup (Str.ofString "self") = some .local
  hv : cs.names.lookup (Str.ofString "ValueError") = some .globalImplicit
  ne : i.io ≠ i.dio ∧ i.io ≠ x ∧ i.io ≠ dx ∧ i.dio ≠ x ∧ i.dio ≠ dx
  ne2 : x ≠ dx
  r0 : refs 0 = .ref i.io
  len : i.buf.length ≤ 1000
  chars : ∀ c ∈ sL i.buf, c ∈ alpha1
  whites : ∀ c ∈ alpha1, has W (sg c) = (whW W) c
  zero : has W (sg 0) = false
theorem LoopOk.apart (K : LoopOk w A base g fr mean mg mb cs x dx i W refs) (p t6 : Nat) : x ≠ dx ∧ ∀ r ∈ i.led p t6, r.1 ≠ dx := by
  refine ⟨K.ne2, fun r hr => ?_⟩
  simp only [IO.led, List.mem_cons, List.not_mem_nil, or_false] at hr
  rcases hr with h | h <;> rw [h]
  · exact K.ne.2.2.1
  · exact K.ne.2.2.2.2
theorem len_sL (x : Str) : (sL x).length = x.length := by simp [Str.length, sL]
theorem turn1 (K : LoopOk w A base g fr mean mg mb cs x dx i W refs) {b : List Stmt} (hb : b = rtTurn) (hs : st ∈ sts1) (he : es ∈ ess1) (hp : p ≤ i.buf.length) (hT : tok.length ≤ 2 * p)
    (R : Rel (CxR w (A.deeper (envOf cn cs L f cd)) (envOf cn cs L f cd) g L s x dx 764 19 (i.led p t6) (ofL tok) ln W refs) (μI [] [] true (!tok.isEmpty) st es q) s') {Q : Flow → Shared → Prop}
    (q1 : ∀ t6' tok' ln' st' es' q' fl s'', (fl = .next ∨ fl = .cont) → p + 1 ≤ i.buf.length → tok'.length ≤ 2 * (p + 1) → st' ∈ sts1 → es' ∈ ess1 → run [] (whW W) ((sL i.buf).drop p) st es q tok ln = run [] (whW W) ((sL i.buf).drop (p + 1)) st' es' q' tok' ln' →
      Rel (CxR w (A.deeper (envOf cn cs L f cd)) (envOf cn cs L f cd) g L s x dx 764 19 (i.led (p + 1) t6') (ofL tok') ln' W refs) (μI [] [] true (!tok'.isEmpty) st' es' q') s'' → Q fl s'')
    (q2 : ∀ p' t6' tok' ln' st' es' q' s'', p' ≤ i.buf.length → tok'.length ≤ 2 * p' + 2 → st' ∈ sts1 → es' ∈ ess1 → run [] (whW W) ((sL i.buf).drop p) st es q tok ln = .brk ((sL i.buf).drop p') st' ln' tok' q' →
      Rel (CxR w (A.deeper (envOf cn cs L f cd)) (envOf cn cs L f cd) g L s x dx 764 19 (i.led p' t6') (ofL tok') ln' W refs) (μI [] [] true (!tok'.isEmpty) st' es' q') s'' → Q .brk s'')
    (q3 : run [] (whW W) ((sL i.buf).drop p) st es q tok ln = .bad → A.handled = none ∧ ∀ Γ e s'' μ', Γ.g = g → Γ.L = L → Γ.s0 = s → ExcAt Γ μ' e s'' → E e s'') :
    wpAny (model PySem.Challenge.rw_om0137_02.row.prog w) (A.deeper (envOf cn cs L f cd)) (execs b (envOf cn cs L f cd)) Q E s' := by
  have O : ∀ p t6, Ok (CxR w (A.deeper (envOf cn cs L f cd)) (envOf cn cs L f cd) g L s x dx 764 19 (i.led p t6) (ofL tok) ln W refs) true lsR namesR := fun p' t6' =>
    ok_lex K.G K.room K.hk K.hl lsR_ok K.hsf (fun _ => K.hv) (K.apart p' t6') (by have := K.len; rw [len_ofL]; omega)
  have hlen := K.len
  have hnc : lsR.any (eqS (Str.ofString "nextchar")) = true := by decide +kernel
  rw [hb, rtTurn_eq]
  refine wpAny_execs_cons (wpAny_If (evT_ok (O p t6) rfl names_lf 5 (test0 rfl pun_lf) R fun s1 R1 => ?_))
  rw [if_neg (by decide)]
  refine wpAny_execs_cons (wpAny_Assign_Name (readE_ok K.G K.room K.hk 764 19 (O p t6) names_lf ins_lf K.r0 K.ne (by omega) K.len R1 (pl := _) rfl ?_ ?_) rfl)
  · intro hD s2 t R2
    refine store_ok (O p t6) (v := .str []) hnc R2 ⟨t, rfl⟩ fun s3 R3 => wpAny_execs_nil ?_
    refine rest1 K.G K.room K.hk K.hl K.hsf K.hv (K.apart p t6) (c := none) (fun _ h => nomatch h) hs he K.zero (by omega) K.zero R3 _ rfl ?_ ?_
    · intro fl s4 hf hz1 hz2 hz3 R4
      rcases hf with ⟨h1, h2⟩ | ⟨⟨_, _, h⟩, _⟩
      · subst h2
        refine q2 p t6 _ _ _ _ _ s4 hp ?_ hz1 hz2 ?_ R4
        · have hz3' : (stepC [] false st es q (!tok.isEmpty) none).add.length ≤ 2 := hz3
          show (newTok (stepC [] false st es q (!tok.isEmpty) none) tok).length ≤ _
          unfold newTok; split <;> (try simp only [List.length_append]) <;> omega
        · rw [hD]
          unfold run
          dsimp only
          have h1' : (stepC [] false st es q (!tok.isEmpty) none).f = Fl.brk := h1
          rw [if_pos h1']
          rfl
      · cases h
    · intro hx
      refine (fun hb => ⟨(q3 hb).1, fun e s4 μ' he => (q3 hb).2 _ e s4 μ' rfl rfl rfl he⟩) ?_
      rw [hD]
      unfold run
      dsimp only
      have h1' : (stepC [] false st es q (!tok.isEmpty) none).f = Fl.exc := hx
      rw [if_neg (by rw [h1']; intro h; cases h)]
  · intro c r t6' hD s2 t R2
    have hlt : p + 1 ≤ i.buf.length := by
      have := congrArg List.length hD
      rw [List.length_drop, List.length_cons, len_sL] at this
      omega
    have hdr : (sL i.buf).drop (p + 1) = r := by
      rw [← List.drop_drop, hD]; rfl
    have hca : c ∈ alpha1 := K.chars c (List.mem_of_mem_drop (i := p) (by rw [hD]; exact .head _))
    refine store_ok (O (p + 1) t6') (v := .str [c]) hnc R2 ⟨t, rfl⟩ fun s3 R3 => wpAny_execs_nil ?_
    refine rest1 K.G K.room K.hk K.hl K.hsf K.hv (K.apart (p + 1) t6') (c := some c) (fun k h => by cases h; exact hca) hs he (K.whites c hca) (by omega) K.zero R3 _ rfl ?_ ?_
    · intro fl s4 hf hz1 hz2 hz3 R4
      have hnt : (newTok (stepC [] ((whW W) c) st es q (!tok.isEmpty) (some c)) tok).length ≤ 2 * (p + 1) := by
        have hz3' : (stepC [] ((whW W) c) st es q (!tok.isEmpty) (some c)).add.length ≤ 2 := hz3
        unfold newTok; split <;> (try simp only [List.length_append]) <;> omega
      have hln : (if (some c == some 10) = true then ln + 1 else ln) = (if (c == 10) = true then ln + 1 else ln) := by
        simp
      rcases hf with ⟨h1, h2⟩ | ⟨⟨h1, h2, _⟩, h3⟩
      · subst h2
        refine q2 (p + 1) t6' _ _ _ _ _ s4 hlt (by exact Nat.le_trans hnt (by omega)) hz1 hz2 ?_ R4
        rw [hD, hdr]
        unfold run
        dsimp only
        have h1' : (stepC [] ((whW W) c) st es q (!tok.isEmpty) (some c)).f = Fl.brk := h1
        rw [if_pos h1', hln]
        rfl
      · refine q1 t6' _ _ _ _ _ fl s4 h3 hlt hnt hz1 hz2 ?_ R4
        rw [hD, hdr]
        have h1' : (stepC [] ((whW W) c) st es q (!tok.isEmpty) (some c)).f ≠ Fl.brk := h1
        have h2' : (stepC [] ((whW W) c) st es q (!tok.isEmpty) (some c)).f ≠ Fl.exc := h2
        rw [run]
        rw [if_neg h1', if_neg h2', hln]
        rfl
    · intro hx
      refine (fun hb => ⟨(q3 hb).1, fun e s4 μ' he => (q3 hb).2 _ e s4 μ' rfl rfl rfl he⟩) ?_
      rw [hD]
      have h1' : (stepC [] ((whW W) c) st es q (!tok.isEmpty) (some c)).f = Fl.exc := hx
      rw [run]
      rw [if_neg (by rw [h1']; intro h; cases h), if_pos h1']
end
end Mine
end

section
open PySem PySem.W PyProof.Rows PySem.Calls
set_option Elab.async false
set_option maxRecDepth 100000
set_option maxHeartbeats 8000000
namespace Mine
noncomputable def rtTail : List Stmt := rtBody.drop 3
noncomputable def rtW : Pos := match rtBody with
  | [_, _, .While _ _ _ p, _, _, _, _, _] => p
  | _ => ⟨0, 0, 0, 0⟩
noncomputable def rtA1 : Stmt := .Assign [.Name (Str.ofString "quoted") ⟨612, 8, 612, 14⟩] (.Constant (.bool false) 0 ⟨612, 17, 612, 22⟩) ⟨612, 8, 612, 22⟩
noncomputable def rtA2 : Stmt := .Assign [.Name (Str.ofString "escapedstate") ⟨613, 8, 613, 20⟩] (.Constant (.str (Str.ofString " ")) 0 ⟨613, 23, 613, 26⟩) ⟨613, 8, 613, 26⟩
theorem rtBody_eq : rtBody = rtA1 :: rtA2 :: .While (.Constant (.bool true) 0 ⟨614, 14, 614, 18⟩) rtTurn [] rtW :: rtTail := by kernel_rfl
noncomputable def retV (ne q : Bool) : V := if !q && !ne then .none else .acc ne []
noncomputable def chkT (Qs Cs : List Nat) (ws : Bool) (st : Option Nat) (es : Nat) (q ne : Bool) : Bool :=
  match exS 40 (μI Qs Cs ws ne st es q) rtTail with
  | some (.ret v, μ) => decide (v = retV ne q) && sameF μ.fld (lf (stV st) (.str []) (.row 0) 0 false Qs Cs ws)
  | _ => false
theorem tabT1 : (sts1.all fun st => ess1.all fun es => bools.all fun q => bools.all fun ne => chkT [] [] true st es q ne) = true := by decide +kernel
theorem tail1 {st : Option Nat} {es : Nat} {q ne : Bool} (hs : st ∈ sts1) (he : es ∈ ess1) : ∃ μ, exS 40 (μI [] [] true ne st es q) rtTail = some (.ret (retV ne q), μ) ∧ μ.fld = lf (stV st) (.str []) (.row 0) 0 false [] [] true := by
  have hb : ∀ b : Bool, b ∈ bools := by decide
  have h := List.all_eq_true.mp (List.all_eq_true.mp (List.all_eq_true.mp (List.all_eq_true.mp tabT1 st hs) es he) q (hb q)) ne (hb ne)
  unfold chkT at h
  split at h
  · rename_i v μ hx
    rw [Bool.and_eq_true] at h
    exact ⟨μ, by rw [hx, of_decide_eq_true h.1], sameF_eq h.2⟩
  · cases h
section
variable {w : World} {s s' : Shared} {A : Around} {base g : Heap} {fr : List Env} {mg mb : Str → Option Value} {mean : ExcName → Option Value} {x dx L f : Addr} {cn : Str} {cs : Scope} {cd : Value} {W : Str} {refs : Nat → Value} {i : IO} {p t6 : Nat} {E : Value → Shared → Prop}
  {st : Option Nat} {es : Nat} {q : Bool} {tok : List Nat} {ln : Int}
theorem loop1 (K : LoopOk w A base g fr mean mg mb cs x dx i W refs) {b : List Stmt} (hb : b = rtTurn) (hs : st ∈ sts1) (he : es ∈ ess1) (hp : p ≤ i.buf.length) (hT : tok.length ≤ 2 * p)
    (R0 : Rel (CxR w (A.deeper (envOf cn cs L f cd)) (envOf cn cs L f cd) g L s x dx 764 19 (i.led p t6) (ofL tok) ln W refs) (μI [] [] true (!tok.isEmpty) st es q) s') {R : Result → Shared → Prop} {k : Nat} {cp : Pos}
    (q2 : ∀ p' t6' tok' ln' st' es' q' s'', p' ≤ i.buf.length → tok'.length ≤ 2 * p' + 2 → st' ∈ sts1 → es' ∈ ess1 → run [] (whW W) ((sL i.buf).drop p) st es q tok ln = .brk ((sL i.buf).drop p') st' ln' tok' q' →
      Rel (CxR w (A.deeper (envOf cn cs L f cd)) (envOf cn cs L f cd) g L s x dx 764 19 (i.led p' t6') (ofL tok') ln' W refs) (μI [] [] true (!tok'.isEmpty) st' es' q') s'' → R (.ok .next) s'')
    (q3 : run [] (whW W) ((sL i.buf).drop p) st es q tok ln = .bad → A.handled = none ∧ ∀ Γ e s'' μ', Γ.g = g → Γ.L = L → Γ.s0 = s → ExcAt Γ μ' e s'' → notedBy (model PySem.Challenge.rw_om0137_02.row.prog w) (A.deeper (envOf cn cs L f cd)) (envOf cn cs L f cd) (fun e s' => R (.error e) s') e s'') :
    codeAny (model PySem.Challenge.rw_om0137_02.row.prog w) (A.deeper (envOf cn cs L f cd)) (.whileLoop (.Constant (.bool true) k cp) b [] (envOf cn cs L f cd)) R s' := by
  have hlen := K.len
  refine codeAny_whileLoop (fun n s' => ∃ p1 t1 tok1 ln1 st1 es1 q1, n = 1001 - p1 ∧ p1 ≤ i.buf.length ∧ tok1.length ≤ 2 * p1 ∧ st1 ∈ sts1 ∧ es1 ∈ ess1 ∧ run [] (whW W) ((sL i.buf).drop p) st es q tok ln = run [] (whW W) ((sL i.buf).drop p1) st1 es1 q1 tok1 ln1 ∧
      Rel (CxR w (A.deeper (envOf cn cs L f cd)) (envOf cn cs L f cd) g L s x dx 764 19 (i.led p1 t1) (ofL tok1) ln1 W refs) (μI [] [] true (!tok1.isEmpty) st1 es1 q1) s') ?_ (1001 - p) ⟨p, t6, tok, ln, st, es, q, rfl, hp, hT, hs, he, rfl, R0⟩
  rintro n s1 ⟨p1, t1, tok1, ln1, st1, es1, q1, rfl, hp1, hT1, hs1, he1, hrun, R1⟩
  refine wpAny_isTrue_value (wpAny_Constant_bool (wpAny_truthy_bool ?_))
  rw [if_pos rfl]
  refine turn1 K hb hs1 he1 hp1 hT1 R1 ?_ ?_ ?_
  · intro t6' tok' ln' st' es' q' fl s2 hfl hl ht h1 h2 h3 R2
    have : ∃ m, m < 1001 - p1 ∧ ∃ p1 t1 tok1 ln1 st1 es1 q1, m = 1001 - p1 ∧ p1 ≤ i.buf.length ∧ tok1.length ≤ 2 * p1 ∧ st1 ∈ sts1 ∧ es1 ∈ ess1 ∧ run [] (whW W) ((sL i.buf).drop p) st es q tok ln = run [] (whW W) ((sL i.buf).drop p1) st1 es1 q1 tok1 ln1 ∧
      Rel (CxR w (A.deeper (envOf cn cs L f cd)) (envOf cn cs L f cd) g L s x dx 764 19 (i.led p1 t1) (ofL tok1) ln1 W refs) (μI [] [] true (!tok1.isEmpty) st1 es1 q1) s2 :=
      ⟨1001 - (p1 + 1), by omega, p1 + 1, t6', tok', ln', st', es', q', rfl, hl, ht, h1, h2, hrun.trans h3, R2⟩
    rcases hfl with h | h <;> subst h <;> exact this
  · intro p' t6' tok' ln' st' es' q' s2 hl ht h1 h2 h3 R2
    exact q2 p' t6' tok' ln' st' es' q' s2 hl ht h1 h2 (hrun.trans h3) R2
  · intro h
    exact q3 (hrun.trans h)
theorem body1 (K : LoopOk w A base g fr mean mg mb cs x dx i W refs) {b : List Stmt} (hb : b = rtBody) (hs : st ∈ sts1) (hp : p ≤ i.buf.length)
    (R0 : Rel (CxR w (A.deeper (envOf cn cs L f cd)) (envOf cn cs L f cd) g L s x dx 764 19 (i.led p t6) (ofL []) ln W refs) ⟨true, lsR, [], lf (stV st) (.acc false []) (.row 0) 0 false [] [] true⟩ s') {Q : Flow → Shared → Prop} {R : Value → Shared → Prop}
    (q2 : ∀ p' t6' tok' ln' st' q' s'' u loc, p' ≤ i.buf.length → st' ∈ sts1 → tok'.length ≤ 3000 → run [] (whW W) ((sL i.buf).drop p) st 32 false [] ln = .brk ((sL i.buf).drop p') st' ln' tok' q' →
      Rel (CxR w (A.deeper (envOf cn cs L f cd)) (envOf cn cs L f cd) g L s x dx 764 19 (i.led p' t6') (ofL tok') ln' W refs) ⟨true, lsR, loc, lf (stV st') (.str []) (.row 0) 0 false [] [] true⟩ s'' → 
      (if !q' && tok'.isEmpty then u = .none else ∃ t, u = .str (ofL tok') t) → Q (.ret u) s'')
    (q3 : run [] (whW W) ((sL i.buf).drop p) st 32 false [] ln = .bad → A.handled = none ∧ ∀ e h' tk t vs, RaisedS base g fr e (.type "ValueError") t vs [] h' → g.UpToSlots h' → R (.ref e) { s with heap := h', toks := tk }) :
    wpAny (model PySem.Challenge.rw_om0137_02.row.prog w) (A.deeper (envOf cn cs L f cd)) (execs b (envOf cn cs L f cd)) Q
      (fun e s' => wpAny (model PySem.Challenge.rw_om0137_02.row.prog w) (A.deeper (envOf cn cs L f cd)) (leaving (envOf cn cs L f cd) e) (fun _ s'' => R e s'') (fun e' s'' => R e' s'') s') s' := by
  have hlen := K.len
  have O : ∀ p t6 tok ln, tok.length ≤ 3000 → Ok (CxR w (A.deeper (envOf cn cs L f cd)) (envOf cn cs L f cd) g L s x dx 764 19 (i.led p t6) (ofL tok) ln W refs) true lsR namesR := fun p' t6' tok ln ht =>
    ok_lex K.G K.room K.hk K.hl lsR_ok K.hsf (fun _ => K.hv) (K.apart p' t6') (by rw [len_ofL]; omega)
  rw [hb, rtBody_eq]
  refine wpAny_execs_cons (exA_ok (O p t6 [] ln (by simp)) (f := .next) (μ' := ⟨true, lsR, [("quoted", .bool false)], lf (stV st) (.acc false []) (.row 0) 0 false [] [] true⟩) rfl names_lf (by kernel_rfl) R0 (fun fl s1 hf R1 => ?_) (fun h => nomatch h))
  obtain rfl : fl = .next := hf
  refine wpAny_execs_cons (exA_ok (O p t6 [] ln (by simp)) (f := .next) (μ' := μI [] [] true false st 32 false) rfl names_lf (by kernel_rfl) R1 (fun fl s2 hf R2 => ?_) (fun h => nomatch h))
  obtain rfl : fl = .next := hf
  refine wpAny_execs_cons (wpAny_While (loop1 K rfl (tok := []) hs (by decide) hp (by simp) R2 ?_ ?_))
  · intro p' t6' tok' ln' st' es' q' s3 hl ht h1 h2 h3 R3
    obtain ⟨μ', hx, hf⟩ := tail1 (q := q') (ne := !tok'.isEmpty) h1 h2
    refine exS_ok (O p' t6' tok' ln' (by omega)) 40 rfl names_lf hx R3 (fun fl s4 hfl R4 => ?_) (fun h => nomatch h)
    obtain ⟨u, rfl, ru⟩ := hfl
    have hn := exS_names 40 names_lf hx
    obtain ⟨μpc, μls, μloc, μfld⟩ := μ'
    have e1 : μpc = true := hn.1
    have e2 : μls = lsR := hn.2.1
    have e3 : μfld = _ := hf
    subst e1 e2 e3
    refine q2 p' t6' tok' ln' st' q' s4 u μloc hl h1 (by omega) h3 R4 ?_
    unfold retV at ru
    rw [Bool.not_not] at ru
    split
    · rename_i hq
      rw [if_pos hq] at ru
      exact ru
    · rename_i hq
      rw [if_neg hq] at ru
      obtain ⟨_, t, hu⟩ := ru
      exact ⟨t, by rw [hu, app_ofL, List.append_nil]⟩
  · intro hbad
    refine ⟨(q3 hbad).1, fun Γ e s3 μ' hg hL hs0 hE => ?_⟩
    obtain ⟨s4, h', a, args, rfl, R4, hm, rfl⟩ := hE
    obtain ⟨h4, tk4, m4, es4, rfl, F4, _⟩ := R4
    rw [hg, hL] at F4
    rw [hs0]
    exact leave_loop K.G.B hm.of F4 (fun h5 t hr hup => (q3 hbad).2 a h5 tk4 t args hr hup) K.hk
end
end Mine
end

section
open PySem PySem.W PyProof.Rows PySem.Calls
set_option Elab.async false
set_option maxRecDepth 100000
set_option maxHeartbeats 8000000
namespace Mine
/-- a posix shlex between two words -/
noncomputable def LexG (Qs Cs : List Nat) (ws : Bool) (g h : Heap) (x dx : Addr) (i : IO) (refs : Nat → Value) (W : Str) (st : Option Nat) (ln : Int) (p : Nat) : Prop :=
  ∃ (Γ : Cx) (es : List DictEntry) (t6 : Nat), Γ.W = W ∧ Γ.refs = refs ∧ Γ.ln0 = ln ∧ FldRep Γ (lf (stV st) (.str []) (.row 0) 0 false Qs Cs ws) es ∧ Sub g h ((x, instObj 764 dx) :: (dx, dictOf es 19) :: i.led p t6)
noncomputable abbrev LexAt (g h : Heap) (x dx : Addr) (i : IO) (refs : Nat → Value) (W : Str) (st : Option Nat) (ln : Int) (p : Nat) : Prop := LexG [] [] true g h x dx i refs W st ln p
structure LexOk (x dx : Addr) (i : IO) (W : Str) (refs : Nat → Value) : Prop where
  ne : i.io ≠ i.dio ∧ i.io ≠ x ∧ i.io ≠ dx ∧ i.dio ≠ x ∧ i.dio ≠ dx
  ne2 : x ≠ dx
  r0 : refs 0 = .ref i.io
  len : i.buf.length ≤ 1000
  chars : ∀ c ∈ sL i.buf, c ∈ alpha1
  whites : ∀ c ∈ alpha1, has W (sg c) = (whW W) c
  zero : has W (sg 0) = false
section
variable {w : World} {s : Shared} {A : Around} {base g : Heap} {fr : List Env} {mg mb : Str → Option Value} {mean : ExcName → Option Value} {x dx : Addr} {W : Str} {refs : Nat → Value} {i : IO} {p : Nat} {st : Option Nat} {ln : Int} {R : Result → Shared → Prop}
theorem read_token_ok (G : Gd w A base fr mean mg mb g) (hroom : A.depth + 8 < recursionLimit) (k : Ke g s.heap) (K : LexOk x dx i W refs) (hs : st ∈ sts1) (hp : p ≤ i.buf.length) (Lx : LexAt g s.heap x dx i refs W st ln p)
    (q2 : ∀ p' tok' ln' st' q' h' tk u, p' ≤ i.buf.length → st' ∈ sts1 → tok'.length ≤ 3000 → run [] (whW W) ((sL i.buf).drop p) st 32 false [] ln = .brk ((sL i.buf).drop p') st' ln' tok' q' →
      Ke g h' → LexAt g h' x dx i refs W st' ln' p' → (if !q' && tok'.isEmpty then u = .none else ∃ t, u = .str (ofL tok') t) → R (.ok (.ret u)) { s with heap := h', toks := tk })
    (q3 : run [] (whW W) ((sL i.buf).drop p) st 32 false [] ln = .bad → A.handled = none ∧ ∀ e h' tk t vs, RaisedS base g fr e (.type "ValueError") t vs [] h' → g.UpToSlots h' → R (.error (.ref e)) { s with heap := h', toks := tk }) :
    codeAny (model PySem.Challenge.rw_om0137_02.row.prog w) A (.call (.ref 732) ⟨[.ref x], []⟩) R s := by
  obtain ⟨Γ, es, t6, e1, e2, e3, FR, S⟩ := Lx
  have X := G.X
  revert X
  k_fill
  intro X
  refine enterG (binds := [("self", .ref x)]) G S k (by k_is) (by k_is) (by omega) (BindsTo.of_eq rfl) rfl ?_ (by decide) rfl rfl rfl
  intro L' h₁ F' N' hlt
  refine body1 (R := fun e s'' => R (.error e) s'') (i := i) (p := p) (t6 := t6) (x := x) (dx := dx) (W := W) (refs := refs) (ln := ln) (st := st) (s := s) ⟨G, hroom, rfl, by decide, rfl, rfl, K.ne, K.ne2, K.r0, K.len, K.chars, K.whites, K.zero⟩ (by kernel_rfl) hs hp ?_ ?_ ?_
  · refine ⟨h₁, _, _, es, rfl, F', (fun y v h => nomatch h), rfl, FldRep.conv (lf_conv ?_ (fun u hu => ?_) (fun u hu => ?_) (fun u hu => ?_) fun u hu => ?_) FR, N'⟩
    · exact e2.symm
    · cases st with
      | none => exact hu
      | some k => exact hu
    · exact ⟨rfl, hu⟩
    · show ∃ t, u = .int (ln + ((0 : Nat) : Int)) t
      rw [← e3]; exact hu
    · exact ⟨K.zero, by rw [← e1]; exact hu.2⟩
  · intro p' t6' tok' ln' st' q' s'' u loc h1 h2 hlen h3 R2 hu
    obtain ⟨h, tk, m, es', rfl, F, l, sf, fr', N⟩ := R2
    exact q2 p' tok' ln' st' q' h tk u h1 h2 hlen h3 (Ke.of_fr F) ⟨_, es', t6', rfl, rfl, rfl, fr', Sub.of_news N⟩ hu
  · intro hbad
    exact q3 hbad
end
end Mine
end

section
open PySem PySem.W PyProof.Rows PySem.Calls
set_option Elab.async false
set_option maxRecDepth 100000
set_option maxHeartbeats 8000000
namespace Mine
theorem getL_none {Γ : Cx} {f : Str} : ∀ {fld : List (Str × V)} {es : List DictEntry}, FldRep Γ fld es → lookS f fld = none → getL f es = some none
  | _, _, .nil, _ => rfl
  | _, _, .cons (f := y) (v := v') (r := r) (h := hh) (t := t) (u := u) (es := es) hr R, h => by
    unfold lookS at h
    by_cases q : eqS y f = true
    · rw [if_pos q] at h; cases h
    · rw [if_neg q] at h
      have e := getL_none R h
      have ne : ¬ (Value.isStr (.str y t) f = true) := fun e => q (eqS_iff.mpr (by simpa [Value.isStr] using e))
      unfold getL at e ⊢
      rw [List.find?_cons_of_neg (by simpa using ne)]
      revert e
      cases es.find? (fun x => x.key.isStr f) with
      | some _ => exact id
      | none =>
        intro e
        dsimp only at e ⊢
        rw [List.any_cons]
        split at e
        · cases e
        · rename_i hn
          rw [if_neg]
          rw [Bool.or_eq_true]
          rintro (h | h)
          · cases h
          · exact hn h
noncomputable def gtBody : List Stmt := defBody "get_token" (clsBody "shlex" PySem.Challenge.rw_om0137_02.row.prog.main.body)
noncomputable def gt0 : List Stmt × Pos := match gtBody with
  | .If _ b _ p :: _ => (b, p)
  | _ => ([], ⟨0, 0, 0, 0⟩)
noncomputable def gt2 : List Stmt × Pos := match gtBody with
  | [_, _, .If _ b _ p, _, _, _] => (b, p)
  | _ => ([], ⟨0, 0, 0, 0⟩)
noncomputable def gt3 : List Stmt × Pos × Pos := match gtBody with
  | [_, _, _, .While _ [.If _ _ o p] _ p', _, _] => (o, p, p')
  | _ => ([], ⟨0, 0, 0, 0⟩, ⟨0, 0, 0, 0⟩)
noncomputable def gt45 : List Stmt := gtBody.drop 4
noncomputable def gtSrc : Expr := .Compare (.Attribute (.Name (Str.ofString "self") ⟨591, 11, 591, 15⟩) (Str.ofString "source") ⟨591, 11, 591, 22⟩) [.IsNot] [.Constant .none 0 ⟨591, 30, 591, 34⟩] ⟨591, 11, 591, 34⟩
noncomputable def gtTest : Expr := .Compare (.Name (Str.ofString "raw") ⟨598, 14, 598, 17⟩) [.Eq] [.Attribute (.Name (Str.ofString "self") ⟨598, 21, 598, 25⟩) (Str.ofString "eof") ⟨598, 21, 598, 29⟩] ⟨598, 14, 598, 29⟩
theorem gtBody_eq : gtBody = .If (.Attribute (.Name (Str.ofString "self") ⟨585, 11, 585, 15⟩) (Str.ofString "pushback") ⟨585, 11, 585, 24⟩) gt0.1 [] gt0.2 ::
    .Assign [.Name (Str.ofString "raw") ⟨590, 8, 590, 11⟩] (.Call (.Attribute (.Name (Str.ofString "self") ⟨590, 14, 590, 18⟩) (Str.ofString "read_token") ⟨590, 14, 590, 29⟩) [] [] ⟨590, 14, 590, 31⟩) ⟨590, 8, 590, 31⟩ ::
    .If gtSrc gt2.1 [] gt2.2 ::
    .While gtTest [.If (.UnaryOp .Not (.Attribute (.Name (Str.ofString "self") ⟨599, 19, 599, 23⟩) (Str.ofString "filestack") ⟨599, 19, 599, 33⟩) ⟨599, 15, 599, 33⟩) [.Return (some (.Attribute (.Name (Str.ofString "self") ⟨600, 23, 600, 27⟩) (Str.ofString "eof") ⟨600, 23, 600, 31⟩)) ⟨600, 16, 600, 31⟩] gt3.1 gt3.2.1] [] gt3.2.2 :: gt45 := by kernel_rfl
noncomputable def lsG : List Str := ["raw"]
theorem lsG_ok : ∀ y ∈ lsG, (y == ("__debug__" : Str)) = false ∧ y ≠ Str.ofString "self" := by decide
noncomputable def μG (st : Option Nat) : MS := ⟨false, lsG, [], lf (stV st) (.str []) (.row 0) 0 false [] [] true⟩
noncomputable def rawV (tok : List Nat) (q : Bool) : V := if !q && tok.isEmpty then .none else .acc (!tok.isEmpty) []
noncomputable def μG2 (st : Option Nat) (v : V) : MS := ⟨false, lsG, [(Str.ofString "raw", v)], lf (stV st) (.str []) (.row 0) 0 false [] [] true⟩
theorem names_lfG {st tok ln : V} {wc : Nat} {wb : Bool} {Qs Cs : List Nat} {ws : Bool} {loc : List (Str × V)} : NamesOk ⟨false, lsG, loc, lf st tok ln wc wb Qs Cs ws⟩ lsG namesR :=
  ⟨rfl, fun _ _ h => lf_names h, by show 19 ≤ 100; omega⟩
theorem rt_lex (w : World) : plainGet (hd.heap_39 w.params) 764 "read_token" = true ∧ findIn (hd.heap_39 w.params) (.ref 764) "read_token" = some (some (.ref 732)) ∧ isFn (hd.heap_39 w.params) (.ref 732) = true ∧ keepIn (hd.heap_39 w.params) (.ref 732) = true := by
  have e : PySem.Challenge.rw_om0137_02 = PySem.Challenge.rw_om0137_02 := rfl
  revert e
  k_fill
  intro _
  refine ⟨?_, ?_, ?_, ?_⟩ <;> k_is
/-- a posix shlex and its two deques, between two words -/
noncomputable def LexFull (g h : Heap) (x dx pb fs : Addr) (i : IO) (refs : Nat → Value) (W : Str) (st : Option Nat) (ln : Int) (p : Nat) : Prop :=
  LexAt g h x dx i refs W st ln p ∧ Sub g h [(pb, dequeObj), (fs, dequeObj)]
structure LexOk2 (x dx pb fs : Addr) (i : IO) (W : Str) (refs : Nat → Value) : Prop extends LexOk x dx i W refs where
  r1 : refs 1 = .ref pb
  r2 : refs 2 = .ref fs
  npb : pb ≠ x ∧ pb ≠ dx ∧ pb ≠ i.io ∧ pb ≠ i.dio
  nfs : fs ≠ x ∧ fs ≠ dx ∧ fs ≠ i.io ∧ fs ≠ i.dio
theorem sub_app {g h : Heap} {a b : List (Addr × Obj)} (x : Sub g h a) (y : Sub g h b) : Sub g h (a ++ b) := fun p hp => by
  rcases List.mem_append.mp hp with h | h
  · exact x p h
  · exact y p h
section
variable {w : World} {s : Shared} {A : Around} {base g : Heap} {fr : List Env} {mg mb : Str → Option Value} {mean : ExcName → Option Value} {x dx pb fs : Addr} {W : Str} {refs : Nat → Value} {i : IO} {p : Nat} {st : Option Nat} {ln : Int} {R : Result → Shared → Prop} {cn : Str} {cs : Scope} {cd : Value} {L f : Addr} {s' : Shared}
noncomputable abbrev CxG (w : World) (A : Around) (cn : Str) (cs : Scope) (cd : Value) (f : Addr) (g : Heap) (L : Addr) (s : Shared) (x dx pb fs : Addr) (i : IO) (p t6 : Nat) (tok : List Nat) (ln : Int) (W : Str) (refs : Nat → Value) : Cx :=
  CxR w (A.deeper (envOf cn cs L f cd)) (envOf cn cs L f cd) g L s x dx 764 19 (i.led p t6 ++ [(pb, dequeObj), (fs, dequeObj)]) (ofL tok) ln W refs
theorem ok_G (G : Gd w A base fr mean mg mb g) (hroom : A.depth + 8 < recursionLimit) (hk : cs.kind = .function) (hl : ∀ x ∈ lsG, cs.names.lookup x = some .local) (hsf : cs.names.lookup (Str.ofString "self") = some .local) (K : LexOk2 x dx pb fs i W refs) (p t6 : Nat) (tok : List Nat) (ln : Int) (ht : tok.length ≤ 3000) :
    Ok (CxG w A cn cs cd f g L s x dx pb fs i p t6 tok ln W refs) false lsG namesR := by
  refine ok_lex G hroom hk hl lsG_ok hsf (fun h => nomatch h) ⟨K.ne2, fun r hr => ?_⟩ (by rw [len_ofL]; exact ht)
  simp only [IO.led, List.cons_append, List.nil_append, List.mem_cons, List.not_mem_nil, or_false] at hr
  rcases hr with h | h | h | h <;> rw [h]
  · exact K.ne.2.2.1
  · exact K.ne.2.2.2.2
  · exact K.npb.2.1
  · exact K.nfs.2.1
theorem pb_lf {st tok ln : V} {wc : Nat} {wb : Bool} {Qs Cs : List Nat} {ws : Bool} : lookS "pushback" (lf st tok ln wc wb Qs Cs ws) = some (.obj 1) := by kernel_rfl
theorem fs_lf {st tok ln : V} {wc : Nat} {wb : Bool} {Qs Cs : List Nat} {ws : Bool} : lookS "filestack" (lf st tok ln wc wb Qs Cs ws) = some (.obj 2) := by kernel_rfl
theorem rt_lf {st tok ln : V} {wc : Nat} {wb : Bool} {Qs Cs : List Nat} {ws : Bool} : lookS "read_token" (lf st tok ln wc wb Qs Cs ws) = none := by kernel_rfl
/-- behind self.read_token() -/
theorem gtEnd (G : Gd w A base fr mean mg mb g) (hroom : A.depth + 8 < recursionLimit) (hk : cs.kind = .function) (hl : ∀ x ∈ lsG, cs.names.lookup x = some .local) (hsf : cs.names.lookup (Str.ofString "self") = some .local) (K : LexOk2 x dx pb fs i W refs) {p t6 : Nat} {tok : List Nat} {q : Bool} {ln : Int} (ht : tok.length ≤ 3000)
    {E : Value → Shared → Prop} {Q : Flow → Shared → Prop} (R0 : Rel (CxG w A cn cs cd f g L s x dx pb fs i p t6 tok ln W refs) (μG2 st (rawV tok q)) s')
    (hQ : ∀ u s'' loc, Rel (CxG w A cn cs cd f g L s x dx pb fs i p t6 tok ln W refs) ⟨false, lsG, loc, lf (stV st) (.str []) (.row 0) 0 false [] [] true⟩ s'' → Rep (CxG w A cn cs cd f g L s x dx pb fs i p t6 tok ln W refs) (rawV tok q) u → Q (.ret u) s'') :
    wpAny (model PySem.Challenge.rw_om0137_02.row.prog w) (A.deeper (envOf cn cs L f cd)) (execs (.If gtSrc gt2.1 [] gt2.2 ::
    .While gtTest [.If (.UnaryOp .Not (.Attribute (.Name (Str.ofString "self") ⟨599, 19, 599, 23⟩) (Str.ofString "filestack") ⟨599, 19, 599, 33⟩) ⟨599, 15, 599, 33⟩) [.Return (some (.Attribute (.Name (Str.ofString "self") ⟨600, 23, 600, 27⟩) (Str.ofString "eof") ⟨600, 23, 600, 31⟩)) ⟨600, 16, 600, 31⟩] gt3.1 gt3.2.1] [] gt3.2.2 :: gt45) (envOf cn cs L f cd)) Q E s' := by
  have O := ok_G (f := f) (cn := cn) (cd := cd) (L := L) (s := s) G hroom hk hl hsf K p t6 tok ln ht
  refine wpAny_execs_cons (wpAny_If (evT_ok O rfl names_lfG 3 (b := false) (by kernel_rfl) R0 fun s1 R1 => ?_))
  rw [if_neg (by decide)]
  refine wpAny_execs_nil ?_
  refine wpAny_execs_cons (wpAny_While (codeAny_whileLoop (fun _ s' => Rel (CxG w A cn cs cd f g L s x dx pb fs i p t6 tok ln W refs) (μG2 st (rawV tok q)) s') (fun n s2 R2 => ?_) 0 R1))
  by_cases hq : (!q && tok.isEmpty) = true
  · have hv : rawV tok q = .none := by unfold rawV; rw [if_pos hq]
    rw [hv] at R2
    refine evT_ok O rfl names_lfG 3 (b := true) (by kernel_rfl) R2 fun s3 R3 => ?_
    rw [if_pos rfl]
    refine wpAny_execs_cons (wpAny_If (wpAny_isTrue_Not (wpAny_isTrue_value (Attribute_Name_ (self_ok O R3 (get_ok O R3 names_lfG.2.1 fs_lf fun u s4 ru R4 => ?_))))))
    obtain ⟨rfl, -⟩ := ru
    show wpAny _ _ (truthy (refs 2)) _ _ _
    rw [K.r2]
    have R4' := R4
    obtain ⟨h4, tk4, m4, es4, rfl, F4, l4, sf4, fr4, N4⟩ := R4
    refine truthy_deque (N4 (fs, dequeObj) (by simp [IO.led])).1 ?_
    rw [if_pos (by decide)]
    refine wpAny_execs_cons (wpAny_Return_some (evE_ok O rfl names_lfG (v := .none) (by kernel_rfl) R4'.toks fun u s5 ru R5 => ?_))
    exact hQ u s5 _ R5 (by rw [hv]; exact ru)
  · have hv : rawV tok q = .acc (!tok.isEmpty) [] := by unfold rawV; rw [if_neg hq]
    rw [hv] at R2
    refine evT_ok O rfl names_lfG 3 (b := false) (by kernel_rfl) R2 fun s3 R3 => ?_
    rw [if_neg (by decide)]
    refine wpAny_execs_nil ?_
    refine exS_ok O 10 (f := .ret (.acc (!tok.isEmpty) [])) (μ' := μG2 st (.acc (!tok.isEmpty) [])) rfl names_lfG (by kernel_rfl) R3 (fun fl s4 hf R4 => ?_) (fun h => nomatch h)
    obtain ⟨u, rfl, ru⟩ := hf
    exact hQ u s4 _ R4 (by rw [hv]; exact ru)
end
end Mine
end

section
open PySem PySem.W PyProof.Rows PySem.Calls
set_option Elab.async false
set_option maxRecDepth 100000
set_option maxHeartbeats 8000000
namespace Mine
section
variable {w : World} {s : Shared} {A : Around} {base g : Heap} {fr : List Env} {mg mb : Str → Option Value} {mean : ExcName → Option Value} {x dx pb fs : Addr} {W : Str} {refs : Nat → Value} {i : IO} {p : Nat} {st : Option Nat} {ln : Int} {R : Result → Shared → Prop} {cn : Str} {cs : Scope} {cd : Value} {L f : Addr} {s' : Shared}
theorem gtAll (G : Gd w A base fr mean mg mb g) (hroom : A.depth + 12 < recursionLimit) (hk : cs.kind = .function) (hl : ∀ x ∈ lsG, cs.names.lookup x = some .local) (hsf : cs.names.lookup (Str.ofString "self") = some .local) (K : LexOk2 x dx pb fs i W refs) {t6 : Nat} (hs : st ∈ sts1) (hp : p ≤ i.buf.length) {b : List Stmt} (hb : b = gtBody)
    {Q : Flow → Shared → Prop} (R0 : Rel (CxG w A cn cs cd f g L s x dx pb fs i p t6 [] ln W refs) (μG st) s') {RE : Value → Shared → Prop}
    (q2 : ∀ p' t6' tok' ln' st' q' s'' u loc, p' ≤ i.buf.length → st' ∈ sts1 → run [] (whW W) ((sL i.buf).drop p) st 32 false [] ln = .brk ((sL i.buf).drop p') st' ln' tok' q' →
      Rel (CxG w A cn cs cd f g L s x dx pb fs i p' t6' tok' ln' W refs) ⟨false, lsG, loc, lf (stV st') (.str []) (.row 0) 0 false [] [] true⟩ s'' → (if !q' && tok'.isEmpty then u = .none else ∃ t, u = .str (ofL tok') t) → Q (.ret u) s'')
    (q3 : run [] (whW W) ((sL i.buf).drop p) st 32 false [] ln = .bad → A.handled = none ∧ ∀ e h' tk t vs, RaisedS base g fr e (.type "ValueError") t vs [] h' → g.UpToSlots h' → RE (.ref e) { s with heap := h', toks := tk }) :
    wpAny (model PySem.Challenge.rw_om0137_02.row.prog w) (A.deeper (envOf cn cs L f cd)) (execs b (envOf cn cs L f cd)) Q
      (fun e s' => wpAny (model PySem.Challenge.rw_om0137_02.row.prog w) (A.deeper (envOf cn cs L f cd)) (leaving (envOf cn cs L f cd) e) (fun _ s'' => RE e s'') (fun e' s'' => RE e' s'') s') s' := by
  have O := ok_G (f := f) (cn := cn) (cd := cd) (L := L) (s := s) G (by omega) hk hl hsf K p t6 [] ln (by simp)
  rw [hb, gtBody_eq]
  refine wpAny_execs_cons (wpAny_If (wpAny_isTrue_value (Attribute_Name_ (self_ok O R0 (get_ok O R0 names_lfG.2.1 pb_lf fun u s1 ru R1 => ?_)))))
  obtain ⟨rfl, -⟩ := ru
  show wpAny _ _ (truthy (refs 1)) _ _ _
  rw [K.r1]
  have R1' := R1
  obtain ⟨h1, tk1, m1, es1, rfl, F1, l1, sf1, fr1, N1⟩ := R1
  refine truthy_deque (N1 (pb, dequeObj) (by simp [IO.led])).1 ?_
  rw [if_neg (by decide)]
  refine wpAny_execs_nil ?_
  have R2 := R1'.toks (tk := tk1 + 1 + 1)
  clear R1'
  obtain ⟨r1, r2, r3, r4⟩ := rt_lex w
  refine wpAny_execs_cons (wpAny_Assign_Name (MethodCall_ (self_ok O R2 (method_inst F1 G.X (InstAt.of_news N1 (.head _) (.tail _ (.head _))) r1 r2 r3 (getL_none fr1 rt_lf) (callWith_K0 (G.X.keeps F1.keep) r4 (wpAny_call ?_)))) rfl) rfl)
  have NS : News g L h1 ((x, instObj 764 dx) :: (dx, dictOf es1 19) :: i.led p t6) := fun q hq => N1 q (by
    simp only [IO.led, List.cons_append, List.nil_append, List.mem_cons, List.not_mem_nil, or_false] at hq ⊢
    rcases hq with h | h | h | h <;> simp [h])
  have NR : News g L h1 [(pb, dequeObj), (fs, dequeObj)] := fun q hq => N1 q (by
    simp only [IO.led, List.cons_append, List.nil_append, List.mem_cons, List.not_mem_nil, or_false] at hq ⊢
    rcases hq with h | h <;> simp [h])
  obtain ⟨FG, -, -, -⟩ := groundX (R := fun _ _ => True) (A := A.deeper (envOf cn cs L f cd)) (env := envOf cn cs L f cd) (s := { s with heap := h1, toks := tk1 + 1 + 1 }) G.B F1 NS (Around.frames_deeper G.B.stack) rfl hk
  obtain ⟨G', S', k', back⟩ := pushY (A := A.deeper (envOf cn cs L f cd)) (env := envOf cn cs L f cd) (s := { s with heap := h1, toks := tk1 + 1 + 1 }) G.B F1 NS (Around.frames_deeper G.B.stack) rfl hk G.X G.T
  refine read_token_ok G' (by simp only [depth_deeper]; omega) k' K.toLexOk hs hp ⟨_, es1, t6, rfl, rfl, rfl, fr1, S'⟩ ?_ ?_
  · intro p' tok' ln' st' q' h' tk u hp' hs' ht hrun hk' hL' hu
    obtain ⟨Γ', es', t6', e1, e2, e3, FR', SS⟩ := hL'
    obtain ⟨F2, N2⟩ := back _ NR (fun r hr hm => by
      simp only [List.mem_cons, List.not_mem_nil, or_false] at hr
      simp only [IO.led, List.map_cons, List.map_nil, List.mem_cons, List.not_mem_nil, or_false] at hm
      rcases hr with h | h
      · rw [h] at hm
        have := K.npb
        rcases hm with z | z | z | z
        · exact this.1 z
        · exact this.2.1 z
        · exact this.2.2.1 z
        · exact this.2.2.2 z
      · rw [h] at hm
        have := K.nfs
        rcases hm with z | z | z | z
        · exact this.1 z
        · exact this.2.1 z
        · exact this.2.2.1 z
        · exact this.2.2.2 z) h' _ hk' SS
    have O2 := ok_G (f := f) (cn := cn) (cd := cd) (L := L) (s := s) G (by omega) hk hl hsf K p' t6' tok' ln' ht
    have R3 : Rel (CxG w A cn cs cd f g L s x dx pb fs i p' t6' tok' ln' W refs) (μG st') { s with heap := h', toks := tk } := by
      refine ⟨h', tk, m1, es', rfl, F2, (fun y v h => nomatch h), sf1, FldRep.conv (lf_conv ?_ (fun u hu => ?_) (fun u hu => ?_) (fun u hu => ?_) fun u hu => ?_) FR', ?_⟩
      · exact e2.symm
      · cases st' with
        | none => exact hu
        | some k => exact hu
      · exact hu
      · show ∃ t, u = .int (ln' + ((0 : Nat) : Int)) t
        rw [← e3]; exact hu
      · exact ⟨K.zero, by rw [← e1]; exact hu.2⟩
      · intro q hq
        refine N2 q ?_
        simp only [IO.led, List.cons_append, List.nil_append, List.mem_cons, List.not_mem_nil, or_false] at hq ⊢
        rcases hq with h | h | h | h | h | h <;> simp [h]
    have hru : Rep (CxG w A cn cs cd f g L s x dx pb fs i p' t6' tok' ln' W refs) (rawV tok' q') u := by
      unfold rawV
      split at hu
      · rename_i hq
        rw [if_pos hq]; exact hu
      · rename_i hq
        rw [if_neg hq]
        obtain ⟨t, ht⟩ := hu
        exact ⟨(ne_ofL _).symm, t, by rw [ht, app_ofL, List.append_nil]⟩
    refine store_ok O2 (v := rawV tok' q') (by decide +kernel) R3 hru fun s4 R4 => ?_
    refine gtEnd G (by omega) hk hl hsf K ht R4 fun u' s5 loc R5 ru' => ?_
    refine q2 p' t6' tok' ln' st' q' s5 u' loc hp' hs' hrun R5 ?_
    unfold rawV at ru'
    split
    · rename_i hq
      rw [if_pos hq] at ru'; exact ru'
    · rename_i hq
      rw [if_neg hq] at ru'
      obtain ⟨_, t, hu'⟩ := ru'
      exact ⟨t, by rw [hu', app_ofL, List.append_nil]⟩
  · intro hbad
    refine ⟨(q3 hbad).1, fun e h' tk t vs hr hup => ?_⟩
    exact leave_onS (s' := { s with heap := h', toks := tk }) G.B FG hr hup fun h2 hr2 _ hup2 => (q3 hbad).2 e h2 tk t vs hr2 hup2
theorem get_token_ok (G : Gd w A base fr mean mg mb g) (hroom : A.depth + 12 < recursionLimit) (k : Ke g s.heap) (K : LexOk2 x dx pb fs i W refs) (hs : st ∈ sts1) (hp : p ≤ i.buf.length) (Lx : LexFull g s.heap x dx pb fs i refs W st ln p)
    (q2 : ∀ p' tok' ln' st' q' h' tk u, p' ≤ i.buf.length → st' ∈ sts1 → run [] (whW W) ((sL i.buf).drop p) st 32 false [] ln = .brk ((sL i.buf).drop p') st' ln' tok' q' →
      Ke g h' → LexFull g h' x dx pb fs i refs W st' ln' p' → (if !q' && tok'.isEmpty then u = .none else ∃ t, u = .str (ofL tok') t) → R (.ok (.ret u)) { s with heap := h', toks := tk })
    (q3 : run [] (whW W) ((sL i.buf).drop p) st 32 false [] ln = .bad → A.handled = none ∧ ∀ e h' tk t vs, RaisedS base g fr e (.type "ValueError") t vs [] h' → g.UpToSlots h' → R (.error (.ref e)) { s with heap := h', toks := tk }) :
    codeAny (model PySem.Challenge.rw_om0137_02.row.prog w) A (.call (.ref 725) ⟨[.ref x], []⟩) R s := by
  obtain ⟨⟨Γ, es, t6, e1, e2, e3, FR, S⟩, S2⟩ := Lx
  have X := G.X
  revert X
  k_fill
  intro X
  refine enterG (binds := [("self", .ref x)]) G (sub_app S S2) k (by k_is) (by k_is) (by omega) (BindsTo.of_eq rfl) rfl ?_ (by decide) rfl rfl rfl
  intro L' h₁ F' N' hlt
  refine gtAll (RE := fun e s'' => R (.error e) s'') (i := i) (p := p) (t6 := t6) (x := x) (dx := dx) (pb := pb) (fs := fs) (W := W) (refs := refs) (ln := ln) (st := st) (s := s) G hroom rfl (by decide) rfl K hs hp (by kernel_rfl) ?_ ?_ ?_
  · refine ⟨h₁, _, _, es, rfl, F', (fun y v h => nomatch h), rfl, FldRep.conv (lf_conv ?_ (fun u hu => ?_) (fun u hu => ?_) (fun u hu => ?_) fun u hu => ?_) FR, N'⟩
    · exact e2.symm
    · cases st with
      | none => exact hu
      | some k => exact hu
    · exact hu
    · show ∃ t, u = .int (ln + ((0 : Nat) : Int)) t
      rw [← e3]; exact hu
    · exact ⟨K.zero, by rw [← e1]; exact hu.2⟩
  · intro p' t6' tok' ln' st' q' s'' u loc h1 h2 h3 R2 hu
    obtain ⟨h, tk, m, es', rfl, F, l, sf, fr', N⟩ := R2
    have NS := Sub.of_news N
    refine q2 p' tok' ln' st' q' h tk u h1 h2 h3 (Ke.of_fr F) ⟨⟨_, es', t6', rfl, rfl, rfl, fr', fun q hq => NS q ?_⟩, fun q hq => NS q ?_⟩ hu
    · simp only [IO.led, List.cons_append, List.nil_append, List.mem_cons, List.not_mem_nil, or_false] at hq ⊢
      rcases hq with h | h | h | h <;> simp [h]
    · simp only [IO.led, List.cons_append, List.nil_append, List.mem_cons, List.not_mem_nil, or_false] at hq ⊢
      rcases hq with h | h <;> simp [h]
  · intro hbad
    exact q3 hbad
end
end Mine
end

section
open PySem PySem.W PyProof.Rows PySem.Calls
set_option Elab.async false
set_option maxRecDepth 100000
set_option maxHeartbeats 8000000
namespace Mine
noncomputable def namesN : List Str := ["lineno", "instream", "whitespace", "pushback"]
noncomputable def nlf (ln : V) (wc : Nat) (wb : Bool) : List (Str × V) := [("lineno", ln), ("instream", .obj 0), ("whitespace", .whites wc wb), ("pushback", .obj 1)]
theorem find_nx (w : World) (f : Str) (hf : f ∈ namesN) : findIn (hd.heap_39 w.params) (.ref 77) f = some none ∧ takerIn (hd.heap_39 w.params) 77 f = some none := by
  have e : PySem.Challenge.rw_om0137_02 = PySem.Challenge.rw_om0137_02 := rfl
  revert e
  k_fill
  intro _
  revert f
  rw [all_of]
  simp only [namesN, List.foldr]
  refine ⟨?_, ?_, ?_, ?_, trivial⟩ <;> (constructor <;> k_is)
theorem cls_nx (w : World) : plainGet (hd.heap_39 w.params) 77 "state" = true ∧ hasDictIn (hd.heap_39 w.params) 77 = true ∧ findIn (hd.heap_39 w.params) (.ref 77) "__setattr__" = some (some (.builtin "object.__setattr__")) ∧ plainOver (hd.heap_39 w.params) 77 = true := by
  have e : PySem.Challenge.rw_om0137_02 = PySem.Challenge.rw_om0137_02 := rfl
  revert e
  k_fill
  intro _
  refine ⟨?_, ?_, ?_, ?_⟩ <;> k_is
theorem rc_nx (w : World) : findIn (hd.heap_39 w.params) (.ref 77) "_read_char" = some (some (.ref 60)) ∧ isFn (hd.heap_39 w.params) (.ref 60) = true ∧ keepIn (hd.heap_39 w.params) (.ref 60) = true ∧ specialIn (hd.heap_39 w.params) (.ref 60) "__get__" = some (some (.builtin "function.__get__")) ∧ takesIn (hd.heap_39 w.params) (.ref 60) = some false ∧ nsIn (hd.heap_39 w.params) mainGlobals "iter" = some none := by
  have e : PySem.Challenge.rw_om0137_02 = PySem.Challenge.rw_om0137_02 := rfl
  revert e
  k_fill
  intro _
  refine ⟨?_, ?_, ?_, ?_, ?_, ?_⟩ <;> k_is
theorem nlf_names {ln : V} {wc : Nat} {wb : Bool} {f : Str} {v : V} (h : lookS f (nlf ln wc wb) = some v) : namesN.any (eqS f) = true := by
  have aux : ∀ (l : List (Str × V)) (names : List Str), l.map (·.1) = names → lookS f l = some v → names.any (eqS f) = true := by
    intro l
    induction l with
    | nil => intro names _ h; cases h
    | cons p l ih =>
      intro names e h
      subst e
      obtain ⟨y, u⟩ := p
      unfold lookS at h
      rw [List.map_cons, List.any_cons]
      split at h
      · rename_i hy
        rw [eqS_iff.mp hy, eqS_iff.mpr rfl]; rfl
      · rw [ih _ rfl h, Bool.or_true]
  exact aux _ _ rfl h
theorem names_nlf {ls : List Str} {ln : V} {wc : Nat} {wb : Bool} {loc : List (Str × V)} : NamesOk ⟨false, ls, loc, nlf ln wc wb⟩ ls namesN :=
  ⟨rfl, fun _ _ h => nlf_names h, by show 4 ≤ 100; omega⟩
theorem nlf_conv {Γ Γ' : Cx} {ln ln' : V} {wc wc' : Nat} {wb wb' : Bool} (h4 : Γ'.refs 0 = Γ.refs 0 ∧ Γ'.refs 1 = Γ.refs 1) (hl : ∀ u, Rep Γ ln u → Rep Γ' ln' u) (hw : ∀ u, Rep Γ (.whites wc wb) u → Rep Γ' (.whites wc' wb') u) :
    Conv Γ Γ' (nlf ln wc wb) (nlf ln' wc' wb') :=
  .cons hl (.cons (fun u h => by simp only [Rep] at h ⊢; rw [h4.1]; exact h) (.cons hw (.cons (fun u h => by simp only [Rep] at h ⊢; rw [h4.2]; exact h) .nil)))
section
variable {w : World} {s : Shared} {A : Around} {base g : Heap} {fr : List Env} {mg mb : Str → Option Value} {mean : ExcName → Option Value} {x dx L f : Addr} {led : List (Addr × Obj)} {cn : Str} {cs : Scope} {cd : Value} {T0 W : Str} {ln0 : Int} {refs : Nat → Value} {ls : List Str}
theorem ok_nx (G : Gd w A base fr mean mg mb g) (hh : A.handled = none) (hk : cs.kind = .function) (hl : ∀ x ∈ ls, cs.names.lookup x = some .local) (hls : ∀ y ∈ ls, (y == ("__debug__" : Str)) = false ∧ y ≠ Str.ofString "self") (hsf : cs.names.lookup (Str.ofString "self") = some .local)
    (hap : x ≠ dx ∧ ∀ p ∈ led, p.1 ≠ dx) (hT : T0.length ≤ 3000) :
    Ok (CxR w (A.deeper (envOf cn cs L f cd)) (envOf cn cs L f cd) g L s x dx 77 4 led T0 ln0 W refs) false ls namesN where
  X := G.X
  kind := hk
  locals := rfl
  isLoc := fun y hy => ⟨hl y (any_eqS hy), hls y (any_eqS hy)⟩
  self := hsf
  apart := hap
  plain := fun _ => (cls_nx w).1
  dict := (cls_nx w).2.1
  find := fun f hf => ⟨none, (find_nx w f (any_eqS hf)).1, rfl⟩
  setter := (cls_nx w).2.2.1
  over := (cls_nx w).2.2.2
  taker := fun f hf => (find_nx w f (any_eqS hf)).2
  small := hT
  prop := fun h => nomatch h
  valErr := fun h => nomatch h
end
/-- a _netrclex between two words -/
noncomputable def NxAt (g h : Heap) (x dx : Addr) (i : IO) (refs : Nat → Value) (W : Str) (ln : Int) (p : Nat) : Prop :=
  ∃ (Γ : Cx) (es : List DictEntry) (t6 : Nat) (wc : Nat) (wb : Bool), Γ.W = W ∧ Γ.refs 0 = refs 0 ∧ Γ.refs 1 = refs 1 ∧ Γ.ln0 = ln ∧ FldRep Γ (nlf (.row 0) wc wb) es ∧ Sub g h ((x, instObj 77 dx) :: (dx, dictOf es 4) :: i.led p t6)
structure NxOk (x dx : Addr) (i : IO) (refs : Nat → Value) : Prop where
  ne : i.io ≠ i.dio ∧ i.io ≠ x ∧ i.io ≠ dx ∧ i.dio ≠ x ∧ i.dio ≠ dx
  ne2 : x ≠ dx
  r0 : refs 0 = .ref i.io
  len : i.buf.length ≤ 1000
noncomputable def rcBody : List Stmt := defBody "_read_char" (clsBody "_netrclex" PySem.Challenge.rw_om0137_02.row.prog.main.body)
noncomputable def rcRest : List Stmt := rcBody.drop 1
theorem rcBody_eq : rcBody = .Assign [.Name (Str.ofString "ch") ⟨15, 8, 15, 10⟩] (.Call (.Attribute (.Attribute (.Name (Str.ofString "self") ⟨15, 13, 15, 17⟩) (Str.ofString "instream") ⟨15, 13, 15, 26⟩) (Str.ofString "read") ⟨15, 13, 15, 31⟩) [.Constant (.int 1) 0 ⟨15, 32, 15, 33⟩] [] ⟨15, 13, 15, 34⟩) ⟨15, 8, 15, 34⟩ :: rcRest := by kernel_rfl
noncomputable def lsC : List Str := ["ch"]
theorem lsC_ok : ∀ y ∈ lsC, (y == ("__debug__" : Str)) = false ∧ y ≠ Str.ofString "self" := by decide
theorem rc_nl {wc : Nat} {wb : Bool} : exS 10 ⟨false, lsC, [(Str.ofString "ch", .str [10])], nlf (.row 0) wc wb⟩ rcRest = some (.ret (.str [10]), ⟨false, lsC, [(Str.ofString "ch", .str [10])], nlf (.row 1) wc wb⟩) := by kernel_rfl
theorem rc_eof {wc : Nat} {wb : Bool} : exS 10 ⟨false, lsC, [(Str.ofString "ch", .str [])], nlf (.row 0) wc wb⟩ rcRest = some (.ret (.str []), ⟨false, lsC, [(Str.ofString "ch", .str [])], nlf (.row 0) wc wb⟩) := by kernel_rfl
noncomputable def rcIf : List Stmt × Pos := match rcRest with
  | .If _ b _ p :: _ => (b, p)
  | _ => ([], ⟨0, 0, 0, 0⟩)
theorem rcRest_eq : rcRest = [.If (.Compare (.Name (Str.ofString "ch") ⟨16, 11, 16, 13⟩) [.Eq] [.Constant (.str (Str.ofString "\n")) 0 ⟨16, 17, 16, 21⟩] ⟨16, 11, 16, 21⟩) rcIf.1 [] rcIf.2, .Return (some (.Name (Str.ofString "ch") ⟨18, 15, 18, 17⟩)) ⟨18, 8, 18, 17⟩] := by kernel_rfl
/-- a test of one sign -/
theorem evT_sign {μ : MS} {n : Nat} {y : Str} {c k : Nat} {p1 p2 p3 : Pos} {kk : Nat} {z : Str} (hl : μ.ls.any (eqS y) = true) (h : lookS y μ.loc = some (.str [c])) (hz : sL z = [k]) : evT (n + 1) μ (.Compare (.Name y p1) [.Eq] [.Constant (.str z) kk p2] p3) = some (c == k) := by
  have h1 : evE μ (.Name y p1) = some (.str [c]) := by
    show (if μ.ls.any (eqS y) then lookS y μ.loc else none) = _
    rw [if_pos hl, h]
  have h2 : evE μ (.Constant (.str z) kk p2) = some (.str [k]) := by
    show some (V.str (sL z)) = _
    rw [hz]
  show ((evE μ (.Name y p1)).bind fun a => (evE μ (.Constant (.str z) kk p2)).bind fun b => cmp .Eq a b) = _
  rw [h1, h2]
  show some ([c] == [k]) = some (c == k)
  simp
theorem exS_if {n : Nat} {μ : MS} {t : Expr} {b o rest : List Stmt} {p : Pos} {c : Bool} (h : evT n μ t = some c) : exS (n + 1) μ (.If t b o p :: rest) = (match exS n μ (if c then b else o) with
    | some (.next, μ') => exS n μ' rest
    | r => r) := by
  show (match ((evT n μ t).bind fun c => exS n μ (if c then b else o)) with
    | some (.next, μ') => exS n μ' rest
    | r => r) = _
  rw [h]
  rfl
theorem rc_other {wc : Nat} {wb : Bool} {c : Nat} (hc : c ≠ 10) : exS 10 ⟨false, lsC, [(Str.ofString "ch", .str [c])], nlf (.row 0) wc wb⟩ rcRest = some (.ret (.str [c]), ⟨false, lsC, [(Str.ofString "ch", .str [c])], nlf (.row 0) wc wb⟩) := by
  have ht := evT_sign (μ := ⟨false, lsC, [(Str.ofString "ch", .str [c])], nlf (.row 0) wc wb⟩) (n := 8) (y := Str.ofString "ch") (c := c) (k := 10) (p1 := ⟨16, 11, 16, 13⟩) (p2 := ⟨16, 17, 16, 21⟩) (p3 := ⟨16, 11, 16, 21⟩) (kk := 0) (z := Str.ofString "\n") (by show lsC.any (eqS (Str.ofString "ch")) = true; decide +kernel) (by kernel_rfl) (by decide +kernel)
  rw [show (c == 10) = false from by simpa using hc] at ht
  rw [rcRest_eq]
  rw [exS_if ht]
  kernel_rfl
end Mine
end

section
open PySem PySem.W PyProof.Rows PySem.Calls
set_option Elab.async false
set_option maxRecDepth 100000
set_option maxHeartbeats 8000000
namespace Mine
noncomputable def nl (c : Nat) (ln : Int) : Int := if c == 10 then ln + 1 else ln
theorem ins_nlf {ln : V} {wc : Nat} {wb : Bool} : lookS "instream" (nlf ln wc wb) = some (.obj 0) := by kernel_rfl
section
variable {w : World} {s : Shared} {A : Around} {base g : Heap} {fr : List Env} {mg mb : Str → Option Value} {mean : ExcName → Option Value} {x dx : Addr} {W : Str} {refs : Nat → Value} {i : IO} {p : Nat} {ln : Int} {R : Result → Shared → Prop}
theorem read_char_ok (G : Gd w A base fr mean mg mb g) (hroom : A.depth + 8 < recursionLimit) (hh : A.handled = none) (k : Ke g s.heap) (K : NxOk x dx i refs) (hp : p ≤ i.buf.length) (Nx : NxAt g s.heap x dx i refs W ln p)
    (qN : (sL i.buf).drop p = [] → ∀ h' tk t, Ke g h' → NxAt g h' x dx i refs W ln p → R (.ok (.ret (.str (ofL []) t))) { s with heap := h', toks := tk })
    (qC : ∀ c r, (sL i.buf).drop p = c :: r → ∀ h' tk t, Ke g h' → NxAt g h' x dx i refs W (nl c ln) (p + 1) → R (.ok (.ret (.str (ofL [c]) t))) { s with heap := h', toks := tk }) :
    codeAny (model PySem.Challenge.rw_om0137_02.row.prog w) A (.call (.ref 60) ⟨[.ref x], []⟩) R s := by
  obtain ⟨Γ, es, t6, wc, wb, e1, e2, e2', e3, FR, S⟩ := Nx
  have hlen := K.len
  have X := G.X
  revert X
  k_fill
  intro X
  refine enterG (binds := [("self", .ref x)]) G S k (by k_is) (by k_is) (by omega) (BindsTo.of_eq rfl) rfl ?_ (by decide) rfl rfl rfl
  intro L' h₁ F' N' hlt
  have ap : ∀ p t6, x ≠ dx ∧ ∀ r ∈ i.led p t6, r.1 ≠ dx := fun p t6 => ⟨K.ne2, fun r hr => by
    simp only [IO.led, List.mem_cons, List.not_mem_nil, or_false] at hr
    rcases hr with h | h <;> rw [h]
    · exact K.ne.2.2.1
    · exact K.ne.2.2.2.2⟩
  have key : ∀ (b : List Stmt) (cn : Str) (cs : Scope) (cd : Value) (Q : Flow → Shared → Prop) (E : Value → Shared → Prop) (s1 : Shared), b = rcBody → cs.kind = .function → (∀ x ∈ lsC, cs.names.lookup x = some .local) → cs.names.lookup (Str.ofString "self") = some .local →
      Rel (CxR w (A.deeper (envOf cn cs L' 60 cd)) (envOf cn cs L' 60 cd) g L' s x dx 77 4 (i.led p t6) (ofL []) ln W refs) ⟨false, lsC, [], nlf (.row 0) wc wb⟩ s1 →
      ((sL i.buf).drop p = [] → ∀ h' tk t, Ke g h' → NxAt g h' x dx i refs W ln p → Q (.ret (.str (ofL []) t)) { s with heap := h', toks := tk }) →
      (∀ c r, (sL i.buf).drop p = c :: r → ∀ h' tk t, Ke g h' → NxAt g h' x dx i refs W (nl c ln) (p + 1) → Q (.ret (.str (ofL [c]) t)) { s with heap := h', toks := tk }) →
      wpAny (model PySem.Challenge.rw_om0137_02.row.prog w) (A.deeper (envOf cn cs L' 60 cd)) (execs b (envOf cn cs L' 60 cd)) Q E s1 := by
    intro b cn cs cd Q E s1 hb hk hl hsf R0 qN qC
    have O : ∀ p t6, Ok (CxR w (A.deeper (envOf cn cs L' 60 cd)) (envOf cn cs L' 60 cd) g L' s x dx 77 4 (i.led p t6) (ofL []) ln W refs) false lsC namesN := fun p t6 => ok_nx G hh hk hl lsC_ok hsf (ap p t6) (by rw [len_ofL]; simp)
    rw [hb, rcBody_eq]
    refine wpAny_execs_cons (wpAny_Assign_Name (readE_ok G hroom hk 77 4 (O p t6) names_nlf ins_nlf K.r0 K.ne (by omega) K.len R0 (pl := _) rfl ?_ ?_) rfl)
    · intro hD s2 t R2
      refine store_ok (O p t6) (v := .str []) (by decide +kernel) R2 ⟨t, rfl⟩ fun s3 R3 => ?_
      refine exS_ok (O p t6) 10 rfl names_nlf rc_eof R3 (fun fl s4 hf R4 => ?_) (fun h => nomatch h)
      obtain ⟨u, rfl, t', rfl⟩ := hf
      obtain ⟨h, tk, m, es', rfl, F, l, sf, fr', N⟩ := R4
      exact qN hD h tk t' (Ke.of_fr F) ⟨_, es', t6, wc, wb, rfl, rfl, rfl, rfl, fr', Sub.of_news N⟩
    · intro c r t6' hD s2 t R2
      refine store_ok (O (p + 1) t6') (v := .str [c]) (by decide +kernel) R2 ⟨t, rfl⟩ fun s3 R3 => ?_
      by_cases hc : c = 10
      · subst hc
        refine exS_ok (O (p + 1) t6') 10 rfl names_nlf rc_nl R3 (fun fl s4 hf R4 => ?_) (fun h => nomatch h)
        obtain ⟨u, rfl, t', rfl⟩ := hf
        obtain ⟨h, tk, m, es', rfl, F, l, sf, fr', N⟩ := R4
        refine qC 10 r hD h tk t' (Ke.of_fr F) ⟨CxR w (A.deeper (envOf cn cs L' 60 cd)) (envOf cn cs L' 60 cd) g L' s x dx 77 4 (i.led (p + 1) t6') (ofL []) (ln + 1) W refs, es', t6', wc, wb, rfl, rfl, rfl, rfl, ?_, Sub.of_news N⟩
        refine FldRep.conv (nlf_conv ?_ (fun u hu => ?_) (fun u hu => ?_)) fr'
        · exact ⟨rfl, rfl⟩
        rotate_left
        · exact hu
        obtain ⟨t2, hu⟩ := hu
        exact ⟨t2, by rw [hu]; congr 1; show ln + ((1 : Nat) : Int) = ln + 1 + ((0 : Nat) : Int); omega⟩
      · refine exS_ok (O (p + 1) t6') 10 rfl names_nlf (rc_other hc) R3 (fun fl s4 hf R4 => ?_) (fun h => nomatch h)
        obtain ⟨u, rfl, t', rfl⟩ := hf
        obtain ⟨h, tk, m, es', rfl, F, l, sf, fr', N⟩ := R4
        have hnl : nl c ln = ln := by unfold nl; rw [if_neg (by simpa using hc)]
        refine qC c r hD h tk t' (Ke.of_fr F) ?_
        rw [hnl]
        exact ⟨_, es', t6', wc, wb, rfl, rfl, rfl, rfl, fr', Sub.of_news N⟩
  refine key _ _ _ _ _ _ _ (by kernel_rfl) rfl (by decide) rfl ?_ (fun hD h' tk t => qN hD h' tk t) (fun c r hD h' tk t => qC c r hD h' tk t)
  refine ⟨h₁, _, _, es, rfl, F', (fun y v h => nomatch h), rfl, FldRep.conv (nlf_conv ?_ (fun u hu => ?_) fun u hu => ?_) FR, N'⟩
  · exact ⟨e2.symm, e2'.symm⟩
  · show ∃ t, u = .int (ln + ((0 : Nat) : Int)) t
    rw [← e3]; exact hu
  · exact ⟨by rw [← hu.1, e1], by rw [← e1]; exact hu.2⟩
end
end Mine
end

section
open PySem PySem.W PyProof.Rows PySem.Calls
set_option Elab.async false
set_option maxRecDepth 100000
set_option maxHeartbeats 8000000
namespace Mine
noncomputable def isRow : V → Bool
  | .row _ => true
  | _ => false
theorem Rep.congr2 {Γ Γ' : Cx} {v : V} {u : Value} (hr : isRow v = false) (h1 : Γ'.T0 = Γ.T0) (h3 : Γ'.W = Γ.W) (h4 : Γ'.refs = Γ.refs) (h : Rep Γ v u) : Rep Γ' v u := by
  cases v with
  | row d => cases hr
  | _ => simp only [Rep] at h ⊢ <;> (try rw [h1]) <;> (try rw [h3]) <;> (try rw [h4]) <;> exact h
theorem LocRep.congr2 {Γ Γ' : Cx} {loc : List (Str × V)} {m : Str → Option Value} (hr : ∀ y v, lookS y loc = some v → isRow v = false) (h1 : Γ'.T0 = Γ.T0) (h3 : Γ'.W = Γ.W) (h4 : Γ'.refs = Γ.refs) (h : LocRep Γ loc m) : LocRep Γ' loc m :=
  fun x v e => let ⟨u, e', r⟩ := h x v e; ⟨u, e', r.congr2 (hr x v e) h1 h3 h4⟩
noncomputable abbrev listE : Obj := { cls := .type "list", data := .seq #[] }
noncomputable def exL (b : Bool) (it q pb x : Addr) (tc : Nat) : List (Addr × Obj) := [(it, if b then citObj .none .none true else citObj (.ref q) (.str (Str.ofString "") tc) false), (q, methodObj (.ref 60) (.ref x)), (pb, listE)]
noncomputable abbrev CxN (w : World) (A : Around) (cn : Str) (cs : Scope) (cd : Value) (f : Addr) (g : Heap) (L : Addr) (s : Shared) (x dx : Addr) (i : IO) (p t6 : Nat) (ex : List (Addr × Obj)) (tok : List Nat) (ln : Int) (W : Str) (refs : Nat → Value) : Cx :=
  CxR w (A.deeper (envOf cn cs L f cd)) (envOf cn cs L f cd) g L s x dx 77 4 (i.led p t6 ++ ex) (ofL tok) ln W refs
theorem fn747 (w : World) : ∃ ofn fd, (hd.heap_39 w.params).lookup 60 = some ofn ∧ ofn.data = .func fd := by
  have e : PySem.Challenge.rw_om0137_02 = PySem.Challenge.rw_om0137_02 := rfl
  revert e
  k_fill
  intro _
  exact ⟨_, _, by k_is, rfl⟩
noncomputable def apartX (ex : List (Addr × Obj)) (x dx : Addr) (i : IO) : Prop := ∀ r ∈ ex, r.1 ≠ x ∧ r.1 ≠ dx ∧ r.1 ≠ i.io ∧ r.1 ≠ i.dio
section
variable {w : World} {s s' : Shared} {A A2 : Around} {base g : Heap} {fr : List Env} {mg mb : Str → Option Value} {mean : ExcName → Option Value} {x dx : Addr} {W : Str} {refs : Nat → Value} {i : IO} {p t6 : Nat} {ln : Int} {RR : Result → Shared → Prop} {cn : Str} {cs : Scope} {cd : Value} {L f : Addr} {ex : List (Addr × Obj)} {tok : List Nat} {ls : List Str} {loc : List (Str × V)} {wc : Nat} {wb : Bool} {E : Value → Shared → Prop}
theorem rc_call (G : Gd w A base fr mean mg mb g) (hk : cs.kind = .function) (hA2 : A2.frames = some (envOf cn cs L f cd :: fr)) (hd2 : A2.depth + 8 < recursionLimit) (hh2 : A2.handled = none) (K : NxOk x dx i refs) (hp : p ≤ i.buf.length) (hex : apartX ex x dx i) (hloc : ∀ y v, lookS y loc = some v → isRow v = false)
    (R : Rel (CxN w A cn cs cd f g L s x dx i p t6 ex tok ln W refs) ⟨false, ls, loc, nlf (.row 0) wc wb⟩ s')
    (hN : (sL i.buf).drop p = [] → ∀ s'' t t6' wc wb, Rel (CxN w A cn cs cd f g L s x dx i p t6' ex tok ln W refs) ⟨false, ls, loc, nlf (.row 0) wc wb⟩ s'' → RR (.ok (.ret (.str (ofL []) t))) s'')
    (hC : ∀ c r, (sL i.buf).drop p = c :: r → ∀ s'' t t6' wc wb, Rel (CxN w A cn cs cd f g L s x dx i (p + 1) t6' ex tok (nl c ln) W refs) ⟨false, ls, loc, nlf (.row 0) wc wb⟩ s'' → RR (.ok (.ret (.str (ofL [c]) t))) s'') :
    codeAny (model PySem.Challenge.rw_om0137_02.row.prog w) A2 (.call (.ref 60) ⟨[.ref x], []⟩) RR s' := by
  obtain ⟨h1, tk1, m1, es1, rfl, F1, l1, sf1, fr1, N1⟩ := R
  have NS : News g L h1 ((x, instObj 77 dx) :: (dx, dictOf es1 4) :: i.led p t6) := fun q hq => N1 q (by
    simp only [IO.led, List.cons_append, List.nil_append, List.mem_cons, List.not_mem_nil, or_false] at hq ⊢
    rcases hq with h | h | h | h <;> simp [h])
  have NR : News g L h1 ex := fun q hq => N1 q (by
    simp only [IO.led, List.cons_append, List.nil_append, List.mem_cons]
    exact .inr (.inr (.inr (.inr hq))))
  obtain ⟨G', S', k', back⟩ := pushY (A := A2) (env := envOf cn cs L f cd) (s := { s with heap := h1, toks := tk1 }) G.B F1 NS hA2 rfl hk G.X G.T
  have hne : ∀ r ∈ ex, r.1 ∉ List.map (fun x : Addr × Obj => x.1) ((x, instObj 77 dx) :: (dx, dictOf es1 4) :: i.led p t6) := fun r hr hm => by
    simp only [IO.led, List.map_cons, List.map_nil, List.mem_cons, List.not_mem_nil, or_false] at hm
    have := hex r hr
    rcases hm with z | z | z | z
    · exact this.1 z
    · exact this.2.1 z
    · exact this.2.2.1 z
    · exact this.2.2.2 z
  have conv : ∀ (p' : Nat) (ln' : Int) (h' : Heap) (tk : Nat), Ke (hideAll h1 (List.map (fun x : Addr × Obj => x.1) ((x, instObj 77 dx) :: (dx, dictOf es1 4) :: i.led p t6))) h' → NxAt (hideAll h1 (List.map (fun x : Addr × Obj => x.1) ((x, instObj 77 dx) :: (dx, dictOf es1 4) :: i.led p t6))) h' x dx i refs W ln' p' →
      ∃ t6' wc wb, Rel (CxN w A cn cs cd f g L s x dx i p' t6' ex tok ln' W refs) ⟨false, ls, loc, nlf (.row 0) wc wb⟩ { s with heap := h', toks := tk } := by
    intro p' ln' h' tk hk' hnx
    obtain ⟨Γ', es', t6', wc', wb', e1, e2, e2', e3, FR', SS⟩ := hnx
    obtain ⟨F2, N2⟩ := back _ NR hne h' _ hk' SS
    refine ⟨t6', wc', wb', h', tk, m1, es', rfl, F2, ?_, sf1, FldRep.conv (nlf_conv ?_ (fun u hu => ?_) fun u hu => ?_) FR', ?_⟩
    · apply LocRep.congr2 hloc (h := l1) <;> rfl
    · exact ⟨e2.symm, e2'.symm⟩
    · show ∃ t, u = .int (ln' + ((0 : Nat) : Int)) t
      rw [← e3]; exact hu
    · exact ⟨by rw [← hu.1, e1], by rw [← e1]; exact hu.2⟩
    · intro q hq
      refine N2 q ?_
      simp only [IO.led, List.cons_append, List.nil_append, List.mem_cons, List.not_mem_nil, or_false] at hq ⊢
      exact hq
  refine read_char_ok G' hd2 hh2 k' K hp ⟨_, es1, t6, wc, wb, rfl, rfl, rfl, rfl, fr1, S'⟩ ?_ ?_
  · intro hD h' tk t hk' hnx
    obtain ⟨t6', wc', wb', R'⟩ := conv p ln h' tk hk' hnx
    exact hN hD _ t t6' wc' wb' R'
  · intro c r hD h' tk t hk' hnx
    obtain ⟨t6', wc', wb', R'⟩ := conv (p + 1) (nl c ln) h' tk hk' hnx
    exact hC c r hD _ t t6' wc' wb' R'
/-- the next sign of the iterator -/
theorem next_turn (G : Gd w A base fr mean mg mb g) (hroom : A.depth + 12 < recursionLimit) (hh : A.handled = none) (hk : cs.kind = .function) (K : NxOk x dx i refs) (hp : p ≤ i.buf.length) {it q pb : Addr} {tc : Nat} (hex : apartX (exL false it q pb x tc) x dx i) (hne : it ≠ q ∧ it ≠ pb) (hloc : ∀ y v, lookS y loc = some v → isRow v = false)
    (R : Rel (CxN w A cn cs cd f g L s x dx i p t6 (exL false it q pb x tc) tok ln W refs) ⟨false, ls, loc, nlf (.row 0) wc wb⟩ s') {Q : Option Value → Shared → Prop}
    (hN : (sL i.buf).drop p = [] → ∀ s'' t6' wc wb, Rel (CxN w A cn cs cd f g L s x dx i p t6' (exL true it q pb x tc) tok ln W refs) ⟨false, ls, loc, nlf (.row 0) wc wb⟩ s'' → Q none s'')
    (hC : ∀ c r, (sL i.buf).drop p = c :: r → ∀ s'' t t6' wc wb, Rel (CxN w A cn cs cd f g L s x dx i (p + 1) t6' (exL false it q pb x tc) tok (nl c ln) W refs) ⟨false, ls, loc, nlf (.row 0) wc wb⟩ s'' → Q (some (.str (ofL [c]) t)) s'') :
    wpAny (model PySem.Challenge.rw_om0137_02.row.prog w) (A.deeper (envOf cn cs L f cd)) (pyNext (.ref it)) Q E s' := by
  obtain ⟨ofn, fd, ho, hd⟩ := fn747 w
  have facts : ∀ {p t6 ln s1 wc wb}, Rel (CxN w A cn cs cd f g L s x dx i p t6 (exL false it q pb x tc) tok ln W refs) ⟨false, ls, loc, nlf (.row 0) wc wb⟩ s1 →
      s1.heap.get? it = some (citObj (.ref q) (.str (Str.ofString "") tc) false) ∧ s1.heap.get? q = some (methodObj (.ref 60) (.ref x)) ∧ s1.heap.get? 60 = some ofn := by
    intro p t6 ln s1 wc wb R
    obtain ⟨h1, tk1, m1, es1, rfl, F1, l1, sf1, fr1, N1⟩ := R
    exact ⟨(N1 (it, _) (by simp [IO.led, exL])).1, (N1 (q, _) (by simp [IO.led, exL])).1, G.X.keeps F1.keep _ _ ho⟩
  obtain ⟨f1, f2, f3⟩ := facts R
  refine next_cit hh f1 f2 f3 hd ?_
  refine rc_call (A2 := (A.deeper (envOf cn cs L f cd)).in1) G hk (Around.frames_deeper G.B.stack) (by simp only [depth_in1, depth_deeper]; omega) hh K hp hex hloc R ?_ ?_
  · intro hD s2 t t6' wc' wb' R2
    obtain ⟨g1, g2, g3⟩ := facts R2
    refine ⟨_, _, rfl, g1, g2, g3, ?_⟩
    rw [if_pos (by decide)]
    intro h' hit' hext
    refine hN hD _ t6' wc' wb' ?_
    obtain ⟨h1, tk1, m1, es1, rfl, F1, l1, sf1, fr1, N1⟩ := R2
    have hitN := N1 (it, citObj (.ref q) (.str (Str.ofString "") tc) false) (by simp [IO.led, exL])
    refine ⟨h', tk1, m1, es1, rfl, ⟨?_, ?_, F1.above⟩, ?_, sf1, ?_, ?_⟩
    · exact F1.ns.extBut hext (fun e => hitN.2.1 e.symm)
    · intro b o hb
      exact hext b o (fun e => by rw [e, hitN.2.2] at hb; cases hb) (F1.keep b o hb)
    · apply LocRep.congr2 hloc (h := l1) <;> rfl
    · have cv : Conv (CxN w A cn cs cd f g L s x dx i p t6' (exL false it q pb x tc) tok ln W refs) (CxN w A cn cs cd f g L s x dx i p t6' (exL true it q pb x tc) tok ln W refs) (nlf (.row 0) wc' wb') (nlf (.row 0) wc' wb') := by apply Conv.same <;> rfl
      exact fr1.conv cv
    · intro r hr
      by_cases he : r.1 = it
      · have hxr := hex (it, if false then citObj .none .none true else citObj (.ref q) (.str (Str.ofString "") tc) false) (by simp [exL])
        have : r = (it, citObj .none .none true) := by
          simp only [IO.led, exL, List.cons_append, List.nil_append, List.mem_cons, List.not_mem_nil, or_false] at hr
          rcases hr with z | z | z | z | z | z | z
          · rw [z] at he; exact absurd he.symm hxr.1
          · rw [z] at he; exact absurd he.symm hxr.2.1
          · rw [z] at he; exact absurd he.symm hxr.2.2.1
          · rw [z] at he; exact absurd he.symm hxr.2.2.2
          · simpa using z
          · rw [z] at he; exact absurd he.symm hne.1
          · rw [z] at he; exact absurd he.symm hne.2
        rw [this]
        exact ⟨hit', hitN.2.1, hitN.2.2⟩
      · have hr' : r ∈ (x, instObj 77 dx) :: (dx, dictOf es1 4) :: (i.led p t6' ++ exL false it q pb x tc) := by
          simp only [IO.led, exL, List.cons_append, List.nil_append, List.mem_cons, List.not_mem_nil, or_false] at hr ⊢
          rcases hr with z | z | z | z | z | z | z
          · simp [z]
          · simp [z]
          · simp [z]
          · simp [z]
          · rw [z] at he; exact absurd rfl he
          · simp [z]
          · simp [z]
        have := N1 r hr'
        exact ⟨hext r.1 r.2 he this.1, this.2⟩
  · intro c r hD s2 t t6' wc' wb' R2
    obtain ⟨g1, g2, g3⟩ := facts R2
    refine ⟨_, _, rfl, g1, g2, g3, ?_⟩
    rw [if_neg (fun e => by have := congrArg (fun z : Str => z.cps.size) e; cases this)]
    exact hC c r hD s2 t t6' wc' wb' R2
end
end Mine
end

section
open PySem PySem.W PyProof.Rows PySem.Calls
set_option Elab.async false
set_option maxRecDepth 100000
set_option maxHeartbeats 8000000
namespace Mine
inductive NO where
  | ret (tok r : List Nat) (ln : Int)
  | fin (tok : List Nat) (ln : Int)
/-- the loop over the signs of a word of _netrclex -/
noncomputable def loopL (stop : Nat → Bool) : List Nat → List Nat → Int → NO
  | [], tok, ln => .fin tok ln
  | [c], tok, ln => if stop c then .ret tok [] (nl c ln) else if c == 92 then .fin tok ln else .fin (tok ++ [c]) (nl c ln)
  | c :: d :: r, tok, ln => if stop c then .ret tok (d :: r) (nl c ln) else if c == 92 then loopL stop r (tok ++ [d]) (nl d ln) else loopL stop (d :: r) (tok ++ [c]) (nl c ln)
theorem loopL_cons (stop : Nat → Bool) (c : Nat) (r tok : List Nat) (ln : Int) : loopL stop (c :: r) tok ln = if stop c then .ret tok r (nl c ln) else if c == 92 then (match r with
    | [] => .fin tok ln
    | d :: r' => loopL stop r' (tok ++ [d]) (nl d ln)) else loopL stop r (tok ++ [c]) (nl c ln) := by
  cases r with
  | nil => rw [loopL]; rfl
  | cons d r => rw [loopL]
noncomputable def lsN : List Str := ["token", "ch", "fiter"]
theorem lsN_ok : ∀ y ∈ lsN, (y == ("__debug__" : Str)) = false ∧ y ≠ Str.ofString "self" := by decide
noncomputable def locN (tok : List Nat) : List (Str × V) := [(Str.ofString "token", .acc (!tok.isEmpty) []), (Str.ofString "fiter", .obj 2)]
noncomputable def μN (tok : List Nat) (wc : Nat) (wb : Bool) : MS := ⟨false, lsN, locN tok, nlf (.row 0) wc wb⟩
noncomputable def μNc (v : V) (tok : List Nat) (wc : Nat) (wb : Bool) : MS := ⟨false, lsN, (Str.ofString "ch", v) :: locN tok, nlf (.row 0) wc wb⟩
theorem locN_row (tok : List Nat) : ∀ y v, lookS y (locN tok) = some v → isRow v = false := by
  intro y v h
  simp only [locN, lookS] at h
  split at h
  · cases h; rfl
  · split at h
    · cases h; rfl
    · cases h
theorem loc_row_cons {y0 : Str} {v0 : V} {loc : List (Str × V)} (h0 : isRow v0 = false) (h : ∀ y v, lookS y loc = some v → isRow v = false) : ∀ y v, lookS y ((y0, v0) :: loc) = some v → isRow v = false := by
  intro y v e
  simp only [lookS] at e
  split at e
  · cases e; exact h0
  · exact h y v e
/-- the statements of such a loop -/
structure LoopB where
  T : Expr
  P1 : Pos
  P2 : Pos
  P3 : Pos
  P4 : Pos
  P5 : Pos
  P6 : Pos
  P7 : Pos
  P8 : Pos
  P9 : Pos
  P10 : Pos
  P11 : Pos
  P12 : Pos
  P13 : Pos
  P14 : Pos
  P15 : Pos
noncomputable def LoopB.body (b : LoopB) : List Stmt := [.If b.T [.Return (some (.Name (Str.ofString "token") b.P1)) b.P2] [.If (.Compare (.Name (Str.ofString "ch") b.P3) [.Eq] [.Constant (.str (Str.ofString "\\")) 0 b.P4] b.P5) [.Assign [.Name (Str.ofString "ch") b.P6] (.Call (.Attribute (.Name (Str.ofString "self") b.P7) (Str.ofString "_read_char") b.P8) [] [] b.P9) b.P10] [] b.P11] b.P12,
  .AugAssign (.Name (Str.ofString "token") b.P13) .Add (.Name (Str.ofString "ch") b.P14) b.P15]
section
variable {w : World} {s s' : Shared} {A : Around} {base g : Heap} {fr : List Env} {mg mb : Str → Option Value} {mean : ExcName → Option Value} {x dx it q pb : Addr} {tc : Nat} {W : Str} {refs : Nat → Value} {i : IO} {p t6 : Nat} {ln : Int} {RR : Result → Shared → Prop} {cn : Str} {cs : Scope} {cd : Value} {L f : Addr} {tok : List Nat} {wc : Nat} {wb : Bool} {E : Value → Shared → Prop}
/-- what the loops of get_token take for granted -/
structure NLoop (w : World) (A : Around) (base g : Heap) (fr : List Env) (mean : ExcName → Option Value) (mg mb : Str → Option Value) (cs : Scope) (x dx it q pb : Addr) (tc : Nat) (i : IO) (refs : Nat → Value) : Prop where
  G : Gd w A base fr mean mg mb g
  room : A.depth + 12 < recursionLimit
  hh : A.handled = none
  hk : cs.kind = .function
  hl : ∀ x ∈ lsN, cs.names.lookup x = some .local
  hsf : cs.names.lookup (Str.ofString "self") = some .local
  K : NxOk x dx i refs
  hex : apartX (exL false it q pb x tc) x dx i
  hne : it ≠ q ∧ it ≠ pb
theorem NLoop.apart (N : NLoop w A base g fr mean mg mb cs x dx it q pb tc i refs) (b : Bool) (p t6 : Nat) : x ≠ dx ∧ ∀ r ∈ i.led p t6 ++ exL b it q pb x tc, r.1 ≠ dx := by
  refine ⟨N.K.ne2, fun r hr => ?_⟩
  have e1 := N.hex (it, if false then citObj .none .none true else citObj (.ref q) (.str (Str.ofString "") tc) false) (by simp [exL])
  have e2 := N.hex (q, methodObj (.ref 60) (.ref x)) (by simp [exL])
  have e3 := N.hex (pb, listE) (by simp [exL])
  simp only [IO.led, exL, List.cons_append, List.nil_append, List.mem_cons, List.not_mem_nil, or_false] at hr
  rcases hr with h | h | h | h | h <;> rw [h]
  · exact N.K.ne.2.2.1
  · exact N.K.ne.2.2.2.2
  · exact e1.2.1
  · exact e2.2.1
  · exact e3.2.1
theorem NLoop.ok (N : NLoop w A base g fr mean mg mb cs x dx it q pb tc i refs) (b : Bool) (p t6 : Nat) (tok : List Nat) (ln : Int) (W : Str) (cn : Str) (cd : Value) (f L : Addr) (s : Shared) (ht : tok.length ≤ 3000) : Ok (CxN w A cn cs cd f g L s x dx i p t6 (exL b it q pb x tc) tok ln W refs) false lsN namesN :=
  ok_nx N.G N.hh N.hk N.hl lsN_ok N.hsf (N.apart b p t6) (by rw [len_ofL]; exact ht)
theorem rcm_nlf {ln : V} {wc : Nat} {wb : Bool} : lookS "_read_char" (nlf ln wc wb) = none := by kernel_rfl
/-- token += ch, with the token taken anew -/
theorem aug_ok (N : NLoop w A base g fr mean mg mb cs x dx it q pb tc i refs) {b : Bool} {y : List Nat} (hy : y.length ≤ 1) (ht : tok.length ≤ 2000) {P13 P14 P15 : Pos} {Q : Flow → Shared → Prop}
    (R : Rel (CxN w A cn cs cd f g L s x dx i p t6 (exL b it q pb x tc) tok ln W refs) (μNc (.str y) tok wc wb) s')
    (h : ∀ s'', Rel (CxN w A cn cs cd f g L s x dx i p t6 (exL b it q pb x tc) (tok ++ y) ln W refs) (μN (tok ++ y) wc wb) s'' → Q .next s'') :
    wpAny (model PySem.Challenge.rw_om0137_02.row.prog w) (A.deeper (envOf cn cs L f cd)) (exec (.AugAssign (.Name (Str.ofString "token") P13) .Add (.Name (Str.ofString "ch") P14) P15) (envOf cn cs L f cd)) Q E s' := by
  have O := N.ok b p t6 tok ln W cn cd f L s (by omega)
  refine exA_ok O (f := .next) (μ' := ⟨false, lsN, (Str.ofString "token", .acc (!tok.isEmpty) y) :: (Str.ofString "ch", .str y) :: locN tok, nlf (.row 0) wc wb⟩) rfl names_nlf ?_ R (fun fl s2 hf R2 => ?_) (fun h => nomatch h)
  · have e1 : evE (μNc (.str y) tok wc wb) (.Name (Str.ofString "ch") P14) = some (.str y) := by kernel_rfl
    have e2 : lookS (Str.ofString "token") ((Str.ofString "ch", V.str y) :: locN tok) = some (.acc (!tok.isEmpty) []) := by kernel_rfl
    have e3 : plus (.acc (!tok.isEmpty) []) (.str y) = some (.acc (!tok.isEmpty) y) := by
      show (if ((([] : List Nat).length ≤ 50) : Bool) && decide (y.length ≤ 50) then some (V.acc (!tok.isEmpty) ([] ++ y)) else none) = _
      rw [if_pos (by simp; omega)]
      rfl
    have e4 : lsN.any (eqS (Str.ofString "token")) = true := by decide +kernel
    show (if lsN.any (eqS (Str.ofString "token")) then (lookS (Str.ofString "token") ((Str.ofString "ch", V.str y) :: locN tok)).bind fun u => (evE (μNc (.str y) tok wc wb) (.Name (Str.ofString "ch") P14)).bind fun v => (plus u v).map fun z => (Fl.next, ({ μNc (.str y) tok wc wb with loc := (Str.ofString "token", z) :: (μNc (.str y) tok wc wb).loc } : MS)) else none) = _
    rw [if_pos e4, e2, Option.bind_some, e1, Option.bind_some, e3, Option.map_some]
    rfl
  · obtain rfl : fl = .next := hf
    refine h s2 ?_
    obtain ⟨h1, tk1, m1, es1, rfl, F1, l1, sf1, fr1, N1⟩ := R2
    refine ⟨h1, tk1, m1, es1, rfl, F1, ?_, sf1, ?_, N1⟩
    · intro z v hz
      simp only [μN, locN, lookS] at hz
      split at hz
      · rename_i h1
        obtain rfl := eqS_iff.mp h1
        cases hz
        obtain ⟨u, hu, _, t, ru⟩ := l1 _ _ (show lookS (Str.ofString "token") _ = some (.acc (!tok.isEmpty) y) from by kernel_rfl)
        exact ⟨u, hu, (ne_ofL _).symm, t, by rw [ru, app_ofL, app_ofL, List.append_nil]⟩
      · split at hz
        · rename_i h1
          obtain rfl := eqS_iff.mp h1
          cases hz
          obtain ⟨u, hu, ru⟩ := l1 _ _ (show lookS (Str.ofString "fiter") _ = some (.obj 2) from by kernel_rfl)
          exact ⟨u, hu, ru⟩
        · cases hz
    · refine FldRep.conv (nlf_conv ?_ (fun u hu => ?_) fun u hu => ?_) fr1
      · exact ⟨rfl, rfl⟩
      · exact hu
      · exact hu
end
end Mine
end

section
open PySem PySem.W PyProof.Rows PySem.Calls
set_option Elab.async false
set_option maxRecDepth 100000
set_option maxHeartbeats 8000000
namespace Mine
section
variable {w : World} {s s' : Shared} {A : Around} {base g : Heap} {fr : List Env} {mg mb : Str → Option Value} {mean : ExcName → Option Value} {x dx it q pb : Addr} {tc : Nat} {W : Str} {refs : Nat → Value} {i : IO} {p t6 : Nat} {ln : Int} {RR : Result → Shared → Prop} {cn : Str} {cs : Scope} {cd : Value} {L f : Addr} {tok : List Nat} {wc : Nat} {wb : Bool} {E : Value → Shared → Prop}
/-- the white signs, seen from another sign -/
theorem rewhite {Γ : Cx} {pc : Bool} {ls : List Str} {loc : List (Str × V)} {wc : Nat} {wb : Bool} (c : Nat) (R : Rel Γ ⟨pc, ls, loc, nlf (.row 0) wc wb⟩ s') : Rel Γ ⟨pc, ls, loc, nlf (.row 0) c (has Γ.W (sg c))⟩ s' := by
  obtain ⟨h1, tk1, m1, es1, rfl, F1, l1, sf1, fr1, N1⟩ := R
  refine ⟨h1, tk1, m1, es1, rfl, F1, l1, sf1, FldRep.conv (nlf_conv ?_ (fun u hu => ?_) fun u hu => ?_) fr1, N1⟩
  · exact ⟨rfl, rfl⟩
  · exact hu
  · exact ⟨rfl, hu.2⟩
/-- ch = self._read_char() behind a backslash, or ch as it is -/
theorem esc_ok (N : NLoop w A base g fr mean mg mb cs x dx it q pb tc i refs) (hp : p ≤ i.buf.length) (ht : tok.length ≤ 2000) {c : Nat} {P3 P4 P5 P6 P7 P8 P9 P10 P11 : Pos} {Q : Flow → Shared → Prop} {pl : Sem Bool}
    (he : eval (.Call (.Attribute (.Name (Str.ofString "self") P7) (Str.ofString "_read_char") P8) [] [] P9) (envOf cn cs L f cd) = (do
      let ov ← eval (.Name (Str.ofString "self") P7) (envOf cn cs L f cd)
      standAt P8.atName
      let (fz, first) ← holding [ov] (getMethod ov (Str.ofString "_read_char") pl)
      callWith P9 fz first (backTo P9 (starEach [] (envOf cn cs L f cd))) []))
    (R : Rel (CxN w A cn cs cd f g L s x dx i p t6 (exL false it q pb x tc) tok ln W refs) (μNc (.str [c]) tok wc wb) s')
    (h1 : c ≠ 92 → ∀ s'' wc wb, Rel (CxN w A cn cs cd f g L s x dx i p t6 (exL false it q pb x tc) tok ln W refs) (μNc (.str [c]) tok wc wb) s'' → Q .next s'')
    (h2 : c = 92 → (sL i.buf).drop p = [] → ∀ s'' t6' wc wb, Rel (CxN w A cn cs cd f g L s x dx i p t6' (exL false it q pb x tc) tok ln W refs) (μNc (.str []) tok wc wb) s'' → Q .next s'')
    (h3 : c = 92 → ∀ d r, (sL i.buf).drop p = d :: r → ∀ s'' t6' wc wb, Rel (CxN w A cn cs cd f g L s x dx i (p + 1) t6' (exL false it q pb x tc) tok (nl d ln) W refs) (μNc (.str [d]) tok wc wb) s'' → Q .next s'') :
    wpAny (model PySem.Challenge.rw_om0137_02.row.prog w) (A.deeper (envOf cn cs L f cd)) (exec (.If (.Compare (.Name (Str.ofString "ch") P3) [.Eq] [.Constant (.str (Str.ofString "\\")) 0 P4] P5) [.Assign [.Name (Str.ofString "ch") P6] (.Call (.Attribute (.Name (Str.ofString "self") P7) (Str.ofString "_read_char") P8) [] [] P9) P10] [] P11) (envOf cn cs L f cd)) Q E s' := by
  have O := N.ok false p t6 tok ln W cn cd f L s (by omega)
  have hlc : lsN.any (eqS (Str.ofString "ch")) = true := by decide +kernel
  have ht1 : evT 1 (μNc (.str [c]) tok wc wb) (.Compare (.Name (Str.ofString "ch") P3) [.Eq] [.Constant (.str (Str.ofString "\\")) 0 P4] P5) = some (c == 92) :=
    evT_sign (n := 0) (μ := μNc (.str [c]) tok wc wb) hlc (by kernel_rfl) (by decide +kernel)
  refine wpAny_If (evT_ok O rfl names_nlf 1 ht1 R fun s1 R1 => ?_)
  have drop : ∀ {Γ : Cx} {v : V} {s2 : Shared} {wc wb}, Rel Γ ⟨false, lsN, (Str.ofString "ch", v) :: (Str.ofString "ch", .str [c]) :: locN tok, nlf (.row 0) wc wb⟩ s2 → Rel Γ (μNc v tok wc wb) s2 := by
    intro Γ v s2 wc wb R2
    obtain ⟨h1, tk1, m1, es1, e, F1, l1, sf1, fr1, N1⟩ := R2
    refine ⟨h1, tk1, m1, es1, e, F1, fun y u hy => l1 y u ?_, sf1, fr1, N1⟩
    simp only [μNc, lookS] at hy ⊢
    split at hy
    · rename_i hh; rw [if_pos hh]; exact hy
    · rename_i hh; rw [if_neg hh, if_neg hh]; exact hy
  by_cases hc : c = 92
  · rw [if_pos (by simpa using hc)]
    obtain ⟨r1, r2, r3, r4, r5, r6⟩ := rc_nx w
    refine wpAny_execs_cons (wpAny_Assign_Name (MethodCall_ (pl := pl) (self_ok O R1 ?_) he) rfl)
    have R1' := R1
    obtain ⟨h1', tk1, m1, es1, rfl, F1, l1, sf1, fr1, N1⟩ := R1
    refine method_inst F1 N.G.X (InstAt.of_news N1 (.head _) (.tail _ (.head _))) (cls_nx w).1 r1 r2 (getL_none fr1 rcm_nlf) (callWith_K0 (N.G.X.keeps F1.keep) r3 (wpAny_call ?_))
    refine rc_call N.G N.hk (Around.frames_deeper N.G.B.stack) (by simp only [depth_deeper]; have := N.room; omega) N.hh N.K hp N.hex (loc_row_cons rfl (locN_row tok)) R1' ?_ ?_
    · intro hD s2 t t6' wc' wb' R2
      exact store_ok (N.ok false p t6' tok ln W cn cd f L s (by omega)) (v := .str []) hlc R2 ⟨t, rfl⟩ fun s3 R3 => wpAny_execs_nil (h2 hc hD s3 t6' wc' wb' (drop R3))
    · intro d r hD s2 t t6' wc' wb' R2
      exact store_ok (N.ok false (p + 1) t6' tok (nl d ln) W cn cd f L s (by omega)) (v := .str [d]) hlc R2 ⟨t, rfl⟩ fun s3 R3 => wpAny_execs_nil (h3 hc d r hD s3 t6' wc' wb' (drop R3))
  · rw [if_neg (by simpa using hc)]
    exact wpAny_execs_nil (h1 hc s1 wc wb R1)
/-- the loop over the signs of a word -/
theorem loopN (N : NLoop w A base g fr mean mg mb cs x dx it q pb tc i refs) {B : LoopB} {body : List Stmt} (hB : body = B.body) (stop : Nat → Bool) (hp : p ≤ i.buf.length) (ht : tok.length ≤ p) {P0 : Pos} {pl : Sem Bool}
    (hT : ∀ c tok, evT 3 (μNc (.str [c]) tok c (has W (sg c))) B.T = some (stop c))
    (he : eval (.Call (.Attribute (.Name (Str.ofString "self") B.P7) (Str.ofString "_read_char") B.P8) [] [] B.P9) (envOf cn cs L f cd) = (do
      let ov ← eval (.Name (Str.ofString "self") B.P7) (envOf cn cs L f cd)
      standAt B.P8.atName
      let (fz, first) ← holding [ov] (getMethod ov (Str.ofString "_read_char") pl)
      callWith B.P9 fz first (backTo B.P9 (starEach [] (envOf cn cs L f cd))) []))
    (R0 : Rel (CxN w A cn cs cd f g L s x dx i p t6 (exL false it q pb x tc) tok ln W refs) (μN tok wc wb) s')
    (hRet : ∀ p' t6' tok' ln' s'' wc wb u, p' ≤ i.buf.length → tok'.length ≤ p' → loopL stop ((sL i.buf).drop p) tok ln = .ret tok' ((sL i.buf).drop p') ln' → Rel (CxN w A cn cs cd f g L s x dx i p' t6' (exL false it q pb x tc) tok' ln' W refs) (μN tok' wc wb) s'' → (∃ t, u = .str (ofL tok') t) → RR (.ok (.ret u)) s'')
    (hFin : ∀ p' t6' tok' ln' s'' wc wb, p' ≤ i.buf.length → (sL i.buf).drop p' = [] → tok'.length ≤ p' → loopL stop ((sL i.buf).drop p) tok ln = .fin tok' ln' → Rel (CxN w A cn cs cd f g L s x dx i p' t6' (exL true it q pb x tc) tok' ln' W refs) (μN tok' wc wb) s'' → RR (.ok .next) s'') :
    codeAny (model PySem.Challenge.rw_om0137_02.row.prog w) (A.deeper (envOf cn cs L f cd)) (.forLoop (.Name (Str.ofString "ch") P0) (.ref it) body [] (envOf cn cs L f cd)) RR s' := by
  have hlen := N.K.len
  have hlc : lsN.any (eqS (Str.ofString "ch")) = true := by decide +kernel
  obtain ⟨I, hI⟩ : ∃ I : Nat → Shared → Prop, I = (fun n s' => ∃ p1 t1 tok1 ln1 wc wb, n = 1001 - p1 ∧ p1 ≤ i.buf.length ∧ tok1.length ≤ p1 ∧ loopL stop ((sL i.buf).drop p) tok ln = loopL stop ((sL i.buf).drop p1) tok1 ln1 ∧
      Rel (CxN w A cn cs cd f g L s x dx i p1 t1 (exL false it q pb x tc) tok1 ln1 W refs) (μN tok1 wc wb) s' ∨ n = 0 ∧ p1 = i.buf.length ∧ tok1.length ≤ p1 ∧ loopL stop ((sL i.buf).drop p) tok ln = .fin tok1 ln1 ∧
      Rel (CxN w A cn cs cd f g L s x dx i p1 t1 (exL false it q pb x tc) tok1 ln1 W refs) (μN tok1 wc wb) s') := ⟨_, rfl⟩
  refine codeAny_forLoop_any I ?_ (1001 - p) (by rw [hI]; exact ⟨p, t6, tok, ln, wc, wb, .inl ⟨rfl, hp, ht, rfl, R0⟩⟩)
  intro n s1 hJ
  rw [hI] at hJ
  obtain ⟨p1, t1, tok1, ln1, wc1, wb1, ⟨rfl, hp1, ht1, hrun, R1⟩ | ⟨rfl, hp1, ht1, hrun, R1⟩⟩ := hJ
  · refine next_turn N.G N.room N.hh N.hk N.K hp1 N.hex N.hne (locN_row tok1) R1 ?_ ?_
    · intro hD s2 t6' wc' wb' R2
      refine wpAny_execs_nil ?_
      refine hFin p1 t6' tok1 ln1 s2 wc' wb' hp1 hD ht1 ?_ R2
      rw [hrun, hD, loopL]
    · intro c r hD s2 t t6' wc' wb' R2
      have hlt : p1 + 1 ≤ i.buf.length := by
        have := congrArg List.length hD
        rw [List.length_drop, List.length_cons, len_sL] at this
        omega
      have hdr : (sL i.buf).drop (p1 + 1) = r := by
        rw [← List.drop_drop, hD]; rfl
      rw [hD, loopL_cons] at hrun
      refine wpAny_of_eq (a := ()) rfl (wpAny_assign_Name ?_)
      refine store_ok (N.ok false (p1 + 1) t6' tok1 (nl c ln1) W cn cd f L s (by omega)) (v := .str [c]) hlc R2 ⟨t, rfl⟩ fun s3 R3 => ?_
      have R3' := rewhite c R3
      rw [hB]
      refine wpAny_execs_cons (wpAny_If (evT_ok (N.ok false (p1 + 1) t6' tok1 (nl c ln1) W cn cd f L s (by omega)) rfl names_nlf 3 (hT c tok1) R3' fun s4 R4 => ?_))
      cases hs : stop c with
      | true =>
        rw [if_pos rfl]
        rw [hs, if_pos rfl] at hrun
        refine wpAny_execs_cons (wpAny_Return_some (evE_ok (N.ok false (p1 + 1) t6' tok1 (nl c ln1) W cn cd f L s (by omega)) rfl names_nlf (v := .acc (!tok1.isEmpty) []) (by kernel_rfl) R4 fun u s5 ru R5 => ?_))
        obtain ⟨_, t', ru⟩ := ru
        refine hRet (p1 + 1) t6' tok1 (nl c ln1) s5 c (has W (sg c)) u hlt (by omega) (by rw [hrun, hdr]) ?_ ⟨t', by rw [ru, app_ofL, List.append_nil]⟩
        obtain ⟨h6, tk6, m6, es6, e6, F6, l6, sf6, fr6, N6⟩ := R5
        refine ⟨h6, tk6, m6, es6, e6, F6, fun y v hy => l6 y v ?_, sf6, fr6, N6⟩
        simp only [μN, μNc, locN, lookS] at hy ⊢
        split at hy
        · rename_i h1
          obtain rfl := eqS_iff.mp h1
          rw [if_neg (by decide +kernel), if_pos h1]; exact hy
        · split at hy
          · rename_i h0 h1
            obtain rfl := eqS_iff.mp h1
            rw [if_neg (by decide +kernel), if_neg h0, if_pos h1]; exact hy
          · cases hy
      | false =>
        rw [if_neg (by decide)]
        rw [hs, if_neg (by decide)] at hrun
        refine wpAny_execs_cons (esc_ok N hlt (by omega) he R4 ?_ ?_ ?_)
        · intro hc s5 wc5 wb5 R5
          rw [if_neg (by simpa using hc)] at hrun
          refine wpAny_execs_nil (wpAny_execs_cons (aug_ok N (y := [c]) (by simp) (by omega) R5 fun s6 R6 => wpAny_execs_nil ?_))
          exact ⟨1001 - (p1 + 1), by omega, by rw [hI]; exact ⟨p1 + 1, t6', tok1 ++ [c], nl c ln1, _, _, .inl ⟨rfl, hlt, by simp; omega, by rw [hrun, hdr], R6⟩⟩⟩
        · intro hc hD2 s5 t65 wc5 wb5 R5
          rw [if_pos (by simpa using hc)] at hrun
          rw [hdr] at hD2
          subst hD2
          refine wpAny_execs_nil (wpAny_execs_cons (aug_ok N (y := []) (by simp) (by omega) R5 fun s6 R6 => wpAny_execs_nil ?_))
          rw [List.append_nil] at R6
          have hpl : p1 + 1 = i.buf.length := by
            have := congrArg List.length hdr
            rw [List.length_drop, List.length_nil, len_sL] at this
            omega
          have hnl : nl c ln1 = ln1 := by rw [hc]; rfl
          rw [hnl] at R6
          exact ⟨0, by omega, by rw [hI]; exact ⟨p1 + 1, t65, tok1, ln1, _, _, .inr ⟨rfl, hpl, by omega, hrun, R6⟩⟩⟩
        · intro hc d r' hD2 s5 t65 wc5 wb5 R5
          rw [if_pos (by simpa using hc)] at hrun
          rw [hdr] at hD2
          subst hD2
          have hlt2 : p1 + 1 + 1 ≤ i.buf.length := by
            have := congrArg List.length hdr
            rw [List.length_drop, List.length_cons, len_sL] at this
            omega
          have hdr2 : (sL i.buf).drop (p1 + 1 + 1) = r' := by
            rw [← List.drop_drop, hdr]; rfl
          have hnl : nl c ln1 = ln1 := by rw [hc]; rfl
          rw [hnl] at R5
          refine wpAny_execs_nil (wpAny_execs_cons (aug_ok N (y := [d]) (by simp) (by omega) R5 fun s6 R6 => wpAny_execs_nil ?_))
          exact ⟨1001 - (p1 + 1 + 1), by omega, by rw [hI]; exact ⟨p1 + 1 + 1, t65, tok1 ++ [d], nl d ln1, _, _, .inl ⟨rfl, hlt2, by simp; omega, by rw [hrun, hdr2], R6⟩⟩⟩
  · have hnil : (sL i.buf).drop p1 = [] := by
      apply List.drop_eq_nil_of_le
      rw [len_sL]; omega
    refine next_turn N.G N.room N.hh N.hk N.K (by omega) N.hex N.hne (locN_row tok1) R1 ?_ ?_
    · intro hD s2 t6' wc' wb' R2
      exact wpAny_execs_nil (hFin p1 t6' tok1 ln1 s2 wc' wb' (by omega) hD ht1 hrun R2)
    · intro c r hD
      rw [hnil] at hD; cases hD
end
end Mine
end

section
open PySem PySem.W PyProof.Rows PySem.Calls
set_option Elab.async false
set_option maxRecDepth 100000
set_option maxHeartbeats 8000000
namespace Mine
/-- a word of _netrclex -/
noncomputable def ntok (wh : Nat → Bool) : List Nat → Int → NO
  | [], ln => .fin [] ln
  | c :: r, ln => if wh c then ntok wh r (nl c ln) else if c == 34 then loopL (· == 34) r [] (nl c ln) else if c == 92 then (match r with
    | [] => loopL wh [] [] ln
    | d :: r' => loopL wh r' [d] (nl d ln)) else loopL wh r [c] (nl c ln)
theorem ntok_cons (wh : Nat → Bool) (c : Nat) (r : List Nat) (ln : Int) : ntok wh (c :: r) ln = if wh c then ntok wh r (nl c ln) else if c == 34 then loopL (· == 34) r [] (nl c ln) else if c == 92 then (match r with
    | [] => loopL wh [] [] ln
    | d :: r' => loopL wh r' [d] (nl d ln)) else loopL wh r [c] (nl c ln) := rfl
theorem evT_ws {μ : MS} {n : Nat} {c : Nat} {b : Bool} {p1 p2 p3 p4 : Pos} (hl : μ.ls.any (eqS (Str.ofString "ch")) = true) (h : lookS (Str.ofString "ch") μ.loc = some (.str [c])) (hw : lookS (Str.ofString "whitespace") μ.fld = some (.whites c b)) :
    evT (n + 1) μ (.Compare (.Name (Str.ofString "ch") p1) [.In] [.Attribute (.Name (Str.ofString "self") p2) (Str.ofString "whitespace") p3] p4) = some b := by
  have h1 : evE μ (.Name (Str.ofString "ch") p1) = some (.str [c]) := by
    show (if μ.ls.any (eqS (Str.ofString "ch")) then lookS (Str.ofString "ch") μ.loc else none) = _
    rw [if_pos hl, h]
  have h2 : evE μ (.Attribute (.Name (Str.ofString "self") p2) (Str.ofString "whitespace") p3) = some (.whites c b) := by
    show (if eqS (Str.ofString "self") "self" then (if eqS (Str.ofString "whitespace") "punctuation_chars" then (if μ.pc = true ∧ lookS "_punctuation_chars" μ.fld = some (.str []) then some (.str []) else none) else lookS (Str.ofString "whitespace") μ.fld) else none) = some (V.whites c b)
    have e1 : eqS (Str.ofString "self") "self" = true := eqS_iff.mpr rfl
    have e2 : ¬ eqS (Str.ofString "whitespace") "punctuation_chars" = true := by decide +kernel
    rw [if_pos e1, if_neg e2, hw]
  show ((evE μ (.Name (Str.ofString "ch") p1)).bind fun a => (evE μ (.Attribute (.Name (Str.ofString "self") p2) (Str.ofString "whitespace") p3)).bind fun b => cmp .In a b) = _
  rw [h1, h2]
  show (if ([c] == [c]) = true then some b else none) = some b
  rw [if_pos (by simp)]
noncomputable def ngB2 : LoopB := ⟨.Compare (.Name (Str.ofString "ch") ⟨30, 23, 30, 25⟩) [.Eq] [.Constant (.str (Str.ofString "\"")) 0 ⟨30, 29, 30, 32⟩] ⟨30, 23, 30, 32⟩, ⟨31, 31, 31, 36⟩, ⟨31, 24, 31, 36⟩, ⟨32, 25, 32, 27⟩, ⟨32, 31, 32, 35⟩, ⟨32, 25, 32, 35⟩, ⟨33, 24, 33, 26⟩, ⟨33, 29, 33, 33⟩, ⟨33, 29, 33, 44⟩, ⟨33, 29, 33, 46⟩, ⟨33, 24, 33, 46⟩, ⟨32, 20, 33, 46⟩, ⟨30, 20, 33, 46⟩, ⟨34, 20, 34, 25⟩, ⟨34, 29, 34, 31⟩, ⟨34, 20, 34, 31⟩⟩
noncomputable def ngB3 : LoopB := ⟨.Compare (.Name (Str.ofString "ch") ⟨40, 23, 40, 25⟩) [.In] [.Attribute (.Name (Str.ofString "self") ⟨40, 29, 40, 33⟩) (Str.ofString "whitespace") ⟨40, 29, 40, 44⟩] ⟨40, 23, 40, 44⟩, ⟨41, 31, 41, 36⟩, ⟨41, 24, 41, 36⟩, ⟨42, 25, 42, 27⟩, ⟨42, 31, 42, 35⟩, ⟨42, 25, 42, 35⟩, ⟨43, 24, 43, 26⟩, ⟨43, 29, 43, 33⟩, ⟨43, 29, 43, 44⟩, ⟨43, 29, 43, 46⟩, ⟨43, 24, 43, 46⟩, ⟨42, 20, 43, 46⟩, ⟨40, 20, 43, 46⟩, ⟨44, 20, 44, 25⟩, ⟨44, 29, 44, 31⟩, ⟨44, 20, 44, 31⟩⟩
noncomputable def ngBody : List Stmt := defBody "get_token" (clsBody "_netrclex" PySem.Challenge.rw_om0137_02.row.prog.main.body)
noncomputable def ng0 : List Stmt × Pos := match ngBody with
  | .If _ b _ p :: _ => (b, p)
  | _ => ([], ⟨0, 0, 0, 0⟩)
noncomputable def ngL1 : List Stmt := [.If (.Compare (.Name (Str.ofString "ch") ⟨26, 15, 26, 17⟩) [.In] [.Attribute (.Name (Str.ofString "self") ⟨26, 21, 26, 25⟩) (Str.ofString "whitespace") ⟨26, 21, 26, 36⟩] ⟨26, 15, 26, 36⟩) [.Continue ⟨27, 16, 27, 24⟩] [] ⟨26, 12, 27, 24⟩,
  .If (.Compare (.Name (Str.ofString "ch") ⟨28, 15, 28, 17⟩) [.Eq] [.Constant (.str (Str.ofString "\"")) 0 ⟨28, 21, 28, 24⟩] ⟨28, 15, 28, 24⟩)
    [.For (.Name (Str.ofString "ch") ⟨29, 20, 29, 22⟩) (.Name (Str.ofString "fiter") ⟨29, 26, 29, 31⟩) ngB2.body [] ⟨29, 16, 34, 31⟩]
    [.If (.Compare (.Name (Str.ofString "ch") ⟨36, 19, 36, 21⟩) [.Eq] [.Constant (.str (Str.ofString "\\")) 0 ⟨36, 25, 36, 29⟩] ⟨36, 19, 36, 29⟩) [.Assign [.Name (Str.ofString "ch") ⟨37, 20, 37, 22⟩] (.Call (.Attribute (.Name (Str.ofString "self") ⟨37, 25, 37, 29⟩) (Str.ofString "_read_char") ⟨37, 25, 37, 40⟩) [] [] ⟨37, 25, 37, 42⟩) ⟨37, 20, 37, 42⟩] [] ⟨36, 16, 37, 42⟩,
     .AugAssign (.Name (Str.ofString "token") ⟨38, 16, 38, 21⟩) .Add (.Name (Str.ofString "ch") ⟨38, 25, 38, 27⟩) ⟨38, 16, 38, 27⟩,
     .For (.Name (Str.ofString "ch") ⟨39, 20, 39, 22⟩) (.Name (Str.ofString "fiter") ⟨39, 26, 39, 31⟩) ngB3.body [] ⟨39, 16, 44, 31⟩] ⟨28, 12, 44, 31⟩]
theorem ngBody_eq : ngBody = [.If (.Attribute (.Name (Str.ofString "self") ⟨21, 11, 21, 15⟩) (Str.ofString "pushback") ⟨21, 11, 21, 24⟩) ng0.1 [] ng0.2,
  .Assign [.Name (Str.ofString "token") ⟨23, 8, 23, 13⟩] (.Constant (.str (Str.ofString "")) 0 ⟨23, 16, 23, 18⟩) ⟨23, 8, 23, 18⟩,
  .Assign [.Name (Str.ofString "fiter") ⟨24, 8, 24, 13⟩] (.Call (.Name (Str.ofString "iter") ⟨24, 16, 24, 20⟩) [.Attribute (.Name (Str.ofString "self") ⟨24, 21, 24, 25⟩) (Str.ofString "_read_char") ⟨24, 21, 24, 36⟩, .Constant (.str (Str.ofString "")) 0 ⟨24, 38, 24, 40⟩] [] ⟨24, 16, 24, 41⟩) ⟨24, 8, 24, 41⟩,
  .For (.Name (Str.ofString "ch") ⟨25, 12, 25, 14⟩) (.Name (Str.ofString "fiter") ⟨25, 18, 25, 23⟩) ngL1 [] ⟨25, 8, 44, 31⟩,
  .Return (some (.Name (Str.ofString "token") ⟨45, 15, 45, 20⟩)) ⟨45, 8, 45, 20⟩] := by kernel_rfl
section
variable {w : World} {s s' : Shared} {A : Around} {base g : Heap} {fr : List Env} {mg mb : Str → Option Value} {mean : ExcName → Option Value} {x dx it q pb : Addr} {tc : Nat} {W : Str} {refs : Nat → Value} {i : IO} {p t6 : Nat} {ln : Int} {RR : Result → Shared → Prop} {cn : Str} {cs : Scope} {cd : Value} {L f : Addr} {tok : List Nat} {wc : Nat} {wb : Bool} {E : Value → Shared → Prop}
/-- for ch in fiter -/
theorem for_ok (N : NLoop w A base g fr mean mg mb cs x dx it q pb tc i refs) (r2 : refs 2 = .ref it) {b : Bool} (ht : tok.length ≤ 2000) {loc : List (Str × V)} {P0 P1 P2 : Pos} {body : List Stmt} {Q : Flow → Shared → Prop} (hf : lookS (Str.ofString "fiter") loc = some (.obj 2))
    (R : Rel (CxN w A cn cs cd f g L s x dx i p t6 (exL b it q pb x tc) tok ln W refs) ⟨false, lsN, loc, nlf (.row 0) wc wb⟩ s')
    (h : ∀ s'', Rel (CxN w A cn cs cd f g L s x dx i p t6 (exL b it q pb x tc) tok ln W refs) ⟨false, lsN, loc, nlf (.row 0) wc wb⟩ s'' → codeAny (model PySem.Challenge.rw_om0137_02.row.prog w) (A.deeper (envOf cn cs L f cd)) (.forLoop (.Name (Str.ofString "ch") P0) (.ref it) body [] (envOf cn cs L f cd)) (fun r s' => match r with | .ok f => Q f s' | .error e => cameBackBy (model PySem.Challenge.rw_om0137_02.row.prog w) (A.deeper (envOf cn cs L f cd)) (envOf cn cs L f cd) E e s') s'') :
    wpAny (model PySem.Challenge.rw_om0137_02.row.prog w) (A.deeper (envOf cn cs L f cd)) (exec (.For (.Name (Str.ofString "ch") P0) (.Name (Str.ofString "fiter") P1) body [] P2) (envOf cn cs L f cd)) Q E s' := by
  have O := N.ok b p t6 tok ln W cn cd f L s (by omega)
  refine wpAny_For (evE_ok O rfl names_nlf (v := .obj 2) ?_ R fun u s1 ru R1 => ?_)
  · show (if lsN.any (eqS (Str.ofString "fiter")) then lookS (Str.ofString "fiter") loc else none) = _
    rw [if_pos (by decide +kernel), hf]
  · obtain ⟨rfl, -⟩ := ru
    show wpAny _ _ (pyIter (refs 2)) _ _ _
    rw [r2]
    have R1' := R1
    obtain ⟨h1, tk1, m1, es1, rfl, F1, l1, sf1, fr1, N1⟩ := R1
    have hit := (N1 (it, if b then citObj .none .none true else citObj (.ref q) (.str (Str.ofString "") tc) false) (by simp [IO.led, exL])).1
    cases b with
    | true => exact iter_cit hit (h _ R1')
    | false => exact iter_cit hit (h _ R1')
theorem dropCh {Γ : Cx} {v : V} {s2 : Shared} {tok : List Nat} {wc wb} (R5 : Rel Γ (μNc v tok wc wb) s2) : Rel Γ (μN tok wc wb) s2 := by
  obtain ⟨h6, tk6, m6, es6, e6, F6, l6, sf6, fr6, N6⟩ := R5
  refine ⟨h6, tk6, m6, es6, e6, F6, fun y v hy => l6 y v ?_, sf6, fr6, N6⟩
  simp only [μN, μNc, locN, lookS] at hy ⊢
  split at hy
  · rename_i h1
    obtain rfl := eqS_iff.mp h1
    rw [if_neg (by decide +kernel), if_pos h1]; exact hy
  · split at hy
    · rename_i h0 h1
      obtain rfl := eqS_iff.mp h1
      rw [if_neg (by decide +kernel), if_neg h0, if_pos h1]; exact hy
    · cases hy
/-- the outer loop -/
theorem loop1N (N : NLoop w A base g fr mean mg mb cs x dx it q pb tc i refs) (r2 : refs 2 = .ref it) {body : List Stmt} (hB : body = ngL1) (hp : p ≤ i.buf.length) {P0 : Pos}
    (R0 : Rel (CxN w A cn cs cd f g L s x dx i p t6 (exL false it q pb x tc) [] ln W refs) (μN [] wc wb) s')
    (hRet : ∀ p' t6' tok' ln' s'' wc wb u, p' ≤ i.buf.length → tok'.length ≤ p' → ntok (fun c => has W (sg c)) ((sL i.buf).drop p) ln = .ret tok' ((sL i.buf).drop p') ln' → Rel (CxN w A cn cs cd f g L s x dx i p' t6' (exL false it q pb x tc) tok' ln' W refs) (μN tok' wc wb) s'' → (∃ t, u = .str (ofL tok') t) → RR (.ok (.ret u)) s'')
    (hFin : ∀ p' t6' tok' ln' s'' wc wb, p' ≤ i.buf.length → (sL i.buf).drop p' = [] → tok'.length ≤ p' → ntok (fun c => has W (sg c)) ((sL i.buf).drop p) ln = .fin tok' ln' → Rel (CxN w A cn cs cd f g L s x dx i p' t6' (exL true it q pb x tc) tok' ln' W refs) (μN tok' wc wb) s'' → RR (.ok .next) s'') :
    codeAny (model PySem.Challenge.rw_om0137_02.row.prog w) (A.deeper (envOf cn cs L f cd)) (.forLoop (.Name (Str.ofString "ch") P0) (.ref it) body [] (envOf cn cs L f cd)) RR s' := by
  have hlen := N.K.len
  have hlc : lsN.any (eqS (Str.ofString "ch")) = true := by decide +kernel
  obtain ⟨I, hI⟩ : ∃ I : Nat → Shared → Prop, I = (fun n s' => ∃ p1 t1 tok1 ln1 wc wb, n = 1002 - p1 ∧ p1 ≤ i.buf.length ∧ tok1 = [] ∧ ntok (fun c => has W (sg c)) ((sL i.buf).drop p) ln = ntok (fun c => has W (sg c)) ((sL i.buf).drop p1) ln1 ∧
      Rel (CxN w A cn cs cd f g L s x dx i p1 t1 (exL false it q pb x tc) [] ln1 W refs) (μN [] wc wb) s' ∨ n = 0 ∧ p1 ≤ i.buf.length ∧ (sL i.buf).drop p1 = [] ∧ tok1.length ≤ p1 ∧ ntok (fun c => has W (sg c)) ((sL i.buf).drop p) ln = .fin tok1 ln1 ∧
      Rel (CxN w A cn cs cd f g L s x dx i p1 t1 (exL true it q pb x tc) tok1 ln1 W refs) (μN tok1 wc wb) s') := ⟨_, rfl⟩
  refine codeAny_forLoop_any I ?_ (1002 - p) (by rw [hI]; exact ⟨p, t6, [], ln, wc, wb, .inl ⟨rfl, hp, rfl, rfl, R0⟩⟩)
  intro n s1 hJ
  rw [hI] at hJ
  obtain ⟨p1, t1, tok1, ln1, wc1, wb1, ⟨rfl, hp1, rfl, hrun, R1⟩ | ⟨rfl, hp1, hnil, ht1, hrun, R1⟩⟩ := hJ
  · refine next_turn N.G N.room N.hh N.hk N.K hp1 N.hex N.hne (locN_row []) R1 ?_ ?_
    · intro hD s2 t6' wc' wb' R2
      refine wpAny_execs_nil ?_
      refine hFin p1 t6' [] ln1 s2 wc' wb' hp1 hD (by simp) ?_ R2
      exact hrun.trans (congrArg (fun l => ntok (fun c => has W (sg c)) l ln1) hD)
    · intro c r hD s2 t t6' wc' wb' R2
      have hlt : p1 + 1 ≤ i.buf.length := by
        have := congrArg List.length hD
        rw [List.length_drop, List.length_cons, len_sL] at this
        omega
      have hdr : (sL i.buf).drop (p1 + 1) = r := by
        rw [← List.drop_drop, hD]; rfl
      rw [hD, ntok_cons] at hrun
      have O1 := N.ok false (p1 + 1) t6' [] (nl c ln1) W cn cd f L s (by simp)
      refine wpAny_of_eq (a := ()) rfl (wpAny_assign_Name ?_)
      refine store_ok O1 (v := .str [c]) hlc R2 ⟨t, rfl⟩ fun s3 R3 => ?_
      have R3' := rewhite c R3
      rw [hB]
      refine wpAny_execs_cons (wpAny_If (evT_ok O1 rfl names_nlf 3 (evT_ws (n := 2) (c := c) (b := has W (sg c)) hlc (by kernel_rfl) (by kernel_rfl)) R3' fun s4 R4 => ?_))
      have fin : ∀ (stop : Nat → Bool) (p0 : Nat) (tok0 : List Nat) (ln0 : Int), ntok (fun c => has W (sg c)) ((sL i.buf).drop p) ln = loopL stop ((sL i.buf).drop p0) tok0 ln0 → ∀ p' t6' tok' ln' s'' wc wb, p' ≤ i.buf.length → (sL i.buf).drop p' = [] → tok'.length ≤ p' → loopL stop ((sL i.buf).drop p0) tok0 ln0 = .fin tok' ln' → Rel (CxN w A cn cs cd f g L s x dx i p' t6' (exL true it q pb x tc) tok' ln' W refs) (μN tok' wc wb) s'' →
          ∃ m, m < 1002 - p1 ∧ I m s'' :=
        fun stop p0 tok0 ln0 hr0 p' t6' tok' ln' s'' wc wb a1 a2 a3 a4 a5 => ⟨0, by omega, by rw [hI]; exact ⟨p', t6', tok', ln', wc, wb, .inr ⟨rfl, a1, a2, a3, hr0.trans a4, a5⟩⟩⟩
      cases hs : has W (sg c) with
      | true =>
        rw [hs] at R4
        rw [if_pos rfl]
        rw [hs, if_pos rfl] at hrun
        refine wpAny_execs_cons (wpAny_Continue ?_)
        exact ⟨1002 - (p1 + 1), by omega, by rw [hI]; exact ⟨p1 + 1, t6', [], nl c ln1, _, _, .inl ⟨rfl, hlt, rfl, by rw [hrun, hdr], dropCh R4⟩⟩⟩
      | false =>
        rw [hs] at R4
        rw [if_neg (by decide)]
        rw [hs, if_neg (by decide)] at hrun
        refine wpAny_execs_nil (wpAny_execs_cons (wpAny_If (evT_ok O1 rfl names_nlf 3 (evT_sign (n := 2) (c := c) (k := 34) hlc (by kernel_rfl) (by decide +kernel)) R4 fun s5 R5 => ?_)))
        by_cases hq : c = 34
        · rw [if_pos (by simpa using hq)]
          rw [if_pos (by simpa using hq)] at hrun
          refine wpAny_execs_cons (for_ok N r2 (by simp) (by kernel_rfl) (dropCh R5) fun s6 R6 => ?_)
          refine loopN N (B := ngB2) rfl (· == 34) hlt (by simp) (pl := _) (fun c tok => evT_sign (n := 2) (c := c) (k := 34) hlc (by kernel_rfl) (by decide +kernel)) rfl R6 ?_ ?_
          · intro p' t7 tok' ln' s7 wc7 wb7 u a1 a2 a3 a4 a5
            exact hRet p' t7 tok' ln' s7 wc7 wb7 u a1 a2 (by rw [hrun, ← hdr]; exact a3) a4 a5
          · intro p' t7 tok' ln' s7 wc7 wb7 a1 a2 a3 a4 a5
            exact wpAny_execs_nil (wpAny_execs_nil (fin (· == 34) (p1 + 1) [] (nl c ln1) (by rw [hrun, hdr]) p' t7 tok' ln' s7 wc7 wb7 a1 a2 a3 a4 a5))
        · rw [if_neg (by simpa using hq)]
          rw [if_neg (by simpa using hq)] at hrun
          refine wpAny_execs_cons (esc_ok N hlt (by simp) (pl := _) rfl R5 ?_ ?_ ?_)
          · intro hc s6 wc6 wb6 R6
            rw [if_neg (by simpa using hc)] at hrun
            refine wpAny_execs_cons (aug_ok N (y := [c]) (by simp) (by simp) R6 fun s7 R7 => ?_)
            refine wpAny_execs_cons (for_ok N r2 (by simp) (by kernel_rfl) R7 fun s8 R8 => ?_)
            refine loopN N (B := ngB3) rfl (fun c => has W (sg c)) hlt (by simp) (pl := _) (fun c tok => evT_ws (n := 2) (c := c) (b := has W (sg c)) hlc (by kernel_rfl) (by kernel_rfl)) rfl R8 ?_ ?_
            · intro p' t7 tok' ln' s9 wc7 wb7 u a1 a2 a3 a4 a5
              exact hRet p' t7 tok' ln' s9 wc7 wb7 u a1 a2 (by rw [hrun, ← hdr]; exact a3) a4 a5
            · intro p' t7 tok' ln' s9 wc7 wb7 a1 a2 a3 a4 a5
              exact wpAny_execs_nil (wpAny_execs_nil (fin (fun c => has W (sg c)) (p1 + 1) [c] (nl c ln1) (by rw [hrun, hdr]) p' t7 tok' ln' s9 wc7 wb7 a1 a2 a3 a4 a5))
          · intro hc hD2 s6 t66 wc6 wb6 R6
            rw [if_pos (by simpa using hc)] at hrun
            rw [hdr] at hD2
            subst hD2
            have hnl : nl c ln1 = ln1 := by rw [hc]; rfl
            rw [hnl] at R6
            refine wpAny_execs_cons (aug_ok N (y := []) (by simp) (by simp) R6 fun s7 R7 => ?_)
            refine wpAny_execs_cons (for_ok N r2 (by simp) (by kernel_rfl) R7 fun s8 R8 => ?_)
            refine loopN N (B := ngB3) rfl (fun c => has W (sg c)) hlt (by simp) (pl := _) (fun c tok => evT_ws (n := 2) (c := c) (b := has W (sg c)) hlc (by kernel_rfl) (by kernel_rfl)) rfl R8 ?_ ?_
            · intro p' t7 tok' ln' s9 wc7 wb7 u a1 a2 a3 a4 a5
              exact hRet p' t7 tok' ln' s9 wc7 wb7 u a1 a2 (by rw [hdr] at a3; exact hrun.trans a3) a4 a5
            · intro p' t7 tok' ln' s9 wc7 wb7 a1 a2 a3 a4 a5
              exact wpAny_execs_nil (wpAny_execs_nil (fin (fun c => has W (sg c)) (p1 + 1) [] ln1 (by rw [hrun, hdr]) p' t7 tok' ln' s9 wc7 wb7 a1 a2 a3 a4 a5))
          · intro hc d r' hD2 s6 t66 wc6 wb6 R6
            rw [if_pos (by simpa using hc)] at hrun
            rw [hdr] at hD2
            subst hD2
            have hlt2 : p1 + 1 + 1 ≤ i.buf.length := by
              have := congrArg List.length hdr
              rw [List.length_drop, List.length_cons, len_sL] at this
              omega
            have hdr2 : (sL i.buf).drop (p1 + 1 + 1) = r' := by
              rw [← List.drop_drop, hdr]; rfl
            have hnl : nl c ln1 = ln1 := by rw [hc]; rfl
            rw [hnl] at R6
            refine wpAny_execs_cons (aug_ok N (y := [d]) (by simp) (by simp) R6 fun s7 R7 => ?_)
            refine wpAny_execs_cons (for_ok N r2 (by simp) (by kernel_rfl) R7 fun s8 R8 => ?_)
            refine loopN N (B := ngB3) rfl (fun c => has W (sg c)) hlt2 (by simp) (pl := _) (fun c tok => evT_ws (n := 2) (c := c) (b := has W (sg c)) hlc (by kernel_rfl) (by kernel_rfl)) rfl R8 ?_ ?_
            · intro p' t7 tok' ln' s9 wc7 wb7 u a1 a2 a3 a4 a5
              exact hRet p' t7 tok' ln' s9 wc7 wb7 u a1 a2 (by rw [hrun, ← hdr2]; exact a3) a4 a5
            · intro p' t7 tok' ln' s9 wc7 wb7 a1 a2 a3 a4 a5
              exact wpAny_execs_nil (wpAny_execs_nil (fin (fun c => has W (sg c)) (p1 + 1 + 1) [d] (nl d ln1) (by rw [hrun, hdr2]) p' t7 tok' ln' s9 wc7 wb7 a1 a2 a3 a4 a5))
  · have hit : s1.heap.get? it = some (citObj .none .none true) := by
      obtain ⟨h1, tk1, m1, es1, rfl, F1, l1, sf1, fr1, N1⟩ := R1
      exact (N1 (it, citObj .none .none true) (by simp [IO.led, exL])).1
    refine next_cit_ended N.hh hit fun h' hext hit' => ?_
    refine wpAny_execs_nil (hFin p1 t1 tok1 ln1 _ wc1 wb1 hp1 hnil ht1 hrun ?_)
    obtain ⟨h1, tk1, m1, es1, rfl, F1, l1, sf1, fr1, N1⟩ := R1
    have hitN := N1 (it, citObj .none .none true) (by simp [IO.led, exL])
    refine ⟨h', tk1, m1, es1, rfl, ⟨F1.ns.extBut hext (fun e => hitN.2.1 e.symm), fun b o hb => hext b o (fun e => by rw [e, hitN.2.2] at hb; cases hb) (F1.keep b o hb), F1.above⟩, l1, sf1, fr1, fun r hr => ?_⟩
    have hr0 := N1 r hr
    by_cases he : r.1 = it
    · refine ⟨?_, hr0.2⟩
      rw [he, hit']
      have : s.heap = s.heap := rfl
      have h2 := hr0.1
      rw [he] at h2
      exact hit.symm.trans h2
    · exact ⟨hext r.1 r.2 he hr0.1, hr0.2⟩
end
end Mine
end

section
open PySem PySem.W PyProof.Rows PySem.Calls
set_option Elab.async false
set_option maxRecDepth 100000
set_option maxHeartbeats 8000000
namespace Mine
theorem pb_nlf {ln : V} {wc : Nat} {wb : Bool} : lookS "pushback" (nlf ln wc wb) = some (.obj 1) := by kernel_rfl
/-- what get_token told -/
noncomputable def nDone (wh : Nat → Bool) (l : List Nat) (ln : Int) (tok r : List Nat) (ln' : Int) : Prop := ntok wh l ln = .ret tok r ln' ∨ ntok wh l ln = .fin tok ln' ∧ r = []
noncomputable def NxFull (g h : Heap) (x dx pb : Addr) (i : IO) (refs : Nat → Value) (W : Str) (ln : Int) (p : Nat) : Prop := NxAt g h x dx i refs W ln p ∧ Sub g h [(pb, listE)]
section
variable {w : World} {s s' : Shared} {A : Around} {base g : Heap} {fr : List Env} {mg mb : Str → Option Value} {mean : ExcName → Option Value} {x dx pb : Addr} {W : Str} {refs : Nat → Value} {i : IO} {p t6 : Nat} {ln : Int} {R : Result → Shared → Prop} {cn : Str} {cs : Scope} {cd : Value} {L f : Addr} {wc : Nat} {wb : Bool} {E : Value → Shared → Prop}
theorem ngAll (G : Gd w A base fr mean mg mb g) (hroom : A.depth + 12 < recursionLimit) (hh : A.handled = none) (hk : cs.kind = .function) (hl : ∀ x ∈ lsN, cs.names.lookup x = some .local) (hsf : cs.names.lookup (Str.ofString "self") = some .local) (hit : cs.names.lookup (Str.ofString "iter") = some .globalImplicit) (K : NxOk x dx i refs) (r1 : refs 1 = .ref pb) (hpb : pb ≠ x ∧ pb ≠ dx ∧ pb ≠ i.io ∧ pb ≠ i.dio) (hp : p ≤ i.buf.length) {b : List Stmt} (hb : b = ngBody)
    {Q : Flow → Shared → Prop} (R0 : Rel (CxN w A cn cs cd f g L s x dx i p t6 [(pb, listE)] [] ln W refs) ⟨false, lsN, [], nlf (.row 0) wc wb⟩ s')
    (q2 : ∀ p' tok' ln' h' tk u, p' ≤ i.buf.length → tok'.length ≤ 1000 → nDone (fun c => has W (sg c)) ((sL i.buf).drop p) ln tok' ((sL i.buf).drop p') ln' → Ke g h' → NxFull g h' x dx pb i refs W ln' p' → (∃ t, u = .str (ofL tok') t) → Q (.ret u) { s with heap := h', toks := tk }) :
    wpAny (model PySem.Challenge.rw_om0137_02.row.prog w) (A.deeper (envOf cn cs L f cd)) (execs b (envOf cn cs L f cd)) Q E s' := by
  have hlen := K.len
  have O : Ok (CxN w A cn cs cd f g L s x dx i p t6 [(pb, listE)] [] ln W refs) false lsN namesN := by
    refine ok_nx G hh hk hl lsN_ok hsf ⟨K.ne2, fun r hr => ?_⟩ (by rw [len_ofL]; simp)
    simp only [IO.led, List.cons_append, List.nil_append, List.mem_cons, List.not_mem_nil, or_false] at hr
    rcases hr with h | h | h <;> rw [h]
    · exact K.ne.2.2.1
    · exact K.ne.2.2.2.2
    · exact hpb.2.1
  rw [hb, ngBody_eq]
  refine wpAny_execs_cons (wpAny_If (wpAny_isTrue_value (Attribute_Name_ (self_ok O R0 (get_ok O R0 names_nlf.2.1 pb_nlf fun u s1 ru R1 => ?_)))))
  obtain ⟨rfl, -⟩ := ru
  show wpAny _ _ (truthy (refs 1)) _ _ _
  rw [r1]
  have R1' := R1
  obtain ⟨h1, tk1, m1, es1, rfl, F1, l1, sf1, fr1, N1⟩ := R1
  refine wpAny_truthy_list (items := #[]) ⟨_, (N1 (pb, listE) (by simp [IO.led])).1, rfl, _, rfl⟩ (by decide) ?_
  rw [if_neg (by decide)]
  refine wpAny_execs_nil ?_
  refine wpAny_execs_cons (exA_ok O (f := .next) (μ' := ⟨false, lsN, [(Str.ofString "token", .str [])], nlf (.row 0) wc wb⟩) rfl names_nlf (by kernel_rfl) R1'.toks (fun fl s2 hf R2 => ?_) (fun h => nomatch h))
  obtain rfl : fl = .next := hf
  clear R1' F1 l1 sf1 fr1 N1
  obtain ⟨h2, tk2, m2, es2, rfl, F2, l2, sf2, fr2, N2⟩ := R2
  obtain ⟨c1, c2, c3, c4, c5, c6⟩ := rc_nx w
  have R2 : Rel (CxN w A cn cs cd f g L s x dx i p t6 [(pb, listE)] [] ln W refs) ⟨false, lsN, [(Str.ofString "token", .str [])], nlf (.row 0) wc wb⟩ { s with heap := h2, toks := tk2 } := ⟨h2, tk2, m2, es2, rfl, F2, l2, sf2, fr2, N2⟩
  refine wpAny_execs_cons (wpAny_Assign_Name (Call_ (ld_builtin_at F2 G.T.g (mg_none_of G.X G.T.g c6) G.T.b ((G.T.builtins _ (by decide)).trans (by boot_by_name)) ?_ hk hit (by decide)) rfl) rfl)
  refine Calls.callWith_builtin rfl (Calls.evalArgs_plain (spliced_more (Attribute_Name_ (self_ok O R2 (kbm_bound (name := Str.ofString "_read_char") F2 G.X N2 (InstAt.of_news N2 (.head _) (.tail _ (.head _))) (O.plain _) (cls_nx w).2.1 c1 c2 c4 c5 (by decide +kernel) (getL_none fr2 rcm_nlf) fun q h3 F3 N3 hq3 => ?_)))))
  refine spliced_more (wpAny_Constant_str (spliced_none ?_))
  refine iter2 (N3 (q, methodObj (.ref 60) (.ref x)) (.head _)).1 ?_
  have hlt : ∀ r ∈ (q, methodObj (.ref 60) (.ref x)) :: (x, instObj 77 dx) :: (dx, dictOf es2 4) :: (i.led p t6 ++ [(pb, listE)]), r.1 ≠ h3.objs.size := fun r hr => Nat.ne_of_lt (Heap.lt_size (N3 r hr).1)
  have F4 := F3.push (citObj (.ref q) (.str (Str.ofString "") (tk2 + 1)) false)
  have N4 := N3.push F3 (citObj (.ref q) (.str (Str.ofString "") (tk2 + 1)) false)
  have hitx : ∀ r ∈ (x, instObj 77 dx) :: (dx, dictOf es2 4) :: (i.led p t6 ++ [(pb, listE)]), r.1 ≠ h3.objs.size := fun r hr => hlt r (.tail _ hr)
  have NL : NLoop w A base g fr mean mg mb cs x dx h3.objs.size q pb (tk2 + 1) i (fun k => if k = 2 then .ref h3.objs.size else refs k) := by
    refine ⟨G, hroom, hh, hk, hl, hsf, ⟨K.ne, K.ne2, K.r0, K.len⟩, fun r hr => ?_, ?_, ?_⟩
    · simp only [exL, List.mem_cons, List.not_mem_nil, or_false] at hr
      rcases hr with z | z | z <;> rw [z]
      · exact ⟨Ne.symm (hitx (x, _) (.head _)), Ne.symm (hitx (dx, _) (.tail _ (.head _))), Ne.symm (hitx (i.io, instObj 629 i.dio) (by simp [IO.led])), Ne.symm (hitx (i.dio, ioDict i.h1 i.h2 i.h3 i.t1 i.t2 i.t3 i.t4 i.t5 t6 i.buf p) (by simp [IO.led]))⟩
      · exact ⟨Nat.ne_of_gt (hq3 (x, _) (.head _)), Nat.ne_of_gt (hq3 (dx, _) (.tail _ (.head _))), Nat.ne_of_gt (hq3 (i.io, instObj 629 i.dio) (by simp [IO.led])), Nat.ne_of_gt (hq3 (i.dio, ioDict i.h1 i.h2 i.h3 i.t1 i.t2 i.t3 i.t4 i.t5 t6 i.buf p) (by simp [IO.led]))⟩
      · exact hpb
    · exact Ne.symm (hlt (q, _) (.head _))
    · exact Ne.symm (hitx (pb, listE) (by simp [IO.led]))
  have R4 : Rel (CxN w A cn cs cd f g L s x dx i p t6 (exL false h3.objs.size q pb x (tk2 + 1)) [] ln W (fun k => if k = 2 then .ref h3.objs.size else refs k)) ⟨false, lsN, [(Str.ofString "token", .acc false [])], nlf (.row 0) wc wb⟩ { s with heap := h3.push (citObj (.ref q) (.str (Str.ofString "") (tk2 + 1)) false), toks := tk2 + 1 + 1 } := by
    refine ⟨_, _, m2, es2, rfl, F4, ?_, sf2, FldRep.conv (nlf_conv ?_ (fun u hu => ?_) fun u hu => ?_) fr2, fun r hr => ?_⟩
    · intro y v hy
      simp only [lookS] at hy
      split at hy
      · rename_i hh1
        obtain rfl := eqS_iff.mp hh1
        cases hy
        obtain ⟨u, hu, t, ru⟩ := l2 (Str.ofString "token") (.str []) (by kernel_rfl)
        exact ⟨u, hu, rfl, t, by rw [ru]; rfl⟩
      · cases hy
    · exact ⟨rfl, rfl⟩
    · exact hu
    · exact hu
    · refine N4 r ?_
      simp only [IO.led, exL, List.cons_append, List.nil_append, List.mem_cons, List.not_mem_nil, or_false] at hr ⊢
      rcases hr with z | z | z | z | z | z | z <;> simp [z]
  refine store_ok (NL.ok false p t6 [] ln W cn cd f L s (by simp)) (v := .obj 2) (by decide +kernel) R4 ⟨rfl, rfl⟩ fun s5 R5 => ?_
  have R6 : Rel (CxN w A cn cs cd f g L s x dx i p t6 (exL false h3.objs.size q pb x (tk2 + 1)) [] ln W (fun k => if k = 2 then .ref h3.objs.size else refs k)) (μN [] wc wb) s5 := by
    obtain ⟨h6, tk6, m6, es6, e6, F6, l6, sf6, fr6, N6⟩ := R5
    refine ⟨h6, tk6, m6, es6, e6, F6, fun y v hy => l6 y v ?_, sf6, fr6, N6⟩
    simp only [μN, locN, lookS] at hy ⊢
    split at hy
    · rename_i h1
      obtain rfl := eqS_iff.mp h1
      rw [if_neg (by decide +kernel), if_pos h1]; exact hy
    · split at hy
      · rename_i h0 h1
        rw [if_pos h1]; exact hy
      · cases hy
  have out : ∀ (b : Bool) p' t6' tok' ln' s'' wc wb, Rel (CxN w A cn cs cd f g L s x dx i p' t6' (exL b h3.objs.size q pb x (tk2 + 1)) tok' ln' W (fun k => if k = 2 then .ref h3.objs.size else refs k)) (μN tok' wc wb) s'' → ∃ h' tk, s'' = { s with heap := h', toks := tk } ∧ Ke g h' ∧ NxFull g h' x dx pb i refs W ln' p' := by
    intro b p' t6' tok' ln' s'' wc wb R
    obtain ⟨h6, tk6, m6, es6, e6, F6, l6, sf6, fr6, N6⟩ := R
    have NS := Sub.of_news N6
    refine ⟨h6, tk6, e6, Ke.of_fr F6, ⟨_, es6, t6', wc, wb, rfl, rfl, rfl, rfl, fr6, fun r hr => NS r ?_⟩, fun r hr => NS r ?_⟩
    · simp only [IO.led, exL, List.cons_append, List.nil_append, List.mem_cons, List.not_mem_nil, or_false] at hr ⊢
      rcases hr with z | z | z | z <;> simp [z]
    · simp only [IO.led, exL, List.cons_append, List.nil_append, List.mem_cons, List.not_mem_nil, or_false] at hr ⊢
      simp [hr]
  refine wpAny_execs_cons (for_ok NL rfl (by simp) (by kernel_rfl) R6 fun s7 R7 => ?_)
  refine loop1N NL rfl rfl hp R7 ?_ ?_
  · intro p' t6' tok' ln' s8 wc8 wb8 u a1 a2 a3 R8 hu
    obtain ⟨h', tk, rfl, k', nx⟩ := out _ _ _ _ _ _ _ _ R8
    exact q2 p' tok' ln' h' tk u a1 (by omega) (.inl a3) k' nx hu
  · intro p' t6' tok' ln' s8 wc8 wb8 a1 a2 a3 a4 R8
    refine wpAny_execs_cons (wpAny_Return_some (evE_ok (NL.ok true p' t6' tok' ln' W cn cd f L s (by omega)) rfl names_nlf (v := .acc (!tok'.isEmpty) []) (by kernel_rfl) R8 fun u s9 ru R9 => ?_))
    obtain ⟨h', tk, rfl, k', nx⟩ := out _ _ _ _ _ _ _ _ R9
    obtain ⟨_, t, ru⟩ := ru
    exact q2 p' tok' ln' h' tk u a1 (by omega) (.inr ⟨a4, a2⟩) k' nx ⟨t, by rw [ru, app_ofL, List.append_nil]⟩
theorem nget_ok (G : Gd w A base fr mean mg mb g) (hroom : A.depth + 12 < recursionLimit) (hh : A.handled = none) (k : Ke g s.heap) (K : NxOk x dx i refs) (r1 : refs 1 = .ref pb) (hpb : pb ≠ x ∧ pb ≠ dx ∧ pb ≠ i.io ∧ pb ≠ i.dio) (hp : p ≤ i.buf.length) (Nx : NxFull g s.heap x dx pb i refs W ln p)
    (q2 : ∀ p' tok' ln' h' tk u, p' ≤ i.buf.length → tok'.length ≤ 1000 → nDone (fun c => has W (sg c)) ((sL i.buf).drop p) ln tok' ((sL i.buf).drop p') ln' → Ke g h' → NxFull g h' x dx pb i refs W ln' p' → (∃ t, u = .str (ofL tok') t) → R (.ok (.ret u)) { s with heap := h', toks := tk }) :
    codeAny (model PySem.Challenge.rw_om0137_02.row.prog w) A (.call (.ref 67) ⟨[.ref x], []⟩) R s := by
  obtain ⟨⟨Γ, es, t6, wc, wb, e1, e2, e2', e3, FR, S⟩, S2⟩ := Nx
  have X := G.X
  revert X
  k_fill
  intro X
  refine enterG (binds := [("self", .ref x)]) G (sub_app S S2) k (by k_is) (by k_is) (by omega) (BindsTo.of_eq rfl) rfl ?_ (by decide) rfl rfl rfl
  intro L' h₁ F' N' hlt
  refine ngAll (i := i) (p := p) (t6 := t6) (x := x) (dx := dx) (pb := pb) (W := W) (refs := refs) (ln := ln) (s := s) (wc := wc) (wb := wb) G hroom hh rfl (by decide) rfl rfl K r1 hpb hp (by kernel_rfl) ?_ ?_
  · refine ⟨h₁, _, _, es, rfl, F', (fun y v h => nomatch h), rfl, FldRep.conv (nlf_conv ?_ (fun u hu => ?_) fun u hu => ?_) FR, N'⟩
    · exact ⟨e2.symm, e2'.symm⟩
    · show ∃ t, u = .int (ln + ((0 : Nat) : Int)) t
      rw [← e3]; exact hu
    · exact ⟨by rw [← hu.1, e1], by rw [← e1]; exact hu.2⟩
  · intro p' tok' ln' h' tk u a1 a2 a3 a4 a5 a6
    exact q2 p' tok' ln' h' tk u a1 a2 a3 a4 a5 a6
end
end Mine
end

section
open PySem PySem.W PyProof.Rows PySem.Calls
set_option Elab.async false
set_option maxRecDepth 100000
set_option maxHeartbeats 8000000
namespace Mine
section
variable {w : World} {h : Heap}
theorem io_made (X : (hd.heap_39 w.params).In h) : Looks (model PySem.Challenge.rw_om0137_02.row.prog w) h (Bind.madeBy (.ref 629)) none := Looks.of_peek X (by kernel_rfl)
theorem io_here (X : (hd.heap_39 w.params).In h) : Looks (model PySem.Challenge.rw_om0137_02.row.prog w) h (Bind.madeHere "object.__new__" (.ref 629)) () := Looks.of_peek X (by kernel_rfl)
theorem io_check (X : (hd.heap_39 w.params).In h) : Looks (model PySem.Challenge.rw_om0137_02.row.prog w) h (checkBuiltinCall "object.__new__" ⟨[.ref 629], []⟩) () := Looks.of_peek X (by kernel_rfl)
theorem io_isType (X : (hd.heap_39 w.params).In h) : Looks (model PySem.Challenge.rw_om0137_02.row.prog w) h (isType (.ref 629)) true := Looks.of_peek X (by kernel_rfl)
theorem io_call (X : (hd.heap_39 w.params).In h) : Looks (model PySem.Challenge.rw_om0137_02.row.prog w) h (specialOf (.ref 629) "__call__") (some (.builtin "type.__call__")) := Looks.of_peek X (by kernel_rfl)
theorem io_typ (X : (hd.heap_39 w.params).In h) : Looks (model PySem.Challenge.rw_om0137_02.row.prog w) h (isInstance (.ref 629) (.type "type")) true := Looks.of_peek X (by kernel_rfl)
theorem io_mro (X : (hd.heap_39 w.params).In h) : Looks (model PySem.Challenge.rw_om0137_02.row.prog w) h (mroOf (.ref 629)) [.ref 629, .ref 152, .ref 125, .type "object"] := Looks.of_peek X (by kernel_rfl)
theorem io_sub (X : (hd.heap_39 w.params).In h) : Looks (model PySem.Challenge.rw_om0137_02.row.prog w) h (isSubtype (.ref 629) (.ref 629)) true := Looks.of_peek X (by kernel_rfl)
theorem io_init (X : (hd.heap_39 w.params).In h) : Looks (model PySem.Challenge.rw_om0137_02.row.prog w) h (typeLookup (.ref 629) "__init__") (some (.ref 399)) := Looks.of_peek X (by kernel_rfl)
theorem io_bind (X : (hd.heap_39 w.params).In h) (self : Value) : Looks (model PySem.Challenge.rw_om0137_02.row.prog w) h (bindSpecial (.ref 399) self) (.ref 399, [self]) := Looks.of_peek X (by kernel_rfl)
theorem io_obj (w : World) : ∃ oc od cd sl, (hd.heap_39 w.params).lookup 629 = some ⟨oc, od, .cls cd, sl⟩ ∧ cd.abstract = false ∧ cd.hasDel = false := by
  have e : PySem.Challenge.rw_om0137_02 = PySem.Challenge.rw_om0137_02 := rfl
  revert e
  k_fill
  intro _
  exact ⟨_, _, _, _, by k_is, rfl, rfl⟩
end
section
variable {w : World} {A : Around} {R : Result → Shared → Prop} {h : Heap} {g : Array GenState} {d : Drawn} {t : Nat} {os : OsState}
theorem io_new (X : (hd.heap_39 w.params).In h)
    (hq : R (.ok (.ret (.ref (h.objs.size + 1)))) ⟨(h.push emptyDict).push (instObj 629 h.objs.size), g, d, t, os⟩) :
    codeAny (model PySem.Challenge.rw_om0137_02.row.prog w) A (.call (.builtin "object.__new__") ⟨[.ref 629], []⟩) R ⟨h, g, d, t, os⟩ := by
  obtain ⟨oc, od, cd, sl, hC0, e1, e2⟩ := io_obj w
  have hC := X _ _ hC0
  have F := PySem.F.objNew
  have here := io_here X
  have chk := io_check X
  have ty := io_isType X
  refine codeAny_call_builtin_code (Code.quiet_builtin _ F.quiet) ?_
  refine chk.at ?_
  refine codeAny_builtin F.entry ?_
  unfold Builtin.«object.__new__»
  have fin : ∀ A', wpAny (model PySem.Challenge.rw_om0137_02.row.prog w) A' (do
      let d ← if typeHasDict (.ref 629) then some <$> alloc { cls := .type "dict", data := .dict #[] } else pure none
      ret (← newObj (.ref 629) .plain d)) (fun fin s' => match fin with | .done f => R (.ok f) s' | .again c' => c'.quiet = true ∧ codeAny (model PySem.Challenge.rw_om0137_02.row.prog w) A c' R s') (fun e s' => R (.error e) s') ⟨h, g, d, t, os⟩ := by
    intro A'
    show wpAny _ _ ((alloc emptyDict >>= fun x => pure (some x)) >>= _) _ _ _
    refine wpAny_bind (wpAny_bind (wpAny_alloc (wpAny_pure (wpAny_bind ?_))))
    show wpAny _ _ (newObjAsIs _ _ _) _ _ _
    unfold newObjAsIs classHasDel
    refine wpAny_bind (wpAny_alloc (wpAny_bind (wpAny_bind (wpAny_load (Heap.get?_push_of_some _ (Heap.get?_push_of_some _ hC)) (wpAny_pure ?_)))))
    rw [e2]
    refine wpAny_pure (wpAny_pure ?_)
    show R _ _
    rw [Heap.size_push]
    exact hq
  repeat (first | simp only [e1, Bool.false_eq_true, if_false, Bool.not_true] | exact fin _ | lk)
end
end Mine
end

section
open PySem PySem.W PyProof.Rows PySem.Calls
set_option Elab.async false
set_option maxRecDepth 100000
set_option maxHeartbeats 8000000
namespace Mine
theorem io_newAttr (w : World) : typeIn (hd.heap_39 w.params) (.ref 629) = some (.type "type") ∧ readsIn (hd.heap_39 w.params) 629 (.type "type") = true ∧ findCls (hd.heap_39 w.params) (.ref 629) (.type "type") "__new__" = some (.get (.builtin "staticmethod.__get__") (.ref 126) .none (.ref 629)) ∧ ∃ rest, recIn (hd.heap_39 w.params) 126 "staticmethod" = some (.ref 122 :: rest) := by
  have e : PySem.Challenge.rw_om0137_02 = PySem.Challenge.rw_om0137_02 := rfl
  revert e
  k_fill
  intro _
  exact ⟨by k_is, by k_is, by k_is, _, by k_is⟩
section
variable {w : World} {A : Around} {R : Result → Shared → Prop} {s : Shared} {h₀ : Heap} {L : Addr} {m : Str → Option Value}
theorem io_make {rest : List Value} (F : Fr h₀ L s.heap m) (X₀ : (hd.heap_39 w.params).In h₀)
    (hN : codeAny (model PySem.Challenge.rw_om0137_02.row.prog w) (A.under (.builtin "type.__call__" ⟨.ref 629 :: rest, []⟩)) (.call (.ref 122) ⟨.ref 629 :: rest, []⟩) (fun r s' => match r with
      | .ok (.ret v) => ∃ x dx, v = .ref x ∧ s'.heap.get? x = some (instObj 629 dx) ∧ (hd.heap_39 w.params).In s'.heap ∧ codeAny (model PySem.Challenge.rw_om0137_02.row.prog w) (A.under (.builtin "type.__call__" ⟨.ref 629 :: rest, []⟩)) (.call (.ref 399) ⟨.ref x :: rest, []⟩) (InitBack x R) s'
      | _ => False) { s with toks := s.toks + 1 }) :
    codeAny (model PySem.Challenge.rw_om0137_02.row.prog w) A (.call (.ref 629) ⟨rest, []⟩) R s := by
  have X := X₀.keeps F.keep
  obtain ⟨a1, a2, a3, rest', a4⟩ := io_newAttr w
  obtain ⟨oc, od, cd, sl, hC0, e1, e2⟩ := io_obj w
  have hC := X _ _ hC0
  have call := io_call X
  have typ := io_typ X
  have hm := io_mro X
  have made := io_made X
  obtain ⟨h, g, d, t, os⟩ := s
  refine codeAny_of_tree ?_
  show wpAny _ _ (callAny (.ref 629) _) _ _ _
  refine nd_load hC ?_
  show wpAny _ _ (callAny.viaDunder (.ref 629) _) _ _ _
  unfold callAny.viaDunder
  refine wpAny_bind (call.at ?_)
  dsimp only
  rw [tc_bind]
  refine wpAny_bind (wpAny_pure (wpAny_bind (wpAny_pure ?_)))
  refine wpAny_pure (a := Fin.again (.call (.builtin "type.__call__") ⟨.ref 629 :: rest, []⟩)) (And.intro rfl ?_)
  refine codeAny_call_builtin_at (Code.quiet_builtin _ (by decide +kernel)) entry_typeCall (check_slot tc_kind tc_split typ (tc_args _ _ _) ?_)
  unfold Builtin.«type.__call__»
  repeat (first | (simp only [List.isEmpty_cons, Bool.false_eq_true, if_false]) | (with_reducible refine wpAny_call ?_) | (refine wpAny_bind (cls_sm (s := ⟨h, g, d, t, os⟩) F X₀ a1 a2 a3 a4 rfl ?_)) | lk)
  refine codeAny_mono hN fun r s' z => ?_
  rcases r with e | (v | _ | _ | _) <;> first | exact z.elim | skip
  obtain ⟨x, dx, rfl, hx, X', hI⟩ := z
  have t1 : Looks (model PySem.Challenge.rw_om0137_02.row.prog w) s'.heap (typeOf (.ref x)) (.ref 629) := (Looks.ld hx).andThen .now
  have s1 := io_sub X'
  have i1 := io_init X'
  have b1 := io_bind X' (.ref x)
  obtain ⟨h', g', d', t', os'⟩ := s'
  unfold isInstance callSpecial? specialOf
  repeat (first | with_reducible refine wpAny_call ?_ | lk)
  refine codeAny_mono hI fun r s' z => ?_
  rcases r with e | (v | _ | _ | _) <;> first | exact z | exact z.elim | skip
  obtain ⟨rfl, z⟩ := z
  exact wpAny_pure (wpAny_pure z)
end
end Mine
end

section
open PySem PySem.W PyProof.Rows PySem.Calls
set_option Elab.async false
set_option maxRecDepth 100000
set_option maxHeartbeats 8000000
namespace Mine

theorem ioNew_K {w : World} {A : Around} {E : Value → Shared → Prop} {Q : Value → Shared → Prop} {s : Shared} {h₀ : Heap} {L : Addr} {m : Str → Option Value} {news : List (Addr × Obj)} (F : Fr h₀ L s.heap m) (N : News h₀ L s.heap news) (X₀ : (hd.heap_39 w.params).In h₀)
    (h : ∀ x dx h', Fr h₀ L h' m → News h₀ L h' ((x, instObj 629 dx) :: (dx, emptyDict) :: news) → (∀ p ∈ news, p.1 < dx) → dx < x → Q (.ref x) { s with heap := h' }) :
    wpAny (model PySem.Challenge.rw_om0137_02.row.prog w) A (call (.builtin "object.__new__") [.ref 629]) Q E s := by
  obtain ⟨hh, g, d, t, os⟩ := s
  refine wpAny_call (io_new (X₀.keeps F.keep) ?_)
  have := (N.push F emptyDict).push (F.push _) (instObj 629 hh.objs.size)
  rw [Heap.size_push] at this
  exact h _ hh.objs.size _ ((F.push _).push _) this (fun p hp => Heap.lt_size (N p hp).1) (Nat.lt_succ_self _)
theorem io80 (w : World) {s : Shared} {A A₀ : Around} {base h₀ : Heap} {outer : List Env} {mg mb : Str → Option Value} {mean : ExcName → Option Value} {env : Env} {L : Addr} {m : Str → Option Value} {news : List (Addr × Obj)} {text : Str} {t : Nat} {R : Result → Shared → Prop}
    (B : Below A₀ base outer h₀) (F : Fr h₀ L s.heap m) (X : (hd.heap_39 w.params).In h₀) (N : News h₀ L s.heap news) (T : Top hd.view_39 lo mean mg mb h₀) (hA : A.frames = some (env :: outer)) (hf : env.frame = some L) (hke : env.scope.kind = .function) (hroom : A.depth + 4 < recursionLimit)
    (h : ∀ x dx h' tk, Fr h₀ L h' m → News h₀ L h' ((x, instObj 629 dx) :: (dx, emptyDict) :: news) → (∀ p ∈ news, p.1 < dx) → dx < x → R (.ok (.ret (.ref x))) { s with heap := h', toks := tk }) :
    codeAny (model PySem.Challenge.rw_om0137_02.row.prog w) A (.call (.ref 122) ⟨[.ref 629, .str text t], []⟩) R s := by
  revert X
  k_fill
  intro X
  refine' kp_both (vs := [.str text t]) (ex := []) (DD := []) B F X N T hA hf hke ?k6 ?k7 ?k8 ?hv ?hx ?hnr ?hnm ?hn ?hD ?kP ?kG ?kG2 ?kG3 ?kB ?_ ?c2 ?c3 ?c4 ?c5
  case k6 => k_is
  case k7 => k_is
  case k8 => omega
  case hv => exact rfl
  case hx => exact rfl
  case hnr => exact rfl
  case hnm => exact rfl
  case hn => exact rfl
  case hD => exact .nil
  case kP => exact rfl
  case kG => exact rfl
  case kG2 => intro D; exact rfl
  case kG3 => intro C D; exact rfl
  case kB => intro C D; exact locs rfl
  case c2 => exact rfl
  case c3 => exact rfl
  case c4 => exact rfl
  case c5 => decide
  intro C D o g L' h₁ tk l1 l2 l3 hdo hDD FG F' N' B' X' T'
  have hA' : A.frames = some (env :: outer) := hA
  clear l3 hdo hDD B F N T X
  (w_on; repeat' (first | (k_unfold; (try dsimp only)) | ((with_reducible show wpAny _ _ (call (Value.builtin _) _ _) _ _ _); (k_here; k_dflt (refine' ioNew_K ?k1 ?k2 ?k3 ?_; (case k1 => k_asm); (case k2 => k_asm); (case k3 => k_asm)); intro x1 dx1 h1 F1 N1 l1' l2'; (try k_sweep))) | ((with_reducible show wpAny _ _ (call (Value.ref _) _ _) _ _ _); k_here; k_dflt (refine wpAny_call ?_; (refine' code_def ?k1 ?k2 ?k3 ?k4 ?k5 ?kA ?kF ?kK ?k6 ?k7 ?k8 ?k9 ?kB ?_ ?c2 ?c3 ?c4 ?c5; (case kA => first | exact Around.frames_deeper (by assumption) | exact Around.frames_deeper (Around.frames_deeper (by assumption)) | exact Around.frames_deeper (Around.frames_deeper (Around.frames_deeper (by assumption)))); (case kF => exact rfl); (case kK => exact rfl); (case k1 => k_asm); (case k2 => k_asm); (case k3 => k_asm); (case k4 => k_asm); (case k5 => k_asm); (case k6 => k_is); (case k7 => k_is); (case k8 => ((simp only [depth_under_make, depth_under_kw, depth_in1, depth_deeper]); (simp only [recursionLimit] at *); omega)); (case k9 => first | exact BindsTo.of_eq rfl | exact binds_K (by k_in) rfl (by k_is) rfl rfl rfl); (case c5 => decide); (case kB => exact locs rfl); (case c2 => exact rfl); (case c3 => exact rfl); (case c4 => exact rfl); k_whole; intro g' L' h' FG' F' N' B' X' T'; (try dsimp only); (try k_lift B'); (try k_fold)))) | walk1 | (dsimp only; (first | ((with_reducible show wpAny _ _ (call (Value.builtin _) _ _) _ _ _); (k_here; k_dflt (refine' ioNew_K ?k1 ?k2 ?k3 ?_; (case k1 => k_asm); (case k2 => k_asm); (case k3 => k_asm)); intro x1 dx1 h1 F1 N1 l1' l2'; (try k_sweep))) | ((with_reducible show wpAny _ _ (call (Value.ref _) _ _) _ _ _); k_here; k_dflt (refine wpAny_call ?_; (refine' code_def ?k1 ?k2 ?k3 ?k4 ?k5 ?kA ?kF ?kK ?k6 ?k7 ?k8 ?k9 ?kB ?_ ?c2 ?c3 ?c4 ?c5; (case kA => first | exact Around.frames_deeper (by assumption) | exact Around.frames_deeper (Around.frames_deeper (by assumption)) | exact Around.frames_deeper (Around.frames_deeper (Around.frames_deeper (by assumption)))); (case kF => exact rfl); (case kK => exact rfl); (case k1 => k_asm); (case k2 => k_asm); (case k3 => k_asm); (case k4 => k_asm); (case k5 => k_asm); (case k6 => k_is); (case k7 => k_is); (case k8 => ((simp only [depth_under_make, depth_under_kw, depth_in1, depth_deeper]); (simp only [recursionLimit] at *); omega)); (case k9 => first | exact BindsTo.of_eq rfl | exact binds_K (by k_in) rfl (by k_is) rfl rfl rfl); (case c5 => decide); (case kB => exact locs rfl); (case c2 => exact rfl); (case c3 => exact rfl); (case c4 => exact rfl); k_whole; intro g' L' h' FG' F' N' B' X' T'; (try dsimp only); (try k_lift B'); (try k_fold)))) | walk1))))
  dsimp only
  refine leaveK_ F1 N1 ?_
  intro kF kN
  refine h _ _ _ _ kF (fun p hp => kN p ?_) (fun p hp => l1' p (.tail _ (.tail _ hp))) l2'
  simp only [List.mem_cons] at hp ⊢
  rcases hp with z | z | z
  · exact .inl z
  · exact .inr (.inl z)
  · exact .inr (.inr (.inr (.inr z)))
end Mine
end

section
open PySem PySem.W PyProof.Rows PySem.Calls
set_option Elab.async false
set_option maxRecDepth 100000
set_option maxHeartbeats 8000000
namespace Mine

theorem ioInit (w : World) {s : Shared} {A : Around} {base g : Heap} {fr : List Env} {mg mb : Str → Option Value} {mean : ExcName → Option Value} {io dio : Addr} {text : Str} {t : Nat} {R : Result → Shared → Prop}
    (G : Gd w A base fr mean mg mb g) (hroom : A.depth + 4 < recursionLimit) (k : Ke g s.heap)
    (S : Sub g s.heap [(io, instObj 629 dio), (dio, emptyDict)]) (hne : io ≠ dio)
    (hR : ∀ h1 h2 h3 t1 t2 t3 t4 t5 t6 h' tk, Ke g h' → Sub g h' [(io, instObj 629 dio), (dio, ioDict h1 h2 h3 t1 t2 t3 t4 t5 t6 text 0)] → R (.ok (.ret .none)) { s with heap := h', toks := tk }) :
    codeAny (model PySem.Challenge.rw_om0137_02.row.prog w) A (.call (.ref 399) ⟨[.ref io, .str text t], []⟩) R s := by
  replace hne := neN hne
  have X := G.X
  have hA := G.B.stack
  revert X
  k_fill
  intro X
  refine' enterG G S k ?k6 ?k7 ?k8 ?k9 ?kB ?_ ?c2 ?c3 ?c4 ?c5
  case k6 => k_is
  case k7 => k_is
  case k8 => omega
  case k9 => first | exact BindsTo.of_eq rfl | exact binds_K (Frag.In.keeps X k.keep) rfl (by k_is) rfl rfl rfl
  case kB => exact rfl
  case c2 => decide
  case c3 => exact rfl
  case c4 => exact rfl
  case c5 => exact rfl
  intro L' h₁ F' N' hlt
  have B' := G.B
  have T' := G.T
  clear G S
  k_lt hlt
  (w_on; repeat' (first | (k_unfold; (try dsimp only)) | ((with_reducible show wpAny _ _ (call (Value.ref _) _ _) _ _ _); k_here; k_dflt (refine wpAny_call ?_; (refine' code_def ?k1 ?k2 ?k3 ?k4 ?k5 ?kA ?kF ?kK ?k6 ?k7 ?k8 ?k9 ?kB ?_ ?c2 ?c3 ?c4 ?c5; (case kA => first | exact Around.frames_deeper (by assumption) | exact Around.frames_deeper (Around.frames_deeper (by assumption)) | exact Around.frames_deeper (Around.frames_deeper (Around.frames_deeper (by assumption)))); (case kF => exact rfl); (case kK => exact rfl); (case k1 => k_asm); (case k2 => k_asm); (case k3 => k_asm); (case k4 => k_asm); (case k5 => k_asm); (case k6 => k_is); (case k7 => k_is); (case k8 => ((simp only [depth_under_make, depth_under_kw, depth_in1, depth_deeper]); (simp only [recursionLimit] at *); omega)); (case k9 => first | exact BindsTo.of_eq rfl | exact binds_K (by k_in) rfl (by k_is) rfl rfl rfl); (case c5 => decide); (case kB => exact locs rfl); (case c2 => exact rfl); (case c3 => exact rfl); (case c4 => exact rfl); k_whole; intro g' L' h' FG' F' N' B' X' T'; (try dsimp only); (try k_lift B'); (try k_fold)))) | walk1 | (dsimp only; (first | ((with_reducible show wpAny _ _ (call (Value.ref _) _ _) _ _ _); k_here; k_dflt (refine wpAny_call ?_; (refine' code_def ?k1 ?k2 ?k3 ?k4 ?k5 ?kA ?kF ?kK ?k6 ?k7 ?k8 ?k9 ?kB ?_ ?c2 ?c3 ?c4 ?c5; (case kA => first | exact Around.frames_deeper (by assumption) | exact Around.frames_deeper (Around.frames_deeper (by assumption)) | exact Around.frames_deeper (Around.frames_deeper (Around.frames_deeper (by assumption)))); (case kF => exact rfl); (case kK => exact rfl); (case k1 => k_asm); (case k2 => k_asm); (case k3 => k_asm); (case k4 => k_asm); (case k5 => k_asm); (case k6 => k_is); (case k7 => k_is); (case k8 => ((simp only [depth_under_make, depth_under_kw, depth_in1, depth_deeper]); (simp only [recursionLimit] at *); omega)); (case k9 => first | exact BindsTo.of_eq rfl | exact binds_K (by k_in) rfl (by k_is) rfl rfl rfl); (case c5 => decide); (case kB => exact locs rfl); (case c2 => exact rfl); (case c3 => exact rfl); (case c4 => exact rfl); k_whole; intro g' L' h' FG' F' N' B' X' T'; (try dsimp only); (try k_lift B'); (try k_fold)))) | walk1))))
  all_goals (try dsimp only)
  all_goals exact hR _ _ _ _ _ _ _ _ _ _ _ (Ke.of_fr (by assumption)) (Sub.of_news (by assumption))
end Mine
end

section
open PySem PySem.W PyProof.Rows PySem.Calls
set_option Elab.async false
set_option maxRecDepth 100000
set_option maxHeartbeats 8000000
namespace Mine
theorem mkIO_K {w : World} {s : Shared} {A A₀ : Around} {base h₀ : Heap} {outer : List Env} {mg mb : Str → Option Value} {mean : ExcName → Option Value} {env : Env} {L : Addr} {m : Str → Option Value} {news : List (Addr × Obj)} {text : Str} {t : Nat} {E : Value → Shared → Prop} {Q : Value → Shared → Prop}
    (B : Below A₀ base outer h₀) (F : Fr h₀ L s.heap m) (X : (hd.heap_39 w.params).In h₀) (N : News h₀ L s.heap news) (T : Top hd.view_39 lo mean mg mb h₀) (hA : A.frames = some (env :: outer)) (hf : env.frame = some L) (hke : env.scope.kind = .function) (hroom : A.depth + 8 < recursionLimit)
    (h : ∀ io dio h1 h2 h3 t1 t2 t3 t4 t5 t6 h' tk, Fr h₀ L h' m → News h₀ L h' ((io, instObj 629 dio) :: (dio, ioDict h1 h2 h3 t1 t2 t3 t4 t5 t6 text 0) :: news) → (∀ p ∈ news, p.1 < dio) → dio < io → Q (.ref io) { s with heap := h', toks := tk }) :
    wpAny (model PySem.Challenge.rw_om0137_02.row.prog w) A (call (.ref 629) [.str text t]) Q E s := by
  refine wpAny_call (io_make F X (io80 w (s := { s with toks := s.toks + 1 }) B F X N T hA hf hke ?_ (fun x dx h' tk F' N' l1 l2 => ⟨x, dx, rfl, (N' _ (.head _)).1, X.keeps F'.keep, ?_⟩)))
  · simp only [depth_under_make]; omega
  · have NS : News h₀ L h' [(x, instObj 629 dx), (dx, emptyDict)] := fun q hq => N' q (by
      simp only [List.mem_cons, List.not_mem_nil, or_false] at hq ⊢
      rcases hq with z | z <;> simp [z])
    have NR : News h₀ L h' news := fun q hq => N' q (.tail _ (.tail _ hq))
    obtain ⟨G', S', k', back⟩ := pushY (A := A.under (.builtin "type.__call__" ⟨[.ref 629, .str text t], []⟩)) (env := env) (s := { s with heap := h', toks := tk }) B F' NS hA hf hke X T
    refine ioInit w G' (by simp only [depth_under_make]; omega) k' S' (Nat.ne_of_gt l2) ?_
    intro h1 h2 h3 t1 t2 t3 t4 t5 t6 h'' tk' k2 S2
    obtain ⟨F2, N2⟩ := back news NR (fun r hr hm => by
      simp only [List.map_cons, List.map_nil, List.mem_cons, List.not_mem_nil, or_false] at hm
      have := l1 r hr
      rcases hm with z | z
      · rw [z] at this; exact absurd (Nat.lt_trans this l2) (Nat.lt_irrefl _)
      · rw [z] at this; exact absurd this (Nat.lt_irrefl _)) h'' _ k2 S2
    exact ⟨rfl, h x dx h1 h2 h3 t1 t2 t3 t4 t5 t6 h'' tk' F2 N2 l1 l2⟩
end Mine
end

section
open PySem PySem.W PyProof.Rows PySem.Calls
set_option Elab.async false
set_option maxRecDepth 100000
set_option maxHeartbeats 4000000
namespace Mine
noncomputable def Got1 (Q : Value → Shared → Prop) (s : Shared) : Prop := ∀ a h', PySem.W.X.Mem s.heap h' [] [(a, dequeObj)] → Q (.ref a) { s with heap := h' }
local macro_rules | `(tactic| x_close) => `(tactic| (rename Got1 _ _ => hg; exact hg _ _ (by assumption)))
section
variable {prog : Program} {w : World} {A : Around} {E : Value → Shared → Prop} {s : Shared}
theorem deque_new {Q : Value → Shared → Prop} (hg : Got1 Q s) : wpAny (model prog w) A (call (.type "collections.deque") []) Q E s := by
  x_run
theorem deque_K {h₀ : Heap} {L : Addr} {m : Str → Option Value} {news : List (Addr × Obj)} {Q : Value → Shared → Prop} (F : Fr h₀ L s.heap m) (N : News h₀ L s.heap news)
    (h : ∀ a h', Fr h₀ L h' m → News h₀ L h' ((a, dequeObj) :: news) → (∀ p ∈ news, @Ne Nat p.1 a) → Q (.ref a) { s with heap := h' }) : wpAny (model prog w) A (call (.type "collections.deque") []) Q E s := by
  refine deque_new fun a h' D => ?_
  have keep : ∀ b o, s.heap.get? b = some o → h'.get? b = some o := fun b o e => D.keep b o e (by simp [PySem.W.X.away])
  have ha := D.nw (a, dequeObj) (.head _)
  refine h a h' (F.after keep) (fun p hp => ?_) fun p hp e => ?_
  · rcases List.mem_cons.mp hp with rfl | hp
    · refine ⟨ha.1, fun e => ?_, ?_⟩
      · obtain ⟨oL, _, _, hL, _⟩ := F.ns
        have := ha.2
        rw [show (a, dequeObj).1 = L from e, hL] at this; cases this
      · cases q : h₀.get? a with
        | none => rfl
        | some o => have := ha.2; rw [F.keep _ _ q] at this; cases this
    · exact ⟨keep _ _ (N p hp).1, (N p hp).2⟩
  · have := ha.2
    rw [← e, (N p hp).1] at this; cases this
end
end Mine
end

section
open PySem PySem.W PyProof.Rows PySem.Calls
set_option Elab.async false
set_option maxRecDepth 100000
set_option maxHeartbeats 8000000
namespace Mine


noncomputable def Γ0 (w : World) (A : Around) (g : Heap) (s : Shared) (W : Str) (refs : Nat → Value) (ln : Int) : Cx := CxR w A (envOf (Str.ofString "") { kind := .function, names := [], isGenerator := false, isCoroutine := false } 0 0 .none) g 0 s 0 0 0 0 [] (ofL []) ln W refs
noncomputable def rf3 (a b c : Addr) : Nat → Value := fun k => if k = 0 then .ref a else if k = 1 then .ref b else .ref c
noncomputable abbrev wsS : Str := Str.ofString " \t\r\n"
noncomputable def PxDist (x dx pb fs : Addr) (i : IO) : Prop := (i.io ≠ i.dio ∧ i.io ≠ x ∧ i.io ≠ dx ∧ i.dio ≠ x ∧ i.dio ≠ dx) ∧ x ≠ dx ∧ (pb ≠ x ∧ pb ≠ dx ∧ pb ≠ i.io ∧ pb ≠ i.dio) ∧ (fs ≠ x ∧ fs ≠ dx ∧ fs ≠ i.io ∧ fs ≠ i.dio)
/-- a posix shlex as it was just made -/
noncomputable def LexFull0 (g h : Heap) (x dx pb fs : Addr) (i : IO) (refs : Nat → Value) (W : Str) (st : Option Nat) (ln : Int) (p : Nat) : Prop :=
  LexG [39, 34] [35] false g h x dx i refs W st ln p ∧ Sub g h [(pb, dequeObj), (fs, dequeObj)]
noncomputable def PxGoal (R : Result → Shared → Prop) (s : Shared) (g : Heap) (x dx : Addr) (text : Str) : Prop := ∀ (i : IO) pb fs h' tk, i.buf = text → PxDist x dx pb fs i → Ke g h' → LexFull0 g h' x dx pb fs i (rf3 i.io pb fs) wsS (some 32) 1 0 → R (.ok (.ret .none)) { s with heap := h', toks := tk }
theorem fin_px (w : World) (A : Around) {R : Result → Shared → Prop} {s : Shared} {g h' : Heap} {x dx io dio pb fs : Addr} {h1 h2 h3 : Int} {t1 t2 t3 t4 t5 t6 tk : Nat} {text : Str} {es : List DictEntry} (hR : PxGoal R s g x dx text) (k : Ke g h')
    (S : Sub g h' [(fs, dequeObj), (pb, dequeObj), (io, instObj 629 dio), (dio, ioDict h1 h2 h3 t1 t2 t3 t4 t5 t6 text 0), (x, instObj 764 dx), (dx, dictOf es 19)])
    (d : PxDist x dx pb fs ⟨io, dio, h1, h2, h3, t1, t2, t3, t4, t5, text⟩)
    (fr : ∀ Γ : Cx, Γ.W = wsS → Γ.refs = rf3 io pb fs → Γ.ln0 = 1 → FldRep Γ (lf (stV (some 32)) (.str []) (.row 0) 0 false [39, 34] [35] false) es) : R (.ok (.ret .none)) { s with heap := h', toks := tk } :=
  hR ⟨io, dio, h1, h2, h3, t1, t2, t3, t4, t5, text⟩ pb fs h' tk rfl d k ⟨⟨Γ0 w A g s wsS (rf3 io pb fs) 1, es, t6, rfl, rfl, rfl, fr _ rfl rfl rfl, fun p hp => S p (by
    simp only [IO.led, List.mem_cons, List.not_mem_nil, or_false] at hp ⊢
    rcases hp with z | z | z | z <;> simp [z])⟩, fun p hp => S p (by
    simp only [IO.led, List.mem_cons, List.not_mem_nil, or_false] at hp ⊢
    rcases hp with z | z <;> simp [z])⟩
theorem zero_ws : has wsS (sg 0) = false := by rw [has_one]; decide +kernel
theorem rep_str {Γ : Cx} {x : Str} {y : List Nat} {t : Nat} (h : x = ofL y) : Rep Γ (.str y) (.str x t) := ⟨t, by rw [h]⟩
theorem neA {a b : Addr} (h : @Ne Nat a b) : a ≠ b := h

theorem init_px (w : World) {s : Shared} {A : Around} {base g : Heap} {fr : List Env} {mg mb : Str → Option Value} {mean : ExcName → Option Value} {x dx : Addr} {text : Str} {t : Nat} {R : Result → Shared → Prop}
    (G : Gd w A base fr mean mg mb g) (hroom : A.depth + 12 < recursionLimit) (k : Ke g s.heap)
    (S : Sub g s.heap [(x, instObj 764 dx), (dx, emptyDict)]) (hne : x ≠ dx) (hb : text.length ≤ 1000)
    (hR : PxGoal R s g x dx text) :
    codeAny (model PySem.Challenge.rw_om0137_02.row.prog w) A (.call (.ref 688) ⟨[.ref x, .str text t], [("posix", .bool true)]⟩) R s := by
  replace hne := neN hne
  have X := G.X
  have hA := G.B.stack
  revert X
  k_fill
  intro X
  refine' enterG G S k ?k6 ?k7 ?k8 ?k9 ?kB ?_ ?c2 ?c3 ?c4 ?c5
  case k6 => k_is
  case k7 => k_is
  case k8 => omega
  case k9 => first | exact BindsTo.of_eq rfl | exact binds_K (Frag.In.keeps X k.keep) rfl (by k_is) rfl rfl rfl
  case kB => exact rfl
  case c2 => decide
  case c3 => exact rfl
  case c4 => exact rfl
  case c5 => exact rfl
  intro L' h₁ F' N' hlt
  have B' := G.B
  have T' := G.T
  clear G S
  k_lt hlt
  refine wpAny_gen fun Q0 E0 hQ0 hE0 => ?_
  clear hE0
  (w_on; repeat' (first | ((with_reducible show wpAny _ _ (execs (_ :: _) _) _ _ (Shared.mk _ _ _ (HAdd.hAdd _ _) _)); refine tok_norm s ?_; intro tkn) | (k_unfold; (try dsimp only)) | ((with_reducible show wpAny _ _ (call (Value.type _) _ _) _ _ _); (k_here; k_dflt (refine' deque_K ?k1 ?k2 ?_; (case k1 => k_asm); (case k2 => k_asm)); intro a' h' F' N' l1'; (simp only [List.mem_cons, List.not_mem_nil, or_false, forall_eq_or_imp, forall_eq] at l1'); (repeat' (with_reducible rename And _ _ => hand'; obtain ⟨ha', hand'⟩ := hand')); (try k_sweep))) | ((with_reducible show wpAny _ _ (call (Value.ref _) _ _) _ _ _); (k_here; (show wpAny _ _ (call (Value.ref 629) [Value.str _ _] []) _ _ _); k_dflt (refine' mkIO_K ?k1 ?k2 ?k3 ?k5 ?k4 ?kA ?kF ?kK ?kR ?_; (case k2 => k_asm); (case k5 => k_asm); (case k3 => k_asm); (case k4 => k_asm); (case k1 => k_asm); (case kA => first | exact Around.frames_deeper (by assumption) | exact Around.frames_deeper (Around.frames_deeper (by assumption))); (case kF => exact rfl); (case kK => exact rfl); (case kR => ((simp only [depth_under_make, depth_under_kw, depth_in1, depth_deeper]); (simp only [recursionLimit] at *); omega))); intro io' dio' h1' h2' h3' t1' t2' t3' t4' t5' t6' h' tk' F' N' l1' l2'; (k_lt l1'); (k_lt2 l2'); (try k_sweep))) | ((with_reducible show wpAny _ _ (call (Value.ref _) _ _) _ _ _); k_here; k_dflt (refine wpAny_call ?_; (refine' code_def ?k1 ?k2 ?k3 ?k4 ?k5 ?kA ?kF ?kK ?k6 ?k7 ?k8 ?k9 ?kB ?_ ?c2 ?c3 ?c4 ?c5; (case kA => first | exact Around.frames_deeper (by assumption) | exact Around.frames_deeper (Around.frames_deeper (by assumption)) | exact Around.frames_deeper (Around.frames_deeper (Around.frames_deeper (by assumption)))); (case kF => exact rfl); (case kK => exact rfl); (case k1 => k_asm); (case k2 => k_asm); (case k3 => k_asm); (case k4 => k_asm); (case k5 => k_asm); (case k6 => k_is); (case k7 => k_is); (case k8 => ((simp only [depth_under_make, depth_under_kw, depth_in1, depth_deeper]); (simp only [recursionLimit] at *); omega)); (case k9 => first | exact BindsTo.of_eq rfl | exact binds_K (by k_in) rfl (by k_is) rfl rfl rfl); (case c5 => decide); (case kB => exact locs rfl); (case c2 => exact rfl); (case c3 => exact rfl); (case c4 => exact rfl); k_whole; intro g' L' h' FG' F' N' B' X' T'; (try dsimp only); (try k_lift B'); (try k_fold)))) | walk1 | (dsimp only; (first | ((with_reducible show wpAny _ _ (call (Value.type _) _ _) _ _ _); (k_here; k_dflt (refine' deque_K ?k1 ?k2 ?_; (case k1 => k_asm); (case k2 => k_asm)); intro a' h' F' N' l1'; (simp only [List.mem_cons, List.not_mem_nil, or_false, forall_eq_or_imp, forall_eq] at l1'); (repeat' (with_reducible rename And _ _ => hand'; obtain ⟨ha', hand'⟩ := hand')); (try k_sweep))) | ((with_reducible show wpAny _ _ (call (Value.ref _) _ _) _ _ _); (k_here; (show wpAny _ _ (call (Value.ref 629) [Value.str _ _] []) _ _ _); k_dflt (refine' mkIO_K ?k1 ?k2 ?k3 ?k5 ?k4 ?kA ?kF ?kK ?kR ?_; (case k2 => k_asm); (case k5 => k_asm); (case k3 => k_asm); (case k4 => k_asm); (case k1 => k_asm); (case kA => first | exact Around.frames_deeper (by assumption) | exact Around.frames_deeper (Around.frames_deeper (by assumption))); (case kF => exact rfl); (case kK => exact rfl); (case kR => ((simp only [depth_under_make, depth_under_kw, depth_in1, depth_deeper]); (simp only [recursionLimit] at *); omega))); intro io' dio' h1' h2' h3' t1' t2' t3' t4' t5' t6' h' tk' F' N' l1' l2'; (k_lt l1'); (k_lt2 l2'); (try k_sweep))) | ((with_reducible show wpAny _ _ (call (Value.ref _) _ _) _ _ _); k_here; k_dflt (refine wpAny_call ?_; (refine' code_def ?k1 ?k2 ?k3 ?k4 ?k5 ?kA ?kF ?kK ?k6 ?k7 ?k8 ?k9 ?kB ?_ ?c2 ?c3 ?c4 ?c5; (case kA => first | exact Around.frames_deeper (by assumption) | exact Around.frames_deeper (Around.frames_deeper (by assumption)) | exact Around.frames_deeper (Around.frames_deeper (Around.frames_deeper (by assumption)))); (case kF => exact rfl); (case kK => exact rfl); (case k1 => k_asm); (case k2 => k_asm); (case k3 => k_asm); (case k4 => k_asm); (case k5 => k_asm); (case k6 => k_is); (case k7 => k_is); (case k8 => ((simp only [depth_under_make, depth_under_kw, depth_in1, depth_deeper]); (simp only [recursionLimit] at *); omega)); (case k9 => first | exact BindsTo.of_eq rfl | exact binds_K (by k_in) rfl (by k_is) rfl rfl rfl); (case c5 => decide); (case kB => exact locs rfl); (case c2 => exact rfl); (case c3 => exact rfl); (case c4 => exact rfl); k_whole; intro g' L' h' FG' F' N' B' X' T'; (try dsimp only); (try k_lift B'); (try k_fold)))) | walk1))))
  all_goals (subst hQ0)
  all_goals (try dsimp only)
  refine fin_px w A hR (Ke.of_fr (by assumption)) (Sub.of_news (by assumption)) ?_ ?_
  · refine ⟨⟨?_, ?_, ?_, ?_, ?_⟩, ?_, ⟨?_, ?_, ?_, ?_⟩, ?_, ?_, ?_, ?_⟩ <;> (refine neA ?_; (try dsimp only); omega)
  · intro Γ e1 e2 e3
    refine .cons ?_ (.cons ?_ (.cons ?_ (.cons ?_ (.cons ?_ (.cons ?_ (.cons ?_ (.cons ?_ (.cons ?_ (.cons ?_ (.cons ?_ (.cons ?_ (.cons ?_ (.cons ?_ (.cons ?_ (.cons ?_ (.cons ?_ (.cons ?_ (.cons ?_ .nil))))))))))))))))))
    · exact ⟨by rw [e2]; rfl, by rw [e2]; rfl⟩
    · exact rfl
    · exact rfl
    · exact rfl
    · exact ⟨_, rfl⟩
    · exact rep_str (by kernel_rfl)
    · exact ⟨by rw [e1]; exact zero_ws, _, by rw [e1]⟩
    · exact rfl
    · exact ⟨_, rfl⟩
    · exact ⟨_, rfl⟩
    · exact ⟨_, rfl⟩
    · exact ⟨_, rfl⟩
    · exact ⟨by rw [e2]; rfl, by rw [e2]; rfl⟩
    · exact ⟨_, by rw [e3]; rfl⟩
    · exact ⟨_, rfl⟩
    · exact ⟨_, rfl⟩
    · exact ⟨by rw [e2]; rfl, by rw [e2]; rfl⟩
    · exact rfl
    · exact ⟨_, rfl⟩

end Mine
end

section
open PySem PySem.W PyProof.Rows PySem.Calls
set_option Elab.async false
set_option maxRecDepth 100000
set_option maxHeartbeats 8000000
namespace Mine


noncomputable def NpGoal (R : Result → Shared → Prop) (s : Shared) (g : Heap) (x dx : Addr) (text : Str) : Prop := ∀ (i : IO) (hs : Int) (kt t6 : Nat) es h' tk, i.buf = text → (i.io ≠ i.dio ∧ i.io ≠ x ∧ i.io ≠ dx ∧ i.dio ≠ x ∧ i.dio ≠ dx) → Ke g h' → Sub g h' ((x, instObj 764 dx) :: (dx, dictOf (⟨hs, .str (Str.ofString "instream") kt, .ref i.io⟩ :: es) 19) :: i.led 0 t6) → R (.ok (.ret .none)) { s with heap := h', toks := tk }
theorem fin_np {R : Result → Shared → Prop} {s : Shared} {g h' : Heap} {x dx io dio pb fs : Addr} {h1 h2 h3 hs : Int} {t1 t2 t3 t4 t5 t6 tk kt : Nat} {text : Str} {es : List DictEntry} (hR : NpGoal R s g x dx text) (k : Ke g h')
    (S : Sub g h' [(fs, dequeObj), (pb, dequeObj), (io, instObj 629 dio), (dio, ioDict h1 h2 h3 t1 t2 t3 t4 t5 t6 text 0), (x, instObj 764 dx), (dx, dictOf (⟨hs, .str (Str.ofString "instream") kt, .ref io⟩ :: es) 19)])
    (d : io ≠ dio ∧ io ≠ x ∧ io ≠ dx ∧ dio ≠ x ∧ dio ≠ dx) : R (.ok (.ret .none)) { s with heap := h', toks := tk } :=
  hR ⟨io, dio, h1, h2, h3, t1, t2, t3, t4, t5, text⟩ hs kt t6 es h' tk rfl d k (fun p hp => S p (by
    simp only [IO.led, List.mem_cons, List.not_mem_nil, or_false] at hp ⊢
    rcases hp with z | z | z | z <;> simp [z]))
theorem init_np (w : World) {s : Shared} {A : Around} {base g : Heap} {fr : List Env} {mg mb : Str → Option Value} {mean : ExcName → Option Value} {x dx : Addr} {text : Str} {t : Nat} {R : Result → Shared → Prop}
    (G : Gd w A base fr mean mg mb g) (hroom : A.depth + 12 < recursionLimit) (hh : A.handled = none) (k : Ke g s.heap)
    (S : Sub g s.heap [(x, instObj 764 dx), (dx, emptyDict)]) (hne : x ≠ dx) (hb : text.length ≤ 1000)
    (hR : NpGoal R s g x dx text) :
    codeAny (model PySem.Challenge.rw_om0137_02.row.prog w) A (.call (.ref 688) ⟨[.ref x, .str text t], []⟩) R s := by
  replace hne := neN hne
  have X := G.X
  have hA := G.B.stack
  revert X
  k_fill
  intro X
  refine' enterG G S k ?k6 ?k7 ?k8 ?k9 ?kB ?_ ?c2 ?c3 ?c4 ?c5
  case k6 => k_is
  case k7 => k_is
  case k8 => omega
  case k9 => first | exact BindsTo.of_eq rfl | exact binds_K (Frag.In.keeps X k.keep) rfl (by k_is) rfl rfl rfl
  case kB => exact rfl
  case c2 => decide
  case c3 => exact rfl
  case c4 => exact rfl
  case c5 => exact rfl
  intro L' h₁ F' N' hlt
  have B' := G.B
  have T' := G.T
  clear G S
  k_lt hlt
  refine wpAny_gen fun Q0 E0 hQ0 hE0 => ?_
  clear hE0
  (w_on; repeat' (first | ((with_reducible show wpAny _ _ (execs (_ :: _) _) _ _ (Shared.mk _ _ _ (HAdd.hAdd _ _) _)); refine tok_norm s ?_; intro tkn) | (k_unfold; (try dsimp only)) | ((with_reducible show wpAny _ _ (call (Value.type _) _ _) _ _ _); (k_here; k_dflt (refine' deque_K ?k1 ?k2 ?_; (case k1 => k_asm); (case k2 => k_asm)); intro a' h' F' N' l1'; (simp only [List.mem_cons, List.not_mem_nil, or_false, forall_eq_or_imp, forall_eq] at l1'); (repeat' (with_reducible rename And _ _ => hand'; obtain ⟨ha', hand'⟩ := hand')); (try k_sweep))) | ((with_reducible show wpAny _ _ (call (Value.ref _) _ _) _ _ _); (k_here; (show wpAny _ _ (call (Value.ref 629) [Value.str _ _] []) _ _ _); k_dflt (refine' mkIO_K ?k1 ?k2 ?k3 ?k5 ?k4 ?kA ?kF ?kK ?kR ?_; (case k2 => k_asm); (case k5 => k_asm); (case k3 => k_asm); (case k4 => k_asm); (case k1 => k_asm); (case kA => first | exact Around.frames_deeper (by assumption) | exact Around.frames_deeper (Around.frames_deeper (by assumption))); (case kF => exact rfl); (case kK => exact rfl); (case kR => ((simp only [depth_under_make, depth_under_kw, depth_in1, depth_deeper]); (simp only [recursionLimit] at *); omega))); intro io' dio' h1' h2' h3' t1' t2' t3' t4' t5' t6' h' tk' F' N' l1' l2'; (k_lt l1'); (k_lt2 l2'); (try k_sweep))) | ((with_reducible show wpAny _ _ (call (Value.ref _) _ _) _ _ _); k_here; k_dflt (refine wpAny_call ?_; (refine' code_def ?k1 ?k2 ?k3 ?k4 ?k5 ?kA ?kF ?kK ?k6 ?k7 ?k8 ?k9 ?kB ?_ ?c2 ?c3 ?c4 ?c5; (case kA => first | exact Around.frames_deeper (by assumption) | exact Around.frames_deeper (Around.frames_deeper (by assumption)) | exact Around.frames_deeper (Around.frames_deeper (Around.frames_deeper (by assumption)))); (case kF => exact rfl); (case kK => exact rfl); (case k1 => k_asm); (case k2 => k_asm); (case k3 => k_asm); (case k4 => k_asm); (case k5 => k_asm); (case k6 => k_is); (case k7 => k_is); (case k8 => ((simp only [depth_under_make, depth_under_kw, depth_in1, depth_deeper]); (simp only [recursionLimit] at *); omega)); (case k9 => first | exact BindsTo.of_eq rfl | exact binds_K (by k_in) rfl (by k_is) rfl rfl rfl); (case c5 => decide); (case kB => exact locs rfl); (case c2 => exact rfl); (case c3 => exact rfl); (case c4 => exact rfl); k_whole; intro g' L' h' FG' F' N' B' X' T'; (try dsimp only); (try k_lift B'); (try k_fold)))) | walk1 | (dsimp only; (first | ((with_reducible show wpAny _ _ (call (Value.type _) _ _) _ _ _); (k_here; k_dflt (refine' deque_K ?k1 ?k2 ?_; (case k1 => k_asm); (case k2 => k_asm)); intro a' h' F' N' l1'; (simp only [List.mem_cons, List.not_mem_nil, or_false, forall_eq_or_imp, forall_eq] at l1'); (repeat' (with_reducible rename And _ _ => hand'; obtain ⟨ha', hand'⟩ := hand')); (try k_sweep))) | ((with_reducible show wpAny _ _ (call (Value.ref _) _ _) _ _ _); (k_here; (show wpAny _ _ (call (Value.ref 629) [Value.str _ _] []) _ _ _); k_dflt (refine' mkIO_K ?k1 ?k2 ?k3 ?k5 ?k4 ?kA ?kF ?kK ?kR ?_; (case k2 => k_asm); (case k5 => k_asm); (case k3 => k_asm); (case k4 => k_asm); (case k1 => k_asm); (case kA => first | exact Around.frames_deeper (by assumption) | exact Around.frames_deeper (Around.frames_deeper (by assumption))); (case kF => exact rfl); (case kK => exact rfl); (case kR => ((simp only [depth_under_make, depth_under_kw, depth_in1, depth_deeper]); (simp only [recursionLimit] at *); omega))); intro io' dio' h1' h2' h3' t1' t2' t3' t4' t5' t6' h' tk' F' N' l1' l2'; (k_lt l1'); (k_lt2 l2'); (try k_sweep))) | ((with_reducible show wpAny _ _ (call (Value.ref _) _ _) _ _ _); k_here; k_dflt (refine wpAny_call ?_; (refine' code_def ?k1 ?k2 ?k3 ?k4 ?k5 ?kA ?kF ?kK ?k6 ?k7 ?k8 ?k9 ?kB ?_ ?c2 ?c3 ?c4 ?c5; (case kA => first | exact Around.frames_deeper (by assumption) | exact Around.frames_deeper (Around.frames_deeper (by assumption)) | exact Around.frames_deeper (Around.frames_deeper (Around.frames_deeper (by assumption)))); (case kF => exact rfl); (case kK => exact rfl); (case k1 => k_asm); (case k2 => k_asm); (case k3 => k_asm); (case k4 => k_asm); (case k5 => k_asm); (case k6 => k_is); (case k7 => k_is); (case k8 => ((simp only [depth_under_make, depth_under_kw, depth_in1, depth_deeper]); (simp only [recursionLimit] at *); omega)); (case k9 => first | exact BindsTo.of_eq rfl | exact binds_K (by k_in) rfl (by k_is) rfl rfl rfl); (case c5 => decide); (case kB => exact locs rfl); (case c2 => exact rfl); (case c3 => exact rfl); (case c4 => exact rfl); k_whole; intro g' L' h' FG' F' N' B' X' T'; (try dsimp only); (try k_lift B'); (try k_fold)))) | walk1))))
  all_goals (subst hQ0)
  all_goals (try dsimp only)
  refine fin_np hR (Ke.of_fr (by assumption)) (Sub.of_news (by assumption)) ?_
  refine ⟨?_, ?_, ?_, ?_, ?_⟩ <;> (refine neA ?_; (try dsimp only); omega)
end Mine
end

section
open PySem PySem.W PyProof.Rows PySem.Calls
set_option Elab.async false
set_option maxRecDepth 100000
set_option maxHeartbeats 8000000
namespace Mine

noncomputable abbrev wnS : Str := Str.ofString "\n\t\r "
noncomputable def NxGoal (R : Result → Shared → Prop) (s : Shared) (g : Heap) (x dx : Addr) (i : IO) (p : Nat) : Prop := ∀ pb h' tk, (pb ≠ x ∧ pb ≠ dx ∧ pb ≠ i.io ∧ pb ≠ i.dio) → Ke g h' → NxFull g h' x dx pb i (rf3 i.io pb pb) wnS 1 p → R (.ok (.ret .none)) { s with heap := h', toks := tk }
theorem fin_nx (w : World) (A : Around) {R : Result → Shared → Prop} {s : Shared} {g h' : Heap} {x dx pb : Addr} {i : IO} {p t6 tk : Nat} {es : List DictEntry} (hR : NxGoal R s g x dx i p) (k : Ke g h')
    (S : Sub g h' [(pb, listE), (x, instObj 77 dx), (dx, dictOf es 4), (i.io, instObj 629 i.dio), (i.dio, ioDict i.h1 i.h2 i.h3 i.t1 i.t2 i.t3 i.t4 i.t5 t6 i.buf p)])
    (d : pb ≠ x ∧ pb ≠ dx ∧ pb ≠ i.io ∧ pb ≠ i.dio)
    (fr : ∀ Γ : Cx, Γ.W = wnS → Γ.refs = rf3 i.io pb pb → Γ.ln0 = 1 → FldRep Γ (nlf (.row 0) 0 false) es) : R (.ok (.ret .none)) { s with heap := h', toks := tk } :=
  hR pb h' tk d k ⟨⟨Γ0 w A g s wnS (rf3 i.io pb pb) 1, es, t6, 0, false, rfl, rfl, rfl, rfl, fr _ rfl rfl rfl, fun p hp => S p (by
    simp only [IO.led, List.mem_cons, List.not_mem_nil, or_false] at hp ⊢
    rcases hp with z | z | z | z <;> simp [z])⟩, fun p hp => S p (by
    simp only [List.mem_cons, List.not_mem_nil, or_false] at hp ⊢
    simp [hp])⟩
theorem zero_wn : has wnS (sg 0) = false := by rw [has_one]; decide +kernel
theorem init_nx (w : World) {s : Shared} {A : Around} {base g : Heap} {fr : List Env} {mg mb : Str → Option Value} {mean : ExcName → Option Value} {x dx : Addr} {i : IO} {p t6 : Nat} {R : Result → Shared → Prop}
    (G : Gd w A base fr mean mg mb g) (hroom : A.depth + 12 < recursionLimit) (hh : A.handled = none) (k : Ke g s.heap)
    (S : Sub g s.heap [(x, instObj 77 dx), (dx, emptyDict), (i.io, instObj 629 i.dio), (i.dio, ioDict i.h1 i.h2 i.h3 i.t1 i.t2 i.t3 i.t4 i.t5 t6 i.buf p)]) (hne : x ≠ dx) (d : i.io ≠ i.dio ∧ i.io ≠ x ∧ i.io ≠ dx ∧ i.dio ≠ x ∧ i.dio ≠ dx)
    (hR : NxGoal R s g x dx i p) :
    codeAny (model PySem.Challenge.rw_om0137_02.row.prog w) A (.call (.ref 53) ⟨[.ref x, .ref i.io], []⟩) R s := by
  obtain ⟨d1, d2, d3, d4, d5⟩ := d
  replace d1 := neN d1
  replace d2 := neN d2
  replace d3 := neN d3
  replace d4 := neN d4
  replace d5 := neN d5
  replace hne := neN hne
  have X := G.X
  have hA := G.B.stack
  revert X
  k_fill
  intro X
  refine' enterG G S k ?k6 ?k7 ?k8 ?k9 ?kB ?_ ?c2 ?c3 ?c4 ?c5
  case k6 => k_is
  case k7 => k_is
  case k8 => omega
  case k9 => first | exact BindsTo.of_eq rfl | exact binds_K (Frag.In.keeps X k.keep) rfl (by k_is) rfl rfl rfl
  case kB => exact rfl
  case c2 => decide
  case c3 => exact rfl
  case c4 => exact rfl
  case c5 => exact rfl
  intro L' h₁ F' N' hlt
  have B' := G.B
  have T' := G.T
  clear G S
  k_lt hlt
  refine wpAny_gen fun Q0 E0 hQ0 hE0 => ?_
  clear hE0
  (w_on; repeat' (first | ((with_reducible show wpAny _ _ (execs (_ :: _) _) _ _ (Shared.mk _ _ _ (HAdd.hAdd _ _) _)); refine tok_norm s ?_; intro tkn) | (k_unfold; (try dsimp only)) | ((with_reducible show wpAny _ _ (call (Value.ref _) _ _) _ _ _); k_here; k_dflt (refine wpAny_call ?_; (refine' code_def ?k1 ?k2 ?k3 ?k4 ?k5 ?kA ?kF ?kK ?k6 ?k7 ?k8 ?k9 ?kB ?_ ?c2 ?c3 ?c4 ?c5; (case kA => first | exact Around.frames_deeper (by assumption) | exact Around.frames_deeper (Around.frames_deeper (by assumption)) | exact Around.frames_deeper (Around.frames_deeper (Around.frames_deeper (by assumption)))); (case kF => exact rfl); (case kK => exact rfl); (case k1 => k_asm); (case k2 => k_asm); (case k3 => k_asm); (case k4 => k_asm); (case k5 => k_asm); (case k6 => k_is); (case k7 => k_is); (case k8 => ((simp only [depth_under_make, depth_under_kw, depth_in1, depth_deeper]); (simp only [recursionLimit] at *); omega)); (case k9 => first | exact BindsTo.of_eq rfl | exact binds_K (by k_in) rfl (by k_is) rfl rfl rfl); (case c5 => decide); (case kB => exact locs rfl); (case c2 => exact rfl); (case c3 => exact rfl); (case c4 => exact rfl); k_whole; intro g' L' h' FG' F' N' B' X' T'; (try dsimp only); (try k_lift B'); (try k_fold)))) | walk1 | (dsimp only; (first | ((with_reducible show wpAny _ _ (call (Value.ref _) _ _) _ _ _); k_here; k_dflt (refine wpAny_call ?_; (refine' code_def ?k1 ?k2 ?k3 ?k4 ?k5 ?kA ?kF ?kK ?k6 ?k7 ?k8 ?k9 ?kB ?_ ?c2 ?c3 ?c4 ?c5; (case kA => first | exact Around.frames_deeper (by assumption) | exact Around.frames_deeper (Around.frames_deeper (by assumption)) | exact Around.frames_deeper (Around.frames_deeper (Around.frames_deeper (by assumption)))); (case kF => exact rfl); (case kK => exact rfl); (case k1 => k_asm); (case k2 => k_asm); (case k3 => k_asm); (case k4 => k_asm); (case k5 => k_asm); (case k6 => k_is); (case k7 => k_is); (case k8 => ((simp only [depth_under_make, depth_under_kw, depth_in1, depth_deeper]); (simp only [recursionLimit] at *); omega)); (case k9 => first | exact BindsTo.of_eq rfl | exact binds_K (by k_in) rfl (by k_is) rfl rfl rfl); (case c5 => decide); (case kB => exact locs rfl); (case c2 => exact rfl); (case c3 => exact rfl); (case c4 => exact rfl); k_whole; intro g' L' h' FG' F' N' B' X' T'; (try dsimp only); (try k_lift B'); (try k_fold)))) | walk1))))
  all_goals (subst hQ0)
  all_goals (try dsimp only)
  refine fin_nx w A hR (Ke.of_fr (by assumption)) (Sub.of_news (by assumption)) ?_ ?_
  · refine ⟨?_, ?_, ?_, ?_⟩ <;> (refine neA ?_; (try dsimp only); omega)
  · intro Γ e1 e2 e3
    refine .cons ?_ (.cons ?_ (.cons ?_ (.cons ?_ .nil)))
    · exact ⟨_, by rw [e3]; rfl⟩
    · exact ⟨by rw [e2]; rfl, by rw [e2]; rfl⟩
    · exact ⟨by rw [e1]; exact zero_wn, _, by rw [e1]⟩
    · exact ⟨by rw [e2]; rfl, by rw [e2]; rfl⟩
end Mine
end

section
open PySem PySem.W PyProof.Rows PySem.Calls
set_option Elab.async false
set_option maxRecDepth 100000
set_option maxHeartbeats 4000000
namespace Mine
/-- what netrc's lexer tells: the word, what is left, the row -/
noncomputable def ns (wh : Nat → Bool) (l : List Nat) (ln : Int) : List Nat × List Nat × Int := match ntok wh l ln with
  | .ret t r n => (t, r, n)
  | .fin t n => (t, [], n)
theorem ns_of {wh : Nat → Bool} {l tok r : List Nat} {ln n : Int} (h : nDone wh l ln tok r n) : ns wh l ln = (tok, r, n) := by
  unfold ns
  rcases h with h | ⟨h, rfl⟩ <;> rw [h]
noncomputable def NOs (k : Int) : NO → NO
  | .ret t r n => .ret t r (n + k)
  | .fin t n => .fin t (n + k)
theorem nl_add (c : Nat) (ln k : Int) : nl c (ln + k) = nl c ln + k := by
  unfold nl
  split <;> omega
theorem loopL_add (stop : Nat → Bool) (k : Int) : ∀ (l tok : List Nat) (ln : Int), loopL stop l tok (ln + k) = NOs k (loopL stop l tok ln)
  | [], tok, ln => by simp only [loopL, NOs]
  | [c], tok, ln => by
    simp only [loopL, nl_add]
    repeat' split
    all_goals rfl
  | c :: d :: r, tok, ln => by
    simp only [loopL, nl_add]
    split
    · rfl
    · split
      · exact loopL_add stop k r _ _
      · exact loopL_add stop k (d :: r) _ _
/-- the word that the lexers read from here -/
noncomputable def LWd (wh : Nat → Bool) (l : List Nat) (ln : Int) (t r : List Nat) (n : Int) : Prop :=
  (∃ st, run [] wh l (some 32) 32 false [] ln = .brk r st n t false) ∨ (run [] wh l (some 32) 32 false [] ln = .bad ∧ ∃ st, run [] wh l.dropLast (some 32) 32 false [] ln = .brk r st n t false)
noncomputable def LIn (wh : Nat → Bool) (l : List Nat) (es : Nat) (tok : List Nat) (ln : Int) (t r : List Nat) (n : Int) : Prop :=
  (∃ st, run [] wh l (some 97) es false tok ln = .brk r st n t false) ∨ (l ≠ [] ∧ run [] wh l (some 97) es false tok ln = .bad ∧ ∃ st, run [] wh l.dropLast (some 97) es false tok ln = .brk r st n t false)
noncomputable def NOis (N : NO) (t r : List Nat) (n : Int) : Prop := N = .ret t r n ∨ N = .fin t n ∧ r = []
theorem run_end (wh : Nat → Bool) (es : Nat) (tok : List Nat) (ln : Int) : run [] wh [] (some 97) es false tok ln = .brk [] none ln tok false := by
  simp [run, stepC, newTok]
theorem run_white {wh : Nat → Bool} {c : Nat} (h : wh c = true) (r : List Nat) (es : Nat) {tok : List Nat} (ht : tok ≠ []) (ln : Int) : run [] wh (c :: r) (some 97) es false tok ln = .brk r (some 32) (nl c ln) tok false := by
  have : tok.isEmpty = false := by cases tok <;> simp_all
  simp [run, stepC, newTok, h, nl, this]
theorem run_esc {wh : Nat → Bool} {c : Nat} (h : wh c = false) (hc : c = 92) (r : List Nat) (es : Nat) (tok : List Nat) (ln : Int) : run [] wh (c :: r) (some 97) es false tok ln = run [] wh r (some 92) 97 false tok ln := by
  subst hc
  simp [run, stepC, newTok, h]
theorem run_plain {wh : Nat → Bool} {c : Nat} (h : wh c = false) (hc : c ≠ 92) (r : List Nat) (es : Nat) (tok : List Nat) (ln : Int) : run [] wh (c :: r) (some 97) es false tok ln = run [] wh r (some 97) es false (tok ++ [c]) (nl c ln) := by
  simp [run, stepC, newTok, h, hc, nl]
theorem run_esc_end (wh : Nat → Bool) (es : Nat) (tok : List Nat) (ln : Int) : run [] wh [] (some 92) es false tok ln = .bad := by
  simp [run, stepC]
theorem run_esc_go (wh : Nat → Bool) (d : Nat) (r : List Nat) (tok : List Nat) (ln : Int) : run [] wh (d :: r) (some 92) 97 false tok ln = run [] wh r (some 97) 97 false (tok ++ [d]) (nl d ln) := by
  simp [run, stepC, newTok, nl]
theorem loop_in {wh : Nat → Bool} : ∀ (l : List Nat) (es : Nat) (tok : List Nat) (ln : Int) (t r : List Nat) (n : Int), tok ≠ [] → NOis (loopL wh l tok ln) t r n → LIn wh l es tok ln t r n
  | [], es, tok, ln, t, r, n, _, h => by
    simp only [loopL] at h
    rcases h with h | ⟨h, rfl⟩
    · cases h
    · cases h
      exact .inl ⟨_, run_end wh es _ _⟩
  | [c], es, tok, ln, t, r, n, ht, h => by
    simp only [loopL] at h
    cases hw : wh c with
    | true =>
      rw [hw] at h
      rcases h with h | ⟨h, -⟩
      · cases h
        exact .inl ⟨_, run_white hw [] es ht ln⟩
      · cases h
    | false =>
      rw [hw] at h
      by_cases hc : c = 92
      · rw [if_neg (by decide), if_pos (by simp [hc])] at h
        rcases h with h | ⟨h, rfl⟩
        · cases h
        · cases h
          refine .inr ⟨by simp, ?_, none, ?_⟩
          · rw [run_esc hw hc, run_esc_end]
          · exact run_end wh es _ _
      · rw [if_neg (by decide), if_neg (by simp [hc])] at h
        rcases h with h | ⟨h, rfl⟩
        · cases h
        · cases h
          exact .inl ⟨_, by rw [run_plain hw hc, run_end]⟩
  | c :: d :: r', es, tok, ln, t, r, n, ht, h => by
    simp only [loopL] at h
    cases hw : wh c with
    | true =>
      rw [hw] at h
      rcases h with h | ⟨h, -⟩
      · cases h
        exact .inl ⟨_, run_white hw _ es ht ln⟩
      · cases h
    | false =>
      rw [hw] at h
      by_cases hc : c = 92
      · rw [if_neg (by decide), if_pos (by simp [hc])] at h
        rcases loop_in r' 97 (tok ++ [d]) (nl d ln) t r n (by simp) h with ⟨st, e⟩ | ⟨hne, e, st, e'⟩
        · exact .inl ⟨st, by rw [run_esc hw hc, run_esc_go]; exact e⟩
        · refine .inr ⟨by simp, by rw [run_esc hw hc, run_esc_go]; exact e, st, ?_⟩
          rw [List.dropLast_cons_of_ne_nil (by simp), List.dropLast_cons_of_ne_nil hne, run_esc hw hc, run_esc_go]
          exact e'
      · rw [if_neg (by decide), if_neg (by simp [hc])] at h
        rcases loop_in (d :: r') es (tok ++ [c]) (nl c ln) t r n (by simp) h with ⟨st, e⟩ | ⟨hne, e, st, e'⟩
        · exact .inl ⟨st, by rw [run_plain hw hc]; exact e⟩
        · refine .inr ⟨by simp, by rw [run_plain hw hc]; exact e, st, ?_⟩
          rw [List.dropLast_cons_of_ne_nil hne, run_plain hw hc]
          exact e'
theorem run0_esc {wh : Nat → Bool} {c : Nat} (h : wh c = false) (hc : c = 92) (r : List Nat) (ln : Int) : run [] wh (c :: r) (some 32) 32 false [] ln = run [] wh r (some 92) 97 false [] ln := by
  subst hc
  simp [run, stepC, newTok, h]
theorem run0_plain {wh : Nat → Bool} {c : Nat} (h : wh c = false) (hc : c ≠ 92) (r : List Nat) (ln : Int) : run [] wh (c :: r) (some 32) 32 false [] ln = run [] wh r (some 97) 32 false [c] (nl c ln) := by
  simp [run, stepC, newTok, h, hc, nl]
theorem run0_end (wh : Nat → Bool) (ln : Int) : run [] wh [] (some 32) 32 false [] ln = .brk [] none ln [] false := by
  simp [run, stepC, newTok]
/-- a word from a sign that is not white -/
theorem word_in {wh : Nat → Bool} {c : Nat} (hw : wh c = false) (r' : List Nat) (ln : Int) {t r : List Nat} {n : Int} (h : NOis (loopL wh (c :: r') [] ln) t r n) : LWd wh (c :: r') ln t r n := by
  rw [loopL_cons, hw, if_neg (by decide)] at h
  by_cases hc : c = 92
  · rw [if_pos (by simp [hc])] at h
    cases r' with
    | nil =>
      rcases h with h | ⟨h, rfl⟩
      · cases h
      · cases h
        refine .inr ⟨by rw [run0_esc hw hc, run_esc_end], none, run0_end wh _⟩
    | cons d r' =>
      dsimp only at h
      rcases loop_in r' 97 [d] (nl d ln) t r n (by simp) h with ⟨st, e⟩ | ⟨hne, e, st, e'⟩
      · exact .inl ⟨st, by rw [run0_esc hw hc, run_esc_go]; exact e⟩
      · refine .inr ⟨by rw [run0_esc hw hc, run_esc_go]; exact e, st, ?_⟩
        rw [List.dropLast_cons_of_ne_nil (by simp), List.dropLast_cons_of_ne_nil hne, run0_esc hw hc, run_esc_go]
        exact e'
  · rw [if_neg (by simp [hc])] at h
    rcases loop_in r' 32 [c] (nl c ln) t r n (by simp) h with ⟨st, e⟩ | ⟨hne, e, st, e'⟩
    · exact .inl ⟨st, by rw [run0_plain hw hc]; exact e⟩
    · refine .inr ⟨by rw [run0_plain hw hc]; exact e, st, ?_⟩
      rw [List.dropLast_cons_of_ne_nil hne, run0_plain hw hc]
      exact e'
theorem word_none (wh : Nat → Bool) (ln : Int) : LWd wh [] ln [] [] ln := .inl ⟨none, run0_end wh ln⟩
/-- the white signs at the front taken off -/
noncomputable def strip (wh : Nat → Bool) : List Nat → Int → List Nat × Int
  | [], ln => ([], ln)
  | c :: r, ln => if wh c then strip wh r (nl c ln) else (c :: r, ln)
theorem NOis_ns {wh : Nat → Bool} {l : List Nat} {ln : Int} : NOis (ntok wh l ln) (ns wh l ln).1 (ns wh l ln).2.1 (ns wh l ln).2.2 := by
  unfold ns
  cases ntok wh l ln with
  | ret t r n => exact .inl rfl
  | fin t n => exact .inr ⟨rfl, rfl⟩
theorem ntok_strip (wh : Nat → Bool) : ∀ (l : List Nat) (ln : Int), ntok wh l ln = ntok wh (strip wh l ln).1 (strip wh l ln).2
  | [], ln => rfl
  | c :: r, ln => by
    rw [ntok_cons]
    unfold strip
    cases h : wh c with
    | true => rw [if_pos rfl, if_pos rfl]; exact ntok_strip wh r _
    | false =>
      have e : (if false = true then strip wh r (nl c ln) else (c :: r, ln)) = (c :: r, ln) := rfl
      rw [e, ntok_cons, h]
theorem strip_head (wh : Nat → Bool) : ∀ (l : List Nat) (ln : Int) {c : Nat} {r : List Nat}, (strip wh l ln).1 = c :: r → wh c = false
  | [], ln, c, r, h => by cases h
  | d :: l, ln, c, r, h => by
    unfold strip at h
    cases hd : wh d with
    | true => rw [hd, if_pos rfl] at h; exact strip_head wh l _ h
    | false => rw [hd, if_neg (by decide)] at h; cases h; exact hd
theorem NOis_add {N : NO} {t r : List Nat} {n k : Int} (h : NOis (NOs k N) t r n) : NOis N t r (n - k) := by
  cases N with
  | ret t' r' n' =>
    rcases h with h | ⟨h, -⟩
    · cases h
      exact .inl (by congr 1; omega)
    · cases h
  | fin t' n' =>
    rcases h with h | ⟨h, rfl⟩
    · cases h
    · cases h
      exact .inr ⟨by congr 1; omega, rfl⟩
/-- what _law_next is to find: the stripped text, then the word -/
inductive Nx (wh : Nat → Bool) (l : List Nat) (ln : Int) : List Nat → List Nat → Int → Prop
  | fin {n : Int} : strip wh l ln = ([], n) → Nx wh l ln [] [] n
  | plain {c : Nat} {r' t r : List Nat} {n k : Int} : strip wh l ln = (c :: r', n) → c ≠ 34 → LWd wh (c :: r') 1 t r k → Nx wh l ln t r (n + (k - 1))
  | empty {r' : List Nat} {n : Int} : strip wh l ln = (34 :: 34 :: r', n) → Nx wh l ln [] r' n
  | quoted {r' t r : List Nat} {n k : Int} : strip wh l ln = (34 :: r', n) → (∀ d r'', r' = d :: r'' → d ≠ 34) → LWd (· == 34) r' 1 t r k → Nx wh l ln t r (n + (k - 1))
theorem next_is (wh : Nat → Bool) (l : List Nat) (ln : Int) : Nx wh l ln (ns wh l ln).1 (ns wh l ln).2.1 (ns wh l ln).2.2 := by
  have h := NOis_ns (wh := wh) (l := l) (ln := ln)
  generalize ns wh l ln = z at h
  obtain ⟨t, r, n⟩ := z
  dsimp only at h ⊢
  rw [ntok_strip] at h
  obtain ⟨l', n', hs⟩ : ∃ l' n', strip wh l ln = (l', n') := ⟨_, _, rfl⟩
  rw [hs] at h
  dsimp only at h
  cases l' with
  | nil =>
    rcases h with h | ⟨h, rfl⟩
    · cases h
    · cases h
      exact .fin hs
  | cons c r' =>
    have hc : wh c = false := strip_head wh l ln (by rw [hs])
    rw [ntok_cons, hc, if_neg (by decide)] at h
    by_cases h34 : c = 34
    · subst h34
      rw [if_pos (by decide)] at h
      have hn : nl 34 n' = n' := rfl
      rw [hn] at h
      by_cases hq : ∃ r'', r' = 34 :: r''
      · obtain ⟨r'', rfl⟩ := hq
        rw [loopL_cons, if_pos (by decide)] at h
        rcases h with h | ⟨h, -⟩
        · cases h
          exact .empty hs
        · cases h
      · have h1 : loopL (· == 34) r' [] n' = NOs (n' - 1) (loopL (· == 34) r' [] 1) := by
          rw [← loopL_add]; congr 1; omega
        rw [h1] at h
        have h2 := NOis_add h
        have e : n = n' + ((n - (n' - 1)) - 1) := by omega
        rw [e]
        refine .quoted hs (fun d r'' e h => hq ⟨r'', by rw [e, h]⟩) ?_
        cases r' with
        | nil =>
          rcases h2 with h2 | ⟨h2, rfl⟩
          · cases h2
          · simp only [loopL] at h2
            injection h2 with e1 e2
            rw [← e1, ← e2]
            exact word_none _ 1
        | cons d r'' =>
          have hd : d ≠ 34 := fun e => hq ⟨r'', by rw [e]⟩
          exact word_in (wh := (· == 34)) (by simpa using hd) r'' 1 h2
    · rw [if_neg (by simp [h34])] at h
      have h0 : NOis (loopL wh (c :: r') [] n') t r n := by
        rw [loopL_cons, hc, if_neg (by decide)]
        by_cases h92 : c = 92
        · rw [if_pos (by simp [h92])] at h ⊢
          cases r' with
          | nil => exact h
          | cons d r'' => exact h
        · rw [if_neg (by simp [h92])] at h ⊢
          exact h
      have h1 : loopL wh (c :: r') [] n' = NOs (n' - 1) (loopL wh (c :: r') [] 1) := by
        rw [← loopL_add]; congr 1; omega
      rw [h1] at h0
      have h2 := NOis_add h0
      have e : n = n' + ((n - (n' - 1)) - 1) := by omega
      rw [e]
      exact .plain hs h34 (word_in hc r' 1 h2)
end Mine
end

section
open PySem PySem.W PyProof.Rows PySem.Calls
set_option Elab.async false
set_option maxRecDepth 100000
set_option maxHeartbeats 8000000
namespace Mine
noncomputable abbrev tupO (vs : List Value) : Obj := { cls := .type "tuple", data := .seq vs.toArray }
theorem add_ofL {prog : Program} {w : World} {A : Around} {E : Value → Shared → Prop} {s : Shared} {Q : Value → Shared → Prop} {t u : Tok} {c : Nat} {x : List Nat} (hx : x.length ≤ 1000) (h : ∀ t' tk, Q (.str (ofL (x ++ [c])) t') { s with toks := tk }) : wpAny (model prog w) A (binaryOp .Add (.str (ofL x) t) (.str (sg c) u)) Q E s := by
  refine PyProof.Rows.add_str (fun t' tk => ?_) (by rw [len_ofL, sizeLine_eq]; show x.length + 1 ≤ _; omega)
  rw [show sg c = ofL [c] from rfl, app_ofL]
  exact h t' tk
theorem CallKw_ {M : Model} {A : Around} {E : Value → Shared → Prop} {s : Shared} {env : Env} {func : Expr} {args : List Expr} {kws : List Keyword} {pos : Pos} {Q : Value → Shared → Prop}
    (h : wpAny M A (eval func env) (fun f s₁ => wpAny M A (callWith pos f [] (backTo pos (starEach args env)) (backToKw pos (keywordEach kws env))) Q E s₁) E s)
    (he : eval (.Call func args kws pos) env = (do callWith pos (← eval func env) [] (backTo pos (starEach args env)) (backToKw pos (keywordEach kws env))) := by rfl) : wpAny M A (eval (.Call func args kws pos) env) Q E s := by
  rw [he]; exact wpAny_bind h
section
variable {w : World} {s : Shared} {A : Around} {h₀ : Heap} {L : Addr} {m : Str → Option Value} {Q : Unit → Shared → Prop} {E : Value → Shared → Prop} {prog : Program}
/-- a field of an object at hand is stored -/
theorem fset_K {K : Frag} {Γ : Cx} {fld : List (Str × V)} {es : List DictEntry} {f : Str} {v : V} {u : Value} {x dx C n : Nat} {led : List (Addr × Obj)} (F : Fr h₀ L s.heap m) (X : K.In h₀) (FR : FldRep Γ fld es) (e : (lookS f fld).isSome = true) (r : Rep Γ v u)
    (hset : findIn K (.ref C) "__setattr__" = some (some (.builtin "object.__setattr__"))) (hov : plainOver K C = true) (htk : takerIn K C f = some none) (hdi : hasDictIn K C = true)
    (N : News h₀ L s.heap ((x, instObj C dx) :: (dx, dictOf es n) :: led)) (hx : x ≠ dx) (hled : ∀ p ∈ led, p.1 ≠ dx) (hl : fld.length ≤ 100)
    (h : ∀ es' h', FldRep Γ (setS f v fld) es' → Fr h₀ L h' m → News h₀ L h' ((x, instObj C dx) :: (dx, dictOf es' n) :: led) → Q () { s with heap := h', toks := s.toks + 2 }) :
    wpAny (model prog w) A (setAttr (.ref x) f u) Q E s := by
  obtain ⟨v0, e0⟩ := Option.isSome_iff_exists.mp e
  obtain ⟨u0, eu, ru⟩ := getL_of FR e0
  obtain ⟨a, b⟩ := putL_of (f := f) (hsh := PyData.keyHash w.params f) (key := .str f (s.toks + 1)) r FR e
  have hlen := a.length
  exact set_dict (es := es) (n := n) (dx := dx) F X N (InstAt.of_news N (.head _) (.tail _ (.head _))) rfl hset hov htk hdi (by rw [eu]; rfl) (by rw [b]) (upd_one hx hled) (by rw [hlen, setS_length]; omega)
    (fun h' F' N' => h _ h' a F' N')
end
end Mine
end

section
open PySem PySem.W PyProof.Rows PySem.Calls
set_option Elab.async false
set_option maxRecDepth 100000
set_option maxHeartbeats 8000000
namespace Mine
noncomputable abbrev nxLed (x dx pb : Addr) (i : IO) (es : List DictEntry) (p t6 : Nat) : List (Addr × Obj) := ((x, instObj 77 dx) :: (dx, dictOf es 4) :: i.led p t6) ++ [(pb, listE)]
noncomputable abbrev lxLed (x dx pb fs : Addr) (i : IO) (es : List DictEntry) (p t6 : Nat) : List (Addr × Obj) := ((x, instObj 764 dx) :: (dx, dictOf es 19) :: i.led p t6) ++ [(pb, dequeObj), (fs, dequeObj)]
noncomputable def NxF (W : Str) (i : IO) (pb : Addr) (ln : Int) (es : List DictEntry) : Prop := ∃ Γ : Cx, Γ.W = W ∧ Γ.refs = rf3 i.io pb pb ∧ Γ.ln0 = ln ∧ ∃ wc wb, FldRep Γ (nlf (.row 0) wc wb) es
noncomputable def LxG (Qs Cs : List Nat) (ws : Bool) (W : Str) (i : IO) (pb fs : Addr) (st : Option Nat) (ln : Int) (es : List DictEntry) : Prop := ∃ Γ : Cx, Γ.W = W ∧ Γ.refs = rf3 i.io pb fs ∧ Γ.ln0 = ln ∧ FldRep Γ (lf (stV st) (.str []) (.row 0) 0 false Qs Cs ws) es
noncomputable abbrev LxF (W : Str) (i : IO) (pb fs : Addr) (st : Option Nat) (ln : Int) (es : List DictEntry) : Prop := LxG [] [] true W i pb fs st ln es
structure NxS (x dx pb : Addr) (i : IO) : Prop where
  ok : NxOk x dx i (rf3 i.io pb pb)
  pb : pb ≠ x ∧ pb ≠ dx ∧ pb ≠ i.io ∧ pb ≠ i.dio
theorem nxF_of {W : Str} {i : IO} {pb : Addr} {ln : Int} {es : List DictEntry} {Γ : Cx} {wc : Nat} {wb : Bool} (e1 : Γ.W = W) (e2 : Γ.refs 0 = rf3 i.io pb pb 0) (e2' : Γ.refs 1 = rf3 i.io pb pb 1) (e3 : Γ.ln0 = ln) (FR : FldRep Γ (nlf (.row 0) wc wb) es) : NxF W i pb ln es :=
by
  refine ⟨{ Γ with refs := rf3 i.io pb pb }, e1, rfl, e3, wc, wb, FldRep.conv (nlf_conv ?_ (fun u hu => ?_) fun u hu => ?_) FR⟩
  · exact ⟨e2.symm, e2'.symm⟩
  · exact hu
  · exact hu
theorem pushZ {w : World} {A₀ A : Around} {s : Shared} {base h₀ : Heap} {outer : List Env} {L : Addr} {m mg mb : Str → Option Value} {mean : ExcName → Option Value} {env : Env} {sub : List (Addr × Obj)}
    (B : Below A₀ base outer h₀) (F : Fr h₀ L s.heap m) (N : News h₀ L s.heap sub) (hA : A.frames = some (env :: outer)) (hf : env.frame = some L) (hke : env.scope.kind = .function)
    (X : (hd.heap_39 w.params).In h₀) (T : Top hd.view_39 lo mean mg mb h₀) : ∃ g, Gd w A base (env :: outer) mean mg mb g ∧ Sub g s.heap sub ∧ Ke g s.heap ∧
      (∀ rest, News h₀ L s.heap rest → (∀ p ∈ rest, p.1 ∉ sub.map (·.1)) → ∀ h' sub', Ke g h' → Sub g h' sub' → Fr h₀ L h' m ∧ News h₀ L h' (sub' ++ rest) ∧ ∀ p ∈ sub', ∀ r ∈ rest, r.1 ≠ p.1) := by
  obtain ⟨G', S', k', back⟩ := pushY B F N hA hf hke X T
  refine ⟨_, G', S', k', fun rest NR hr h' sub' k2 S2 => ?_⟩
  obtain ⟨F2, N2⟩ := back rest NR hr h' sub' k2 S2
  refine ⟨F2, N2, fun p hp r hr' e => ?_⟩
  have h1 := (S2 p hp).2
  rw [← e, hideAll_get _ (NR r hr').1 (hr r hr')] at h1
  cases h1
theorem lex_K (w : World) : (makesIn (hd.heap_39 w.params) 764 = true ∧ findIn (hd.heap_39 w.params) (.ref 764) "__init__" = some (some (.ref 688)) ∧ typeIn (hd.heap_39 w.params) (.ref 688) = some (.type "function")) ∧ makesIn (hd.heap_39 w.params) 77 = true ∧ findIn (hd.heap_39 w.params) (.ref 77) "__init__" = some (some (.ref 53)) ∧ typeIn (hd.heap_39 w.params) (.ref 53) = some (.type "function") := by
  have e : PySem.Challenge.rw_om0137_02 = PySem.Challenge.rw_om0137_02 := rfl
  revert e
  k_fill
  intro _
  refine ⟨⟨?_, ?_, ?_⟩, ?_, ?_, ?_⟩ <;> k_is
section
variable {w : World} {s : Shared} {A A₀ : Around} {base h₀ : Heap} {outer : List Env} {mg mb : Str → Option Value} {mean : ExcName → Option Value} {env : Env} {L : Addr} {m : Str → Option Value} {news : List (Addr × Obj)} {text : Str} {t : Nat} {E : Value → Shared → Prop} {Q : Value → Shared → Prop}
theorem notin_two {news : List (Addr × Obj)} {x dx : Addr} (l1 : ∀ p ∈ news, p.1 < dx) (l2 : dx < x) {C : Addr} : ∀ p ∈ news, p.1 ∉ List.map (fun q : Addr × Obj => q.1) [(x, instObj C dx), (dx, emptyDict)] := fun r hr hm => by
  simp only [List.map_cons, List.map_nil, List.mem_cons, List.not_mem_nil, or_false] at hm
  have := l1 r hr
  rcases hm with z | z
  · rw [z] at this; exact absurd (Nat.lt_trans this l2) (Nat.lt_irrefl _)
  · rw [z] at this; exact absurd this (Nat.lt_irrefl _)
/-- shlex(text) -/
theorem mkNp_K (B : Below A₀ base outer h₀) (F : Fr h₀ L s.heap m) (X : (hd.heap_39 w.params).In h₀) (N : News h₀ L s.heap news) (T : Top hd.view_39 lo mean mg mb h₀) (hA : A.frames = some (env :: outer)) (hf : env.frame = some L) (hke : env.scope.kind = .function) (hroom : A.depth + 16 < recursionLimit) (hh : A.handled = none) (hb : text.length ≤ 1000)
    (h : ∀ x dx (i : IO) hs kt t6 es h' tk, i.buf = text → i.io ≠ i.dio → Fr h₀ L h' m → News h₀ L h' (((x, instObj 764 dx) :: (dx, dictOf (⟨hs, .str (Str.ofString "instream") kt, .ref i.io⟩ :: es) 19) :: i.led 0 t6) ++ news) → (∀ p ∈ i.led 0 t6, ∀ r ∈ news, r.1 ≠ p.1) → Q (.ref x) { s with heap := h', toks := tk }) :
    wpAny (model PySem.Challenge.rw_om0137_02.row.prog w) A (call (.ref 764) [.str text t]) Q E s := by
  obtain ⟨⟨m1, m2, m3⟩, -⟩ := lex_K w
  refine wpAny_call (make_K F N (X.keeps F.keep) m1 m2 m3 fun x dx h' F' N' l1 l2 => ?_)
  have NS : News h₀ L h' [(x, instObj 764 dx), (dx, emptyDict)] := fun q hq => N' q (by
    simp only [List.mem_cons, List.not_mem_nil, or_false] at hq ⊢
    rcases hq with z | z <;> simp [z])
  have NR : News h₀ L h' news := fun q hq => N' q (.tail _ (.tail _ hq))
  obtain ⟨g', G', S', k', back⟩ := pushZ (A := A.under (.builtin "type.__call__" ⟨.ref 764 :: [.str text t], []⟩)) (env := env) (s := { s with heap := h' }) B F' NS hA hf hke X T
  refine init_np w G' (by simp only [depth_under_make]; omega) hh k' S' (Nat.ne_of_gt l2) hb ?_
  intro i hs kt t6 es h2 tk eb d k2 S2
  obtain ⟨F2, N2, ap⟩ := back news NR (notin_two l1 l2) h2 _ k2 S2
  exact ⟨rfl, h x dx i hs kt t6 es h2 tk eb d.1 F2 N2 fun p hp => ap p (.tail _ (.tail _ hp))⟩
/-- _netrclex(stream) -/
theorem mkNx_K {i : IO} {t6 : Nat} (B : Below A₀ base outer h₀) (F : Fr h₀ L s.heap m) (X : (hd.heap_39 w.params).In h₀) (N : News h₀ L s.heap (i.led 0 t6 ++ news)) (T : Top hd.view_39 lo mean mg mb h₀) (hA : A.frames = some (env :: outer)) (hf : env.frame = some L) (hke : env.scope.kind = .function) (hroom : A.depth + 16 < recursionLimit) (hh : A.handled = none) (hne : i.io ≠ i.dio) (hap : ∀ p ∈ i.led 0 t6, ∀ r ∈ news, r.1 ≠ p.1)
    (h : ∀ x dx pb es t6 h' tk, (x ≠ dx ∧ i.io ≠ i.dio ∧ i.io ≠ x ∧ i.io ≠ dx ∧ i.dio ≠ x ∧ i.dio ≠ dx) → (pb ≠ x ∧ pb ≠ dx ∧ pb ≠ i.io ∧ pb ≠ i.dio) → Fr h₀ L h' m → NxF wnS i pb 1 es → News h₀ L h' ((((x, instObj 77 dx) :: (dx, dictOf es 4) :: i.led 0 t6) ++ [(pb, listE)]) ++ news) →
      (∀ p ∈ ((x, instObj 77 dx) :: (dx, dictOf es 4) :: i.led 0 t6) ++ [(pb, listE)], ∀ r ∈ news, r.1 ≠ p.1) → Q (.ref x) { s with heap := h', toks := tk }) :
    wpAny (model PySem.Challenge.rw_om0137_02.row.prog w) A (call (.ref 77) [.ref i.io]) Q E s := by
  obtain ⟨-, m1, m2, m3⟩ := lex_K w
  refine wpAny_call (make_K F N (X.keeps F.keep) m1 m2 m3 fun x dx h' F' N' l1 l2 => ?_)
  have NS : News h₀ L h' [(x, instObj 77 dx), (dx, emptyDict), (i.io, instObj 629 i.dio), (i.dio, ioDict i.h1 i.h2 i.h3 i.t1 i.t2 i.t3 i.t4 i.t5 t6 i.buf 0)] := fun q hq => N' q (by
    simp only [IO.led, List.cons_append, List.nil_append, List.mem_cons, List.not_mem_nil, or_false] at hq ⊢
    rcases hq with z | z | z | z <;> simp [z])
  have NR : News h₀ L h' news := fun q hq => N' q (.tail _ (.tail _ (List.mem_append_right _ hq)))
  have d1 := l1 (i.io, instObj 629 i.dio) (by simp [IO.led])
  have d2 := l1 (i.dio, ioDict i.h1 i.h2 i.h3 i.t1 i.t2 i.t3 i.t4 i.t5 t6 i.buf 0) (by simp [IO.led])
  have dd : i.io ≠ i.dio ∧ i.io ≠ x ∧ i.io ≠ dx ∧ i.dio ≠ x ∧ i.dio ≠ dx := ⟨hne, Nat.ne_of_lt (Nat.lt_trans d1 l2), Nat.ne_of_lt d1, Nat.ne_of_lt (Nat.lt_trans d2 l2), Nat.ne_of_lt d2⟩
  obtain ⟨g', G', S', k', back⟩ := pushZ (A := A.under (.builtin "type.__call__" ⟨.ref 77 :: [.ref i.io], []⟩)) (env := env) (s := { s with heap := h' }) B F' NS hA hf hke X T
  refine init_nx w G' (by simp only [depth_under_make]; omega) hh k' (i := i) (p := 0) (t6 := t6) S' (Nat.ne_of_gt l2) dd ?_
  rintro pb h2 tk d k2 ⟨⟨Γ, es, t6', wc, wb, e1, e2, e2', e3, FR, S⟩, S2⟩
  obtain ⟨F2, N2, ap⟩ := back news NR (fun r hr hm => by
    simp only [List.map_cons, List.map_nil, List.mem_cons, List.not_mem_nil, or_false] at hm
    have := l1 r (List.mem_append_right _ hr)
    rcases hm with z | z | z | z
    · rw [z] at this; exact absurd (Nat.lt_trans this l2) (Nat.lt_irrefl _)
    · rw [z] at this; exact absurd this (Nat.lt_irrefl _)
    · exact hap _ (.head _) r hr z
    · exact hap _ (.tail _ (.head _)) r hr z) h2 _ k2 (sub_app S S2)
  exact ⟨rfl, h x dx pb es t6' h2 tk ⟨Nat.ne_of_gt l2, dd⟩ d F2 (nxF_of e1 e2 e2' e3 FR) N2 ap⟩
/-- shlex(text, posix=True) -/
theorem mkPx_K (B : Below A₀ base outer h₀) (F : Fr h₀ L s.heap m) (X : (hd.heap_39 w.params).In h₀) (N : News h₀ L s.heap news) (T : Top hd.view_39 lo mean mg mb h₀) (hA : A.frames = some (env :: outer)) (hf : env.frame = some L) (hke : env.scope.kind = .function) (hroom : A.depth + 16 < recursionLimit) (hb : text.length ≤ 1000)
    (h : ∀ x dx pb fs (i : IO) es t6 h' tk, i.buf = text → PxDist x dx pb fs i → Fr h₀ L h' m → LxG [39, 34] [35] false wsS i pb fs (some 32) 1 es → News h₀ L h' ((((x, instObj 764 dx) :: (dx, dictOf es 19) :: i.led 0 t6) ++ [(pb, dequeObj), (fs, dequeObj)]) ++ news) →
      (∀ p ∈ ((x, instObj 764 dx) :: (dx, dictOf es 19) :: i.led 0 t6) ++ [(pb, dequeObj), (fs, dequeObj)], ∀ r ∈ news, r.1 ≠ p.1) → Q (.ref x) { s with heap := h', toks := tk }) :
    wpAny (model PySem.Challenge.rw_om0137_02.row.prog w) A (call (.ref 764) [.str text t] [("posix", .bool true)]) Q E s := by
  obtain ⟨⟨m1, m2, m3⟩, -⟩ := lex_K w
  refine wpAny_call (make_K F N (X.keeps F.keep) m1 m2 m3 fun x dx h' F' N' l1 l2 => ?_)
  have NS : News h₀ L h' [(x, instObj 764 dx), (dx, emptyDict)] := fun q hq => N' q (by
    simp only [List.mem_cons, List.not_mem_nil, or_false] at hq ⊢
    rcases hq with z | z <;> simp [z])
  have NR : News h₀ L h' news := fun q hq => N' q (.tail _ (.tail _ hq))
  obtain ⟨g', G', S', k', back⟩ := pushZ (A := A.under (.builtin "type.__call__" ⟨.ref 764 :: [.str text t], [("posix", .bool true)]⟩)) (env := env) (s := { s with heap := h' }) B F' NS hA hf hke X T
  refine init_px w G' (by simp only [depth_under_kw]; omega) k' S' (Nat.ne_of_gt l2) hb ?_
  rintro i pb fs h2 tk eb d k2 ⟨⟨Γ, es, t6, e1, e2, e3, FR, S⟩, S2⟩
  obtain ⟨F2, N2, ap⟩ := back news NR (notin_two l1 l2) h2 _ k2 (sub_app S S2)
  exact ⟨rfl, h x dx pb fs i es t6 h2 tk eb d F2 ⟨Γ, e1, e2, e3, FR⟩ N2 ap⟩
end
end Mine
end

section
open PySem PySem.W PyProof.Rows PySem.Calls
set_option Elab.async false
set_option maxRecDepth 100000
set_option maxHeartbeats 8000000
namespace Mine
theorem sub_perm {g h : Heap} {a b : List (Addr × Obj)} (S : Sub g h a) (e : ∀ p ∈ b, p ∈ a) : Sub g h b := fun p hp => S p (e p hp)
theorem gt_K (w : World) : (findIn (hd.heap_39 w.params) (.ref 77) "get_token" = some (some (.ref 67)) ∧ isFn (hd.heap_39 w.params) (.ref 67) = true ∧ keepIn (hd.heap_39 w.params) (.ref 67) = true) ∧ findIn (hd.heap_39 w.params) (.ref 764) "get_token" = some (some (.ref 725)) ∧ isFn (hd.heap_39 w.params) (.ref 725) = true ∧ keepIn (hd.heap_39 w.params) (.ref 725) = true := by
  have e : PySem.Challenge.rw_om0137_02 = PySem.Challenge.rw_om0137_02 := rfl
  revert e
  k_fill
  intro _
  refine ⟨⟨?_, ?_, ?_⟩, ?_, ?_, ?_⟩ <;> k_is
theorem gt_nlf {ln : V} {wc : Nat} {wb : Bool} : lookS "get_token" (nlf ln wc wb) = none := by kernel_rfl
theorem gt_lf {st tok ln : V} {wc : Nat} {wb : Bool} {Qs Cs : List Nat} {ws : Bool} : lookS "get_token" (lf st tok ln wc wb Qs Cs ws) = none := by kernel_rfl
theorem ln_nlf {wc : Nat} {wb : Bool} : lookS "lineno" (nlf (.row 0) wc wb) = some (.row 0) := by kernel_rfl
theorem ln_lf {st tok : V} {wc : Nat} {wb : Bool} {Qs Cs : List Nat} {ws : Bool} : lookS "lineno" (lf st tok (.row 0) wc wb Qs Cs ws) = some (.row 0) := by kernel_rfl
section
variable {W : Str} {w : World} {s : Shared} {A A₀ : Around} {base h₀ : Heap} {outer : List Env} {mg mb : Str → Option Value} {mean : ExcName → Option Value} {env : Env} {L : Addr} {m : Str → Option Value} {news : List (Addr × Obj)} {E : Value → Shared → Prop} {Q : Value → Shared → Prop}
  {x dx pb fs : Addr} {i : IO} {es : List DictEntry} {p t6 : Nat} {ln : Int} {st : Option Nat}
/-- ours.get_token() -/
theorem nget_K (B : Below A₀ base outer h₀) (F : Fr h₀ L s.heap m) (X : (hd.heap_39 w.params).In h₀) (T : Top hd.view_39 lo mean mg mb h₀) (hA : A.frames = some (env :: outer)) (hf : env.frame = some L) (hke : env.scope.kind = .function) (hroom : A.depth + 16 < recursionLimit) (hh : A.handled = none)
    (K : NxS x dx pb i) (hp : p ≤ i.buf.length) (FR : NxF W i pb ln es) (N : News h₀ L s.heap (nxLed x dx pb i es p t6 ++ news)) (hap : ∀ r ∈ news, r.1 ∉ [x, dx, i.io, i.dio, pb])
    (h : ∀ p' tok' ln' es' t6' h' tk t, p' ≤ i.buf.length → tok'.length ≤ 1000 → ns (fun c => has W (sg c)) ((sL i.buf).drop p) ln = (tok', (sL i.buf).drop p', ln') → NxF W i pb ln' es' → Fr h₀ L h' m → News h₀ L h' (nxLed x dx pb i es' p' t6' ++ news) → Q (.str (ofL tok') t) { s with heap := h', toks := tk }) :
    wpAny (model PySem.Challenge.rw_om0137_02.row.prog w) A (call (.ref 67) [.ref x]) Q E s := by
  obtain ⟨Γ, e1, e2, e3, wc, wb, FR⟩ := FR
  have NS : News h₀ L s.heap (nxLed x dx pb i es p t6) := fun q hq => N q (List.mem_append_left _ hq)
  have NR : News h₀ L s.heap news := fun q hq => N q (List.mem_append_right _ hq)
  obtain ⟨g', G', S', k', back⟩ := pushZ (A := A) (env := env) B F NS hA hf hke X T
  refine wpAny_call (nget_ok G' (by omega) hh k' K.ok (pb := pb) rfl K.pb hp ⟨⟨Γ, es, t6, wc, wb, e1, by rw [e2], by rw [e2], e3, FR, sub_perm S' fun q hq => List.mem_append_left _ hq⟩, sub_perm S' fun q hq => List.mem_append_right _ hq⟩ ?_)
  rintro p' tok' ln' h' tk u a1 a2 a3 k2 ⟨⟨Γ', es', t6', wc', wb', f1, f2, f2', f3, FR', S⟩, S2⟩ ⟨t, rfl⟩
  obtain ⟨F2, N2, -⟩ := back news NR hap h' _ k2 (sub_app S S2)
  refine h p' tok' ln' es' t6' h' tk t a1 a2 (ns_of a3) (nxF_of f1 f2 f2' f3 FR') F2 N2
/-- theirs.get_token() -/
theorem lget_K (B : Below A₀ base outer h₀) (F : Fr h₀ L s.heap m) (X : (hd.heap_39 w.params).In h₀) (T : Top hd.view_39 lo mean mg mb h₀) (hA : A.frames = some (env :: outer)) (hf : env.frame = some L) (hke : env.scope.kind = .function) (hroom : A.depth + 16 < recursionLimit)
    (K : LexOk2 x dx pb fs i W (rf3 i.io pb fs)) (hs : st ∈ sts1) (hp : p ≤ i.buf.length) (FR : LxF W i pb fs st ln es) (N : News h₀ L s.heap (lxLed x dx pb fs i es p t6 ++ news)) (hap : ∀ r ∈ news, r.1 ∉ [x, dx, i.io, i.dio, pb, fs])
    (h : ∀ p' tok' ln' st' q' es' t6' h' tk u, p' ≤ i.buf.length → st' ∈ sts1 → run [] (whW W) ((sL i.buf).drop p) st 32 false [] ln = .brk ((sL i.buf).drop p') st' ln' tok' q' → LxF W i pb fs st' ln' es' → Fr h₀ L h' m → News h₀ L h' (lxLed x dx pb fs i es' p' t6' ++ news) → (if !q' && tok'.isEmpty then u = .none else ∃ t, u = .str (ofL tok') t) → Q u { s with heap := h', toks := tk })
    (hbad : ∀ g, run [] (whW W) ((sL i.buf).drop p) st 32 false [] ln = .bad → Fr h₀ L g m → A.handled = none ∧ ∀ e h' tk t vs, RaisedS base g (env :: outer) e (.type "ValueError") t vs [] h' → g.UpToSlots h' → E (.ref e) { s with heap := h', toks := tk }) :
    wpAny (model PySem.Challenge.rw_om0137_02.row.prog w) A (call (.ref 725) [.ref x]) Q E s := by
  obtain ⟨Γ, e1, e2, e3, FR⟩ := FR
  have NS : News h₀ L s.heap (lxLed x dx pb fs i es p t6) := fun q hq => N q (List.mem_append_left _ hq)
  have NR : News h₀ L s.heap news := fun q hq => N q (List.mem_append_right _ hq)
  obtain ⟨FG, -, -, -⟩ := groundX (R := fun _ _ => True) (A := A) (env := env) (s := s) B F NS hA hf hke
  obtain ⟨G', S', k', back⟩ := pushY (A := A) (env := env) B F NS hA hf hke X T
  refine wpAny_call (get_token_ok G' (by omega) k' K hs hp ⟨⟨Γ, es, t6, e1, e2, e3, FR, sub_perm S' fun q hq => List.mem_append_left _ hq⟩, sub_perm S' fun q hq => List.mem_append_right _ hq⟩ ?_ ?_)
  · rintro p' tok' ln' st' q' h' tk u a1 a2 a3 k2 ⟨⟨Γ', es', t6', f1, f2, f3, FR', S⟩, S2⟩ hu
    obtain ⟨F2, N2⟩ := back news NR hap h' _ k2 (sub_app S S2)
    exact h p' tok' ln' st' q' es' t6' h' tk u a1 a2 a3 ⟨Γ', f1, f2, f3, FR'⟩ F2 N2 hu
  · intro hb
    exact hbad _ hb FG
/-- ours.lineno -/
theorem nline_K (F : Fr h₀ L s.heap m) (X : (hd.heap_39 w.params).In h₀) (FR : NxF W i pb ln es) (N : News h₀ L s.heap (nxLed x dx pb i es p t6 ++ news)) (h : ∀ t, Q (.int ln t) { s with toks := s.toks + 1 }) : wpAny (model PySem.Challenge.rw_om0137_02.row.prog w) A (getAttr (.ref x) "lineno" true) Q E s := by
  obtain ⟨Γ, e1, e2, e3, wc, wb, FR⟩ := FR
  obtain ⟨u, eu, t, rfl⟩ := getL_of FR ln_nlf
  refine get_own F X (InstAt.of_news N (.head _) (.tail _ (.head _))) (cls_nx w).1 (cls_nx w).2.1 (find_nx w "lineno" (by decide)).1 rfl eu rfl ?_
  have e : Γ.ln0 + ((0 : Nat) : Int) = ln := by rw [e3]; simp
  rw [e]; exact h t
/-- theirs.lineno -/
theorem lline_K (F : Fr h₀ L s.heap m) (X : (hd.heap_39 w.params).In h₀) (FR : LxF W i pb fs st ln es) (N : News h₀ L s.heap (lxLed x dx pb fs i es p t6 ++ news)) (h : ∀ t, Q (.int ln t) { s with toks := s.toks + 1 }) : wpAny (model PySem.Challenge.rw_om0137_02.row.prog w) A (getAttr (.ref x) "lineno" true) Q E s := by
  obtain ⟨Γ, e1, e2, e3, FR⟩ := FR
  obtain ⟨u, eu, t, rfl⟩ := getL_of FR ln_lf
  refine get_own F X (InstAt.of_news N (.head _) (.tail _ (.head _))) (cls_lex w).1 (cls_lex w).2.1 (find_lex w "lineno" (by decide)).1 rfl eu rfl ?_
  have e : Γ.ln0 + ((0 : Nat) : Int) = ln := by rw [e3]; simp
  rw [e]; exact h t
/-- ours.get_token, called -/
theorem nmeth_K {pl : Sem Bool} {Q : Value × List Value → Shared → Prop} (F : Fr h₀ L s.heap m) (X : (hd.heap_39 w.params).In h₀) (FR : NxF W i pb ln es) (N : News h₀ L s.heap (nxLed x dx pb i es p t6 ++ news)) (h : Q (.ref 67, [.ref x]) s) : wpAny (model PySem.Challenge.rw_om0137_02.row.prog w) A (getMethod (.ref x) "get_token" pl) Q E s := by
  obtain ⟨Γ, e1, e2, e3, wc, wb, FR⟩ := FR
  exact method_inst F X (InstAt.of_news N (.head _) (.tail _ (.head _))) (cls_nx w).1 (gt_K w).1.1 (gt_K w).1.2.1 (getL_none FR gt_nlf) h
theorem lmeth_K {pl : Sem Bool} {Q : Value × List Value → Shared → Prop} (F : Fr h₀ L s.heap m) (X : (hd.heap_39 w.params).In h₀) (FR : LxF W i pb fs st ln es) (N : News h₀ L s.heap (lxLed x dx pb fs i es p t6 ++ news)) (h : Q (.ref 725, [.ref x]) s) : wpAny (model PySem.Challenge.rw_om0137_02.row.prog w) A (getMethod (.ref x) "get_token" pl) Q E s := by
  obtain ⟨Γ, e1, e2, e3, FR⟩ := FR
  exact method_inst F X (InstAt.of_news N (.head _) (.tail _ (.head _))) (cls_lex w).1 (gt_K w).2.1 (gt_K w).2.2.1 (getL_none FR gt_lf) h
end
end Mine
end

section
set_option Elab.async false
namespace Mine
theorem stepC_add (qs : List Nat) (wh : Bool) (st : Option Nat) (es : Nat) (q ne : Bool) (c : Option Nat) : (stepC qs wh st es q ne c).add.length ≤ 2 := by
  unfold stepC
  repeat' split
  all_goals simp
theorem newTok_len (qs : List Nat) (wh : Bool) (st : Option Nat) (es : Nat) (q ne : Bool) (c : Option Nat) (tok : List Nat) : (newTok (stepC qs wh st es q ne c) tok).length ≤ tok.length + 2 := by
  have := stepC_add qs wh st es q ne c
  unfold newTok
  split
  · omega
  · rw [List.length_append]; omega
theorem run_tok {qs : List Nat} {wh : Nat → Bool} : ∀ (l : List Nat) {st : Option Nat} {es : Nat} {q : Bool} {tok : List Nat} {ln : Int} {r' : List Nat} {st' : Option Nat} {n' : Int} {tok' : List Nat} {q' : Bool}, run qs wh l st es q tok ln = .brk r' st' n' tok' q' → tok'.length ≤ tok.length + 2 * (l.length + 1)
  | [], st, es, q, tok, ln, r', st', n', tok', q', h => by
    simp only [run] at h
    split at h
    · injection h with _ _ _ h _
      rw [← h]
      have := newTok_len qs false st es q (!tok.isEmpty) none tok
      simpa using this
    · cases h
  | c :: l, st, es, q, tok, ln, r', st', n', tok', q', h => by
    have hn := newTok_len qs (wh c) st es q (!tok.isEmpty) (some c) tok
    simp only [run] at h
    rw [List.length_cons]
    split at h
    · injection h with _ _ _ h _
      rw [← h]
      omega
    · split at h
      · cases h
      · have := run_tok l h
        omega
end Mine
end

section
open PySem PySem.W PyProof.Rows PySem.Calls
set_option Elab.async false
set_option maxRecDepth 100000
set_option maxHeartbeats 8000000
namespace Mine
/-- a posix shlex's fields, the white signs by any value -/
noncomputable def lfw (st tok ln wv : V) (Qs Cs : List Nat) (ws : Bool) : List (Str × V) := [("instream", .obj 0), ("infile", .none), ("posix", .bool true), ("eof", .none), ("commenters", .str Cs),
  ("wordchars", .str wdL),
  ("whitespace", wv), ("whitespace_split", .bool ws), ("quotes", .str Qs), ("escape", .str [92]), ("escapedquotes", .str [34]), ("state", st), ("pushback", .obj 1), ("lineno", ln), ("debug", .int 0), ("token", tok), ("filestack", .obj 2), ("source", .none), ("_punctuation_chars", .str [])]
theorem set1 {st tok ln : V} {wc : Nat} {wb : Bool} {Qs Cs : List Nat} {ws b : Bool} : setS (Str.ofString "whitespace_split") (.bool b) (lf st tok ln wc wb Qs Cs ws) = lf st tok ln wc wb Qs Cs b := by kernel_rfl
theorem set2 {st tok ln : V} {wc : Nat} {wb : Bool} {Qs Cs Cs' : List Nat} {ws : Bool} : setS (Str.ofString "commenters") (.str Cs') (lf st tok ln wc wb Qs Cs ws) = lf st tok ln wc wb Qs Cs' ws := by kernel_rfl
theorem set3 {st tok ln : V} {wc : Nat} {wb : Bool} {Qs Cs Qs' : List Nat} {ws : Bool} : setS (Str.ofString "quotes") (.str Qs') (lf st tok ln wc wb Qs Cs ws) = lf st tok ln wc wb Qs' Cs ws := by kernel_rfl
theorem set4 {st tok ln v : V} {wc : Nat} {wb : Bool} {Qs Cs : List Nat} {ws : Bool} : setS (Str.ofString "whitespace") v (lf st tok ln wc wb Qs Cs ws) = lfw st tok ln v Qs Cs ws := by kernel_rfl
theorem some1 {st tok ln : V} {wc : Nat} {wb : Bool} {Qs Cs : List Nat} {ws : Bool} : (lookS (Str.ofString "whitespace_split") (lf st tok ln wc wb Qs Cs ws)).isSome = true := by kernel_rfl
theorem some2 {st tok ln : V} {wc : Nat} {wb : Bool} {Qs Cs : List Nat} {ws : Bool} : (lookS (Str.ofString "commenters") (lf st tok ln wc wb Qs Cs ws)).isSome = true := by kernel_rfl
theorem some3 {st tok ln : V} {wc : Nat} {wb : Bool} {Qs Cs : List Nat} {ws : Bool} : (lookS (Str.ofString "quotes") (lf st tok ln wc wb Qs Cs ws)).isSome = true := by kernel_rfl
theorem some4 {st tok ln : V} {wc : Nat} {wb : Bool} {Qs Cs : List Nat} {ws : Bool} : (lookS (Str.ofString "whitespace") (lf st tok ln wc wb Qs Cs ws)).isSome = true := by kernel_rfl
theorem lfw_conv {Γ Γ' : Cx} {k : Nat} {W : Str} {ws : Bool} {Qs Cs : List Nat} (hW : Γ'.W = W) (h4 : Γ'.refs = Γ.refs) (hl : Γ'.ln0 = Γ.ln0) (h0 : has W (sg 0) = false) :
    Conv Γ Γ' (lfw (stV (some k)) (.str []) (.row 0) (.str (sL W)) Qs Cs ws) (lf (stV (some k)) (.str []) (.row 0) 0 false Qs Cs ws) := by
  have ho : ∀ k u, Rep Γ (.obj k) u → Rep Γ' (.obj k) u := fun k u h => by simp only [Rep] at h ⊢; rw [h4]; exact h
  have hr : ∀ u, Rep Γ (.row 0) u → Rep Γ' (.row 0) u := fun u h => by simp only [Rep] at h ⊢; rw [hl]; exact h
  have hw : ∀ u, Rep Γ (.str (sL W)) u → Rep Γ' (.whites 0 false) u := fun u h => by
    obtain ⟨t, rfl⟩ := h
    exact ⟨by rw [hW]; exact h0, t, by rw [hW, ofL_sL]⟩
  exact .cons (ho 0) (.cons (fun _ h => h) (.cons (fun _ h => h) (.cons (fun _ h => h) (.cons (fun _ h => h) (.cons (fun _ h => h) (.cons hw (.cons (fun _ h => h) (.cons (fun _ h => h) (.cons (fun _ h => h) (.cons (fun _ h => h) (.cons (fun _ h => h) (.cons (ho 1) (.cons hr (.cons (fun _ h => h) (.cons (fun _ h => h) (.cons (ho 2) (.cons (fun _ h => h) (.cons (fun _ h => h) .nil))))))))))))))))))
theorem rl_K (w : World) : nsIn (hd.heap_39 w.params) mainGlobals "shlex" = some (some (.ref 764)) ∧ keepIn (hd.heap_39 w.params) (.ref 764) = true := by
  have e : PySem.Challenge.rw_om0137_02 = PySem.Challenge.rw_om0137_02 := rfl
  revert e
  k_fill
  intro _
  refine ⟨?_, ?_⟩ <;> k_is
section
variable {W : Str} {w : World} {s : Shared} {A A₀ : Around} {base h₀ : Heap} {outer : List Env} {mg mb : Str → Option Value} {mean : ExcName → Option Value} {env : Env} {L : Addr} {m : Str → Option Value} {E : Value → Shared → Prop} {Q : Value → Shared → Prop}
  {x dx pb fs : Addr} {i : IO} {es : List DictEntry} {p t6 : Nat} {ln : Int} {st : Option Nat}
/-- lexer.instream.read(1) -/
theorem rd1_K (B : Below A₀ base outer h₀) (F : Fr h₀ L s.heap m) (X : (hd.heap_39 w.params).In h₀) (T : Top hd.view_39 lo mean mg mb h₀) (hA : A.frames = some (env :: outer)) (hf : env.frame = some L) (hke : env.scope.kind = .function) (hloc : env.locals = L) (hroom : A.depth + 8 < recursionLimit)
    (hm : m (Str.ofString "lexer") = some (.ref x)) (hkl : env.kindOf (Str.ofString "lexer") = some .local)
    (K : LexOk2 x dx pb fs i W (rf3 i.io pb fs)) (hp : p ≤ i.buf.length) (FR : LxF W i pb fs st ln es) (N : News h₀ L s.heap (lxLed x dx pb fs i es p t6)) {p2 p3 p4 p5 p6 : Pos} {k : Nat} {pl : Sem Bool}
    (he : eval (.Call (.Attribute (.Attribute (.Name (Str.ofString "lexer") p2) (Str.ofString "instream") p3) (Str.ofString "read") p4) [.Constant (.int 1) k p5] [] p6) env = (do
      let ov ← eval (.Attribute (.Name (Str.ofString "lexer") p2) (Str.ofString "instream") p3) env
      standAt p4.atName
      let (fz, first) ← holding [ov] (getMethod ov (Str.ofString "read") pl)
      callWith p6 fz first (backTo p6 (starEach [.Constant (.int 1) k p5] env)) []))
    (hN : (sL i.buf).drop p = [] → ∀ h' tk t' t6', Fr h₀ L h' m → News h₀ L h' (lxLed x dx pb fs i es p t6') → Q (.str (ofL []) t') { s with heap := h', toks := tk })
    (hC : ∀ c r, (sL i.buf).drop p = c :: r → ∀ h' tk t' t6', Fr h₀ L h' m → News h₀ L h' (lxLed x dx pb fs i es (p + 1) t6') → Q (.str (ofL [c]) t') { s with heap := h', toks := tk }) :
    wpAny (model PySem.Challenge.rw_om0137_02.row.prog w) A (eval (.Call (.Attribute (.Attribute (.Name (Str.ofString "lexer") p2) (Str.ofString "instream") p3) (Str.ofString "read") p4) [.Constant (.int 1) k p5] [] p6) env) Q E s := by
  obtain ⟨Γ, e1, e2, e3, FR⟩ := FR
  obtain ⟨u, eu, ru⟩ := getL_of FR ins_lf
  obtain ⟨rfl, -⟩ := ru
  have e0 : Γ.refs 0 = .ref i.io := by rw [e2]; rfl
  rw [e0] at eu
  obtain ⟨r1, r2, r3, r4⟩ := read_lex w
  refine MethodCall_ (pl := pl) (Attribute_Name_ (wpAny_Name (wpAny_loadName_local hke hkl (by rw [hloc]; exact F.ns) hm (get_own F X (InstAt.of_news N (.head _) (.tail _ (.head _))) (cls_lex w).1 (cls_lex w).2.1 (find_lex w "instream" (by decide)).1 rfl eu rfl ?_)))) he
  refine method_inst F X (InstAt.of_news N (.tail _ (.tail _ (.head _))) (.tail _ (.tail _ (.tail _ (.head _))))) r1 r2 r3 rfl ?_
  refine callWith_K X r4 (spliced_more (wpAny_Constant_int (spliced_none ⟨X.keeps F.keep, ?_⟩)))
  have ne := K.ne
  have hlen := K.len
  refine read_K (A₀ := A₀) (p := p) (h1 := i.h1) (h2 := i.h2) (h3 := i.h3) (t1 := i.t1) (t2 := i.t2) (t3 := i.t3) (t4 := i.t4) (t5 := i.t5) (t6 := t6) (buf := i.buf) (rest := [(x, instObj 764 dx), (dx, dictOf es 19), (pb, dequeObj), (fs, dequeObj)]) (io := i.io) (dio := i.dio) B F X T (fun q hq => N q ?_) hA hf hke (by omega) ne.1 ?_ ?_ (by omega) K.len ?_ ?_
  · simp only [IO.led, List.cons_append, List.nil_append, List.mem_cons, List.not_mem_nil, or_false] at hq ⊢
    rcases hq with h | h | h | h | h | h <;> simp [h]
  · intro q hq
    simp only [List.mem_cons, List.not_mem_nil, or_false] at hq
    rcases hq with h | h | h | h <;> rw [h]
    · exact Ne.symm ne.2.1
    · exact Ne.symm ne.2.2.1
    · exact K.npb.2.2.1
    · exact K.nfs.2.2.1
  · intro q hq
    simp only [List.mem_cons, List.not_mem_nil, or_false] at hq
    rcases hq with h | h | h | h <;> rw [h]
    · exact Ne.symm ne.2.2.2.1
    · exact Ne.symm ne.2.2.2.2
    · exact K.npb.2.2.2
    · exact K.nfs.2.2.2
  · intro hD h' tk' t' F' N'
    refine hN hD h' _ t' t6 F' fun q hq => N' q ?_
    simp only [IO.led, List.cons_append, List.nil_append, List.mem_cons, List.not_mem_nil, or_false] at hq ⊢
    rcases hq with h | h | h | h | h | h <;> simp [h]
  · intro c r hD h' tk' t' t6' F' N'
    refine hC c r hD h' _ t' t6' F' fun q hq => N' q ?_
    simp only [IO.led, List.cons_append, List.nil_append, List.mem_cons, List.not_mem_nil, or_false] at hq ⊢
    rcases hq with h | h | h | h | h | h <;> simp [h]
theorem rd1_K2 (B : Below A₀ base outer h₀) (F : Fr h₀ L s.heap m) (X : (hd.heap_39 w.params).In h₀) (T : Top hd.view_39 lo mean mg mb h₀) (hA : A.frames = some (env :: outer)) (hf : env.frame = some L) (hke : env.scope.kind = .function) (hloc : env.locals = L) (hroom : A.depth + 8 < recursionLimit)
    (hm : m (Str.ofString "lexer") = some (.ref x)) (hkl : env.kindOf (Str.ofString "lexer") = some .local)
    (K : LexOk2 x dx pb fs i W (rf3 i.io pb fs)) (hp : p ≤ i.buf.length) (FR : LxF W i pb fs st ln es) (N : News h₀ L s.heap (lxLed x dx pb fs i es p t6)) {p2 p3 p4 p5 p6 : Pos} {k : Nat} {pl : Sem Bool}
    (he : eval (.Call (.Attribute (.Attribute (.Name (Str.ofString "lexer") p2) (Str.ofString "instream") p3) (Str.ofString "read") p4) [.Constant (.int 1) k p5] [] p6) env = (do
      let ov ← eval (.Attribute (.Name (Str.ofString "lexer") p2) (Str.ofString "instream") p3) env
      standAt p4.atName
      let (fz, first) ← holding [ov] (getMethod ov (Str.ofString "read") pl)
      callWith p6 fz first (backTo p6 (starEach [.Constant (.int 1) k p5] env)) []))
    (h : ∀ sgn p' h' tk t' t6', sgn ++ (sL i.buf).drop p' = (sL i.buf).drop p → sgn.length ≤ 1 → (sgn = [] → (sL i.buf).drop p' = []) → p' = p + sgn.length → p' ≤ i.buf.length → Fr h₀ L h' m → News h₀ L h' (lxLed x dx pb fs i es p' t6') → Q (.str (ofL sgn) t') { s with heap := h', toks := tk }) :
    wpAny (model PySem.Challenge.rw_om0137_02.row.prog w) A (eval (.Call (.Attribute (.Attribute (.Name (Str.ofString "lexer") p2) (Str.ofString "instream") p3) (Str.ofString "read") p4) [.Constant (.int 1) k p5] [] p6) env) Q E s := by
  refine rd1_K B F X T hA hf hke hloc hroom hm hkl K hp FR N he (fun hD h' tk t' t6' F' N' => ?_) (fun c r hD h' tk t' t6' F' N' => ?_)
  · exact h [] p h' tk t' t6' (by simp) (by simp) (fun _ => hD) (by simp) hp F' N'
  · have hl : p + 1 ≤ i.buf.length := by
      have := congrArg List.length hD
      rw [List.length_drop, List.length_cons, len_sL] at this
      omega
    refine h [c] (p + 1) h' tk t' t6' ?_ (by simp) (fun e => nomatch e) (by simp) hl F' N'
    rw [hD, ← List.drop_drop, hD]; rfl
end
end Mine
end

section
open PySem PySem.W PyProof.Rows PySem.Calls
set_option Elab.async false
set_option maxRecDepth 100000
set_option maxHeartbeats 8000000
namespace Mine
/-- ahead of a turn of the loop that reads what is left -/
noncomputable def RLI (s : Shared) (g : Heap) (L : Addr) (x dx pb fs : Addr) (i : IO) (es : List DictEntry) (u : Value) (r : List Nat) (p : Nat) (sgn : List Nat) (s' : Shared) : Prop :=
  ∃ h tk m t6 lft tl ts, s' = { s with heap := h, toks := tk } ∧ Fr g L h m ∧ m (Str.ofString "lexer") = some (.ref x) ∧ m (Str.ofString "word") = some u ∧ m (Str.ofString "left") = some (.str (ofL lft) tl) ∧ m (Str.ofString "sign") = some (.str (ofL sgn) ts) ∧
    News g L h (lxLed x dx pb fs i es p t6) ∧ lft ++ sgn ++ (sL i.buf).drop p = r ∧ sgn.length ≤ 1 ∧ (sgn = [] → (sL i.buf).drop p = [])
/-- word or '' -/
theorem or_word {w : World} {s : Shared} {A : Around} {h₀ : Heap} {L : Addr} {m : Str → Option Value} {env : Env} {E : Value → Shared → Prop} {Q : Value → Shared → Prop} {tok : List Nat} {q : Bool} {u : Value} {kk : Nat} {p1 p2 p3 : Pos} (F : Fr h₀ L s.heap m) (hke : env.scope.kind = .function) (hloc : env.locals = L) (hkw : env.kindOf (Str.ofString "word") = some .local) (hm : m (Str.ofString "word") = some u) (hl : tok.length ≤ 3000)
    (hu : if !q && tok.isEmpty then u = .none else ∃ t, u = .str (ofL tok) t) (h : ∀ t tk, Q (.str (ofL tok) t) { s with toks := tk }) :
    wpAny (model PySem.Challenge.rw_om0137_02.row.prog w) A (eval (.BoolOp .Or [.Name (Str.ofString "word") p1, .Constant (.str (Str.ofString "")) kk p2] p3) env) Q E s := by
  have empty : tok.length = 0 → ∀ tk, wpAny (model PySem.Challenge.rw_om0137_02.row.prog w) A (eval (.BoolOp .Or [.Constant (.str (Str.ofString "")) kk p2] p3) env) Q E { s with toks := tk } := fun hz tk => by
    refine BoolOp_one (wpAny_Constant_str ?_)
    rw [List.length_eq_zero_iff.mp hz] at h
    exact h _ _
  by_cases hq : (!q && tok.isEmpty) = true
  · rw [if_pos hq] at hu
    subst hu
    refine BoolOp_or (wpAny_Name (wpAny_loadName_local hke hkw (by rw [hloc]; exact F.ns) hm (PyProof.Rows.truthy_none ?_)))
    rw [if_neg (by decide)]
    refine empty ?_ _
    rw [Bool.and_eq_true] at hq
    rw [List.isEmpty_iff.mp hq.2]; rfl
  · rw [if_neg hq] at hu
    obtain ⟨t, rfl⟩ := hu
    refine BoolOp_or (wpAny_Name (wpAny_loadName_local hke hkw (by rw [hloc]; exact F.ns) hm (P.truthy_str (by rw [len_ofL]; omega) ?_)))
    rw [len_ofL]
    by_cases hz : tok.length = 0
    · rw [hz, if_neg (by decide)]
      exact empty hz _
    · rw [if_pos (by rw [bne_iff_ne]; omega)]
      exact h _ _
theorem readL_ok (w : World) {s : Shared} {A : Around} {base g : Heap} {fr : List Env} {mg mb : Str → Option Value} {mean : ExcName → Option Value} {text : List Nat} {W : Str} {t tw : Nat} {R : Result → Shared → Prop}
    (G : Gd w A base fr mean mg mb g) (hroom : A.depth + 24 < recursionLimit) (k : Ke g s.heap) (hlen : text.length ≤ 900) (hal : ∀ c ∈ text, c ∈ alpha1) (hz : has W (sg 0) = false)
    (hR : ∀ tok r n st q a t1 t2 t3 h' tk, run [] (whW W) text (some 32) 32 false [] 1 = .brk r st n tok q → Ke g h' → Sub g h' [(a, tupO [.str (ofL tok) t1, .str (ofL r) t2, .int (n - 1) t3])] → R (.ok (.ret (.ref a))) { s with heap := h', toks := tk })
    (hbad : run [] (whW W) text (some 32) 32 false [] 1 = .bad → A.handled = none ∧ ∀ e h' tk t vs, RaisedS base g fr e (.type "ValueError") t vs [] h' → g.UpToSlots h' → R (.error (.ref e)) { s with heap := h', toks := tk }) :
    codeAny (model PySem.Challenge.rw_om0137_02.row.prog w) A (.call (.ref 803) ⟨[.str (ofL text) t, .str W tw], []⟩) R s := by
  have S : Sub g s.heap [] := fun _ hp => nomatch hp
  obtain ⟨g1, g2⟩ := rl_K w
  have X := G.X
  have hA := G.B.stack
  revert X
  k_fill
  intro X
  refine' enterG G S k ?k6 ?k7 ?k8 ?k9 ?kB ?_ ?c2 ?c3 ?c4 ?c5
  case k6 => k_is
  case k7 => k_is
  case k8 => omega
  case k9 => first | exact BindsTo.of_eq rfl | exact binds_K (Frag.In.keeps X k.keep) rfl (by k_is) rfl rfl rfl
  case kB => exact rfl
  case c2 => decide
  case c3 => exact rfl
  case c4 => exact rfl
  case c5 => exact rfl
  intro L' h₁ F' N' hlt
  have hl0 : text.length = (ofL text).length := (len_ofL text).symm
  refine wpAny_execs_cons (wpAny_Assign_Name (CallKw_ (ld_global_at F' G.T.g (mg_of G.X G.T.g g1) (callWith_KW G.X g2 rfl (spliced_more (wpAny_Name (wpAny_loadName_local rfl rfl F'.ns rfl (spliced_none (kwAll_cons (wpAny_Constant_bool (kwAll_nil ⟨G.X.keeps F'.keep, ?_⟩))))))) rfl rfl) rfl rfl (by decide)) rfl) rfl)
  refine mkPx_K (env := _) G.B F' G.X N' G.T (Around.frames_deeper G.B.stack) rfl rfl ?_ (by rw [len_ofL]; omega) ?_
  · simp only [depth_deeper]; omega
  intro x dx pb fs i es t6 h1 tk1 hi d F1 fr1 N1 _
  rw [List.append_nil] at N1
  obtain ⟨Γ, e1, e2, e3, FR⟩ := fr1
  refine stN F1 N1 fun h2 F2o N2 => ?_
  obtain ⟨m2, F2, ml2, mt2, mw2⟩ : ∃ m, Fr g L' h2 m ∧ m (Str.ofString "lexer") = some (.ref x) ∧ m (Str.ofString "text") = some (.str (ofL text) t) ∧ m (Str.ofString "whites") = some (.str W tw) := ⟨_, F2o, if_pos rfl, by rw [if_neg (by decide)]; rfl, by rw [if_neg (by decide)]; rfl⟩
  clear F2o F1 F' N' N1
  dsimp only
  have hled : ∀ p ∈ i.led 0 t6 ++ [(pb, dequeObj), (fs, dequeObj)], p.1 ≠ dx := fun p hp => by
    simp only [IO.led, List.cons_append, List.nil_append, List.mem_cons, List.not_mem_nil, or_false] at hp
    rcases hp with z | z | z | z <;> rw [z]
    · exact d.1.2.2.1
    · exact d.1.2.2.2.2
    · exact d.2.2.1.2.1
    · exact d.2.2.2.2.1
  have hfl : ∀ f, f ∈ namesR → takerIn (hd.heap_39 w.params) 764 f = some none := fun f hf => (find_lex w f hf).2
  refine wpAny_execs_cons (plainObj_wpAny_Assign_Attribute (wpAny_Constant_bool (wpAny_Name (wpAny_loadName_local rfl rfl F2.ns ml2 (fset_K (s := { s with heap := h2, toks := _ }) (v := .bool true) F2 G.X FR some1 rfl (cls_lex w).2.2.1 (cls_lex w).2.2.2.1 (hfl _ (by decide)) (cls_lex w).2.1 N2 d.2.1 hled (by show 19 ≤ 100; omega) ?_)))) rfl)
  intro es3 h3 FR3 F3 N3
  rw [set1] at FR3
  dsimp only
  refine wpAny_execs_cons (plainObj_wpAny_Assign_Attribute (wpAny_Constant_str (wpAny_Name (wpAny_loadName_local rfl rfl F3.ns ml2 (fset_K (s := { s with heap := h3, toks := _ }) (v := .str []) F3 G.X FR3 some2 ⟨_, rfl⟩ (cls_lex w).2.2.1 (cls_lex w).2.2.2.1 (hfl _ (by decide)) (cls_lex w).2.1 N3 d.2.1 hled (by show 19 ≤ 100; omega) ?_)))) rfl)
  intro es4 h4 FR4 F4 N4
  rw [set2] at FR4
  dsimp only
  refine wpAny_execs_cons (plainObj_wpAny_Assign_Attribute (wpAny_Constant_str (wpAny_Name (wpAny_loadName_local rfl rfl F4.ns ml2 (fset_K (s := { s with heap := h4, toks := _ }) (v := .str []) F4 G.X FR4 some3 ⟨_, rfl⟩ (cls_lex w).2.2.1 (cls_lex w).2.2.2.1 (hfl _ (by decide)) (cls_lex w).2.1 N4 d.2.1 hled (by show 19 ≤ 100; omega) ?_)))) rfl)
  intro es5 h5 FR5 F5 N5
  rw [set3] at FR5
  dsimp only
  refine wpAny_execs_cons (plainObj_wpAny_Assign_Attribute (wpAny_Name (wpAny_loadName_local rfl rfl F5.ns mw2 (wpAny_Name (wpAny_loadName_local rfl rfl F5.ns ml2 (fset_K (s := { s with heap := h5, toks := _ }) (v := .str (sL W)) F5 G.X FR5 some4 ⟨_, by rw [ofL_sL]⟩ (cls_lex w).2.2.1 (cls_lex w).2.2.2.1 (hfl _ (by decide)) (cls_lex w).2.1 N5 d.2.1 hled (by show 19 ≤ 100; omega) ?_))))) rfl)
  intro es6 h6 FR6 F6 N6
  rw [set4] at FR6
  have fr6 : LxF W i pb fs (some 32) 1 es6 := ⟨{ Γ with W := W }, rfl, e2, e3, FldRep.conv (lfw_conv (Γ := Γ) (Γ' := { Γ with W := W }) (W := W) rfl rfl rfl hz) FR6⟩
  have K : LexOk2 x dx pb fs i W (rf3 i.io pb fs) := ⟨⟨d.1, d.2.1, rfl, by rw [hi, ← hl0]; omega, by rw [hi]; exact hal, fun _ _ => rfl, hz⟩, rfl, rfl, d.2.2.1, d.2.2.2⟩
  clear F2 F3 F4 F5 N2 N3 N4 N5 FR FR3 FR4 FR5 FR6
  dsimp only
  have N6' : News g L' h6 (lxLed x dx pb fs i es6 0 t6 ++ []) := by rw [List.append_nil]; exact N6
  refine wpAny_execs_cons (wpAny_Assign_Name (MethodCall_ (wpAny_Name (wpAny_loadName_local rfl rfl F6.ns ml2 (lmeth_K F6 G.X fr6 N6' (callWith_K0 (G.X.keeps F6.keep) (gt_K w).2.2.2 ?_)))) rfl) rfl)
  refine lget_K (env := _) G.B F6 G.X G.T (Around.frames_deeper G.B.stack) rfl rfl ?_ K (by decide) (Nat.zero_le _) fr6 N6' (fun _ h => nomatch h) ?_ ?_
  · simp only [depth_deeper]; omega
  rotate_left
  · intro gg hb FG
    rw [List.drop_zero, hi] at hb
    refine ⟨(hbad hb).1, fun e h7 tk7 t7 vs hr hup => ?_⟩
    exact leave_onS (s' := { s with heap := h7, toks := tk7 }) G.B FG hr hup fun h8 hr8 _ hup8 => (hbad hb).2 e h8 tk7 t7 vs hr8 hup8
  intro p tok n st q es7 t67 h7 tk7 u hp hst hrn fr7 F7 N7 hu
  rw [List.drop_zero, hi] at hrn
  have hrt : tok.length ≤ 2000 := by
    have := run_tok _ hrn
    rw [sL_ofL] at this
    simp only [List.length_nil] at this
    omega
  rw [List.append_nil] at N7
  refine stN F7 N7 fun h8 F8o N8 => ?_
  obtain ⟨m8, F8, ml8, mw8⟩ : ∃ m, Fr g L' h8 m ∧ m (Str.ofString "lexer") = some (.ref x) ∧ m (Str.ofString "word") = some u := ⟨_, F8o, by rw [if_neg (by decide)]; exact ml2, if_pos rfl⟩
  clear F8o F7 N7 F6 N6 N6'
  dsimp only
  refine wpAny_execs_cons (wpAny_Assign_Name (wpAny_Constant_str (stN F8 N8 fun h9 F9o N9 => ?_)) rfl)
  obtain ⟨m9, t9, F9, ml9, mw9, mf9⟩ : ∃ m t9, Fr g L' h9 m ∧ m (Str.ofString "lexer") = some (.ref x) ∧ m (Str.ofString "word") = some u ∧ m (Str.ofString "left") = some (.str (ofL []) t9) := ⟨_, _, F9o, by rw [if_neg (by decide)]; exact ml8, by rw [if_neg (by decide)]; exact mw8, if_pos rfl⟩
  clear F9o F8 N8
  dsimp only
  refine wpAny_execs_cons (wpAny_Assign_Name (rd1_K2 (env := _) (pl := _) (s := { s with heap := h9, toks := _ }) G.B F9 G.X G.T (Around.frames_deeper G.B.stack) rfl rfl rfl ?room ml9 rfl K hp fr7 N9 rfl ?_) rfl)
  case room => simp only [depth_deeper]; omega
  intro sgn p1 h10 tk10 ts t610 hd1 hs1 hs2 _ hp1 F10 N10
  refine stN F10 N10 fun h11 F11o N11 => ?_
  have hI : RLI s g L' x dx pb fs i es7 u ((sL i.buf).drop p) p1 sgn { s with heap := h11, toks := tk10 + 1 } := ⟨h11, tk10 + 1, _, t610, [], t9, ts, rfl, F11o, by rw [if_neg (by decide)]; exact ml9, by rw [if_neg (by decide)]; exact mw9, by rw [if_neg (by decide)]; exact mf9, if_pos rfl, N11, by simpa using hd1, hs1, hs2⟩
  clear F11o N11 F10 N10 F9 N9
  dsimp only
  have hbl : i.buf.length ≤ 1000 := K.len
  refine wpAny_execs_cons (wpAny_While (codeAny_whileLoop (fun n s' => ∃ p2 sg2, n = 2 * (2000 - p2) + sg2.length ∧ p2 ≤ i.buf.length ∧ RLI s g L' x dx pb fs i es7 u ((sL i.buf).drop p) p2 sg2 s') ?_ (2 * (2000 - p1) + sgn.length) ⟨p1, sgn, rfl, hp1, hI⟩))
  rintro n2 s2 ⟨p2, sg2, rfl, hp2, h12, tk12, m12, t612, lft, tl2, ts2, rfl, F12, ml12, mw12, mf12, ms12, N12, hd2, hsl2, hsn2⟩
  refine wpAny_isTrue_value (wpAny_Name (wpAny_loadName_local rfl rfl F12.ns ms12 (P.truthy_str (by rw [len_ofL]; omega) ?_)))
  rw [len_ofL]
  by_cases hz2 : sg2.length = 0
  · obtain rfl := List.length_eq_zero_iff.mp hz2
    rw [if_neg (by decide)]
    have hd3 : lft = (sL i.buf).drop p := by
      rw [← hd2, hsn2 rfl]; simp
    refine wpAny_execs_nil ?_
    dsimp only
    refine wpAny_execs_cons (wpAny_Return_some (Tuple_ (spliced_more (or_word (s := { s with heap := h12, toks := _ }) F12 rfl rfl rfl mw12 (by omega) hu fun t13 tk13 => ?_))))
    dsimp only
    refine spliced_more (wpAny_Name (wpAny_loadName_local rfl rfl F12.ns mf12 ?_))
    refine spliced_more (wpAny_BinOp (Attribute_Name_ (wpAny_Name (wpAny_loadName_local rfl rfl F12.ns ml12 (lline_K (s := { s with heap := h12, toks := _ }) (news := []) F12 G.X fr7 (by rw [List.append_nil]; exact N12) fun t14 => wpAny_Constant_int (PyProof.Rows.sub_int ?_))))))
    dsimp only
    refine spliced_none (newTuple_N (s := { s with heap := h12, toks := _ }) F12 N12 (fun h14 F14 N14 => ?_) ?_)
    · rw [hi] at hd3
      rw [← hd3] at hrn
      exact hR tok lft n st q _ _ _ _ h14 _ hrn (Ke.of_fr F14) fun q hq => by
        rw [List.mem_singleton.mp hq]
        exact ⟨(N14 _ (.head _)).1, (N14 _ (.head _)).2.2⟩
    · show 3 ≤ _
      rw [sizeLine_eq]; omega
  · rw [if_pos (by rw [bne_iff_ne]; omega)]
    obtain ⟨c, rfl⟩ : ∃ c, sg2 = [c] := by
      match sg2, hz2, hsl2 with
      | [c], _, _ => exact ⟨c, rfl⟩
      | [], h, _ => exact absurd rfl h
      | _ :: _ :: _, _, h => simp at h
    have hll : lft.length ≤ 1000 := by
      have h1 := congrArg List.length hd2
      rw [List.length_append, List.length_append, List.length_drop, List.length_drop, len_sL] at h1
      omega
    refine wpAny_execs_cons (wpAny_Assign_Name (wpAny_BinOp (wpAny_Name (wpAny_loadName_local rfl rfl F12.ns mf12 (wpAny_Name (wpAny_loadName_local rfl rfl F12.ns ms12 (add_ofL hll fun t13 tk13 => stN F12 N12 fun h13 F13o N13 => ?_)))))) rfl)
    obtain ⟨m13, F13, ml13, mw13, mf13⟩ : ∃ m, Fr g L' h13 m ∧ m (Str.ofString "lexer") = some (.ref x) ∧ m (Str.ofString "word") = some u ∧ m (Str.ofString "left") = some (.str (ofL (lft ++ [c])) t13) := ⟨_, F13o, by rw [if_neg (by decide)]; exact ml12, by rw [if_neg (by decide)]; exact mw12, if_pos rfl⟩
    clear F13o F12 N12
    dsimp only
    refine wpAny_execs_cons (wpAny_Assign_Name (rd1_K2 (env := _) (pl := _) (s := { s with heap := h13, toks := _ }) G.B F13 G.X G.T (Around.frames_deeper G.B.stack) rfl rfl rfl ?room2 ml13 rfl K hp2 fr7 N13 rfl ?_) rfl)
    case room2 => simp only [depth_deeper]; omega
    intro sg3 p3 h14 tk14 ts3 t614 hd14 hs14 hn14 hp3 hpl3 F14 N14
    refine stN F14 N14 fun h15 F15 N15 => wpAny_execs_nil ?_
    refine ⟨2 * (2000 - p3) + sg3.length, ?_, p3, sg3, rfl, hpl3, h15, _, _, t614, lft ++ [c], t13, ts3, rfl, F15, by rw [if_neg (by decide)]; exact ml13, by rw [if_neg (by decide)]; exact mw13, by rw [if_neg (by decide)]; exact mf13, if_pos rfl, N15, ?_, hs14, hn14⟩
    · simp only [List.length_cons, List.length_nil]
      omega
    · rw [← hd2, List.append_assoc (lft ++ [c]), hd14]
end Mine
end

section
open PySem PySem.W PyProof.Rows PySem.Calls
set_option Elab.async false
set_option maxRecDepth 100000
set_option maxHeartbeats 8000000
namespace Mine
theorem slice_last (l : List Nat) (h : l ≠ []) : Txt.slice (ofL l) none (some (-1)) = ofL l.dropLast := by
  have hl : 0 < l.length := List.length_pos_iff.mpr h
  have q := eq_of_beq (slice_closes_to_neg (x := ofL l) (j := -1) (k := (l.length : Int) - 1) (by omega) (by rw [len_ofL]; omega) (by rw [len_ofL]; omega))
  rw [q]
  have e : ((l.length : Int) - 1 - 0).toNat = l.length - 1 := by omega
  rw [e]
  show ofL (List.take (l.length - 1) (List.drop 0 l)) = ofL l.dropLast
  rw [List.drop_zero, List.dropLast_eq_take]
theorem wd_K (w : World) : nsIn (hd.heap_39 w.params) mainGlobals "_law_read" = some (some (.ref 803)) ∧ keepIn (hd.heap_39 w.params) (.ref 803) = true ∧ nsIn (hd.heap_39 w.params) mainGlobals "ValueError" = some none := by
  have e : PySem.Challenge.rw_om0137_02 = PySem.Challenge.rw_om0137_02 := rfl
  revert e
  k_fill
  intro _
  refine ⟨?_, ?_, ?_⟩ <;> k_is
section
variable {w : World} {s : Shared} {A A₀ : Around} {base h₀ : Heap} {outer : List Env} {mg mb : Str → Option Value} {mean : ExcName → Option Value} {env : Env} {L : Addr} {m : Str → Option Value} {news : List (Addr × Obj)} {E : Value → Shared → Prop} {Q : Value → Shared → Prop} {text : List Nat} {W : Str} {t tw : Nat}
/-- _law_read(text, whites) within a frame -/
theorem readL_K (B : Below A₀ base outer h₀) (F : Fr h₀ L s.heap m) (X : (hd.heap_39 w.params).In h₀) (T : Top hd.view_39 lo mean mg mb h₀) (hA : A.frames = some (env :: outer)) (hf : env.frame = some L) (hke : env.scope.kind = .function) (hroom : A.depth + 24 < recursionLimit) (N : News h₀ L s.heap news)
    (hlen : text.length ≤ 900) (hal : ∀ c ∈ text, c ∈ alpha1) (hz : has W (sg 0) = false)
    (h : ∀ tok r n st q a t1 t2 t3 h' tk, run [] (whW W) text (some 32) 32 false [] 1 = .brk r st n tok q → Fr h₀ L h' m → News h₀ L h' ((a, tupO [.str (ofL tok) t1, .str (ofL r) t2, .int (n - 1) t3]) :: news) → (∀ p ∈ news, p.1 ≠ a) → Q (.ref a) { s with heap := h', toks := tk })
    (hbad : ∀ gg, run [] (whW W) text (some 32) 32 false [] 1 = .bad → Fr h₀ L gg m → A.handled = none ∧ ∀ e h' tk t vs, RaisedS base gg (env :: outer) e (.type "ValueError") t vs [] h' → gg.UpToSlots h' → E (.ref e) { s with heap := h', toks := tk }) :
    wpAny (model PySem.Challenge.rw_om0137_02.row.prog w) A (call (.ref 803) [.str (ofL text) t, .str W tw]) Q E s := by
  obtain ⟨FG, -, -, -⟩ := groundX (R := fun _ _ => True) (A := A) (env := env) (s := s) B F (News.nil (h₀ := h₀) (L := L)) hA hf hke
  obtain ⟨G', S', k', back⟩ := pushY (A := A) (env := env) (sub := []) B F News.nil hA hf hke X T
  refine wpAny_call (readL_ok w G' (by omega) k' hlen hal hz ?_ ?_)
  · intro tok r n st q a t1 t2 t3 h' tk hrn k2 S2
    obtain ⟨F2, N2⟩ := back news N (fun _ _ h => by simp at h) h' _ k2 S2
    refine h tok r n st q a t1 t2 t3 h' tk hrn F2 N2 fun p hp e => ?_
    have h1 := (S2 _ (.head _)).2
    rw [← e, hideAll_get _ (N p hp).1 (by simp)] at h1
    cases h1
  · intro hb
    exact hbad _ hb FG
end
theorem wordL_ok (w : World) {s : Shared} {A : Around} {base g : Heap} {fr : List Env} {mg mb : Str → Option Value} {mean : ExcName → Option Value} {text : List Nat} {W : Str} {t tw : Nat} {tok r : List Nat} {n : Int} {R : Result → Shared → Prop}
    (G : Gd w A base fr mean mg mb g) (hroom : A.depth + 28 < recursionLimit) (hh : A.handled = none) (k : Ke g s.heap) (hlen : text.length ≤ 900) (hal : ∀ c ∈ text, c ∈ alpha1) (hz : has W (sg 0) = false) (hW : LWd (whW W) text 1 tok r n)
    (XB : (hd.heap_39 w.params).In base) (TB : Top hd.view_39 lo mean mg mb base) (D : KtsDicts (fr.filterMap (·.frame)) g)
    (hR : ∀ g' a t1 t2 t3 h' tk, KtsTurn (fr.filterMap (·.frame)) g g' → Ke g' h' → Sub g' h' [(a, tupO [.str (ofL tok) t1, .str (ofL r) t2, .int (n - 1) t3])] → R (.ok (.ret (.ref a))) { s with heap := h', toks := tk }) :
    codeAny (model PySem.Challenge.rw_om0137_02.row.prog w) A (.call (.ref 810) ⟨[.str (ofL text) t, .str W tw], []⟩) R s := by
  have S : Sub g s.heap [] := fun _ hp => nomatch hp
  obtain ⟨g1, g2, g3⟩ := wd_K w
  have X := G.X
  have hA := G.B.stack
  revert X
  k_fill
  intro X
  refine' enterG G S k ?k6 ?k7 ?k8 ?k9 ?kB ?_ ?c2 ?c3 ?c4 ?c5
  case k6 => k_is
  case k7 => k_is
  case k8 => omega
  case k9 => first | exact BindsTo.of_eq rfl | exact binds_K (Frag.In.keeps X k.keep) rfl (by k_is) rfl rfl rfl
  case kB => exact rfl
  case c2 => decide
  case c3 => exact rfl
  case c4 => exact rfl
  case c5 => exact rfl
  intro L' h₁ F N hlt
  have one : ∀ {l : List Nat} {st : Option Nat}, run [] (whW W) l (some 32) 32 false [] 1 = .brk r st n tok false → ∀ tok' r' n' st' q', run [] (whW W) l (some 32) 32 false [] 1 = .brk r' st' n' tok' q' → tok' = tok ∧ r' = r ∧ n' = n := fun e tok' r' n' st' q' e' => by
    rw [e] at e'
    injection e' with h1 h2 h3 h4 h5
    exact ⟨h4.symm, h1.symm, h3.symm⟩
  refine wpAny_execs_cons (wpAny_Try_except (wpAny_execs_cons (wpAny_Return_some (Call_ (ld_global_at F G.T.g (mg_of G.X G.T.g g1) (callWith_K G.X g2 (spliced_more (wpAny_Name (wpAny_loadName_local rfl rfl F.ns rfl (spliced_more (wpAny_Name (wpAny_loadName_local rfl rfl F.ns rfl (spliced_none ⟨G.X.keeps F.keep, ?_⟩)))))))) rfl rfl (by decide)) rfl))))
  refine readL_K (env := _) G.B F G.X G.T (Around.frames_deeper G.B.stack) rfl rfl ?_ N hlen hal hz ?_ ?_
  · simp only [depth_deeper]; omega
  · intro tok' r' n' st' q' a t1 t2 t3 h2 tk2 hrn F2 N2 _
    rcases hW with ⟨st, e⟩ | ⟨e, -⟩
    · obtain ⟨rfl, rfl, rfl⟩ := one e _ _ _ _ _ hrn
      exact hR g a t1 t2 t3 h2 tk2 KtsTurn.refl (Ke.of_fr F2) (Sub.of_news N2)
    · rw [e] at hrn; cases hrn
  · intro gg hb FG
    refine ⟨hh, fun e h2 tk2 t2 vs hr hup => ?_⟩
    rcases hW with ⟨st, e⟩ | ⟨-, st, e⟩
    · rw [e] at hb; cases hb
    have hne : text ≠ [] := fun h0 => by
      subst h0
      rw [run0_end] at hb; cases hb
    refine caught_S0 (T' := "ValueError") hr FG G.B hup XB TB D KtsTurn.refl g3 PyProof.Rows.Boot.«ValueError» (by decide) PySem.F.isExc_ValueError PySem.F.notTuple_ValueError (by rw [isSubtype_type]; kernel_rfl) fun h6 g6 n6 T6 F6 N6 _ _ B6 X6 P6 D6 => ?_
    have mt6 : (fun y => ([("text", Value.str (ofL text) t), ("whites", Value.str W tw)] : List (Str × Value)).reverse.lookup y) (Str.ofString "text") = some (.str (ofL text) t) := rfl
    refine wpAny_execs_cons (wpAny_Return_some (Call_ (ld_global_at F6 P6.g (mg_of X6 P6.g g1) (callWith_K X6 g2 (spliced_more (Subscript_ (wpAny_Name (wpAny_loadName_local rfl rfl F6.ns rfl (wpAny_Slice (wpAny_pure ?_))))))) rfl rfl (by decide)) rfl))
    rw [evalPart_some]
    refine wpAny_UnaryOp (wpAny_Constant_int (PyProof.Rows.neg_int (wpAny_pure ?_)))
    dsimp only
    refine slice_strN_ns (s := { s with heap := h6, toks := _ }) F6 N6 (fun h7 t7 k7 F7 N7 => ?_) rfl (fun _ => rfl) (by rw [len_ofL, sizeLine_eq]; omega)
    rw [slice_last _ hne]
    dsimp only
    refine spliced_more (wpAny_Name (wpAny_loadName_local rfl rfl F7.ns rfl (spliced_none ⟨X6.keeps F7.keep, ?_⟩)))
    refine readL_K (env := _) B6 F7 X6 P6 (Around.frames_deeper B6.stack) rfl rfl ?_ N7 ?_ ?_ hz ?_ ?_
    · show A.depth + 1 + 24 < recursionLimit
      omega
    · rw [List.length_dropLast]; omega
    · exact fun c hc => hal c (List.dropLast_subset _ hc)
    · intro tok' r' n' st' q' a t1 t2 t3 h8 tk8 hrn F8 N8 _
      obtain ⟨rfl, rfl, rfl⟩ := one e _ _ _ _ _ hrn
      exact hR g6 a t1 t2 t3 h8 _ T6 (Ke.of_fr F8) fun q hq => by
        rw [List.mem_singleton.mp hq]
        exact ⟨(N8 _ (.head _)).1, (N8 _ (.head _)).2.2⟩
    · intro gg hb2
      rw [e] at hb2; cases hb2
end Mine
end

section
open PySem PySem.W PyProof.Rows PySem.Calls
set_option Elab.async false
set_option maxRecDepth 100000
set_option maxHeartbeats 8000000
namespace Mine
/-- a call that may turn the ground, made within a frame whose ground may have been turned before -/
theorem pushT {w : World} {A₀ A : Around} {s : Shared} {base h₀ : Heap} {outer : List Env} {L : Addr} {m mg mb : Str → Option Value} {mean : ExcName → Option Value} {env : Env} {sub : List (Addr × Obj)}
    (B : Below A₀ base outer h₀) (F : Fr h₀ L s.heap m) (N : News h₀ L s.heap sub) (hA : A.frames = some (env :: outer)) (hf : env.frame = some L) (hke : env.scope.kind = .function)
    (X : (hd.heap_39 w.params).In h₀) (T : Top hd.view_39 lo mean mg mb h₀) (D : KtsDicts (outer.filterMap (·.frame)) h₀) : ∃ gh, Gd w A base (env :: outer) mean mg mb gh ∧ Sub gh s.heap sub ∧ Ke gh s.heap ∧ KtsDicts ((env :: outer).filterMap (·.frame)) gh ∧
      (∀ rest, News h₀ L s.heap rest → (∀ p ∈ rest, p.1 ∉ sub.map (·.1)) → ∀ g' h' sub', KtsTurn ((env :: outer).filterMap (·.frame)) gh g' → Ke g' h' → Sub g' h' sub' →
        ∃ h₀', KtsTurn (outer.filterMap (·.frame)) h₀ h₀' ∧ Fr h₀' L h' m ∧ Below A₀ base outer h₀' ∧ News h₀' L h' (sub' ++ rest) ∧ (∀ p ∈ sub', ∀ r ∈ rest, r.1 ≠ p.1)) := by
  have hL0 : h₀.get? L = none := kts_self F
  have hfr : (env :: outer).filterMap (·.frame) = L :: outer.filterMap (·.frame) := by simp [hf]
  have nm : ∀ b o, h₀.get? b = some o → b ∉ sub.map (·.1) := fun b o e q => by
    obtain ⟨p, hp, rfl⟩ := List.mem_map.mp q
    rw [(N p hp).2.2] at e; cases e
  have st : ∀ b o, h₀.get? b = some o → (hideAll s.heap (sub.map (·.1))).get? b = some o := fun b o e => hideAll_get _ (F.keep b o e) (nm b o e)
  obtain ⟨G', S', k', -⟩ := pushY (A := A) (env := env) B F N hA hf hke X T
  obtain ⟨oL, es, ep, hL, hLd, hk1, hk2⟩ := F.ns
  have nL : L ∉ sub.map (·.1) := fun q => by
    obtain ⟨p, hp, e⟩ := List.mem_map.mp q
    exact (N p hp).2.1 e
  have hLg := hideAll_get (sub.map (·.1)) hL nL
  refine ⟨_, G', S', k', ?_, ?_⟩
  · rw [hfr]
    intro b hb
    rcases List.mem_cons.mp hb with rfl | hb
    · exact ⟨oL, es, ep, hLg, hLd⟩
    · obtain ⟨o, es', n', ho, hd⟩ := D b hb
      exact ⟨o, es', n', st _ _ ho, hd⟩
  · intro rest NR hr g' h' sub' T' k2 S2
    rw [hfr] at T'
    have hin : ∀ b ∈ outer.filterMap (·.frame), ∃ o, h₀.get? b = some o := fun b hb => by
      obtain ⟨_, o, ho, _⟩ := B.frames.mem hb
      exact ⟨o, ho⟩
    have hout : ∀ b o, h₀.get? b = some o → b ∉ outer.filterMap (·.frame) → b ∉ L :: outer.filterMap (·.frame) := fun b o e nmm hm => by
      rcases List.mem_cons.mp hm with z | z
      · rw [z, hL0] at e; cases e
      · exact nmm z
    obtain ⟨TT, SS⟩ := kts_turn_at (h := h') (fs := outer.filterMap (·.frame)) (g := h₀) hin
      (fun b o e nmm => k2.keep _ _ (T'.other b o (st b o e) (hout b o e nmm)))
      (fun b o e hm => by
        obtain ⟨sl, hs⟩ := T'.frame b o (st b o e) (.tail _ hm)
        exact ⟨sl, k2.keep _ _ hs⟩)
    obtain ⟨sl, hs⟩ := T'.frame L oL hLg (.head _)
    have fresh : ∀ b, h₀.get? b = none → b ≠ L → b ∉ L :: outer.filterMap (·.frame) := fun b e n hm => by
      rcases List.mem_cons.mp hm with z | z
      · exact n z
      · obtain ⟨o, ho⟩ := hin b z
        rw [e] at ho; cases ho
    refine ⟨_, TT, ⟨⟨_, es, ep, k2.keep _ _ hs, hLd, hk1, hk2⟩, SS, by rw [TT.size]; exact F.above⟩, ⟨B.stack, fun b o e => TT.other b o (B.stays b o e) (fun hm => by
      rw [(B.frames.mem hm).1] at e
      cases e), B.frames.of_keeps fun b o e _ => ?_⟩, ?_, ?_⟩
    · obtain ⟨sl', hs'⟩ := TT.up e
      exact ⟨_, hs', rfl⟩
    · intro p hp
      rcases List.mem_append.mp hp with hp | hp
      · refine ⟨(S2 p hp).1, fun e => ?_, TT.none_ _ ?_⟩
        · have := (S2 p hp).2
          rw [e, hs] at this; cases this
        · cases q : h₀.get? p.1 with
          | none => rfl
          | some o =>
            obtain ⟨sl', hs'⟩ := T'.up (st _ _ q)
            have := (S2 p hp).2
            rw [hs'] at this; cases this
      · exact ⟨k2.keep _ _ (T'.other _ _ (hideAll_get _ (NR p hp).1 (hr p hp)) (fresh _ (NR p hp).2.2 (NR p hp).2.1)), (NR p hp).2.1, TT.none_ _ (NR p hp).2.2⟩
    · intro p hp r hr' e
      have h1 := (S2 p hp).2
      rw [← e, T'.other _ _ (hideAll_get _ (NR r hr').1 (hr r hr')) (fresh _ (NR r hr').2.2 (NR r hr').2.1)] at h1
      cases h1
theorem nw_K (w : World) : nsIn (hd.heap_39 w.params) mainGlobals "_law_word" = some (some (.ref 810)) ∧ keepIn (hd.heap_39 w.params) (.ref 810) = true := by
  have e : PySem.Challenge.rw_om0137_02 = PySem.Challenge.rw_om0137_02 := rfl
  revert e
  k_fill
  intro _
  refine ⟨?_, ?_⟩ <;> k_is
section
variable {w : World} {s : Shared} {A A₀ : Around} {base h₀ : Heap} {outer : List Env} {mg mb : Str → Option Value} {mean : ExcName → Option Value} {env : Env} {L : Addr} {m : Str → Option Value} {news : List (Addr × Obj)} {E : Value → Shared → Prop} {Q : Value → Shared → Prop} {text : List Nat} {W : Str} {t tw : Nat} {tok r : List Nat} {n : Int}
/-- _law_word(text, whites) within a frame -/
theorem wordL_K (B : Below A₀ base outer h₀) (F : Fr h₀ L s.heap m) (X : (hd.heap_39 w.params).In h₀) (T : Top hd.view_39 lo mean mg mb h₀) (hA : A.frames = some (env :: outer)) (hf : env.frame = some L) (hke : env.scope.kind = .function) (hroom : A.depth + 28 < recursionLimit) (hh : A.handled = none) (N : News h₀ L s.heap news)
    (XB : (hd.heap_39 w.params).In base) (TB : Top hd.view_39 lo mean mg mb base) (D : KtsDicts (outer.filterMap (·.frame)) h₀) (hlen : text.length ≤ 900) (hal : ∀ c ∈ text, c ∈ alpha1) (hz : has W (sg 0) = false) (hW : LWd (whW W) text 1 tok r n)
    (h : ∀ h₀' a t1 t2 t3 h' tk, KtsTurn (outer.filterMap (·.frame)) h₀ h₀' → Fr h₀' L h' m → Below A₀ base outer h₀' → News h₀' L h' ((a, tupO [.str (ofL tok) t1, .str (ofL r) t2, .int (n - 1) t3]) :: news) → (∀ p ∈ news, p.1 ≠ a) → Q (.ref a) { s with heap := h', toks := tk }) :
    wpAny (model PySem.Challenge.rw_om0137_02.row.prog w) A (call (.ref 810) [.str (ofL text) t, .str W tw]) Q E s := by
  obtain ⟨gh, G', S', k', D', back⟩ := pushT (A := A) (env := env) (sub := []) B F News.nil hA hf hke X T D
  refine wpAny_call (wordL_ok w G' hroom hh k' hlen hal hz hW XB TB D' ?_)
  intro g' a t1 t2 t3 h' tk T' k2 S2
  obtain ⟨h₀', TT, F', B', N', ap⟩ := back news N (fun _ _ h => by simp at h) g' h' _ T' k2 S2
  exact h h₀' a t1 t2 t3 h' tk TT F' B' N' fun p hp => ap _ (.head _) p hp
end
end Mine
end

section
open PySem PySem.W PyProof.Rows PySem.Calls
set_option Elab.async false
set_option maxRecDepth 100000
set_option maxHeartbeats 8000000
namespace Mine
theorem item_head (c : Nat) (r : List Nat) : Txt.item (ofL (c :: r)) 0 = sg c := by
  have q := eq_of_beq (item_closes (x := ofL (c :: r)) (i := 0) ⟨by omega, by rw [len_ofL]; simp⟩)
  rw [q]
  rfl
theorem slice_from (k : Nat) (l : List Nat) (h : k ≤ l.length) : Txt.slice (ofL l) (some (k : Int)) none = ofL (l.drop k) := by
  have q := eq_of_beq (slice_closes_fromL (x := ofL l) (i := (k : Int)) (b := (l.length : Int)) (by omega) (by rw [len_ofL]; omega) (by rw [len_ofL]))
  rw [q]
  have e1 : ((k : Int)).toNat = k := by omega
  have e2 : ((l.length : Int) - (k : Int)).toNat = l.length - k := by omega
  rw [e1, e2]
  show ofL (List.take (l.length - k) (List.drop k l)) = ofL (l.drop k)
  rw [List.take_of_length_le (by rw [List.length_drop]; exact Nat.le_refl _)]
theorem slice_12 (c : Nat) (r : List Nat) : Txt.slice (ofL (c :: r)) (some 1) (some 2) = ofL (r.take 1) := by
  cases r with
  | nil =>
    show StrLaws.sliceText (ofL [c]) (some 1) (some 2) = ofL []
    rfl
  | cons d r =>
    have q := eq_of_beq (slice_closesL (x := ofL (c :: d :: r)) (i := 1) (j := 2) (by decide) (by decide) (by rw [len_ofL]; simp only [List.length_cons]; omega))
    rw [q]
    rfl
/-- two pairs of a text and a row, which are alike -/
theorem pair_eq {prog : Program} {w : World} {A : Around} {E : Value → Shared → Prop} {s : Shared} {Q : Value → Shared → Prop} {a b : Addr} {x : Str} {n : Int} {t1 t2 t3 t4 : Nat} (ha : s.heap.get? a = some (tupO [.str x t1, .int n t2])) (hb : s.heap.get? b = some (tupO [.str x t3, .int n t4])) (hx : PyData.strOk x = true) (hu : A.units + 64 < cLine) (h : Q (.bool true) s) :
    wpAny (model prog w) A (compareOp .Eq (.ref a) (.ref b)) Q E s := by
  refine eq_dataH (reads_tuple_at ha rfl rfl (.cons (Reads.str _ _) (.cons (Reads.int _ _) .nil))) (reads_tuple_at hb rfl rfl (.cons (Reads.str _ _) (.cons (Reads.int _ _) .nil))) ?_ ?_ hu ?_
  · simp [SeqAt.shaped, PyData.canLay0, PyData.canLayAll0, PyData.depth, PyData.depthAll, hx]
  · simp [SeqAt.shaped, PyData.canLay0, PyData.canLayAll0, PyData.depth, PyData.depthAll, hx]
  · simpa [PyData.eqv, PyData.eqvAll] using h
theorem strOk_of {l : List Nat} (h : ∀ x ∈ l, x < 0x110000) : PyData.strOk (ofL l) = true := by
  unfold PyData.strOk
  simpa using h
theorem alpha_lt : ∀ x ∈ alpha1, x < 0x110000 := by decide
theorem news_drop1 {g : Heap} {L : Addr} {h : Heap} {x y : Addr × Obj} {rest : List (Addr × Obj)} (N : News g L h (x :: y :: rest)) : News g L h (x :: rest) := fun p hp => N p (by
  rcases List.mem_cons.mp hp with rfl | hp
  · exact .head _
  · exact .tail _ (.tail _ hp))
/-- the names that the whole def keeps -/
structure NM (m : Str → Option Value) (b : Addr) (W : Str) (tw : Nat) : Prop where
  fits : m (Str.ofString "fits") = some (.bool true)
  one : m (Str.ofString "one") = some (.ref b)
  whites : m (Str.ofString "whites") = some (.str W tw)
theorem NM.set {m : Str → Option Value} {b : Addr} {W : Str} {tw : Nat} {y : Str} {v : Value} (M : NM m b W tw) (h1 : Str.ofString "fits" ≠ y) (h2 : Str.ofString "one" ≠ y) (h3 : Str.ofString "whites" ≠ y) : NM (fun z => if z = y then some v else m z) b W tw :=
  ⟨by rw [if_neg h1]; exact M.fits, by rw [if_neg h2]; exact M.one, by rw [if_neg h3]; exact M.whites⟩
section
variable {w : World} {s : Shared} {A : Around} {h₀ : Heap} {L : Addr} {m : Str → Option Value} {env : Env} {E : Value → Shared → Prop} {b : Addr} {W : Str} {tw u1 u2 : Nat} {k r : List Nat} {n0 d : Int} {tk tl tn td : Nat} {rest : List (Addr × Obj)}
/-- the def's last statement -/
theorem nlRet (F : Fr h₀ L s.heap m) (M : NM m b W tw) (hke : env.scope.kind = .function) (hloc : env.locals = L) (hu : A.units + 67 < cLine) (N : News h₀ L s.heap rest) (hb : (b, tupO [.str (ofL k) u1, .int (n0 + d) u2]) ∈ rest) (hk : PyData.strOk (ofL k) = true)
    (l1 : env.kindOf (Str.ofString "fits") = some .local) (l2 : env.kindOf (Str.ofString "one") = some .local) (l3 : env.kindOf (Str.ofString "word") = some .local) (l4 : env.kindOf (Str.ofString "row") = some .local) (l5 : env.kindOf (Str.ofString "rows") = some .local) (l6 : env.kindOf (Str.ofString "left") = some .local) (l7 : env.kindOf (Str.ofString "whites") = some .local)
    (mw : m (Str.ofString "word") = some (.str (ofL k) tk)) (ml : m (Str.ofString "left") = some (.str (ofL r) tl)) (mr : m (Str.ofString "row") = some (.int n0 tn)) (ms : m (Str.ofString "rows") = some (.int d td)) {Q : Flow → Shared → Prop}
    (h : ∀ a t1 t2 t3 h' tk', Fr h₀ L h' m → News h₀ L h' ((a, tupO [.bool true, .str (ofL r) t1, .int (n0 + d) t2, .str W t3]) :: rest) → Q (.ret (.ref a)) { s with heap := h', toks := tk' }) {p1 p2 p3 p4 p5 p6 p7 p8 p9 p10 p11 p12 p13 p14 p15 p16 : Pos} {k1 k2 : Nat} :
    wpAny (model PySem.Challenge.rw_om0137_02.row.prog w) A (exec (.Return (some (.Tuple [.BoolOp .And [.Name (Str.ofString "fits") p1, .Compare (.Name (Str.ofString "one") p2) [.Eq] [.Tuple [.Name (Str.ofString "word") p3, .BinOp (.Name (Str.ofString "row") p4) .Add (.Name (Str.ofString "rows") p5) p6] k1 p7] p8] p9, .Name (Str.ofString "left") p10, .BinOp (.Name (Str.ofString "row") p11) .Add (.Name (Str.ofString "rows") p12) p13, .Name (Str.ofString "whites") p14] k2 p15)) p16) env) Q E s := by
  have ld : ∀ {x : Str} {v : Value} {s' : Shared} {m' : Str → Option Value} {Q' : Value → Shared → Prop} {E' : Value → Shared → Prop} {A' : Around} {p : Pos}, Fr h₀ L s'.heap m' → env.kindOf x = some .local → m' x = some v → (x == ("__debug__" : Str)) = false → Q' v s' → wpAny (model PySem.Challenge.rw_om0137_02.row.prog w) A' (eval (.Name x p) env) Q' E' s' := fun F' hx hm hd q => wpAny_Name (wpAny_loadName_local hke hx (by rw [hloc]; exact F'.ns) hm q) hd
  refine wpAny_Return_some (Tuple_ (spliced_more ?_))
  refine BoolOp_and (ld F l1 M.fits (by decide) (wpAny_truthy_bool ?_))
  rw [if_pos rfl]
  refine BoolOp_one ?_
  refine wpAny_Compare1 ?_ rfl
  refine ld F l2 M.one (by decide) ?_
  refine Tuple_ (spliced_more (ld F l3 mw (by decide) ?_))
  refine spliced_more (wpAny_BinOp (ld F l4 mr (by decide) (ld F l5 ms (by decide) (PyProof.Rows.add_int ?_))))
  refine spliced_none (newTuple_N (s := { s with heap := s.heap, toks := _ }) F N (fun h1 F1 N1 => ?_) ?_)
  · refine pair_eq (N1 _ (.tail _ hb)).1 (N1 _ (.head _)).1 hk (by show A.units + 64 < cLine; omega) ?_
    refine spliced_more (ld F1 l6 ml (by decide) ?_)
    refine spliced_more (wpAny_BinOp (ld F1 l4 mr (by decide) (ld F1 l5 ms (by decide) (PyProof.Rows.add_int ?_))))
    refine spliced_more (ld F1 l7 M.whites (by decide) ?_)
    refine spliced_none (newTuple_N (s := { s with heap := h1, toks := _ }) F1 N1 (fun h2 F2 N2 => ?_) ?_)
    · exact h _ _ _ _ h2 _ F2 (news_drop1 N2)
    · show 4 ≤ _
      rw [sizeLine_eq]; omega
  · show 2 ≤ _
    rw [sizeLine_eq]; omega
end
end Mine
end

section
open PySem PySem.W PyProof.Rows PySem.Calls
set_option Elab.async false
set_option maxRecDepth 100000
set_option maxHeartbeats 8000000
namespace Mine
theorem whQ : whW (Str.ofString "\"") = (· == 34) := funext fun c => by
  unfold whW
  rw [has_one]
  show ([34] : List Nat).contains c = (c == 34)
  simp only [List.contains_cons, List.contains_nil, Bool.or_false]
theorem zeroQ : has (Str.ofString "\"") (sg 0) = false := by rw [has_one]; decide +kernel
/-- ahead of a turn of the loop that takes the white signs off -/
noncomputable def NLI (s : Shared) (g : Heap) (L : Addr) (led : List (Addr × Obj)) (b : Addr) (W : Str) (tw : Nat) (wh : Nat → Bool) (l : List Nat) (ln : Int) (l' : List Nat) (s' : Shared) : Prop :=
  ∃ h tk m tr tn n', s' = { s with heap := h, toks := tk } ∧ Fr g L h m ∧ NM m b W tw ∧ m (Str.ofString "rest") = some (.str (ofL l') tr) ∧ m (Str.ofString "row") = some (.int n' tn) ∧ News g L h led ∧ strip wh l ln = strip wh l' n' ∧ l'.length ≤ l.length ∧ ∀ c ∈ l', c ∈ l
theorem nextL_ok (w : World) {s : Shared} {A : Around} {base g : Heap} {fr : List Env} {mg mb : Str → Option Value} {mean : ExcName → Option Value} {l k r : List Nat} {ln n : Int} {W : Str} {a b t1 t2 t3 t4 u1 u2 : Nat} {R : Result → Shared → Prop}
    (G : Gd w A base fr mean mg mb g) (hroom : A.depth + 32 < recursionLimit) (hh : A.handled = none) (hu : A.units + 70 < cLine) (kk : Ke g s.heap) (hlen : l.length ≤ 900) (hal : ∀ c ∈ l, c ∈ alpha1) (hz : has W (sg 0) = false) (hns : ns (whW W) l ln = (k, r, n)) (hkc : ∀ c ∈ k, c < 0x110000)
    (XB : (hd.heap_39 w.params).In base) (TB : Top hd.view_39 lo mean mg mb base) (D : KtsDicts (fr.filterMap (·.frame)) g)
    (S : Sub g s.heap [(a, tupO [.bool true, .str (ofL l) t1, .int ln t2, .str W t3]), (b, tupO [.str (ofL k) u1, .int n u2])])
    (hR : ∀ g' a' t1 t2 t3 h' tk, KtsTurn (fr.filterMap (·.frame)) g g' → Ke g' h' → Sub g' h' [(a', tupO [.bool true, .str (ofL r) t1, .int n t2, .str W t3])] → R (.ok (.ret (.ref a'))) { s with heap := h', toks := tk }) :
    codeAny (model PySem.Challenge.rw_om0137_02.row.prog w) A (.call (.ref 817) ⟨[.ref a, .ref b], []⟩) R s := by
  obtain ⟨g1, g2⟩ := nw_K w
  have X := G.X
  have hA := G.B.stack
  revert X
  k_fill
  intro X
  refine' enterG G S kk ?k6 ?k7 ?k8 ?k9 ?kB ?_ ?c2 ?c3 ?c4 ?c5
  case k6 => k_is
  case k7 => k_is
  case k8 => omega
  case k9 => first | exact BindsTo.of_eq rfl | exact binds_K (Frag.In.keeps X kk.keep) rfl (by k_is) rfl rfl rfl
  case kB => exact rfl
  case c2 => decide
  case c3 => exact rfl
  case c4 => exact rfl
  case c5 => exact rfl
  intro L' h₁ F N hlt
  refine wpAny_execs_cons (Assign_Tuple (wpAny_Name (wpAny_loadName_local rfl rfl F.ns rfl ?_)) rfl rfl)
  refine unpackN_ F N (N.isTup (.head _)) hh rfl rfl fun h2 F2 N2 => ?_
  refine assignInOrder_cons (wpAny_assign_Name (stN F2 N2 fun h3 F3 N3 => ?_))
  refine assignInOrder_cons (wpAny_assign_Name (stN F3 N3 fun h4 F4 N4 => ?_))
  refine assignInOrder_cons (wpAny_assign_Name (stN F4 N4 fun h5 F5 N5 => ?_))
  refine assignInOrder_cons (wpAny_assign_Name (stN F5 N5 fun h6 F6 N6 => ?_))
  refine assignInOrder_nil ?_
  dsimp only
  refine wpAny_execs_cons (wpAny_While (codeAny_mono (R := fun rr s' => rr = .ok .next ∧ ∃ l', NLI s g L' [(a, tupO [.bool true, .str (ofL l) t1, .int ln t2, .str W t3]), (b, tupO [.str (ofL k) u1, .int n u2])] b W t3 (whW W) l ln l' s' ∧ ∀ c r', l' = c :: r' → whW W c = false) ?loop fun rr s' hx => ?_))
  case loop =>
    refine codeAny_whileLoop (fun q s' => ∃ l', q = l'.length ∧ NLI s g L' [(a, tupO [.bool true, .str (ofL l) t1, .int ln t2, .str W t3]), (b, tupO [.str (ofL k) u1, .int n u2])] b W t3 (whW W) l ln l' s') ?_ l.length ⟨l, rfl, h6, _, _, t1, t2, ln, rfl, F6, ⟨?_, ?_, ?_⟩, ?_, ?_, N6, rfl, Nat.le_refl _, fun _ h => h⟩
    rotate_left
    · rw [if_neg (by decide), if_neg (by decide), if_neg (by decide)]; exact if_pos rfl
    · rw [if_neg (by decide), if_neg (by decide), if_neg (by decide), if_neg (by decide)]; rfl
    · exact if_pos rfl
    · rw [if_neg (by decide), if_neg (by decide)]; exact if_pos rfl
    · rw [if_neg (by decide)]; exact if_pos rfl
    rintro q s1 ⟨l', rfl, h7, tk7, m7, tr7, tn7, n7, rfl, F7, M7, mr7, mn7, N7, hs7, hl7, hc7⟩
    refine wpAny_isTrue_BoolOp (wpAny_allTrue_And_cons (wpAny_isTrue_value (wpAny_Name (wpAny_loadName_local rfl rfl F7.ns mr7 (P.truthy_str (by rw [len_ofL]; omega) ?_)))))
    rw [len_ofL]
    cases l' with
    | nil =>
      rw [if_neg (by decide), if_neg (by decide)]
      exact wpAny_execs_nil ⟨rfl, [], ⟨h7, _, m7, tr7, tn7, n7, rfl, F7, M7, mr7, mn7, N7, hs7, hl7, hc7⟩, fun _ _ h => nomatch h⟩
    | cons c r' =>
      simp only [List.length_cons] at hl7
      have hstr : whW W c = true → strip (whW W) (c :: r') n7 = strip (whW W) r' (nl c n7) := fun hw => by
        rw [strip, hw]; rfl
      rw [if_pos (by rw [bne_iff_ne]; simp only [List.length_cons]; omega)]
      refine wpAny_allTrue_And_cons (wpAny_isTrue_Compare1 (Subscript_ (wpAny_Name (wpAny_loadName_local rfl rfl F7.ns mr7 (wpAny_Constant_int (item_str rfl (by omega) (by rw [len_ofL]; simp only [List.length_cons]; omega) fun _ => ?_))))) rfl)
      rw [item_head]
      refine wpAny_Name (wpAny_loadName_local rfl rfl F7.ns M7.whites (in_has (wpAny_truthy_bool ?_)))
      cases hw : has W (sg c) with
      | false =>
        rw [if_neg (by decide), if_neg (by decide)]
        refine wpAny_execs_nil ⟨rfl, c :: r', ⟨h7, _, m7, tr7, tn7, n7, rfl, F7, M7, mr7, mn7, N7, hs7, hl7, hc7⟩, fun c' r'' e => ?_⟩
        cases e
        exact hw
      | true =>
        rw [if_pos rfl]
        refine wpAny_allTrue_And_nil ?_
        rw [if_pos rfl]
        refine wpAny_execs_cons (wpAny_If (wpAny_isTrue_Compare1 (Subscript_ (wpAny_Name (wpAny_loadName_local rfl rfl F7.ns mr7 (wpAny_Constant_int (item_str rfl (by omega) (by rw [len_ofL]; simp only [List.length_cons]; omega) fun _ => ?_))))) rfl))
        rw [item_head]
        refine wpAny_Constant_str (PyProof.Rows.eq_str (wpAny_truthy_bool ?_))
        by_cases h10 : c = 10
        · have hnl : nl c n7 = n7 + 1 := by unfold nl; rw [if_pos (by simp [h10])]
          rw [if_pos (by rw [h10]; rfl)]
          refine wpAny_execs_cons (wpAny_Assign_Name (wpAny_BinOp (wpAny_Name (wpAny_loadName_local rfl rfl F7.ns mn7 (wpAny_Constant_int (PyProof.Rows.add_int (stN F7 N7 fun h8 F8 N8 => wpAny_execs_nil ?_)))))) rfl)
          dsimp only
          obtain ⟨m8, T8, F8, M8, mr8, mn8⟩ : ∃ m T, Fr g L' h8 m ∧ NM m b W t3 ∧ m (Str.ofString "rest") = some (.str (ofL (c :: r')) tr7) ∧ m (Str.ofString "row") = some (.int (n7 + 1) T) := ⟨_, _, F8, M7.set (by decide) (by decide) (by decide), by rw [if_neg (by decide)]; exact mr7, if_pos rfl⟩
          refine wpAny_execs_cons (wpAny_Assign_Name (Subscript_ (wpAny_Name (wpAny_loadName_local rfl rfl F8.ns mr8 (wpAny_Slice ?_)))) rfl)
          rw [evalPart_some]
          refine wpAny_Constant_int (wpAny_pure (wpAny_pure ?_))
          dsimp only
          refine slice_strN_sn (s := { s with heap := h8, toks := _ }) F8 N8 (fun h9 t9 k9 F9 N9 => ?_) rfl (fun _ => rfl) (by rw [len_ofL, sizeLine_eq]; simp only [List.length_cons]; omega)
          rw [show Txt.slice (ofL (c :: r')) (some (1 : Int)) none = ofL r' from slice_from 1 (c :: r') (by simp)]
          refine stN F9 N9 fun h10 F10 N10 => wpAny_execs_nil ?_
          refine ⟨r'.length, by simp, r', rfl, h10, _, _, t9, T8, nl c n7, rfl, F10, ?_, ?_, ?_, N10, ?_, by omega, fun x hx => hc7 x (.tail _ hx)⟩
          · exact M8.set (by decide) (by decide) (by decide)
          · exact if_pos rfl
          · rw [if_neg (by decide), hnl]; exact mn8
          · rw [hs7]; exact hstr hw
        · have hnl : nl c n7 = n7 := by unfold nl; rw [if_neg (by simp [h10])]
          rw [if_neg (by rw [beq_iff_eq]; exact fun e => h10 (by have h' : [c] = [10] := congrArg sL e; simpa using h'))]
          refine wpAny_execs_nil ?_
          dsimp only
          refine wpAny_execs_cons (wpAny_Assign_Name (Subscript_ (wpAny_Name (wpAny_loadName_local rfl rfl F7.ns mr7 (wpAny_Slice ?_)))) rfl)
          rw [evalPart_some]
          refine wpAny_Constant_int (wpAny_pure (wpAny_pure ?_))
          dsimp only
          refine slice_strN_sn (s := { s with heap := h7, toks := _ }) F7 N7 (fun h9 t9 k9 F9 N9 => ?_) rfl (fun _ => rfl) (by rw [len_ofL, sizeLine_eq]; simp only [List.length_cons]; omega)
          rw [show Txt.slice (ofL (c :: r')) (some (1 : Int)) none = ofL r' from slice_from 1 (c :: r') (by simp)]
          refine stN F9 N9 fun h10 F10 N10 => wpAny_execs_nil ?_
          refine ⟨r'.length, by simp, r', rfl, h10, _, _, t9, tn7, nl c n7, rfl, F10, ?_, ?_, ?_, N10, ?_, by omega, fun x hx => hc7 x (.tail _ hx)⟩
          · exact M7.set (by decide) (by decide) (by decide)
          · exact if_pos rfl
          · rw [if_neg (by decide), hnl]; exact mn7
          · rw [hs7]; exact hstr hw
  · obtain ⟨rfl, l0, ⟨h7, tk7, m7, tr7, tn7, n7, rfl, F7, M7, mr7, mn7, N7, hs7, hl7, hc7⟩, hhd⟩ := hx
    have hst : strip (whW W) l ln = (l0, n7) := by
      rw [hs7]
      cases l0 with
      | nil => rfl
      | cons c r0 =>
        rw [strip, hhd c r0 rfl]; rfl
    have hnx := next_is (whW W) l ln
    rw [hns] at hnx
    dsimp only at hnx
    clear hs7 F N F2 N2 F3 N3 F4 N4 F5 N5 F6 N6
    have hkok : PyData.strOk (ofL k) = true := strOk_of hkc
    dsimp only
    refine wpAny_execs_cons (wpAny_If (wpAny_isTrue_Not (wpAny_isTrue_value (wpAny_Name (wpAny_loadName_local rfl rfl F7.ns mr7 (P.truthy_str (by rw [len_ofL]; omega) ?_))))))
    rw [len_ofL]
    cases l0 with
    | nil =>
      obtain ⟨rfl, rfl, rfl⟩ : k = [] ∧ r = [] ∧ n = n7 := by
        cases hnx with
        | fin e => rw [hst] at e; cases e; exact ⟨rfl, rfl, rfl⟩
        | plain e => rw [hst] at e; cases e
        | empty e => rw [hst] at e; cases e
        | quoted e => rw [hst] at e; cases e
      rw [if_pos (by decide)]
      refine wpAny_execs_cons (wpAny_Return_some (Tuple_ (spliced_more ?_)))
      refine BoolOp_and (wpAny_Name (wpAny_loadName_local rfl rfl F7.ns M7.fits (wpAny_truthy_bool ?_)))
      rw [if_pos rfl]
      refine BoolOp_one ?_
      refine wpAny_Compare1 ?_ rfl
      refine wpAny_Name (wpAny_loadName_local rfl rfl F7.ns M7.one ?_)
      refine Tuple_ (spliced_more (wpAny_Constant_str ?_))
      refine spliced_more (wpAny_Name (wpAny_loadName_local rfl rfl F7.ns mn7 ?_))
      dsimp only
      refine spliced_none (newTuple_N (s := { s with heap := h7, toks := _ }) F7 N7 (fun h8 F8 N8 => ?_) ?_)
      · refine pair_eq (x := ofL []) (N8 _ (.tail _ (.tail _ (.head _)))).1 (N8 _ (.head _)).1 hkok (by show A.units + 3 + 64 < cLine; omega) ?_
        dsimp only
        refine spliced_more (wpAny_Constant_str ?_)
        refine spliced_more (wpAny_Name (wpAny_loadName_local rfl rfl F8.ns mn7 ?_))
        refine spliced_more (wpAny_Name (wpAny_loadName_local rfl rfl F8.ns M7.whites ?_))
        dsimp only
        refine spliced_none (newTuple_N (s := { s with heap := h8, toks := _ }) F8 N8 (fun h9 F9 N9 => ?_) ?_)
        · exact hR g _ _ _ _ h9 _ KtsTurn.refl (Ke.of_fr F9) fun q hq => by
            rw [List.mem_singleton.mp hq]
            exact ⟨(N9 _ (.head _)).1, (N9 _ (.head _)).2.2⟩
        · show 4 ≤ _
          rw [sizeLine_eq]; omega
      · show 2 ≤ _
        rw [sizeLine_eq]; omega
    | cons c r0 =>
      simp only [List.length_cons] at hl7
      rw [if_neg (by rw [Bool.not_eq_true', bne_eq_false_iff_eq]; simp only [List.length_cons]; omega)]
      refine wpAny_execs_nil ?_
      dsimp only
      refine wpAny_execs_cons (wpAny_If (wpAny_isTrue_Compare1 (Subscript_ (wpAny_Name (wpAny_loadName_local rfl rfl F7.ns mr7 (wpAny_Constant_int (item_str rfl (by omega) (by rw [len_ofL]; simp only [List.length_cons]; omega) fun _ => ?_))))) rfl))
      rw [item_head]
      refine wpAny_Constant_str (PyProof.Rows.ne_str (wpAny_truthy_bool ?_))
      by_cases h34 : c = 34
      · subst h34
        rw [if_neg (by decide)]
        dsimp only
        refine wpAny_execs_cons (wpAny_If (wpAny_isTrue_Compare1 (Subscript_ (wpAny_Name (wpAny_loadName_local rfl rfl F7.ns mr7 (wpAny_Slice ?_)))) rfl))
        rw [evalPart_some]
        refine wpAny_Constant_int ?_
        rw [evalPart_some]
        refine wpAny_Constant_int (wpAny_pure ?_)
        dsimp only
        refine slice_strN_ss (s := { s with heap := h7, toks := _ }) F7 N7 (fun h8' t8' k8' F8' N8' => ?_) rfl (fun _ => rfl) (by rw [len_ofL, sizeLine_eq]; simp only [List.length_cons]; omega)
        rw [slice_12]
        refine wpAny_Constant_str (PyProof.Rows.eq_str (wpAny_truthy_bool ?_))
        by_cases hq : ∃ r1, r0 = 34 :: r1
        · obtain ⟨r1, rfl⟩ := hq
          rw [if_pos (by rfl)]
          obtain ⟨rfl, rfl, rfl⟩ : k = [] ∧ r = r1 ∧ n = n7 := by
            cases hnx with
            | fin e => rw [hst] at e; cases e
            | plain e h => rw [hst] at e; cases e; exact absurd rfl h
            | empty e => rw [hst] at e; cases e; exact ⟨rfl, rfl, rfl⟩
            | quoted e h => rw [hst] at e; cases e; exact absurd rfl (h 34 r1 rfl)
          refine wpAny_execs_cons (Assign_Tuple_swapped (names := [Str.ofString "word", Str.ofString "left", Str.ofString "rows"]) (Tuple_ (spliced_more (wpAny_Constant_str ?_))) rfl rfl)
          refine spliced_more (Subscript_ (wpAny_Name (wpAny_loadName_local rfl rfl F8'.ns mr7 (wpAny_Slice ?_))))
          rw [evalPart_some]
          refine wpAny_Constant_int (wpAny_pure (wpAny_pure ?_))
          dsimp only
          refine slice_strN_sn (s := { s with heap := h8', toks := _ }) F8' N8' (fun h9' t9' k9' F9' N9' => ?_) rfl (fun _ => rfl) (by rw [len_ofL, sizeLine_eq]; simp only [List.length_cons] at hl7 ⊢; omega)
          rw [show Txt.slice (ofL (34 :: 34 :: r)) (some (2 : Int)) none = ofL r from slice_from 2 (34 :: 34 :: r) (by simp)]
          dsimp only
          refine spliced_more (wpAny_Constant_int ?_)
          dsimp only
          refine spliced_none (newTuple_N (s := { s with heap := h9', toks := _ }) F9' N9' (fun h9 F9 N9 => ?_) ?_)
          · refine unpackItemsN_ F9 N9 (N9.isTup (.head _)) hh rfl fun h10 F10 N10 => ?_
            refine assignInOrder_cons (bindName_ (stN F10 N10 fun h11 F11 N11 => ?_))
            refine assignInOrder_cons (bindName_ (stN F11 N11 fun h12 F12 N12 => ?_))
            refine assignInOrder_cons (bindName_ (stN F12 N12 fun h13 F13 N13 => ?_))
            refine assignInOrder_nil (wpAny_execs_nil (wpAny_execs_nil ?_))
            dsimp only
            have hn0 : n + 0 = n := by omega
            refine wpAny_execs_cons (nlRet (s := { s with heap := h13, toks := _ }) (b := b) (W := W) (tw := t3) (k := []) (r := r) (n0 := n) (d := 0) (u1 := u1) (u2 := u2) (tl := t9') (tn := tn7) F13 (((M7.set (by decide) (by decide) (by decide)).set (by decide) (by decide) (by decide)).set (by decide) (by decide) (by decide)) rfl rfl (by show A.units + 3 + 67 < cLine; omega) N13 (by rw [hn0]; exact .tail _ (.tail _ (.head _))) hkok rfl rfl rfl rfl rfl rfl rfl (if_pos rfl) ?_ ?_ ((if_neg (by decide)).trans ((if_neg (by decide)).trans (if_pos rfl))) fun a' q1 q2 q3 h14 tk14 F14 N14 => ?_)
            · rw [if_neg (by decide)]; exact if_pos rfl
            · rw [if_neg (by decide), if_neg (by decide), if_neg (by decide)]; exact mn7
            · rw [hn0] at N14
              exact hR g a' q1 q2 q3 h14 tk14 KtsTurn.refl (Ke.of_fr F14) fun q hq => by
                rw [List.mem_singleton.mp hq]
                exact ⟨(N14 _ (.head _)).1, (N14 _ (.head _)).2.2⟩
          · show 3 ≤ _
            rw [sizeLine_eq]; omega
        · rw [if_neg (by
            rw [beq_iff_eq]
            intro e
            have h' : r0.take 1 = [34] := congrArg sL e
            cases r0 with
            | nil => cases h'
            | cons d r1 =>
              simp at h'
              exact hq ⟨r1, by rw [h']⟩)]
          obtain ⟨kq, hlw, hn7⟩ : ∃ kq, LWd (whW (Str.ofString "\"")) r0 1 k r kq ∧ n = n7 + (kq - 1) := by
            cases hnx with
            | fin e => rw [hst] at e; cases e
            | plain e h => rw [hst] at e; cases e; exact absurd rfl h
            | empty e => rw [hst] at e; cases e; exact absurd ⟨_, rfl⟩ hq
            | quoted e _ hl => rw [hst] at e; cases e; rw [whQ]; exact ⟨_, hl, rfl⟩
          subst hn7
          refine wpAny_execs_cons (Assign_Tuple (Call_ (ld_global_at F8' G.T.g (mg_of G.X G.T.g g1) (callWith_K G.X g2 (spliced_more (Subscript_ (wpAny_Name (wpAny_loadName_local rfl rfl F8'.ns mr7 (wpAny_Slice ?_)))))) rfl rfl (by decide)) rfl) rfl rfl)
          rw [evalPart_some]
          refine wpAny_Constant_int (wpAny_pure (wpAny_pure ?_))
          dsimp only
          refine slice_strN_sn (s := { s with heap := h8', toks := _ }) F8' N8' (fun h9' t9' k9' F9' N9' => ?_) rfl (fun _ => rfl) (by rw [len_ofL, sizeLine_eq]; simp only [List.length_cons]; omega)
          rw [show Txt.slice (ofL (34 :: r0)) (some (1 : Int)) none = ofL r0 from slice_from 1 (34 :: r0) (by simp)]
          dsimp only
          refine spliced_more (wpAny_Constant_str (spliced_none ⟨G.X.keeps F9'.keep, ?_⟩))
          refine wordL_K (env := _) G.B F9' G.X G.T (Around.frames_deeper G.B.stack) rfl rfl ?_ hh N9' XB TB D ?_ ?_ zeroQ hlw ?_
          · show A.depth + 1 + 28 < recursionLimit
            omega
          · omega
          · exact fun x hx => hal x (hc7 x (.tail _ hx))
          intro g' aw s1 s2 s3 h8 tk8 TT F8 B8 N8 ap8
          refine unpackN_ F8 N8 (N8.isTup (.head _)) hh rfl rfl fun h9 F9 N9 => ?_
          refine assignInOrder_cons (wpAny_assign_Name (stN F9 N9 fun h10 F10 N10 => ?_))
          refine assignInOrder_cons (wpAny_assign_Name (stN F10 N10 fun h11 F11 N11 => ?_))
          refine assignInOrder_cons (wpAny_assign_Name (stN F11 N11 fun h12 F12 N12 => ?_))
          refine assignInOrder_nil (wpAny_execs_nil (wpAny_execs_nil ?_))
          dsimp only
          refine wpAny_execs_cons (nlRet (s := { s with heap := h12, toks := _ }) (b := b) (W := W) (tw := t3) (k := k) (r := r) (n0 := n7) (d := kq - 1) (tk := s1) (tl := s2) (tn := tn7) (td := s3) F12 (((M7.set (by decide) (by decide) (by decide)).set (by decide) (by decide) (by decide)).set (by decide) (by decide) (by decide)) rfl rfl (by show A.units + 3 + 67 < cLine; omega) N12 (.tail _ (.tail _ (.head _))) hkok rfl rfl rfl rfl rfl rfl rfl ?_ ?_ ?_ ?_ fun a' q1 q2 q3 h13 tk13 F13 N13 => ?_)
          rotate_right
          · exact hR g' a' q1 q2 q3 h13 tk13 TT (Ke.of_fr F13) fun q hq => by
              rw [List.mem_singleton.mp hq]
              exact ⟨(N13 _ (.head _)).1, (N13 _ (.head _)).2.2⟩
          · rw [if_neg (by decide), if_neg (by decide)]; exact if_pos rfl
          · rw [if_neg (by decide)]; exact if_pos rfl
          · rw [if_neg (by decide), if_neg (by decide), if_neg (by decide)]; exact mn7
          · exact if_pos rfl
      · rw [if_pos (by rw [bne_iff_ne]; exact fun e => h34 (by have h' : [c] = [34] := congrArg sL e; simpa using h'))]
        obtain ⟨kq, hlw, hn7⟩ : ∃ kq, LWd (whW W) (c :: r0) 1 k r kq ∧ n = n7 + (kq - 1) := by
          cases hnx with
          | fin e => rw [hst] at e; cases e
          | plain e _ hl => rw [hst] at e; cases e; exact ⟨_, hl, rfl⟩
          | empty e => rw [hst] at e; cases e; exact absurd rfl h34
          | quoted e => rw [hst] at e; cases e; exact absurd rfl h34
        subst hn7
        refine wpAny_execs_cons (Assign_Tuple (Call_ (ld_global_at F7 G.T.g (mg_of G.X G.T.g g1) (callWith_K G.X g2 (spliced_more (wpAny_Name (wpAny_loadName_local rfl rfl F7.ns mr7 (spliced_more (wpAny_Name (wpAny_loadName_local rfl rfl F7.ns M7.whites (spliced_none ⟨G.X.keeps F7.keep, ?_⟩)))))))) rfl rfl (by decide)) rfl) rfl rfl)
        refine wordL_K (env := _) G.B F7 G.X G.T (Around.frames_deeper G.B.stack) rfl rfl ?_ hh N7 XB TB D ?_ ?_ hz hlw ?_
        · show A.depth + 1 + 28 < recursionLimit
          omega
        · simp only [List.length_cons]; omega
        · exact fun x hx => hal x (hc7 x hx)
        intro g' aw s1 s2 s3 h8 tk8 TT F8 B8 N8 ap8
        refine unpackN_ F8 N8 (N8.isTup (.head _)) hh rfl rfl fun h9 F9 N9 => ?_
        refine assignInOrder_cons (wpAny_assign_Name (stN F9 N9 fun h10 F10 N10 => ?_))
        refine assignInOrder_cons (wpAny_assign_Name (stN F10 N10 fun h11 F11 N11 => ?_))
        refine assignInOrder_cons (wpAny_assign_Name (stN F11 N11 fun h12 F12 N12 => ?_))
        refine assignInOrder_nil (wpAny_execs_nil ?_)
        dsimp only
        refine wpAny_execs_cons (nlRet (s := { s with heap := h12, toks := _ }) (b := b) (W := W) (tw := t3) (k := k) (r := r) (n0 := n7) (d := kq - 1) (tk := s1) (tl := s2) (tn := tn7) (td := s3) F12 (((M7.set (by decide) (by decide) (by decide)).set (by decide) (by decide) (by decide)).set (by decide) (by decide) (by decide)) rfl rfl (by show A.units + 3 + 67 < cLine; omega) N12 (.tail _ (.tail _ (.head _))) hkok rfl rfl rfl rfl rfl rfl rfl ?_ ?_ ?_ ?_ fun a' q1 q2 q3 h13 tk13 F13 N13 => ?_)
        rotate_right
        · exact hR g' a' q1 q2 q3 h13 tk13 TT (Ke.of_fr F13) fun q hq => by
            rw [List.mem_singleton.mp hq]
            exact ⟨(N13 _ (.head _)).1, (N13 _ (.head _)).2.2⟩
        · rw [if_neg (by decide), if_neg (by decide)]; exact if_pos rfl
        · rw [if_neg (by decide)]; exact if_pos rfl
        · rw [if_neg (by decide), if_neg (by decide), if_neg (by decide)]; exact mn7
        · exact if_pos rfl
end Mine
end

section
open PySem PySem.W PyProof.Rows PySem.Calls
set_option Elab.async false
set_option maxRecDepth 100000
set_option maxHeartbeats 8000000
namespace Mine
/-- what is left, and the row, behind j words -/
noncomputable def gst (wh : Nat → Bool) (l : List Nat) (ln : Int) : Nat → List Nat × Int
  | 0 => (l, ln)
  | j + 1 => ((ns wh (gst wh l ln j).1 (gst wh l ln j).2).2.1, (ns wh (gst wh l ln j).1 (gst wh l ln j).2).2.2)
/-- the word number j -/
noncomputable def gwd (wh : Nat → Bool) (l : List Nat) (ln : Int) (j : Nat) : List Nat := (ns wh (gst wh l ln j).1 (gst wh l ln j).2).1
theorem gst_ns (wh : Nat → Bool) (l : List Nat) (ln : Int) (j : Nat) : ns wh (gst wh l ln j).1 (gst wh l ln j).2 = (gwd wh l ln j, (gst wh l ln (j + 1)).1, (gst wh l ln (j + 1)).2) := rfl
noncomputable abbrev lstY (ys : List Value) : Obj := { cls := .type "list", data := .seq ys.toArray ys.length }
/-- the given words, as a list of tuples -/
inductive GR (wh : Nat → Bool) (l : List Nat) (ln : Int) : Nat → List Value → List (Addr × Obj) → Prop
  | nil : GR wh l ln 0 [] []
  | app {j items ft x u1 u2} : GR wh l ln j items ft → (∀ q ∈ ft, q.1 ≠ x) → GR wh l ln (j + 1) (items ++ [.ref x]) ((x, tupO [.str (ofL (gwd wh l ln j)) u1, .int (gst wh l ln (j + 1)).2 u2]) :: ft)
theorem GR.length {wh : Nat → Bool} {l : List Nat} {ln : Int} {j : Nat} {items : List Value} {ft : List (Addr × Obj)} (h : GR wh l ln j items ft) : items.length = j := by
  induction h with
  | nil => rfl
  | app _ _ ih => simp [ih]
theorem news_one {g : Heap} {L : Addr} {h h1 : Heap} {a b rest : List (Addr × Obj)} {I : Addr} {o o1 : Obj} (N : News g L h (a ++ (b ++ (I, o) :: rest))) (hs : Heap.SameBut I h h1) (ho : h1.get? I = some o1) (ha : ∀ p ∈ a, p.1 ≠ I) (hb : ∀ p ∈ b, p.1 ≠ I) (hr : ∀ p ∈ rest, p.1 ≠ I) : News g L h1 (a ++ (b ++ (I, o1) :: rest)) := by
  have old : ∀ p ∈ a ++ (b ++ (I, o) :: rest), p.1 ≠ I → h1.get? p.1 = some p.2 ∧ p.1 ≠ L ∧ g.get? p.1 = none := fun p hp e => ⟨(hs.2 p.1 e).trans (N p hp).1, (N p hp).2⟩
  intro p hp
  rcases List.mem_append.mp hp with z | z
  · exact old p (List.mem_append_left _ z) (ha p z)
  · rcases List.mem_append.mp z with z | z
    · exact old p (List.mem_append_right _ (List.mem_append_left _ z)) (hb p z)
    · rcases List.mem_cons.mp z with rfl | z
      · exact ⟨ho, (N (I, o) (List.mem_append_right _ (List.mem_append_right _ (.head _)))).2⟩
      · exact old p (List.mem_append_right _ (List.mem_append_right _ (.tail _ z))) (hr p z)
theorem nx_ne {x dx pb : Addr} {i : IO} {es : List DictEntry} {p t6 : Nat} {I : Addr} (h : I ∉ [x, dx, i.io, i.dio, pb]) : ∀ q ∈ nxLed x dx pb i es p t6, q.1 ≠ I := fun q hq e => h (by
  rw [← e]
  exact List.mem_map_of_mem (f := fun z : Addr × Obj => z.1) hq)
theorem ne_nx {x dx pb : Addr} {i : IO} {es : List DictEntry} {p t6 : Nat} {I : Addr} (h : ∀ q ∈ nxLed x dx pb i es p t6, q.1 ≠ I) : I ∉ [x, dx, i.io, i.dio, pb] := fun hm => by
  obtain ⟨q, hq, e⟩ := List.mem_map.mp (show I ∈ (nxLed x dx pb i es p t6).map (·.1) from hm)
  exact h q hq e
noncomputable abbrev rgI (x left : Int) : Obj := { cls := .type "range_iterator", dict := none, data := .fields #[rawInt x, rawInt left, rawInt 1], slots := #[] }
/-- ahead of a turn of _law_given's loop -/
structure GVI (g : Heap) (L : Addr) (x dx pb : Addr) (i : IO) (W : Str) (I D : Addr) (l : List Nat) (j left : Nat) (h : Heap) (m : Str → Option Value) (es : List DictEntry) (p t6 : Nat) (items : List Value) (ft : List (Addr × Obj)) : Prop where
  F : Fr g L h m
  ml : m (Str.ofString "lexer") = some (.ref x)
  mg : m (Str.ofString "given") = some (.ref D)
  hp : p ≤ i.buf.length
  hno : NxF W i pb (gst (whW W) l 1 j).2 es
  hbuf : (sL i.buf).drop p = (gst (whW W) l 1 j).1
  N : News g L h (nxLed x dx pb i es p t6 ++ ((I, rgI j left) :: (D, lstY items) :: ft))
  gr : GR (whW W) l 1 j items ft
  a1 : ∀ q ∈ (I, rgI j left) :: (D, lstY items) :: ft, q.1 ∉ [x, dx, i.io, i.dio, pb]
  a2 : ∀ q ∈ ft, q.1 ≠ D ∧ q.1 ≠ I
  a3 : I ≠ D
theorem gv_K (w : World) : nsIn (hd.heap_39 w.params) mainGlobals "_netrclex" = some (some (.ref 77)) ∧ nsIn (hd.heap_39 w.params) mainGlobals "shlex" = some (some (.ref 764)) ∧ nsIn (hd.heap_39 w.params) mainGlobals "len" = some none ∧ nsIn (hd.heap_39 w.params) mainGlobals "range" = some none ∧ keepIn (hd.heap_39 w.params) (.ref 77) = true ∧ keepIn (hd.heap_39 w.params) (.ref 764) = true := by
  have e : PySem.Challenge.rw_om0137_02 = PySem.Challenge.rw_om0137_02 := rfl
  revert e
  k_fill
  intro _
  refine ⟨?_, ?_, ?_, ?_, ?_, ?_⟩ <;> k_is
noncomputable def nlfv (ln wv : V) : List (Str × V) := [("lineno", ln), ("instream", .obj 0), ("whitespace", wv), ("pushback", .obj 1)]
theorem nset {ln v : V} {wc : Nat} {wb : Bool} : setS (Str.ofString "whitespace") v (nlf ln wc wb) = nlfv ln v := by kernel_rfl
theorem nsome {ln : V} {wc : Nat} {wb : Bool} : (lookS (Str.ofString "whitespace") (nlf ln wc wb)).isSome = true := by kernel_rfl
theorem nlfw_conv {Γ Γ' : Cx} {W : Str} (hW : Γ'.W = W) (h4 : Γ'.refs = Γ.refs) (hl : Γ'.ln0 = Γ.ln0) (h0 : has W (sg 0) = false) :
    Conv Γ Γ' (nlfv (.row 0) (.str (sL W))) (nlf (.row 0) 0 false) := by
  have ho : ∀ k u, Rep Γ (.obj k) u → Rep Γ' (.obj k) u := fun k u h => by simp only [Rep] at h ⊢; rw [h4]; exact h
  have hr : ∀ u, Rep Γ (.row 0) u → Rep Γ' (.row 0) u := fun u h => by simp only [Rep] at h ⊢; rw [hl]; exact h
  have hw : ∀ u, Rep Γ (.str (sL W)) u → Rep Γ' (.whites 0 false) u := fun u h => by
    obtain ⟨t, rfl⟩ := h
    exact ⟨by rw [hW]; exact h0, t, by rw [hW, ofL_sL]⟩
  exact .cons hr (.cons (ho 0) (.cons hw (.cons (ho 1) .nil)))
end Mine
end

section
open PySem PySem.W PyProof.Rows PySem.Calls
set_option Elab.async false
set_option maxRecDepth 100000
set_option maxHeartbeats 8000000
namespace Mine
theorem fits_of {i : Int} (h1 : -1000000 ≤ i) (h2 : i ≤ 1000000) : Builtin.Range.rangeFitsLong i = true := by
  unfold Builtin.Range.rangeFitsLong
  rw [Bool.and_eq_true, decide_eq_true_eq, decide_eq_true_eq]
  omega
theorem small_one {n : Nat} (h : n ≤ 2000) : Builtin.Range.small 0 (n : Int) 1 = true ∧ Builtin.Range.rangeSize 0 (n : Int) 1 = (n : Int) := by
  have e : Builtin.Range.rangeSize 0 (n : Int) 1 = if (0 : Int) < (n : Int) then ((n : Int) - 0 - 1) / 1 + 1 else 0 := by
    unfold Builtin.Range.rangeSize
    rw [if_pos (by decide)]
  have hk : Builtin.Range.rangeSize 0 (n : Int) 1 = (n : Int) := by
    rw [e]; split <;> omega
  refine ⟨?_, hk⟩
  have f1 := fits_of (i := 0) (by omega) (by omega)
  have f2 := fits_of (i := (n : Int)) (by omega) (by omega)
  have f3 := fits_of (i := 1) (by omega) (by omega)
  have f5 := fits_of (i := (n : Int) + (1 - 1)) (by omega) (by omega)
  unfold Builtin.Range.small
  rw [hk, f1, f2, f3, if_pos (by decide), f5]
  simp
theorem givenL_ok (w : World) {s : Shared} {A : Around} {base g : Heap} {fr : List Env} {mg mb : Str → Option Value} {mean : ExcName → Option Value} {text : List Nat} {W : Str} {t tw : Nat} {R : Result → Shared → Prop}
    (G : Gd w A base fr mean mg mb g) (hroom : A.depth + 24 < recursionLimit) (hh : A.handled = none) (k : Ke g s.heap) (hlen : text.length ≤ 900) (hz : has W (sg 0) = false)
    (hR : ∀ D items ft h' tk, Ke g h' → Sub g h' ((D, lstY items) :: ft) → GR (whW W) text 1 (text.length + 1) items ft → (∀ q ∈ ft, q.1 ≠ D) → R (.ok (.ret (.ref D))) { s with heap := h', toks := tk }) :
    codeAny (model PySem.Challenge.rw_om0137_02.row.prog w) A (.call (.ref 796) ⟨[.str (ofL text) t, .str W tw], []⟩) R s := by
  have S : Sub g s.heap [] := fun _ hp => nomatch hp
  obtain ⟨g1, g2, g3, g4, g5, g6⟩ := gv_K w
  have X := G.X
  have hA := G.B.stack
  revert X
  k_fill
  intro X
  refine' enterG G S k ?k6 ?k7 ?k8 ?k9 ?kB ?_ ?c2 ?c3 ?c4 ?c5
  case k6 => k_is
  case k7 => k_is
  case k8 => omega
  case k9 => first | exact BindsTo.of_eq rfl | exact binds_K (Frag.In.keeps X k.keep) rfl (by k_is) rfl rfl rfl
  case kB => exact rfl
  case c2 => decide
  case c3 => exact rfl
  case c4 => exact rfl
  case c5 => exact rfl
  intro L' h₁ F N hlt
  have hl0 : text.length = (ofL text).length := (len_ofL text).symm
  refine wpAny_execs_cons (wpAny_Assign_Name (Call_ (ld_global_at F G.T.g (mg_of G.X G.T.g g1) (callWith_K G.X g5 (spliced_more (Attribute_any_ (Call_ (ld_global_at F G.T.g (mg_of G.X G.T.g g2) (callWith_K G.X g6 (spliced_more (wpAny_Name (wpAny_loadName_local rfl rfl F.ns rfl (spliced_none ⟨G.X.keeps F.keep, ?_⟩))))) rfl rfl (by decide)) rfl)))) rfl rfl (by decide)) rfl) rfl)
  refine mkNp_K (env := _) G.B F G.X N G.T (Around.frames_deeper G.B.stack) rfl rfl ?_ hh (by rw [len_ofL]; omega) ?_
  · simp only [depth_deeper]; omega
  intro x0 dx0 i hs0 kt0 t60 es0 h2 tk2 hib hid F2 N2 ap2
  refine get_own F2 G.X (InstAt.of_news N2 (.head _) (.tail _ (.head _))) (cls_lex w).1 (cls_lex w).2.1 (find_lex w "instream" (by decide)).1 rfl (v := .ref i.io) ?_ rfl (spliced_none ⟨G.X.keeps F2.keep, ?_⟩)
  · unfold getL
    rw [List.find?_cons_of_pos (by simp [Value.isStr])]
  have N3 : News g L' h2 (i.led 0 t60 ++ []) := fun q hq => N2 q (by
    simp only [IO.led, List.cons_append, List.nil_append, List.mem_cons, List.not_mem_nil, or_false] at hq ⊢
    rcases hq with z | z <;> simp [z])
  refine mkNx_K (env := _) G.B F2 G.X N3 G.T (Around.frames_deeper G.B.stack) rfl rfl ?_ hh hid (fun p hp r hr => nomatch hr) ?_
  · simp only [depth_deeper]; omega
  intro x dx pb es t6 h3 tk3 d1 d2 F3 fr3 N4 _
  rw [List.append_nil] at N4
  dsimp only
  refine stN F3 N4 fun h4 F4o N5 => ?_
  obtain ⟨m4, F4, ml4, mt4, mw4⟩ : ∃ m, Fr g L' h4 m ∧ m (Str.ofString "lexer") = some (.ref x) ∧ m (Str.ofString "text") = some (.str (ofL text) t) ∧ m (Str.ofString "whites") = some (.str W tw) := ⟨_, F4o, if_pos rfl, by rw [if_neg (by decide)]; rfl, by rw [if_neg (by decide)]; rfl⟩
  clear F4o F3 N4 F2 N2 N3 F N
  dsimp only
  obtain ⟨Γ, e1, e2, e3, wc, wb, FR⟩ := fr3
  have hled : ∀ p ∈ i.led 0 t6 ++ [(pb, listE)], p.1 ≠ dx := fun p hp => by
    simp only [IO.led, List.cons_append, List.nil_append, List.mem_cons, List.not_mem_nil, or_false] at hp
    rcases hp with z | z | z <;> rw [z]
    · exact d1.2.2.2.1
    · exact d1.2.2.2.2.2
    · exact d2.2.1
  refine wpAny_execs_cons (plainObj_wpAny_Assign_Attribute (wpAny_Name (wpAny_loadName_local rfl rfl F4.ns mw4 (wpAny_Name (wpAny_loadName_local rfl rfl F4.ns ml4 (fset_K (s := { s with heap := h4, toks := _ }) (v := .str (sL W)) F4 G.X FR nsome ⟨_, by rw [ofL_sL]⟩ (cls_nx w).2.2.1 (cls_nx w).2.2.2 (find_nx w "whitespace" (by decide)).2 (cls_nx w).2.1 N5 d1.1 hled (by show 4 ≤ 100; omega) ?_))))) rfl)
  intro es5 h5 FR5 F5 N6
  rw [nset] at FR5
  have fr5 : NxF W i pb 1 es5 := ⟨{ Γ with W := W }, rfl, e2, e3, 0, false, FldRep.conv (nlfw_conv (Γ := Γ) (Γ' := { Γ with W := W }) (W := W) rfl rfl rfl hz) FR5⟩
  dsimp only
  refine wpAny_execs_cons (wpAny_Assign_Name (List_ (spliced_none (newList_N (s := { s with heap := h5, toks := _ }) F5 N6 (fun h6 F6 N7 => ?_) ?_))) rfl)
  rotate_left
  · show 0 ≤ _
    omega
  have hD : ∀ q ∈ nxLed x dx pb i es5 0 t6, q.1 ≠ h5.objs.size := fun q hq => Nat.ne_of_lt (Heap.lt_size (N6 q hq).1)
  refine stN F6 N7 fun h7 F7o N8 => ?_
  obtain ⟨m7, F7, ml7, mg7, mt7⟩ : ∃ m, Fr g L' h7 m ∧ m (Str.ofString "lexer") = some (.ref x) ∧ m (Str.ofString "given") = some (.ref h5.objs.size) ∧ m (Str.ofString "text") = some (.str (ofL text) t) := ⟨_, F7o, by rw [if_neg (by decide)]; exact ml4, if_pos rfl, by rw [if_neg (by decide)]; exact mt4⟩
  clear F7o F6 N7 F5 F4 N5
  dsimp only at N8 ⊢
  generalize h5.objs.size = D at *
  refine wpAny_execs_cons (wpAny_For (Call_ (ld_builtin_at F7 G.T.g (mg_none_of G.X G.T.g g4) G.T.b ((G.T.builtins _ (by decide)).trans (by boot_by_name)) ?_ rfl rfl (by decide)) rfl))
  refine PyProof.Rows.callWith_type1 (spliced_more (wpAny_BinOp (Call_ (ld_builtin_at F7 G.T.g (mg_none_of G.X G.T.g g3) G.T.b ((G.T.builtins _ (by decide)).trans (by boot_by_name)) ?_ rfl rfl (by decide)) rfl)))
  refine PyProof.Rows.callWith_builtin1 (spliced_more (wpAny_Name (wpAny_loadName_local rfl rfl F7.ns mt7 (spliced_none ?_))))
  refine len_str (by rw [len_ofL]; omega) ?_
  rw [len_ofL]
  refine wpAny_Constant_int (PyProof.Rows.add_int (spliced_none ?_))
  dsimp only
  refine range1_rows (s := { s with heap := h7, toks := _ }) F7 N8 (fun h8 tk8 t81 t82 t83 hr8 F8 N9 hk8 => ?_)
  have hn1 : ((text.length : Int) + 1) = ((text.length + 1 : Nat) : Int) := by omega
  rw [hn1] at hr8
  obtain ⟨hsm, hsz⟩ := small_one (n := text.length + 1) (by omega)
  refine wpAny_pyIter_range hr8 hsm ?_
  rw [hsz]
  dsimp only
  have N10 := N9.push F8 (rgI 0 ((text.length + 1 : Nat) : Int))
  have F10 := F8.push (rgI 0 ((text.length + 1 : Nat) : Int))
  have hIx : ∀ q ∈ (D, lstY []) :: nxLed x dx pb i es5 0 t6, q.1 ≠ h8.objs.size := fun q hq => Nat.ne_of_lt (Heap.lt_size (N9 q hq).1)
  generalize h8.objs.size = I at *
  have hbl : i.buf.length = text.length := by rw [hib, len_ofL]
  have K : NxS x dx pb i := ⟨⟨⟨d1.2.1, d1.2.2⟩, d1.1, rfl, by omega⟩, d2⟩
  have hI0 : GVI g L' x dx pb i W I D text 0 (text.length + 1) (h8.push (rgI 0 ((text.length + 1 : Nat) : Int))) m7 es5 0 t6 [] [] := by
    refine ⟨F10, ml7, mg7, Nat.zero_le _, fr5, by rw [List.drop_zero, hib]; rfl, ?_, .nil, ?_, (fun _ h => nomatch h), ?_⟩
    · intro q hq
      refine N10 q ?_
      rcases List.mem_append.mp hq with z | z
      · exact .tail _ (.tail _ z)
      · rcases List.mem_cons.mp z with rfl | z
        · exact .head _
        · rw [List.mem_singleton.mp z]; exact .tail _ (.head _)
    · intro q hq
      rcases List.mem_cons.mp hq with rfl | hq
      · exact ne_nx fun p hp => hIx p (.tail _ hp)
      · rw [List.mem_singleton.mp hq]
        exact ne_nx hD
    · exact fun e => hIx (D, lstY []) (.head _) e.symm
  clear N10 F10 N9 F8 hr8 N8 F7 hk8
  refine codeAny_forLoop_any (fun n s' => ∃ j h tk m es p t6 items ft, j + n = text.length + 1 ∧ s' = { s with heap := h, toks := tk } ∧ GVI g L' x dx pb i W I D text j n h m es p t6 items ft) ?_ (text.length + 1) ⟨0, _, _, m7, es5, 0, t6, [], [], by omega, rfl, hI0⟩
  clear hI0 hIx hD hled mt7 ml7 mg7 mt4 mw4 ml4
  rintro n s1 ⟨j, h, tk, m, es, p, t6, items, ft, hj, rfl, Z⟩
  have hitN := Z.N (I, rgI j n) (List.mem_append_right _ (.head _))
  cases n with
  | zero =>
    refine wpAny_pyNext_range_end (x := (j : Int)) (left := ((0 : Nat) : Int)) (step := 1) hh hitN.1 (by omega) fun h1 he => wpAny_execs_nil ?_
    have F1 : Fr g L' h1 m := ⟨Z.F.ns.extBut he (fun e => hitN.2.1 e.symm), fun b ob hb => he b ob (fun e => by rw [e, hitN.2.2] at hb; cases hb) (Z.F.keep b ob hb), Z.F.above⟩
    dsimp only
    refine wpAny_execs_cons (wpAny_Return_some (wpAny_Name (wpAny_loadName_local rfl rfl F1.ns Z.mg ?_)))
    have hgr := Z.gr
    obtain rfl : j = text.length + 1 := by omega
    refine hR D items ft h1 _ (Ke.of_fr F1) (fun q hq => ?_) hgr fun q hq => (Z.a2 q hq).1
    have hqN := Z.N q (List.mem_append_right _ (.tail _ hq))
    refine ⟨he _ _ (fun e => ?_) hqN.1, hqN.2.2⟩
    rcases List.mem_cons.mp hq with rfl | hq
    · exact Z.a3 e.symm
    · exact (Z.a2 q hq).2 e
  | succ n =>
    refine wpAny_pyNext_range_item (x := (j : Int)) (left := ((n + 1 : Nat) : Int)) (step := 1) hitN.1 (by omega) fun h1 hit1 hs1 => ?_
    have hit1' : h1.get? I = some (rgI ((j + 1 : Nat) : Int) (n : Int)) := by
      have e1 : (j : Int) + 1 = ((j + 1 : Nat) : Int) := by omega
      have e2 : ((n + 1 : Nat) : Int) - 1 = (n : Int) := by omega
      rw [e1, e2] at hit1
      exact hit1
    have hIN : I ∉ [x, dx, i.io, i.dio, pb] := Z.a1 _ (.head _)
    have hDN : D ∉ [x, dx, i.io, i.dio, pb] := Z.a1 _ (.tail _ (.head _))
    have hRI : ∀ q ∈ (D, lstY items) :: ft, q.1 ≠ I := fun q hq => by
      rcases List.mem_cons.mp hq with rfl | hq
      · exact fun e => Z.a3 e.symm
      · exact (Z.a2 q hq).2
    have N1 : News g L' h1 (nxLed x dx pb i es p t6 ++ ([] ++ (I, rgI ((j + 1 : Nat) : Int) (n : Int)) :: (D, lstY items) :: ft)) := news_one (b := []) Z.N hs1 hit1' (nx_ne hIN) (fun _ h => nomatch h) hRI
    have F1 := Z.F.change hs1 hitN.2.1 hitN.2.2
    refine wpAny_of_eq (a := ()) rfl (wpAny_assign_Name (stN F1 N1 fun h2 F2o N2 => ?_))
    obtain ⟨m2, F2, ml2, mg2⟩ : ∃ m, Fr g L' h2 m ∧ m (Str.ofString "lexer") = some (.ref x) ∧ m (Str.ofString "given") = some (.ref D) := ⟨_, F2o, by rw [if_neg (by decide)]; exact Z.ml, by rw [if_neg (by decide)]; exact Z.mg⟩
    have hap : ∀ r ∈ [] ++ (I, rgI ((j + 1 : Nat) : Int) (n : Int)) :: (D, lstY items) :: ft, r.1 ∉ [x, dx, i.io, i.dio, pb] := fun r hr => by
      rcases List.mem_cons.mp hr with rfl | hr
      · exact hIN
      · exact Z.a1 r (.tail _ hr)
    clear F2o F1 N1 hit1 hit1' hs1 hitN
    dsimp only
    refine wpAny_execs_cons (wpAny_Assign_Name (MethodCall_ (wpAny_Name (wpAny_loadName_local rfl rfl F2.ns ml2 (nmeth_K F2 G.X Z.hno N2 (callWith_K0 (G.X.keeps F2.keep) (gt_K w).1.2.2 ?_)))) rfl) rfl)
    refine nget_K (env := _) G.B F2 G.X G.T (Around.frames_deeper G.B.stack) rfl rfl ?_ hh K Z.hp Z.hno N2 hap ?_
    · simp only [depth_deeper]; omega
    intro p' tok' ln' es' t6' h3 tk3 t3 hp' htl hns hno' F3 N3
    rw [Z.hbuf] at hns
    have hg := (gst_ns (whW W) text 1 j).symm.trans hns
    simp only [Prod.mk.injEq] at hg
    obtain ⟨hg1, hg2, hg3⟩ := hg
    subst hg1 hg3
    refine stN F3 N3 fun h4 F4o N4 => ?_
    obtain ⟨m4, F4, ml4, mg4, mw4⟩ : ∃ m, Fr g L' h4 m ∧ m (Str.ofString "lexer") = some (.ref x) ∧ m (Str.ofString "given") = some (.ref D) ∧ m (Str.ofString "word") = some (.str (ofL (gwd (whW W) text 1 j)) t3) := ⟨_, F4o, by rw [if_neg (by decide)]; exact ml2, by rw [if_neg (by decide)]; exact mg2, if_pos rfl⟩
    clear F4o F3 N3 F2 N2
    dsimp only
    have hDm : (D, lstY items) ∈ nxLed x dx pb i es' p' t6' ++ ([] ++ (I, rgI ((j + 1 : Nat) : Int) (n : Int)) :: (D, lstY items) :: ft) := List.mem_append_right _ (.tail _ (.head _))
    refine wpAny_execs_cons (wpAny_Expr_any (MethodCall_ (wpAny_Name (wpAny_loadName_local rfl rfl F4.ns mg4 (getMethod_list_append (N4 _ hDm).1 rfl rfl ?_))) rfl) rfl rfl)
    refine Calls.callWith_builtin rfl (Calls.evalArgs_plain (spliced_more (Tuple_ ?_)))
    refine spliced_more (wpAny_Name (wpAny_loadName_local rfl rfl F4.ns mw4 ?_))
    refine spliced_more (Attribute_Name_ (wpAny_Name (wpAny_loadName_local rfl rfl F4.ns ml4 (nline_K (s := { s with heap := h4, toks := _ }) F4 G.X hno' N4 fun t7 => ?_))))
    refine spliced_none (newTuple_N (s := { s with heap := h4, toks := _ }) F4 N4 (fun h5 F5 N5 => ?_) ?_)
    · have hfresh : ∀ q ∈ nxLed x dx pb i es' p' t6' ++ ([] ++ (I, rgI ((j + 1 : Nat) : Int) (n : Int)) :: (D, lstY items) :: ft), q.1 ≠ h4.objs.size := fun q hq => Nat.ne_of_lt (Heap.lt_size (N4 q hq).1)
      dsimp only at N5 ⊢
      generalize h4.objs.size = T at *
      refine spliced_none (append_at (N5 _ (.tail _ hDm)).1 (fun h6 hs6 hD6 => ?_) ?_)
      · have hT : ∀ q ∈ (I, rgI ((j + 1 : Nat) : Int) (n : Int)) :: (D, lstY items) :: ft, q.1 ≠ T := fun q hq => hfresh q (List.mem_append_right _ hq)
        have hD6' : h6.get? D = some (lstY (items ++ [.ref T])) := by
          rw [hD6]
          show some ({ cls := .type "list", data := .seq (items.toArray.push (.ref T)) (items.length + 1) } : Obj) = some { cls := .type "list", data := .seq (items ++ [Value.ref T]).toArray (items ++ [Value.ref T]).length }
          rw [List.length_append, List.length_singleton, List.push_toArray]
        have N5' : News g L' h5 (nxLed x dx pb i es' p' t6' ++ ([(I, rgI ((j + 1 : Nat) : Int) (n : Int))] ++ (D, lstY items) :: (T, tupO [.str (ofL (gwd (whW W) text 1 j)) t3, .int (gst (whW W) text 1 (j + 1)).2 t7]) :: ft)) := fun q hq => N5 q (by
          simp only [List.mem_append, List.mem_cons, List.not_mem_nil, or_false, List.nil_append] at hq ⊢
          rcases hq with z | z | z | z | z
          · exact .inr (.inl z)
          · exact .inr (.inr (.inl z))
          · exact .inr (.inr (.inr (.inl z)))
          · exact .inl z
          · exact .inr (.inr (.inr (.inr z))))
        have N6 : News g L' h6 (nxLed x dx pb i es' p' t6' ++ ((I, rgI ((j + 1 : Nat) : Int) (n : Int)) :: (D, lstY (items ++ [.ref T])) :: (T, tupO [.str (ofL (gwd (whW W) text 1 j)) t3, .int (gst (whW W) text 1 (j + 1)).2 t7]) :: ft)) := news_one N5' hs6 hD6' (nx_ne hDN) (fun q hq => by rw [List.mem_singleton.mp hq]; exact Z.a3) (fun q hq => by
          rcases List.mem_cons.mp hq with rfl | hq
          · exact fun e => hT (D, lstY items) (.tail _ (.head _)) e.symm
          · exact (Z.a2 q hq).1)
        have hDN5 := N5' (D, lstY items) (List.mem_append_right _ (.tail _ (.head _)))
        have F6 := F5.change hs6 hDN5.2.1 hDN5.2.2
        refine wpAny_execs_nil ⟨n, by omega, j + 1, h6, _, m4, es', p', t6', items ++ [.ref T], _ :: ft, by omega, rfl, ⟨F6, ml4, mg4, hp', hno', hg2.symm, N6, .app Z.gr (fun q hq => hT q (.tail _ (.tail _ hq))), ?_, ?_, Z.a3⟩⟩
        · intro q hq
          rcases List.mem_cons.mp hq with rfl | hq
          · exact hIN
          · rcases List.mem_cons.mp hq with rfl | hq
            · exact hDN
            · rcases List.mem_cons.mp hq with rfl | hq
              · exact ne_nx fun p hp => hfresh p (List.mem_append_left _ hp)
              · exact Z.a1 q (.tail _ (.tail _ hq))
        · intro q hq
          rcases List.mem_cons.mp hq with rfl | hq
          · exact ⟨fun e => hT (D, lstY items) (.tail _ (.head _)) e.symm, fun e => hT _ (.head _) e.symm⟩
          · exact Z.a2 q hq
      · show items.toArray.size ≤ _
        rw [List.size_toArray, Z.gr.length, sizeLine_eq]; omega
    · show 2 ≤ _
      rw [sizeLine_eq]; omega
end Mine
end

section
set_option Elab.async false
set_option maxRecDepth 100000
set_option maxHeartbeats 4000000
namespace Mine
theorem loopL_sub {stop : Nat → Bool} : ∀ (l tok : List Nat) (ln : Int) {t r : List Nat} {n : Int}, NOis (loopL stop l tok ln) t r n → (∀ c ∈ t, c ∈ tok ∨ c ∈ l) ∧ (∀ c ∈ r, c ∈ l) ∧ r.length ≤ l.length ∧ t.length ≤ tok.length + l.length
  | [], tok, ln, t, r, n, h => by
    simp only [loopL] at h
    rcases h with h | ⟨h, rfl⟩
    · cases h
    · cases h
      exact ⟨fun c hc => .inl hc, fun _ h => (nomatch h), Nat.le_refl _, by simp⟩
  | [c], tok, ln, t, r, n, h => by
    simp only [loopL] at h
    split at h
    · rcases h with h | ⟨h, -⟩
      · cases h
        exact ⟨fun c hc => .inl hc, fun _ h => (nomatch h), by simp, by simp⟩
      · cases h
    · split at h
      · rcases h with h | ⟨h, rfl⟩
        · cases h
        · cases h
          exact ⟨fun c hc => .inl hc, fun _ h => (nomatch h), by simp, by simp⟩
      · rcases h with h | ⟨h, rfl⟩
        · cases h
        · cases h
          refine ⟨fun x hx => ?_, fun _ h => (nomatch h), by simp, by simp⟩
          rcases List.mem_append.mp hx with z | z
          · exact .inl z
          · exact .inr z
  | c :: d :: r', tok, ln, t, r, n, h => by
    simp only [loopL] at h
    split at h
    · rcases h with h | ⟨h, -⟩
      · cases h
        exact ⟨fun c hc => .inl hc, fun x hx => .tail _ hx, by simp, by simp⟩
      · cases h
    · split at h
      · obtain ⟨h1, h2, h3, h4⟩ := loopL_sub r' _ _ h
        refine ⟨fun x hx => ?_, fun x hx => .tail _ (.tail _ (h2 x hx)), by simp only [List.length_cons]; omega, by simp only [List.length_cons, List.length_append, List.length_nil] at h4 ⊢; omega⟩
        rcases h1 x hx with z | z
        · rcases List.mem_append.mp z with z | z
          · exact .inl z
          · rw [List.mem_singleton.mp z]; exact .inr (.tail _ (.head _))
        · exact .inr (.tail _ (.tail _ z))
      · obtain ⟨h1, h2, h3, h4⟩ := loopL_sub (d :: r') _ _ h
        refine ⟨fun x hx => ?_, fun x hx => .tail _ (h2 x hx), by simp only [List.length_cons] at h3 ⊢; omega, by simp only [List.length_cons, List.length_append, List.length_nil] at h4 ⊢; omega⟩
        rcases h1 x hx with z | z
        · rcases List.mem_append.mp z with z | z
          · exact .inl z
          · rw [List.mem_singleton.mp z]; exact .inr (.head _)
        · exact .inr (.tail _ z)
theorem ntok_sub {wh : Nat → Bool} : ∀ (l : List Nat) (ln : Int) {t r : List Nat} {n : Int}, NOis (ntok wh l ln) t r n → (∀ c ∈ t, c ∈ l) ∧ (∀ c ∈ r, c ∈ l) ∧ (l ≠ [] → r.length < l.length) ∧ r.length ≤ l.length
  | [], ln, t, r, n, h => by
    rcases h with h | ⟨h, rfl⟩
    · cases h
    · cases h
      exact ⟨fun _ h => (nomatch h), fun _ h => (nomatch h), fun h => absurd rfl h, Nat.le_refl _⟩
  | c :: r', ln, t, r, n, h => by
    rw [ntok_cons] at h
    split at h
    · obtain ⟨h1, h2, -, h4⟩ := ntok_sub r' _ h
      exact ⟨fun x hx => .tail _ (h1 x hx), fun x hx => .tail _ (h2 x hx), fun _ => by simp only [List.length_cons]; omega, by simp only [List.length_cons]; omega⟩
    · split at h
      · obtain ⟨h1, h2, h3, -⟩ := loopL_sub r' _ _ h
        refine ⟨fun x hx => ?_, fun x hx => .tail _ (h2 x hx), fun _ => by simp only [List.length_cons]; omega, by simp only [List.length_cons]; omega⟩
        rcases h1 x hx with z | z
        · cases z
        · exact .tail _ z
      · split at h
        · cases r' with
          | nil =>
            dsimp only [loopL] at h
            rcases h with h | ⟨h, rfl⟩
            · cases h
            · cases h
              exact ⟨fun _ h => (nomatch h), fun _ h => (nomatch h), fun _ => by simp, by simp⟩
          | cons d r'' =>
            dsimp only at h
            obtain ⟨h1, h2, h3, -⟩ := loopL_sub r'' _ _ h
            refine ⟨fun x hx => ?_, fun x hx => .tail _ (.tail _ (h2 x hx)), fun _ => by simp only [List.length_cons]; omega, by simp only [List.length_cons]; omega⟩
            rcases h1 x hx with z | z
            · rw [List.mem_singleton.mp z]; exact .tail _ (.head _)
            · exact .tail _ (.tail _ z)
        · obtain ⟨h1, h2, h3, -⟩ := loopL_sub r' _ _ h
          refine ⟨fun x hx => ?_, fun x hx => .tail _ (h2 x hx), fun _ => by simp only [List.length_cons]; omega, by simp only [List.length_cons]; omega⟩
          rcases h1 x hx with z | z
          · rw [List.mem_singleton.mp z]; exact .head _
          · exact .tail _ z
theorem gst_sub (wh : Nat → Bool) (l : List Nat) (ln : Int) : ∀ j, (∀ c ∈ (gst wh l ln j).1, c ∈ l) ∧ (gst wh l ln j).1.length ≤ l.length - j
  | 0 => ⟨fun _ h => h, by simp [gst]⟩
  | j + 1 => by
    obtain ⟨h1, h2⟩ := gst_sub wh l ln j
    have h := ntok_sub _ _ (NOis_ns (wh := wh) (l := (gst wh l ln j).1) (ln := (gst wh l ln j).2))
    obtain ⟨-, b, c, d⟩ := h
    refine ⟨fun x hx => h1 x (b x hx), ?_⟩
    show (ns wh (gst wh l ln j).1 (gst wh l ln j).2).2.1.length ≤ _
    by_cases hn : (gst wh l ln j).1 = []
    · rw [hn, List.length_nil] at d
      rw [hn]
      omega
    · have := c hn
      omega
theorem gwd_sub (wh : Nat → Bool) (l : List Nat) (ln : Int) (j : Nat) : ∀ c ∈ gwd wh l ln j, c ∈ l := fun c hc =>
  (gst_sub wh l ln j).1 c ((ntok_sub _ _ (NOis_ns (wh := wh) (l := (gst wh l ln j).1) (ln := (gst wh l ln j).2))).1 c hc)
theorem gst_end (wh : Nat → Bool) (l : List Nat) (ln : Int) : (gst wh l ln (l.length + 1)).1 = [] := by
  have := (gst_sub wh l ln (l.length + 1)).2
  exact List.length_eq_zero_iff.mp (by omega)
/-- the given words, by their places -/
theorem GR.fns {wh : Nat → Bool} {l : List Nat} {ln : Int} {n : Nat} {items : List PySem.Value} {ft : List (PySem.Addr × PySem.Obj)} (h : GR wh l ln n items ft) : ∃ (xs : Nat → PySem.Addr) (u1 u2 : Nat → Nat), (∀ j, j < n → items[j]? = some (PySem.Value.ref (xs j)) ∧ (xs j, tupO [.str (ofL (gwd wh l ln j)) (u1 j), .int (gst wh l ln (j + 1)).2 (u2 j)]) ∈ ft) ∧ ∀ i j, i < n → j < n → xs i = xs j → i = j := by
  induction h with
  | nil => exact ⟨fun _ => 0, fun _ => 0, fun _ => 0, fun j h => absurd h (by omega), fun i j h => absurd h (by omega)⟩
  | @app n items ft x a b hr hf ih =>
    obtain ⟨xs, u1, u2, h1, h2⟩ := ih
    refine ⟨fun j => if j = n then x else xs j, fun j => if j = n then a else u1 j, fun j => if j = n then b else u2 j, fun j hj => ?_, fun i j hi hj e => ?_⟩
    · dsimp only
      by_cases q : j = n
      · subst q
        rw [if_pos rfl, if_pos rfl, if_pos rfl]
        refine ⟨?_, .head _⟩
        rw [List.getElem?_append_right (by rw [hr.length]; omega), hr.length, Nat.sub_self]; rfl
      · rw [if_neg q, if_neg q, if_neg q]
        obtain ⟨e, m⟩ := h1 j (by omega)
        exact ⟨by rw [List.getElem?_append_left (by rw [hr.length]; omega)]; exact e, .tail _ m⟩
    · dsimp only at e
      by_cases qi : i = n <;> by_cases qj : j = n
      · omega
      · rw [if_pos qi, if_neg qj] at e
        exact absurd e.symm (hf _ (h1 j (by omega)).2)
      · rw [if_neg qi, if_pos qj] at e
        exact absurd e (hf _ (h1 i (by omega)).2)
      · rw [if_neg qi, if_neg qj] at e
        exact h2 i j (by omega) (by omega) e
end Mine
end

section
open PySem PySem.W PyProof.Rows PySem.Calls Builtin
set_option Elab.async false
set_option maxRecDepth 100000
set_option maxHeartbeats 8000000
namespace Mine
section
variable {w : World} {s : Shared} {A A₀ : Around} {base h₀ : Heap} {outer : List Env} {mg mb : Str → Option Value} {mean : ExcName → Option Value} {env : Env} {L : Addr} {m : Str → Option Value} {rest : List (Addr × Obj)} {E : Value → Shared → Prop} {Q : Value → Shared → Prop} {l k r : List Nat} {ln n : Int} {W : Str} {a b t1 t2 t3 u1 u2 : Nat}
/-- _law_next(told, one) within a frame -/
theorem nextL_K (B : Below A₀ base outer h₀) (F : Fr h₀ L s.heap m) (X : (hd.heap_39 w.params).In h₀) (T : Top hd.view_39 lo mean mg mb h₀) (hA : A.frames = some (env :: outer)) (hf : env.frame = some L) (hke : env.scope.kind = .function) (hroom : A.depth + 32 < recursionLimit) (hh : A.handled = none) (hu : A.units + 70 < cLine)
    (XB : (hd.heap_39 w.params).In base) (TB : Top hd.view_39 lo mean mg mb base) (D : KtsDicts (outer.filterMap (·.frame)) h₀) (hlen : l.length ≤ 900) (hal : ∀ c ∈ l, c ∈ alpha1) (hz : has W (sg 0) = false) (hns : ns (whW W) l ln = (k, r, n)) (hkc : ∀ c ∈ k, c < 0x110000)
    (N : News h₀ L s.heap ((a, tupO [.bool true, .str (ofL l) t1, .int ln t2, .str W t3]) :: (b, tupO [.str (ofL k) u1, .int n u2]) :: rest)) (hrest : ∀ p ∈ rest, p.1 ≠ a ∧ p.1 ≠ b)
    (h : ∀ h₀' a' q1 q2 q3 h' tk, KtsTurn (outer.filterMap (·.frame)) h₀ h₀' → Fr h₀' L h' m → Below A₀ base outer h₀' → News h₀' L h' ((a', tupO [.bool true, .str (ofL r) q1, .int n q2, .str W q3]) :: rest) → (∀ p ∈ rest, p.1 ≠ a') → Q (.ref a') { s with heap := h', toks := tk }) :
    wpAny (model PySem.Challenge.rw_om0137_02.row.prog w) A (call (.ref 817) [.ref a, .ref b]) Q E s := by
  have NS : News h₀ L s.heap [(a, tupO [.bool true, .str (ofL l) t1, .int ln t2, .str W t3]), (b, tupO [.str (ofL k) u1, .int n u2])] := fun q hq => N q (by
    simp only [List.mem_cons, List.not_mem_nil, or_false] at hq ⊢
    rcases hq with z | z <;> simp [z])
  have NR : News h₀ L s.heap rest := fun q hq => N q (.tail _ (.tail _ hq))
  obtain ⟨gh, G', S', k', D', back⟩ := pushT (A := A) (env := env) B F NS hA hf hke X T D
  refine wpAny_call (nextL_ok w (t4 := 0) G' hroom hh hu k' hlen hal hz hns hkc XB TB D' S' ?_)
  intro g' a' q1 q2 q3 h' tk T' k2 S2
  obtain ⟨h₀', TT, F', B', N', ap⟩ := back rest NR (fun p hp hm => by
    simp only [List.map_cons, List.map_nil, List.mem_cons, List.not_mem_nil, or_false] at hm
    rcases hm with z | z
    · exact (hrest p hp).1 z
    · exact (hrest p hp).2 z) g' h' _ T' k2 S2
  exact h h₀' a' q1 q2 q3 h' tk TT F' B' N' fun p hp => ap _ (.head _) p hp
end
theorem args_iter1 (a : Value) : argsOk "iter" ⟨[a], []⟩ := by unfold argsOk; kernel_rfl
section
variable {prog : Program} {w : World} {A : Around} {E : Value → Shared → Prop} {s : Shared}
theorem iter1 {v : Value} {Q : Value → Shared → Prop} (h : wpAny (model prog w) A.in1 (pyIter v) Q E s) : wpAny (model prog w) A (call (.builtin "iter") [v]) Q E s := by
  refine Calls.call_function_entry kind_iter plain_iter entry_iter (args_iter1 _) ?_
  unfold Builtin.«iter»
  refine wpAny_bind (m := someArgs "iter" 1 2 _) (wpAny_of_eq (a := [v]) rfl ?_)
  dsimp only
  exact wpAny_bind (wpAny_mono h (fun r s' z => wpAny_pure ⟨_, rfl, z⟩) fun _ _ z => z)
theorem is_tup_other {x y : Addr} {vs : List Value} {oy : Obj} {Q : Value → Shared → Prop} (hx : s.heap.get? x = some (tupO vs)) (hy : s.heap.get? y = some oy) (hc : oy.cls = .type "object") (hxy : x ≠ y) (h : Q (.bool false) s) : wpAny (model prog w) A (compareOp .Is (.ref x) (.ref y)) Q E s := by
  show wpAny _ _ (do return .bool (← isSame (.ref x) (.ref y))) Q E s
  unfold isSame
  refine wpAny_bind ?_
  dsimp only
  rw [if_neg (by simpa using hxy)]
  refine wpAny_bind (wpAny_load hx (wpAny_bind (wpAny_load hy ?_)))
  rw [hc]
  exact wpAny_pure (wpAny_pure h)
end
noncomputable def rdBody : List Stmt := defBody "reduce" PySem.Challenge.rw_om0137_02.row.prog.main.body
noncomputable def rd0 : List Stmt × Pos := match rdBody with
  | [_, .If _ b _ p, _, _] => (b, p)
  | _ => ([], ⟨0, 0, 0, 0⟩)
theorem rdBody_eq : rdBody = [.Assign [.Name (Str.ofString "it") ⟨769, 4, 769, 6⟩] (.Call (.Name (Str.ofString "iter") ⟨769, 9, 769, 13⟩) [.Name (Str.ofString "sequence") ⟨769, 14, 769, 22⟩] [] ⟨769, 9, 769, 23⟩) ⟨769, 4, 769, 23⟩,
  .If (.Compare (.Name (Str.ofString "initial") ⟨770, 7, 770, 14⟩) [.Is] [.Name (Str.ofString "_initial_missing") ⟨770, 18, 770, 34⟩] ⟨770, 7, 770, 34⟩) rd0.1 [.Assign [.Name (Str.ofString "value") ⟨776, 8, 776, 13⟩] (.Name (Str.ofString "initial") ⟨776, 16, 776, 23⟩) ⟨776, 8, 776, 23⟩] rd0.2,
  .For (.Name (Str.ofString "element") ⟨777, 8, 777, 15⟩) (.Name (Str.ofString "it") ⟨777, 19, 777, 21⟩) [.Assign [.Name (Str.ofString "value") ⟨778, 8, 778, 13⟩] (.Call (.Name (Str.ofString "function") ⟨778, 16, 778, 24⟩) [.Name (Str.ofString "value") ⟨778, 25, 778, 30⟩, .Name (Str.ofString "element") ⟨778, 32, 778, 39⟩] [] ⟨778, 16, 778, 40⟩) ⟨778, 8, 778, 40⟩] [] ⟨777, 4, 778, 40⟩,
  .Return (some (.Name (Str.ofString "value") ⟨779, 11, 779, 16⟩)) ⟨779, 4, 779, 16⟩] := by kernel_rfl
theorem rd_K (w : World) : (∃ mi o, nsIn (hd.heap_39 w.params) mainGlobals "_initial_missing" = some (some (.ref mi)) ∧ (hd.heap_39 w.params).lookup mi = some o ∧ o.cls = .type "object") ∧ nsIn (hd.heap_39 w.params) mainGlobals "iter" = some none ∧ keepIn (hd.heap_39 w.params) (.ref 817) = true := by
  have e : PySem.Challenge.rw_om0137_02 = PySem.Challenge.rw_om0137_02 := rfl
  revert e
  k_fill
  intro _
  exact ⟨⟨_, _, by k_is, by k_is, rfl⟩, by k_is, by k_is⟩
noncomputable def lsD : List Str := ["function", "sequence", "initial", "it", "value", "element"]
/-- ahead of a turn of reduce's loop -/
structure RNI (A : Around) (base g : Heap) (fr : List Env) (L it Dl : Addr) (text : List Nat) (W : Str) (items : List Value) (n : Nat) (xs : Nat → Addr) (u1 u2 : Nat → Nat) (j : Nat) (gj h : Heap) (m : Str → Option Value) (a : Addr) (led : List (Addr × Obj)) (t1 t2 t3 : Nat) (o : Obj) : Prop where
  T : KtsTurn (fr.filterMap (·.frame)) g gj
  F : Fr gj L h m
  B : Below A base fr gj
  mf : m (Str.ofString "function") = some (.ref 817)
  mi : m (Str.ofString "it") = some (.ref it)
  mv : m (Str.ofString "value") = some (.ref a)
  N : News gj L h ((a, tupO [.bool true, .str (ofL (gst (whW W) text 1 j).1) t1, .int (gst (whW W) text 1 j).2 t2, .str W t3]) :: (it, o) :: (Dl, lstY items) :: led)
  hx : ∀ i, j ≤ i → i < n → (xs i, tupO [.str (ofL (gwd (whW W) text 1 i)) (u1 i), .int (gst (whW W) text 1 (i + 1)).2 (u2 i)]) ∈ led
  oc : o.cls = .type "list_iterator"
  od : o.data = .fields #[.ref Dl, .int j 0]
  a1 : ∀ q ∈ (it, o) :: (Dl, lstY items) :: led, q.1 ≠ a
  a2 : ∀ q ∈ (Dl, lstY items) :: led, q.1 ≠ it
  a3 : ∀ q ∈ led, q.1 ≠ Dl
section
variable {w : World} {s s' : Shared} {A : Around} {base g : Heap} {fr : List Env} {mg mb : Str → Option Value} {mean : ExcName → Option Value} {cn : Str} {cs : Scope} {cd : Value} {L f : Addr} {E : Value → Shared → Prop}
theorem rdLoop (hroom : A.depth + 40 < recursionLimit) (hh : A.handled = none) (hu : A.units + 76 < cLine) (hA : A.frames = some fr) (hk : cs.kind = .function) (hl : ∀ x ∈ lsD, cs.names.lookup x = some .local) {it Dl : Addr} {text : List Nat} {W : Str} {items : List Value} {n : Nat} {xs : Nat → Addr} {u1 u2 : Nat → Nat} (hlen : text.length ≤ 900) (hal : ∀ c ∈ text, c ∈ alpha1) (hz : has W (sg 0) = false) (hil : items.length = n) (hn : n ≤ 1000)
    (hit : ∀ j, j < n → items[j]? = some (Value.ref (xs j))) (hxs : ∀ i j, i < n → j < n → xs i = xs j → i = j) (XB : (hd.heap_39 w.params).In base) (TB : Top hd.view_39 lo mean mg mb base) (D : KtsDicts (fr.filterMap (·.frame)) g)
    {RR : Result → Shared → Prop} {P0 : Pos} {body : List Stmt} (hB : body = [.Assign [.Name (Str.ofString "value") ⟨778, 8, 778, 13⟩] (.Call (.Name (Str.ofString "function") ⟨778, 16, 778, 24⟩) [.Name (Str.ofString "value") ⟨778, 25, 778, 30⟩, .Name (Str.ofString "element") ⟨778, 32, 778, 39⟩] [] ⟨778, 16, 778, 40⟩) ⟨778, 8, 778, 40⟩])
    (R0 : ∃ gj h tk m a led t1 t2 t3 o, s' = { s with heap := h, toks := tk } ∧ RNI A base g fr L it Dl text W items n xs u1 u2 0 gj h m a led t1 t2 t3 o)
    (hR : ∀ gj h tk m a t1 t2 t3, KtsTurn (fr.filterMap (·.frame)) g gj → Fr gj L h m → m (Str.ofString "value") = some (.ref a) → News gj L h [(a, tupO [.bool true, .str (ofL (gst (whW W) text 1 n).1) t1, .int (gst (whW W) text 1 n).2 t2, .str W t3])] → RR (.ok .next) { s with heap := h, toks := tk }) :
    codeAny (model PySem.Challenge.rw_om0137_02.row.prog w) (A.deeper (envOf cn cs L f cd)) (.forLoop (.Name (Str.ofString "element") P0) (.ref it) body [] (envOf cn cs L f cd)) RR s' := by
  have hlv : ∀ x ∈ lsD, (envOf cn cs L f cd).kindOf x = some .local := hl
  have hcl : ∀ e : Env, e = envOf cn cs L f cd → (e.scope.kind == .class || (e.scope.kind == .module && e.locals != e.globals)) = false := by
    rintro e rfl
    show (cs.kind == .class || (cs.kind == .module && _)) = false
    rw [hk]; rfl
  refine codeAny_forLoop_any (fun q s' => ∃ j gj h tk m a led t1 t2 t3 o, q = 2000 - j ∧ j ≤ n ∧ s' = { s with heap := h, toks := tk } ∧ RNI A base g fr L it Dl text W items n xs u1 u2 j gj h m a led t1 t2 t3 o) ?_ 2000 ?_
  rotate_left
  · obtain ⟨gj, h, tk, m, a, led, t1, t2, t3, o, e, Z⟩ := R0
    exact ⟨0, gj, h, tk, m, a, led, t1, t2, t3, o, rfl, Nat.zero_le _, e, Z⟩
  clear R0
  rintro q s1 ⟨j, gj, h, tk, m, a, led, t1, t2, t3, o, rfl, hj, rfl, Z⟩
  have hitN := Z.N (it, o) (.tail _ (.head _))
  have hIt : h.IsListIter it Dl j := ⟨o, hitN.1, Z.oc, Z.od⟩
  have hL : h.IsList Dl items.toArray := ⟨_, (Z.N _ (.tail _ (.tail _ (.head _)))).1, rfl, _, rfl⟩
  by_cases hjn : j < n
  · have hxj := Z.hx j (Nat.le_refl _) hjn
    have Xj : (hd.heap_39 w.params).In gj := XB.keeps Z.B.stays
    have Tj : Top hd.view_39 lo mean mg mb gj := TB.keeps Z.B.stays
    refine wpAny_pyNext_list_item hIt hL (by simpa using hit j hjn) fun h1 hIt1 hs1 => ?_
    obtain ⟨o1, g1, oc1, od1⟩ := id hIt1
    have N1 : News gj L h1 ([(a, tupO [.bool true, .str (ofL (gst (whW W) text 1 j).1) t1, .int (gst (whW W) text 1 j).2 t2, .str W t3])] ++ ([] ++ (it, o1) :: (Dl, lstY items) :: led)) := news_one (b := []) Z.N hs1 g1 (fun q hq => by rw [List.mem_singleton.mp hq]; exact fun e => Z.a1 _ (.head _) e.symm) (fun _ h => nomatch h) Z.a2
    have F1 := Z.F.change hs1 hitN.2.1 hitN.2.2
    refine wpAny_of_eq (a := ()) rfl (wpAny_assign_Name (wpAny_storeName_local (hlv _ (by decide)) F1.ns (fun h2 hn2 hs2 => ?_) (hcl _ rfl)))
    have F2 := F1.set hn2 hs2
    have N2 := N1.set hs2
    rw [hB]
    refine wpAny_execs_cons (wpAny_Assign_Name (Call_ (wpAny_Name (wpAny_loadName_local hk (hlv _ (by decide)) F2.ns (v := .ref 817) (by rw [if_neg (by decide)]; exact Z.mf) ?_)) rfl) rfl)
    refine callWith_K Xj (rd_K w).2.2 (spliced_more (wpAny_Name (wpAny_loadName_local hk (hlv _ (by decide)) F2.ns (v := .ref a) (by rw [if_neg (by decide)]; exact Z.mv) (spliced_more (wpAny_Name (wpAny_loadName_local hk (hlv _ (by decide)) F2.ns (v := .ref (xs j)) (by rw [if_pos rfl]) (spliced_none ⟨Xj.keeps F2.keep, ?_⟩)))))))
    have N2' : News gj L h2 ((a, tupO [.bool true, .str (ofL (gst (whW W) text 1 j).1) t1, .int (gst (whW W) text 1 j).2 t2, .str W t3]) :: (xs j, tupO [.str (ofL (gwd (whW W) text 1 j)) (u1 j), .int (gst (whW W) text 1 (j + 1)).2 (u2 j)]) :: (it, o1) :: (Dl, lstY items) :: led.filter (fun q => decide (q.1 ≠ xs j))) := fun q hq => N2 q (by
      simp only [List.mem_cons, List.mem_filter, List.singleton_append, List.nil_append] at hq ⊢
      rcases hq with z | z | z | z | z
      · exact .inl z
      · exact .inr (.inr (.inr (by rw [z]; exact hxj)))
      · exact .inr (.inl z)
      · exact .inr (.inr (.inl z))
      · exact .inr (.inr (.inr z.1)))
    have hrest : ∀ p ∈ (it, o1) :: (Dl, lstY items) :: led.filter (fun q => decide (q.1 ≠ xs j)), p.1 ≠ a ∧ p.1 ≠ xs j := fun p hp => by
      rcases List.mem_cons.mp hp with rfl | hp
      · exact ⟨Z.a1 (it, o) (.head _), fun e => Z.a2 _ (.tail _ hxj) e.symm⟩
      · rcases List.mem_cons.mp hp with rfl | hp
        · exact ⟨Z.a1 _ (.tail _ (.head _)), fun e => Z.a3 _ hxj e.symm⟩
        · obtain ⟨hp1, hp2⟩ := List.mem_filter.mp hp
          exact ⟨Z.a1 _ (.tail _ (.tail _ hp1)), of_decide_eq_true hp2⟩
    refine nextL_K (env := _) Z.B F2 Xj Tj (Around.frames_deeper Z.B.stack) rfl hk ?_ hh ?_ XB TB (D.turn Z.T) ?_ ?_ hz (gst_ns (whW W) text 1 j) ?_ N2' hrest ?_
    · simp only [depth_deeper]; omega
    · show A.units + 3 + 70 < cLine
      omega
    · have := (gst_sub (whW W) text 1 j).2
      omega
    · exact fun c hc => hal c ((gst_sub (whW W) text 1 j).1 c hc)
    · exact fun c hc => alpha_lt c (hal c (gwd_sub (whW W) text 1 j c hc))
    intro g2 a' q1 q2 q3 h3 tk3 TT F3 B3 N3 ap3
    refine wpAny_storeName_local (hlv _ (by decide)) F3.ns (fun h4 hn4 hs4 => ?_) (hcl _ rfl)
    have F4 := F3.set hn4 hs4
    have N4 := N3.set hs4
    refine wpAny_execs_nil ⟨2000 - (j + 1), by omega, j + 1, g2, h4, _, _, a', _, q1, q2, q3, o1, rfl, by omega, rfl, ⟨Z.T.trans TT, F4, B3, ?_, ?_, ?_, N4, fun i h1 h2 => ?_, oc1, od1, ap3, fun q hq => ?_, fun q hq => ?_⟩⟩
    · rw [if_neg (by decide), if_neg (by decide)]; exact Z.mf
    · rw [if_neg (by decide), if_neg (by decide)]; exact Z.mi
    · exact if_pos rfl
    · refine List.mem_filter.mpr ⟨Z.hx i (by omega) h2, decide_eq_true fun e => ?_⟩
      have := hxs i j h2 hjn e
      omega
    · rcases List.mem_cons.mp hq with rfl | hq
      · exact Z.a2 _ (.head _)
      · exact Z.a2 _ (.tail _ (List.mem_filter.mp hq).1)
    · exact Z.a3 _ (List.mem_filter.mp hq).1
  · obtain rfl : j = n := by omega
    refine wpAny_pyNext_list_end hh hIt hL (by rw [List.getElem?_toArray]; exact List.getElem?_eq_none (by omega)) fun h1 he => wpAny_execs_nil ?_
    have F1 : Fr gj L h1 m := ⟨Z.F.ns.extBut he (fun e => hitN.2.1 e.symm), fun b ob hb => he b ob (fun e => by rw [e, hitN.2.2] at hb; cases hb) (Z.F.keep b ob hb), Z.F.above⟩
    refine hR gj h1 tk m a t1 t2 t3 Z.T F1 Z.mv fun p hp => ?_
    rw [List.mem_singleton.mp hp]
    have hpN := Z.N _ (.head _)
    exact ⟨he _ _ (fun e => Z.a1 _ (.head _) e.symm) hpN.1, hpN.2⟩
end
end Mine
end

section
open PySem PySem.W PyProof.Rows PySem.Calls
set_option Elab.async false
set_option maxRecDepth 100000
set_option maxHeartbeats 8000000
namespace Mine
section
variable {w : World} {s s' : Shared} {A : Around} {base g : Heap} {fr : List Env} {mg mb : Str → Option Value} {mean : ExcName → Option Value} {cn : Str} {cs : Scope} {cd : Value} {L f : Addr} {E : Value → Shared → Prop}
theorem rdAll (G : Gd w A base fr mean mg mb g) (hroom : A.depth + 40 < recursionLimit) (hh : A.handled = none) (hu : A.units + 76 < cLine) (hk : cs.kind = .function) (hl : ∀ x ∈ lsD, cs.names.lookup x = some .local) (hgi : cs.names.lookup (Str.ofString "iter") = some .globalImplicit) (hgm : cs.names.lookup (Str.ofString "_initial_missing") = some .globalImplicit)
    {text : List Nat} {W : Str} {a Dl t1 t2 t3 : Nat} {items : List Value} {ft : List (Addr × Obj)} (hlen : text.length ≤ 900) (hal : ∀ c ∈ text, c ∈ alpha1) (hz : has W (sg 0) = false) (XB : (hd.heap_39 w.params).In base) (TB : Top hd.view_39 lo mean mg mb base) (D : KtsDicts (fr.filterMap (·.frame)) g)
    {h : Heap} {tk : Nat} {m : Str → Option Value} (F : Fr g L h m) (mf : m (Str.ofString "function") = some (.ref 817)) (ms : m (Str.ofString "sequence") = some (.ref Dl)) (mi : m (Str.ofString "initial") = some (.ref a))
    (N : News g L h ((a, tupO [.bool true, .str (ofL text) t1, .int 1 t2, .str W t3]) :: (Dl, lstY items) :: ft)) (hgr : GR (whW W) text 1 (text.length + 1) items ft) (a1 : ∀ q ∈ (Dl, lstY items) :: ft, q.1 ≠ a) (a3 : ∀ q ∈ ft, q.1 ≠ Dl)
    {b : List Stmt} (hb : b = rdBody) {Q : Flow → Shared → Prop} (hQ : ∀ g' a' q1 q2 q3 h' tk', KtsTurn (fr.filterMap (·.frame)) g g' → Ke g' h' → Sub g' h' [(a', tupO [.bool true, .str (ofL (gst (whW W) text 1 (text.length + 1)).1) q1, .int (gst (whW W) text 1 (text.length + 1)).2 q2, .str W q3])] → Q (.ret (.ref a')) { s with heap := h', toks := tk' }) :
    wpAny (model PySem.Challenge.rw_om0137_02.row.prog w) (A.deeper (envOf cn cs L f cd)) (execs b (envOf cn cs L f cd)) Q E { s with heap := h, toks := tk } := by
  have hlv : ∀ x ∈ lsD, (envOf cn cs L f cd).kindOf x = some .local := hl
  have hcl : ∀ e : Env, e = envOf cn cs L f cd → (e.scope.kind == .class || (e.scope.kind == .module && e.locals != e.globals)) = false := by
    rintro e rfl
    show (cs.kind == .class || (cs.kind == .module && _)) = false
    rw [hk]; rfl
  obtain ⟨⟨mis, omi, k1, k2, k3⟩, k4, k5⟩ := rd_K w
  rw [hb, rdBody_eq]
  refine wpAny_execs_cons (wpAny_Assign_Name (Call_ (ld_builtin_at F G.T.g (mg_none_of G.X G.T.g k4) G.T.b ((G.T.builtins _ (by decide)).trans (by boot_by_name)) ?_ hk hgi (by decide)) rfl) rfl)
  refine Calls.callWith_builtin rfl (Calls.evalArgs_plain (spliced_more (wpAny_Name (wpAny_loadName_local hk (hlv _ (by decide)) F.ns ms (spliced_none (iter1 ?_))))))
  refine wpAny_pyIter_list (l := Dl) (items := items.toArray) ⟨_, (N _ (.tail _ (.head _))).1, rfl, _, rfl⟩ ?_
  have F1 := F.push { cls := .type "list_iterator", data := .fields #[.ref Dl, .int 0 0] }
  have N1 := N.push F { cls := .type "list_iterator", data := .fields #[.ref Dl, .int 0 0] }
  have hI : ∀ q ∈ (a, tupO [.bool true, .str (ofL text) t1, .int 1 t2, .str W t3]) :: (Dl, lstY items) :: ft, q.1 ≠ h.objs.size := fun q hq => Nat.ne_of_lt (Heap.lt_size (N q hq).1)
  have hit0 : ∀ x, x = h.objs.size → (h.push { cls := .type "list_iterator", data := .fields #[.ref Dl, .int 0 0] }).get? x = some { cls := .type "list_iterator", data := .fields #[.ref Dl, .int 0 0] } := fun x e => by rw [e]; exact (N1 _ (.head _)).1
  refine wpAny_storeName_local (hlv _ (by decide)) F1.ns (fun h2 hn2 hs2 => ?_) (hcl _ rfl)
  have F2 := F1.set hn2 hs2
  have N2 := N1.set hs2
  dsimp only at N2 F2 ⊢
  generalize h.objs.size = I at *
  have hanm : a ≠ mis := fun e => by
    have h1 := (N _ (.head _)).2.2
    rw [show ((a, tupO [.bool true, .str (ofL text) t1, .int 1 t2, .str W t3]) : Addr × Obj).1 = mis from e, G.X _ _ k2] at h1
    cases h1
  refine wpAny_execs_cons (wpAny_If (wpAny_isTrue_Compare1 (wpAny_Name (wpAny_loadName_local hk (hlv _ (by decide)) F2.ns (v := .ref a) (by rw [if_neg (by decide)]; exact mi) (ld_global_at F2 G.T.g (mg_of G.X G.T.g k1) (is_tup_other (N2 _ (.tail _ (.head _))).1 (G.X.keeps F2.keep _ _ k2) k3 hanm (wpAny_truthy_bool ?_)) hk hgm (by decide)))) rfl))
  rw [if_neg (by decide)]
  refine wpAny_execs_cons (wpAny_Assign_Name (wpAny_Name (wpAny_loadName_local hk (hlv _ (by decide)) F2.ns (v := .ref a) (by rw [if_neg (by decide)]; exact mi) (wpAny_storeName_local (hlv _ (by decide)) F2.ns (fun h3 hn3 hs3 => ?_) (hcl _ rfl)))) rfl)
  have F3 := F2.set hn3 hs3
  have N3 := N2.set hs3
  refine wpAny_execs_nil (wpAny_execs_cons (wpAny_For (wpAny_Name (wpAny_loadName_local hk (hlv _ (by decide)) F3.ns (v := .ref I) (by rw [if_neg (by decide), if_pos rfl]) ?_))))
  have hitN := N3 _ (.head _)
  refine wpAny_pyIter_listiter (l := Dl) (i := 0) ⟨_, hitN.1, rfl, rfl⟩ ?_
  obtain ⟨xs, u1, u2, hx1, hx2⟩ := hgr.fns
  refine rdLoop (s := s) (g := g) (xs := xs) (u1 := u1) (u2 := u2) (n := text.length + 1) (items := items) (text := text) (W := W) (Dl := Dl) hroom hh hu G.B.stack hk hl hlen hal hz hgr.length (by omega) (fun j hj => (hx1 j hj).1) hx2 XB TB D rfl ?_ ?_
  · refine ⟨g, h3, _, _, a, ft, t1, t2, t3, { cls := .type "list_iterator", data := .fields #[.ref Dl, .int 0 0] }, rfl, KtsTurn.refl, F3, G.B, ?_, ?_, ?_, fun q hq => N3 q ?_, fun i _ hi => (hx1 i hi).2, rfl, rfl, ?_, ?_, a3⟩
    · rw [if_neg (by decide), if_neg (by decide)]; exact mf
    · rw [if_neg (by decide), if_pos rfl]
    · rw [if_pos rfl]
    · rcases List.mem_cons.mp hq with rfl | hq
      · exact .tail _ (.head _)
      · rcases List.mem_cons.mp hq with rfl | hq
        · exact .head _
        · exact .tail _ (.tail _ hq)
    · intro q hq
      rcases List.mem_cons.mp hq with rfl | hq
      · exact fun e => hI _ (.head _) e.symm
      · exact a1 q hq
    · exact fun q hq => hI q (.tail _ hq)
  · intro gj h5 tk5 m5 a5 q1 q2 q3 T5 F5 mv5 N5
    refine wpAny_execs_cons (wpAny_Return_some (wpAny_Name (wpAny_loadName_local hk (hlv _ (by decide)) F5.ns mv5 ?_)))
    exact hQ gj a5 q1 q2 q3 h5 tk5 T5 (Ke.of_fr F5) (Sub.of_news N5)
theorem reduce_ok (G : Gd w A base fr mean mg mb g) (hroom : A.depth + 40 < recursionLimit) (hh : A.handled = none) (hu : A.units + 76 < cLine) (k : Ke g s.heap) {text : List Nat} {W : Str} {a Dl t1 t2 t3 : Nat} {items : List Value} {ft : List (Addr × Obj)} (hlen : text.length ≤ 900) (hal : ∀ c ∈ text, c ∈ alpha1) (hz : has W (sg 0) = false) (XB : (hd.heap_39 w.params).In base) (TB : Top hd.view_39 lo mean mg mb base) (D : KtsDicts (fr.filterMap (·.frame)) g)
    (S : Sub g s.heap ((a, tupO [.bool true, .str (ofL text) t1, .int 1 t2, .str W t3]) :: (Dl, lstY items) :: ft)) (hgr : GR (whW W) text 1 (text.length + 1) items ft) (a1 : ∀ q ∈ (Dl, lstY items) :: ft, q.1 ≠ a) (a3 : ∀ q ∈ ft, q.1 ≠ Dl) {R : Result → Shared → Prop}
    (hR : ∀ g' a' q1 q2 q3 h' tk', KtsTurn (fr.filterMap (·.frame)) g g' → Ke g' h' → Sub g' h' [(a', tupO [.bool true, .str (ofL (gst (whW W) text 1 (text.length + 1)).1) q1, .int (gst (whW W) text 1 (text.length + 1)).2 q2, .str W q3])] → R (.ok (.ret (.ref a'))) { s with heap := h', toks := tk' }) :
    codeAny (model PySem.Challenge.rw_om0137_02.row.prog w) A (.call (.ref 777) ⟨[.ref 817, .ref Dl, .ref a], []⟩) R s := by
  have X := G.X
  revert X
  k_fill
  intro X
  refine' enterG G S k ?k6 ?k7 ?k8 ?k9 ?kB ?_ ?c2 ?c3 ?c4 ?c5
  case k6 => k_is
  case k7 => k_is
  case k8 => omega
  case k9 => first | exact BindsTo.of_eq rfl | exact binds_K (Frag.In.keeps X k.keep) rfl (by k_is) rfl rfl rfl
  case kB => exact rfl
  case c2 => decide
  case c3 => exact rfl
  case c4 => exact rfl
  case c5 => exact rfl
  intro L' h₁ F' N' hlt
  exact rdAll (s := s) G hroom hh hu rfl (by decide) rfl rfl hlen hal hz XB TB D F' rfl rfl rfl N' hgr a1 a3 (by kernel_rfl) (fun g' a' q1 q2 q3 h' tk' T' k' S' => hR g' a' q1 q2 q3 h' tk' T' k' S')
end
end Mine
end

section
open PySem PySem.W PyProof.Rows PySem.Calls PyProof.Rows.LCg PyProof.Rows.LSm PyProof.V PySem.Spec
set_option Elab.async false
set_option maxRecDepth 100000
set_option maxHeartbeats 8000000
namespace Mine
section
variable {prog : Program} {w : World} {A : Around} {E : Value → Shared → Prop} {s : Shared} {h₀ : Heap} {L : Addr} {m : Str → Option Value} {env : Env}
/-- a list comprehension with a pair as target and one test over enumerate(text) -/
theorem enum_block {elt iter c : PySem.Expr} {a b : Str} {pa pb tp : Pos} {kk : Nat} {scope : Scope} {cl : List (Str × Addr)} {pos : Pos} {s₂ : Shared} {I : Addr} {fp wr : List Addr} {n : Nat} {P : Nat → Value → Prop} {St : Nat → Heap → Prop} {Mid : Nat → Addr → Heap → Prop} {news : List (Addr × Obj)} {good : Value → Prop} {RR : Value → Addr → Result → Shared → Prop}
    (hh : A.handled = none) (W : WalksT prog w A I fp wr n (fun i vals => ∃ t x, P i x ∧ vals = #[.int (i : Int) t, x]) St Mid) (hsz : n ≤ sizeLine) (hst : St 0 s₂.heap)
    (hfp : ∀ q ∈ fp, q < s₂.heap.objs.size ∧ q ≠ L ∧ h₀.get? q = none ∧ ∀ p ∈ news, p.1 ≠ q)
    (hcell : ∀ y ∈ scope.names, y.2 ≠ .cell) (hkind : scope.kind = .function) (hxa : scope.names.lookup a = some .local) (hxb : scope.names.lookup b = some .local) (hab : ¬ a = b)
    (F : Fr h₀ L s₂.heap m) (N : News h₀ L s₂.heap news)
    (test : ∀ i u x C m₂ h tk (E' : Value → Shared → Prop), i < n → P i x → h.Ns C m₂ → m₂ a = some (.int (i : Int) u) → m₂ b = some x → Fr h₀ L h m → News h₀ L h news →
      wpAny (model prog w) A (isTrue c (compEnvC scope cl C env) (eval c (compEnvC scope cl C env))) (fun _ s' => ∃ tk', s' = { s₂ with heap := h, toks := tk' }) E' { s₂ with heap := h, toks := tk })
    (elem : ∀ i u x C m₂ h tk (E' : Value → Shared → Prop), i < n → P i x → h.Ns C m₂ → m₂ a = some (.int (i : Int) u) → m₂ b = some x → Fr h₀ L h m → News h₀ L h news →
      wpAny (model prog w) A (eval elt (compEnvC scope cl C env)) (fun y s' => good y ∧ ∃ tk', s' = { s₂ with heap := h, toks := tk' }) E' { s₂ with heap := h, toks := tk })
    (hRR : ∀ D C h tk m' ys, Fr h₀ L h m → News h₀ L h ((D, lst ys) :: news) → (∀ p ∈ news, p.1 ≠ D) → h.Ns C m' → h₀.get? C = none → h₀.get? D = none → C ≠ L → D ≠ L → C ≠ D → (∀ p ∈ news, p.1 ≠ C) → (∀ y ∈ ys, good y) → ys.length ≤ n → RR (.ref D) C (.ok .next) { s₂ with heap := h, toks := tk }) :
    wpAny (model prog w) A (newList []) (fun acc s₃ => wpAny (model prog w) A (newFunctionEnv scope env.globals cl [] env.qual none .none (some env)) (fun cenv s₄ =>
      codeAny (model prog w) A (.compStart (.ListComp elt [⟨.Tuple [.Name a pa, .Name b pb] kk tp, iter, [c], 0⟩] scope pos) 0 (.ref I) acc { cenv with scope := relabel scope env }) (RR acc cenv.locals) s₄) E s₃) E s₂ := by
  refine wpAny_newObj_type (wpAny_newFunctionEnv hcell (by intro y hy; simp at hy) (fun h₁ hns₁ hsb₁ => ?_) hkind)
  dsimp only at hns₁ hsb₁ ⊢
  generalize hH2 : s₂.heap.push { cls := .type "list", dict := none, data := .seq ([] : List Value).toArray } = H2 at hns₁ hsb₁ ⊢
  have hC : H2.objs.size = s₂.heap.objs.size + 1 := by rw [← hH2, Heap.size_push]
  have hDC : s₂.heap.objs.size ≠ H2.objs.size := by rw [hC]; exact Nat.ne_of_lt (Nat.lt_succ_self _)
  have below : ∀ b, b < s₂.heap.objs.size → b ≠ H2.objs.size ∧ b ≠ s₂.heap.objs.size := fun b hb => ⟨by rw [hC]; exact Nat.ne_of_lt (Nat.lt_succ_of_lt hb), Nat.ne_of_lt hb⟩
  have old : ∀ b o, s₂.heap.get? b = some o → h₁.get? b = some o := fun b o e => hsb₁.extBut b o (below b (Heap.lt_size e)).1 (Heap.get?_push_of_some _ (hH2 ▸ Heap.get?_push_of_some _ e))
  have hacc : h₁.get? s₂.heap.objs.size = some (lst []) := hsb₁.extBut _ _ hDC (Heap.get?_push_of_some _ (hH2 ▸ Heap.get?_push_size _ rfl))
  have hst₁ : St 0 h₁ := W.frame _ _ _ hst fun b _ o e => old b o e
  have fresh : ∀ a, s₂.heap.objs.size ≤ a → s₂.heap.get? a = none := fun a ha => by
    cases e : s₂.heap.get? a with
    | none => rfl
    | some o' => exact absurd (Heap.lt_size e) (Nat.not_lt.mpr ha)
  have fresh₀ : ∀ a, s₂.heap.objs.size ≤ a → h₀.get? a = none := fun a ha => by
    cases e : h₀.get? a with
    | none => rfl
    | some o' => have := F.keep a o' e; rw [fresh a ha] at this; cases this
  have hD₀ : h₀.get? s₂.heap.objs.size = none := fresh₀ _ (Nat.le_refl _)
  have hC₀ : h₀.get? H2.objs.size = none := fresh₀ _ (by rw [hC]; exact Nat.le_succ _)
  have hLlt : L < s₂.heap.objs.size := F.ns.lt
  have hDL : s₂.heap.objs.size ≠ L := Ne.symm (below L hLlt).2
  have hCL : H2.objs.size ≠ L := Ne.symm (below L hLlt).1
  have hCf : ∀ q ∈ fp, q ≠ H2.objs.size ∧ q ≠ s₂.heap.objs.size := fun q hq => below q (hfp q hq).1
  have hnw : ∀ p ∈ news, p.1 ≠ H2.objs.size ∧ p.1 ≠ s₂.heap.objs.size := fun p hp => below _ (Heap.lt_size (N p hp).1)
  have hwr : ∀ q ∈ wr, q ≠ L ∧ h₀.get? q = none ∧ q ≠ H2.objs.size ∧ q ≠ s₂.heap.objs.size ∧ ∀ p ∈ news, p.1 ≠ q := fun q hq => let z := hfp q (W.sub q hq); ⟨z.2.1, z.2.2.1, (hCf q (W.sub q hq)).1, (hCf q (W.sub q hq)).2, z.2.2.2⟩
  have hDw : s₂.heap.objs.size ∉ wr := fun hm => (hwr _ hm).2.2.2.1 rfl
  have hCw : H2.objs.size ∉ wr := fun hm => (hwr _ hm).2.2.1 rfl
  have hLw : L ∉ wr := fun hm => (hwr _ hm).1 rfl
  have h0w : ∀ q o, h₀.get? q = some o → q ∉ wr := fun q o e hm => by rw [(hwr q hm).2.1] at e; cases e
  have hNw : ∀ p ∈ news, p.1 ∉ wr := fun p hp hm => (hwr _ hm).2.2.2.2 p hp rfl
  have loop : ∀ s₃ : Shared, s₃ = { s₂ with heap := h₁, toks := s₂.toks + ([] : List (Str × Value)).length } →
      codeAny (model prog w) A (.compLoop (.ListComp elt [⟨.Tuple [.Name a pa, .Name b pb] kk tp, iter, [c], 0⟩] scope pos) 0 (.ref I) (.ref s₂.heap.objs.size) (compEnvC scope cl H2.objs.size env))
        (RR (.ref s₂.heap.objs.size) H2.objs.size) s₃ := by
    rintro s₃ rfl
    refine kct_loop
      (fun k s' => ∃ h' tk i ys m', s' = { s₂ with heap := h', toks := tk } ∧ i ≤ n ∧ k = n + 1 - i ∧ ys.length ≤ i ∧ St i h' ∧ Fr h₀ L h' m ∧ h'.Ns H2.objs.size m' ∧
        News h₀ L h' ((s₂.heap.objs.size, lst ys) :: news) ∧ ∀ y ∈ ys, good y) ?_ (n + 1)
      ⟨h₁, _, 0, [], _, rfl, Nat.zero_le _, rfl, Nat.le_refl _, hst₁, F.keeps old, hns₁, fun p hp => ?_, fun _ h => nomatch h⟩
    · rintro k s' ⟨h', tk, i, ys, m', rfl, hi, rfl, hyl, hst', F', hn', N', hg⟩
      by_cases hlt : i < n
      · refine W.item i _ _ _ hlt hst' fun T vals h₂ tk₂ hPt _ hT hMid hk₂ => ?_
        refine W.go _ _ _ i T _ _ _ hMid fun h₃ hst₃ hk₃ => ?_
        obtain ⟨t, x, hPx, rfl⟩ := hPt
        have hT₃ : h₃.IsTuple T #[.int (i : Int) t, x] := hT.at fun o e => hk₃ _ o (W.apart _ _ _ hMid) e
        have up₃ : ∀ c o, c ∉ wr → h'.get? c = some o → h₃.get? c = some o := fun c o hc e => hk₃ c o hc (hk₂ c o hc e)
        refine kcp_assign (env := compEnvC scope cl H2.objs.size env) hh hT₃ (lookup_relabel_local hxa) (lookup_relabel_local hxb) (by simp [compEnvC, relabel, hkind]) (hn'.at' fun o e => up₃ _ o hCw e) fun h₄ tk₄ hn₄ hs₄ => ?_
        have up : ∀ c o, c ∉ wr → c ≠ H2.objs.size → h'.get? c = some o → h₄.get? c = some o := fun c o h1 h2 e => hs₄ c o h2 (up₃ c o h1 e)
        have hst₄ : St (i + 1) h₄ := W.frame _ _ _ hst₃ fun b hb o e => hs₄ b o (hCf b hb).1 e
        have F₄ : Fr h₀ L h₄ m := ⟨F'.ns.at' fun o e => up _ o hLw (Ne.symm hCL) e, fun c o e => up c o (h0w c o e) (fun q => by rw [q, hC₀] at e; cases e) (F'.keep c o e), F'.above⟩
        have N₄ : News h₀ L h₄ ((s₂.heap.objs.size, lst ys) :: news) := fun q hq => by
          refine ⟨up _ _ ?_ ?_ (N' q hq).1, (N' q hq).2⟩
          · rcases List.mem_cons.mp hq with rfl | hq
            · exact hDw
            · exact hNw q hq
          · rcases List.mem_cons.mp hq with rfl | hq
            · exact hDC
            · exact (hnw q hq).1
        have N₄' : News h₀ L h₄ news := fun q hq => N₄ q (List.mem_cons_of_mem _ hq)
        refine wpAny_mono (test i t x H2.objs.size _ h₄ _ _ hlt hPx hn₄ (by simp [hab]) (by simp) F₄ N₄') (fun okb s₅ h₅ => ?_) fun _ _ e => e
        obtain ⟨tk₅, rfl⟩ := h₅
        cases okb with
        | false =>
          simp only [Bool.false_eq_true, if_false]
          exact ⟨n + 1 - (i + 1), by omega, h₄, tk₅, i + 1, ys, _, rfl, hlt, rfl, Nat.le_succ_of_le hyl, hst₄, F₄, hn₄, N₄, hg⟩
        | true =>
          simp only [if_true]
          refine wpAny_mono (elem i t x H2.objs.size _ h₄ _ _ hlt hPx hn₄ (by simp [hab]) (by simp) F₄ N₄') (fun y s₆ h₆ => ?_) fun _ _ e => e
          obtain ⟨hy, tk₆, rfl⟩ := h₆
          have zD := (N₄ (s₂.heap.objs.size, lst ys) List.mem_cons_self).1
          refine append_at (hsz := by show ys.toArray.size ≤ sizeLine; rw [List.size_toArray]; exact Nat.le_trans hyl (Nat.le_trans hi hsz)) zD fun h₆ hs₆ hD₆ => ?_
          refine ⟨n + 1 - (i + 1), by omega, h₆, _, i + 1, ys ++ [y], _, rfl, hlt, rfl, by rw [List.length_append, List.length_singleton]; exact Nat.succ_le_succ hyl, W.frame _ _ _ hst₄ fun b hb o e => hs₆.extBut b o (hCf b hb).2 e, F₄.change hs₆ hDL hD₀, hn₄.at' fun o e => hs₆.extBut _ o (Ne.symm hDC) e, fun q hq => ?_, fun z hz => ?_⟩
          · rcases List.mem_cons.mp hq with rfl | hq
            · exact ⟨hD₆.trans (congrArg some (lst_snoc ys y)), hDL, hD₀⟩
            · exact ⟨hs₆.extBut _ _ (hnw q hq).2 (N₄' q hq).1, (N₄' q hq).2⟩
          · rcases List.mem_append.mp hz with hz | hz
            · exact hg z hz
            · rw [List.mem_singleton.mp hz]; exact hy
      · have hin : i = n := Nat.le_antisymm hi (Nat.not_lt.mp hlt)
        subst hin
        refine W.done _ _ _ hst' fun h₂ tk₂ hk₂ => ?_
        have F₂ : Fr h₀ L h₂ m := ⟨F'.ns.at' fun o e => hk₂ _ o hLw e, fun c o e => hk₂ c o (h0w c o e) (F'.keep c o e), F'.above⟩
        refine hRR _ _ h₂ tk₂ _ ys F₂ (fun q hq => ?_) (fun p hp => (hnw p hp).2) (hn'.at' fun o e => hk₂ _ o hCw e) hC₀ hD₀ hCL hDL (Ne.symm hDC) (fun p hp => (hnw p hp).1) hg hyl
        refine ⟨hk₂ _ _ ?_ (N' q hq).1, (N' q hq).2⟩
        rcases List.mem_cons.mp hq with rfl | hq
        · exact hDw
        · exact hNw q hq
    · rcases List.mem_cons.mp hp with rfl | hp
      · exact ⟨hacc, hDL, hD₀⟩
      · exact ⟨old _ _ (N p hp).1, (N p hp).2⟩
  exact codeAny_compStart_list (loop _ rfl) (W.self 0 _ _ _ hst₁ (loop _ rfl))
end
end Mine
end

section
open PySem PySem.W PyProof.Rows PySem.Calls PyProof.Rows.LCg PyProof.Rows.LSm
set_option Elab.async false
set_option maxRecDepth 100000
set_option maxHeartbeats 8000000
namespace Mine
theorem ints_at {v : Value} : ∀ {vs : List Value} {ns : List Int}, IntsAre vs ns → v ∈ vs → ∃ n t, v = .int n t
  | _, _, .cons n t r, h => by
    rcases List.mem_cons.mp h with rfl | h
    · exact ⟨n, t, rfl⟩
    · exact ints_at r h
theorem strs_P {k : Nat} {P : Nat → Prop} : ∀ {vs : List Value}, (∀ v ∈ vs, ∃ x t, v = .str x t ∧ x.length ≤ k ∧ ∀ c ∈ sL x, P c) → ∃ ws, StrsAre vs ws ∧ ∀ x ∈ ws, x.length ≤ k ∧ ∀ c ∈ sL x, P c
  | [], _ => ⟨[], .nil, fun _ h => nomatch h⟩
  | v :: vs, h => by
    obtain ⟨x, t, rfl, hx⟩ := h v (.head _)
    obtain ⟨ws, hw, hp⟩ := strs_P (vs := vs) fun v hv => h v (.tail _ hv)
    exact ⟨x :: ws, .cons x t hw, fun y hy => by
      rcases List.mem_cons.mp hy with rfl | hy
      · exact hx
      · exact hp y hy⟩
theorem join_PS {k : Nat} {P : Nat → Prop} : ∀ (ws : List Str), (∀ x ∈ ws, x.length ≤ k ∧ ∀ c ∈ sL x, P c) → ∃ l : List Nat, Str.join (Str.ofString "") ws = ofL l ∧ l.length ≤ k * ws.length ∧ ∀ c ∈ l, P c
  | [], _ => ⟨[], rfl, by simp, fun _ h => nomatch h⟩
  | [x], h => ⟨sL x, by rw [ofL_sL]; rfl, by
      have := (h x (.head _)).1
      simpa [Str.length] using this, (h x (.head _)).2⟩
  | x :: y :: r, h => by
    obtain ⟨l, e, hl, hc⟩ := join_PS (y :: r) fun z hz => h z (.tail _ hz)
    have hx := h x (.head _)
    refine ⟨sL x ++ l, ?_, ?_, ?_⟩
    · show x ++ Str.ofString "" ++ Str.join (Str.ofString "") (y :: r) = _
      rw [e]
      have e0 : Str.ofString "" = ofL [] := rfl
      have e1 : x = ofL (sL x) := (ofL_sL x).symm
      rw [e0, e1, app_ofL, app_ofL, List.append_nil, sL_ofL]
    · have := hx.1
      rw [List.length_append, List.length_cons (a := x), Nat.mul_succ]
      have e2 : x.length = (sL x).length := by simp [Str.length]
      omega
    · intro c hm
      rcases List.mem_append.mp hm with z | z
      · exact hx.2 c z
      · exact hc c z
theorem join_P {k : Nat} {P : Nat → Prop} (ws : List Str) (h : ∀ x ∈ ws, x.length ≤ k ∧ ∀ c ∈ sL x, P c) : ∃ l : List Nat, Txt.join (Str.ofString "") ws = ofL l ∧ l.length ≤ k * ws.length ∧ ∀ c ∈ l, P c := by
  rw [eq_of_beq (join_plain_closes (Str.ofString "") ws)]
  exact join_PS ws h
theorem sum_leP {k : Nat} {P : Nat → Prop} : ∀ {ws : List Str}, (∀ x ∈ ws, x.length ≤ k ∧ ∀ c ∈ sL x, P c) → (ws.map (·.length)).sum ≤ k * ws.length
  | [], _ => by simp
  | x :: r, h => by
    have h1 := (h x (.head _)).1
    have h2 := sum_leP (ws := r) fun y hy => h y (.tail _ hy)
    rw [List.map_cons, List.sum_cons, List.length_cons, Nat.mul_succ]
    omega
section
variable {prog : Program} {w : World} {A : Around} {E : Value → Shared → Prop} {s : Shared} {h₀ : Heap} {L : Addr} {m : Str → Option Value} {env : Env}
theorem nameB_K {M : Model} {A : Around} {E : Value → Shared → Prop} {mg mb : Str → Option Value} {x : Str} {pos : Pos} {v : Value} {Q : Value → Shared → Prop} (F : Fr h₀ L s.heap m) (hg : h₀.Ns mainGlobals mg) (hmiss : mg x = none) (hb : h₀.Ns builtinsNs mb) (hv : mb x = some v) (h : Q v s)
    (hgl : env.globals = mainGlobals) (hbu : env.builtins = builtinsNs) (hk : env.scope.kind = .function) (hx : env.kindOf x = some .globalImplicit) (hd : (x == ("__debug__" : Str)) = false) : wpAny M A (eval (.Name x pos) env) Q E s :=
  Calls.Name_function_global hk hx (Calls.loadGlobal_builtin (env := env) (by rw [hgl]; exact hg.keeps F.keep) hmiss (by rw [hbu]; exact hb.keeps F.keep) hv h) hd
end
theorem ListComp_free {M : Model} {A : Around} {E : Value → Shared → Prop} {s : Shared} {env : Env} {elt target iter : Expr} {ifs : List Expr} {gs : List Comprehension} {scope : Scope} {pos : Pos} {cl : List (Str × Addr)} {Q : Value → Shared → Prop} (hs : ∀ x, foldedSetIterable iter env x = pure x) (hclos : closureFor scope env = pure cl)
    (hkind : scope.kind = .function) (hnames : ∀ x ∈ scope.names, x.2 = .local → scope.names.lookup x.1 = some .local)
    (h : wpAny M A (eval iter env) (fun x s₁ => wpAny M A (pyIter x) (fun it s₂ => wpAny M A (newList []) (fun acc s₃ =>
      wpAny M A (newFunctionEnv scope env.globals cl [] env.qual none .none (some env)) (fun cenv s₄ =>
        codeAny M A (.compStart (.ListComp elt (⟨target, iter, ifs, 0⟩ :: gs) scope pos) 0 it acc { cenv with scope := relabel scope env }) (compPost M A E none Q acc cenv.locals) s₄) E s₃) E s₂) E s₁) E s) : wpAny M A (eval (.ListComp elt (⟨target, iter, ifs, 0⟩ :: gs) scope pos) env) Q E s := by
  rw [eval_ListComp]
  exact wpAny_comprehension_free (use := none) (g := ⟨target, iter, ifs, 0⟩) (gs := gs) rfl hs hclos hkind hnames h
theorem pow7 : ∀ i : Nat, i < 7 → ((2 : Int) ^ ((i : Int)).toNat).natAbs < 1073741824 := by decide
noncomputable abbrev scW : Scope := { kind := ScopeKind.function, names := [(Str.ofString "numbers", NameKind.local), (Str.ofString "bits", NameKind.cell), (Str.ofString "number", NameKind.local), (Str.ofString "enumerate", NameKind.globalImplicit)], isGenerator := false, isCoroutine := false, more := [(Str.ofString "fast", Const.str (Str.ofString "numbers")), (Str.ofString "fast", Const.str (Str.ofString "bits")), (Str.ofString "fast", Const.str (Str.ofString "number")), (Str.ofString "fast", Const.str (Str.ofString "place")), (Str.ofString "fast", Const.str (Str.ofString "sign"))] }
theorem ws_K (w : World) : nsIn (hd.heap_39 w.params) mainGlobals "enumerate" = some none ∧ keepIn (hd.heap_39 w.params) (.ref 789) = true := by
  have e : PySem.Challenge.rw_om0137_02 = PySem.Challenge.rw_om0137_02 := rfl
  revert e
  k_fill
  intro _
  refine ⟨?_, ?_⟩ <;> k_is
section
variable {w : World} {A₀ A : Around} {s : Shared} {base h₀ : Heap} {outer : List Env} {L : Addr} {m mg mb : Str → Option Value} {mean : ExcName → Option Value} {env : Env} {news : List (Addr × Obj)}
  {R : Result → Shared → Prop} {name qual : Str} {q1 q2 : List Arg} {q3 q6 : Option Arg} {q4 : List Arg} {q5 : List (Option Expr)} {q7 : List Expr} {b : Stmt} {body : List Stmt} {sk : ScopeKind} {sn : List (Str × NameKind)} {sg sc : Bool} {sm : List (Str × Const)} {dV kV doc pm cdv ct oc : Value} {an od : Option Addr} {osl : Array (Option Value)} {f : Addr} {args : Args} {binds : List (Str × Value)}
/-- a call of a def with names in cells, its parts in constructor form -/
theorem enterC (B : Below A₀ base outer h₀) (F : Fr h₀ L s.heap m) (X₀ : (hd.heap_39 w.params).In h₀) (N : News h₀ L s.heap news) (T : Top hd.view_39 lo mean mg mb h₀) (hA : A.frames = some (env :: outer)) (hf : env.frame = some L) (hke : env.scope.kind = .function)
    (ho : (hd.heap_39 w.params).lookup f = some ⟨oc, od, .func (fnOf name qual (Arguments.mk q1 q2 q3 q4 q5 q6 q7) (b :: body) (Scope.mk sk sn sg sc sm) dV kV doc pm an cdv ct), osl⟩) (hcd : codeIn (hd.heap_39 w.params) cdv qual = true) (hroom : A.depth < recursionLimit)
    (hbind : BindsTo s (fnOf name qual (Arguments.mk q1 q2 q3 q4 q5 q6 q7) (b :: body) (Scope.mk sk sn sg sc sm) dV kV doc pm an cdv ct) args binds) (hkind : (binds.all fun y => (Scope.mk sk sn sg sc sm).names.lookup y.1 == some .local || (Scope.mk sk sn sg sc sm).names.lookup y.1 == some .cell) = true)
    (hnd : ((cellsFrom 0 (Scope.mk sk sn sg sc sm).names []).map (·.1)).Nodup)
    (h : ∀ g L' h₁ tk cells, Fr h₀ L g m → Fr g L' h₁ (bindL (envOfC qual (Scope.mk sk sn sg sc sm) L' f cdv).kindOf binds fun _ => none) → News g L' h₁ (cells ++ news) →
      CellsAre (bindC (envOfC qual (Scope.mk sk sn sg sc sm) L' f cdv).kindOf binds fun _ => none) (cellsFrom (L' + 1) (Scope.mk sk sn sg sc sm).names []) cells → Below A base (env :: outer) g → (hd.heap_39 w.params).In g → Top hd.view_39 lo mean mg mb g → (∀ p ∈ news, p.1 < L') →
      wpAny (model PySem.Challenge.rw_om0137_02.row.prog w) (A.deeper (envOfC qual (Scope.mk sk sn sg sc sm) L' f cdv)) (execs (b :: body) (envOfC qual (Scope.mk sk sn sg sc sm) L' f cdv))
        (fun fl s' => LeaveK h₀ L m g R (match fl with | .ret v => v | _ => .none) s')
        (fun e s' => wpAny (model PySem.Challenge.rw_om0137_02.row.prog w) (A.deeper (envOfC qual (Scope.mk sk sn sg sc sm) L' f cdv)) (leaving (envOfC qual (Scope.mk sk sn sg sc sm) L' f cdv) e) (fun _ s'' => R (.error e) s'') (fun e' s'' => R (.error e') s'') s')
        { s with heap := h₁, toks := tk })
    (hco : (Scope.mk sk sn sg sc sm).isCoroutine = false) (hgen : (Scope.mk sk sn sg sc sm).isGenerator = false) (hk : (Scope.mk sk sn sg sc sm).kind = .function) : codeAny (model PySem.Challenge.rw_om0137_02.row.prog w) A (.call (.ref f) args) R s :=
  code_defC B F X₀ N T hA hf hke ho hcd hroom hbind hkind hnd h hco hgen hk
end
section
variable {w : World} {s : Shared} {A A₀ : Around} {base h₀ : Heap} {outer : List Env} {mg mb : Str → Option Value} {mean : ExcName → Option Value} {env : Env} {L : Addr} {m : Str → Option Value} {news : List (Addr × Obj)} {E : Value → Shared → Prop} {Q : Value → Shared → Prop}
/-- _law_whites(numbers) within a frame -/
theorem whites_K {D : Addr} {vs : List Value} {ns : List Int} (B : Below A₀ base outer h₀) (F : Fr h₀ L s.heap m) (X : (hd.heap_39 w.params).In h₀) (T : Top hd.view_39 lo mean mg mb h₀) (hA : A.frames = some (env :: outer)) (hf : env.frame = some L) (hke : env.scope.kind = .function) (hroom : A.depth + 8 < recursionLimit) (hh : A.handled = none) (N : News h₀ L s.heap ((D, listOf vs.toArray 0) :: news)) (hv : IntsAre vs ns) (hvl : vs.length ≤ 100) (hap : ∀ q ∈ news, q.1 ≠ D)
    (h : ∀ W t h' tk, has W (sg 0) = false → Fr h₀ L h' m → News h₀ L h' ((D, listOf vs.toArray 0) :: news) → Q (.str W t) { s with heap := h', toks := tk }) :
    wpAny (model PySem.Challenge.rw_om0137_02.row.prog w) A (call (.ref 789) [.ref D]) Q E s := by
  refine wpAny_call ?_
  revert X
  k_fill
  intro X
  refine' enterC (binds := [("numbers", .ref D)]) B F X N T hA hf hke ?k6 ?k7 ?k8 ?k9 ?kB ?kD ?_ ?c2 ?c3 ?c4
  case k6 => k_is
  case k7 => k_is
  case k8 => omega
  case k9 => exact BindsTo.of_eq rfl
  case kB => exact rfl
  case kD => decide +kernel
  case c2 => exact rfl
  case c3 => exact rfl
  case c4 => exact rfl
  intro g' L' h1 tk cells FG F' N' Y B' X' T' l1
  obtain ⟨o', hE', d1'⟩ := CellsAre.one Y
  subst hE'
  have hAd : (A.deeper (envOfC (Str.ofString "_law_whites") scW L' 789 (.ref 788))).handled = none := hh
  generalize A.deeper (envOfC (Str.ofString "_law_whites") scW L' 789 (.ref 788)) = A' at hAd ⊢
  clear hke hf hA hroom B Y
  refine wpAny_execs_cons ?_
  refine wpAny_Assign_Name ?_ ?hs
  case hs => rfl
  refine wpAny_Constant_int ?_
  refine wpAny_storeName_cell rfl rfl (c := L' + 1) rfl ⟨_, (N' _ (.head _)).1, d1'⟩ fun h2 hc2 hs2 => ?_
  obtain ⟨o2, e2, d2⟩ := hc2
  have Nc := (N' _ (.head _)).2
  have hcne : ∀ q ∈ (D, listOf vs.toArray 0) :: news, q.1 ≠ L' + 1 := fun q hq e => by have h3 := l1 q hq; rw [e] at h3; exact absurd h3 (Nat.not_lt.mpr (Nat.le_succ L'))
  have F2 := F'.change hs2 Nc.1 Nc.2
  have N2 : News g' L' h2 ((L' + 1, o2) :: (D, listOf vs.toArray 0) :: news) := fun p hp => by
    rcases List.mem_cons.mp hp with rfl | hp
    · exact ⟨e2, Nc⟩
    · exact ⟨(hs2.2 _ (hcne p hp)).trans (N' _ (List.mem_append_right _ hp)).1, (N' _ (List.mem_append_right _ hp)).2⟩
  clear hs2 F' N' e2 d1'
  dsimp only
  refine wpAny_execs_cons ?_
  refine wpAny_For ?_
  with_reducible refine wpAny_Name ?_ ?hd
  case hd => decide
  refine wpAny_loadName_local rfl rfl F2.ns rfl ?_
  have hLD : h2.IsList D vs.toArray := ⟨_, (N2 _ (.tail _ (.head _))).1, rfl, _, rfl⟩
  refine wpAny_pyIter_list (s := { heap := h2, gens := _, drawn := _, toks := _, os := _ }) hLD ?_
  dsimp only
  have hDlt : D < h2.objs.size := Heap.lt_size (N2 _ (.tail _ (.head _))).1
  have hLlt : L' < h2.objs.size := F2.ns.lt
  have hD0 := (N2 _ (.tail _ (.head _))).2
  have hI0 : g'.get? h2.objs.size = none := Heap.get?_none_of_le (Nat.le_trans F2.above (Nat.le_of_lt hLlt))
  have F3 := F2.push { cls := .type "list_iterator", data := .fields #[.ref D, .int 0 0] }
  have N3 : News g' L' (h2.push { cls := .type "list_iterator", data := .fields #[.ref D, .int 0 0] }) ((L' + 1, o2) :: (D, listOf vs.toArray 0) :: news) := fun p hp => ⟨Heap.get?_push_of_some _ (N2 p hp).1, (N2 p hp).2⟩
  have st0 : (h2.push { cls := .type "list_iterator", data := .fields #[.ref D, .int 0 0] }).IsListIter h2.objs.size D 0 ∧ (h2.push { cls := .type "list_iterator", data := .fields #[.ref D, .int 0 0] }).IsList D vs.toArray := ⟨⟨_, Heap.get?_push_size _ rfl, rfl, rfl⟩, hLD.at fun o e => Heap.get?_push_of_some _ e⟩
  have hnI : ∀ p ∈ (L' + 1, o2) :: (D, listOf vs.toArray 0) :: news, p.1 ∉ [h2.objs.size] := fun p hp e => by
    have h1 := Heap.lt_size (N2 p hp).1
    rw [List.mem_singleton.mp e] at h1
    exact Nat.lt_irrefl _ h1
  have hIc : h2.objs.size ≠ L' + 1 := fun e => hnI _ (.head _) (by rw [e]; exact .head _)
  refine codeAny_forLoop_frU (h₀ := g') (m := _) (news := (L' + 1, o2) :: (D, listOf vs.toArray 0) :: news) (Walks.list hAd h2.objs.size D (Nat.ne_of_lt hDlt) vs.toArray) ?a1 ?a2 ?a3 ?a4 hnI st0 F3 N3 (fun _ _ nw => ∃ o v t, nw = (L' + 1, o) :: (D, listOf vs.toArray 0) :: news ∧ o.data = .cell (some (.int v t)) ∧ 0 ≤ v ∧ v < 128) ⟨_, _, _, rfl, d2, by decide, by decide⟩ ?_ ?_
  case a1 => rfl
  case a2 => rfl
  case a3 =>
    intro e
    rcases List.mem_cons.mp e with e | e
    · exact Nat.ne_of_lt hLlt e
    · exact hD0.1 (List.mem_singleton.mp e).symm
  case a4 =>
    intro b hb
    rw [List.mem_singleton.mp hb]
    exact hI0
  · rintro i v m1 news1 s1 own hi hP ⟨o, x, t, rfl, hdo, -, -⟩ hn1 hof hos hob hst F4 N4
    obtain ⟨n, u, rfl⟩ := ints_at hv (List.mem_of_getElem? (show vs[i]? = some v by simpa using hP))
    have zc := N4 _ (List.mem_append_right _ (.head _))
    refine wpAny_execs_cons ?_
    refine wpAny_Assign_Name ?_ ?hs
    case hs => rfl
    refine wpAny_BinOp (wpAny_BinOp ?_)
    with_reducible refine wpAny_Name ?_ ?hd
    case hd => decide
    refine wpAny_loadName_local rfl rfl F4.ns (if_pos rfl) ?_
    refine wpAny_Constant_int (floordiv_int (by decide) (wpAny_Constant_int (mod_int' (by decide) ?_)))
    dsimp only
    refine wpAny_storeName_cell rfl rfl (c := L' + 1) rfl ⟨o, zc.1, hdo⟩ fun h5 hc5 hs5 => ?_
    obtain ⟨o5, e5, d5⟩ := hc5
    refine wpAny_execs_nil ?_
    have hown : ∀ p ∈ own, p.1 ≠ L' + 1 := fun p hp e => by
      have h1 := hof p hp
      rw [e] at h1
      rcases List.mem_cons.mp h1 with h1 | h1
      · exact hIc h1.symm
      · exact hcne _ (.head _) (List.mem_singleton.mp h1).symm
    refine LoopStepU.intro (news₂ := (L' + 1, o5) :: (D, listOf vs.toArray 0) :: news) (F4.change hs5 zc.2.1 zc.2.2) (fun p hp => ?_) ?_ ⟨o5, _, _, rfl, d5, Int.fmod_nonneg_of_pos _ (by decide), Int.fmod_lt_of_pos _ (by decide)⟩
    · rcases List.mem_append.mp hp with hp | hp
      · exact ⟨(hs5.2 _ (hown p hp)).trans (N4 p (List.mem_append_left _ hp)).1, (N4 p (List.mem_append_left _ hp)).2⟩
      · rcases List.mem_cons.mp hp with rfl | hp
        · exact ⟨e5, zc.2⟩
        · have z := N4 p (List.mem_append_right _ (.tail _ hp))
          exact ⟨(hs5.2 _ (hcne p hp)).trans z.1, z.2⟩
    · intro p hp
      rcases List.mem_cons.mp hp with rfl | hp
      · exact hn1 (L' + 1, o) (.head _)
      · exact hn1 _ (.tail _ hp)
  · rintro h6 tk6 m6 news6 F6 N6 - ⟨o6, x6, t6, rfl, d6, hx0, hx1⟩
    clear hnI st0 N3 F3 hI0 N2 F2 hLD
    dsimp only
    refine wpAny_execs_cons ?_
    with_reducible refine wpAny_Return_some ?_
    refine MethodCall_ (wpAny_Constant_str (GM.join ?_)) rfl
    refine Calls.callWith_builtin rfl (Calls.evalArgs_plain (spliced_more (ListComp_free (cl := [(Str.ofString "bits", L' + 1)]) ?hs ?hclos ?hkind ?hnames ?_)))
    case hs => intro _; rfl
    case hclos => with_unfolding_all rfl
    case hkind => rfl
    case hnames => decide
    with_reducible refine Call_ ?_ ?he
    case he => rfl
    refine nameB_K F6 T'.g (mg_none_of X' T'.g (ws_K w).1) T'.b ((T'.builtins _ (by decide)).trans (by boot_by_name)) ?_ rfl rfl rfl rfl (by decide)
    refine PyProof.Rows.callWith_type1 (spliced_more ?_)
    with_reducible refine wpAny_Constant_str ?_
    refine spliced_none ?_
    refine call_enumerate_str fun h7 he7 hit7 hsz7 hk7 => ?_
    refine wpAny_pyIter_enum he7 ?_
    dsimp only
    have hL6 : L' < h6.objs.size := F6.ns.lt
    have F7 := F6.keeps hk7
    have N7 : News g' L' h7 ((L' + 1, o6) :: (D, listOf vs.toArray 0) :: news) := fun p hp => ⟨hk7 _ _ (N6 p hp).1, (N6 p hp).2⟩
    have hn6 : ∀ p ∈ (L' + 1, o6) :: (D, listOf vs.toArray 0) :: news, p.1 < h6.objs.size := fun p hp => Heap.lt_size (N6 p hp).1
    have e7 : strIterType (Str.ofString " \n\t\x0da\"\\") = "str_ascii_iterator" := by decide +kernel
    rw [e7] at hit7
    have hfp : ∀ q ∈ [h6.objs.size + 1, h6.objs.size], q < h7.objs.size ∧ q ≠ L' ∧ g'.get? q = none ∧ ∀ p ∈ (L' + 1, o6) :: (D, listOf vs.toArray 0) :: news, p.1 ≠ q := by
      intro q hq
      have h1 : h6.objs.size ≤ q ∧ q < h7.objs.size := by
        rw [hsz7]
        rcases List.mem_cons.mp hq with rfl | hq
        · exact ⟨Nat.le_succ _, Nat.lt_succ_self _⟩
        · rw [List.mem_singleton.mp hq]
          exact ⟨Nat.le_refl _, Nat.lt_succ_of_lt (Nat.lt_succ_self _)⟩
      exact ⟨h1.2, Nat.ne_of_gt (Nat.lt_of_lt_of_le hL6 h1.1), Heap.get?_none_of_le (Nat.le_trans F6.above (Nat.le_trans (Nat.le_of_lt hL6) h1.1)), fun p hp => Nat.ne_of_lt (Nat.lt_of_lt_of_le (hn6 p hp) h1.1)⟩
    refine enum_block (h₀ := g') (RR := compPost _ _ _ none _) (news := (L' + 1, o6) :: (D, listOf vs.toArray 0) :: news) (good := fun y => ∃ x t, y = .str x t ∧ x.length ≤ 1 ∧ ∀ c ∈ sL x, c ≠ 0) hAd (WalksT.enumerateD (Draws.strAscii (A := A'.in1) hAd h6.objs.size (Str.ofString " \n\t\x0da\"\\") _) (h6.objs.size + 1) (Nat.succ_ne_self _) (fun hm => Nat.succ_ne_self _ (List.mem_singleton.mp hm)) (.head _)) ?b1 ⟨⟨_, he7⟩, hit7⟩ hfp ?b2 ?b3 ?b4 ?b5 ?b6 F7 N7 ?_ ?_ ?_
    case b1 => show 7 ≤ sizeLine; rw [sizeLine_eq]; decide
    case b2 => decide
    case b3 => rfl
    case b4 => rfl
    case b5 => rfl
    case b6 => decide
    · intro i u x C m2 h8 tk8 E' hi hP hn ha hb F8 N8
      have hi7 : i < 7 := hi
      refine wpAny_isTrue_Compare1 (wpAny_Compare1 (wpAny_Name (wpAny_loadName_local rfl rfl hn ha (wpAny_Constant_int (PyProof.Rows.lt_int ?_)))))
      refine wpAny_Compare1 (wpAny_BinOp (wpAny_BinOp (wpAny_Name (wpAny_loadName_cell rfl rfl (c := L' + 1) rfl ⟨o6, (N8 _ (.head _)).1, d6⟩ ?_))))
      refine wpAny_BinOp (wpAny_Constant_int (wpAny_Name (wpAny_loadName_local rfl rfl hn ha ?_)))
      refine pow_int_small (by omega) (by omega) (by decide) (floordiv_int ?_ (wpAny_Constant_int (mod_int' (by decide) (wpAny_Constant_int (PyProof.Rows.eq_int (eq_bool ?_))))) (.inl (PyProof.noPylong_small (pow7 i hi7))))
      · exact Int.ne_of_gt (Int.pow_pos (by decide))
      · exact wpAny_truthy_bool ⟨_, rfl⟩
    · rintro i u x C m2 h8 tk8 E' hi ⟨c, uc, hc, rfl⟩ hn ha hb F8 N8
      refine wpAny_Name (wpAny_loadName_local rfl rfl hn hb ⟨⟨_, _, rfl, Nat.le_refl _, ?_⟩, _, rfl⟩)
      intro z hz
      have e : z = c := by simpa [sL] using hz
      subst e
      exact fun e0 => by
        subst e0
        have := Array.mem_of_getElem? hc
        revert this
        decide +kernel
    · intro Dn C h8 tk8 m8 ys F8 N8 hDn hn8 hC0 hD0' hCL hDL hCD hCn hg hyl
      refine ⟨m8, hn8, fun h9 hs9 => ?_⟩
      have F9 := F8.change hs9 hCL hC0
      have N9 : News g' L' h9 ((Dn, lst ys) :: (L' + 1, o6) :: (D, listOf vs.toArray 0) :: news) := fun p hp => by
        refine ⟨hs9.extBut _ _ ?_ (N8 p hp).1, (N8 p hp).2⟩
        rcases List.mem_cons.mp hp with rfl | hp
        · exact Ne.symm hCD
        · exact hCn p hp
      obtain ⟨ws, hws, hpp⟩ := strs_P hg
      obtain ⟨l, el, hll, hlc⟩ := join_P ws hpp
      have hwl := hws.length
      have hyl7 : ys.length ≤ 7 := hyl
      refine spliced_none ?_
      refine join_list (s := { heap := h9, gens := _, drawn := _, toks := _, os := _ }) ⟨_, (N9 _ (.head _)).1, rfl, _, rfl⟩ hws ?_ fun t' k' => ?_
      · have := sum_leP hpp
        show _ + ws.length * 0 ≤ _
        omega
      · rw [el]
        refine leaveK_ F9 N9 ?_
        intro kF kN
        refine h _ _ _ _ ?_ kF fun p hp => kN p (.tail _ (.tail _ hp))
        rw [has_one]
        cases hz : (ofL l).cps.toList.contains 0 with
        | false => rfl
        | true => exact absurd rfl (hlc 0 (by simpa [ofL] using hz))
end
end Mine
end

section
open PySem PySem.W PyProof.Rows PySem.Calls
set_option Elab.async false
set_option maxRecDepth 100000
set_option maxHeartbeats 8000000
namespace Mine
theorem strs_of_data : ∀ {vs : List Value} {ws : List Str}, DataAre vs (ws.map PyData.str) → StrsAre vs ws
  | [], [], _ => .nil
  | v :: vs, x :: ws, .cons h r => by
    cases h default with
    | str _ t => exact .cons x t (strs_of_data r)
/-- a piece, as the program has it -/
noncomputable def PieceOf (x : Str) : Prop := x.length ≤ 3 ∧ ∀ c ∈ sL x, c ∈ alpha1
theorem piece_ok (w : World) {s : Shared} {A : Around} {base g : Heap} {fr : List Env} {mg mb : Str → Option Value} {mean : ExcName → Option Value} {n : Int} {t : Nat} {R : Result → Shared → Prop}
    (G : Gd w A base fr mean mg mb g) (hroom : A.depth + 4 < recursionLimit) (k : Ke g s.heap)
    (hR : ∀ x h' tk t', PieceOf x → Ke g h' → R (.ok (.ret (.str x t'))) { s with heap := h', toks := tk }) :
    codeAny (model PySem.Challenge.rw_om0137_02.row.prog w) A (.call (.ref 784) ⟨[.int n t], []⟩) R s := by
  have S : Sub g s.heap [] := fun _ hp => nomatch hp
  have X := G.X
  revert X
  k_fill
  intro X
  refine' enterG G S k ?k6 ?k7 ?k8 ?k9 ?kB ?_ ?c2 ?c3 ?c4 ?c5
  case k6 => k_is
  case k7 => k_is
  case k8 => omega
  case k9 => first | exact BindsTo.of_eq rfl | exact binds_K (Frag.In.keeps X k.keep) rfl (by k_is) rfl rfl rfl
  case kB => exact rfl
  case c2 => decide
  case c3 => exact rfl
  case c4 => exact rfl
  case c5 => exact rfl
  intro L' h₁ F N hlt
  refine wpAny_execs_cons ?_
  with_reducible refine wpAny_Return_some ?_
  with_reducible refine Subscript_ ?_
  with_reducible refine Tuple_ ?_
  with_reducible refine spliced_lits _ ((["a", " ", "\\\"", "\\\\", " \"", "\" ", "\"", "'", "\\ ", "\n", "b\t#", "\\a", "\"\"", "\r", "é\u00a0", "\\"] : List Str).map PyData.str) _ _ ?hl ?_
  case hl => kernel_rfl
  intro vs tk hd
  dsimp only
  refine newTuple_N (s := { s with heap := h₁, toks := tk }) F N (fun h2 F2 N2 => ?_) ?_
  · refine wpAny_BinOp (wpAny_Name (wpAny_loadName_local rfl rfl F2.ns (v := .int n t) rfl (wpAny_Constant_int (mod_int' (by decide) ?_))))
    have hs := strs_of_data (ws := ["a", " ", "\\\"", "\\\\", " \"", "\" ", "\"", "'", "\\ ", "\n", "b\t#", "\\a", "\"\"", "\r", "é\u00a0", "\\"]) hd
    have h0 : 0 ≤ n.fmod 16 := Int.fmod_nonneg_of_pos n (by decide)
    have h1 : n.fmod 16 < 16 := Int.fmod_lt_of_pos n (by decide)
    refine KTb.item_tup (N2.isTup (a := _) (items := vs.toArray) (n := 0) (d := none) (sl := #[]) (.head _)) hs h0 h1 (by omega) (fun t' hj => ?_)
    refine hR _ h2 _ _ ?_ (Ke.of_fr F2)
    have all : ∀ x ∈ (["a", " ", "\\\"", "\\\\", " \"", "\" ", "\"", "'", "\\ ", "\n", "b\t#", "\\a", "\"\"", "\r", "é\u00a0", "\\"] : List Str), x.length ≤ 3 ∧ ∀ c ∈ sL x, c ∈ alpha1 := by decide +kernel
    refine all _ ?_
    rw [List.getD_eq_getElem?_getD, List.getElem?_eq_getElem hj]
    exact List.getElem_mem hj
  · show vs.length ≤ _; rw [(strs_of_data (ws := ["a", " ", "\\\"", "\\\\", " \"", "\" ", "\"", "'", "\\ ", "\n", "b\t#", "\\a", "\"\"", "\r", "é\u00a0", "\\"]) hd).length, sizeLine_eq]; decide
end Mine
end

section
open PySem PySem.W PyProof.Rows PySem.Calls PyProof.Rows.LCg
set_option Elab.async false
set_option maxRecDepth 100000
set_option maxHeartbeats 8000000
namespace Mine
section
variable {w : World} {s : Shared} {A A₀ : Around} {base h₀ : Heap} {outer : List Env} {mg mb : Str → Option Value} {mean : ExcName → Option Value} {env : Env} {L : Addr} {m : Str → Option Value} {news : List (Addr × Obj)} {E : Value → Shared → Prop} {Q : Value → Shared → Prop}
theorem piece_K {n : Int} {t : Nat} (B : Below A₀ base outer h₀) (F : Fr h₀ L s.heap m) (X : (hd.heap_39 w.params).In h₀) (T : Top hd.view_39 lo mean mg mb h₀) (hA : A.frames = some (env :: outer)) (hf : env.frame = some L) (hke : env.scope.kind = .function) (hroom : A.depth + 4 < recursionLimit) (N : News h₀ L s.heap news)
    (h : ∀ x h' tk t', PieceOf x → Fr h₀ L h' m → News h₀ L h' news → Q (.str x t') { s with heap := h', toks := tk }) :
    wpAny (model PySem.Challenge.rw_om0137_02.row.prog w) A (call (.ref 784) [.int n t]) Q E s := by
  obtain ⟨g', G', S', k', back⟩ := pushZ (A := A) (env := env) (sub := []) B F News.nil hA hf hke X T
  refine wpAny_call (piece_ok w G' hroom k' ?_)
  intro x h' tk t' hx k2
  obtain ⟨F2, N2, -⟩ := back news N (fun _ _ hm => nomatch hm) h' [] k2 (fun _ hp => nomatch hp)
  exact h x h' tk t' hx F2 N2
theorem given_K {text : List Nat} {W : Str} {t tw : Nat} (B : Below A₀ base outer h₀) (F : Fr h₀ L s.heap m) (X : (hd.heap_39 w.params).In h₀) (T : Top hd.view_39 lo mean mg mb h₀) (hA : A.frames = some (env :: outer)) (hf : env.frame = some L) (hke : env.scope.kind = .function) (hroom : A.depth + 24 < recursionLimit) (hh : A.handled = none) (hlen : text.length ≤ 900) (hz : has W (sg 0) = false)
    (h : ∀ D items ft h' tk, Fr h₀ L h' m → News h₀ L h' ((D, lstY items) :: ft) → GR (whW W) text 1 (text.length + 1) items ft → (∀ q ∈ ft, q.1 ≠ D) → Q (.ref D) { s with heap := h', toks := tk }) :
    wpAny (model PySem.Challenge.rw_om0137_02.row.prog w) A (call (.ref 796) [.str (ofL text) t, .str W tw]) Q E s := by
  obtain ⟨g', G', S', k', back⟩ := pushZ (A := A) (env := env) (sub := []) B F News.nil hA hf hke X T
  refine wpAny_call (givenL_ok w G' hroom hh k' hlen hz ?_)
  intro D items ft h' tk k2 S2 hgr hD
  obtain ⟨F2, N2, -⟩ := back [] News.nil (fun _ hp => nomatch hp) h' _ k2 S2
  rw [List.append_nil] at N2
  exact h D items ft h' tk F2 N2 hgr hD
theorem reduce_K {text : List Nat} {W : Str} {a Dl t1 t2 t3 : Nat} {items : List Value} {ft : List (Addr × Obj)} (B : Below A₀ base [] h₀) (F : Fr h₀ L s.heap m) (X : (hd.heap_39 w.params).In h₀) (T : Top hd.view_39 lo mean mg mb h₀) (hA : A.frames = some [env]) (hf : env.frame = some L) (hke : env.scope.kind = .function) (hroom : A.depth + 40 < recursionLimit) (hh : A.handled = none) (hu : A.units + 76 < cLine)
    (XB : (hd.heap_39 w.params).In base) (TB : Top hd.view_39 lo mean mg mb base) (hlen : text.length ≤ 900) (hal : ∀ c ∈ text, c ∈ alpha1) (hz : has W (sg 0) = false) (N : News h₀ L s.heap ((a, tupO [.bool true, .str (ofL text) t1, .int 1 t2, .str W t3]) :: (Dl, lstY items) :: ft)) (hgr : GR (whW W) text 1 (text.length + 1) items ft) (a1 : ∀ q ∈ (Dl, lstY items) :: ft, q.1 ≠ a) (a3 : ∀ q ∈ ft, q.1 ≠ Dl)
    (h : ∀ a' q1 q2 q3 n h' tk, Fr h₀ L h' m → News h₀ L h' [(a', tupO [.bool true, .str (ofL []) q1, .int n q2, .str W q3])] → Q (.ref a') { s with heap := h', toks := tk }) :
    wpAny (model PySem.Challenge.rw_om0137_02.row.prog w) A (call (.ref 777) [.ref 817, .ref Dl, .ref a]) Q E s := by
  obtain ⟨gh, G', S', k', D', back⟩ := pushT (A := A) (env := env) B F N hA hf hke X T (fun b hm => nomatch hm)
  refine wpAny_call (reduce_ok (w := w) G' hroom hh hu k' hlen hal hz XB TB D' S' hgr a1 a3 ?_)
  intro g' a' q1 q2 q3 h' tk T' k2 S2
  obtain ⟨h₀', TT, F', B', N', ap⟩ := back [] News.nil (fun _ hp => nomatch hp) g' h' _ T' k2 S2
  rw [gst_end] at N'
  refine h a' q1 q2 q3 (gst (whW W) text 1 (text.length + 1)).2 h' tk ⟨F'.ns, fun b o e => F'.keep b o (TT.other b o e fun hm => nomatch hm), F.above⟩ ?_
  intro p hp
  have z := N' p (List.mem_append_left _ hp)
  refine ⟨z.1, z.2.1, ?_⟩
  cases e : h₀.get? p.1 with
  | none => rfl
  | some o => have := TT.other p.1 o e fun hm => nomatch hm; rw [z.2.2] at this; cases this
end
section
variable {prog : Program} {w : World} {A : Around} {E : Value → Shared → Prop} {s : Shared} {h₀ : Heap} {L : Addr} {m : Str → Option Value} {env : Env}
/-- a comprehension whose turns keep the ledger -/
theorem comp_ind {elt : Expr} {x : Str} {scope : Scope} {cl : List (Str × Addr)} {S : List (Addr × Obj) → Prop} {P : Nat → Value → Prop} {Fin : List Value → List (Addr × Obj) → Prop} {news : List (Addr × Obj)} {n : Nat} {good : Value → Prop} (hS : S news)
    (turn : ∀ i v I oI C oC D m₂ h tk ys (E' : Value → Shared → Prop) (Qc : Value → Shared → Prop), i < n → P i v → NsObj oC m₂ → m₂ x = some v → Fr h₀ L h m → News h₀ L h ((I, oI) :: (C, oC) :: (D, lst ys) :: news) →
      (∀ y h' tk', good y → Fr h₀ L h' m → News h₀ L h' ((I, oI) :: (C, oC) :: (D, lst ys) :: news) → Qc y { s with heap := h', toks := tk' }) → wpAny (model prog w) A (eval elt (compEnvC scope cl C env)) Qc E' { s with heap := h, toks := tk })
    (fin : ∀ ys, ys.length = n → (∀ y ∈ ys, good y) → Fin ys news) : ∀ k i ys, i + k = n → ys.length = i → (∀ y ∈ ys, good y) → CompRest prog w A h₀ L m env elt x scope cl s S P Fin k i ys news
  | 0, i, ys, e, hl, hg => CompRest.zero (fin ys (by omega) hg)
  | k + 1, i, ys, e, hl, hg => CompRest.succ fun v I oI C oC D m₂ h tk E' hp ho hx F N off ne3 =>
    turn i v I oI C oC D m₂ h tk ys E' _ (by omega) hp ho hx F N fun y h' tk' hy F' N' =>
      CompEnd.intro F' N' news (fun _ h => h) off hS (comp_ind hS turn fin k (i + 1) (ys ++ [y]) (by omega) (by simp [hl]) fun z hz => by
        rcases List.mem_append.mp hz with q | q
        · exact hg z q
        · rw [List.mem_singleton.mp q]; exact hy)
end
end Mine
end

section
open PySem PySem.W PyProof.Rows PySem.Calls PyProof.Rows.LCg PyProof.Rows.LSm
set_option Elab.async false
set_option maxRecDepth 100000
set_option maxHeartbeats 8000000
namespace Mine
theorem lw_K (w : World) : nsIn (hd.heap_39 w.params) mainGlobals "_law_piece" = some (some (.ref 784)) ∧ nsIn (hd.heap_39 w.params) mainGlobals "_law_whites" = some (some (.ref 789)) ∧ nsIn (hd.heap_39 w.params) mainGlobals "_law_given" = some (some (.ref 796)) ∧ nsIn (hd.heap_39 w.params) mainGlobals "reduce" = some (some (.ref 777)) ∧ nsIn (hd.heap_39 w.params) mainGlobals "_law_next" = some (some (.ref 817)) ∧
    keepIn (hd.heap_39 w.params) (.ref 784) = true ∧ keepIn (hd.heap_39 w.params) (.ref 789) = true ∧ keepIn (hd.heap_39 w.params) (.ref 796) = true ∧ keepIn (hd.heap_39 w.params) (.ref 777) = true := by
  have e : PySem.Challenge.rw_om0137_02 = PySem.Challenge.rw_om0137_02 := rfl
  revert e
  k_fill
  intro _
  refine ⟨?_, ?_, ?_, ?_, ?_, ?_, ?_, ?_, ?_⟩ <;> k_is
section
variable {w : World} {s : Shared} {A A₀ : Around} {base h₀ : Heap} {mg mb : Str → Option Value} {mean : ExcName → Option Value} {env : Env} {L : Addr} {m : Str → Option Value} {news : List (Addr × Obj)} {E : Value → Shared → Prop} {Q : Value → Shared → Prop}
theorem ask_K {text : List Nat} {W : Str} {t1 t3 k1 k2 k3 : Nat} {p1 p2 p3 p4 p5 p6 p7 p8 p9 p10 p11 p12 : Pos} (B : Below A₀ base [] h₀) (F : Fr h₀ L s.heap m) (X : (hd.heap_39 w.params).In h₀) (T : Top hd.view_39 lo mean mg mb h₀) (hA : A.frames = some [env]) (hf : env.frame = some L) (hke : env.scope.kind = .function) (hloc : env.locals = L) (hgl : env.globals = mainGlobals)
    (kr : env.kindOf "reduce" = some .globalImplicit) (kn : env.kindOf "_law_next" = some .globalImplicit) (kg : env.kindOf "_law_given" = some .globalImplicit) (kb : env.kindOf "body" = some .local) (kw : env.kindOf "blanks" = some .local)
    (hroom : A.depth + 40 < recursionLimit) (hh : A.handled = none) (hu : A.units + 76 < cLine) (XB : (hd.heap_39 w.params).In base) (TB : Top hd.view_39 lo mean mg mb base) (hlen : text.length ≤ 900) (hal : ∀ c ∈ text, c ∈ alpha1) (hz : has W (sg 0) = false)
    (mb' : m "body" = some (.str (ofL text) t1)) (mw : m "blanks" = some (.str W t3))
    (h : ∀ a' q1 q2 q3 n h' tk, Fr h₀ L h' m → News h₀ L h' [(a', tupO [.bool true, .str (ofL []) q1, .int n q2, .str W q3])] → Q (.ref a') { s with heap := h', toks := tk }) :
    wpAny (model PySem.Challenge.rw_om0137_02.row.prog w) A (eval (.Call (.Name (Str.ofString "reduce") p1) [.Name (Str.ofString "_law_next") p2, .Call (.Name (Str.ofString "_law_given") p3) [.Name (Str.ofString "body") p4, .Name (Str.ofString "blanks") p5] [] p6, .Tuple [.Constant (.bool true) k1 p7, .Name (Str.ofString "body") p8, .Constant (.int 1) k2 p9, .Name (Str.ofString "blanks") p10] k3 p11] [] p12) env) Q E s := by
  obtain ⟨-, -, l3, l4, l5, -, -, l8, l9⟩ := lw_K w
  refine Call_ ?_ rfl
  refine nameG_K F X (topRead_of T) l4 ?_ hgl hke kr (by decide)
  refine callWith_K X l9 ?_
  refine spliced_more ?_
  refine nameG_K F X (topRead_of T) l5 ?_ hgl hke kn (by decide)
  refine spliced_more (Call_ ?_ rfl)
  refine nameG_K F X (topRead_of T) l3 ?_ hgl hke kg (by decide)
  refine callWith_K X l8 ?_
  refine spliced_more (wpAny_Name (wpAny_loadName_local hke kb (by rw [hloc]; exact F.ns) mb' ?_))
  refine spliced_more (wpAny_Name (wpAny_loadName_local hke kw (by rw [hloc]; exact F.ns) mw ?_))
  refine spliced_none ⟨X.keeps F.keep, ?_⟩
  refine given_K B F X T hA hf hke (by omega) hh hlen hz fun D items ft h5 tk5 F5 N5 hgr hD => ?_
  refine spliced_more (Tuple_ (spliced_more (wpAny_Constant_bool ?_)))
  refine spliced_more (wpAny_Name (wpAny_loadName_local hke kb (by rw [hloc]; exact F5.ns) mb' ?_))
  refine spliced_more (wpAny_Constant_int ?_)
  refine spliced_more (wpAny_Name (wpAny_loadName_local hke kw (by rw [hloc]; exact F5.ns) mw ?_))
  refine spliced_none (newTuple_N (s := { s with heap := h5, toks := _ }) F5 N5 (fun h6 F6 N6 => ?_) ?_)
  · refine spliced_none ⟨X.keeps F6.keep, ?_⟩
    exact reduce_K (s := { s with heap := h6, toks := _ }) B F6 X T hA hf hke hroom hh hu XB TB hlen hal hz N6 hgr (fun q hq => Nat.ne_of_lt (Heap.lt_size (N5 q hq).1)) hD h
  · rw [sizeLine_eq]; show 4 ≤ 16777216; decide
theorem ret_K {a q1 q2 q3 k1 k2 k3 : Nat} {n : Int} {W : Str} {p1 p2 p3 p4 p5 p6 p7 p8 p9 : Pos} (F : Fr h₀ L s.heap m) (N : News h₀ L s.heap [(a, tupO [.bool true, .str (ofL []) q1, .int n q2, .str W q3])]) (hke : env.scope.kind = .function) (hloc : env.locals = L) (ka : env.kindOf "answer" = some .local) (ma : m "answer" = some (.ref a)) (h : ∀ tk, Q (.bool true) { s with toks := tk }) :
    wpAny (model PySem.Challenge.rw_om0137_02.row.prog w) A (eval (.BoolOp .And [.Subscript (.Name (Str.ofString "answer") p1) (.Constant (.int 0) k1 p2) p3, .Compare (.Subscript (.Name (Str.ofString "answer") p4) (.Constant (.int 1) k2 p5) p6) [.Eq] [.Constant (.str (Str.ofString "")) k3 p7] p8] p9) env) Q E s := by
  have ht : IsTup s.heap a [.bool true, .str (ofL []) q1, .int n q2, .str W q3].toArray := ⟨_, (N _ (.head _)).1, rfl, _, rfl⟩
  refine BoolOp_and (Subscript_ (wpAny_Name (wpAny_loadName_local hke ka (by rw [hloc]; exact F.ns) ma (wpAny_Constant_int ?_))))
  refine item_tupleL (l := [.bool true, .str (ofL []) q1, .int n q2, .str W q3]) (j := 0) (s := { s with heap := s.heap, toks := _ }) ht (by decide) (by decide) rfl rfl (wpAny_truthy_bool ?_)
  rw [if_pos rfl]
  refine BoolOp_one (wpAny_Compare1 (Subscript_ (wpAny_Name (wpAny_loadName_local (s := { s with heap := s.heap, toks := _ }) hke ka (by rw [hloc]; exact F.ns) ma (wpAny_Constant_int ?_)))))
  refine item_tupleL (l := [.bool true, .str (ofL []) q1, .int n q2, .str W q3]) (j := 1) (s := { s with heap := s.heap, toks := _ }) ht (by decide) (by decide) rfl rfl ?_
  refine wpAny_Constant_str (PyProof.Rows.eq_str ?_)
  exact h _
theorem join_LC {x : Str} {k : Nat} {pl : Sem Bool} {elt : Expr} {gs : List Comprehension} {scope : Scope} {p1 p2 p3 p4 : Pos} (h : wpAny (model PySem.Challenge.rw_om0137_02.row.prog w) A (eval (.ListComp elt gs scope p1) env) (fun v s₁ => wpAny (model PySem.Challenge.rw_om0137_02.row.prog w) A (call (.builtin "str.join") [.str x s.toks, v]) Q E s₁) E { s with toks := s.toks + 1 })
    (he : eval (.Call (.Attribute (.Constant (.str x) k p2) (Str.ofString "join") p3) [.ListComp elt gs scope p1] [] p4) env = (do
      let ov ← eval (.Constant (.str x) k p2) env
      standAt p3.atName
      let (f, first) ← holding [ov] (getMethod ov (Str.ofString "join") pl)
      callWith p4 f first (backTo p4 (starEach [.ListComp elt gs scope p1] env)) [])) :
    wpAny (model PySem.Challenge.rw_om0137_02.row.prog w) A (eval (.Call (.Attribute (.Constant (.str x) k p2) (Str.ofString "join") p3) [.ListComp elt gs scope p1] [] p4) env) Q E s := by
  refine MethodCall_ (wpAny_Constant_str (GM.join ?_)) he
  refine Calls.callWith_builtin rfl (Calls.evalArgs_plain ?_)
  refine spliced_more (e := .ListComp elt gs scope p1) (env := env) (rest := []) (pos := p4) ?_
  exact wpAny_mono h (fun v s₁ h1 => spliced_none h1) fun _ _ x => x
end
end Mine
end

section
open PySem PySem.W PyProof.Rows PySem.Calls PyProof.Rows.LCg PyProof.Rows.LSm
set_option Elab.async false
set_option maxRecDepth 100000
set_option maxHeartbeats 8000000
namespace Mine
theorem ints_of_data : ∀ {vs : List Value} {ns : List Int}, DataAre vs (ns.map PyData.int) → IntsAre vs ns
  | [], [], _ => .nil
  | v :: vs, x :: ns, .cons h r => by
    cases h default with
    | int _ t => exact .cons x t (ints_of_data r)
theorem islist_keep {h₀ h : Heap} {l : Addr} {its : Array Value} (x : h₀.IsList l its) (k : ∀ b o, h₀.get? b = some o → h.get? b = some o) : h.IsList l its := let ⟨o, e, r⟩ := x; ⟨o, k _ _ e, r⟩
theorem t1 : PySem.Challenge.rw_om0137_02.Holds := by
  w_on
  refine holds_law said_02 fun said => ?_
  refine PySem.W.holds_open (q := hd.view_39) (loose := loose1) (Xt := fun s => xlAt hd.view_39 [] s && recOk PySem.Challenge.rw_om0137_02.row.toRowW.records s) (XP := XL hd.view_39 []) (Yf := Hook.obs (kHook hd.heap_39 Ks ks_K)) (Ya := Hook.val (kHook hd.heap_39 Ks ks_K)) (YP := Hook.says (kHook hd.heap_39 Ks ks_K)) (N := 10750) left1 (Hook.of (kHook hd.heap_39 Ks ks_K)) (Hook.keeps (kHook hd.heap_39 Ks ks_K)) (fun s e => xl_of s (Bool.and_eq_true_iff.mp e).1) XL.keeps (by rfl) (by rfl) (by rfl) (fun s e => recFacts_of (Bool.and_eq_true_iff.mp e).2) (by rfl) said (by decide +kernel) ⟨rfl, rfl, rfl, rfl, rfl, by decide +kernel⟩ ?hw ?hc
  case hw => w_witness2
  k_fill
  intro w s₀ s₁ mg mb G Y fa o pm cd doc dV kV ho hd hcd hD hmg hg args vals as hpre hlay hrd hwl hlo
  have KX := kIn_of Y
  have X := (Ground.X G).1
  have V := (Ground.X G).2
  refine Ground.open G ?_
  intro T B D TE TW
  try (refine guard_noD D (by decide +kernel) ?_; clear D)
  obtain ⟨_, _, M⟩ := bmod_of_top T
  have TA := at_of_top T
  try (obtain ⟨_, _, he, B0⟩ := based_of_top T rfl hmg ho hd; have he' : cd = _ := he; subst he'; clear he)
  clear hmg
  wrow_args hpre hlay hrd hwl hlo
  first | refine callC_kw (enter_call ?_) | refine enter_call ?_ | refine callC_kw (enter_callW ?_) | refine enter_callW ?_ | w_how
  w_top on
  try refine codeAny_mono ?_ (fun _ _ g => GoodW.toG g)
  have K0 := below_caller (Top.heap T)
  w_call any ho hd hcd hD T F
  clear hd TA
  k_drop
  rename Below _ _ _ _ => K0
  rename Fr _ _ _ _ => F0
  rename News _ _ _ _ => N0
  rename Frag.In _ _ => KX
  rename Top _ _ _ _ _ _ => T0
  rename IntsAre _ _ => hI
  rename Heap.IsList _ _ _ => hL
  rename ¬ _ < _ => h63
  rename World => w
  rename Shared => s1
  obtain ⟨l1, l2, -, -, -, l6, l7, -, -⟩ := lw_K w
  with_reducible refine wpAny_gen ?hgen
  intro Q0 E0 hQ0 hE0
  clear hE0
  refine wpAny_execs_cons ?_
  refine wpAny_Assign_Name ?_ ?hs
  case hs => rfl
  with_reducible refine join_LC (pl := ?pl) ?hm ?he
  case he => rfl
  with_reducible refine ListComp_U (cl := []) F0 ?k1 ?k2 ?k3 ?k4 ?k5 ?_ ?k6
  case k1 => with_unfolding_all rfl
  case k2 => decide
  case k3 => rfl
  case k4 => decide
  case k5 => rfl
  case k6 => intro _; rfl
  with_reducible refine wpAny_BinOp ?_
  with_reducible refine List_ ?_
  refine spliced_lits _ (([0, 2, 4, 7, 5, 12, 3, 9] : List Int).map PyData.int) _ _ ?hl ?_
  case hl => kernel_rfl
  intro vs tk hd1
  dsimp only
  have hv := ints_of_data hd1
  refine newList_N F0 N0 (fun h1 F1 N1 => ?_) ?_
  rotate_left
  · show vs.length ≤ _
    rw [hv.length, sizeLine_eq]; decide
  have hL1 := islist_keep hL F1.keep
  with_reducible refine Subscript_ ?_
  refine' ldLoc F1 ?hs ?_
  case hs => exact rfl
  with_reducible refine wpAny_Slice ?_
  refine wpAny_pure ?_
  rw [evalPart_some]
  with_reducible refine wpAny_Constant_int ?_
  refine wpAny_pure ?_
  refine kmk_slice_ints (s := { heap := h1, gens := _, drawn := _, toks := _, os := _ }) F1 N1 hL1 .none (.int _ _) hI (kmk_upto hI (by decide)) rfl (fun D2 ws2 h2 F2 N2 hlt2 hi2 hc2 hle2 => ?_) rfl (fun _ => rfl) ?_
  rotate_left
  · rw [List.size_toArray, hI.length, sizeLine_eq]
    omega
  dsimp only
  refine kmk_add_ints (s := { heap := h2, gens := _, drawn := _, toks := _, os := _ }) F2 N2 (N2.isList (items := vs.toArray) (n := 0) (d := none) (sl := #[]) (.tail _ (.head _))) (N2.isList (items := ws2.toArray) (n := 0) (d := none) (sl := #[]) (.head _)) hv hi2 (fun D3 us h3 F3 N3 hlt3 hi3 => ?_) ?_
  rotate_left
  · rw [sizeLine_eq]
    simp only [List.length_cons, List.length_nil]
    omega
  have N4 := fun (p : Addr × Obj) (hp : p ∈ [(D3, listOf us.toArray 0)]) => N3 p (by
    rw [List.mem_singleton.mp hp]
    exact .head _)
  have hus : us.length ≤ 28 := by
    have e := hi3.length
    simp only [List.length_append, List.length_cons, List.length_nil, List.length_take] at e
    omega
  dsimp only
  refine CompSrc.ledger (k := 0) rfl F3 N4 (.head _) (by rw [List.size_toArray, sizeLine_eq]; omega) fun g4 => ?_
  refine comp_ind (n := us.toArray.size) (good := fun y => ∃ x t, y = .str x t ∧ PieceOf x) (.inr ⟨_, .head _, rfl, _, rfl⟩) ?_ ?_ _ 0 [] (Nat.zero_add _) rfl (fun _ h => nomatch h)
  · intro i v I oI C oC D m5 h5 tk5 ys E' Qc hi hP ho hx F5 N5 kk
    obtain ⟨n, t, rfl⟩ := ints_at hi3 (List.mem_of_getElem? (show us[i]? = some v by simpa using hP))
    with_reducible refine Call_ ?_ ?he
    case he => rfl
    refine nameG_K F5 KX (topRead_of T0) l1 ?_ rfl rfl rfl (by decide)
    refine callWith_K KX l6 ?_
    refine spliced_more ?_
    with_reducible refine wpAny_Name ?_ ?hd
    case hd => decide
    refine wpAny_loadName_local rfl rfl (ho.ns (N5 _ (.tail _ (.head _))).1) hx ?_
    refine spliced_none ⟨KX.keeps F5.keep, ?_⟩
    refine piece_K (env := _) K0 F5 KX T0 (Around.frames_deeper K0.stack) rfl rfl (by k_room) N5 fun x h' tk t' hp F' N' => kk _ h' tk ⟨x, t', rfl, hp⟩ F' N'
  · intro ys hl hg D h5 tk5 F5 N5 off5
    obtain ⟨ws, hws, hpp⟩ := strs_P (k := 3) (P := fun c => c ∈ alpha1) hg
    obtain ⟨l, el, hll, hlc⟩ := join_P ws hpp
    have hwl := hws.length
    have hys : ys.length ≤ 28 := by rw [hl, List.size_toArray]; exact hus
    have hsm := sum_leP hpp
    clear hg off5
    dsimp only
    refine (join_list (s := { heap := h5, gens := _, drawn := _, toks := _, os := _ }) ⟨_, (N5 _ (.head _)).1, rfl, _, rfl⟩ hws ?_ fun t' k' => ?_)
    · show _ + ws.length * 0 ≤ _
      omega
    rw [el]
    dsimp only
    refine stN F5 N5 fun h6 F6 N6 => ?_
    have hL6 := islist_keep hL F6.keep
    dsimp only
    refine wpAny_execs_cons (wpAny_Assign_Name (Call_ ?_ rfl) rfl)
    refine nameG_K (s := { heap := h6, gens := _, drawn := _, toks := _, os := _ }) F6 KX (topRead_of T0) l2 ?_ rfl rfl rfl (by decide)
    refine callWith_K KX l7 ?_
    refine spliced_more (Subscript_ ?_)
    refine' ldLoc (s := { heap := h6, gens := _, drawn := _, toks := _, os := _ }) F6 ?hs ?_
    case hs => exact rfl
    with_reducible refine wpAny_Slice ?_
    refine wpAny_pure ?_
    rw [evalPart_some]
    with_reducible refine wpAny_Constant_int ?_
    refine wpAny_pure ?_
    refine kmk_slice_ints (s := { heap := h6, gens := _, drawn := _, toks := _, os := _ }) F6 N6 hL6 .none (.int _ _) hI (kmk_upto hI (by decide)) rfl (fun D7 ws7 h7 F7 N7 hlt7 hi7 hc7 hle7 => ?_) rfl (fun _ => rfl) ?_
    rotate_left
    · rw [List.size_toArray, hI.length, sizeLine_eq]
      omega
    dsimp only
    refine spliced_none ⟨KX.keeps F7.keep, ?_⟩
    have hw7 : ws7.length ≤ 100 := by
      have e := hi7.length
      simp only [List.length_take] at e
      omega
    refine whites_K (env := _) K0 F7 KX T0 (Around.frames_deeper K0.stack) rfl rfl (by k_room) rfl N7 hi7 hw7 (fun q hq => Nat.ne_of_lt (hlt7 q hq)) fun W t h8 tk8 hz F8 N8 => ?_
    dsimp only
    refine stN F8 N8 fun h9 F9 N9 => ?_
    dsimp only
    refine wpAny_execs_cons (wpAny_Assign_Name ?_ rfl)
    refine ask_K (text := l) (W := W) (t1 := t') (t3 := t) K0 F9 KX T0 (Around.frames_deeper K0.stack) rfl rfl rfl rfl rfl rfl rfl rfl rfl (by k_room) rfl (by show 4 + 3 + 76 < cLine; decide) KX T0 (by omega) hlc hz ?mb ?mw fun a' q1 q2 q3 n h10 tk10 F10 N10 => ?_
    case mb => rw [if_neg (by decide)]; exact if_pos rfl
    case mw => exact if_pos rfl
    dsimp only
    refine stN F10 N10 fun h11 F11 N11 => ?_
    dsimp only
    refine wpAny_execs_cons (wpAny_Return_some ?_)
    refine ret_K F11 N11 rfl rfl rfl (if_pos rfl) fun tk => ?_
    subst hQ0
    refine goodW_bool F11 ?_ (raisesW_false ?_) ?_
    · show s1.gens = #[]
      with_reducible assumption
    · wrow_none_raised
    · wrow_post
end Mine
end

set_option maxRecDepth 100000 in
set_option maxHeartbeats 8000000 in
theorem PySem.Challenge.cw_om0137_02_holds : PySem.Challenge.rw_om0137_02.Holds := by
  exact Mine.t1
