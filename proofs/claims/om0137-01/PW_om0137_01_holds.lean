import PyProof.Rows.All
import Wide.All
import OpenK.AllK
import Wide.FinOn
import PyProof.Rows.EqNone
import PyProof.ExcFactsAll.ValueError
import KE.KTryDeep
import KE.KBoundM
import KE.KParD
import KE.LcSums
import PySem.Challenge.RW_om0137_01
set_option Elab.async false
section
open PySem PySem.W PyProof.Rows
set_option Elab.async false
set_option maxRecDepth 100000
set_option maxHeartbeats 8000000
namespace Mine
/-- the top's run, over a heap laid as a tree -/
noncomputable def runG (st : SharedT → Thread → Option (SharedT × Thread)) (ok : Thread → Bool) (n : Nat) : SharedT → Thread → Option SharedT :=
  @Nat.rec (fun _ => SharedT → Thread → Option SharedT) (fun _ _ => none) (fun _ ih s t => @Bool.rec (fun _ => Option SharedT) (@Bool.rec (fun _ => Option SharedT) none (@Option.rec (SharedT × Thread) (fun _ => Option SharedT) none (fun r => ih r.1 r.2) (st s t)) (ok t)) (some s) (through t)) n
theorem runG_of {tb : String → Option Builtin} {p : Program} {w : World} {n₀ : Nat} {ann : Option Value} : ∀ {n : Nat} {s s' : SharedT} {t : Thread}, runG (stepT (denote tb) p w) (stepOk n₀ ann) n s t = some s' → topRun tb p w n₀ ann n s.abs t = some s'.abs
  | 0, _, _, _, h => by cases h
  | n + 1, s, s', t, h => by
    unfold topRun
    change @Bool.rec (fun _ => Option SharedT) (@Bool.rec (fun _ => Option SharedT) none (@Option.rec (SharedT × Thread) (fun _ => Option SharedT) none (fun r => runG (stepT (denote tb) p w) (stepOk n₀ ann) n r.1 r.2) (stepT (denote tb) p w s t)) (stepOk n₀ ann t)) (some s) (through t) = some s' at h
    cases he : through t with
    | true => rw [he] at h; cases h; rfl
    | false =>
      rw [he] at h
      cases hk : stepOk n₀ ann t with
      | false => rw [hk] at h; cases h
      | true =>
        rw [hk] at h
        cases hs : stepT (denote tb) p w s t with
        | none => rw [hs] at h; cases h
        | some r =>
          obtain ⟨s₂, t₂⟩ := r
          rw [hs] at h
          dsimp only
          rw [stepT_spec hs]
          exact runG_of h
/-- the opening's run, over a heap laid as a tree -/
noncomputable def impG (st : SharedT → Thread → Option (SharedT × Thread)) (n : Nat) : SharedT → Thread → Option SharedT :=
  @Nat.rec (fun _ => SharedT → Thread → Option SharedT) (fun _ _ => none) (fun _ ih s t => @Option.rec _ (fun _ => Option SharedT) (@Option.rec (SharedT × Thread) (fun _ => Option SharedT) none (fun r => ih r.1 r.2) (st s t)) (fun l => match l with | [] => some s | _ :: _ => none) t.atExitBegin) n
theorem impG_of {tb : String → Option Builtin} {p : Program} {w : World} : ∀ {n : Nat} {s s' : SharedT} {t : Thread}, impG (stepT (denote tb) p w) n s t = some s' → importEnds tb p w n s.abs t = some s'.abs
  | 0, _, _, _, h => by cases h
  | n + 1, s, s', t, h => by
    unfold importEnds
    change @Option.rec _ (fun _ => Option SharedT) (@Option.rec (SharedT × Thread) (fun _ => Option SharedT) none (fun r => impG (stepT (denote tb) p w) n r.1 r.2) (stepT (denote tb) p w s t)) (fun l => match l with | [] => some s | _ :: _ => none) t.atExitBegin = some s' at h
    cases he : t.atExitBegin with
    | some l => rw [he] at h; cases l <;> cases h; rfl
    | none =>
      rw [he] at h
      cases hs : stepT (denote tb) p w s t with
      | none => rw [hs] at h; cases h
      | some r =>
        obtain ⟨s₂, t₂⟩ := r
        rw [hs] at h
        dsimp only
        rw [stepT_spec hs]
        exact impG_of h
/-- a heap's objects, laid as a tree -/
noncomputable def lay : BT → Nat → List Obj → Option (BT × Nat)
  | t, n, [] => some (t, n)
  | t, n, o :: r => match ((t.ins n o).get n).isSome with
    | true => lay (t.ins n o) (n + 1) r
    | false => none
theorem lay_of {life : Life} : ∀ {l : List Obj} {t t' : BT} {n n' : Nat} {h : Heap}, lay t n l = some (t', n') → absHeap t n life = h → absHeap t' n' life = ⟨(h.objs.toList ++ l).toArray, h.life⟩
  | [], t, t', n, n', h, e, q => by
    cases e
    rw [q, List.append_nil]
  | o :: r, t, t', n, n', h, e, q => by
    unfold lay at e
    cases hi : ((t.ins n o).get n).isSome with
    | false => rw [hi] at e; cases e
    | true =>
      rw [hi] at e
      have := lay_of e (absHeap_ins (life := life) hi)
      rw [this, q]
      show (⟨_, _⟩ : Heap) = ⟨_, _⟩
      congr 1
      show ((h.objs.push o).toList ++ r).toArray = _
      simp
theorem lay_abs {h : Heap} {t : BT} {n : Nat} (e : lay .nil 0 h.objs.toList = some (t, n)) : absHeap t n h.life = h := by
  have := lay_of (life := h.life) (h := ⟨#[], h.life⟩) e rfl
  rw [this]
  rfl
/-- a state, its heap laid as a tree -/
noncomputable def layS (s : Shared) : Option SharedT := match lay .nil 0 s.heap.objs.toList with
  | some (t, n) => some ⟨t, n, s.heap.life, s.gens, s.drawn, s.toks, s.os⟩
  | none => none
theorem layS_abs {s : Shared} {x : SharedT} (e : layS s = some x) : x.abs = s := by
  unfold layS at e
  cases hl : lay .nil 0 s.heap.objs.toList with
  | none => rw [hl] at e; cases e
  | some y =>
    obtain ⟨t, n⟩ := y
    rw [hl] at e
    cases e
    unfold SharedT.abs
    rw [lay_abs hl]
/-- the opening and the whole top, once: the state ahead of the top, and the state behind it -/
noncomputable def onceG (st : (Code → Sem Fin) → Program → World → SharedT → Thread → Option (SharedT × Thread)) (den : Code → Sem Fin) (ok : Nat → Option Value → Thread → Bool) (fen : Program → Shared → Option Shared) (p : Program) (w : World) (N : Nat) : Option (Shared × Shared) :=
  (layS (start (opening p)).1).bind fun s => (impG (st den (opening p) w) N s (start (opening p)).2).bind fun s => (fen p s.abs).bind fun s₀ => @Bool.rec (fun _ => Option (Shared × Shared)) none ((layS s₀).bind fun s => (runG (st den p w) (ok s₀.heap.objs.size (s₀.heap.nsMap mainGlobals "__annotations__")) N s (topStub p)).map fun s' => (s₀, s'.abs)) (s₀.heap.isNs mainGlobals && s₀.gens.size == 0)
noncomputable abbrev once (p : Program) (w : World) (N : Nat) : Option (Shared × Shared) := onceG stepT (denote treeTable) stepOk fenceModules? p w N
/-- the same over the library's twins -/
noncomputable abbrev onceQ (p : Program) (w : World) (N : Nat) : Option (Shared × Shared) := onceG Fast.tw10156331382660048174 (Fast.tw11892475500146522536 Fast.tw14364793385576792824) Fast.tw6613529449190102663 Fast.tw14289696077712309145 p w N
theorem once_eq (p : Program) (w : World) (N : Nat) : once p w N = onceQ p w N := by
  unfold once onceQ
  rw [Fast.te10156331382660048174, Fast.te11892475500146522536, Fast.te14364793385576792824, Fast.te6613529449190102663, Fast.te14289696077712309145]
theorem of_once {p : Program} {w : World} {N : Nat} {s₀ s : Shared} (e : once p w N = some (s₀, s)) : fencedOpening treeTable p w N = some s₀ ∧ (s₀.heap.isNs mainGlobals && s₀.gens.size == 0) = true ∧ topRun treeTable p w s₀.heap.objs.size (s₀.heap.nsMap mainGlobals "__annotations__") N s₀ (topStub p) = some s := by
  unfold once onceG at e
  obtain ⟨a, ha, e⟩ := Option.bind_eq_some_iff.mp e
  obtain ⟨b, hb, e⟩ := Option.bind_eq_some_iff.mp e
  obtain ⟨c, hc, e⟩ := Option.bind_eq_some_iff.mp e
  cases hi : (c.heap.isNs mainGlobals && c.gens.size == 0) with
  | false => rw [hi] at e; cases e
  | true =>
    rw [hi] at e
    obtain ⟨d, hd, e⟩ := Option.bind_eq_some_iff.mp e
    obtain ⟨x, hx, e⟩ := Option.map_eq_some_iff.mp e
    cases e
    have hb := impG_of hb
    rw [layS_abs ha] at hb
    have hx := runG_of hx
    rw [layS_abs hd] at hx
    refine ⟨?_, hi, hx⟩
    unfold fencedOpening
    rw [hb]
    exact hc
theorem left_once {p q : Program} {loose : List Str} {Xt : Shared → Bool} {α : Type} {Yf : Shared → α} {Ya : World → α} {N : Nat} {g0 : Bool}
    (h : ∀ w : World, (onceQ p w N).map (fun x => ((staticsOk (importedModules p.main.body) x.1.heap x.2.heap && namesBound p x.2.heap && gensDone x.2 && laidKept x.1.heap x.2.heap), Fast.tw4187177175401517315 q loose (importedModules p.main.body) Xt g0 x.2)) = some (true, openGood q loose))
    (h' : ∀ w : World, (onceQ p w N).map (fun x => Yf x.2) = some (Ya w)) : LeftO p q loose Xt Yf Ya N g0 := fun w => by
  have h := h w
  have h' := h' w
  rw [← once_eq] at h h'
  rw [← Fast.te4187177175401517315] at h
  obtain ⟨⟨s₀, s⟩, e, e'⟩ := Option.map_eq_some_iff.mp h
  rw [e] at h'
  have l3 : Yf s = Ya w := Option.some.inj h'
  obtain ⟨l1, l2⟩ : _ ∧ _ := by simpa only [Prod.mk.injEq] using e'
  obtain ⟨f, hi, r⟩ := of_once e
  have tf : topFrom treeTable p w N s₀ = some s := by
    unfold topFrom
    rw [hi, r]
    show (match staticsOk (importedModules p.main.body) s₀.heap s.heap && namesBound p s.heap && gensDone s && laidKept s₀.heap s.heap with | true => _ | false => _) = _
    rw [l1]
  unfold openEnds
  rw [f]
  show (topFrom treeTable p w N s₀).map _ = _
  rw [tf]
  exact congrArg some (Prod.ext l2 l3)
end Mine
end

section
open PySem PySem.W PyProof.Rows
set_option Elab.async false
set_option maxRecDepth 100000
set_option maxHeartbeats 8000000
namespace Mine
noncomputable abbrev pr : Program := PySem.Challenge.rw_om0137_01.row.prog
noncomputable def keep1 : List Nat := [0, 1, 3, 4, 5, 6, 7, 8, 9, 10, 12, 13, 14, 15, 16, 17, 19, 21, 23, 26, 27, 28, 29, 30]
noncomputable def hd.view_39 : Program := view pr keep1
noncomputable def loose1 : List Str := [Str.ofString "UnsupportedOperation", Str.ofString "IOBase", Str.ofString "BufferedIOBase", Str.ofString "TextIOBase", Str.ofString "BytesIO", Str.ofString "StringIO", Str.ofString "shlex", Str.ofString "_initial_missing", Str.ofString "reduce"]
/-- a def's parts, by its place in the text -/
noncomputable def fdAt : List Stmt → List Nat → Option (Arguments × List Stmt × Scope)
  | _, [] => none
  | l, i :: r => match l[i]? with
    | some (.ClassDef _ _ _ b _ _ _ _ _ _ _) => fdAt b r
    | some (.FunctionDef _ a b _ _ _ sc _ _ _) => match r with
      | [] => some (a, b, sc)
      | _ => fdAt b r
    | _ => none
noncomputable def fArgs (p : List Nat) : Arguments := ((fdAt pr.main.body p).getD default).1
noncomputable def fBody (p : List Nat) : List Stmt := ((fdAt pr.main.body p).getD default).2.1
noncomputable def fScope (p : List Nat) : Scope := ((fdAt pr.main.body p).getD default).2.2
noncomputable def hd.heap_39 (P : Params) : Frag :=
  (nat_lit 2, ⟨Value.none, none, (Data.dict (List.toArray [⟨PyData.keyHash P (Str.ofString "\x69mport.loaded._collections"), (Value.str (Str.ofString "\x69mport.loaded._collections") 185), (Value.bool true)⟩, ⟨PyData.keyHash P (Str.ofString "class._frozen_importlib.BuiltinImporter"), (Value.str (Str.ofString "class._frozen_importlib.BuiltinImporter") 187), (Value.ref 15)⟩, ⟨PyData.keyHash P (Str.ofString "watched.\x69mport"), (Value.str (Str.ofString "watched.\x69mport") 208), (Value.ref 19)⟩, ⟨PyData.keyHash P (Str.ofString "class._frozen_importlib.ModuleSpec"), (Value.str (Str.ofString "class._frozen_importlib.ModuleSpec") 218), (Value.ref 23)⟩, ⟨PyData.keyHash P (Str.ofString "sys.modules.booked-epoch"), (Value.str (Str.ofString "sys.modules.booked-epoch") 247), (Value.int 3 0)⟩, ⟨PyData.keyHash P (Str.ofString "sys.modules.landed._collections"), (Value.str (Str.ofString "sys.modules.landed._collections") 248), (Value.bool true)⟩, ⟨PyData.keyHash P (Str.ofString "\x69mport.later-laid._collections"), (Value.str (Str.ofString "\x69mport.later-laid._collections") 263), (Value.bool true)⟩, ⟨PyData.keyHash P (Str.ofString "watched.library"), (Value.str (Str.ofString "watched.library") 265), (Value.ref 28)⟩, ⟨PyData.keyHash P (Str.ofString "watched.library-objects"), (Value.str (Str.ofString "watched.library-objects") 0), (Value.str (Str.ofString "\x0d") 0)⟩, ⟨PyData.keyHash P (Str.ofString "watched.library-deep._collections"), (Value.str (Str.ofString "watched.library-deep._collections") 266), (Value.str (Str.ofString "\x04\x00\x00\x0c\x04\x00\x00\x0c\x04\x00\x00\x03\x04\x00\x00\x0c\x08\x04dict\x02") 0)⟩, ⟨PyData.keyHash P (Str.ofString "type.__subclasses__.OSError.0"), (Value.str (Str.ofString "type.__subclasses__.OSError.0") 322), (Value.int 63 0)⟩, ⟨PyData.keyHash P (Str.ofString "type.__subclasses__.OSError.n"), (Value.str (Str.ofString "type.__subclasses__.OSError.n") 323), (Value.int 1 0)⟩]) 12), (List.toArray [])⟩) ::
  (nat_lit 3, ⟨(Value.type "dict"), none, (Data.dict (List.toArray [⟨PyData.keyHash P (Str.ofString "__name__"), (Value.str (Str.ofString "__name__") 165), (Value.str (Str.ofString "law_om0137_01") 1217)⟩, ⟨PyData.keyHash P (Str.ofString "__doc__"), (Value.str (Str.ofString "__doc__") 166), Value.none⟩, ⟨PyData.keyHash P (Str.ofString "__package__"), (Value.str (Str.ofString "__package__") 167), Value.none⟩, ⟨PyData.keyHash P (Str.ofString "__loader__"), (Value.str (Str.ofString "__loader__") 168), (Value.builtin "__main__.__loader__#opaque")⟩, ⟨PyData.keyHash P (Str.ofString "__spec__"), (Value.str (Str.ofString "__spec__") 169), Value.none⟩, ⟨PyData.keyHash P (Str.ofString "__annotations__"), (Value.str (Str.ofString "__annotations__") 170), (Value.ref 6)⟩, ⟨PyData.keyHash P (Str.ofString "__builtins__"), (Value.str (Str.ofString "__builtins__") 171), (Value.ref 4)⟩, ⟨PyData.keyHash P (Str.ofString "__file__"), (Value.str (Str.ofString "__file__") 173), (Value.str (Str.ofString "/claim/cut.py") 172)⟩, ⟨PyData.keyHash P (Str.ofString "__cached__"), (Value.str (Str.ofString "__cached__") 174), Value.none⟩, ⟨PyData.keyHash P (Str.ofString "deque"), (Value.str (Str.ofString "deque") 272), (Value.type "collections.deque")⟩, ⟨PyData.keyHash P (Str.ofString "_wall"), (Value.str (Str.ofString "_wall") 285), (Value.ref 39)⟩, ⟨PyData.keyHash P (Str.ofString "_whence"), (Value.str (Str.ofString "_whence") 295), (Value.ref 46)⟩, ⟨PyData.keyHash P (Str.ofString "_index"), (Value.str (Str.ofString "_index") 303), (Value.ref 53)⟩, ⟨PyData.keyHash P (Str.ofString "UnsupportedOperation"), (Value.str (Str.ofString "UnsupportedOperation") 325), (Value.ref 63)⟩, ⟨PyData.keyHash P (Str.ofString "IOBase"), (Value.str (Str.ofString "IOBase") 357), (Value.ref 83)⟩, ⟨PyData.keyHash P (Str.ofString "BufferedIOBase"), (Value.str (Str.ofString "BufferedIOBase") 375), (Value.ref 98)⟩, ⟨PyData.keyHash P (Str.ofString "TextIOBase"), (Value.str (Str.ofString "TextIOBase") 393), (Value.ref 110)⟩, ⟨PyData.keyHash P (Str.ofString "BytesIO"), (Value.str (Str.ofString "BytesIO") 655), (Value.ref 340)⟩, ⟨PyData.keyHash P (Str.ofString "StringIO"), (Value.str (Str.ofString "StringIO") 942), (Value.ref 587)⟩, ⟨PyData.keyHash P (Str.ofString "_kind"), (Value.str (Str.ofString "_kind") 953), (Value.ref 596)⟩, ⟨PyData.keyHash P (Str.ofString "_fspath"), (Value.str (Str.ofString "_fspath") 962), (Value.ref 603)⟩, ⟨PyData.keyHash P (Str.ofString "_check_arg_types"), (Value.str (Str.ofString "_check_arg_types") 972), (Value.ref 610)⟩, ⟨PyData.keyHash P (Str.ofString "isabs"), (Value.str (Str.ofString "isabs") 979), (Value.ref 617)⟩, ⟨PyData.keyHash P (Str.ofString "join"), (Value.str (Str.ofString "join") 990), (Value.ref 624)⟩, ⟨PyData.keyHash P (Str.ofString "dirname"), (Value.str (Str.ofString "dirname") 1000), (Value.ref 631)⟩, ⟨PyData.keyHash P (Str.ofString "shlex"), (Value.str (Str.ofString "shlex") 1141), (Value.ref 722)⟩, ⟨PyData.keyHash P (Str.ofString "_netrclex"), (Value.str (Str.ofString "_netrclex") 1201), (Value.ref 764)⟩, ⟨PyData.keyHash P (Str.ofString "_initial_missing"), (Value.str (Str.ofString "_initial_missing") 1204), (Value.ref 769)⟩, ⟨PyData.keyHash P (Str.ofString "reduce"), (Value.str (Str.ofString "reduce") 1216), (Value.ref 777)⟩, ⟨PyData.keyHash P (Str.ofString "_law_piece"), (Value.str (Str.ofString "_law_piece") 1225), (Value.ref 784)⟩, ⟨PyData.keyHash P (Str.ofString "_law_step"), (Value.str (Str.ofString "_law_step") 1239), (Value.ref 791)⟩, ⟨PyData.keyHash P (Str.ofString "_law_told"), (Value.str (Str.ofString "_law_told") 1250), (Value.ref 798)⟩, ⟨PyData.keyHash P (Str.ofString "_law_fits"), (Value.str (Str.ofString "_law_fits") 1268), (Value.ref 805)⟩, ⟨PyData.keyHash P (Str.ofString "law"), (Value.str (Str.ofString "law") 1274), (Value.ref 810)⟩]) 34), (List.toArray [])⟩) ::
  (nat_lit 38, ⟨(Value.type "code"), none, (Data.fields (List.toArray [(Value.str (Str.ofString "_wall") 279), (Value.str (Str.ofString "_wall") 280), (Value.str (Str.ofString "/claim/cut.py") 281), (Value.int 2 0), (Value.int 1 0), (Value.int 0 0), (Value.int 0 0), (Value.int 3 0), (Value.ref 33), (Value.bool true), (Value.int 273 0), (Value.ref 34), Value.none, (Value.ref 35), (Value.ref 36), (Value.ref 37), (Value.int 283 0), (Value.int 2 0), (Value.str (Str.ofString "/claim/cut.py") 284)])), (List.toArray [])⟩) ::
  (nat_lit 39, ⟨(Value.type "function"), none, (Data.func ⟨(Str.ofString "_wall"), (Str.ofString "_wall"), fArgs [1], FuncBody.stmts (fBody [1]), fScope [1], 3, [], Value.none, Value.none, Value.none, (Value.str (Str.ofString "__main__") 164), none, (Value.ref 38), Value.none, 0⟩), (List.toArray [])⟩) ::
  (nat_lit 45, ⟨(Value.type "code"), none, (Data.fields (List.toArray [(Value.str (Str.ofString "_whence") 288), (Value.str (Str.ofString "_whence") 289), (Value.str (Str.ofString "/claim/cut.py") 290), (Value.int 6 0), (Value.int 2 0), (Value.int 0 0), (Value.int 0 0), (Value.int 3 0), (Value.ref 40), (Value.bool true), (Value.int 273 0), (Value.ref 41), Value.none, (Value.ref 42), (Value.ref 43), (Value.ref 44), (Value.int 293 0), (Value.int 6 0), (Value.str (Str.ofString "/claim/cut.py") 294)])), (List.toArray [])⟩) ::
  (nat_lit 46, ⟨(Value.type "function"), none, (Data.func ⟨(Str.ofString "_whence"), (Str.ofString "_whence"), fArgs [3], FuncBody.stmts (fBody [3]), fScope [3], 3, [], Value.none, Value.none, Value.none, (Value.str (Str.ofString "io") 286), none, (Value.ref 45), Value.none, 0⟩), (List.toArray [])⟩) ::
  (nat_lit 52, ⟨(Value.type "code"), none, (Data.fields (List.toArray [(Value.str (Str.ofString "_index") 296), (Value.str (Str.ofString "_index") 297), (Value.str (Str.ofString "/claim/cut.py") 298), (Value.int 11 0), (Value.int 2 0), (Value.int 0 0), (Value.int 0 0), (Value.int 3 0), (Value.ref 47), (Value.bool true), (Value.int 273 0), (Value.ref 48), Value.none, (Value.ref 49), (Value.ref 50), (Value.ref 51), (Value.int 301 0), (Value.int 11 0), (Value.str (Str.ofString "/claim/cut.py") 302)])), (List.toArray [])⟩) ::
  (nat_lit 53, ⟨(Value.type "function"), none, (Data.func ⟨(Str.ofString "_index"), (Str.ofString "_index"), fArgs [4], FuncBody.stmts (fBody [4]), fScope [4], 3, [], Value.none, Value.none, Value.none, (Value.str (Str.ofString "io") 286), none, (Value.ref 52), Value.none, 0⟩), (List.toArray [])⟩) ::
  (nat_lit 62, ⟨(Value.type "dict"), none, (Data.dict (List.toArray [⟨PyData.keyHash P (Str.ofString "__module__"), (Value.str (Str.ofString "__module__") 311), (Value.str (Str.ofString "io") 316)⟩, ⟨PyData.keyHash P (Str.ofString "__firstlineno__"), (Value.str (Str.ofString "__firstlineno__") 315), (Value.int 18 314)⟩, ⟨PyData.keyHash P (Str.ofString "__static_attributes__"), (Value.str (Str.ofString "__static_attributes__") 318), (Value.ref 61)⟩, ⟨PyData.keyHash P (Str.ofString "__weakref__"), (Value.str (Str.ofString "__weakref__") 320), (Value.ref 64)⟩, ⟨PyData.keyHash P (Str.ofString "__doc__"), (Value.str (Str.ofString "__doc__") 321), Value.none⟩]) 3), (List.toArray [])⟩) ::
  (nat_lit 63, ⟨(Value.type "type"), none, (Data.cls ⟨(Str.ofString "UnsupportedOperation"), [(Value.type "OSError"), (Value.type "ValueError")], [(Value.ref 63), (Value.type "OSError"), (Value.type "ValueError"), (Value.type "Exception"), (Value.type "BaseException"), (Value.type "object")], 62, (Str.ofString "UnsupportedOperation"), true, [], [], false, none, false⟩), (List.toArray [(some (Value.ref 54)), none, (some (Value.str (Str.ofString "UnsupportedOperation") 304)), (some (Value.str (Str.ofString "UnsupportedOperation") 312)), (some (Value.builtin "OSError.__new__")), (some (Value.bool true))])⟩) ::
  (nat_lit 64, ⟨(Value.type "getset_descriptor"), none, (Data.fields (List.toArray [(Value.str (Str.ofString "__weakref__") 319), (Value.ref 63), (Value.builtin "ExceptionGroup.__weakref__"), Value.none])), (List.toArray [])⟩) ::
  (nat_lit 79, ⟨(Value.type "code"), none, (Data.fields (List.toArray [(Value.str (Str.ofString "__new__") 340), (Value.str (Str.ofString "IOBase.__new__") 341), (Value.str (Str.ofString "/claim/cut.py") 342), (Value.int 23 0), (Value.int 1 0), (Value.int 1 0), (Value.int 0 0), (Value.int 15 0), (Value.ref 74), (Value.bool true), (Value.int 273 0), (Value.ref 75), Value.none, (Value.ref 76), (Value.ref 77), (Value.ref 78), (Value.int 346 0), (Value.int 23 0), (Value.str (Str.ofString "/claim/cut.py") 347)])), (List.toArray [])⟩) ::
  (nat_lit 80, ⟨(Value.type "function"), none, (Data.func ⟨(Str.ofString "__new__"), (Str.ofString "IOBase.__new__"), fArgs [6, 1], FuncBody.stmts (fBody [6, 1]), fScope [6, 1], 3, [], Value.none, Value.none, Value.none, (Value.str (Str.ofString "io") 286), none, (Value.ref 79), Value.none, 0⟩), (List.toArray [])⟩) ::
  (nat_lit 82, ⟨(Value.type "dict"), none, (Data.dict (List.toArray [⟨PyData.keyHash P (Str.ofString "__module__"), (Value.str (Str.ofString "__module__") 333), (Value.str (Str.ofString "io") 338)⟩, ⟨PyData.keyHash P (Str.ofString "__firstlineno__"), (Value.str (Str.ofString "__firstlineno__") 337), (Value.int 20 336)⟩, ⟨PyData.keyHash P (Str.ofString "__new__"), (Value.str (Str.ofString "__new__") 348), (Value.ref 84)⟩, ⟨PyData.keyHash P (Str.ofString "__static_attributes__"), (Value.str (Str.ofString "__static_attributes__") 349), (Value.ref 81)⟩, ⟨PyData.keyHash P (Str.ofString "__dict__"), (Value.str (Str.ofString "__dict__") 352), (Value.ref 85)⟩, ⟨PyData.keyHash P (Str.ofString "__weakref__"), (Value.str (Str.ofString "__weakref__") 354), (Value.ref 86)⟩, ⟨PyData.keyHash P (Str.ofString "__doc__"), (Value.str (Str.ofString "__doc__") 355), Value.none⟩]) 4), (List.toArray [])⟩) ::
  (nat_lit 83, ⟨(Value.type "type"), none, (Data.cls ⟨(Str.ofString "IOBase"), [(Value.type "object")], [(Value.ref 83), (Value.type "object")], 82, (Str.ofString "IOBase"), true, [], [(Value.ref 98), (Value.ref 110)], false, none, false⟩), (List.toArray [none, none, (some (Value.str (Str.ofString "IOBase") 326)), (some (Value.str (Str.ofString "IOBase") 334)), (some Value.none), (some (Value.bool true))])⟩) ::
  (nat_lit 84, ⟨(Value.type "staticmethod"), none, (Data.fields (List.toArray [(Value.ref 80)])), (List.toArray [])⟩) ::
  (nat_lit 85, ⟨(Value.type "getset_descriptor"), none, (Data.fields (List.toArray [(Value.str (Str.ofString "__dict__") 351), (Value.ref 83), (Value.builtin "function.__dict__"), (Value.builtin "function.__dict__#set")])), (List.toArray [])⟩) ::
  (nat_lit 86, ⟨(Value.type "getset_descriptor"), none, (Data.fields (List.toArray [(Value.str (Str.ofString "__weakref__") 353), (Value.ref 83), (Value.builtin "ExceptionGroup.__weakref__"), Value.none])), (List.toArray [])⟩) ::
  (nat_lit 97, ⟨(Value.type "dict"), none, (Data.dict (List.toArray [⟨PyData.keyHash P (Str.ofString "__module__"), (Value.str (Str.ofString "__module__") 365), (Value.str (Str.ofString "io") 370)⟩, ⟨PyData.keyHash P (Str.ofString "__firstlineno__"), (Value.str (Str.ofString "__firstlineno__") 369), (Value.int 27 368)⟩, ⟨PyData.keyHash P (Str.ofString "__static_attributes__"), (Value.str (Str.ofString "__static_attributes__") 372), (Value.ref 96)⟩, ⟨PyData.keyHash P (Str.ofString "__doc__"), (Value.str (Str.ofString "__doc__") 373), Value.none⟩]) 2), (List.toArray [])⟩) ::
  (nat_lit 98, ⟨(Value.type "type"), none, (Data.cls ⟨(Str.ofString "BufferedIOBase"), [(Value.ref 83)], [(Value.ref 98), (Value.ref 83), (Value.type "object")], 97, (Str.ofString "BufferedIOBase"), true, [], [(Value.ref 340)], false, none, false⟩), (List.toArray [(some (Value.ref 89)), none, (some (Value.str (Str.ofString "BufferedIOBase") 358)), (some (Value.str (Str.ofString "BufferedIOBase") 366)), (some Value.none), (some (Value.bool true))])⟩) ::
  (nat_lit 109, ⟨(Value.type "dict"), none, (Data.dict (List.toArray [⟨PyData.keyHash P (Str.ofString "__module__"), (Value.str (Str.ofString "__module__") 383), (Value.str (Str.ofString "io") 388)⟩, ⟨PyData.keyHash P (Str.ofString "__firstlineno__"), (Value.str (Str.ofString "__firstlineno__") 387), (Value.int 29 386)⟩, ⟨PyData.keyHash P (Str.ofString "__static_attributes__"), (Value.str (Str.ofString "__static_attributes__") 390), (Value.ref 108)⟩, ⟨PyData.keyHash P (Str.ofString "__doc__"), (Value.str (Str.ofString "__doc__") 391), Value.none⟩]) 2), (List.toArray [])⟩) ::
  (nat_lit 110, ⟨(Value.type "type"), none, (Data.cls ⟨(Str.ofString "TextIOBase"), [(Value.ref 83)], [(Value.ref 110), (Value.ref 83), (Value.type "object")], 109, (Str.ofString "TextIOBase"), true, [], [(Value.ref 587)], false, none, false⟩), (List.toArray [(some (Value.ref 101)), none, (some (Value.str (Str.ofString "TextIOBase") 376)), (some (Value.str (Str.ofString "TextIOBase") 384)), (some Value.none), (some (Value.bool true))])⟩) ::
  (nat_lit 120, ⟨(Value.type "tuple"), none, (Data.seq (List.toArray [Value.none]) 0), (List.toArray [])⟩) ::
  (nat_lit 126, ⟨(Value.type "code"), none, (Data.fields (List.toArray [(Value.str (Str.ofString "__init__") 408), (Value.str (Str.ofString "BytesIO.__init__") 409), (Value.str (Str.ofString "/claim/cut.py") 410), (Value.int 34 0), (Value.int 2 0), (Value.int 0 0), (Value.int 0 0), (Value.int 3 0), (Value.ref 121), (Value.bool true), (Value.int 273 0), (Value.ref 122), Value.none, (Value.ref 123), (Value.ref 124), (Value.ref 125), (Value.int 413 0), (Value.int 34 0), (Value.str (Str.ofString "/claim/cut.py") 414)])), (List.toArray [])⟩) ::
  (nat_lit 127, ⟨(Value.type "function"), none, (Data.func ⟨(Str.ofString "__init__"), (Str.ofString "BytesIO.__init__"), fArgs [9, 1], FuncBody.stmts (fBody [9, 1]), fScope [9, 1], 3, [], (Value.ref 120), Value.none, Value.none, (Value.str (Str.ofString "io") 286), none, (Value.ref 126), Value.none, 0⟩), (List.toArray [])⟩) ::
  (nat_lit 133, ⟨(Value.type "code"), none, (Data.fields (List.toArray [(Value.str (Str.ofString "__check") 416), (Value.str (Str.ofString "BytesIO.__check") 417), (Value.str (Str.ofString "/claim/cut.py") 418), (Value.int 40 0), (Value.int 1 0), (Value.int 0 0), (Value.int 0 0), (Value.int 3 0), (Value.ref 128), (Value.bool true), (Value.int 273 0), (Value.ref 129), Value.none, (Value.ref 130), (Value.ref 131), (Value.ref 132), (Value.int 420 0), (Value.int 40 0), (Value.str (Str.ofString "/claim/cut.py") 421)])), (List.toArray [])⟩) ::
  (nat_lit 134, ⟨(Value.type "function"), none, (Data.func ⟨(Str.ofString "__check"), (Str.ofString "BytesIO.__check"), fArgs [9, 2], FuncBody.stmts (fBody [9, 2]), fScope [9, 2], 3, [], Value.none, Value.none, Value.none, (Value.str (Str.ofString "io") 286), none, (Value.ref 133), Value.none, 0⟩), (List.toArray [])⟩) ::
  (nat_lit 140, ⟨(Value.type "code"), none, (Data.fields (List.toArray [(Value.str (Str.ofString "__line") 423), (Value.str (Str.ofString "BytesIO.__line") 424), (Value.str (Str.ofString "/claim/cut.py") 425), (Value.int 44 0), (Value.int 2 0), (Value.int 0 0), (Value.int 0 0), (Value.int 3 0), (Value.ref 135), (Value.bool true), (Value.int 273 0), (Value.ref 136), Value.none, (Value.ref 137), (Value.ref 138), (Value.ref 139), (Value.int 431 0), (Value.int 44 0), (Value.str (Str.ofString "/claim/cut.py") 432)])), (List.toArray [])⟩) ::
  (nat_lit 141, ⟨(Value.type "function"), none, (Data.func ⟨(Str.ofString "__line"), (Str.ofString "BytesIO.__line"), fArgs [9, 3], FuncBody.stmts (fBody [9, 3]), fScope [9, 3], 3, [], Value.none, Value.none, Value.none, (Value.str (Str.ofString "io") 286), none, (Value.ref 140), Value.none, 0⟩), (List.toArray [])⟩) ::
  (nat_lit 147, ⟨(Value.type "code"), none, (Data.fields (List.toArray [(Value.str (Str.ofString "closed") 434), (Value.str (Str.ofString "BytesIO.closed") 435), (Value.str (Str.ofString "/claim/cut.py") 436), (Value.int 57 0), (Value.int 1 0), (Value.int 0 0), (Value.int 0 0), (Value.int 3 0), (Value.ref 142), (Value.bool true), (Value.int 273 0), (Value.ref 143), Value.none, (Value.ref 144), (Value.ref 145), (Value.ref 146), (Value.int 438 0), (Value.int 57 0), (Value.str (Str.ofString "/claim/cut.py") 439)])), (List.toArray [])⟩) ::
  (nat_lit 148, ⟨(Value.type "function"), none, (Data.func ⟨(Str.ofString "closed"), (Str.ofString "BytesIO.closed"), fArgs [9, 4], FuncBody.stmts (fBody [9, 4]), fScope [9, 4], 3, [], Value.none, Value.none, Value.none, (Value.str (Str.ofString "io") 286), none, (Value.ref 147), Value.none, 0⟩), (List.toArray [])⟩) ::
  (nat_lit 149, ⟨(Value.type "property"), none, (Data.fields (List.toArray [(Value.ref 148), Value.none, Value.none, Value.none, (Value.str (Str.ofString "closed") 441), (Value.bool false)])), (List.toArray [])⟩) ::
  (nat_lit 155, ⟨(Value.type "code"), none, (Data.fields (List.toArray [(Value.str (Str.ofString "close") 442), (Value.str (Str.ofString "BytesIO.close") 443), (Value.str (Str.ofString "/claim/cut.py") 444), (Value.int 61 0), (Value.int 1 0), (Value.int 0 0), (Value.int 0 0), (Value.int 3 0), (Value.ref 150), (Value.bool true), (Value.int 273 0), (Value.ref 151), Value.none, (Value.ref 152), (Value.ref 153), (Value.ref 154), (Value.int 446 0), (Value.int 61 0), (Value.str (Str.ofString "/claim/cut.py") 447)])), (List.toArray [])⟩) ::
  (nat_lit 156, ⟨(Value.type "function"), none, (Data.func ⟨(Str.ofString "close"), (Str.ofString "BytesIO.close"), fArgs [9, 5], FuncBody.stmts (fBody [9, 5]), fScope [9, 5], 3, [], Value.none, Value.none, Value.none, (Value.str (Str.ofString "io") 286), none, (Value.ref 155), Value.none, 0⟩), (List.toArray [])⟩) ::
  (nat_lit 162, ⟨(Value.type "code"), none, (Data.fields (List.toArray [(Value.str (Str.ofString "__enter__") 449), (Value.str (Str.ofString "BytesIO.__enter__") 450), (Value.str (Str.ofString "/claim/cut.py") 451), (Value.int 64 0), (Value.int 1 0), (Value.int 0 0), (Value.int 0 0), (Value.int 3 0), (Value.ref 157), (Value.bool true), (Value.int 273 0), (Value.ref 158), Value.none, (Value.ref 159), (Value.ref 160), (Value.ref 161), (Value.int 453 0), (Value.int 64 0), (Value.str (Str.ofString "/claim/cut.py") 454)])), (List.toArray [])⟩) ::
  (nat_lit 163, ⟨(Value.type "function"), none, (Data.func ⟨(Str.ofString "__enter__"), (Str.ofString "BytesIO.__enter__"), fArgs [9, 6], FuncBody.stmts (fBody [9, 6]), fScope [9, 6], 3, [], Value.none, Value.none, Value.none, (Value.str (Str.ofString "io") 286), none, (Value.ref 162), Value.none, 0⟩), (List.toArray [])⟩) ::
  (nat_lit 169, ⟨(Value.type "code"), none, (Data.fields (List.toArray [(Value.str (Str.ofString "__exit__") 456), (Value.str (Str.ofString "BytesIO.__exit__") 457), (Value.str (Str.ofString "/claim/cut.py") 458), (Value.int 68 0), (Value.int 1 0), (Value.int 0 0), (Value.int 0 0), (Value.int 7 0), (Value.ref 164), (Value.bool true), (Value.int 273 0), (Value.ref 165), Value.none, (Value.ref 166), (Value.ref 167), (Value.ref 168), (Value.int 461 0), (Value.int 68 0), (Value.str (Str.ofString "/claim/cut.py") 462)])), (List.toArray [])⟩) ::
  (nat_lit 170, ⟨(Value.type "function"), none, (Data.func ⟨(Str.ofString "__exit__"), (Str.ofString "BytesIO.__exit__"), fArgs [9, 7], FuncBody.stmts (fBody [9, 7]), fScope [9, 7], 3, [], Value.none, Value.none, Value.none, (Value.str (Str.ofString "io") 286), none, (Value.ref 169), Value.none, 0⟩), (List.toArray [])⟩) ::
  (nat_lit 176, ⟨(Value.type "code"), none, (Data.fields (List.toArray [(Value.str (Str.ofString "readable") 464), (Value.str (Str.ofString "BytesIO.readable") 465), (Value.str (Str.ofString "/claim/cut.py") 466), (Value.int 71 0), (Value.int 1 0), (Value.int 0 0), (Value.int 0 0), (Value.int 3 0), (Value.ref 171), (Value.bool true), (Value.int 273 0), (Value.ref 172), Value.none, (Value.ref 173), (Value.ref 174), (Value.ref 175), (Value.int 468 0), (Value.int 71 0), (Value.str (Str.ofString "/claim/cut.py") 469)])), (List.toArray [])⟩) ::
  (nat_lit 177, ⟨(Value.type "function"), none, (Data.func ⟨(Str.ofString "readable"), (Str.ofString "BytesIO.readable"), fArgs [9, 8], FuncBody.stmts (fBody [9, 8]), fScope [9, 8], 3, [], Value.none, Value.none, Value.none, (Value.str (Str.ofString "io") 286), none, (Value.ref 176), Value.none, 0⟩), (List.toArray [])⟩) ::
  (nat_lit 183, ⟨(Value.type "code"), none, (Data.fields (List.toArray [(Value.str (Str.ofString "writable") 471), (Value.str (Str.ofString "BytesIO.writable") 472), (Value.str (Str.ofString "/claim/cut.py") 473), (Value.int 75 0), (Value.int 1 0), (Value.int 0 0), (Value.int 0 0), (Value.int 3 0), (Value.ref 178), (Value.bool true), (Value.int 273 0), (Value.ref 179), Value.none, (Value.ref 180), (Value.ref 181), (Value.ref 182), (Value.int 475 0), (Value.int 75 0), (Value.str (Str.ofString "/claim/cut.py") 476)])), (List.toArray [])⟩) ::
  (nat_lit 184, ⟨(Value.type "function"), none, (Data.func ⟨(Str.ofString "writable"), (Str.ofString "BytesIO.writable"), fArgs [9, 9], FuncBody.stmts (fBody [9, 9]), fScope [9, 9], 3, [], Value.none, Value.none, Value.none, (Value.str (Str.ofString "io") 286), none, (Value.ref 183), Value.none, 0⟩), (List.toArray [])⟩) ::
  (nat_lit 190, ⟨(Value.type "code"), none, (Data.fields (List.toArray [(Value.str (Str.ofString "seekable") 478), (Value.str (Str.ofString "BytesIO.seekable") 479), (Value.str (Str.ofString "/claim/cut.py") 480), (Value.int 79 0), (Value.int 1 0), (Value.int 0 0), (Value.int 0 0), (Value.int 3 0), (Value.ref 185), (Value.bool true), (Value.int 273 0), (Value.ref 186), Value.none, (Value.ref 187), (Value.ref 188), (Value.ref 189), (Value.int 482 0), (Value.int 79 0), (Value.str (Str.ofString "/claim/cut.py") 483)])), (List.toArray [])⟩) ::
  (nat_lit 191, ⟨(Value.type "function"), none, (Data.func ⟨(Str.ofString "seekable"), (Str.ofString "BytesIO.seekable"), fArgs [9, 10], FuncBody.stmts (fBody [9, 10]), fScope [9, 10], 3, [], Value.none, Value.none, Value.none, (Value.str (Str.ofString "io") 286), none, (Value.ref 190), Value.none, 0⟩), (List.toArray [])⟩) ::
  (nat_lit 197, ⟨(Value.type "code"), none, (Data.fields (List.toArray [(Value.str (Str.ofString "isatty") 485), (Value.str (Str.ofString "BytesIO.isatty") 486), (Value.str (Str.ofString "/claim/cut.py") 487), (Value.int 83 0), (Value.int 1 0), (Value.int 0 0), (Value.int 0 0), (Value.int 3 0), (Value.ref 192), (Value.bool true), (Value.int 273 0), (Value.ref 193), Value.none, (Value.ref 194), (Value.ref 195), (Value.ref 196), (Value.int 489 0), (Value.int 83 0), (Value.str (Str.ofString "/claim/cut.py") 490)])), (List.toArray [])⟩) ::
  (nat_lit 198, ⟨(Value.type "function"), none, (Data.func ⟨(Str.ofString "isatty"), (Str.ofString "BytesIO.isatty"), fArgs [9, 11], FuncBody.stmts (fBody [9, 11]), fScope [9, 11], 3, [], Value.none, Value.none, Value.none, (Value.str (Str.ofString "io") 286), none, (Value.ref 197), Value.none, 0⟩), (List.toArray [])⟩) ::
  (nat_lit 204, ⟨(Value.type "code"), none, (Data.fields (List.toArray [(Value.str (Str.ofString "flush") 492), (Value.str (Str.ofString "BytesIO.flush") 493), (Value.str (Str.ofString "/claim/cut.py") 494), (Value.int 87 0), (Value.int 1 0), (Value.int 0 0), (Value.int 0 0), (Value.int 3 0), (Value.ref 199), (Value.bool true), (Value.int 273 0), (Value.ref 200), Value.none, (Value.ref 201), (Value.ref 202), (Value.ref 203), (Value.int 496 0), (Value.int 87 0), (Value.str (Str.ofString "/claim/cut.py") 497)])), (List.toArray [])⟩) ::
  (nat_lit 205, ⟨(Value.type "function"), none, (Data.func ⟨(Str.ofString "flush"), (Str.ofString "BytesIO.flush"), fArgs [9, 12], FuncBody.stmts (fBody [9, 12]), fScope [9, 12], 3, [], Value.none, Value.none, Value.none, (Value.str (Str.ofString "io") 286), none, (Value.ref 204), Value.none, 0⟩), (List.toArray [])⟩) ::
  (nat_lit 211, ⟨(Value.type "code"), none, (Data.fields (List.toArray [(Value.str (Str.ofString "fileno") 499), (Value.str (Str.ofString "BytesIO.fileno") 500), (Value.str (Str.ofString "/claim/cut.py") 501), (Value.int 90 0), (Value.int 1 0), (Value.int 0 0), (Value.int 0 0), (Value.int 3 0), (Value.ref 206), (Value.bool true), (Value.int 273 0), (Value.ref 207), Value.none, (Value.ref 208), (Value.ref 209), (Value.ref 210), (Value.int 503 0), (Value.int 90 0), (Value.str (Str.ofString "/claim/cut.py") 504)])), (List.toArray [])⟩) ::
  (nat_lit 212, ⟨(Value.type "function"), none, (Data.func ⟨(Str.ofString "fileno"), (Str.ofString "BytesIO.fileno"), fArgs [9, 13], FuncBody.stmts (fBody [9, 13]), fScope [9, 13], 3, [], Value.none, Value.none, Value.none, (Value.str (Str.ofString "io") 286), none, (Value.ref 211), Value.none, 0⟩), (List.toArray [])⟩) ::
  (nat_lit 218, ⟨(Value.type "code"), none, (Data.fields (List.toArray [(Value.str (Str.ofString "detach") 506), (Value.str (Str.ofString "BytesIO.detach") 507), (Value.str (Str.ofString "/claim/cut.py") 508), (Value.int 93 0), (Value.int 1 0), (Value.int 0 0), (Value.int 0 0), (Value.int 3 0), (Value.ref 213), (Value.bool true), (Value.int 273 0), (Value.ref 214), Value.none, (Value.ref 215), (Value.ref 216), (Value.ref 217), (Value.int 510 0), (Value.int 93 0), (Value.str (Str.ofString "/claim/cut.py") 511)])), (List.toArray [])⟩) ::
  (nat_lit 219, ⟨(Value.type "function"), none, (Data.func ⟨(Str.ofString "detach"), (Str.ofString "BytesIO.detach"), fArgs [9, 14], FuncBody.stmts (fBody [9, 14]), fScope [9, 14], 3, [], Value.none, Value.none, Value.none, (Value.str (Str.ofString "io") 286), none, (Value.ref 218), Value.none, 0⟩), (List.toArray [])⟩) ::
  (nat_lit 225, ⟨(Value.type "code"), none, (Data.fields (List.toArray [(Value.str (Str.ofString "getvalue") 513), (Value.str (Str.ofString "BytesIO.getvalue") 514), (Value.str (Str.ofString "/claim/cut.py") 515), (Value.int 96 0), (Value.int 1 0), (Value.int 0 0), (Value.int 0 0), (Value.int 3 0), (Value.ref 220), (Value.bool true), (Value.int 273 0), (Value.ref 221), Value.none, (Value.ref 222), (Value.ref 223), (Value.ref 224), (Value.int 517 0), (Value.int 96 0), (Value.str (Str.ofString "/claim/cut.py") 518)])), (List.toArray [])⟩) ::
  (nat_lit 226, ⟨(Value.type "function"), none, (Data.func ⟨(Str.ofString "getvalue"), (Str.ofString "BytesIO.getvalue"), fArgs [9, 15], FuncBody.stmts (fBody [9, 15]), fScope [9, 15], 3, [], Value.none, Value.none, Value.none, (Value.str (Str.ofString "io") 286), none, (Value.ref 225), Value.none, 0⟩), (List.toArray [])⟩) ::
  (nat_lit 232, ⟨(Value.type "code"), none, (Data.fields (List.toArray [(Value.str (Str.ofString "getbuffer") 520), (Value.str (Str.ofString "BytesIO.getbuffer") 521), (Value.str (Str.ofString "/claim/cut.py") 522), (Value.int 99 0), (Value.int 1 0), (Value.int 0 0), (Value.int 0 0), (Value.int 3 0), (Value.ref 227), (Value.bool true), (Value.int 273 0), (Value.ref 228), Value.none, (Value.ref 229), (Value.ref 230), (Value.ref 231), (Value.int 524 0), (Value.int 99 0), (Value.str (Str.ofString "/claim/cut.py") 525)])), (List.toArray [])⟩) ::
  (nat_lit 233, ⟨(Value.type "function"), none, (Data.func ⟨(Str.ofString "getbuffer"), (Str.ofString "BytesIO.getbuffer"), fArgs [9, 16], FuncBody.stmts (fBody [9, 16]), fScope [9, 16], 3, [], Value.none, Value.none, Value.none, (Value.str (Str.ofString "io") 286), none, (Value.ref 232), Value.none, 0⟩), (List.toArray [])⟩) ::
  (nat_lit 239, ⟨(Value.type "code"), none, (Data.fields (List.toArray [(Value.str (Str.ofString "tell") 527), (Value.str (Str.ofString "BytesIO.tell") 528), (Value.str (Str.ofString "/claim/cut.py") 529), (Value.int 102 0), (Value.int 1 0), (Value.int 0 0), (Value.int 0 0), (Value.int 3 0), (Value.ref 234), (Value.bool true), (Value.int 273 0), (Value.ref 235), Value.none, (Value.ref 236), (Value.ref 237), (Value.ref 238), (Value.int 531 0), (Value.int 102 0), (Value.str (Str.ofString "/claim/cut.py") 532)])), (List.toArray [])⟩) ::
  (nat_lit 240, ⟨(Value.type "function"), none, (Data.func ⟨(Str.ofString "tell"), (Str.ofString "BytesIO.tell"), fArgs [9, 17], FuncBody.stmts (fBody [9, 17]), fScope [9, 17], 3, [], Value.none, Value.none, Value.none, (Value.str (Str.ofString "io") 286), none, (Value.ref 239), Value.none, 0⟩), (List.toArray [])⟩) ::
  (nat_lit 241, ⟨(Value.type "tuple"), none, (Data.seq (List.toArray [(Value.int 0 534)]) 0), (List.toArray [])⟩) ::
  (nat_lit 247, ⟨(Value.type "code"), none, (Data.fields (List.toArray [(Value.str (Str.ofString "seek") 535), (Value.str (Str.ofString "BytesIO.seek") 536), (Value.str (Str.ofString "/claim/cut.py") 537), (Value.int 106 0), (Value.int 3 0), (Value.int 3 0), (Value.int 0 0), (Value.int 3 0), (Value.ref 242), (Value.bool true), (Value.int 273 0), (Value.ref 243), Value.none, (Value.ref 244), (Value.ref 245), (Value.ref 246), (Value.int 541 0), (Value.int 106 0), (Value.str (Str.ofString "/claim/cut.py") 542)])), (List.toArray [])⟩) ::
  (nat_lit 248, ⟨(Value.type "function"), none, (Data.func ⟨(Str.ofString "seek"), (Str.ofString "BytesIO.seek"), fArgs [9, 18], FuncBody.stmts (fBody [9, 18]), fScope [9, 18], 3, [], (Value.ref 241), Value.none, Value.none, (Value.str (Str.ofString "io") 286), none, (Value.ref 247), Value.none, 0⟩), (List.toArray [])⟩) ::
  (nat_lit 249, ⟨(Value.type "tuple"), none, (Data.seq (List.toArray [Value.none]) 0), (List.toArray [])⟩) ::
  (nat_lit 255, ⟨(Value.type "code"), none, (Data.fields (List.toArray [(Value.str (Str.ofString "truncate") 544), (Value.str (Str.ofString "BytesIO.truncate") 545), (Value.str (Str.ofString "/claim/cut.py") 546), (Value.int 123 0), (Value.int 2 0), (Value.int 2 0), (Value.int 0 0), (Value.int 3 0), (Value.ref 250), (Value.bool true), (Value.int 273 0), (Value.ref 251), Value.none, (Value.ref 252), (Value.ref 253), (Value.ref 254), (Value.int 549 0), (Value.int 123 0), (Value.str (Str.ofString "/claim/cut.py") 550)])), (List.toArray [])⟩) ::
  (nat_lit 256, ⟨(Value.type "function"), none, (Data.func ⟨(Str.ofString "truncate"), (Str.ofString "BytesIO.truncate"), fArgs [9, 19], FuncBody.stmts (fBody [9, 19]), fScope [9, 19], 3, [], (Value.ref 249), Value.none, Value.none, (Value.str (Str.ofString "io") 286), none, (Value.ref 255), Value.none, 0⟩), (List.toArray [])⟩) ::
  (nat_lit 257, ⟨(Value.type "tuple"), none, (Data.seq (List.toArray [(Value.int (-1) 553)]) 0), (List.toArray [])⟩) ::
  (nat_lit 263, ⟨(Value.type "code"), none, (Data.fields (List.toArray [(Value.str (Str.ofString "read") 554), (Value.str (Str.ofString "BytesIO.read") 555), (Value.str (Str.ofString "/claim/cut.py") 556), (Value.int 126 0), (Value.int 2 0), (Value.int 2 0), (Value.int 0 0), (Value.int 3 0), (Value.ref 258), (Value.bool true), (Value.int 273 0), (Value.ref 259), Value.none, (Value.ref 260), (Value.ref 261), (Value.ref 262), (Value.int 561 0), (Value.int 126 0), (Value.str (Str.ofString "/claim/cut.py") 562)])), (List.toArray [])⟩) ::
  (nat_lit 264, ⟨(Value.type "function"), none, (Data.func ⟨(Str.ofString "read"), (Str.ofString "BytesIO.read"), fArgs [9, 20], FuncBody.stmts (fBody [9, 20]), fScope [9, 20], 3, [], (Value.ref 257), Value.none, Value.none, (Value.str (Str.ofString "io") 286), none, (Value.ref 263), Value.none, 0⟩), (List.toArray [])⟩) ::
  (nat_lit 265, ⟨(Value.type "tuple"), none, (Data.seq (List.toArray [(Value.int (-1) 565)]) 0), (List.toArray [])⟩) ::
  (nat_lit 271, ⟨(Value.type "code"), none, (Data.fields (List.toArray [(Value.str (Str.ofString "read1") 566), (Value.str (Str.ofString "BytesIO.read1") 567), (Value.str (Str.ofString "/claim/cut.py") 568), (Value.int 140 0), (Value.int 2 0), (Value.int 2 0), (Value.int 0 0), (Value.int 3 0), (Value.ref 266), (Value.bool true), (Value.int 273 0), (Value.ref 267), Value.none, (Value.ref 268), (Value.ref 269), (Value.ref 270), (Value.int 571 0), (Value.int 140 0), (Value.str (Str.ofString "/claim/cut.py") 572)])), (List.toArray [])⟩) ::
  (nat_lit 272, ⟨(Value.type "function"), none, (Data.func ⟨(Str.ofString "read1"), (Str.ofString "BytesIO.read1"), fArgs [9, 21], FuncBody.stmts (fBody [9, 21]), fScope [9, 21], 3, [], (Value.ref 265), Value.none, Value.none, (Value.str (Str.ofString "io") 286), none, (Value.ref 271), Value.none, 0⟩), (List.toArray [])⟩) ::
  (nat_lit 278, ⟨(Value.type "code"), none, (Data.fields (List.toArray [(Value.str (Str.ofString "readinto") 574), (Value.str (Str.ofString "BytesIO.readinto") 575), (Value.str (Str.ofString "/claim/cut.py") 576), (Value.int 143 0), (Value.int 2 0), (Value.int 2 0), (Value.int 0 0), (Value.int 3 0), (Value.ref 273), (Value.bool true), (Value.int 273 0), (Value.ref 274), Value.none, (Value.ref 275), (Value.ref 276), (Value.ref 277), (Value.int 581 0), (Value.int 143 0), (Value.str (Str.ofString "/claim/cut.py") 582)])), (List.toArray [])⟩) ::
  (nat_lit 279, ⟨(Value.type "function"), none, (Data.func ⟨(Str.ofString "readinto"), (Str.ofString "BytesIO.readinto"), fArgs [9, 22], FuncBody.stmts (fBody [9, 22]), fScope [9, 22], 3, [], Value.none, Value.none, Value.none, (Value.str (Str.ofString "io") 286), none, (Value.ref 278), Value.none, 0⟩), (List.toArray [])⟩) ::
  (nat_lit 285, ⟨(Value.type "code"), none, (Data.fields (List.toArray [(Value.str (Str.ofString "readinto1") 584), (Value.str (Str.ofString "BytesIO.readinto1") 585), (Value.str (Str.ofString "/claim/cut.py") 586), (Value.int 157 0), (Value.int 2 0), (Value.int 2 0), (Value.int 0 0), (Value.int 3 0), (Value.ref 280), (Value.bool true), (Value.int 273 0), (Value.ref 281), Value.none, (Value.ref 282), (Value.ref 283), (Value.ref 284), (Value.int 589 0), (Value.int 157 0), (Value.str (Str.ofString "/claim/cut.py") 590)])), (List.toArray [])⟩) ::
  (nat_lit 286, ⟨(Value.type "function"), none, (Data.func ⟨(Str.ofString "readinto1"), (Str.ofString "BytesIO.readinto1"), fArgs [9, 23], FuncBody.stmts (fBody [9, 23]), fScope [9, 23], 3, [], Value.none, Value.none, Value.none, (Value.str (Str.ofString "io") 286), none, (Value.ref 285), Value.none, 0⟩), (List.toArray [])⟩) ::
  (nat_lit 287, ⟨(Value.type "tuple"), none, (Data.seq (List.toArray [(Value.int (-1) 593)]) 0), (List.toArray [])⟩) ::
  (nat_lit 293, ⟨(Value.type "code"), none, (Data.fields (List.toArray [(Value.str (Str.ofString "readline") 594), (Value.str (Str.ofString "BytesIO.readline") 595), (Value.str (Str.ofString "/claim/cut.py") 596), (Value.int 160 0), (Value.int 2 0), (Value.int 2 0), (Value.int 0 0), (Value.int 3 0), (Value.ref 288), (Value.bool true), (Value.int 273 0), (Value.ref 289), Value.none, (Value.ref 290), (Value.ref 291), (Value.ref 292), (Value.int 599 0), (Value.int 160 0), (Value.str (Str.ofString "/claim/cut.py") 600)])), (List.toArray [])⟩) ::
  (nat_lit 294, ⟨(Value.type "function"), none, (Data.func ⟨(Str.ofString "readline"), (Str.ofString "BytesIO.readline"), fArgs [9, 24], FuncBody.stmts (fBody [9, 24]), fScope [9, 24], 3, [], (Value.ref 287), Value.none, Value.none, (Value.str (Str.ofString "io") 286), none, (Value.ref 293), Value.none, 0⟩), (List.toArray [])⟩) ::
  (nat_lit 295, ⟨(Value.type "tuple"), none, (Data.seq (List.toArray [Value.none]) 0), (List.toArray [])⟩) ::
  (nat_lit 301, ⟨(Value.type "code"), none, (Data.fields (List.toArray [(Value.str (Str.ofString "readlines") 602), (Value.str (Str.ofString "BytesIO.readlines") 603), (Value.str (Str.ofString "/claim/cut.py") 604), (Value.int 167 0), (Value.int 2 0), (Value.int 2 0), (Value.int 0 0), (Value.int 3 0), (Value.ref 296), (Value.bool true), (Value.int 273 0), (Value.ref 297), Value.none, (Value.ref 298), (Value.ref 299), (Value.ref 300), (Value.int 607 0), (Value.int 167 0), (Value.str (Str.ofString "/claim/cut.py") 608)])), (List.toArray [])⟩) ::
  (nat_lit 302, ⟨(Value.type "function"), none, (Data.func ⟨(Str.ofString "readlines"), (Str.ofString "BytesIO.readlines"), fArgs [9, 25], FuncBody.stmts (fBody [9, 25]), fScope [9, 25], 3, [], (Value.ref 295), Value.none, Value.none, (Value.str (Str.ofString "io") 286), none, (Value.ref 301), Value.none, 0⟩), (List.toArray [])⟩) ::
  (nat_lit 308, ⟨(Value.type "code"), none, (Data.fields (List.toArray [(Value.str (Str.ofString "__iter__") 610), (Value.str (Str.ofString "BytesIO.__iter__") 611), (Value.str (Str.ofString "/claim/cut.py") 612), (Value.int 170 0), (Value.int 1 0), (Value.int 0 0), (Value.int 0 0), (Value.int 3 0), (Value.ref 303), (Value.bool true), (Value.int 273 0), (Value.ref 304), Value.none, (Value.ref 305), (Value.ref 306), (Value.ref 307), (Value.int 614 0), (Value.int 170 0), (Value.str (Str.ofString "/claim/cut.py") 615)])), (List.toArray [])⟩) ::
  (nat_lit 309, ⟨(Value.type "function"), none, (Data.func ⟨(Str.ofString "__iter__"), (Str.ofString "BytesIO.__iter__"), fArgs [9, 26], FuncBody.stmts (fBody [9, 26]), fScope [9, 26], 3, [], Value.none, Value.none, Value.none, (Value.str (Str.ofString "io") 286), none, (Value.ref 308), Value.none, 0⟩), (List.toArray [])⟩) ::
  (nat_lit 315, ⟨(Value.type "code"), none, (Data.fields (List.toArray [(Value.str (Str.ofString "__next__") 617), (Value.str (Str.ofString "BytesIO.__next__") 618), (Value.str (Str.ofString "/claim/cut.py") 619), (Value.int 173 0), (Value.int 1 0), (Value.int 0 0), (Value.int 0 0), (Value.int 3 0), (Value.ref 310), (Value.bool true), (Value.int 273 0), (Value.ref 311), Value.none, (Value.ref 312), (Value.ref 313), (Value.ref 314), (Value.int 622 0), (Value.int 173 0), (Value.str (Str.ofString "/claim/cut.py") 623)])), (List.toArray [])⟩) ::
  (nat_lit 316, ⟨(Value.type "function"), none, (Data.func ⟨(Str.ofString "__next__"), (Str.ofString "BytesIO.__next__"), fArgs [9, 27], FuncBody.stmts (fBody [9, 27]), fScope [9, 27], 3, [], Value.none, Value.none, Value.none, (Value.str (Str.ofString "io") 286), none, (Value.ref 315), Value.none, 0⟩), (List.toArray [])⟩) ::
  (nat_lit 322, ⟨(Value.type "code"), none, (Data.fields (List.toArray [(Value.str (Str.ofString "write") 625), (Value.str (Str.ofString "BytesIO.write") 626), (Value.str (Str.ofString "/claim/cut.py") 627), (Value.int 180 0), (Value.int 2 0), (Value.int 2 0), (Value.int 0 0), (Value.int 3 0), (Value.ref 317), (Value.bool true), (Value.int 273 0), (Value.ref 318), Value.none, (Value.ref 319), (Value.ref 320), (Value.ref 321), (Value.int 632 0), (Value.int 180 0), (Value.str (Str.ofString "/claim/cut.py") 633)])), (List.toArray [])⟩) ::
  (nat_lit 323, ⟨(Value.type "function"), none, (Data.func ⟨(Str.ofString "write"), (Str.ofString "BytesIO.write"), fArgs [9, 28], FuncBody.stmts (fBody [9, 28]), fScope [9, 28], 3, [], Value.none, Value.none, Value.none, (Value.str (Str.ofString "io") 286), none, (Value.ref 322), Value.none, 0⟩), (List.toArray [])⟩) ::
  (nat_lit 329, ⟨(Value.type "code"), none, (Data.fields (List.toArray [(Value.str (Str.ofString "writelines") 635), (Value.str (Str.ofString "BytesIO.writelines") 636), (Value.str (Str.ofString "/claim/cut.py") 637), (Value.int 196 0), (Value.int 2 0), (Value.int 2 0), (Value.int 0 0), (Value.int 3 0), (Value.ref 324), (Value.bool true), (Value.int 273 0), (Value.ref 325), Value.none, (Value.ref 326), (Value.ref 327), (Value.ref 328), (Value.int 640 0), (Value.int 196 0), (Value.str (Str.ofString "/claim/cut.py") 641)])), (List.toArray [])⟩) ::
  (nat_lit 330, ⟨(Value.type "function"), none, (Data.func ⟨(Str.ofString "writelines"), (Str.ofString "BytesIO.writelines"), fArgs [9, 29], FuncBody.stmts (fBody [9, 29]), fScope [9, 29], 3, [], Value.none, Value.none, Value.none, (Value.str (Str.ofString "io") 286), none, (Value.ref 329), Value.none, 0⟩), (List.toArray [])⟩) ::
  (nat_lit 336, ⟨(Value.type "code"), none, (Data.fields (List.toArray [(Value.str (Str.ofString "__repr__") 643), (Value.str (Str.ofString "BytesIO.__repr__") 644), (Value.str (Str.ofString "/claim/cut.py") 645), (Value.int 199 0), (Value.int 1 0), (Value.int 0 0), (Value.int 0 0), (Value.int 3 0), (Value.ref 331), (Value.bool true), (Value.int 273 0), (Value.ref 332), Value.none, (Value.ref 333), (Value.ref 334), (Value.ref 335), (Value.int 647 0), (Value.int 199 0), (Value.str (Str.ofString "/claim/cut.py") 648)])), (List.toArray [])⟩) ::
  (nat_lit 337, ⟨(Value.type "function"), none, (Data.func ⟨(Str.ofString "__repr__"), (Str.ofString "BytesIO.__repr__"), fArgs [9, 30], FuncBody.stmts (fBody [9, 30]), fScope [9, 30], 3, [], Value.none, Value.none, Value.none, (Value.str (Str.ofString "io") 286), none, (Value.ref 336), Value.none, 0⟩), (List.toArray [])⟩) ::
  (nat_lit 339, ⟨(Value.type "dict"), none, (Data.dict (List.toArray [⟨PyData.keyHash P (Str.ofString "__module__"), (Value.str (Str.ofString "__module__") 401), (Value.str (Str.ofString "_io") 406)⟩, ⟨PyData.keyHash P (Str.ofString "__firstlineno__"), (Value.str (Str.ofString "__firstlineno__") 405), (Value.int 31 404)⟩, ⟨PyData.keyHash P (Str.ofString "__init__"), (Value.str (Str.ofString "__init__") 415), (Value.ref 127)⟩, ⟨PyData.keyHash P (Str.ofString "_BytesIO__check"), (Value.str (Str.ofString "_BytesIO__check") 422), (Value.ref 134)⟩, ⟨PyData.keyHash P (Str.ofString "_BytesIO__line"), (Value.str (Str.ofString "_BytesIO__line") 433), (Value.ref 141)⟩, ⟨PyData.keyHash P (Str.ofString "closed"), (Value.str (Str.ofString "closed") 441), (Value.ref 149)⟩, ⟨PyData.keyHash P (Str.ofString "close"), (Value.str (Str.ofString "close") 448), (Value.ref 156)⟩, ⟨PyData.keyHash P (Str.ofString "__enter__"), (Value.str (Str.ofString "__enter__") 455), (Value.ref 163)⟩, ⟨PyData.keyHash P (Str.ofString "__exit__"), (Value.str (Str.ofString "__exit__") 463), (Value.ref 170)⟩, ⟨PyData.keyHash P (Str.ofString "readable"), (Value.str (Str.ofString "readable") 470), (Value.ref 177)⟩, ⟨PyData.keyHash P (Str.ofString "writable"), (Value.str (Str.ofString "writable") 477), (Value.ref 184)⟩, ⟨PyData.keyHash P (Str.ofString "seekable"), (Value.str (Str.ofString "seekable") 484), (Value.ref 191)⟩, ⟨PyData.keyHash P (Str.ofString "isatty"), (Value.str (Str.ofString "isatty") 491), (Value.ref 198)⟩, ⟨PyData.keyHash P (Str.ofString "flush"), (Value.str (Str.ofString "flush") 498), (Value.ref 205)⟩, ⟨PyData.keyHash P (Str.ofString "fileno"), (Value.str (Str.ofString "fileno") 505), (Value.ref 212)⟩, ⟨PyData.keyHash P (Str.ofString "detach"), (Value.str (Str.ofString "detach") 512), (Value.ref 219)⟩, ⟨PyData.keyHash P (Str.ofString "getvalue"), (Value.str (Str.ofString "getvalue") 519), (Value.ref 226)⟩, ⟨PyData.keyHash P (Str.ofString "getbuffer"), (Value.str (Str.ofString "getbuffer") 526), (Value.ref 233)⟩, ⟨PyData.keyHash P (Str.ofString "tell"), (Value.str (Str.ofString "tell") 533), (Value.ref 240)⟩, ⟨PyData.keyHash P (Str.ofString "seek"), (Value.str (Str.ofString "seek") 543), (Value.ref 248)⟩, ⟨PyData.keyHash P (Str.ofString "truncate"), (Value.str (Str.ofString "truncate") 551), (Value.ref 256)⟩, ⟨PyData.keyHash P (Str.ofString "read"), (Value.str (Str.ofString "read") 563), (Value.ref 264)⟩, ⟨PyData.keyHash P (Str.ofString "read1"), (Value.str (Str.ofString "read1") 573), (Value.ref 272)⟩, ⟨PyData.keyHash P (Str.ofString "readinto"), (Value.str (Str.ofString "readinto") 583), (Value.ref 279)⟩, ⟨PyData.keyHash P (Str.ofString "readinto1"), (Value.str (Str.ofString "readinto1") 591), (Value.ref 286)⟩, ⟨PyData.keyHash P (Str.ofString "readline"), (Value.str (Str.ofString "readline") 601), (Value.ref 294)⟩, ⟨PyData.keyHash P (Str.ofString "readlines"), (Value.str (Str.ofString "readlines") 609), (Value.ref 302)⟩, ⟨PyData.keyHash P (Str.ofString "__iter__"), (Value.str (Str.ofString "__iter__") 616), (Value.ref 309)⟩, ⟨PyData.keyHash P (Str.ofString "__next__"), (Value.str (Str.ofString "__next__") 624), (Value.ref 316)⟩, ⟨PyData.keyHash P (Str.ofString "write"), (Value.str (Str.ofString "write") 634), (Value.ref 323)⟩, ⟨PyData.keyHash P (Str.ofString "writelines"), (Value.str (Str.ofString "writelines") 642), (Value.ref 330)⟩, ⟨PyData.keyHash P (Str.ofString "__repr__"), (Value.str (Str.ofString "__repr__") 649), (Value.ref 337)⟩, ⟨PyData.keyHash P (Str.ofString "__static_attributes__"), (Value.str (Str.ofString "__static_attributes__") 652), (Value.ref 338)⟩, ⟨PyData.keyHash P (Str.ofString "__doc__"), (Value.str (Str.ofString "__doc__") 653), Value.none⟩]) 2), (List.toArray [])⟩) ::
  (nat_lit 340, ⟨(Value.type "type"), none, (Data.cls ⟨(Str.ofString "BytesIO"), [(Value.ref 98)], [(Value.ref 340), (Value.ref 98), (Value.ref 83), (Value.type "object")], 339, (Str.ofString "BytesIO"), true, [], [], false, none, false⟩), (List.toArray [(some (Value.ref 113)), none, (some (Value.str (Str.ofString "BytesIO") 394)), (some (Value.str (Str.ofString "BytesIO") 402)), (some Value.none), (some (Value.bool true))])⟩) ::
  (nat_lit 350, ⟨(Value.type "tuple"), none, (Data.seq (List.toArray [(Value.str (Str.ofString "") 670), (Value.str (Str.ofString "\n") 671)]) 0), (List.toArray [])⟩) ::
  (nat_lit 356, ⟨(Value.type "code"), none, (Data.fields (List.toArray [(Value.str (Str.ofString "__init__") 672), (Value.str (Str.ofString "StringIO.__init__") 673), (Value.str (Str.ofString "/claim/cut.py") 674), (Value.int 204 0), (Value.int 3 0), (Value.int 0 0), (Value.int 0 0), (Value.int 3 0), (Value.ref 351), (Value.bool true), (Value.int 273 0), (Value.ref 352), Value.none, (Value.ref 353), (Value.ref 354), (Value.ref 355), (Value.int 678 0), (Value.int 204 0), (Value.str (Str.ofString "/claim/cut.py") 679)])), (List.toArray [])⟩) ::
  (nat_lit 357, ⟨(Value.type "function"), none, (Data.func ⟨(Str.ofString "__init__"), (Str.ofString "StringIO.__init__"), fArgs [10, 1], FuncBody.stmts (fBody [10, 1]), fScope [10, 1], 3, [], (Value.ref 350), Value.none, Value.none, (Value.str (Str.ofString "io") 286), none, (Value.ref 356), Value.none, 0⟩), (List.toArray [])⟩) ::
  (nat_lit 363, ⟨(Value.type "code"), none, (Data.fields (List.toArray [(Value.str (Str.ofString "__translated") 681), (Value.str (Str.ofString "StringIO.__translated") 682), (Value.str (Str.ofString "/claim/cut.py") 683), (Value.int 217 0), (Value.int 2 0), (Value.int 0 0), (Value.int 0 0), (Value.int 3 0), (Value.ref 358), (Value.bool true), (Value.int 273 0), (Value.ref 359), Value.none, (Value.ref 360), (Value.ref 361), (Value.ref 362), (Value.int 687 0), (Value.int 217 0), (Value.str (Str.ofString "/claim/cut.py") 688)])), (List.toArray [])⟩) ::
  (nat_lit 364, ⟨(Value.type "function"), none, (Data.func ⟨(Str.ofString "__translated"), (Str.ofString "StringIO.__translated"), fArgs [10, 2], FuncBody.stmts (fBody [10, 2]), fScope [10, 2], 3, [], Value.none, Value.none, Value.none, (Value.str (Str.ofString "io") 286), none, (Value.ref 363), Value.none, 0⟩), (List.toArray [])⟩) ::
  (nat_lit 370, ⟨(Value.type "code"), none, (Data.fields (List.toArray [(Value.str (Str.ofString "__check") 690), (Value.str (Str.ofString "StringIO.__check") 691), (Value.str (Str.ofString "/claim/cut.py") 692), (Value.int 225 0), (Value.int 1 0), (Value.int 0 0), (Value.int 0 0), (Value.int 3 0), (Value.ref 365), (Value.bool true), (Value.int 273 0), (Value.ref 366), Value.none, (Value.ref 367), (Value.ref 368), (Value.ref 369), (Value.int 694 0), (Value.int 225 0), (Value.str (Str.ofString "/claim/cut.py") 695)])), (List.toArray [])⟩) ::
  (nat_lit 371, ⟨(Value.type "function"), none, (Data.func ⟨(Str.ofString "__check"), (Str.ofString "StringIO.__check"), fArgs [10, 3], FuncBody.stmts (fBody [10, 3]), fScope [10, 3], 3, [], Value.none, Value.none, Value.none, (Value.str (Str.ofString "io") 286), none, (Value.ref 370), Value.none, 0⟩), (List.toArray [])⟩) ::
  (nat_lit 377, ⟨(Value.type "code"), none, (Data.fields (List.toArray [(Value.str (Str.ofString "__check_dot") 697), (Value.str (Str.ofString "StringIO.__check_dot") 698), (Value.str (Str.ofString "/claim/cut.py") 699), (Value.int 229 0), (Value.int 1 0), (Value.int 0 0), (Value.int 0 0), (Value.int 3 0), (Value.ref 372), (Value.bool true), (Value.int 273 0), (Value.ref 373), Value.none, (Value.ref 374), (Value.ref 375), (Value.ref 376), (Value.int 701 0), (Value.int 229 0), (Value.str (Str.ofString "/claim/cut.py") 702)])), (List.toArray [])⟩) ::
  (nat_lit 378, ⟨(Value.type "function"), none, (Data.func ⟨(Str.ofString "__check_dot"), (Str.ofString "StringIO.__check_dot"), fArgs [10, 4], FuncBody.stmts (fBody [10, 4]), fScope [10, 4], 3, [], Value.none, Value.none, Value.none, (Value.str (Str.ofString "io") 286), none, (Value.ref 377), Value.none, 0⟩), (List.toArray [])⟩) ::
  (nat_lit 384, ⟨(Value.type "code"), none, (Data.fields (List.toArray [(Value.str (Str.ofString "__line") 704), (Value.str (Str.ofString "StringIO.__line") 705), (Value.str (Str.ofString "/claim/cut.py") 706), (Value.int 233 0), (Value.int 2 0), (Value.int 0 0), (Value.int 0 0), (Value.int 3 0), (Value.ref 379), (Value.bool true), (Value.int 273 0), (Value.ref 380), Value.none, (Value.ref 381), (Value.ref 382), (Value.ref 383), (Value.int 716 0), (Value.int 233 0), (Value.str (Str.ofString "/claim/cut.py") 717)])), (List.toArray [])⟩) ::
  (nat_lit 385, ⟨(Value.type "function"), none, (Data.func ⟨(Str.ofString "__line"), (Str.ofString "StringIO.__line"), fArgs [10, 5], FuncBody.stmts (fBody [10, 5]), fScope [10, 5], 3, [], Value.none, Value.none, Value.none, (Value.str (Str.ofString "io") 286), none, (Value.ref 384), Value.none, 0⟩), (List.toArray [])⟩) ::
  (nat_lit 391, ⟨(Value.type "code"), none, (Data.fields (List.toArray [(Value.str (Str.ofString "closed") 719), (Value.str (Str.ofString "StringIO.closed") 720), (Value.str (Str.ofString "/claim/cut.py") 721), (Value.int 265 0), (Value.int 1 0), (Value.int 0 0), (Value.int 0 0), (Value.int 3 0), (Value.ref 386), (Value.bool true), (Value.int 273 0), (Value.ref 387), Value.none, (Value.ref 388), (Value.ref 389), (Value.ref 390), (Value.int 723 0), (Value.int 265 0), (Value.str (Str.ofString "/claim/cut.py") 724)])), (List.toArray [])⟩) ::
  (nat_lit 392, ⟨(Value.type "function"), none, (Data.func ⟨(Str.ofString "closed"), (Str.ofString "StringIO.closed"), fArgs [10, 6], FuncBody.stmts (fBody [10, 6]), fScope [10, 6], 3, [], Value.none, Value.none, Value.none, (Value.str (Str.ofString "io") 286), none, (Value.ref 391), Value.none, 0⟩), (List.toArray [])⟩) ::
  (nat_lit 393, ⟨(Value.type "property"), none, (Data.fields (List.toArray [(Value.ref 392), Value.none, Value.none, Value.none, (Value.str (Str.ofString "closed") 726), (Value.bool false)])), (List.toArray [])⟩) ::
  (nat_lit 399, ⟨(Value.type "code"), none, (Data.fields (List.toArray [(Value.str (Str.ofString "line_buffering") 727), (Value.str (Str.ofString "StringIO.line_buffering") 728), (Value.str (Str.ofString "/claim/cut.py") 729), (Value.int 269 0), (Value.int 1 0), (Value.int 0 0), (Value.int 0 0), (Value.int 3 0), (Value.ref 394), (Value.bool true), (Value.int 273 0), (Value.ref 395), Value.none, (Value.ref 396), (Value.ref 397), (Value.ref 398), (Value.int 731 0), (Value.int 269 0), (Value.str (Str.ofString "/claim/cut.py") 732)])), (List.toArray [])⟩) ::
  (nat_lit 400, ⟨(Value.type "function"), none, (Data.func ⟨(Str.ofString "line_buffering"), (Str.ofString "StringIO.line_buffering"), fArgs [10, 7], FuncBody.stmts (fBody [10, 7]), fScope [10, 7], 3, [], Value.none, Value.none, Value.none, (Value.str (Str.ofString "io") 286), none, (Value.ref 399), Value.none, 0⟩), (List.toArray [])⟩) ::
  (nat_lit 401, ⟨(Value.type "property"), none, (Data.fields (List.toArray [(Value.ref 400), Value.none, Value.none, Value.none, (Value.str (Str.ofString "line_buffering") 734), (Value.bool false)])), (List.toArray [])⟩) ::
  (nat_lit 407, ⟨(Value.type "code"), none, (Data.fields (List.toArray [(Value.str (Str.ofString "newlines") 735), (Value.str (Str.ofString "StringIO.newlines") 736), (Value.str (Str.ofString "/claim/cut.py") 737), (Value.int 273 0), (Value.int 1 0), (Value.int 0 0), (Value.int 0 0), (Value.int 3 0), (Value.ref 402), (Value.bool true), (Value.int 273 0), (Value.ref 403), Value.none, (Value.ref 404), (Value.ref 405), (Value.ref 406), (Value.int 739 0), (Value.int 273 0), (Value.str (Str.ofString "/claim/cut.py") 740)])), (List.toArray [])⟩) ::
  (nat_lit 408, ⟨(Value.type "function"), none, (Data.func ⟨(Str.ofString "newlines"), (Str.ofString "StringIO.newlines"), fArgs [10, 8], FuncBody.stmts (fBody [10, 8]), fScope [10, 8], 3, [], Value.none, Value.none, Value.none, (Value.str (Str.ofString "io") 286), none, (Value.ref 407), Value.none, 0⟩), (List.toArray [])⟩) ::
  (nat_lit 409, ⟨(Value.type "property"), none, (Data.fields (List.toArray [(Value.ref 408), Value.none, Value.none, Value.none, (Value.str (Str.ofString "newlines") 742), (Value.bool false)])), (List.toArray [])⟩) ::
  (nat_lit 415, ⟨(Value.type "code"), none, (Data.fields (List.toArray [(Value.str (Str.ofString "encoding") 743), (Value.str (Str.ofString "StringIO.encoding") 744), (Value.str (Str.ofString "/claim/cut.py") 745), (Value.int 277 0), (Value.int 1 0), (Value.int 0 0), (Value.int 0 0), (Value.int 3 0), (Value.ref 410), (Value.bool true), (Value.int 273 0), (Value.ref 411), Value.none, (Value.ref 412), (Value.ref 413), (Value.ref 414), (Value.int 747 0), (Value.int 277 0), (Value.str (Str.ofString "/claim/cut.py") 748)])), (List.toArray [])⟩) ::
  (nat_lit 416, ⟨(Value.type "function"), none, (Data.func ⟨(Str.ofString "encoding"), (Str.ofString "StringIO.encoding"), fArgs [10, 9], FuncBody.stmts (fBody [10, 9]), fScope [10, 9], 3, [], Value.none, Value.none, Value.none, (Value.str (Str.ofString "io") 286), none, (Value.ref 415), Value.none, 0⟩), (List.toArray [])⟩) ::
  (nat_lit 417, ⟨(Value.type "property"), none, (Data.fields (List.toArray [(Value.ref 416), Value.none, Value.none, Value.none, (Value.str (Str.ofString "encoding") 750), (Value.bool false)])), (List.toArray [])⟩) ::
  (nat_lit 423, ⟨(Value.type "code"), none, (Data.fields (List.toArray [(Value.str (Str.ofString "errors") 751), (Value.str (Str.ofString "StringIO.errors") 752), (Value.str (Str.ofString "/claim/cut.py") 753), (Value.int 281 0), (Value.int 1 0), (Value.int 0 0), (Value.int 0 0), (Value.int 3 0), (Value.ref 418), (Value.bool true), (Value.int 273 0), (Value.ref 419), Value.none, (Value.ref 420), (Value.ref 421), (Value.ref 422), (Value.int 755 0), (Value.int 281 0), (Value.str (Str.ofString "/claim/cut.py") 756)])), (List.toArray [])⟩) ::
  (nat_lit 424, ⟨(Value.type "function"), none, (Data.func ⟨(Str.ofString "errors"), (Str.ofString "StringIO.errors"), fArgs [10, 10], FuncBody.stmts (fBody [10, 10]), fScope [10, 10], 3, [], Value.none, Value.none, Value.none, (Value.str (Str.ofString "io") 286), none, (Value.ref 423), Value.none, 0⟩), (List.toArray [])⟩) ::
  (nat_lit 425, ⟨(Value.type "property"), none, (Data.fields (List.toArray [(Value.ref 424), Value.none, Value.none, Value.none, (Value.str (Str.ofString "errors") 758), (Value.bool false)])), (List.toArray [])⟩) ::
  (nat_lit 431, ⟨(Value.type "code"), none, (Data.fields (List.toArray [(Value.str (Str.ofString "close") 759), (Value.str (Str.ofString "StringIO.close") 760), (Value.str (Str.ofString "/claim/cut.py") 761), (Value.int 285 0), (Value.int 1 0), (Value.int 0 0), (Value.int 0 0), (Value.int 3 0), (Value.ref 426), (Value.bool true), (Value.int 273 0), (Value.ref 427), Value.none, (Value.ref 428), (Value.ref 429), (Value.ref 430), (Value.int 763 0), (Value.int 285 0), (Value.str (Str.ofString "/claim/cut.py") 764)])), (List.toArray [])⟩) ::
  (nat_lit 432, ⟨(Value.type "function"), none, (Data.func ⟨(Str.ofString "close"), (Str.ofString "StringIO.close"), fArgs [10, 11], FuncBody.stmts (fBody [10, 11]), fScope [10, 11], 3, [], Value.none, Value.none, Value.none, (Value.str (Str.ofString "io") 286), none, (Value.ref 431), Value.none, 0⟩), (List.toArray [])⟩) ::
  (nat_lit 438, ⟨(Value.type "code"), none, (Data.fields (List.toArray [(Value.str (Str.ofString "__enter__") 766), (Value.str (Str.ofString "StringIO.__enter__") 767), (Value.str (Str.ofString "/claim/cut.py") 768), (Value.int 288 0), (Value.int 1 0), (Value.int 0 0), (Value.int 0 0), (Value.int 3 0), (Value.ref 433), (Value.bool true), (Value.int 273 0), (Value.ref 434), Value.none, (Value.ref 435), (Value.ref 436), (Value.ref 437), (Value.int 770 0), (Value.int 288 0), (Value.str (Str.ofString "/claim/cut.py") 771)])), (List.toArray [])⟩) ::
  (nat_lit 439, ⟨(Value.type "function"), none, (Data.func ⟨(Str.ofString "__enter__"), (Str.ofString "StringIO.__enter__"), fArgs [10, 12], FuncBody.stmts (fBody [10, 12]), fScope [10, 12], 3, [], Value.none, Value.none, Value.none, (Value.str (Str.ofString "io") 286), none, (Value.ref 438), Value.none, 0⟩), (List.toArray [])⟩) ::
  (nat_lit 445, ⟨(Value.type "code"), none, (Data.fields (List.toArray [(Value.str (Str.ofString "__exit__") 773), (Value.str (Str.ofString "StringIO.__exit__") 774), (Value.str (Str.ofString "/claim/cut.py") 775), (Value.int 292 0), (Value.int 1 0), (Value.int 0 0), (Value.int 0 0), (Value.int 7 0), (Value.ref 440), (Value.bool true), (Value.int 273 0), (Value.ref 441), Value.none, (Value.ref 442), (Value.ref 443), (Value.ref 444), (Value.int 778 0), (Value.int 292 0), (Value.str (Str.ofString "/claim/cut.py") 779)])), (List.toArray [])⟩) ::
  (nat_lit 446, ⟨(Value.type "function"), none, (Data.func ⟨(Str.ofString "__exit__"), (Str.ofString "StringIO.__exit__"), fArgs [10, 13], FuncBody.stmts (fBody [10, 13]), fScope [10, 13], 3, [], Value.none, Value.none, Value.none, (Value.str (Str.ofString "io") 286), none, (Value.ref 445), Value.none, 0⟩), (List.toArray [])⟩) ::
  (nat_lit 452, ⟨(Value.type "code"), none, (Data.fields (List.toArray [(Value.str (Str.ofString "readable") 781), (Value.str (Str.ofString "StringIO.readable") 782), (Value.str (Str.ofString "/claim/cut.py") 783), (Value.int 295 0), (Value.int 1 0), (Value.int 0 0), (Value.int 0 0), (Value.int 3 0), (Value.ref 447), (Value.bool true), (Value.int 273 0), (Value.ref 448), Value.none, (Value.ref 449), (Value.ref 450), (Value.ref 451), (Value.int 785 0), (Value.int 295 0), (Value.str (Str.ofString "/claim/cut.py") 786)])), (List.toArray [])⟩) ::
  (nat_lit 453, ⟨(Value.type "function"), none, (Data.func ⟨(Str.ofString "readable"), (Str.ofString "StringIO.readable"), fArgs [10, 14], FuncBody.stmts (fBody [10, 14]), fScope [10, 14], 3, [], Value.none, Value.none, Value.none, (Value.str (Str.ofString "io") 286), none, (Value.ref 452), Value.none, 0⟩), (List.toArray [])⟩) ::
  (nat_lit 459, ⟨(Value.type "code"), none, (Data.fields (List.toArray [(Value.str (Str.ofString "writable") 788), (Value.str (Str.ofString "StringIO.writable") 789), (Value.str (Str.ofString "/claim/cut.py") 790), (Value.int 299 0), (Value.int 1 0), (Value.int 0 0), (Value.int 0 0), (Value.int 3 0), (Value.ref 454), (Value.bool true), (Value.int 273 0), (Value.ref 455), Value.none, (Value.ref 456), (Value.ref 457), (Value.ref 458), (Value.int 792 0), (Value.int 299 0), (Value.str (Str.ofString "/claim/cut.py") 793)])), (List.toArray [])⟩) ::
  (nat_lit 460, ⟨(Value.type "function"), none, (Data.func ⟨(Str.ofString "writable"), (Str.ofString "StringIO.writable"), fArgs [10, 15], FuncBody.stmts (fBody [10, 15]), fScope [10, 15], 3, [], Value.none, Value.none, Value.none, (Value.str (Str.ofString "io") 286), none, (Value.ref 459), Value.none, 0⟩), (List.toArray [])⟩) ::
  (nat_lit 466, ⟨(Value.type "code"), none, (Data.fields (List.toArray [(Value.str (Str.ofString "seekable") 795), (Value.str (Str.ofString "StringIO.seekable") 796), (Value.str (Str.ofString "/claim/cut.py") 797), (Value.int 303 0), (Value.int 1 0), (Value.int 0 0), (Value.int 0 0), (Value.int 3 0), (Value.ref 461), (Value.bool true), (Value.int 273 0), (Value.ref 462), Value.none, (Value.ref 463), (Value.ref 464), (Value.ref 465), (Value.int 799 0), (Value.int 303 0), (Value.str (Str.ofString "/claim/cut.py") 800)])), (List.toArray [])⟩) ::
  (nat_lit 467, ⟨(Value.type "function"), none, (Data.func ⟨(Str.ofString "seekable"), (Str.ofString "StringIO.seekable"), fArgs [10, 16], FuncBody.stmts (fBody [10, 16]), fScope [10, 16], 3, [], Value.none, Value.none, Value.none, (Value.str (Str.ofString "io") 286), none, (Value.ref 466), Value.none, 0⟩), (List.toArray [])⟩) ::
  (nat_lit 473, ⟨(Value.type "code"), none, (Data.fields (List.toArray [(Value.str (Str.ofString "isatty") 802), (Value.str (Str.ofString "StringIO.isatty") 803), (Value.str (Str.ofString "/claim/cut.py") 804), (Value.int 307 0), (Value.int 1 0), (Value.int 0 0), (Value.int 0 0), (Value.int 3 0), (Value.ref 468), (Value.bool true), (Value.int 273 0), (Value.ref 469), Value.none, (Value.ref 470), (Value.ref 471), (Value.ref 472), (Value.int 806 0), (Value.int 307 0), (Value.str (Str.ofString "/claim/cut.py") 807)])), (List.toArray [])⟩) ::
  (nat_lit 474, ⟨(Value.type "function"), none, (Data.func ⟨(Str.ofString "isatty"), (Str.ofString "StringIO.isatty"), fArgs [10, 17], FuncBody.stmts (fBody [10, 17]), fScope [10, 17], 3, [], Value.none, Value.none, Value.none, (Value.str (Str.ofString "io") 286), none, (Value.ref 473), Value.none, 0⟩), (List.toArray [])⟩) ::
  (nat_lit 480, ⟨(Value.type "code"), none, (Data.fields (List.toArray [(Value.str (Str.ofString "flush") 809), (Value.str (Str.ofString "StringIO.flush") 810), (Value.str (Str.ofString "/claim/cut.py") 811), (Value.int 311 0), (Value.int 1 0), (Value.int 0 0), (Value.int 0 0), (Value.int 3 0), (Value.ref 475), (Value.bool true), (Value.int 273 0), (Value.ref 476), Value.none, (Value.ref 477), (Value.ref 478), (Value.ref 479), (Value.int 813 0), (Value.int 311 0), (Value.str (Str.ofString "/claim/cut.py") 814)])), (List.toArray [])⟩) ::
  (nat_lit 481, ⟨(Value.type "function"), none, (Data.func ⟨(Str.ofString "flush"), (Str.ofString "StringIO.flush"), fArgs [10, 18], FuncBody.stmts (fBody [10, 18]), fScope [10, 18], 3, [], Value.none, Value.none, Value.none, (Value.str (Str.ofString "io") 286), none, (Value.ref 480), Value.none, 0⟩), (List.toArray [])⟩) ::
  (nat_lit 487, ⟨(Value.type "code"), none, (Data.fields (List.toArray [(Value.str (Str.ofString "fileno") 816), (Value.str (Str.ofString "StringIO.fileno") 817), (Value.str (Str.ofString "/claim/cut.py") 818), (Value.int 314 0), (Value.int 1 0), (Value.int 0 0), (Value.int 0 0), (Value.int 3 0), (Value.ref 482), (Value.bool true), (Value.int 273 0), (Value.ref 483), Value.none, (Value.ref 484), (Value.ref 485), (Value.ref 486), (Value.int 820 0), (Value.int 314 0), (Value.str (Str.ofString "/claim/cut.py") 821)])), (List.toArray [])⟩) ::
  (nat_lit 488, ⟨(Value.type "function"), none, (Data.func ⟨(Str.ofString "fileno"), (Str.ofString "StringIO.fileno"), fArgs [10, 19], FuncBody.stmts (fBody [10, 19]), fScope [10, 19], 3, [], Value.none, Value.none, Value.none, (Value.str (Str.ofString "io") 286), none, (Value.ref 487), Value.none, 0⟩), (List.toArray [])⟩) ::
  (nat_lit 494, ⟨(Value.type "code"), none, (Data.fields (List.toArray [(Value.str (Str.ofString "detach") 823), (Value.str (Str.ofString "StringIO.detach") 824), (Value.str (Str.ofString "/claim/cut.py") 825), (Value.int 317 0), (Value.int 1 0), (Value.int 0 0), (Value.int 0 0), (Value.int 3 0), (Value.ref 489), (Value.bool true), (Value.int 273 0), (Value.ref 490), Value.none, (Value.ref 491), (Value.ref 492), (Value.ref 493), (Value.int 827 0), (Value.int 317 0), (Value.str (Str.ofString "/claim/cut.py") 828)])), (List.toArray [])⟩) ::
  (nat_lit 495, ⟨(Value.type "function"), none, (Data.func ⟨(Str.ofString "detach"), (Str.ofString "StringIO.detach"), fArgs [10, 20], FuncBody.stmts (fBody [10, 20]), fScope [10, 20], 3, [], Value.none, Value.none, Value.none, (Value.str (Str.ofString "io") 286), none, (Value.ref 494), Value.none, 0⟩), (List.toArray [])⟩) ::
  (nat_lit 501, ⟨(Value.type "code"), none, (Data.fields (List.toArray [(Value.str (Str.ofString "getvalue") 830), (Value.str (Str.ofString "StringIO.getvalue") 831), (Value.str (Str.ofString "/claim/cut.py") 832), (Value.int 320 0), (Value.int 1 0), (Value.int 0 0), (Value.int 0 0), (Value.int 3 0), (Value.ref 496), (Value.bool true), (Value.int 273 0), (Value.ref 497), Value.none, (Value.ref 498), (Value.ref 499), (Value.ref 500), (Value.int 834 0), (Value.int 320 0), (Value.str (Str.ofString "/claim/cut.py") 835)])), (List.toArray [])⟩) ::
  (nat_lit 502, ⟨(Value.type "function"), none, (Data.func ⟨(Str.ofString "getvalue"), (Str.ofString "StringIO.getvalue"), fArgs [10, 21], FuncBody.stmts (fBody [10, 21]), fScope [10, 21], 3, [], Value.none, Value.none, Value.none, (Value.str (Str.ofString "io") 286), none, (Value.ref 501), Value.none, 0⟩), (List.toArray [])⟩) ::
  (nat_lit 508, ⟨(Value.type "code"), none, (Data.fields (List.toArray [(Value.str (Str.ofString "tell") 837), (Value.str (Str.ofString "StringIO.tell") 838), (Value.str (Str.ofString "/claim/cut.py") 839), (Value.int 323 0), (Value.int 1 0), (Value.int 0 0), (Value.int 0 0), (Value.int 3 0), (Value.ref 503), (Value.bool true), (Value.int 273 0), (Value.ref 504), Value.none, (Value.ref 505), (Value.ref 506), (Value.ref 507), (Value.int 841 0), (Value.int 323 0), (Value.str (Str.ofString "/claim/cut.py") 842)])), (List.toArray [])⟩) ::
  (nat_lit 509, ⟨(Value.type "function"), none, (Data.func ⟨(Str.ofString "tell"), (Str.ofString "StringIO.tell"), fArgs [10, 22], FuncBody.stmts (fBody [10, 22]), fScope [10, 22], 3, [], Value.none, Value.none, Value.none, (Value.str (Str.ofString "io") 286), none, (Value.ref 508), Value.none, 0⟩), (List.toArray [])⟩) ::
  (nat_lit 510, ⟨(Value.type "tuple"), none, (Data.seq (List.toArray [(Value.int 0 844)]) 0), (List.toArray [])⟩) ::
  (nat_lit 516, ⟨(Value.type "code"), none, (Data.fields (List.toArray [(Value.str (Str.ofString "seek") 845), (Value.str (Str.ofString "StringIO.seek") 846), (Value.str (Str.ofString "/claim/cut.py") 847), (Value.int 327 0), (Value.int 3 0), (Value.int 3 0), (Value.int 0 0), (Value.int 3 0), (Value.ref 511), (Value.bool true), (Value.int 273 0), (Value.ref 512), Value.none, (Value.ref 513), (Value.ref 514), (Value.ref 515), (Value.int 851 0), (Value.int 327 0), (Value.str (Str.ofString "/claim/cut.py") 852)])), (List.toArray [])⟩) ::
  (nat_lit 517, ⟨(Value.type "function"), none, (Data.func ⟨(Str.ofString "seek"), (Str.ofString "StringIO.seek"), fArgs [10, 23], FuncBody.stmts (fBody [10, 23]), fScope [10, 23], 3, [], (Value.ref 510), Value.none, Value.none, (Value.str (Str.ofString "io") 286), none, (Value.ref 516), Value.none, 0⟩), (List.toArray [])⟩) ::
  (nat_lit 518, ⟨(Value.type "tuple"), none, (Data.seq (List.toArray [Value.none]) 0), (List.toArray [])⟩) ::
  (nat_lit 524, ⟨(Value.type "code"), none, (Data.fields (List.toArray [(Value.str (Str.ofString "truncate") 854), (Value.str (Str.ofString "StringIO.truncate") 855), (Value.str (Str.ofString "/claim/cut.py") 856), (Value.int 344 0), (Value.int 2 0), (Value.int 2 0), (Value.int 0 0), (Value.int 3 0), (Value.ref 519), (Value.bool true), (Value.int 273 0), (Value.ref 520), Value.none, (Value.ref 521), (Value.ref 522), (Value.ref 523), (Value.int 859 0), (Value.int 344 0), (Value.str (Str.ofString "/claim/cut.py") 860)])), (List.toArray [])⟩) ::
  (nat_lit 525, ⟨(Value.type "function"), none, (Data.func ⟨(Str.ofString "truncate"), (Str.ofString "StringIO.truncate"), fArgs [10, 24], FuncBody.stmts (fBody [10, 24]), fScope [10, 24], 3, [], (Value.ref 518), Value.none, Value.none, (Value.str (Str.ofString "io") 286), none, (Value.ref 524), Value.none, 0⟩), (List.toArray [])⟩) ::
  (nat_lit 526, ⟨(Value.type "tuple"), none, (Data.seq (List.toArray [(Value.int (-1) 863)]) 0), (List.toArray [])⟩) ::
  (nat_lit 532, ⟨(Value.type "code"), none, (Data.fields (List.toArray [(Value.str (Str.ofString "read") 864), (Value.str (Str.ofString "StringIO.read") 865), (Value.str (Str.ofString "/claim/cut.py") 866), (Value.int 347 0), (Value.int 2 0), (Value.int 2 0), (Value.int 0 0), (Value.int 3 0), (Value.ref 527), (Value.bool true), (Value.int 273 0), (Value.ref 528), Value.none, (Value.ref 529), (Value.ref 530), (Value.ref 531), (Value.int 871 0), (Value.int 347 0), (Value.str (Str.ofString "/claim/cut.py") 872)])), (List.toArray [])⟩) ::
  (nat_lit 533, ⟨(Value.type "function"), none, (Data.func ⟨(Str.ofString "read"), (Str.ofString "StringIO.read"), fArgs [10, 25], FuncBody.stmts (fBody [10, 25]), fScope [10, 25], 3, [], (Value.ref 526), Value.none, Value.none, (Value.str (Str.ofString "io") 286), none, (Value.ref 532), Value.none, 0⟩), (List.toArray [])⟩) ::
  (nat_lit 534, ⟨(Value.type "tuple"), none, (Data.seq (List.toArray [(Value.int (-1) 875)]) 0), (List.toArray [])⟩) ::
  (nat_lit 540, ⟨(Value.type "code"), none, (Data.fields (List.toArray [(Value.str (Str.ofString "readline") 876), (Value.str (Str.ofString "StringIO.readline") 877), (Value.str (Str.ofString "/claim/cut.py") 878), (Value.int 361 0), (Value.int 2 0), (Value.int 2 0), (Value.int 0 0), (Value.int 3 0), (Value.ref 535), (Value.bool true), (Value.int 273 0), (Value.ref 536), Value.none, (Value.ref 537), (Value.ref 538), (Value.ref 539), (Value.int 881 0), (Value.int 361 0), (Value.str (Str.ofString "/claim/cut.py") 882)])), (List.toArray [])⟩) ::
  (nat_lit 541, ⟨(Value.type "function"), none, (Data.func ⟨(Str.ofString "readline"), (Str.ofString "StringIO.readline"), fArgs [10, 26], FuncBody.stmts (fBody [10, 26]), fScope [10, 26], 3, [], (Value.ref 534), Value.none, Value.none, (Value.str (Str.ofString "io") 286), none, (Value.ref 540), Value.none, 0⟩), (List.toArray [])⟩) ::
  (nat_lit 542, ⟨(Value.type "tuple"), none, (Data.seq (List.toArray [(Value.int (-1) 885)]) 0), (List.toArray [])⟩) ::
  (nat_lit 548, ⟨(Value.type "code"), none, (Data.fields (List.toArray [(Value.str (Str.ofString "readlines") 886), (Value.str (Str.ofString "StringIO.readlines") 887), (Value.str (Str.ofString "/claim/cut.py") 888), (Value.int 368 0), (Value.int 2 0), (Value.int 2 0), (Value.int 0 0), (Value.int 3 0), (Value.ref 543), (Value.bool true), (Value.int 273 0), (Value.ref 544), Value.none, (Value.ref 545), (Value.ref 546), (Value.ref 547), (Value.int 891 0), (Value.int 368 0), (Value.str (Str.ofString "/claim/cut.py") 892)])), (List.toArray [])⟩) ::
  (nat_lit 549, ⟨(Value.type "function"), none, (Data.func ⟨(Str.ofString "readlines"), (Str.ofString "StringIO.readlines"), fArgs [10, 27], FuncBody.stmts (fBody [10, 27]), fScope [10, 27], 3, [], (Value.ref 542), Value.none, Value.none, (Value.str (Str.ofString "io") 286), none, (Value.ref 548), Value.none, 0⟩), (List.toArray [])⟩) ::
  (nat_lit 555, ⟨(Value.type "code"), none, (Data.fields (List.toArray [(Value.str (Str.ofString "__iter__") 894), (Value.str (Str.ofString "StringIO.__iter__") 895), (Value.str (Str.ofString "/claim/cut.py") 896), (Value.int 371 0), (Value.int 1 0), (Value.int 0 0), (Value.int 0 0), (Value.int 3 0), (Value.ref 550), (Value.bool true), (Value.int 273 0), (Value.ref 551), Value.none, (Value.ref 552), (Value.ref 553), (Value.ref 554), (Value.int 898 0), (Value.int 371 0), (Value.str (Str.ofString "/claim/cut.py") 899)])), (List.toArray [])⟩) ::
  (nat_lit 556, ⟨(Value.type "function"), none, (Data.func ⟨(Str.ofString "__iter__"), (Str.ofString "StringIO.__iter__"), fArgs [10, 28], FuncBody.stmts (fBody [10, 28]), fScope [10, 28], 3, [], Value.none, Value.none, Value.none, (Value.str (Str.ofString "io") 286), none, (Value.ref 555), Value.none, 0⟩), (List.toArray [])⟩) ::
  (nat_lit 562, ⟨(Value.type "code"), none, (Data.fields (List.toArray [(Value.str (Str.ofString "__next__") 901), (Value.str (Str.ofString "StringIO.__next__") 902), (Value.str (Str.ofString "/claim/cut.py") 903), (Value.int 375 0), (Value.int 1 0), (Value.int 0 0), (Value.int 0 0), (Value.int 3 0), (Value.ref 557), (Value.bool true), (Value.int 273 0), (Value.ref 558), Value.none, (Value.ref 559), (Value.ref 560), (Value.ref 561), (Value.int 906 0), (Value.int 375 0), (Value.str (Str.ofString "/claim/cut.py") 907)])), (List.toArray [])⟩) ::
  (nat_lit 563, ⟨(Value.type "function"), none, (Data.func ⟨(Str.ofString "__next__"), (Str.ofString "StringIO.__next__"), fArgs [10, 29], FuncBody.stmts (fBody [10, 29]), fScope [10, 29], 3, [], Value.none, Value.none, Value.none, (Value.str (Str.ofString "io") 286), none, (Value.ref 562), Value.none, 0⟩), (List.toArray [])⟩) ::
  (nat_lit 569, ⟨(Value.type "code"), none, (Data.fields (List.toArray [(Value.str (Str.ofString "write") 909), (Value.str (Str.ofString "StringIO.write") 910), (Value.str (Str.ofString "/claim/cut.py") 911), (Value.int 382 0), (Value.int 2 0), (Value.int 2 0), (Value.int 0 0), (Value.int 3 0), (Value.ref 564), (Value.bool true), (Value.int 273 0), (Value.ref 565), Value.none, (Value.ref 566), (Value.ref 567), (Value.ref 568), (Value.int 918 0), (Value.int 382 0), (Value.str (Str.ofString "/claim/cut.py") 919)])), (List.toArray [])⟩) ::
  (nat_lit 570, ⟨(Value.type "function"), none, (Data.func ⟨(Str.ofString "write"), (Str.ofString "StringIO.write"), fArgs [10, 30], FuncBody.stmts (fBody [10, 30]), fScope [10, 30], 3, [], Value.none, Value.none, Value.none, (Value.str (Str.ofString "io") 286), none, (Value.ref 569), Value.none, 0⟩), (List.toArray [])⟩) ::
  (nat_lit 576, ⟨(Value.type "code"), none, (Data.fields (List.toArray [(Value.str (Str.ofString "writelines") 921), (Value.str (Str.ofString "StringIO.writelines") 922), (Value.str (Str.ofString "/claim/cut.py") 923), (Value.int 401 0), (Value.int 2 0), (Value.int 2 0), (Value.int 0 0), (Value.int 3 0), (Value.ref 571), (Value.bool true), (Value.int 273 0), (Value.ref 572), Value.none, (Value.ref 573), (Value.ref 574), (Value.ref 575), (Value.int 926 0), (Value.int 401 0), (Value.str (Str.ofString "/claim/cut.py") 927)])), (List.toArray [])⟩) ::
  (nat_lit 577, ⟨(Value.type "function"), none, (Data.func ⟨(Str.ofString "writelines"), (Str.ofString "StringIO.writelines"), fArgs [10, 31], FuncBody.stmts (fBody [10, 31]), fScope [10, 31], 3, [], Value.none, Value.none, Value.none, (Value.str (Str.ofString "io") 286), none, (Value.ref 576), Value.none, 0⟩), (List.toArray [])⟩) ::
  (nat_lit 583, ⟨(Value.type "code"), none, (Data.fields (List.toArray [(Value.str (Str.ofString "__repr__") 929), (Value.str (Str.ofString "StringIO.__repr__") 930), (Value.str (Str.ofString "/claim/cut.py") 931), (Value.int 404 0), (Value.int 1 0), (Value.int 0 0), (Value.int 0 0), (Value.int 3 0), (Value.ref 578), (Value.bool true), (Value.int 273 0), (Value.ref 579), Value.none, (Value.ref 580), (Value.ref 581), (Value.ref 582), (Value.int 933 0), (Value.int 404 0), (Value.str (Str.ofString "/claim/cut.py") 934)])), (List.toArray [])⟩) ::
  (nat_lit 584, ⟨(Value.type "function"), none, (Data.func ⟨(Str.ofString "__repr__"), (Str.ofString "StringIO.__repr__"), fArgs [10, 32], FuncBody.stmts (fBody [10, 32]), fScope [10, 32], 3, [], Value.none, Value.none, Value.none, (Value.str (Str.ofString "io") 286), none, (Value.ref 583), Value.none, 0⟩), (List.toArray [])⟩) ::
  (nat_lit 586, ⟨(Value.type "dict"), none, (Data.dict (List.toArray [⟨PyData.keyHash P (Str.ofString "__module__"), (Value.str (Str.ofString "__module__") 663), (Value.str (Str.ofString "_io") 668)⟩, ⟨PyData.keyHash P (Str.ofString "__firstlineno__"), (Value.str (Str.ofString "__firstlineno__") 667), (Value.int 201 666)⟩, ⟨PyData.keyHash P (Str.ofString "__init__"), (Value.str (Str.ofString "__init__") 680), (Value.ref 357)⟩, ⟨PyData.keyHash P (Str.ofString "_StringIO__translated"), (Value.str (Str.ofString "_StringIO__translated") 689), (Value.ref 364)⟩, ⟨PyData.keyHash P (Str.ofString "_StringIO__check"), (Value.str (Str.ofString "_StringIO__check") 696), (Value.ref 371)⟩, ⟨PyData.keyHash P (Str.ofString "_StringIO__check_dot"), (Value.str (Str.ofString "_StringIO__check_dot") 703), (Value.ref 378)⟩, ⟨PyData.keyHash P (Str.ofString "_StringIO__line"), (Value.str (Str.ofString "_StringIO__line") 718), (Value.ref 385)⟩, ⟨PyData.keyHash P (Str.ofString "closed"), (Value.str (Str.ofString "closed") 726), (Value.ref 393)⟩, ⟨PyData.keyHash P (Str.ofString "line_buffering"), (Value.str (Str.ofString "line_buffering") 734), (Value.ref 401)⟩, ⟨PyData.keyHash P (Str.ofString "newlines"), (Value.str (Str.ofString "newlines") 742), (Value.ref 409)⟩, ⟨PyData.keyHash P (Str.ofString "encoding"), (Value.str (Str.ofString "encoding") 750), (Value.ref 417)⟩, ⟨PyData.keyHash P (Str.ofString "errors"), (Value.str (Str.ofString "errors") 758), (Value.ref 425)⟩, ⟨PyData.keyHash P (Str.ofString "close"), (Value.str (Str.ofString "close") 765), (Value.ref 432)⟩, ⟨PyData.keyHash P (Str.ofString "__enter__"), (Value.str (Str.ofString "__enter__") 772), (Value.ref 439)⟩, ⟨PyData.keyHash P (Str.ofString "__exit__"), (Value.str (Str.ofString "__exit__") 780), (Value.ref 446)⟩, ⟨PyData.keyHash P (Str.ofString "readable"), (Value.str (Str.ofString "readable") 787), (Value.ref 453)⟩, ⟨PyData.keyHash P (Str.ofString "writable"), (Value.str (Str.ofString "writable") 794), (Value.ref 460)⟩, ⟨PyData.keyHash P (Str.ofString "seekable"), (Value.str (Str.ofString "seekable") 801), (Value.ref 467)⟩, ⟨PyData.keyHash P (Str.ofString "isatty"), (Value.str (Str.ofString "isatty") 808), (Value.ref 474)⟩, ⟨PyData.keyHash P (Str.ofString "flush"), (Value.str (Str.ofString "flush") 815), (Value.ref 481)⟩, ⟨PyData.keyHash P (Str.ofString "fileno"), (Value.str (Str.ofString "fileno") 822), (Value.ref 488)⟩, ⟨PyData.keyHash P (Str.ofString "detach"), (Value.str (Str.ofString "detach") 829), (Value.ref 495)⟩, ⟨PyData.keyHash P (Str.ofString "getvalue"), (Value.str (Str.ofString "getvalue") 836), (Value.ref 502)⟩, ⟨PyData.keyHash P (Str.ofString "tell"), (Value.str (Str.ofString "tell") 843), (Value.ref 509)⟩, ⟨PyData.keyHash P (Str.ofString "seek"), (Value.str (Str.ofString "seek") 853), (Value.ref 517)⟩, ⟨PyData.keyHash P (Str.ofString "truncate"), (Value.str (Str.ofString "truncate") 861), (Value.ref 525)⟩, ⟨PyData.keyHash P (Str.ofString "read"), (Value.str (Str.ofString "read") 873), (Value.ref 533)⟩, ⟨PyData.keyHash P (Str.ofString "readline"), (Value.str (Str.ofString "readline") 883), (Value.ref 541)⟩, ⟨PyData.keyHash P (Str.ofString "readlines"), (Value.str (Str.ofString "readlines") 893), (Value.ref 549)⟩, ⟨PyData.keyHash P (Str.ofString "__iter__"), (Value.str (Str.ofString "__iter__") 900), (Value.ref 556)⟩, ⟨PyData.keyHash P (Str.ofString "__next__"), (Value.str (Str.ofString "__next__") 908), (Value.ref 563)⟩, ⟨PyData.keyHash P (Str.ofString "write"), (Value.str (Str.ofString "write") 920), (Value.ref 570)⟩, ⟨PyData.keyHash P (Str.ofString "writelines"), (Value.str (Str.ofString "writelines") 928), (Value.ref 577)⟩, ⟨PyData.keyHash P (Str.ofString "__repr__"), (Value.str (Str.ofString "__repr__") 935), (Value.ref 584)⟩, ⟨PyData.keyHash P (Str.ofString "__static_attributes__"), (Value.str (Str.ofString "__static_attributes__") 939), (Value.ref 585)⟩, ⟨PyData.keyHash P (Str.ofString "__doc__"), (Value.str (Str.ofString "__doc__") 940), Value.none⟩]) 2), (List.toArray [])⟩) ::
  (nat_lit 587, ⟨(Value.type "type"), none, (Data.cls ⟨(Str.ofString "StringIO"), [(Value.ref 110)], [(Value.ref 587), (Value.ref 110), (Value.ref 83), (Value.type "object")], 586, (Str.ofString "StringIO"), true, [], [], false, none, false⟩), (List.toArray [(some (Value.ref 343)), none, (some (Value.str (Str.ofString "StringIO") 656)), (some (Value.str (Str.ofString "StringIO") 664)), (some Value.none), (some (Value.bool true))])⟩) ::
  (nat_lit 595, ⟨(Value.type "code"), none, (Data.fields (List.toArray [(Value.str (Str.ofString "_kind") 945), (Value.str (Str.ofString "_kind") 946), (Value.str (Str.ofString "/claim/cut.py") 947), (Value.int 407 0), (Value.int 2 0), (Value.int 0 0), (Value.int 0 0), (Value.int 3 0), (Value.ref 590), (Value.bool true), (Value.int 273 0), (Value.ref 591), Value.none, (Value.ref 592), (Value.ref 593), (Value.ref 594), (Value.int 951 0), (Value.int 407 0), (Value.str (Str.ofString "/claim/cut.py") 952)])), (List.toArray [])⟩) ::
  (nat_lit 596, ⟨(Value.type "function"), none, (Data.func ⟨(Str.ofString "_kind"), (Str.ofString "_kind"), fArgs [12], FuncBody.stmts (fBody [12]), fScope [12], 3, [], Value.none, Value.none, Value.none, (Value.str (Str.ofString "os.path") 943), none, (Value.ref 595), Value.none, 0⟩), (List.toArray [])⟩) ::
  (nat_lit 602, ⟨(Value.type "code"), none, (Data.fields (List.toArray [(Value.str (Str.ofString "_fspath") 954), (Value.str (Str.ofString "_fspath") 955), (Value.str (Str.ofString "/claim/cut.py") 956), (Value.int 428 0), (Value.int 2 0), (Value.int 0 0), (Value.int 0 0), (Value.int 3 0), (Value.ref 597), (Value.bool true), (Value.int 273 0), (Value.ref 598), Value.none, (Value.ref 599), (Value.ref 600), (Value.ref 601), (Value.int 960 0), (Value.int 428 0), (Value.str (Str.ofString "/claim/cut.py") 961)])), (List.toArray [])⟩) ::
  (nat_lit 603, ⟨(Value.type "function"), none, (Data.func ⟨(Str.ofString "_fspath"), (Str.ofString "_fspath"), fArgs [13], FuncBody.stmts (fBody [13]), fScope [13], 3, [], Value.none, Value.none, Value.none, (Value.str (Str.ofString "os.path") 943), none, (Value.ref 602), Value.none, 0⟩), (List.toArray [])⟩) ::
  (nat_lit 609, ⟨(Value.type "code"), none, (Data.fields (List.toArray [(Value.str (Str.ofString "_check_arg_types") 963), (Value.str (Str.ofString "_check_arg_types") 964), (Value.str (Str.ofString "/claim/cut.py") 965), (Value.int 433 0), (Value.int 1 0), (Value.int 0 0), (Value.int 0 0), (Value.int 7 0), (Value.ref 604), (Value.bool true), (Value.int 273 0), (Value.ref 605), Value.none, (Value.ref 606), (Value.ref 607), (Value.ref 608), (Value.int 970 0), (Value.int 433 0), (Value.str (Str.ofString "/claim/cut.py") 971)])), (List.toArray [])⟩) ::
  (nat_lit 610, ⟨(Value.type "function"), none, (Data.func ⟨(Str.ofString "_check_arg_types"), (Str.ofString "_check_arg_types"), fArgs [14], FuncBody.stmts (fBody [14]), fScope [14], 3, [], Value.none, Value.none, Value.none, (Value.str (Str.ofString "os.path") 943), none, (Value.ref 609), Value.none, 0⟩), (List.toArray [])⟩) ::
  (nat_lit 616, ⟨(Value.type "code"), none, (Data.fields (List.toArray [(Value.str (Str.ofString "isabs") 973), (Value.str (Str.ofString "isabs") 974), (Value.str (Str.ofString "/claim/cut.py") 975), (Value.int 438 0), (Value.int 1 0), (Value.int 0 0), (Value.int 0 0), (Value.int 3 0), (Value.ref 611), (Value.bool true), (Value.int 273 0), (Value.ref 612), Value.none, (Value.ref 613), (Value.ref 614), (Value.ref 615), (Value.int 977 0), (Value.int 438 0), (Value.str (Str.ofString "/claim/cut.py") 978)])), (List.toArray [])⟩) ::
  (nat_lit 617, ⟨(Value.type "function"), none, (Data.func ⟨(Str.ofString "isabs"), (Str.ofString "isabs"), fArgs [15], FuncBody.stmts (fBody [15]), fScope [15], 3, [], Value.none, Value.none, Value.none, (Value.str (Str.ofString "os.path") 943), none, (Value.ref 616), Value.none, 0⟩), (List.toArray [])⟩) ::
  (nat_lit 623, ⟨(Value.type "code"), none, (Data.fields (List.toArray [(Value.str (Str.ofString "join") 980), (Value.str (Str.ofString "join") 981), (Value.str (Str.ofString "/claim/cut.py") 982), (Value.int 441 0), (Value.int 1 0), (Value.int 0 0), (Value.int 0 0), (Value.int 7 0), (Value.ref 618), (Value.bool true), (Value.int 273 0), (Value.ref 619), Value.none, (Value.ref 620), (Value.ref 621), (Value.ref 622), (Value.int 988 0), (Value.int 441 0), (Value.str (Str.ofString "/claim/cut.py") 989)])), (List.toArray [])⟩) ::
  (nat_lit 624, ⟨(Value.type "function"), none, (Data.func ⟨(Str.ofString "join"), (Str.ofString "join"), fArgs [16], FuncBody.stmts (fBody [16]), fScope [16], 3, [], Value.none, Value.none, Value.none, (Value.str (Str.ofString "os.path") 943), none, (Value.ref 623), Value.none, 0⟩), (List.toArray [])⟩) ::
  (nat_lit 630, ⟨(Value.type "code"), none, (Data.fields (List.toArray [(Value.str (Str.ofString "dirname") 991), (Value.str (Str.ofString "dirname") 992), (Value.str (Str.ofString "/claim/cut.py") 993), (Value.int 461 0), (Value.int 1 0), (Value.int 0 0), (Value.int 0 0), (Value.int 3 0), (Value.ref 625), (Value.bool true), (Value.int 273 0), (Value.ref 626), Value.none, (Value.ref 627), (Value.ref 628), (Value.ref 629), (Value.int 998 0), (Value.int 461 0), (Value.str (Str.ofString "/claim/cut.py") 999)])), (List.toArray [])⟩) ::
  (nat_lit 631, ⟨(Value.type "function"), none, (Data.func ⟨(Str.ofString "dirname"), (Str.ofString "dirname"), fArgs [17], FuncBody.stmts (fBody [17]), fScope [17], 3, [], Value.none, Value.none, Value.none, (Value.str (Str.ofString "os.path") 943), none, (Value.ref 630), Value.none, 0⟩), (List.toArray [])⟩) ::
  (nat_lit 639, ⟨(Value.type "tuple"), none, (Data.seq (List.toArray [Value.none, Value.none, (Value.bool false), (Value.bool false)]) 0), (List.toArray [])⟩) ::
  (nat_lit 645, ⟨(Value.type "code"), none, (Data.fields (List.toArray [(Value.str (Str.ofString "__init__") 1015), (Value.str (Str.ofString "shlex.__init__") 1016), (Value.str (Str.ofString "/claim/cut.py") 1017), (Value.int 472 0), (Value.int 5 0), (Value.int 0 0), (Value.int 0 0), (Value.int 3 0), (Value.ref 640), (Value.bool true), (Value.int 273 0), (Value.ref 641), Value.none, (Value.ref 642), (Value.ref 643), (Value.ref 644), (Value.int 1024 0), (Value.int 472 0), (Value.str (Str.ofString "/claim/cut.py") 1025)])), (List.toArray [])⟩) ::
  (nat_lit 646, ⟨(Value.type "function"), none, (Data.func ⟨(Str.ofString "__init__"), (Str.ofString "shlex.__init__"), fArgs [19, 0], FuncBody.stmts (fBody [19, 0]), fScope [19, 0], 3, [], (Value.ref 639), Value.none, Value.none, (Value.str (Str.ofString "cpy313.shlex") 1001), none, (Value.ref 645), Value.none, 0⟩), (List.toArray [])⟩) ::
  (nat_lit 652, ⟨(Value.type "code"), none, (Data.fields (List.toArray [(Value.str (Str.ofString "punctuation_chars") 1027), (Value.str (Str.ofString "shlex.punctuation_chars") 1028), (Value.str (Str.ofString "/claim/cut.py") 1029), (Value.int 513 0), (Value.int 1 0), (Value.int 0 0), (Value.int 0 0), (Value.int 3 0), (Value.ref 647), (Value.bool true), (Value.int 273 0), (Value.ref 648), Value.none, (Value.ref 649), (Value.ref 650), (Value.ref 651), (Value.int 1031 0), (Value.int 513 0), (Value.str (Str.ofString "/claim/cut.py") 1032)])), (List.toArray [])⟩) ::
  (nat_lit 653, ⟨(Value.type "function"), none, (Data.func ⟨(Str.ofString "punctuation_chars"), (Str.ofString "shlex.punctuation_chars"), fArgs [19, 1], FuncBody.stmts (fBody [19, 1]), fScope [19, 1], 3, [], Value.none, Value.none, Value.none, (Value.str (Str.ofString "cpy313.shlex") 1001), none, (Value.ref 652), Value.none, 0⟩), (List.toArray [])⟩) ::
  (nat_lit 654, ⟨(Value.type "property"), none, (Data.fields (List.toArray [(Value.ref 653), Value.none, Value.none, Value.none, (Value.str (Str.ofString "punctuation_chars") 1034), (Value.bool false)])), (List.toArray [])⟩) ::
  (nat_lit 660, ⟨(Value.type "code"), none, (Data.fields (List.toArray [(Value.str (Str.ofString "push_token") 1035), (Value.str (Str.ofString "shlex.push_token") 1036), (Value.str (Str.ofString "/claim/cut.py") 1037), (Value.int 517 0), (Value.int 2 0), (Value.int 0 0), (Value.int 0 0), (Value.int 3 0), (Value.ref 655), (Value.bool true), (Value.int 273 0), (Value.ref 656), Value.none, (Value.ref 657), (Value.ref 658), (Value.ref 659), (Value.int 1040 0), (Value.int 517 0), (Value.str (Str.ofString "/claim/cut.py") 1041)])), (List.toArray [])⟩) ::
  (nat_lit 661, ⟨(Value.type "function"), none, (Data.func ⟨(Str.ofString "push_token"), (Str.ofString "shlex.push_token"), fArgs [19, 2], FuncBody.stmts (fBody [19, 2]), fScope [19, 2], 3, [], Value.none, Value.none, Value.none, (Value.str (Str.ofString "cpy313.shlex") 1001), none, (Value.ref 660), Value.none, 0⟩), (List.toArray [])⟩) ::
  (nat_lit 662, ⟨(Value.type "tuple"), none, (Data.seq (List.toArray [Value.none]) 0), (List.toArray [])⟩) ::
  (nat_lit 668, ⟨(Value.type "code"), none, (Data.fields (List.toArray [(Value.str (Str.ofString "push_source") 1043), (Value.str (Str.ofString "shlex.push_source") 1044), (Value.str (Str.ofString "/claim/cut.py") 1045), (Value.int 520 0), (Value.int 3 0), (Value.int 0 0), (Value.int 0 0), (Value.int 3 0), (Value.ref 663), (Value.bool true), (Value.int 273 0), (Value.ref 664), Value.none, (Value.ref 665), (Value.ref 666), (Value.ref 667), (Value.int 1049 0), (Value.int 520 0), (Value.str (Str.ofString "/claim/cut.py") 1050)])), (List.toArray [])⟩) ::
  (nat_lit 669, ⟨(Value.type "function"), none, (Data.func ⟨(Str.ofString "push_source"), (Str.ofString "shlex.push_source"), fArgs [19, 3], FuncBody.stmts (fBody [19, 3]), fScope [19, 3], 3, [], (Value.ref 662), Value.none, Value.none, (Value.str (Str.ofString "cpy313.shlex") 1001), none, (Value.ref 668), Value.none, 0⟩), (List.toArray [])⟩) ::
  (nat_lit 675, ⟨(Value.type "code"), none, (Data.fields (List.toArray [(Value.str (Str.ofString "pop_source") 1052), (Value.str (Str.ofString "shlex.pop_source") 1053), (Value.str (Str.ofString "/claim/cut.py") 1054), (Value.int 533 0), (Value.int 1 0), (Value.int 0 0), (Value.int 0 0), (Value.int 3 0), (Value.ref 670), (Value.bool true), (Value.int 273 0), (Value.ref 671), Value.none, (Value.ref 672), (Value.ref 673), (Value.ref 674), (Value.int 1056 0), (Value.int 533 0), (Value.str (Str.ofString "/claim/cut.py") 1057)])), (List.toArray [])⟩) ::
  (nat_lit 676, ⟨(Value.type "function"), none, (Data.func ⟨(Str.ofString "pop_source"), (Str.ofString "shlex.pop_source"), fArgs [19, 4], FuncBody.stmts (fBody [19, 4]), fScope [19, 4], 3, [], Value.none, Value.none, Value.none, (Value.str (Str.ofString "cpy313.shlex") 1001), none, (Value.ref 675), Value.none, 0⟩), (List.toArray [])⟩) ::
  (nat_lit 682, ⟨(Value.type "code"), none, (Data.fields (List.toArray [(Value.str (Str.ofString "get_token") 1059), (Value.str (Str.ofString "shlex.get_token") 1060), (Value.str (Str.ofString "/claim/cut.py") 1061), (Value.int 540 0), (Value.int 1 0), (Value.int 0 0), (Value.int 0 0), (Value.int 3 0), (Value.ref 677), (Value.bool true), (Value.int 273 0), (Value.ref 678), Value.none, (Value.ref 679), (Value.ref 680), (Value.ref 681), (Value.int 1068 0), (Value.int 540 0), (Value.str (Str.ofString "/claim/cut.py") 1069)])), (List.toArray [])⟩) ::
  (nat_lit 683, ⟨(Value.type "function"), none, (Data.func ⟨(Str.ofString "get_token"), (Str.ofString "shlex.get_token"), fArgs [19, 5], FuncBody.stmts (fBody [19, 5]), fScope [19, 5], 3, [], Value.none, Value.none, Value.none, (Value.str (Str.ofString "cpy313.shlex") 1001), none, (Value.ref 682), Value.none, 0⟩), (List.toArray [])⟩) ::
  (nat_lit 689, ⟨(Value.type "code"), none, (Data.fields (List.toArray [(Value.str (Str.ofString "read_token") 1071), (Value.str (Str.ofString "shlex.read_token") 1072), (Value.str (Str.ofString "/claim/cut.py") 1073), (Value.int 567 0), (Value.int 1 0), (Value.int 0 0), (Value.int 0 0), (Value.int 3 0), (Value.ref 684), (Value.bool true), (Value.int 273 0), (Value.ref 685), Value.none, (Value.ref 686), (Value.ref 687), (Value.ref 688), (Value.int 1079 0), (Value.int 567 0), (Value.str (Str.ofString "/claim/cut.py") 1080)])), (List.toArray [])⟩) ::
  (nat_lit 690, ⟨(Value.type "function"), none, (Data.func ⟨(Str.ofString "read_token"), (Str.ofString "shlex.read_token"), fArgs [19, 6], FuncBody.stmts (fBody [19, 6]), fScope [19, 6], 3, [], Value.none, Value.none, Value.none, (Value.str (Str.ofString "cpy313.shlex") 1001), none, (Value.ref 689), Value.none, 0⟩), (List.toArray [])⟩) ::
  (nat_lit 696, ⟨(Value.type "code"), none, (Data.fields (List.toArray [(Value.str (Str.ofString "sourcehook") 1082), (Value.str (Str.ofString "shlex.sourcehook") 1083), (Value.str (Str.ofString "/claim/cut.py") 1084), (Value.int 704 0), (Value.int 2 0), (Value.int 0 0), (Value.int 0 0), (Value.int 3 0), (Value.ref 691), (Value.bool true), (Value.int 273 0), (Value.ref 692), Value.none, (Value.ref 693), (Value.ref 694), (Value.ref 695), (Value.int 1087 0), (Value.int 704 0), (Value.str (Str.ofString "/claim/cut.py") 1088)])), (List.toArray [])⟩) ::
  (nat_lit 697, ⟨(Value.type "function"), none, (Data.func ⟨(Str.ofString "sourcehook"), (Str.ofString "shlex.sourcehook"), fArgs [19, 7], FuncBody.stmts (fBody [19, 7]), fScope [19, 7], 3, [], Value.none, Value.none, Value.none, (Value.str (Str.ofString "cpy313.shlex") 1001), none, (Value.ref 696), Value.none, 0⟩), (List.toArray [])⟩) ::
  (nat_lit 698, ⟨(Value.type "tuple"), none, (Data.seq (List.toArray [Value.none, Value.none]) 0), (List.toArray [])⟩) ::
  (nat_lit 704, ⟨(Value.type "code"), none, (Data.fields (List.toArray [(Value.str (Str.ofString "error_leader") 1090), (Value.str (Str.ofString "shlex.error_leader") 1091), (Value.str (Str.ofString "/claim/cut.py") 1092), (Value.int 711 0), (Value.int 3 0), (Value.int 0 0), (Value.int 0 0), (Value.int 3 0), (Value.ref 699), (Value.bool true), (Value.int 273 0), (Value.ref 700), Value.none, (Value.ref 701), (Value.ref 702), (Value.ref 703), (Value.int 1096 0), (Value.int 711 0), (Value.str (Str.ofString "/claim/cut.py") 1097)])), (List.toArray [])⟩) ::
  (nat_lit 705, ⟨(Value.type "function"), none, (Data.func ⟨(Str.ofString "error_leader"), (Str.ofString "shlex.error_leader"), fArgs [19, 8], FuncBody.stmts (fBody [19, 8]), fScope [19, 8], 3, [], (Value.ref 698), Value.none, Value.none, (Value.str (Str.ofString "cpy313.shlex") 1001), none, (Value.ref 704), Value.none, 0⟩), (List.toArray [])⟩) ::
  (nat_lit 711, ⟨(Value.type "code"), none, (Data.fields (List.toArray [(Value.str (Str.ofString "__iter__") 1099), (Value.str (Str.ofString "shlex.__iter__") 1100), (Value.str (Str.ofString "/claim/cut.py") 1101), (Value.int 714 0), (Value.int 1 0), (Value.int 0 0), (Value.int 0 0), (Value.int 3 0), (Value.ref 706), (Value.bool true), (Value.int 273 0), (Value.ref 707), Value.none, (Value.ref 708), (Value.ref 709), (Value.ref 710), (Value.int 1103 0), (Value.int 714 0), (Value.str (Str.ofString "/claim/cut.py") 1104)])), (List.toArray [])⟩) ::
  (nat_lit 712, ⟨(Value.type "function"), none, (Data.func ⟨(Str.ofString "__iter__"), (Str.ofString "shlex.__iter__"), fArgs [19, 9], FuncBody.stmts (fBody [19, 9]), fScope [19, 9], 3, [], Value.none, Value.none, Value.none, (Value.str (Str.ofString "cpy313.shlex") 1001), none, (Value.ref 711), Value.none, 0⟩), (List.toArray [])⟩) ::
  (nat_lit 718, ⟨(Value.type "code"), none, (Data.fields (List.toArray [(Value.str (Str.ofString "__next__") 1106), (Value.str (Str.ofString "shlex.__next__") 1107), (Value.str (Str.ofString "/claim/cut.py") 1108), (Value.int 717 0), (Value.int 1 0), (Value.int 0 0), (Value.int 0 0), (Value.int 3 0), (Value.ref 713), (Value.bool true), (Value.int 273 0), (Value.ref 714), Value.none, (Value.ref 715), (Value.ref 716), (Value.ref 717), (Value.int 1111 0), (Value.int 717 0), (Value.str (Str.ofString "/claim/cut.py") 1112)])), (List.toArray [])⟩) ::
  (nat_lit 719, ⟨(Value.type "function"), none, (Data.func ⟨(Str.ofString "__next__"), (Str.ofString "shlex.__next__"), fArgs [19, 10], FuncBody.stmts (fBody [19, 10]), fScope [19, 10], 3, [], Value.none, Value.none, Value.none, (Value.str (Str.ofString "cpy313.shlex") 1001), none, (Value.ref 718), Value.none, 0⟩), (List.toArray [])⟩) ::
  (nat_lit 721, ⟨(Value.type "dict"), none, (Data.dict (List.toArray [⟨PyData.keyHash P (Str.ofString "__module__"), (Value.str (Str.ofString "__module__") 1010), (Value.str (Str.ofString "cpy313.shlex") 1001)⟩, ⟨PyData.keyHash P (Str.ofString "__firstlineno__"), (Value.str (Str.ofString "__firstlineno__") 1014), (Value.int 470 1013)⟩, ⟨PyData.keyHash P (Str.ofString "__init__"), (Value.str (Str.ofString "__init__") 1026), (Value.ref 646)⟩, ⟨PyData.keyHash P (Str.ofString "punctuation_chars"), (Value.str (Str.ofString "punctuation_chars") 1034), (Value.ref 654)⟩, ⟨PyData.keyHash P (Str.ofString "push_token"), (Value.str (Str.ofString "push_token") 1042), (Value.ref 661)⟩, ⟨PyData.keyHash P (Str.ofString "push_source"), (Value.str (Str.ofString "push_source") 1051), (Value.ref 669)⟩, ⟨PyData.keyHash P (Str.ofString "pop_source"), (Value.str (Str.ofString "pop_source") 1058), (Value.ref 676)⟩, ⟨PyData.keyHash P (Str.ofString "get_token"), (Value.str (Str.ofString "get_token") 1070), (Value.ref 683)⟩, ⟨PyData.keyHash P (Str.ofString "read_token"), (Value.str (Str.ofString "read_token") 1081), (Value.ref 690)⟩, ⟨PyData.keyHash P (Str.ofString "sourcehook"), (Value.str (Str.ofString "sourcehook") 1089), (Value.ref 697)⟩, ⟨PyData.keyHash P (Str.ofString "error_leader"), (Value.str (Str.ofString "error_leader") 1098), (Value.ref 705)⟩, ⟨PyData.keyHash P (Str.ofString "__iter__"), (Value.str (Str.ofString "__iter__") 1105), (Value.ref 712)⟩, ⟨PyData.keyHash P (Str.ofString "__next__"), (Value.str (Str.ofString "__next__") 1113), (Value.ref 719)⟩, ⟨PyData.keyHash P (Str.ofString "__static_attributes__"), (Value.str (Str.ofString "__static_attributes__") 1134), (Value.ref 720)⟩, ⟨PyData.keyHash P (Str.ofString "__dict__"), (Value.str (Str.ofString "__dict__") 1136), (Value.ref 723)⟩, ⟨PyData.keyHash P (Str.ofString "__weakref__"), (Value.str (Str.ofString "__weakref__") 1138), (Value.ref 724)⟩, ⟨PyData.keyHash P (Str.ofString "__doc__"), (Value.str (Str.ofString "__doc__") 1139), Value.none⟩]) 4), (List.toArray [])⟩) ::
  (nat_lit 722, ⟨(Value.type "type"), none, (Data.cls ⟨(Str.ofString "shlex"), [(Value.type "object")], [(Value.ref 722), (Value.type "object")], 721, (Str.ofString "shlex"), true, [], [], false, none, false⟩), (List.toArray [none, none, (some (Value.str (Str.ofString "shlex") 1003)), (some (Value.str (Str.ofString "shlex") 1011)), (some (Value.builtin "object.__new__")), (some (Value.bool true))])⟩) ::
  (nat_lit 723, ⟨(Value.type "getset_descriptor"), none, (Data.fields (List.toArray [(Value.str (Str.ofString "__dict__") 1135), (Value.ref 722), (Value.builtin "function.__dict__"), (Value.builtin "function.__dict__#set")])), (List.toArray [])⟩) ::
  (nat_lit 724, ⟨(Value.type "getset_descriptor"), none, (Data.fields (List.toArray [(Value.str (Str.ofString "__weakref__") 1137), (Value.ref 722), (Value.builtin "ExceptionGroup.__weakref__"), Value.none])), (List.toArray [])⟩) ::
  (nat_lit 739, ⟨(Value.type "code"), none, (Data.fields (List.toArray [(Value.str (Str.ofString "__init__") 1156), (Value.str (Str.ofString "_netrclex.__init__") 1157), (Value.str (Str.ofString "/claim/cut.py") 1158), (Value.int 725 0), (Value.int 2 0), (Value.int 0 0), (Value.int 0 0), (Value.int 3 0), (Value.ref 734), (Value.bool true), (Value.int 273 0), (Value.ref 735), Value.none, (Value.ref 736), (Value.ref 737), (Value.ref 738), (Value.int 1161 0), (Value.int 725 0), (Value.str (Str.ofString "/claim/cut.py") 1162)])), (List.toArray [])⟩) ::
  (nat_lit 740, ⟨(Value.type "function"), none, (Data.func ⟨(Str.ofString "__init__"), (Str.ofString "_netrclex.__init__"), fArgs [21, 0], FuncBody.stmts (fBody [21, 0]), fScope [21, 0], 3, [], Value.none, Value.none, Value.none, (Value.str (Str.ofString "cpy313.netrc") 1142), none, (Value.ref 739), Value.none, 0⟩), (List.toArray [])⟩) ::
  (nat_lit 746, ⟨(Value.type "code"), none, (Data.fields (List.toArray [(Value.str (Str.ofString "_read_char") 1164), (Value.str (Str.ofString "_netrclex._read_char") 1165), (Value.str (Str.ofString "/claim/cut.py") 1166), (Value.int 731 0), (Value.int 1 0), (Value.int 0 0), (Value.int 0 0), (Value.int 3 0), (Value.ref 741), (Value.bool true), (Value.int 273 0), (Value.ref 742), Value.none, (Value.ref 743), (Value.ref 744), (Value.ref 745), (Value.int 1169 0), (Value.int 731 0), (Value.str (Str.ofString "/claim/cut.py") 1170)])), (List.toArray [])⟩) ::
  (nat_lit 747, ⟨(Value.type "function"), none, (Data.func ⟨(Str.ofString "_read_char"), (Str.ofString "_netrclex._read_char"), fArgs [21, 1], FuncBody.stmts (fBody [21, 1]), fScope [21, 1], 3, [], Value.none, Value.none, Value.none, (Value.str (Str.ofString "cpy313.netrc") 1142), none, (Value.ref 746), Value.none, 0⟩), (List.toArray [])⟩) ::
  (nat_lit 753, ⟨(Value.type "code"), none, (Data.fields (List.toArray [(Value.str (Str.ofString "get_token") 1172), (Value.str (Str.ofString "_netrclex.get_token") 1173), (Value.str (Str.ofString "/claim/cut.py") 1174), (Value.int 737 0), (Value.int 1 0), (Value.int 0 0), (Value.int 0 0), (Value.int 3 0), (Value.ref 748), (Value.bool true), (Value.int 273 0), (Value.ref 749), Value.none, (Value.ref 750), (Value.ref 751), (Value.ref 752), (Value.int 1179 0), (Value.int 737 0), (Value.str (Str.ofString "/claim/cut.py") 1180)])), (List.toArray [])⟩) ::
  (nat_lit 754, ⟨(Value.type "function"), none, (Data.func ⟨(Str.ofString "get_token"), (Str.ofString "_netrclex.get_token"), fArgs [21, 2], FuncBody.stmts (fBody [21, 2]), fScope [21, 2], 3, [], Value.none, Value.none, Value.none, (Value.str (Str.ofString "cpy313.netrc") 1142), none, (Value.ref 753), Value.none, 0⟩), (List.toArray [])⟩) ::
  (nat_lit 760, ⟨(Value.type "code"), none, (Data.fields (List.toArray [(Value.str (Str.ofString "push_token") 1182), (Value.str (Str.ofString "_netrclex.push_token") 1183), (Value.str (Str.ofString "/claim/cut.py") 1184), (Value.int 764 0), (Value.int 2 0), (Value.int 0 0), (Value.int 0 0), (Value.int 3 0), (Value.ref 755), (Value.bool true), (Value.int 273 0), (Value.ref 756), Value.none, (Value.ref 757), (Value.ref 758), (Value.ref 759), (Value.int 1187 0), (Value.int 764 0), (Value.str (Str.ofString "/claim/cut.py") 1188)])), (List.toArray [])⟩) ::
  (nat_lit 761, ⟨(Value.type "function"), none, (Data.func ⟨(Str.ofString "push_token"), (Str.ofString "_netrclex.push_token"), fArgs [21, 3], FuncBody.stmts (fBody [21, 3]), fScope [21, 3], 3, [], Value.none, Value.none, Value.none, (Value.str (Str.ofString "cpy313.netrc") 1142), none, (Value.ref 760), Value.none, 0⟩), (List.toArray [])⟩) ::
  (nat_lit 763, ⟨(Value.type "dict"), none, (Data.dict (List.toArray [⟨PyData.keyHash P (Str.ofString "__module__"), (Value.str (Str.ofString "__module__") 1151), (Value.str (Str.ofString "cpy313.netrc") 1142)⟩, ⟨PyData.keyHash P (Str.ofString "__firstlineno__"), (Value.str (Str.ofString "__firstlineno__") 1155), (Value.int 723 1154)⟩, ⟨PyData.keyHash P (Str.ofString "__init__"), (Value.str (Str.ofString "__init__") 1163), (Value.ref 740)⟩, ⟨PyData.keyHash P (Str.ofString "_read_char"), (Value.str (Str.ofString "_read_char") 1171), (Value.ref 747)⟩, ⟨PyData.keyHash P (Str.ofString "get_token"), (Value.str (Str.ofString "get_token") 1181), (Value.ref 754)⟩, ⟨PyData.keyHash P (Str.ofString "push_token"), (Value.str (Str.ofString "push_token") 1189), (Value.ref 761)⟩, ⟨PyData.keyHash P (Str.ofString "__static_attributes__"), (Value.str (Str.ofString "__static_attributes__") 1194), (Value.ref 762)⟩, ⟨PyData.keyHash P (Str.ofString "__dict__"), (Value.str (Str.ofString "__dict__") 1196), (Value.ref 765)⟩, ⟨PyData.keyHash P (Str.ofString "__weakref__"), (Value.str (Str.ofString "__weakref__") 1198), (Value.ref 766)⟩, ⟨PyData.keyHash P (Str.ofString "__doc__"), (Value.str (Str.ofString "__doc__") 1199), Value.none⟩]) 4), (List.toArray [])⟩) ::
  (nat_lit 764, ⟨(Value.type "type"), none, (Data.cls ⟨(Str.ofString "_netrclex"), [(Value.type "object")], [(Value.ref 764), (Value.type "object")], 763, (Str.ofString "_netrclex"), true, [], [], false, none, false⟩), (List.toArray [none, none, (some (Value.str (Str.ofString "_netrclex") 1144)), (some (Value.str (Str.ofString "_netrclex") 1152)), (some (Value.builtin "object.__new__")), (some (Value.bool true))])⟩) ::
  (nat_lit 765, ⟨(Value.type "getset_descriptor"), none, (Data.fields (List.toArray [(Value.str (Str.ofString "__dict__") 1195), (Value.ref 764), (Value.builtin "function.__dict__"), (Value.builtin "function.__dict__#set")])), (List.toArray [])⟩) ::
  (nat_lit 766, ⟨(Value.type "getset_descriptor"), none, (Data.fields (List.toArray [(Value.str (Str.ofString "__weakref__") 1197), (Value.ref 764), (Value.builtin "ExceptionGroup.__weakref__"), Value.none])), (List.toArray [])⟩) ::
  (nat_lit 769, ⟨(Value.type "object"), none, Data.plain, (List.toArray [])⟩) ::
  (nat_lit 770, ⟨(Value.type "tuple"), none, (Data.seq (List.toArray [(Value.ref 769)]) 0), (List.toArray [])⟩) ::
  (nat_lit 776, ⟨(Value.type "code"), none, (Data.fields (List.toArray [(Value.str (Str.ofString "reduce") 1205), (Value.str (Str.ofString "reduce") 1206), (Value.str (Str.ofString "/claim/cut.py") 1207), (Value.int 768 0), (Value.int 3 0), (Value.int 0 0), (Value.int 0 0), (Value.int 3 0), (Value.ref 771), (Value.bool true), (Value.int 273 0), (Value.ref 772), Value.none, (Value.ref 773), (Value.ref 774), (Value.ref 775), (Value.int 1214 0), (Value.int 768 0), (Value.str (Str.ofString "/claim/cut.py") 1215)])), (List.toArray [])⟩) ::
  (nat_lit 777, ⟨(Value.type "function"), none, (Data.func ⟨(Str.ofString "reduce"), (Str.ofString "reduce"), fArgs [24], FuncBody.stmts (fBody [24]), fScope [24], 3, [], (Value.ref 770), Value.none, Value.none, (Value.str (Str.ofString "cpy313.functools") 1202), none, (Value.ref 776), Value.none, 0⟩), (List.toArray [])⟩) ::
  (nat_lit 783, ⟨(Value.type "code"), none, (Data.fields (List.toArray [(Value.str (Str.ofString "_law_piece") 1219), (Value.str (Str.ofString "_law_piece") 1220), (Value.str (Str.ofString "/claim/cut.py") 1221), (Value.int 781 0), (Value.int 1 0), (Value.int 0 0), (Value.int 0 0), (Value.int 3 0), (Value.ref 778), (Value.bool true), (Value.int 273 0), (Value.ref 779), Value.none, (Value.ref 780), (Value.ref 781), (Value.ref 782), (Value.int 1223 0), (Value.int 781 0), (Value.str (Str.ofString "/claim/cut.py") 1224)])), (List.toArray [])⟩) ::
  (nat_lit 784, ⟨(Value.type "function"), none, (Data.func ⟨(Str.ofString "_law_piece"), (Str.ofString "_law_piece"), fArgs [26], FuncBody.stmts (fBody [26]), fScope [26], 3, [], Value.none, Value.none, Value.none, (Value.str (Str.ofString "law_om0137_01") 1217), none, (Value.ref 783), Value.none, 0⟩), (List.toArray [])⟩) ::
  (nat_lit 790, ⟨(Value.type "code"), none, (Data.fields (List.toArray [(Value.str (Str.ofString "_law_step") 1226), (Value.str (Str.ofString "_law_step") 1227), (Value.str (Str.ofString "/claim/cut.py") 1228), (Value.int 783 0), (Value.int 2 0), (Value.int 0 0), (Value.int 0 0), (Value.int 3 0), (Value.ref 785), (Value.bool true), (Value.int 273 0), (Value.ref 786), Value.none, (Value.ref 787), (Value.ref 788), (Value.ref 789), (Value.int 1237 0), (Value.int 783 0), (Value.str (Str.ofString "/claim/cut.py") 1238)])), (List.toArray [])⟩) ::
  (nat_lit 791, ⟨(Value.type "function"), none, (Data.func ⟨(Str.ofString "_law_step"), (Str.ofString "_law_step"), fArgs [27], FuncBody.stmts (fBody [27]), fScope [27], 3, [], Value.none, Value.none, Value.none, (Value.str (Str.ofString "law_om0137_01") 1217), none, (Value.ref 790), Value.none, 0⟩), (List.toArray [])⟩) ::
  (nat_lit 797, ⟨(Value.type "code"), none, (Data.fields (List.toArray [(Value.str (Str.ofString "_law_told") 1240), (Value.str (Str.ofString "_law_told") 1241), (Value.str (Str.ofString "/claim/cut.py") 1242), (Value.int 826 0), (Value.int 1 0), (Value.int 0 0), (Value.int 0 0), (Value.int 3 0), (Value.ref 792), (Value.bool true), (Value.int 273 0), (Value.ref 793), Value.none, (Value.ref 794), (Value.ref 795), (Value.ref 796), (Value.int 1248 0), (Value.int 826 0), (Value.str (Str.ofString "/claim/cut.py") 1249)])), (List.toArray [])⟩) ::
  (nat_lit 798, ⟨(Value.type "function"), none, (Data.func ⟨(Str.ofString "_law_told"), (Str.ofString "_law_told"), fArgs [28], FuncBody.stmts (fBody [28]), fScope [28], 3, [], Value.none, Value.none, Value.none, (Value.str (Str.ofString "law_om0137_01") 1217), none, (Value.ref 797), Value.none, 0⟩), (List.toArray [])⟩) ::
  (nat_lit 804, ⟨(Value.type "code"), none, (Data.fields (List.toArray [(Value.str (Str.ofString "_law_fits") 1251), (Value.str (Str.ofString "_law_fits") 1252), (Value.str (Str.ofString "/claim/cut.py") 1253), (Value.int 837 0), (Value.int 1 0), (Value.int 0 0), (Value.int 0 0), (Value.int 3 0), (Value.ref 799), (Value.bool true), (Value.int 273 0), (Value.ref 800), Value.none, (Value.ref 801), (Value.ref 802), (Value.ref 803), (Value.int 1266 0), (Value.int 837 0), (Value.str (Str.ofString "/claim/cut.py") 1267)])), (List.toArray [])⟩) ::
  (nat_lit 805, ⟨(Value.type "function"), none, (Data.func ⟨(Str.ofString "_law_fits"), (Str.ofString "_law_fits"), fArgs [29], FuncBody.stmts (fBody [29]), fScope [29], 3, [], Value.none, Value.none, Value.none, (Value.str (Str.ofString "law_om0137_01") 1217), none, (Value.ref 804), Value.none, 0⟩), (List.toArray [])⟩) ::
  (nat_lit 809, ⟨(Value.type "code"), none, (Data.fields (List.toArray [(Value.str (Str.ofString "law") 1269), (Value.str (Str.ofString "law") 1270), (Value.str (Str.ofString "/claim/cut.py") 1271), (Value.int 858 0), (Value.int 1 0), (Value.int 0 0), (Value.int 0 0), (Value.int 3 0), (Value.ref 806), (Value.bool true), (Value.int 273 0), (Value.ref 807), Value.none, Value.none, Value.none, (Value.ref 808), (Value.int 1272 0), (Value.int 858 0), (Value.str (Str.ofString "/claim/cut.py") 1273)])), (List.toArray [])⟩) ::
  (nat_lit 810, ⟨(Value.type "function"), none, (Data.func ⟨(Str.ofString "law"), (Str.ofString "law"), fArgs [30], FuncBody.stmts (fBody [30]), fScope [30], 3, [], Value.none, Value.none, Value.none, (Value.str (Str.ofString "law_om0137_01") 1217), none, (Value.ref 809), Value.none, 0⟩), (List.toArray [])⟩) :: []
noncomputable def Ks : List Addr := nat_lit 2 :: nat_lit 3 :: nat_lit 38 :: nat_lit 39 :: nat_lit 45 :: nat_lit 46 :: nat_lit 52 :: nat_lit 53 :: nat_lit 62 :: nat_lit 63 :: nat_lit 64 :: nat_lit 79 :: nat_lit 80 :: nat_lit 82 :: nat_lit 83 :: nat_lit 84 :: nat_lit 85 :: nat_lit 86 :: nat_lit 97 :: nat_lit 98 :: nat_lit 109 :: nat_lit 110 :: nat_lit 120 :: nat_lit 126 :: nat_lit 127 :: nat_lit 133 :: nat_lit 134 :: nat_lit 140 :: nat_lit 141 :: nat_lit 147 :: nat_lit 148 :: nat_lit 149 :: nat_lit 155 :: nat_lit 156 :: nat_lit 162 :: nat_lit 163 :: nat_lit 169 :: nat_lit 170 :: nat_lit 176 :: nat_lit 177 :: nat_lit 183 :: nat_lit 184 :: nat_lit 190 :: nat_lit 191 :: nat_lit 197 :: nat_lit 198 :: nat_lit 204 :: nat_lit 205 :: nat_lit 211 :: nat_lit 212 :: nat_lit 218 :: nat_lit 219 :: nat_lit 225 :: nat_lit 226 :: nat_lit 232 :: nat_lit 233 :: nat_lit 239 :: nat_lit 240 :: nat_lit 241 :: nat_lit 247 :: nat_lit 248 :: nat_lit 249 :: nat_lit 255 :: nat_lit 256 :: nat_lit 257 :: nat_lit 263 :: nat_lit 264 :: nat_lit 265 :: nat_lit 271 :: nat_lit 272 :: nat_lit 278 :: nat_lit 279 :: nat_lit 285 :: nat_lit 286 :: nat_lit 287 :: nat_lit 293 :: nat_lit 294 :: nat_lit 295 :: nat_lit 301 :: nat_lit 302 :: nat_lit 308 :: nat_lit 309 :: nat_lit 315 :: nat_lit 316 :: nat_lit 322 :: nat_lit 323 :: nat_lit 329 :: nat_lit 330 :: nat_lit 336 :: nat_lit 337 :: nat_lit 339 :: nat_lit 340 :: nat_lit 350 :: nat_lit 356 :: nat_lit 357 :: nat_lit 363 :: nat_lit 364 :: nat_lit 370 :: nat_lit 371 :: nat_lit 377 :: nat_lit 378 :: nat_lit 384 :: nat_lit 385 :: nat_lit 391 :: nat_lit 392 :: nat_lit 393 :: nat_lit 399 :: nat_lit 400 :: nat_lit 401 :: nat_lit 407 :: nat_lit 408 :: nat_lit 409 :: nat_lit 415 :: nat_lit 416 :: nat_lit 417 :: nat_lit 423 :: nat_lit 424 :: nat_lit 425 :: nat_lit 431 :: nat_lit 432 :: nat_lit 438 :: nat_lit 439 :: nat_lit 445 :: nat_lit 446 :: nat_lit 452 :: nat_lit 453 :: nat_lit 459 :: nat_lit 460 :: nat_lit 466 :: nat_lit 467 :: nat_lit 473 :: nat_lit 474 :: nat_lit 480 :: nat_lit 481 :: nat_lit 487 :: nat_lit 488 :: nat_lit 494 :: nat_lit 495 :: nat_lit 501 :: nat_lit 502 :: nat_lit 508 :: nat_lit 509 :: nat_lit 510 :: nat_lit 516 :: nat_lit 517 :: nat_lit 518 :: nat_lit 524 :: nat_lit 525 :: nat_lit 526 :: nat_lit 532 :: nat_lit 533 :: nat_lit 534 :: nat_lit 540 :: nat_lit 541 :: nat_lit 542 :: nat_lit 548 :: nat_lit 549 :: nat_lit 555 :: nat_lit 556 :: nat_lit 562 :: nat_lit 563 :: nat_lit 569 :: nat_lit 570 :: nat_lit 576 :: nat_lit 577 :: nat_lit 583 :: nat_lit 584 :: nat_lit 586 :: nat_lit 587 :: nat_lit 595 :: nat_lit 596 :: nat_lit 602 :: nat_lit 603 :: nat_lit 609 :: nat_lit 610 :: nat_lit 616 :: nat_lit 617 :: nat_lit 623 :: nat_lit 624 :: nat_lit 630 :: nat_lit 631 :: nat_lit 639 :: nat_lit 645 :: nat_lit 646 :: nat_lit 652 :: nat_lit 653 :: nat_lit 654 :: nat_lit 660 :: nat_lit 661 :: nat_lit 662 :: nat_lit 668 :: nat_lit 669 :: nat_lit 675 :: nat_lit 676 :: nat_lit 682 :: nat_lit 683 :: nat_lit 689 :: nat_lit 690 :: nat_lit 696 :: nat_lit 697 :: nat_lit 698 :: nat_lit 704 :: nat_lit 705 :: nat_lit 711 :: nat_lit 712 :: nat_lit 718 :: nat_lit 719 :: nat_lit 721 :: nat_lit 722 :: nat_lit 723 :: nat_lit 724 :: nat_lit 739 :: nat_lit 740 :: nat_lit 746 :: nat_lit 747 :: nat_lit 753 :: nat_lit 754 :: nat_lit 760 :: nat_lit 761 :: nat_lit 763 :: nat_lit 764 :: nat_lit 765 :: nat_lit 766 :: nat_lit 769 :: nat_lit 770 :: nat_lit 776 :: nat_lit 777 :: nat_lit 783 :: nat_lit 784 :: nat_lit 790 :: nat_lit 791 :: nat_lit 797 :: nat_lit 798 :: nat_lit 804 :: nat_lit 805 :: nat_lit 809 :: nat_lit 810 :: []
end Mine
end

section
open PySem PySem.W PyProof.Rows
set_option Elab.async false
set_option maxRecDepth 100000
set_option maxHeartbeats 0
namespace Mine
theorem said_Q : Fast.tw9446332074065402090 PySem.Challenge.rw_om0137_01 = true := by decide +kernel
theorem said_01 : OpenLaw.wellSaid PySem.Challenge.rw_om0137_01 = true := by rw [Fast.te9446332074065402090]; exact said_Q
theorem ks_K (P : Params) : Ks = (hd.heap_39 P).map (·.1) := rfl
noncomputable def hook : Hook := kHook hd.heap_39 Ks ks_K
theorem top_A (w : World) : (onceQ pr w 10700).map (fun x => ((staticsOk (importedModules pr.main.body) x.1.heap x.2.heap && namesBound pr x.2.heap && gensDone x.2 && laidKept x.1.heap x.2.heap), Fast.tw4187177175401517315 hd.view_39 loose1 (importedModules pr.main.body) (fun s => xlAt hd.view_39 [] s && recOk PySem.Challenge.rw_om0137_01.row.toRowW.records s) true x.2)) = some (true, openGood hd.view_39 loose1) := by
  kernel_rfl!
theorem top_B (w : World) : (onceQ pr w 10700).map (fun x => hook.obs x.2) = some (hook.val w) := by
  kernel_rfl!
theorem left1 : LeftO pr hd.view_39 loose1 (fun s => xlAt hd.view_39 [] s && recOk PySem.Challenge.rw_om0137_01.row.toRowW.records s) hook.obs hook.val 10700 true := left_once top_A top_B
end Mine
end

section
open PySem PySem.W PyProof.Rows PySem.Calls
set_option Elab.async false
set_option maxRecDepth 100000
set_option maxHeartbeats 8000000
namespace Mine
theorem wpAny_gen {α : Type} {M : Model} {A : Around} {c : Sem α} {Q : α → Shared → Prop} {E : Value → Shared → Prop} {s : Shared} (h : ∀ Q' E', Q' = Q → E' = E → wpAny M A c Q' E' s) : wpAny M A c Q E s := h Q E rfl rfl
theorem codeAny_genR {M : Model} {A : Around} {c : Code} {R : Result → Shared → Prop} {s : Shared} (h : ∀ R', R' = R → codeAny M A c R' s) : codeAny M A c R s := h R rfl
theorem tok_norm {α : Type} {M : Model} {A : Around} {c : Sem α} {Q : α → Shared → Prop} {E : Value → Shared → Prop} (s0 : Shared) {h : Heap} {t : Nat} (H : ∀ tk, wpAny M A c Q E { s0 with heap := h, toks := tk }) : wpAny M A c Q E { s0 with heap := h, toks := t } := H t
noncomputable abbrev lo : List Str := looseW hd.view_39
      [Str.ofString "UnsupportedOperation", Str.ofString "IOBase", Str.ofString "BufferedIOBase",
        Str.ofString "TextIOBase", Str.ofString "BytesIO", Str.ofString "StringIO", Str.ofString "shlex",
        Str.ofString "_initial_missing", Str.ofString "reduce"]
/-- what stands below a call: the frames, the written part, the top -/
structure Gd (w : World) (A : Around) (base : Heap) (fr : List Env) (mean : ExcName → Option Value) (mg mb : Str → Option Value) (g : Heap) : Prop where
  B : Below A base fr g
  X : (hd.heap_39 w.params).In g
  T : Top hd.view_39 lo mean mg mb g
noncomputable def Sub (g h : Heap) (sub : List (Addr × Obj)) : Prop := ∀ p ∈ sub, h.get? p.1 = some p.2 ∧ g.get? p.1 = none
structure Ke (g h : Heap) : Prop where
  keep : ∀ b o, g.get? b = some o → h.get? b = some o
  size : g.objs.size ≤ h.objs.size
theorem Ke.of_fr {g h : Heap} {L : Addr} {m : Str → Option Value} (F : Fr g L h m) : Ke g h := by
  obtain ⟨oL, _, _, hL, _⟩ := F.ns
  exact ⟨F.keep, Nat.le_trans F.above (Nat.le_of_lt (Heap.lt_size hL))⟩
theorem Sub.of_news {g h : Heap} {L : Addr} {sub : List (Addr × Obj)} (N : News g L h sub) : Sub g h sub := fun p hp => ⟨(N p hp).1, (N p hp).2.2⟩

section
variable {w : World} {A₀ A : Around} {s : Shared} {base h₀ g : Heap} {outer fr : List Env} {L : Addr} {m mg mb : Str → Option Value} {mean : ExcName → Option Value} {env : Env} {sub : List (Addr × Obj)}
  {R : Result → Shared → Prop} {name qual : Str} {q1 q2 : List Arg} {q3 q6 : Option Arg} {q4 : List Arg} {q5 : List (Option Expr)} {q7 : List Expr} {b : Stmt} {body : List Stmt} {sk : ScopeKind} {sn : List (Str × NameKind)} {sg sc : Bool} {sm : List (Str × Const)} {dV kV doc pm cdv ct oc : Value} {an od : Option Addr} {osl : Array (Option Value)} {f : Addr} {args : Args} {binds : List (Str × Value)}

/-- a call of a def, entered with a part of the ledger -/
theorem enterG (G : Gd w A base fr mean mg mb g) (N : Sub g s.heap sub) (kg : Ke g s.heap)
    (ho : (hd.heap_39 w.params).lookup f = some ⟨oc, od, .func (fnOf name qual (Arguments.mk q1 q2 q3 q4 q5 q6 q7) (b :: body) (Scope.mk sk sn sg sc sm) dV kV doc pm an cdv ct), osl⟩) (hcd : codeIn (hd.heap_39 w.params) cdv qual = true) (hroom : A.depth < recursionLimit)
    (hbind : BindsTo s (fnOf name qual (Arguments.mk q1 q2 q3 q4 q5 q6 q7) (b :: body) (Scope.mk sk sn sg sc sm) dV kV doc pm an cdv ct) args binds) (hloc : (binds.all fun y => decide ((Scope.mk sk sn sg sc sm).names.lookup y.1 = some .local)) = true)
    (h : ∀ L' h₁, Fr g L' h₁ (fun y => binds.reverse.lookup y) → News g L' h₁ sub → (∀ p ∈ sub, p.1 < L') →
      wpAny (model PySem.Challenge.rw_om0137_01.row.prog w) (A.deeper (envOf qual (Scope.mk sk sn sg sc sm) L' f cdv)) (execs (b :: body) (envOf qual (Scope.mk sk sn sg sc sm) L' f cdv))
        (fun fl s' => R (.ok (.ret (match fl with | .ret v => v | _ => .none))) s')
        (fun e s' => wpAny (model PySem.Challenge.rw_om0137_01.row.prog w) (A.deeper (envOf qual (Scope.mk sk sn sg sc sm) L' f cdv)) (leaving (envOf qual (Scope.mk sk sn sg sc sm) L' f cdv) e) (fun _ s'' => R (.error e) s'') (fun e' s'' => R (.error e') s'') s')
        { s with heap := h₁, toks := s.toks + binds.length })
    (hcell : ∀ x ∈ (Scope.mk sk sn sg sc sm).names, x.2 ≠ .cell) (hco : (Scope.mk sk sn sg sc sm).isCoroutine = false) (hgen : (Scope.mk sk sn sg sc sm).isGenerator = false) (hk : (Scope.mk sk sn sg sc sm).kind = .function) :
    codeAny (model PySem.Challenge.rw_om0137_01.row.prog w) A (.call (.ref f) args) R s := by
  have X := G.X.keeps kg.keep
  refine codeAny_call_def (fd := fnOf name qual (Arguments.mk q1 q2 q3 q4 q5 q6 q7) (b :: body) (Scope.mk sk sn sg sc sm) dV kV doc pm an cdv ct) (body := b :: body) (binds := binds) hroom (X _ _ ho) rfl (G.T.nolimit.keeps kg.keep) (codeRec_of X hcd) rfl hbind hcell (locs hloc) (fun h₁ hns hk₁ => ?_) hco hgen hk
  exact h s.heap.objs.size h₁ ⟨hns, fun b o e => hk₁ b o (kg.keep b o e), kg.size⟩
    (fun p hp => ⟨hk₁ _ _ (N p hp).1, Nat.ne_of_lt (Heap.lt_size (N p hp).1), (N p hp).2⟩) (fun p hp => Heap.lt_size (N p hp).1)

theorem pushY (B : Below A₀ base outer h₀) (F : Fr h₀ L s.heap m) (N : News h₀ L s.heap sub) (hA : A.frames = some (env :: outer)) (hf : env.frame = some L) (hke : env.scope.kind = .function)
    (X : (hd.heap_39 w.params).In h₀) (T : Top hd.view_39 lo mean mg mb h₀) : Gd w A base (env :: outer) mean mg mb (hideAll s.heap (sub.map (·.1))) ∧ Sub (hideAll s.heap (sub.map (·.1))) s.heap sub ∧ Ke (hideAll s.heap (sub.map (·.1))) s.heap ∧
      (∀ rest, News h₀ L s.heap rest → (∀ p ∈ rest, p.1 ∉ sub.map (·.1)) → ∀ h' sub', Ke (hideAll s.heap (sub.map (·.1))) h' → Sub (hideAll s.heap (sub.map (·.1))) h' sub' → Fr h₀ L h' m ∧ News h₀ L h' (sub' ++ rest)) := by
  obtain ⟨FG, BG, st, _⟩ := groundX (R := fun _ _ => True) B F N hA hf hke
  refine ⟨⟨BG, X.keeps st, T.keeps st⟩, fun p hp => ⟨(N p hp).1, hideAll_none _ (List.mem_map_of_mem hp)⟩, ⟨fun b o e => of_hideAll _ e, Nat.le_of_eq (hideAll_size _ _)⟩, ?_⟩
  intro rest NR hr h' sub' k' S'
  refine ⟨⟨FG.ns.keeps k'.keep, fun b o e => k'.keep b o (st b o e), F.above⟩, ?_⟩
  intro p hp
  rcases List.mem_append.mp hp with hp | hp
  · refine ⟨(S' p hp).1, fun q => ?_, ?_⟩
    · obtain ⟨oL, _, _, hL, _⟩ := FG.ns
      have := (S' p hp).2
      rw [q, hL] at this; cases this
    · cases q : h₀.get? p.1 with
      | none => rfl
      | some o => have := (S' p hp).2; rw [st _ _ q] at this; cases this
  · exact ⟨k'.keep _ _ (hideAll_get _ (NR p hp).1 (hr p hp)), (NR p hp).2.1, (NR p hp).2.2⟩
end
end Mine
end

section
open PySem PySem.W PyProof.Rows PySem.Calls
set_option Elab.async false
set_option maxRecDepth 100000
set_option maxHeartbeats 8000000
namespace Mine

theorem slice_one {buf : Str} {p : Nat} {j : Int} {c : Nat} {r : List Nat} (h : buf.cps.toList.drop p = c :: r) (hj : j = (p : Int) + 1) : Txt.slice buf (some (p : Int)) (some j) = ⟨#[c]⟩ := by
  have hl : p < buf.cps.toList.length := by
    have := congrArg List.length h
    rw [List.length_drop, List.length_cons] at this; omega
  have q := eq_of_beq (slice_closes (x := buf) (i := (p : Int)) (j := j) ⟨by omega, by omega, by omega⟩)
  rw [q, hj]
  have e1 : ((p : Int)).toNat = p := by omega
  have e2 : ((p : Int) + 1 - (p : Int)).toNat = 1 := by omega
  rw [e1, e2, h]; rfl
theorem drop_some {buf : Str} {p : Nat} (h : ¬ ((buf.length : Int) ≤ (p : Int))) : ∃ c r, buf.cps.toList.drop p = c :: r := by
  cases q : buf.cps.toList.drop p with
  | cons c r => exact ⟨c, r, rfl⟩
  | nil =>
    have := congrArg List.length q
    rw [List.length_drop, List.length_nil] at this
    have e : buf.length = buf.cps.toList.length := by simp [Str.length]
    omega
theorem drop_none {buf : Str} {p : Nat} (h : (buf.length : Int) ≤ (p : Int)) : buf.cps.toList.drop p = [] := by
  apply List.drop_eq_nil_of_le
  have e : buf.length = buf.cps.toList.length := by simp [Str.length]
  omega

noncomputable abbrev ioDict (h1 h2 h3 : Int) (t1 t2 t3 t4 t5 t6 : Nat) (buf : Str) (p : Int) : Obj := dictOf [⟨h1, .str "_StringIO__newline" t1, .str "\n" t2⟩, ⟨h2, .str "_StringIO__buf" t3, .str buf t4⟩, ⟨h3, .str "_StringIO__pos" t5, .int p t6⟩] 3

theorem read1 (w : World) {s : Shared} {A : Around} {base g : Heap} {fr : List Env} {mg mb : Str → Option Value} {mean : ExcName → Option Value} {io dio : Addr} {buf : Str} {p t1 t2 t3 t4 t5 t6 tk : Nat} {h1 h2 h3 : Int} {R : Result → Shared → Prop}
    (G : Gd w A base fr mean mg mb g) (hroom : A.depth + 4 < recursionLimit) (k : Ke g s.heap)
    (S : Sub g s.heap [(io, instObj 587 dio), (dio, ioDict h1 h2 h3 t1 t2 t3 t4 t5 t6 buf p)])
    (hne : io ≠ dio) (hp : p ≤ 1000) (hb : buf.length ≤ 1000)
    (hN : buf.cps.toList.drop p = [] → ∀ h' tk t', Ke g h' → Sub g h' [(io, instObj 587 dio), (dio, ioDict h1 h2 h3 t1 t2 t3 t4 t5 t6 buf p)] → R (.ok (.ret (.str (Str.ofString "") t'))) { s with heap := h', toks := tk })
    (hC : ∀ c r, buf.cps.toList.drop p = c :: r → ∀ h' tk t' t6', Ke g h' → Sub g h' [(io, instObj 587 dio), (dio, ioDict h1 h2 h3 t1 t2 t3 t4 t5 t6' buf ((p : Int) + 1))] → R (.ok (.ret (.str ⟨#[c]⟩ t'))) { s with heap := h', toks := tk }) :
    codeAny (model PySem.Challenge.rw_om0137_01.row.prog w) A (.call (.ref 533) ⟨[.ref io, .int 1 tk], []⟩) R s := by
  have X := G.X
  have hA := G.B.stack
  revert X
  k_fill
  intro X
  refine enterG (binds := [("self", .ref io), ("size", .int 1 tk)]) G S k (by k_is) (by k_is) (by omega) (binds_K (Frag.In.keeps X k.keep) rfl (by k_is) rfl rfl rfl) rfl ?_ (by decide) rfl rfl rfl
  intro L' h₁ F' N' hlt
  have B' := G.B
  have T' := G.T
  clear G S
  k_lt hlt
  (w_on; repeat' (first | (k_unfold; (try dsimp only)) | ((with_reducible show wpAny _ _ (call (Value.ref _) _ _) _ _ _); k_here; k_dflt (refine wpAny_call ?_; (refine' code_def ?k1 ?k2 ?k3 ?k4 ?k5 ?kA ?kF ?kK ?k6 ?k7 ?k8 ?k9 ?kB ?_ ?c2 ?c3 ?c4 ?c5; (case kA => first | exact Around.frames_deeper (by assumption) | exact Around.frames_deeper (Around.frames_deeper (by assumption)) | exact Around.frames_deeper (Around.frames_deeper (Around.frames_deeper (by assumption)))); (case kF => exact rfl); (case kK => exact rfl); (case k1 => k_asm); (case k2 => k_asm); (case k3 => k_asm); (case k4 => k_asm); (case k5 => k_asm); (case k6 => k_is); (case k7 => k_is); (case k8 => ((simp only [depth_under_make, depth_under_kw, depth_in1, depth_deeper]); (simp only [recursionLimit] at *); omega)); (case k9 => first | exact BindsTo.of_eq rfl | exact binds_K (by k_in) rfl (by k_is) rfl rfl rfl); (case c5 => decide); (case kB => exact locs rfl); (case c2 => exact rfl); (case c3 => exact rfl); (case c4 => exact rfl); k_whole; intro g' L' h' FG' F' N' B' X' T'; (try dsimp only); (try k_lift B'); (try k_fold)))) | walk1 | (dsimp only; (first | ((with_reducible show wpAny _ _ (call (Value.ref _) _ _) _ _ _); k_here; k_dflt (refine wpAny_call ?_; (refine' code_def ?k1 ?k2 ?k3 ?k4 ?k5 ?kA ?kF ?kK ?k6 ?k7 ?k8 ?k9 ?kB ?_ ?c2 ?c3 ?c4 ?c5; (case kA => first | exact Around.frames_deeper (by assumption) | exact Around.frames_deeper (Around.frames_deeper (by assumption)) | exact Around.frames_deeper (Around.frames_deeper (Around.frames_deeper (by assumption)))); (case kF => exact rfl); (case kK => exact rfl); (case k1 => k_asm); (case k2 => k_asm); (case k3 => k_asm); (case k4 => k_asm); (case k5 => k_asm); (case k6 => k_is); (case k7 => k_is); (case k8 => ((simp only [depth_under_make, depth_under_kw, depth_in1, depth_deeper]); (simp only [recursionLimit] at *); omega)); (case k9 => first | exact BindsTo.of_eq rfl | exact binds_K (by k_in) rfl (by k_is) rfl rfl rfl); (case c5 => decide); (case kB => exact locs rfl); (case c2 => exact rfl); (case c3 => exact rfl); (case c4 => exact rfl); k_whole; intro g' L' h' FG' F' N' B' X' T'; (try dsimp only); (try k_lift B'); (try k_fold)))) | walk1))))
  all_goals (try dsimp only)
  all_goals first
    | exact hN (drop_none (by omega)) _ _ _ (Ke.of_fr (by assumption)) (Sub.of_news (by assumption))
    | (obtain ⟨c, r, hq⟩ := drop_some (buf := buf) (p := p) (by omega)
       have hl : p + 1 ≤ buf.length := by omega
       rw [slice_one hq (by omega)]
       exact hC c r hq _ _ _ _ (Ke.of_fr (by assumption)) (Sub.of_news (by assumption)))
    | (obtain ⟨c, r, hq⟩ := drop_some (buf := buf) (p := p) (by omega)
       have hl : (buf.length : Int) = (p : Int) + 1 := by omega
       rw [slice_one hq (by omega)]
       (rename News _ _ _ _ => hNw)
       have hS := Sub.of_news hNw
       rw [hl] at hS
       exact hC c r hq _ _ _ _ (Ke.of_fr (by assumption)) hS)
end Mine
end

section
open PySem PySem.W PyProof.Rows PySem.Calls
set_option Elab.async false
set_option maxRecDepth 100000
set_option maxHeartbeats 8000000
namespace Mine

section
variable {w : World} {A₀ A : Around} {s : Shared} {base h₀ : Heap} {outer : List Env} {L : Addr} {m mg mb : Str → Option Value} {mean : ExcName → Option Value} {env : Env} {rest : List (Addr × Obj)}
  {E : Value → Shared → Prop} {Q : Value → Shared → Prop} {io dio : Addr} {buf : Str} {p t1 t2 t3 t4 t5 t6 tk : Nat} {h1 h2 h3 : Int}
/-- read(1) within a frame -/
theorem read_K (B : Below A₀ base outer h₀) (F : Fr h₀ L s.heap m) (X : (hd.heap_39 w.params).In h₀) (T : Top hd.view_39 lo mean mg mb h₀)
    (N : News h₀ L s.heap ((io, instObj 587 dio) :: (dio, ioDict h1 h2 h3 t1 t2 t3 t4 t5 t6 buf p) :: rest))
    (hA : A.frames = some (env :: outer)) (hf : env.frame = some L) (hke : env.scope.kind = .function) (hroom : A.depth + 4 < recursionLimit)
    (hne : io ≠ dio) (hr : ∀ p ∈ rest, p.1 ≠ io) (hr2 : ∀ p ∈ rest, p.1 ≠ dio) (hp : p ≤ 1000) (hb : buf.length ≤ 1000)
    (hN : buf.cps.toList.drop p = [] → ∀ h' tk t', Fr h₀ L h' m → News h₀ L h' ((io, instObj 587 dio) :: (dio, ioDict h1 h2 h3 t1 t2 t3 t4 t5 t6 buf p) :: rest) → Q (.str (Str.ofString "") t') { s with heap := h', toks := tk })
    (hC : ∀ c r, buf.cps.toList.drop p = c :: r → ∀ h' tk t' t6', Fr h₀ L h' m → News h₀ L h' ((io, instObj 587 dio) :: (dio, ioDict h1 h2 h3 t1 t2 t3 t4 t5 t6' buf ((p : Int) + 1)) :: rest) → Q (.str ⟨#[c]⟩ t') { s with heap := h', toks := tk }) :
    wpAny (model PySem.Challenge.rw_om0137_01.row.prog w) A (call (.ref 533) [.ref io, .int 1 tk] []) Q E s := by
  have NS : News h₀ L s.heap [(io, instObj 587 dio), (dio, ioDict h1 h2 h3 t1 t2 t3 t4 t5 t6 buf p)] := fun q hq => N q (by
    rcases List.mem_cons.mp hq with rfl | hq
    · exact .head _
    · rcases List.mem_cons.mp hq with rfl | hq
      · exact .tail _ (.head _)
      · cases hq)
  have NR : News h₀ L s.heap rest := fun q hq => N q (.tail _ (.tail _ hq))
  obtain ⟨G, S, k, back⟩ := pushY B F NS hA hf hke X T
  have hd : ∀ q ∈ rest, q.1 ∉ List.map (fun x : Addr × Obj => x.1) [(io, instObj 587 dio), (dio, ioDict h1 h2 h3 t1 t2 t3 t4 t5 t6 buf p)] := fun q hq hm => by
    simp only [List.map_cons, List.map_nil, List.mem_cons, List.not_mem_nil, or_false] at hm
    rcases hm with e | e
    · exact hr q hq e
    · exact hr2 q hq e
  refine wpAny_call (read1 w G hroom k S hne hp hb (fun e h' tk t' k' S' => ?_) fun c r e h' tk t' t6' k' S' => ?_)
  · obtain ⟨F', N'⟩ := back rest NR hd h' _ k' S'
    exact hN e h' tk t' F' N'
  · obtain ⟨F', N'⟩ := back rest NR hd h' _ k' S'
    exact hC c r e h' tk t' t6' F' N'
end
end Mine
end

section
open PySem PySem.W PyProof.Rows PySem.Calls
set_option Elab.async false
set_option maxRecDepth 100000
set_option maxHeartbeats 4000000
namespace Mine
/-- a value, as a small evaluator sees it -/
inductive V where
  | none
  | bool (b : Bool)
  | str (x : List Nat)
  | acc (ne : Bool) (l : List Nat)
  | row (d : Nat)
  | int (i : Int)
  | whites (c : Nat) (b : Bool)
  | obj (k : Nat)
  deriving DecidableEq
inductive Fl where
  | next | brk | cont | ret (v : V) | exc
  deriving DecidableEq
/-- the state of the small evaluator -/
structure MS where
  pc : Bool
  ls : List Str
  loc : List (Str × V)
  fld : List (Str × V)
noncomputable abbrev sL (x : Str) : List Nat := x.cps.toList
noncomputable def eqS (x y : Str) : Bool := sL x == sL y
noncomputable def lookS (x : Str) : List (Str × V) → Option V
  | [] => none
  | (y, v) :: r => if eqS y x then some v else lookS x r
noncomputable def setS (x : Str) (v : V) : List (Str × V) → List (Str × V)
  | [] => []
  | (y, u) :: r => if eqS y x then (y, v) :: r else (y, u) :: setS x v r
noncomputable def truth : V → Option Bool
  | .none => some false
  | .bool b => some b
  | .str x => if x.length ≤ 50 then some (!x.isEmpty) else none
  | .acc ne l => if l.length ≤ 100 then some (ne || !l.isEmpty) else none
  | .int i => some (i != 0)
  | _ => none
noncomputable def getStr : V → Option (List Nat)
  | .str x => some x
  | _ => none
noncomputable def getInt : V → Option Int
  | .int i => some i
  | _ => none
noncomputable def isN : V → Bool
  | .none => true
  | _ => false
noncomputable def getOne : List Nat → Option Nat
  | [c] => some c
  | _ => none
noncomputable def cEq (a b : V) : Option Bool := match a with
  | .str x => (getStr b).map fun y => x == y
  | .acc ne l => if isN b then some false else (getStr b).bind fun y => if y.isEmpty then some (!(ne || !l.isEmpty)) else none
  | .none => if isN b then some true else none
  | _ => none
noncomputable def cIn (y : List Nat) (b : V) : Option Bool := match b with
  | .str x => (getOne y).map fun c => x.contains c
  | .whites c w => if y == [c] then some w else none
  | _ => none
noncomputable def cmp (op : CmpOp) (a b : V) : Option Bool := match op with
  | .Eq => cEq a b
  | .NotEq => (getStr a).bind fun x => (getStr b).map fun y => !(x == y)
  | .Is => if isN b then (if isN a then some true else (getStr a).map fun _ => false) else none
  | .IsNot => if isN b && isN a then some false else none
  | .GtE => (getInt a).bind fun x => (getInt b).map fun y => decide (y ≤ x)
  | .Gt => (getInt a).bind fun x => (getInt b).map fun y => decide (y < x)
  | .In => (getStr a).bind fun y => cIn y b
  | .NotIn => (getStr a).bind fun y => (getStr b).bind fun x => (getOne y).map fun c => !x.contains c
  | _ => none
theorem getStr_elim {v : V} {x : List Nat} (h : getStr v = some x) : v = .str x := by
  unfold getStr at h
  split at h
  · rw [Option.some.inj h]
  · cases h
theorem getInt_elim {v : V} {i : Int} (h : getInt v = some i) : v = .int i := by
  unfold getInt at h
  split at h
  · rw [Option.some.inj h]
  · cases h
theorem isN_elim {v : V} (h : isN v = true) : v = .none := by
  unfold isN at h
  split at h
  · rfl
  · cases h
theorem getOne_elim {l : List Nat} {c : Nat} (h : getOne l = some c) : l = [c] := by
  unfold getOne at h
  split at h
  · rw [Option.some.inj h]
  · cases h
noncomputable def plus : V → V → Option V
  | .acc ne l, .str y => if l.length ≤ 50 && y.length ≤ 50 then some (.acc ne (l ++ y)) else none
  | .str x, .str y => if x.length ≤ 50 && y.length ≤ 50 then some (.str (x ++ y)) else none
  | .row d, .int i => if i == 1 then some (.row (d + 1)) else none
  | _, _ => none
noncomputable def evE (μ : MS) : Expr → Option V
  | .Name x _ => if μ.ls.any (eqS x) then lookS x μ.loc else none
  | .Constant (.str x) _ _ => some (.str (sL x))
  | .Constant (.int i) _ _ => some (.int i)
  | .Constant .none _ _ => some .none
  | .Constant (.bool b) _ _ => some (.bool b)
  | .Attribute (.Name o _) f _ => if eqS o "self" then (if eqS f "punctuation_chars" then (if μ.pc = true ∧ lookS "_punctuation_chars" μ.fld = some (.str []) then some (.str []) else none) else lookS f μ.fld) else none
  | _ => none
noncomputable def strC : Expr → Option Str
  | .Constant c _ _ => match c with
    | .str x => some x
    | _ => none
  | _ => none
noncomputable def strsOf : List Expr → Option (List Str)
  | [] => some []
  | e :: r => (strC e).bind fun x => (strsOf r).map (x :: ·)
noncomputable def isTup : Expr → Option (List Expr)
  | .Tuple es _ _ => some es
  | _ => none
noncomputable def evC (μ : MS) (l : Expr) (op : CmpOp) (r : Expr) : Option Bool := match isTup r with
  | some es => if op = .In then (match evE μ l with
    | some (.str y) => (strsOf es).bind fun ys => if ys.length ≤ 100 then some (ys.any fun x => sL x == y) else none
    | _ => none) else none
  | none => (evE μ l).bind fun a => (evE μ r).bind fun b => cmp op a b
noncomputable def evT : Nat → MS → Expr → Option Bool
  | 0, _, _ => none
  | n + 1, μ, e => match e with
    | .Compare l ops rs _ => match ops with
      | [op] => match rs with
        | [r] => evC μ l op r
        | _ => none
      | _ => none
    | .BoolOp op xs p => match xs with
      | [] => some (op == .And)
      | x :: r => (evT n μ x).bind fun b => if b == (op == .And) then evT n μ (.BoolOp op r p) else some b
    | .UnaryOp op x _ => if op = .Not then (evT n μ x).map (!·) else none
    | .Name x p => (evE μ (.Name x p)).bind truth
    | .Attribute o f p => (evE μ (.Attribute o f p)).bind truth
    | _ => none
noncomputable def isSelf : Expr → Bool
  | .Name o _ => eqS o "self"
  | _ => false
noncomputable def okF (μ : MS) (o : Expr) (f : Str) : Bool := isSelf o && !eqS f "punctuation_chars" && (lookS f μ.fld).isSome
noncomputable def isVE : Expr → Bool
  | .Call (.Name x _) [.Constant (.str _) _ _] [] _ => eqS x "ValueError"
  | _ => false
noncomputable def exA (μ : MS) : Stmt → Option (Fl × MS)
  | .Assign ts e _ => match ts with
    | [.Name x _] => if μ.ls.any (eqS x) then (evE μ e).map fun v => (.next, { μ with loc := (x, v) :: μ.loc }) else none
    | [.Attribute o f _] => if okF μ o f then (evE μ e).map fun v => (.next, { μ with fld := setS f v μ.fld }) else none
    | _ => none
  | .AugAssign t op e _ => if op = .Add then (match t with
    | .Attribute o f _ => if okF μ o f then (lookS f μ.fld).bind fun u => (evE μ e).bind fun v => (plus u v).map fun z => (.next, { μ with fld := setS f z μ.fld }) else none
    | .Name x _ => if μ.ls.any (eqS x) then (lookS x μ.loc).bind fun u => (evE μ e).bind fun v => (plus u v).map fun z => (.next, { μ with loc := (x, z) :: μ.loc }) else none
    | _ => none) else none
  | .Break _ => some (.brk, μ)
  | .Continue _ => some (.cont, μ)
  | .Return v _ => v.bind fun e => (evE μ e).map fun v => (.ret v, μ)
  | .Raise x c _ => match c with
    | none => x.bind fun e => if isVE e && μ.pc then some (.exc, μ) else none
    | some _ => none
  | _ => none
noncomputable def exS : Nat → MS → List Stmt → Option (Fl × MS)
  | 0, _, _ => none
  | n + 1, μ, l => match l with
    | [] => some (.next, μ)
    | st :: rest => match (match st with
        | .If t b o _ => (evT n μ t).bind fun c => exS n μ (if c then b else o)
        | st => exA μ st) with
      | some (.next, μ') => exS n μ' rest
      | r => r
end Mine
end

section
open PySem PySem.W PyProof.Rows PySem.Calls
set_option Elab.async false
set_option maxRecDepth 100000
set_option maxHeartbeats 4000000
namespace Mine
/-- y stands in x -/
@[irreducible] def has (x y : Str) : Bool := !(Builtin.Str.occurrences x y 0 x.length 1).isEmpty
noncomputable abbrev sg (c : Nat) : Str := ⟨#[c]⟩
noncomputable abbrev ofL (l : List Nat) : Str := ⟨l.toArray⟩
theorem has_one (x : Str) (c : Nat) : has x (sg c) = x.cps.toList.contains c := by
  unfold has
  rw [StrLaws.found_one x c]
  simp
theorem eqS_iff {x y : Str} : eqS x y = true ↔ x = y := by
  unfold eqS sL
  rw [toList_beq]
  exact beq_iff_eq
theorem in_has {prog : Program} {w : World} {A : Around} {E : Value → Shared → Prop} {s : Shared} {x y : Str} {t u : Tok} {Q : Value → Shared → Prop} (h : Q (.bool (has x y)) s) : wpAny (model prog w) A (compareOp .In (.str y u) (.str x t)) Q E s := by
  unfold has at h
  exact in_str h
theorem notin_has {prog : Program} {w : World} {A : Around} {E : Value → Shared → Prop} {s : Shared} {x y : Str} {t u : Tok} {Q : Value → Shared → Prop} (h : Q (.bool (!has x y)) s) : wpAny (model prog w) A (compareOp .NotIn (.str y u) (.str x t)) Q E s := by
  unfold has at h
  exact PyProof.Rows.notIn_str h
theorem sL_ofL (l : List Nat) : sL (ofL l) = l := rfl
theorem ofL_sL (x : Str) : ofL (sL x) = x := by cases x with | mk a => cases a; rfl
structure Cx where
  prog : Program
  w : World
  A : Around
  env : Env
  K : Frag
  g : Heap
  L : Addr
  s0 : Shared
  x : Addr
  dx : Addr
  C : Addr
  n : Nat
  led : List (Addr × Obj)
  T0 : Str
  ln0 : Int
  W : Str
  refs : Nat → Value
noncomputable def Rep (Γ : Cx) : V → Value → Prop
  | .none, v => v = .none
  | .bool b, v => v = .bool b
  | .str x, v => ∃ t, v = .str (ofL x) t
  | .acc ne l, v => ne = (Γ.T0.length != 0) ∧ ∃ t, v = .str (Γ.T0 ++ ofL l) t
  | .row d, v => ∃ t, v = .int (Γ.ln0 + d) t
  | .int i, v => ∃ t, v = .int i t
  | .whites c b, v => has Γ.W (sg c) = b ∧ ∃ t, v = .str Γ.W t
  | .obj k, v => v = Γ.refs k ∧ handedIn (Γ.refs k) = true
noncomputable def LocRep (Γ : Cx) (loc : List (Str × V)) (m : Str → Option Value) : Prop := ∀ x v, lookS x loc = some v → ∃ u, m x = some u ∧ Rep Γ v u
inductive FldRep (Γ : Cx) : List (Str × V) → List DictEntry → Prop
  | nil : FldRep Γ [] []
  | cons {f v r h t u es} : Rep Γ v u → FldRep Γ r es → FldRep Γ ((f, v) :: r) (⟨h, .str f t, u⟩ :: es)
structure Rel (Γ : Cx) (μ : MS) (s : Shared) : Prop where
  ex : ∃ h tk m es, s = { Γ.s0 with heap := h, toks := tk } ∧ Fr Γ.g Γ.L h m ∧ LocRep Γ μ.loc m ∧ m (Str.ofString "self") = some (.ref Γ.x) ∧ FldRep Γ μ.fld es ∧ News Γ.g Γ.L h ((Γ.x, instObj Γ.C Γ.dx) :: (Γ.dx, dictOf es Γ.n) :: Γ.led)
/-- what the small evaluator takes for granted -/
structure Ok (Γ : Cx) (pc : Bool) (ls : List Str) (names : List Str) : Prop where
  X : Γ.K.In Γ.g
  kind : Γ.env.scope.kind = .function
  locals : Γ.env.locals = Γ.L
  isLoc : ∀ x, ls.any (eqS x) = true → Γ.env.kindOf x = some .local ∧ (x == ("__debug__" : Str)) = false ∧ x ≠ Str.ofString "self"
  self : Γ.env.kindOf (Str.ofString "self") = some .local
  apart : Γ.x ≠ Γ.dx ∧ ∀ p ∈ Γ.led, p.1 ≠ Γ.dx
  plain : ∀ name, plainGet Γ.K Γ.C name = true
  dict : hasDictIn Γ.K Γ.C = true
  find : ∀ f, names.any (eqS f) = true → ∃ a, findIn Γ.K (.ref Γ.C) f = some a ∧ noGet Γ.K a = true
  setter : findIn Γ.K (.ref Γ.C) "__setattr__" = some (some (.builtin "object.__setattr__"))
  over : plainOver Γ.K Γ.C = true
  taker : ∀ f, names.any (eqS f) = true → takerIn Γ.K Γ.C f = some none
  small : Γ.T0.length ≤ 3000
  prop : pc = true → ∀ μ s (Q : Value → Shared → Prop) (E : Value → Shared → Prop), lookS "_punctuation_chars" μ.fld = some (.str []) → Rel Γ μ s → (∀ t s', Rel Γ μ s' → Q (.str (Str.ofString "") t) s') → wpAny (model Γ.prog Γ.w) Γ.A (getAttr (.ref Γ.x) "punctuation_chars" true) Q E s
  handled : Γ.A.handled = none
  valErr : pc = true → ∀ s (pos : Pos) (Q : Value → Shared → Prop) (E : Value → Shared → Prop) μ, Rel Γ μ s → (∀ s', Rel Γ μ s' → Q (.type "ValueError") s') → wpAny (model Γ.prog Γ.w) Γ.A (eval (.Name (Str.ofString "ValueError") pos) Γ.env) Q E s
section
variable {Γ : Cx} {pc : Bool} {ls names : List Str} {μ : MS} {E : Value → Shared → Prop} {s : Shared}
theorem getL_of {f : Str} {v : V} : ∀ {fld : List (Str × V)} {es : List DictEntry}, FldRep Γ fld es → lookS f fld = some v → ∃ u, getL f es = some (some u) ∧ Rep Γ v u
  | _, _, .nil, h => nomatch h
  | _, _, .cons (f := y) (v := v') (r := r) (h := hh) (t := t) (u := u) (es := es) hr R, h => by
    unfold lookS at h
    by_cases q : eqS y f = true
    · rw [if_pos q] at h
      obtain rfl := eqS_iff.mp q
      obtain rfl := Option.some.inj h
      refine ⟨u, ?_, hr⟩
      unfold getL
      rw [List.find?_cons_of_pos (by simp [Value.isStr])]
    · rw [if_neg q] at h
      obtain ⟨u', e, r'⟩ := getL_of R h
      refine ⟨u', ?_, r'⟩
      have ne : ¬ (Value.isStr (.str y t) f = true) := fun e => q (eqS_iff.mpr (by simpa [Value.isStr] using e))
      unfold getL at e ⊢
      rw [List.find?_cons_of_neg (by simpa using ne)]
      revert e
      cases es.find? (fun x => x.key.isStr f) with
      | some _ => exact id
      | none =>
        intro e
        dsimp only at e
        split at e <;> cases e
theorem putL_of {f : Str} {v : V} {hsh : Int} {key val : Value} (hv : Rep Γ v val) : ∀ {fld : List (Str × V)} {es : List DictEntry}, FldRep Γ fld es → (lookS f fld).isSome = true → FldRep Γ (setS f v fld) (putL f hsh key val es) ∧ (∀ n, putN f es n = n)
  | _, _, .nil, h => nomatch h
  | _, _, .cons (f := y) (v := v') (r := r) (h := hh) (t := t) (u := u) (es := es) hr R, h => by
    unfold lookS at h
    by_cases q : eqS y f = true
    · obtain rfl := eqS_iff.mp q
      have c1 : Value.isStr (.str y t) y = true := by simp [Value.isStr]
      refine ⟨?_, fun n => ?_⟩
      · unfold setS putL
        rw [if_pos q, if_pos c1]
        exact .cons hv R
      · unfold putN
        rw [if_pos (by simp [c1])]
    · rw [if_neg q] at h
      obtain ⟨a, b⟩ := putL_of (hsh := hsh) (key := key) hv R h
      have ne : ¬ (Value.isStr (.str y t) f = true) := fun e => q (eqS_iff.mpr (by simpa [Value.isStr] using e))
      refine ⟨?_, fun n => ?_⟩
      · unfold setS putL
        rw [if_neg q, if_neg ne]
        exact .cons hr a
      · have := b n
        unfold putN at this ⊢
        rw [List.any_cons]
        dsimp only
        rw [Bool.eq_false_iff.mpr ne, Bool.false_or]
        exact this
theorem FldRep.length {fld : List (Str × V)} {es : List DictEntry} (h : FldRep Γ fld es) : es.length = fld.length := by
  induction h with
  | nil => rfl
  | cons _ _ ih => simp [ih]
theorem handed {v : V} {u : Value} (h : Rep Γ v u) : handedIn u = true := by
  cases v <;> simp only [Rep] at h
  · subst h; rfl
  · subst h; rfl
  · obtain ⟨t, rfl⟩ := h; rfl
  · obtain ⟨_, t, rfl⟩ := h; rfl
  · obtain ⟨t, rfl⟩ := h; rfl
  · obtain ⟨t, rfl⟩ := h; rfl
  · obtain ⟨_, t, rfl⟩ := h; rfl
  · obtain ⟨rfl, t⟩ := h; exact t
theorem LocRep.set {loc : List (Str × V)} {m : Str → Option Value} {x : Str} {v : V} {u : Value} (h : LocRep Γ loc m) (r : Rep Γ v u) : LocRep Γ ((x, v) :: loc) (fun y => if y = x then some u else m y) := by
  intro y v' e
  unfold lookS at e
  by_cases q : eqS x y = true
  · rw [if_pos q] at e
    obtain rfl := eqS_iff.mp q
    obtain rfl := Option.some.inj e
    exact ⟨u, by simp, r⟩
  · rw [if_neg q] at e
    obtain ⟨u', e', r'⟩ := h y v' e
    exact ⟨u', by show (if y = x then some u else m y) = some u'; rw [if_neg (fun z => q (eqS_iff.mpr z.symm))]; exact e', r'⟩
theorem Rel.toks {tk : Nat} {s : Shared} (h : Rel Γ μ s) : Rel Γ μ { s with toks := tk } := by
  obtain ⟨h, tk', m, es, rfl, r⟩ := h
  exact ⟨h, tk, m, es, rfl, r⟩
theorem Rel.push {s : Shared} {o : Obj} (h : Rel Γ μ s) (ho : o.isFreed = false) : Rel Γ μ { s with heap := s.heap.push o } := by
  obtain ⟨h, tk', m, es, rfl, F, l, sf, f, N⟩ := h
  exact ⟨_, tk', m, es, rfl, F.push o, l, sf, f, fun p hp => N.push F o ho p (.tail _ hp)⟩

theorem self_ok (O : Ok Γ pc ls names) {pos : Pos} {Q : Value → Shared → Prop} (R : Rel Γ μ s) (h : Q (.ref Γ.x) s) : wpAny (model Γ.prog Γ.w) Γ.A (eval (.Name (Str.ofString "self") pos) Γ.env) Q E s := by
  obtain ⟨h, tk, m, es, rfl, F, l, sf, f, N⟩ := R
  exact wpAny_Name (wpAny_loadName_local O.kind O.self (by rw [O.locals]; exact F.ns) sf (by assumption))
theorem get_ok (O : Ok Γ pc ls names) {f : Str} {v : V} {Q : Value → Shared → Prop} (R : Rel Γ μ s) (hn : ∀ f v, lookS f μ.fld = some v → names.any (eqS f) = true) (e : lookS f μ.fld = some v) (h : ∀ u s', Rep Γ v u → Rel Γ μ s' → Q u s') :
    wpAny (model Γ.prog Γ.w) Γ.A (getAttr (.ref Γ.x) f true) Q E s := by
  have R' := R
  obtain ⟨hp, tk, m, es, rfl, F, l, sf, fr, N⟩ := R
  obtain ⟨u, eu, ru⟩ := getL_of fr e
  obtain ⟨a, ha, hg⟩ := O.find f (hn f v e)
  exact get_own F O.X (InstAt.of_news N (.head _) (.tail _ (.head _))) (O.plain f) O.dict ha hg eu (handed ru) (h u _ ru R'.toks)
theorem upd_one {x dx : Addr} {o od od' : Obj} {led : List (Addr × Obj)} (h1 : x ≠ dx) (h2 : ∀ p ∈ led, p.1 ≠ dx) : Upd dx od od' ((x, o) :: (dx, od) :: led) ((x, o) :: (dx, od') :: led) := .tail h1 (.head h2)
theorem set_ok (O : Ok Γ pc ls names) {f : Str} {v : V} {u : Value} {Q : Unit → Shared → Prop} (R : Rel Γ μ s) (hn : ∀ f v, lookS f μ.fld = some v → names.any (eqS f) = true) (hl : μ.fld.length ≤ 100) (e : (lookS f μ.fld).isSome = true) (r : Rep Γ v u) (h : ∀ s', Rel Γ { μ with fld := setS f v μ.fld } s' → Q () s') :
    wpAny (model Γ.prog Γ.w) Γ.A (setAttr (.ref Γ.x) f u) Q E s := by
  obtain ⟨hp, tk, m, es, rfl, F, l, sf, fr, N⟩ := R
  obtain ⟨v0, e0⟩ := Option.isSome_iff_exists.mp e
  obtain ⟨u0, eu, ru⟩ := getL_of fr e0
  obtain ⟨a, b⟩ := putL_of (f := f) (hsh := PyData.keyHash Γ.w.params f) (key := .str f (tk + 1)) r fr e
  have hlen := a.length
  have hsl : ∀ l : List (Str × V), (setS f v l).length = l.length := fun l => by
    induction l with
    | nil => rfl
    | cons p l ih => unfold setS; split <;> simp [ih]
  exact set_dict (es := es) (n := Γ.n) (dx := Γ.dx) F O.X N (InstAt.of_news N (.head _) (.tail _ (.head _))) rfl O.setter O.over (O.taker f (hn f v0 e0)) O.dict (by rw [eu]; rfl) (by rw [b]) (upd_one O.apart.1 O.apart.2) (by rw [hlen, hsl]; omega)
    (fun h' F' N' => h _ ⟨h', _, m, _, rfl, F', l, sf, a, N'⟩)
end
end Mine
end

section
open PySem PySem.W PyProof.Rows PySem.Calls
set_option Elab.async false
set_option maxRecDepth 100000
set_option maxHeartbeats 4000000
namespace Mine
noncomputable def NamesOk (μ : MS) (ls names : List Str) : Prop := μ.ls = ls ∧ (∀ f v, lookS f μ.fld = some v → names.any (eqS f) = true) ∧ μ.fld.length ≤ 100
section
variable {Γ : Cx} {pc : Bool} {ls names : List Str} {μ : MS} {E : Value → Shared → Prop} {s : Shared}
theorem evE_ok (O : Ok Γ pc ls names) (hpc : μ.pc = pc) (HN : NamesOk μ ls names) {e : Expr} {v : V} {Q : Value → Shared → Prop} (h : evE μ e = some v) (R : Rel Γ μ s) (q : ∀ u s', Rep Γ v u → Rel Γ μ s' → Q u s') :
    wpAny (model Γ.prog Γ.w) Γ.A (eval e Γ.env) Q E s := by
  unfold evE at h
  split at h
  · rename_i x pos
    split at h
    · rename_i hx
      rw [HN.1] at hx
      obtain ⟨a, b, _⟩ := O.isLoc x hx
      have R' := R
      obtain ⟨hp, tk, m, es, rfl, F, l, sf, fr, N⟩ := R
      obtain ⟨u, eu, ru⟩ := l x v h
      exact wpAny_Name (wpAny_loadName_local O.kind a (by rw [O.locals]; exact F.ns) eu (q u _ ru R')) b
    · cases h
  · cases h
    exact wpAny_Constant_str (q _ _ ⟨_, by rw [ofL_sL]⟩ R.toks)
  · cases h
    exact wpAny_Constant_int (q _ _ ⟨_, rfl⟩ R.toks)
  · cases h
    exact wpAny_Constant_none (q _ _ rfl R)
  · cases h
    exact wpAny_Constant_bool (q _ _ rfl R)
  · rename_i o op f pos
    split at h
    · rename_i ho
      obtain rfl := eqS_iff.mp ho
      split at h
      · rename_i hf
        obtain rfl := eqS_iff.mp hf
        split at h
        · rename_i hp
          cases h
          exact Attribute_Name_ (self_ok O R (O.prop (hpc ▸ hp.1) μ _ Q E hp.2 R fun t s' R' => q _ s' ⟨t, rfl⟩ R'))
        · cases h
      · exact Attribute_Name_ (self_ok O R (get_ok O R HN.2.1 h q))
    · cases h
  · cases h
theorem truth_ok (O : Ok Γ pc ls names) {v : V} {u : Value} {b : Bool} {Q : Bool → Shared → Prop} (h : truth v = some b) (r : Rep Γ v u) (R : Rel Γ μ s) (q : ∀ s', Rel Γ μ s' → Q b s') : wpAny (model Γ.prog Γ.w) Γ.A (truthy u) Q E s := by
  cases v <;> simp only [truth, Option.some.injEq, reduceCtorEq] at h <;> simp only [Rep] at r
  · subst h r; exact truthy_none (q _ R)
  · subst h r; exact wpAny_truthy_bool (q _ R)
  · rename_i x
    obtain ⟨t, rfl⟩ := r
    split at h
    · rename_i hl
      refine PySem.P.truthy_str (by have : (ofL x).length = x.length := List.size_toArray ..; omega) ?_
      have e : ((((ofL x).length : Nat) : Int) != 0) = b := by
        rw [← Option.some.inj h]
        cases x with
        | nil => rfl
        | cons a l =>
          show ((((a :: l).toArray.size : Nat) : Int) != 0) = true
          rw [List.size_toArray, List.length_cons]
          exact bne_iff_ne.mpr (by omega)
      rw [e]
      exact q _ R.toks
    · cases h
  · rename_i ne l
    obtain ⟨rfl, t, rfl⟩ := r
    have hs := O.small
    have hL : (Γ.T0 ++ ofL l).length = Γ.T0.length + l.length := by
      rw [Str.length_append]; congr 1
    split at h
    · refine PySem.P.truthy_str (by omega) ?_
      have e : ((((Γ.T0 ++ ofL l).length : Nat) : Int) != 0) = b := by
        rw [← Option.some.inj h, hL]
        cases l with
        | nil =>
          simp only [List.length_nil, Nat.add_zero, List.isEmpty_nil, Bool.not_true, Bool.or_false]
          rw [Bool.eq_iff_iff, bne_iff_ne, bne_iff_ne]
          omega
        | cons a l =>
          simp only [List.isEmpty_cons, Bool.not_false, Bool.or_true, List.length_cons]
          exact bne_iff_ne.mpr (by omega)
      rw [e]
      exact q _ R.toks
    · cases h
  · obtain ⟨t, rfl⟩ := r
    subst h
    exact PyProof.Rows.truthy_int (q _ R)
theorem cmp_ok (O : Ok Γ pc ls names) {op : CmpOp} {a b : V} {u v : Value} {c : Bool} {Q : Value → Shared → Prop} (h : cmp op a b = some c) (ra : Rep Γ a u) (rb : Rep Γ b v) (R : Rel Γ μ s) (q : ∀ s', Rel Γ μ s' → Q (.bool c) s') : wpAny (model Γ.prog Γ.w) Γ.A (compareOp op u v) Q E s := by
  unfold cmp at h
  split at h
  · unfold cEq at h
    split at h
    · rw [Option.map_eq_some_iff] at h; obtain ⟨y, hy, h⟩ := h
      obtain rfl := getStr_elim hy
      obtain ⟨t, rfl⟩ := ra
      obtain ⟨t', rfl⟩ := rb
      refine PyProof.Rows.eq_str ?_
      rw [← toList_beq]
      rw [h]
      exact q _ R
    · rename_i ne l
      obtain ⟨rfl, t, rfl⟩ := ra
      split at h
      · rename_i hb
        obtain rfl := isN_elim hb
        cases rb; cases h; exact PySem.EqNone.eq_str_none (q _ R)
      · rw [Option.bind_eq_some_iff] at h; obtain ⟨y, hy, h⟩ := h
        obtain rfl := getStr_elim hy
        obtain ⟨t', rfl⟩ := rb
        split at h
        · rename_i hy
          obtain rfl := List.isEmpty_iff.mp hy
          refine PyProof.Rows.eq_str ?_
          have e : ((Γ.T0 ++ ofL l) == ofL []) = c := by
            rw [← Option.some.inj h, Bool.eq_iff_iff, beq_iff_eq]
            have hL : (Γ.T0 ++ ofL l).length = Γ.T0.length + l.length := by
              rw [Str.length_append]; congr 1
            constructor
            · intro q
              rw [q] at hL
              have h0 : (ofL []).length = 0 := rfl
              rw [h0] at hL
              have e1 : Γ.T0.length = 0 := by omega
              have e2 : l = [] := List.length_eq_zero_iff.mp (by omega)
              subst e2
              simp [e1]
            · intro q
              simp only [Bool.not_eq_true', Bool.or_eq_false_iff, Bool.not_eq_false', List.isEmpty_iff] at q
              obtain ⟨q1, rfl⟩ := q
              have e1 : Γ.T0.length = 0 := by simpa using q1
              have : Γ.T0 = ofL [] := by
                cases hT : Γ.T0 with
                | mk a =>
                  rw [hT] at e1
                  have : a.size = 0 := e1
                  rw [Array.size_eq_zero_iff.mp this]
              rw [this]; rfl
          rw [e]
          exact q _ R
        · cases h
    · split at h
      · rename_i hb
        obtain rfl := isN_elim hb
        cases ra; cases rb; cases h; exact PySem.EqNone.eq_none_none (q _ R)
      · cases h
    · cases h
  · rw [Option.bind_eq_some_iff] at h; obtain ⟨x, hx, h⟩ := h
    rw [Option.map_eq_some_iff] at h; obtain ⟨y, hy, h⟩ := h
    obtain rfl := getStr_elim hx
    obtain rfl := getStr_elim hy
    obtain ⟨t, rfl⟩ := ra
    obtain ⟨t', rfl⟩ := rb
    refine PyProof.Rows.ne_str ?_
    rw [← toList_bne]
    simp only [bne]
    rw [h]
    exact q _ R
  · split at h
    · rename_i hb
      obtain rfl := isN_elim hb
      cases rb
      split at h
      · rename_i ha
        obtain rfl := isN_elim ha
        cases ra; cases h; exact is_none_none (q _ R)
      · rw [Option.map_eq_some_iff] at h; obtain ⟨x, hx, h⟩ := h
        obtain rfl := getStr_elim hx
        obtain ⟨t, rfl⟩ := ra
        cases h; exact is_none_ne (by intro e; cases e) (q _ R)
    · cases h
  · split at h
    · rename_i hb
      rw [Bool.and_eq_true] at hb
      obtain rfl := isN_elim hb.1
      obtain rfl := isN_elim hb.2
      cases ra; cases rb; cases h; exact isNot_none (q _ R)
    · cases h
  · rw [Option.bind_eq_some_iff] at h; obtain ⟨x, hx, h⟩ := h
    rw [Option.map_eq_some_iff] at h; obtain ⟨y, hy, h⟩ := h
    obtain rfl := getInt_elim hx
    obtain rfl := getInt_elim hy
    obtain ⟨t, rfl⟩ := ra
    obtain ⟨t', rfl⟩ := rb
    cases h
    exact PyProof.Rows.ge_int (q _ R)
  · rw [Option.bind_eq_some_iff] at h; obtain ⟨x, hx, h⟩ := h
    rw [Option.map_eq_some_iff] at h; obtain ⟨y, hy, h⟩ := h
    obtain rfl := getInt_elim hx
    obtain rfl := getInt_elim hy
    obtain ⟨t, rfl⟩ := ra
    obtain ⟨t', rfl⟩ := rb
    cases h
    exact PyProof.Rows.gt_int (q _ R)
  · rw [Option.bind_eq_some_iff] at h; obtain ⟨y, hy, h⟩ := h
    obtain rfl := getStr_elim hy
    obtain ⟨t, rfl⟩ := ra
    unfold cIn at h
    split at h
    · obtain ⟨t', rfl⟩ := rb
      rw [Option.map_eq_some_iff] at h; obtain ⟨c, hc, h⟩ := h
      obtain rfl := getOne_elim hc
      refine in_has ?_
      rw [show ofL [c] = sg c from rfl, has_one]
      rw [h]
      exact q _ R
    · rename_i c b
      obtain ⟨hb, t', rfl⟩ := rb
      split at h
      · rename_i hy
        obtain rfl := eq_of_beq hy
        obtain rfl := Option.some.inj h
        refine in_has ?_
        rw [show ofL [c] = sg c from rfl, hb]
        exact q _ R
      · cases h
    · cases h
  · rw [Option.bind_eq_some_iff] at h; obtain ⟨y, hy, h⟩ := h
    rw [Option.bind_eq_some_iff] at h; obtain ⟨x, hx, h⟩ := h
    rw [Option.map_eq_some_iff] at h; obtain ⟨c, hc, h⟩ := h
    obtain rfl := getStr_elim hy
    obtain rfl := getStr_elim hx
    obtain rfl := getOne_elim hc
    obtain ⟨t, rfl⟩ := ra
    obtain ⟨t', rfl⟩ := rb
    refine notin_has ?_
    rw [show ofL [c] = sg c from rfl, has_one]
    rw [h]
    exact q _ R
  · cases h
end
end Mine
end

section
open PySem PySem.W PyProof.Rows PySem.Calls
set_option Elab.async false
set_option maxRecDepth 100000
set_option maxHeartbeats 4000000
namespace Mine
section
variable {Γ : Cx} {pc : Bool} {ls names : List Str} {μ : MS} {E : Value → Shared → Prop} {s : Shared}
theorem plus_ok (O : Ok Γ pc ls names) {a b c : V} {u v : Value} {Q : Value → Shared → Prop} (h : plus a b = some c) (ra : Rep Γ a u) (rb : Rep Γ b v) (R : Rel Γ μ s) (q : ∀ z s', Rep Γ c z → Rel Γ μ s' → Q z s') : wpAny (model Γ.prog Γ.w) Γ.A (inplaceOp .Add u v) Q E s := by
  have hs := O.small
  unfold plus at h
  split at h
  · rename_i ne l y
    obtain ⟨rfl, t, rfl⟩ := ra
    obtain ⟨t', rfl⟩ := rb
    split at h
    · rename_i hl
      rw [Bool.and_eq_true, decide_eq_true_iff, decide_eq_true_iff] at hl
      cases h
      have e1 : (Γ.T0 ++ ofL l).length = Γ.T0.length + l.length := by
        rw [Str.length_append]; congr 1
      have e2 : (ofL y).length = y.length := List.size_toArray ..
      refine PyProof.Rows.iadd_str (fun t' tk => q _ _ ⟨rfl, t', ?_⟩ R.toks) (by rw [sizeLine_eq]; omega)
      congr 1
      cases Γ.T0 with | mk a =>
      show (⟨(a ++ l.toArray) ++ y.toArray⟩ : Str) = ⟨a ++ (l ++ y).toArray⟩
      simp
    · cases h
  · rename_i l y
    obtain ⟨t, rfl⟩ := ra
    obtain ⟨t', rfl⟩ := rb
    split at h
    · rename_i hl
      rw [Bool.and_eq_true, decide_eq_true_iff, decide_eq_true_iff] at hl
      cases h
      have e1 : (ofL l).length = l.length := List.size_toArray ..
      have e2 : (ofL y).length = y.length := List.size_toArray ..
      refine PyProof.Rows.iadd_str (fun t' tk => q _ _ ⟨t', ?_⟩ R.toks) (by rw [sizeLine_eq]; omega)
      congr 1
      show (⟨l.toArray ++ y.toArray⟩ : Str) = ⟨(l ++ y).toArray⟩
      simp
    · cases h
  · rename_i d i
    obtain ⟨t, rfl⟩ := ra
    obtain ⟨t', rfl⟩ := rb
    split at h
    · rename_i hi
      obtain rfl := eq_of_beq hi
      cases h
      refine PyProof.Rows.iadd_int (q _ _ ⟨s.toks, ?_⟩ R.toks)
      congr 1
      push_cast
      omega
    · cases h
  · cases h
theorem strC_elim {e : Expr} {x : Str} (h : strC e = some x) : ∃ k p, e = .Constant (.str x) k p := by
  cases e with
  | Constant c k p =>
    cases c with
    | str y => cases h; exact ⟨_, _, rfl⟩
    | _ => cases h
  | _ => cases h
theorem strs_ok {pos : Pos} {es : List Expr} : ∀ {Q : List Value → Shared → Prop} {ys : List Str} {s : Shared}, strsOf es = some ys → Rel Γ μ s → (∀ vs s', StrsAre vs ys → Rel Γ μ s' → Q vs s') → wpAny (model Γ.prog Γ.w) Γ.A (spliced (backTo pos (starEach es Γ.env))) Q E s := by
  induction es with
  | nil =>
    intro Q ys s h R q
    cases h
    exact Calls.spliced_nil (q _ _ .nil R)
  | cons e r ih =>
    intro Q ys s h R q
    obtain ⟨x, h1, h⟩ := Option.bind_eq_some_iff.mp h
    obtain ⟨yr, h2, h⟩ := Option.map_eq_some_iff.mp h
    subst h
    obtain ⟨k, p, rfl⟩ := strC_elim h1
    refine spliced_more (wpAny_Constant_str ?_)
    exact ih h2 R.toks fun vs s' hv R' => q _ _ (.cons _ _ hv) R'
theorem strsAre_length {vs : List Value} {ys : List Str} (h : StrsAre vs ys) : vs.length = ys.length := by
  induction h with
  | nil => rfl
  | cons _ _ _ ih => simp [ih]
theorem isTup_elim {r : Expr} {es : List Expr} (h : isTup r = some es) : ∃ k p, r = .Tuple es k p := by
  cases r <;> simp only [isTup, reduceCtorEq, Option.some.injEq] at h
  subst h
  exact ⟨_, _, rfl⟩
theorem evE_marks {op : CmpOp} {e : Expr} {v : V} (h : evE μ e = some v) : behindInMarks op e = false := by
  cases e <;> first | rfl | (simp only [evE, reduceCtorEq] at h)
theorem evC_ok (O : Ok Γ pc ls names) (hpc : μ.pc = pc) (HN : NamesOk μ ls names) {l r : Expr} {op : CmpOp} {p : Pos} {b : Bool} {Q : Bool → Shared → Prop} {s : Shared} (h : evC μ l op r = some b) (R : Rel Γ μ s) (q : ∀ s', Rel Γ μ s' → Q b s') (whole : Sem Value) :
    wpAny (model Γ.prog Γ.w) Γ.A (isTrue (.Compare l [op] [r] p) Γ.env whole) Q E s := by
  unfold evC at h
  split at h
  · rename_i es hr
    obtain ⟨k, p2, rfl⟩ := isTup_elim hr
    split at h
    · rename_i hop
      subst hop
      split at h
      · rename_i y h1
        obtain ⟨ys, h2, h⟩ := Option.bind_eq_some_iff.mp h
        split at h
        · rename_i hlen
          cases h
          refine wpAny_isTrue_Compare1 (evE_ok O hpc HN h1 R fun u s' r R' => ?_) rfl
          obtain ⟨t, rfl⟩ := r
          refine wpAny_Tuple (strs_ok h2 R' fun vs s2 hv R2 => ⟨?_, ?_⟩)
          · rw [strsAre_length hv, sizeLine_eq]; omega
          · have hN : ({ s2 with heap := s2.heap.push { cls := .type "tuple", data := .seq vs.toArray } } : Shared).heap.get? s2.heap.objs.size = some { cls := .type "tuple", data := .seq vs.toArray } := Heap.get?_push_size _ rfl
            refine in_tuple_strs (ys := ys) ⟨_, hN, rfl, _, rfl⟩ hv (wpAny_truthy_bool ?_)
            have e : (ys.any fun x => x == ofL y) = (ys.any fun x => sL x == y) := by
              congr 1; funext x; rw [← toList_beq]
            rw [e]
            exact q _ (R2.push rfl)
        · cases h
      · cases h
    · cases h
  · obtain ⟨a, h1, h⟩ := Option.bind_eq_some_iff.mp h
    obtain ⟨c, h2, h⟩ := Option.bind_eq_some_iff.mp h
    exact wpAny_isTrue_Compare1 (evE_ok O hpc HN h1 R fun u s' ru R' => evE_ok O hpc HN h2 R' fun v s2 rv R2 => cmp_ok O h ru rv R2 fun s3 R3 => wpAny_truthy_bool (q _ R3)) (evE_marks h2)
theorem evT_ok (O : Ok Γ pc ls names) (hpc : μ.pc = pc) (HN : NamesOk μ ls names) : ∀ (n : Nat) {e : Expr} {b : Bool} {Q : Bool → Shared → Prop} {s : Shared}, evT n μ e = some b → Rel Γ μ s → (∀ s', Rel Γ μ s' → Q b s') →
    wpAny (model Γ.prog Γ.w) Γ.A (isTrue e Γ.env (eval e Γ.env)) Q E s := by
  intro n
  induction n with
  | zero => intro e b Q s h; cases h
  | succ n ih =>
    intro e b Q s h R q
    cases e with
    | Compare l ops rs p =>
      simp only [evT] at h
      split at h
      · split at h
        · exact evC_ok O hpc HN h R q _
        · cases h
      · cases h
    | BoolOp op xs p =>
      simp only [evT] at h
      split at h
      · cases h
        cases op with
        | And => exact wpAny_isTrue_BoolOp (wpAny_allTrue_And_nil (q _ R))
        | Or => exact wpAny_isTrue_BoolOp (wpAny_allTrue_Or_nil (q _ R))
      · rename_i x r
        obtain ⟨c, h1, h⟩ := Option.bind_eq_some_iff.mp h
        cases op with
        | And =>
          refine wpAny_isTrue_BoolOp (wpAny_allTrue_And_cons (ih h1 R fun s' R' => ?_))
          cases c with
          | true =>
            have := ih (Q := Q) (s := s') h R' q
            rw [arm_isTrue_BoolOp] at this
            exact this
          | false => cases h; exact q _ R'
        | Or =>
          refine wpAny_isTrue_BoolOp (wpAny_allTrue_Or_cons (ih h1 R fun s' R' => ?_))
          cases c with
          | false =>
            have := ih (Q := Q) (s := s') h R' q
            rw [arm_isTrue_BoolOp] at this
            exact this
          | true => cases h; exact q _ R'
    | UnaryOp op x p =>
      simp only [evT] at h
      split at h
      · rename_i ho
        subst ho
        obtain ⟨c, h1, h⟩ := Option.map_eq_some_iff.mp h
        subst h
        exact wpAny_isTrue_Not (ih h1 R q)
      · cases h
    | Name x p =>
      simp only [evT] at h
      obtain ⟨v, h1, h⟩ := Option.bind_eq_some_iff.mp h
      exact wpAny_isTrue_value (evE_ok O hpc HN h1 R fun u s' r R' => truth_ok O h r R' q)
    | Attribute o f p =>
      simp only [evT] at h
      obtain ⟨v, h1, h⟩ := Option.bind_eq_some_iff.mp h
      exact wpAny_isTrue_value (evE_ok O hpc HN h1 R fun u s' r R' => truth_ok O h r R' q)
    | _ => cases h
end
end Mine
end

section
open PySem PySem.W PyProof.Rows PySem.Calls
set_option Elab.async false
set_option maxRecDepth 100000
set_option maxHeartbeats 4000000
namespace Mine
noncomputable def FlRep (Γ : Cx) : Fl → Flow → Prop
  | .next, f => f = .next
  | .brk, f => f = .brk
  | .cont, f => f = .cont
  | .ret v, f => ∃ u, f = .ret u ∧ Rep Γ v u
  | .exc, _ => False
/-- a ValueError, just made -/
noncomputable def ExcAt (Γ : Cx) (μ : MS) (e : Value) (s : Shared) : Prop := ∃ s₂ h' a args, e = .ref a ∧ Rel Γ μ s₂ ∧ Heap.MadeExc s₂.heap h' a "ValueError" args ∧ s = { s₂ with heap := h' }
section
variable {Γ : Cx} {pc : Bool} {ls names : List Str} {μ : MS} {E : Value → Shared → Prop} {s : Shared}
theorem lookS_setS {f g : Str} {v u : V} {l : List (Str × V)} (h : lookS g (setS f v l) = some u) : ∃ u', lookS g l = some u' := by
  induction l with
  | nil => exact ⟨u, h⟩
  | cons p l ih =>
    obtain ⟨y, z⟩ := p
    unfold setS at h
    unfold lookS
    split at h
    · unfold lookS at h
      split at h
      · rename_i hy; rw [if_pos hy]; exact ⟨_, rfl⟩
      · rename_i hy; rw [if_neg hy]; exact ⟨_, h⟩
    · unfold lookS at h
      split at h
      · rename_i hy; rw [if_pos hy]; exact ⟨_, rfl⟩
      · rename_i hy; rw [if_neg hy]; exact ih h
theorem setS_length (f : Str) (v : V) (l : List (Str × V)) : (setS f v l).length = l.length := by
  induction l with
  | nil => rfl
  | cons p l ih => unfold setS; split <;> simp [ih]
theorem NamesOk.set {f : Str} {v : V} (h : NamesOk μ ls names) : NamesOk { μ with fld := setS f v μ.fld } ls names :=
  ⟨h.1, fun g u e => let ⟨u', e'⟩ := lookS_setS e; h.2.1 g u' e', by show (setS f v μ.fld).length ≤ 100; rw [setS_length]; exact h.2.2⟩
theorem evE_noSwap {e : Expr} {v : V} {t : Option Expr} {n : Nat} {env : Env} (h : evE μ e = some v) : swapsWith e t n env = pure false := by
  cases e <;> first | rfl | (simp only [evE, reduceCtorEq] at h)
theorem store_ok (O : Ok Γ pc ls names) {x : Str} {v : V} {u : Value} {Q : Unit → Shared → Prop} (hx : ls.any (eqS x) = true) (R : Rel Γ μ s) (r : Rep Γ v u) (h : ∀ s', Rel Γ { μ with loc := (x, v) :: μ.loc } s' → Q () s') :
    wpAny (model Γ.prog Γ.w) Γ.A (storeName Γ.env x u) Q E s := by
  obtain ⟨a, b, c⟩ := O.isLoc x hx
  obtain ⟨hp, tk, m, es, rfl, F, l, sf, fr, N⟩ := R
  refine wpAny_storeName_local a (by rw [O.locals]; exact F.ns) (fun h' hn hs => h _ ⟨h', _, _, es, rfl, F.set (by rw [O.locals] at hn; exact hn) (by rw [O.locals] at hs; exact hs), l.set r, ?_, fr, N.set (by rw [O.locals] at hs; exact hs)⟩) (by rw [O.kind]; rfl)
  show (if Str.ofString "self" = x then some u else m (Str.ofString "self")) = _
  rw [if_neg (Ne.symm c)]; exact sf
theorem isSelf_elim {o : Expr} (h : isSelf o = true) : ∃ p, o = .Name (Str.ofString "self") p := by
  cases o with
  | Name x p => exact ⟨p, by rw [eqS_iff.mp h]⟩
  | _ => cases h
theorem isVE_elim {e : Expr} (h : isVE e = true) : ∃ np x k p cp, e = .Call (.Name (Str.ofString "ValueError") np) [.Constant (.str x) k p] [] cp := by
  unfold isVE at h
  split at h
  · obtain rfl := eqS_iff.mp h
    exact ⟨_, _, _, _, _, rfl⟩
  · cases h
theorem exA_ok (O : Ok Γ pc ls names) (hpc : μ.pc = pc) (HN : NamesOk μ ls names) {st : Stmt} {f : Fl} {μ' : MS} {Q : Flow → Shared → Prop} {s : Shared} (h : exA μ st = some (f, μ')) (R : Rel Γ μ s)
    (q : ∀ fl s', FlRep Γ f fl → Rel Γ μ' s' → Q fl s') (qe : f = .exc → ∀ e s', ExcAt Γ μ' e s' → E e s') : wpAny (model Γ.prog Γ.w) Γ.A (exec st Γ.env) Q E s := by
  cases st with
  | Assign ts e pos =>
    simp only [exA] at h
    split at h
    · split at h
      · rename_i x p hx
        obtain ⟨v, h1, h⟩ := Option.map_eq_some_iff.mp h
        cases h
        exact (wpAny_Assign_Name (evE_ok O hpc HN h1 R fun u s' r R' => store_ok O (HN.1 ▸ hx) R' r fun s2 R2 => q _ _ rfl R2) (evE_noSwap h1))
      · cases h
    · split at h
      · rename_i o f' p ho
        obtain ⟨v, h1, h⟩ := Option.map_eq_some_iff.mp h
        cases h
        unfold okF at ho
        rw [Bool.and_eq_true, Bool.and_eq_true] at ho
        obtain ⟨p', rfl⟩ := isSelf_elim ho.1.1
        exact (plainObj_wpAny_Assign_Attribute (evE_ok O hpc HN h1 R fun u s' r R' => self_ok O R' (set_ok O R' HN.2.1 HN.2.2 ho.2 r fun s2 R2 => q _ _ rfl R2)) (evE_noSwap h1))
      · cases h
    · cases h
  | AugAssign t op e pos =>
    simp only [exA] at h
    split at h
    · rename_i hop
      subst hop
      split at h
      · split at h
        · rename_i o f' p ho
          obtain ⟨u0, h0, h⟩ := Option.bind_eq_some_iff.mp h
          obtain ⟨v, h1, h⟩ := Option.bind_eq_some_iff.mp h
          obtain ⟨z, h2, h⟩ := Option.map_eq_some_iff.mp h
          cases h
          unfold okF at ho
          rw [Bool.and_eq_true, Bool.and_eq_true] at ho
          obtain ⟨p', rfl⟩ := isSelf_elim ho.1.1
          exact (wpAny_AugAssign_AttributeAny (self_ok O R (get_ok O R HN.2.1 h0 fun a s1 ra R1 => evE_ok O hpc HN h1 R1 fun b s2 rb R2 => plus_ok O h2 ra rb R2 fun c s3 rc R3 => set_ok O R3 HN.2.1 HN.2.2 ho.2 rc fun s4 R4 => q _ _ rfl R4)))
        · cases h
      · split at h
        · rename_i x p hx
          obtain ⟨u0, h0, h⟩ := Option.bind_eq_some_iff.mp h
          obtain ⟨v, h1, h⟩ := Option.bind_eq_some_iff.mp h
          obtain ⟨z, h2, h⟩ := Option.map_eq_some_iff.mp h
          cases h
          rw [HN.1] at hx
          obtain ⟨a, b, c⟩ := O.isLoc x hx
          refine (wpAny_AugAssign_Name ?_)
          have R' := R
          obtain ⟨hp, tk, m, es, rfl, F, l, sf, fr, N⟩ := R
          obtain ⟨u, eu, ru⟩ := l x u0 h0
          exact wpAny_loadName_local O.kind a (by rw [O.locals]; exact F.ns) eu (evE_ok O hpc HN h1 R' fun b s2 rb R2 => plus_ok O h2 ru rb R2 fun c s3 rc R3 => store_ok O hx R3 rc fun s4 R4 => q _ _ rfl R4)
        · cases h
      · cases h
    · cases h
  | Break p => cases h; exact (wpAny_Break (q _ _ rfl R))
  | Continue p => cases h; exact (wpAny_Continue (q _ _ rfl R))
  | Return v p =>
    obtain ⟨e, h1, h⟩ := Option.bind_eq_some_iff.mp h
    obtain ⟨v, h2, h⟩ := Option.map_eq_some_iff.mp h
    cases h
    subst h1
    exact (wpAny_Return_some (evE_ok O hpc HN h2 R fun u s' r R' => q _ _ ⟨u, rfl, r⟩ R'))
  | Raise x c p =>
    simp only [exA] at h
    split at h
    · obtain ⟨e, h1, h2⟩ := Option.bind_eq_some_iff.mp h
      clear h
      subst h1
      split at h2
      · rename_i hv
        cases h2
        rw [Bool.and_eq_true] at hv
        obtain ⟨np, x, k, p1, cp, rfl⟩ := isVE_elim hv.1
        refine wpAny_Raise_call PySem.F.excCall_ValueError PySem.F.excRaise_ValueError O.handled rfl (O.valErr (hpc ▸ hv.2) _ _ _ _ μ R fun s1 R1 => ⟨rfl, ?_⟩)
        refine Calls.evalArgs_plain (spliced_more (wpAny_Constant_str (spliced_none ⟨rfl, ?_, ?_⟩)))
        · rw [sizeLine_eq]; show 1 ≤ _; omega
        · intro h' e hm
          exact qe rfl _ _ ⟨_, h', e, _, rfl, R1.toks, hm, rfl⟩
      · cases h2
    · cases h
  | _ => cases h
theorem exA_names (HN : NamesOk μ ls names) {st : Stmt} {f : Fl} {μ' : MS} (h : exA μ st = some (f, μ')) : μ'.pc = μ.pc ∧ NamesOk μ' ls names := by
  cases st with
  | Assign ts e pos =>
    simp only [exA] at h
    split at h
    · split at h
      · obtain ⟨v, h1, h⟩ := Option.map_eq_some_iff.mp h
        cases h
        exact ⟨rfl, HN⟩
      · cases h
    · split at h
      · obtain ⟨v, h1, h⟩ := Option.map_eq_some_iff.mp h
        cases h
        exact ⟨rfl, HN.set⟩
      · cases h
    · cases h
  | AugAssign t op e pos =>
    simp only [exA] at h
    split at h
    · split at h
      · split at h
        · obtain ⟨u0, h0, h⟩ := Option.bind_eq_some_iff.mp h
          obtain ⟨v, h1, h⟩ := Option.bind_eq_some_iff.mp h
          obtain ⟨z, h2, h⟩ := Option.map_eq_some_iff.mp h
          cases h
          exact ⟨rfl, HN.set⟩
        · cases h
      · split at h
        · obtain ⟨u0, h0, h⟩ := Option.bind_eq_some_iff.mp h
          obtain ⟨v, h1, h⟩ := Option.bind_eq_some_iff.mp h
          obtain ⟨z, h2, h⟩ := Option.map_eq_some_iff.mp h
          cases h
          exact ⟨rfl, HN⟩
        · cases h
      · cases h
    · cases h
  | Break p => cases h; exact ⟨rfl, HN⟩
  | Continue p => cases h; exact ⟨rfl, HN⟩
  | Return v p =>
    obtain ⟨e, h1, h⟩ := Option.bind_eq_some_iff.mp h
    obtain ⟨v, h2, h⟩ := Option.map_eq_some_iff.mp h
    cases h
    exact ⟨rfl, HN⟩
  | Raise x c p =>
    simp only [exA] at h
    split at h
    · obtain ⟨e, h1, h2⟩ := Option.bind_eq_some_iff.mp h
      split at h2
      · cases h2; exact ⟨rfl, HN⟩
      · cases h2
    · cases h
  | _ => cases h
theorem exS_names : ∀ (n : Nat) {μ : MS} {l : List Stmt} {f : Fl} {μ' : MS}, NamesOk μ ls names → exS n μ l = some (f, μ') → μ'.pc = μ.pc ∧ NamesOk μ' ls names := by
  intro n
  induction n with
  | zero => intro μ l f μ' _ h; cases h
  | succ n ih =>
    intro μ l f μ' HN h
    cases l with
    | nil => cases h; exact ⟨rfl, HN⟩
    | cons st rest =>
      simp only [exS] at h
      have key : ∀ f1 μ1, (match st with
        | .If t b o _ => (evT n μ t).bind fun c => exS n μ (if c then b else o)
        | st => exA μ st) = some (f1, μ1) → μ1.pc = μ.pc ∧ NamesOk μ1 ls names := by
        intro f1 μ1 h
        split at h
        · obtain ⟨c, h1, h⟩ := Option.bind_eq_some_iff.mp h
          exact ih HN h
        · exact exA_names HN h
      split at h
      · rename_i μ1 h1
        obtain ⟨a, b⟩ := key _ _ h1
        obtain ⟨a', b'⟩ := ih b h
        exact ⟨a'.trans a, b'⟩
      · exact key _ _ h
theorem exS_ok (O : Ok Γ pc ls names) : ∀ (n : Nat) {μ : MS} {l : List Stmt} {f : Fl} {μ' : MS} {Q : Flow → Shared → Prop} {s : Shared}, μ.pc = pc → NamesOk μ ls names → exS n μ l = some (f, μ') → Rel Γ μ s →
    (∀ fl s', FlRep Γ f fl → Rel Γ μ' s' → Q fl s') → (f = .exc → ∀ e s', ExcAt Γ μ' e s' → E e s') → wpAny (model Γ.prog Γ.w) Γ.A (execs l Γ.env) Q E s := by
  intro n
  induction n with
  | zero => intro μ l f μ' Q s _ _ h; cases h
  | succ n ih =>
    intro μ l f μ' Q s hpc HN h R q qe
    cases l with
    | nil =>
      cases h
      exact wpAny_execs_nil (q _ _ rfl R)
    | cons st rest =>
      simp only [exS] at h
      have key : ∀ f1 μ1 (Q1 : Flow → Shared → Prop), (match st with
        | .If t b o _ => (evT n μ t).bind fun c => exS n μ (if c then b else o)
        | st => exA μ st) = some (f1, μ1) → (∀ fl s', FlRep Γ f1 fl → Rel Γ μ1 s' → Q1 fl s') → (f1 = .exc → ∀ e s', ExcAt Γ μ1 e s' → E e s') → wpAny (model Γ.prog Γ.w) Γ.A (exec st Γ.env) Q1 E s ∧ (μ1.pc = μ.pc ∧ NamesOk μ1 ls names) := by
        intro f1 μ1 Q1 h q qe
        split at h
        · rename_i t b o p
          obtain ⟨c, h1, h⟩ := Option.bind_eq_some_iff.mp h
          refine ⟨wpAny_If (evT_ok O hpc HN n h1 R fun s' R' => ?_), exS_names n HN h⟩
          have := ih (s := s') hpc HN h R' q qe
          cases c with
          | true => exact this
          | false => exact this
        · exact ⟨exA_ok O hpc HN h R q qe, exA_names HN h⟩
      split at h
      · rename_i μ1 h1
        have g := (key _ _ (fun _ _ => True) h1 (fun _ _ _ _ => trivial) (fun e => nomatch e)).2
        refine wpAny_execs_cons (key _ _ _ h1 (fun fl s' hf R' => ?_) (fun e => nomatch e)).1
        cases hf
        exact ih (g.1.trans hpc) g.2 h R' q qe
      · rename_i hn
        refine wpAny_execs_cons (key _ _ _ h (fun fl s' hf R' => ?_) qe).1
        cases f with
        | next => exact absurd h (by intro e; exact hn _ e)
        | brk => cases hf; exact q _ _ rfl R'
        | cont => cases hf; exact q _ _ rfl R'
        | ret v => obtain ⟨u, rfl, r⟩ := hf; exact q _ _ ⟨u, rfl, r⟩ R'
        | exc => exact hf.elim
end
end Mine
end

section
open PySem PySem.W PyProof.Rows PySem.Calls
set_option Elab.async false
set_option maxRecDepth 100000
set_option maxHeartbeats 4000000
namespace Mine
section
variable {M : Model} {A : Around} {E : Value → Shared → Prop} {s : Shared}
theorem setFlight_at {base : Heap} {l : List Env} {e L : Addr} {cls a0 fl : Value} {Q : Unit → Shared → Prop}
    (hkb : base.StaysIn s.heap) (hen : base.get? e = none) (hl : s.heap.FunFrames base l) (ht : s.heap.TracedAtW base e cls a0 fl)
    (h : ∀ h', Heap.HeldW base l e cls a0 L h' → s.heap.UpToSlots h' → Q () { s with heap := h' }) :
    wpAny M A (setFlight (.ref e) (some L)) Q E s := by
  obtain ⟨oe, vs, T, oT, ts, he, hcls, hd, h1, hnT, hTe, hT, hdT, h3⟩ := ht
  have hsz3 : 3 < ts.size := (Array.getElem?_eq_some_iff.mp h3).1
  have other : ∀ b, b ≠ T → (s.heap.update T (Obj.mapFields (·.setIfInBounds 3 ((some L : Option Addr).elim Value.none fun f => rawInt f)))).get? b = s.heap.get? b :=
    fun b hb => Heap.get?_update_other _ _ (Ne.symm hb)
  have noRecord : ∀ b o, s.heap.get? b = some o → (∀ vs, o.data ≠ .fields vs) → b ≠ T := fun b o hb hnf q => by
    rw [q, hT] at hb; injection hb with hb; subst hb; exact hnf ts hdT
  unfold setFlight
  refine wpAny_bind (wpAny_field he hd h1 ?_)
  rw [if_pos (show (Value.ref T != Value.none) = true from by simp)]
  refine wpAny_setField hT hdT hsz3 (h _ ⟨fun b o hbo => (other b fun q => by rw [q, hnT] at hbo; cases hbo).trans (hkb b o hbo), hen,
    hl.of_keeps fun b o hb hnf => ⟨o, (other b (noRecord b o hb hnf)).trans hb, rfl⟩, ?_⟩ fun b o hb hnf => ⟨o.slots, (other b (noRecord b o hb hnf)).trans hb⟩)
  exact ⟨oe, vs, T, _, _, (other e (Ne.symm hTe)).trans he, hcls, hd, h1, hnT, hTe, Heap.get?_update_self _ hT (Obj.isFreed_of_fields (Obj.data_mapFields hdT _)), Obj.data_mapFields hdT _, by simp [hsz3]⟩
/-- the first note of a new exception -/
theorem note_made {base h : Heap} {env : Env} {outer : List Env} {L e : Addr} {cls : Value} {args : List Value} {Q : Unit → Shared → Prop}
    (hfr : A.frames = some (env :: outer)) (hf : env.frame = some L) (hkb : base.StaysIn h) (hl : h.FunFrames base (env :: outer)) (hx : Heap.MadeExcOf h s.heap e cls args)
    (hQ : ∀ h' t, Heap.HeldW base (env :: outer) e cls (.ref t) L h' → h'.TupAt t args → base.get? t = none → s.heap.UpToSlots h' → Q () { s with heap := h' }) : wpAny M A (noteFrame (.ref e) env) Q E s := by
  obtain ⟨t, he, htn, ht⟩ := hx.there
  have fresh : ∀ b, h.get? b = none → base.get? b = none := fun b hb => by
    cases hq : base.get? b with
    | none => rfl
    | some o' => have := hkb b o' hq; rw [hb] at this; cases this
  unfold noteFrame
  simp only [hf]
  refine wpAny_bind (wpAny_field (x := .none) he rfl rfl ?_)
  rw [if_neg (by decide)]
  refine wpAny_entryW (a0 := .ref t) hfr (hl.of_keeps fun b o hb _ => ⟨o, hx.keeps b o hb, rfl⟩) hf he (fun b o hb => hx.keeps b o (hkb b o hb)) (fresh e hx.new) rfl (by show 1 < 6; omega) rfl fun h' hL => ?_
  obtain ⟨k1, k2, k3, k4⟩ := hL
  exact hQ h' t ⟨k1, fresh e hx.new, k2, k3⟩ (Heap.TupAt.of_slots ⟨_, _, ht, rfl, rfl⟩ k4) (fresh t htn) k4
theorem came_back {base : Heap} {env : Env} {outer : List Env} {L e : Addr} {cls a0 : Value} (hf : env.frame = some L) (hh : Heap.HeldW base (env :: outer) e cls a0 L s.heap)
    (hQ : ∀ h', Heap.HeldW base (env :: outer) e cls a0 L h' → s.heap.UpToSlots h' → E (.ref e) { s with heap := h' }) : cameBackBy M A env E (.ref e) s := by
  unfold cameBackBy
  obtain ⟨f1, f2, f3, f4⟩ := hh
  have f4' := f4
  obtain ⟨oe, vs, T, oT, ts, he, hcls, hd, h1, hnT, hTe, hT, hdT, h3⟩ := f4
  refine wpAny_bind (wpAny_field he hd h1 ?_)
  rw [hf]
  exact setFlight_at f1 f2 f3 f4' hQ
/-- out of a loop's turn and out of the frame -/
theorem leave_loop {base g h : Heap} {outer : List Env} {L a e : Addr} {m : Str → Option Value} {name : Str} {scope : Scope} {cd : Value} {cls : Value} {vs : List Value} {R : Value → Shared → Prop} (K : Below A base outer g) (hx : Heap.MadeExcOf h s.heap e cls vs) (F : Fr g L h m)
    (hQ : ∀ h' t, RaisedS base g outer e cls t vs [] h' → g.UpToSlots h' → R (.ref e) { s with heap := h' }) (hk : scope.kind = .function) :
    notedBy M (A.deeper (envOf name scope L a cd)) (envOf name scope L a cd) (fun e s' => cameBackBy M (A.deeper (envOf name scope L a cd)) (envOf name scope L a cd) (fun e s' => wpAny M (A.deeper (envOf name scope L a cd)) (leaving (envOf name scope L a cd) e) (fun _ s'' => R e s'') (fun e' s'' => R e' s'') s') e s') (.ref e) s := by
  have K' := K.push (name := name) (a := a) (cd := cd) F hk
  have hin : ∀ env ∈ (envOf name scope L a cd :: outer), ∀ b, env.frame = some b → b ∈ (envOf name scope L a cd :: outer).filterMap (·.frame) := fun env he b hb => List.mem_filterMap.mpr ⟨env, he, hb⟩
  have st : base.StaysIn (hideAll h ((envOf name scope L a cd :: outer).filterMap (·.frame))) := fun b o q => hideAll_get _ (K'.stays b o q) fun hm => by
    rw [(K'.frames.mem hm).1] at q; cases q
  have sg : ∀ b o, g.get? b = some o → b ∉ outer.filterMap (·.frame) → (hideAll h ((envOf name scope L a cd :: outer).filterMap (·.frame))).get? b = some o := fun b o q nm => hideAll_get _ (F.keep b o q) fun hm => by
    rcases kts_mem hm with z | z
    · rw [z, kts_self F] at q
      cases q
    · exact nm z
  unfold notedBy
  refine note_made (env := envOf name scope L a cd) (outer := outer) (L := L) K'.stack rfl (fun b o q => of_hideAll _ q) (funFrames_hide K'.frames hin) hx fun h1 t x1 x2 x3 x4 => ?_
  refine came_back rfl x1 fun h2 y1 y2 => ?_
  have y1' := y1
  unfold leaving
  refine wpAny_bind (wpAny_noteFrame_againW rfl y1.2.2.2 ?_)
  refine wpAny_landsW y1 fun h3 z1 z2 => ?_
  obtain ⟨k1, k2, ⟨_, _, k3⟩, k4⟩ := z1
  exact hQ h3 t ⟨⟨_, st, sg, (fun _ hq => nomatch hq), ⟨k1, k2, k3, k4⟩, x3⟩, (x2.of_slots y2).of_slots z2⟩ (((((Heap.UpToSlots.of_keeps F.keep).trans (Heap.UpToSlots.of_keeps hx.keeps)).trans x4).trans y2).trans z2)
end
end Mine
end

section
open PySem PySem.W PyProof.Rows PySem.Calls Builtin
set_option Elab.async false
set_option maxRecDepth 100000
set_option maxHeartbeats 4000000
namespace Mine
noncomputable abbrev dequeObj : Obj := { cls := .type "collections.deque", data := .fields #[.none, rawInt 0] }
theorem noBool_deque : typeLookup (.type "collections.deque") "__bool__" = pure none := by rw [typeLookup_type, builtinLookup_eq_fast]; kernel_rfl
theorem slot_deque_len : Slot "collections.deque" "__len__" "collections.deque.__len__" :=
  .of (owner := "collections.deque") (n := "__len__") (by rw [typeLookup_type, builtinLookup_eq_fast]; kernel_rfl) (by decide +kernel) (by decide +kernel) (by decide +kernel)
    (by first | exact .inl (by decide +kernel) | exact .inr (by decide +kernel)) (by rw [isSubtype_type]; kernel_rfl)
theorem entry_deque_len : entryFor table "collections.deque.__len__" = some Builtin.«collections.deque.__len__» := entryFor_of_fast (by kernel_rfl)
theorem args_deque_len (a : Value) : argsOk "collections.deque.__len__" ⟨[a], []⟩ := by unfold argsOk; kernel_rfl
section
variable {prog : Program} {w : World} {A : Around} {E : Value → Shared → Prop} {s : Shared}
theorem len_deque {l : Addr} {Q : Value → Shared → Prop} (hl : s.heap.get? l = some dequeObj)
    (h : Q (.int 0 (s.toks + 1)) { s with toks := s.toks + 1 + 1 }) : wpAny (model prog w) A (Builtin.«len» ⟨[.ref l], []⟩) (fun fin s' => ∃ r, fin = .done (.ret r) ∧ Q r s') E s := by
  have hT : s.TypeIs (.ref l) "collections.deque" := ⟨_, hl, rfl⟩
  unfold Builtin.«len»
  refine wpAny_bind (m := oneArg "len" _) (wpAny_pure ?_)
  refine wpAny_bind (m := callSpecial? (.ref l) (Str.ofString "__len__")) (wpAny_callSpecial?_slot (name := Str.ofString "__len__") hT slot_deque_len
    (wpAny_call_entry slot_deque_len hT entry_deque_len ?_ (args_deque_len _)))
  show wpAny _ _ (do retInt (← Builtin.Deque.size (← slotArgs "__len__" 0 ⟨[.ref l], []⟩).1)) _ _ s
  refine wpAny_bind (m := slotArgs "__len__" 0 ⟨[.ref l], []⟩) (wpAny_pure ?_)
  unfold Builtin.Deque.size
  refine wpAny_bind (wpAny_bind (wpAny_fieldsOf hl rfl (wpAny_pure ?_)))
  refine wpAny_bind (wpAny_mkInt (wpAny_pure ⟨_, rfl, ?_⟩))
  refine wpAny_bind (wpAny_holding (wpAny_pure ?_))
  refine wpAny_bind (wpAny_letGo ?_)
  show wpAny _ _ (if (0 : Int) < 0 then _ else _) _ _ _
  rw [if_neg (by omega)]
  show wpAny _ _ (if (0 : Int) ≥ 2 ^ 63 then _ else _) _ _ _
  rw [if_neg (by omega)]
  exact wpAny_bind (wpAny_mkInt (wpAny_pure ⟨_, rfl, h⟩))
theorem truthy_deque {l : Addr} {Q : Bool → Shared → Prop} (hl : s.heap.get? l = some dequeObj)
    (h : Q false { s with toks := s.toks + 1 + 1 }) : wpAny (model prog w) A (truthy (.ref l)) Q E s := by
  have hT : s.TypeIs (.ref l) "collections.deque" := ⟨_, hl, rfl⟩
  have key : wpAny (model prog w) A (runValue (.builtin "len" ⟨[.ref l], []⟩)) (fun r s' => r = .int 0 (s.toks + 1) ∧ Q false s') E s := by
    refine wpAny_runValue (codeAny_builtin entry_len ?_)
    rw [Around.under_plainId plain_len _]
    exact wpAny_mono (len_deque (Q := fun r s' => r = .int 0 (s.toks + 1) ∧ Q false s') hl ⟨rfl, h⟩)
      (fun fin s' h' => by obtain ⟨r, rfl, hq⟩ := h'; exact hq) fun _ _ e => e
  unfold truthy
  first
    | refine wpAny_bind (wpAny_callSpecial?_none (name := Str.ofString "__bool__") hT noBool_deque ?_)
    | refine wpAny_bind (wpAny_pure (wpAny_bind (wpAny_callSpecial?_none (name := Str.ofString "__bool__") hT noBool_deque ?_)))
  first
    | refine wpAny_bind (wpAny_specialOf (name := Str.ofString "__len__") hT slot_deque_len.lookup ?_)
    | refine wpAny_bind (wpAny_pure (wpAny_bind (wpAny_specialOf (name := Str.ofString "__len__") hT slot_deque_len.lookup ?_)))
  first
    | exact wpAny_bind (wpAny_mono key (fun r s' h' => by obtain ⟨rfl, hq⟩ := h'; exact wpAny_pure hq) fun _ _ e => e)
    | exact wpAny_bind (wpAny_pure (wpAny_bind (wpAny_mono key (fun r s' h' => by obtain ⟨rfl, hq⟩ := h'; exact wpAny_pure hq) fun _ _ e => e)))
end
end Mine
end

section
open PySem PySem.W PyProof.Rows PySem.Calls Builtin
set_option Elab.async false
set_option maxRecDepth 100000
set_option maxHeartbeats 4000000
namespace Mine
noncomputable abbrev citObj (f sent : Value) (b : Bool) : Obj := { cls := .type "callable_iterator", data := .fields #[f, sent, .bool b] }
theorem slot_cit_next : Slot "callable_iterator" "__next__" "callable_iterator.__next__" :=
  .of (owner := "callable_iterator") (n := "__next__") (by rw [typeLookup_type, builtinLookup_eq_fast]; kernel_rfl) (by decide +kernel) (by decide +kernel) (by decide +kernel)
    (by first | exact .inl (by decide +kernel) | exact .inr (by decide +kernel)) (by rw [isSubtype_type]; kernel_rfl)
theorem entry_cit_next : entryFor table "callable_iterator.__next__" = some Builtin.«callable_iterator.__next__» := entryFor_of_fast (by kernel_rfl)
theorem args_cit_next (a : Value) : argsOk "callable_iterator.__next__" ⟨[a], []⟩ := by unfold argsOk; kernel_rfl
theorem slot_cit_iter : Slot "callable_iterator" "__iter__" "callable_iterator.__iter__" :=
  .of (owner := "callable_iterator") (n := "__iter__") (by rw [typeLookup_type, builtinLookup_eq_fast]; kernel_rfl) (by decide +kernel) (by decide +kernel) (by decide +kernel)
    (by first | exact .inl (by decide +kernel) | exact .inr (by decide +kernel)) (by rw [isSubtype_type]; kernel_rfl)
theorem entry_cit_iter : entryFor table "callable_iterator.__iter__" = some Builtin.«dict_keyiterator.__iter__» :=
  entryFor_alias (id' := "dict_keyiterator.__iter__") (by kernel_rfl) rfl (by decide +kernel) (by kernel_rfl)
theorem args_cit_iter (a : Value) : argsOk "callable_iterator.__iter__" ⟨[a], []⟩ := by unfold argsOk; kernel_rfl
section
variable {prog : Program} {w : World} {A : Around} {E : Value → Shared → Prop} {s : Shared}
theorem callBorrowed_ok {M : Model} {f : Value} {pos : List Value} {Q : Value → Shared → Prop}
    (hc : codeAny M A (.call f ⟨pos, []⟩) (fun r s' => match r with | .ok (.ret v) => Q v s' | .ok _ => False | .error e => E e s') s) : wpAny M A (callBorrowed f pos) Q E s := by
  intro Γ p hΓ
  have := wpAny_call hc Γ p hΓ
  rw [Sem.wp_cmd_call] at this
  unfold callBorrowed
  rw [Sem.wp_call]
  refine Eq.mp ?_ this
  congr 1
  funext r s'
  cases r with
  | error e => rfl
  | ok f => cases f <;> rfl
theorem iter_cit {it : Addr} {f sent : Value} {b : Bool} {Q : Value → Shared → Prop} (hit : s.heap.get? it = some (citObj f sent b)) (h : Q (.ref it) s) : wpAny (model prog w) A (pyIter (.ref it)) Q E s := by
  have hT : s.TypeIs (.ref it) "callable_iterator" := ⟨_, hit, rfl⟩
  refine wpAny_pyIter_slot hT slot_cit_iter (wpAny_call_entry slot_cit_iter hT entry_cit_iter ?_ (args_cit_iter _))
  exact wpAny_pure ⟨_, rfl, "callable_iterator", _, hT, slot_cit_next.lookup, h⟩
theorem borrows_meth {q fn : Addr} {self : Value} {ofn : Obj} {fd : FuncData} {Q : Bool → Shared → Prop} (hq : s.heap.get? q = some (methodObj (.ref fn) self)) (hf : s.heap.get? fn = some ofn) (hd : ofn.data = .func fd) (h : Q true s) : wpAny (model prog w) A (borrowsExactly (.ref q)) Q E s := by
  unfold borrowsExactly
  refine wpAny_bind (wpAny_load hq ?_)
  show wpAny _ _ (do match (← load fn).data with | .func _ => pure true | _ => pure false) _ _ _
  refine wpAny_bind (wpAny_load hf ?_)
  rw [hd]
  exact wpAny_pure h
theorem next_cit {it q fn : Addr} {self : Value} {ofn : Obj} {fd : FuncData} {t : Nat} {Q : Option Value → Shared → Prop} (hh : A.handled = none) (hit : s.heap.get? it = some (citObj (.ref q) (.str (Str.ofString "") t) false)) (hq : s.heap.get? q = some (methodObj (.ref fn) self)) (hf : s.heap.get? fn = some ofn) (hd : ofn.data = .func fd)
    (hc : codeAny (model prog w) A.in1 (.call (.ref fn) ⟨[self], []⟩) (fun r s' => match r with
      | .ok (.ret v) => ∃ x t', v = .str x t' ∧ s'.heap.get? it = some (citObj (.ref q) (.str (Str.ofString "") t) false) ∧ s'.heap.get? q = some (methodObj (.ref fn) self) ∧ s'.heap.get? fn = some ofn ∧
        (if x = Str.ofString "" then ∀ h', h'.get? it = some (citObj .none .none true) → Heap.ExtBut it s'.heap h' → Q none { s' with heap := h' } else Q (some (.str x t')) s')
      | _ => False) s) : wpAny (model prog w) A (pyNext (.ref it)) Q E s := by
  have hT : s.TypeIs (.ref it) "callable_iterator" := ⟨_, hit, rfl⟩
  unfold pyNext
  refine wpAny_bind (wpAny_attempt (wpAny_callSpecial?_slot (name := Str.ofString "__next__") hT slot_cit_next
    (wpAny_call_entry slot_cit_next hT entry_cit_next ?_ (args_cit_next _))))
  unfold Builtin.«callable_iterator.__next__»
  refine wpAny_bind (m := slotArgs "__next__" 0 _) (wpAny_pure ?_)
  refine wpAny_bind (wpAny_field hit rfl (x := .bool false) rfl ?_)
  rw [if_neg (by decide)]
  refine wpAny_bind (wpAny_field hit rfl (x := .ref q) rfl ?_)
  refine wpAny_bind (wpAny_attempt ?_)
  unfold callOutOfASlot
  refine wpAny_bind (borrows_meth hq hf hd ?_)
  rw [if_pos rfl]
  refine callBorrowed_ok (method_call hq (codeAny_mono hc ?_))
  intro r s' h
  cases r with
  | error e => exact h.elim
  | ok fl =>
    cases fl with
    | ret v =>
      obtain ⟨x, t', rfl, hit', hq', hf', h⟩ := h
      dsimp only
      refine wpAny_bind (wpAny_field hit' rfl (x := .bool false) rfl ?_)
      rw [if_neg (by decide)]
      refine wpAny_bind (wpAny_field hit' rfl (x := .str (Str.ofString "") t) rfl ?_)
      refine wpAny_bind (wpAny_holding (eqBool_str ?_))
      by_cases hx : x = Str.ofString ""
      · subst hx
        rw [if_pos rfl] at h
        rw [if_neg (by decide)]
        refine wpAny_bind (wpAny_rule ?_)
        refine wpAny_bind ?_
        refine wpAny_bind (wpAny_field hit' rfl (x := .ref q) rfl ?_)
        refine wpAny_bind ?_
        unfold slotLetsGo
        refine wpAny_bind (borrows_meth hq' hf' hd ?_)
        rw [if_pos rfl]
        refine wpAny_pure ?_
        refine wpAny_bind (wpAny_setField hit' rfl (by show 0 < 3; omega) ?_)
        have g1 := Heap.get?_update_self (Obj.mapFields (·.setIfInBounds 0 Value.none)) hit' rfl
        refine wpAny_bind (wpAny_setField g1 rfl (by show 1 < 3; omega) ?_)
        have g2 := Heap.get?_update_self (Obj.mapFields (·.setIfInBounds 1 Value.none)) g1 rfl
        refine wpAny_setField g2 rfl (by show 2 < 3; omega) ?_
        have g3 := Heap.get?_update_self (Obj.mapFields (·.setIfInBounds 2 (Value.bool true))) g2 rfl
        have gb := ((Heap.SameBut.update s'.heap it (Obj.mapFields (·.setIfInBounds 0 Value.none))).trans (Heap.SameBut.update _ it (Obj.mapFields (·.setIfInBounds 1 Value.none)))).trans (Heap.SameBut.update _ it (Obj.mapFields (·.setIfInBounds 2 (Value.bool true))))
        show wpAny _ _ (newExc (.type "StopIteration") [] >>= _) _ _ _
        refine wpAny_bind ?_
        simp only [newExc, newTuple]
        refine wpAny_bind (wpAny_newObj_type ?_ (by size_fits))
        refine wpAny_bind (m := firstArgMember _ _) (wpAny_of_eq (a := Value.none) (by first | rfl | (simp only [firstArgMember]; rfl)) ?_)
        refine wpAny_newObj_type ?_ (by size_fits)
        simp only [raiseNew]
        refine wpAny_bind (wpAny_handled ?_)
        first | rw [show A.in1.handled = none from hh] | rw [hh]
        refine wpAny_bind (wpAny_pure (wpAny_throw ?_))
        refine wpAny_bind (wpAny_isInstance (T := "StopIteration") (b := true) ⟨_, Heap.get?_push_size _ rfl, rfl⟩ isSubtype_stop ?_)
        refine wpAny_pure (h _ ?_ ?_)
        · exact Heap.get?_push_of_some _ (Heap.get?_push_of_some _ g3)
        · exact fun b o hb e => Heap.get?_push_of_some _ (Heap.get?_push_of_some _ ((gb.2 b hb).trans e))
      · rw [if_neg hx] at h
        have e : (Str.ofString "" == x) = false := by
          rw [beq_eq_false_iff_ne]; exact fun e => hx e.symm
        rw [e, if_pos (by decide)]
        exact wpAny_bind (wpAny_pure (wpAny_pure ⟨_, rfl, wpAny_pure h⟩))
    | _ => exact h.elim
end
end Mine
end

section
open PySem PySem.W PyProof.Rows PySem.Calls Builtin
set_option Elab.async false
set_option maxRecDepth 100000
set_option maxHeartbeats 4000000
namespace Mine
theorem kind_iter : builtinKind "iter" = none := by decide +kernel
theorem plain_iter : plainId "iter" = true := by decide +kernel
theorem entry_iter : entryFor table "iter" = some Builtin.«iter» := entryFor_of_fast (by kernel_rfl)
theorem args_iter2 (a b : Value) : argsOk "iter" ⟨[a, b], []⟩ := by unfold argsOk; kernel_rfl
theorem method_call_lookup : typeLookup (.type "method") "__call__" = pure (some (.builtin "method.__call__")) := by rw [typeLookup_type, builtinLookup_eq_fast]; kernel_rfl
section
variable {prog : Program} {w : World} {A : Around} {E : Value → Shared → Prop} {s : Shared}
theorem iter2 {q : Addr} {f self sent : Value} {Q : Value → Shared → Prop} (hq : s.heap.get? q = some (methodObj f self)) (h : Q (.ref s.heap.objs.size) { s with heap := s.heap.push (citObj (.ref q) sent false) }) : wpAny (model prog w) A (call (.builtin "iter") [.ref q, sent]) Q E s := by
  have hT : s.TypeIs (.ref q) "method" := ⟨_, hq, rfl⟩
  refine Calls.call_function_entry kind_iter plain_iter entry_iter (args_iter2 _ _) ?_
  unfold Builtin.«iter»
  refine wpAny_bind (m := someArgs "iter" 1 2 _) (wpAny_of_eq (a := [.ref q, sent]) rfl ?_)
  dsimp only
  refine wpAny_bind (wpAny_specialOf (name := Str.ofString "__call__") hT method_call_lookup ?_)
  rw [if_neg (by decide)]
  refine wpAny_bind (wpAny_rule ?_)
  refine wpAny_bind ?_
  unfold newFields
  exact wpAny_newObj_type (wpAny_pure ⟨_, rfl, h⟩) (by size_fits)
theorem next_cit_ended {it : Addr} {Q : Option Value → Shared → Prop} (hh : A.handled = none) (hit : s.heap.get? it = some (citObj .none .none true))
    (hQ : ∀ h', Heap.ExtBut it s.heap h' → h'.get? it = some (citObj .none .none true) → Q none { s with heap := h' }) : wpAny (model prog w) A (pyNext (.ref it)) Q E s := by
  have hT : s.TypeIs (.ref it) "callable_iterator" := ⟨_, hit, rfl⟩
  unfold pyNext
  refine wpAny_bind (wpAny_attempt (wpAny_callSpecial?_slot (name := Str.ofString "__next__") hT slot_cit_next
    (wpAny_call_entry slot_cit_next hT entry_cit_next ?_ (args_cit_next _))))
  unfold Builtin.«callable_iterator.__next__»
  refine wpAny_bind (m := slotArgs "__next__" 0 _) (wpAny_pure ?_)
  refine wpAny_bind (wpAny_field hit rfl (x := .bool true) rfl ?_)
  rw [if_pos (by decide)]
  refine wpAny_bind (wpAny_rule ?_)
  refine wpAny_bind ?_
  show wpAny _ _ (newExc (.type "StopIteration") [] >>= _) _ _ _
  refine wpAny_bind ?_
  simp only [newExc, newTuple]
  refine wpAny_bind (wpAny_newObj_type ?_ (by size_fits))
  refine wpAny_bind (m := firstArgMember _ _) (wpAny_of_eq (a := Value.none) (by first | rfl | (simp only [firstArgMember]; rfl)) ?_)
  refine wpAny_newObj_type ?_ (by size_fits)
  simp only [raiseNew]
  refine wpAny_bind (wpAny_handled ?_)
  first | rw [show A.in1.handled = none from hh] | rw [hh]
  refine wpAny_bind (wpAny_pure (wpAny_throw ?_))
  refine wpAny_bind (wpAny_isInstance (T := "StopIteration") (b := true) ⟨_, Heap.get?_push_size _ rfl, rfl⟩ isSubtype_stop ?_)
  exact wpAny_pure (hQ _ (((Heap.ExtBut.refl it s.heap).push _).push _) (Heap.get?_push_of_some _ (Heap.get?_push_of_some _ hit)))
end
end Mine
end

section
open PySem PySem.W PyProof.Rows PySem.Calls
set_option Elab.async false
set_option maxRecDepth 100000
set_option maxHeartbeats 8000000
namespace Mine
section
variable {w : World} {s : Shared} {A : Around} {base g : Heap} {fr : List Env} {mg mb : Str → Option Value} {mean : ExcName → Option Value} {x dx : Addr} {es : List DictEntry} {led : List (Addr × Obj)} {t n : Nat} {R : Result → Shared → Prop}
theorem punct (G : Gd w A base fr mean mg mb g) (hroom : A.depth + 2 < recursionLimit) (k : Ke g s.heap) (S : Sub g s.heap ((x, instObj 722 dx) :: (dx, dictOf es n) :: led)) (hg : getL "_punctuation_chars" es = some (some (.str (Str.ofString "") t)))
    (hR : ∀ h' tk, Ke g h' → Sub g h' ((x, instObj 722 dx) :: (dx, dictOf es n) :: led) → R (.ok (.ret (.str (Str.ofString "") t))) { s with heap := h', toks := tk }) :
    codeAny (model PySem.Challenge.rw_om0137_01.row.prog w) A (.call (.ref 653) ⟨[.ref x], []⟩) R s := by
  have X := G.X
  revert X
  k_fill
  intro X
  refine enterG (binds := [("self", .ref x)]) G S k (by k_is) (by k_is) (by omega) (BindsTo.of_eq rfl) rfl ?_ (by decide) rfl rfl rfl
  intro L' h₁ F' N' hlt
  refine wpAny_execs_cons (wpAny_Return_some (Attribute_Name_ (wpAny_Name (wpAny_loadName_local rfl rfl F'.ns rfl (get_own F' G.X (InstAt.of_news N' (.head _) (.tail _ (.head _))) (by k_is) (by k_is) (by k_is) (by k_is) hg rfl ?_)))))
  exact hR _ _ (Ke.of_fr F') (Sub.of_news N')
end
noncomputable abbrev CxR (w : World) (A : Around) (env : Env) (g : Heap) (L : Addr) (s : Shared) (x dx C n : Addr) (led : List (Addr × Obj)) (T0 : Str) (ln0 : Int) (W : Str) (refs : Nat → Value) : Cx :=
  { prog := PySem.Challenge.rw_om0137_01.row.prog, w := w, A := A, env := env, K := hd.heap_39 w.params, g := g, L := L, s0 := s, x := x, dx := dx, C := C, n := n, led := led, T0 := T0, ln0 := ln0, W := W, refs := refs }
noncomputable def lsR : List Str := ["nextchar", "quoted", "escapedstate", "result"]
noncomputable def namesR : List Str := ["instream", "infile", "posix", "eof", "commenters", "wordchars", "whitespace", "whitespace_split", "quotes", "escape", "escapedquotes", "state", "pushback", "lineno", "debug", "token", "filestack", "source", "_punctuation_chars"]
theorem any_eqS {x : Str} {l : List Str} (h : l.any (eqS x) = true) : x ∈ l := by
  obtain ⟨y, hy, e⟩ := List.any_eq_true.mp h
  rw [eqS_iff.mp e]; exact hy
theorem all_of {P : Str → Prop} : ∀ {l : List Str}, (∀ x ∈ l, P x) ↔ l.foldr (fun x r => P x ∧ r) True
  | [] => by simp
  | a :: l => by simp only [List.foldr, List.mem_cons, forall_eq_or_imp]; rw [all_of]
theorem lsR_ok : ∀ y ∈ lsR, (y == ("__debug__" : Str)) = false ∧ y ≠ Str.ofString "self" := by decide
theorem find_lex (w : World) (f : Str) (hf : f ∈ namesR) : findIn (hd.heap_39 w.params) (.ref 722) f = some none ∧ takerIn (hd.heap_39 w.params) 722 f = some none := by
  have e : PySem.Challenge.rw_om0137_01 = PySem.Challenge.rw_om0137_01 := rfl
  revert e
  k_fill
  intro _
  revert f
  rw [all_of]
  simp only [namesR, List.foldr]
  refine ⟨?_, ?_, ?_, ?_, ?_, ?_, ?_, ?_, ?_, ?_, ?_, ?_, ?_, ?_, ?_, ?_, ?_, ?_, ?_, trivial⟩ <;> (constructor <;> k_is)
theorem cls_lex (w : World) : plainGet (hd.heap_39 w.params) 722 "state" = true ∧ hasDictIn (hd.heap_39 w.params) 722 = true ∧ findIn (hd.heap_39 w.params) (.ref 722) "__setattr__" = some (some (.builtin "object.__setattr__")) ∧ plainOver (hd.heap_39 w.params) 722 = true ∧ nsIn (hd.heap_39 w.params) mainGlobals "ValueError" = some none := by
  have e : PySem.Challenge.rw_om0137_01 = PySem.Challenge.rw_om0137_01 := rfl
  revert e
  k_fill
  intro _
  refine ⟨?_, ?_, ?_, ?_, ?_⟩ <;> k_is
theorem prop_lex (w : World) : ∃ p rest, findIn (hd.heap_39 w.params) (.ref 722) "punctuation_chars" = some (some (.ref p)) ∧ specialIn (hd.heap_39 w.params) (.ref p) "__get__" = some (some (.builtin "property.__get__")) ∧ takesIn (hd.heap_39 w.params) (.ref p) = some true ∧ recIn (hd.heap_39 w.params) p "property" = some (.ref 653 :: rest) := by
  have e : PySem.Challenge.rw_om0137_01 = PySem.Challenge.rw_om0137_01 := rfl
  revert e
  k_fill
  intro _
  exact ⟨_, _, by k_is, by k_is, by k_is, by k_is⟩

section
variable {w : World} {s : Shared} {A : Around} {base g : Heap} {fr : List Env} {mg mb : Str → Option Value} {mean : ExcName → Option Value} {x dx L f : Addr} {led : List (Addr × Obj)} {cn : Str} {cs : Scope} {cd : Value} {T0 W : Str} {ln0 : Int} {refs : Nat → Value} {pc : Bool} {ls : List Str}
theorem ok_lex (G : Gd w A base fr mean mg mb g) (hroom : A.depth + 8 < recursionLimit) (hh : A.handled = none) (hk : cs.kind = .function) (hl : ∀ x ∈ ls, cs.names.lookup x = some .local) (hls : ∀ y ∈ ls, (y == ("__debug__" : Str)) = false ∧ y ≠ Str.ofString "self") (hsf : cs.names.lookup (Str.ofString "self") = some .local) (hv : pc = true → cs.names.lookup (Str.ofString "ValueError") = some .globalImplicit)
    (hap : x ≠ dx ∧ ∀ p ∈ led, p.1 ≠ dx) (hT : T0.length ≤ 3000) :
    Ok (CxR w (A.deeper (envOf cn cs L f cd)) (envOf cn cs L f cd) g L s x dx 722 19 led T0 ln0 W refs) pc ls namesR where
  X := G.X
  kind := hk
  locals := rfl
  isLoc := fun y hy => ⟨hl y (any_eqS hy), hls y (any_eqS hy)⟩
  self := hsf
  apart := hap
  plain := fun _ => (cls_lex w).1
  dict := (cls_lex w).2.1
  find := fun f hf => ⟨none, (find_lex w f (any_eqS hf)).1, rfl⟩
  setter := (cls_lex w).2.2.1
  over := (cls_lex w).2.2.2.1
  taker := fun f hf => (find_lex w f (any_eqS hf)).2
  small := hT
  prop := by
    intro _ μ s' Q E hp R q
    obtain ⟨h, tk, m, es, rfl, F, l, sf, fr', N⟩ := R
    obtain ⟨p, rest, p1, p2, p3, p4⟩ := prop_lex w
    obtain ⟨u, eu, t, rfl⟩ := getL_of fr' hp
    refine get_prop F G.X (InstAt.of_news N (.head _) (.tail _ (.head _))) (cls_lex w).1 (cls_lex w).2.1 p1 p2 p3 p4 ?_
    obtain ⟨G', S', k', back⟩ := pushY (A := (A.deeper (envOf cn cs L f cd)).in1) (s := { s with heap := h, toks := tk + 1 }) G.B F N (Around.frames_deeper G.B.stack) rfl hk G.X G.T
    refine punct G' (by simp only [depth_in1, depth_deeper]; omega) k' S' eu fun h' tk' k2 S2 => ?_
    obtain ⟨F2, N2⟩ := back [] News.nil (fun _ hp => nomatch hp) h' _ k2 S2
    rw [List.append_nil] at N2
    refine wpAny_of_eq (a := _) (handedOut_of rfl) ?_
    exact q t _ ⟨h', tk', m, es, rfl, F2, l, sf, fr', N2⟩
  handled := hh
  valErr := by
    intro hpc s' pos Q E μ R q
    have R' := R
    obtain ⟨h, tk, m, es, rfl, F, l, sf, fr', N⟩ := R
    exact ld_builtin_at F G.T.g (mg_none_of G.X G.T.g (cls_lex w).2.2.2.2) G.T.b ((G.T.builtins _ (by decide)).trans (by boot_by_name)) (q _ R') hk (hv hpc) (by decide)
end
end Mine
end

section
open PySem PySem.W PyProof.Rows PySem.Calls
set_option Elab.async false
set_option maxRecDepth 100000
set_option maxHeartbeats 8000000
namespace Mine
noncomputable def clsBody (c : Str) : List Stmt → List Stmt
  | [] => []
  | .ClassDef n _ _ b _ _ _ _ _ _ _ :: r => if eqS n c then b else clsBody c r
  | _ :: r => clsBody c r
noncomputable def defBody (c : Str) : List Stmt → List Stmt
  | [] => []
  | .FunctionDef n _ b _ _ _ _ _ _ _ :: r => if eqS n c then b else defBody c r
  | _ :: r => defBody c r
noncomputable def rtBody : List Stmt := defBody "read_token" (clsBody "shlex" PySem.Challenge.rw_om0137_01.row.prog.main.body)
noncomputable def rtTurn : List Stmt := match rtBody with
  | [_, _, .While _ b _ _, _, _, _, _, _] => b
  | _ => []
noncomputable def rtRest : List Stmt := rtTurn.drop 1
noncomputable def wdL : List Nat := sL (Str.ofString "abcdfeghijklmnopqrstuvwxyzABCDEFGHIJKLMNOPQRSTUVWXYZ0123456789_ßàáâãäåæçèéêëìíîïðñòóôõöøùúûüýþÿÀÁÂÃÄÅÆÇÈÉÊËÌÍÎÏÐÑÒÓÔÕÖØÙÚÛÜÝÞ")
noncomputable def lf (st tok ln : V) (wc : Nat) (wb : Bool) (Qs Cs : List Nat) (ws : Bool) : List (Str × V) := [("instream", .obj 0), ("infile", .none), ("posix", .bool true), ("eof", .none), ("commenters", .str Cs),
  ("wordchars", .str wdL),
  ("whitespace", .whites wc wb), ("whitespace_split", .bool ws), ("quotes", .str Qs), ("escape", .str [92]), ("escapedquotes", .str [34]), ("state", st), ("pushback", .obj 1), ("lineno", ln), ("debug", .int 0), ("token", tok), ("filestack", .obj 2), ("source", .none), ("_punctuation_chars", .str [])]
noncomputable def stV : Option Nat → V
  | none => .none
  | some k => .str [k]
noncomputable def ncV : Option Nat → V
  | none => .str []
  | some c => .str [c]
/-- a turn of read_token's loop -/
structure Stp where
  f : Fl
  es : Nat
  q : Bool
  st : Option Nat
  set : Bool
  add : List Nat
noncomputable def stepC (qs : List Nat) (wh : Bool) (st : Option Nat) (es : Nat) (q ne : Bool) (c : Option Nat) : Stp := match st with
  | none => ⟨.brk, es, q, none, true, []⟩
  | some k => match c with
    | none => if qs.contains k || k == 92 then ⟨.exc, es, q || qs.contains k, st, false, []⟩ else ⟨.brk, es, q, none, false, []⟩
    | some c =>
      if k == 32 then
        (if wh then ⟨if ne || q then .brk else .cont, es, q, st, false, []⟩
        else if c == 92 then ⟨.next, 97, q, some 92, false, []⟩
        else if qs.contains c then ⟨.next, es, q, some c, false, []⟩
        else ⟨.next, es, q, some 97, true, [c]⟩)
      else if qs.contains k then
        (if c == k then ⟨.next, es, true, some 97, false, []⟩
        else if c == 92 && k == 34 then ⟨.next, k, true, some 92, false, []⟩
        else ⟨.next, es, true, st, false, [c]⟩)
      else if k == 92 then ⟨.next, es, q, some es, false, if qs.contains es && c != 92 && c != es then [92, c] else [c]⟩
      else if wh then ⟨if ne || q then .brk else .cont, es, q, some 32, false, []⟩
      else if qs.contains c then ⟨.next, es, q, some c, false, []⟩
      else if c == 92 then ⟨.next, 97, q, some 92, false, []⟩
      else ⟨.next, es, q, st, false, [c]⟩
noncomputable def m0 (st : Option Nat) (ne : Bool) (es : Nat) (q : Bool) (c : Option Nat) (wb : Bool) (Qs Cs : List Nat) (ws : Bool) : MS := ⟨true, lsR, [("nextchar", ncV c), ("escapedstate", .str [es]), ("quoted", .bool q)], lf (stV st) (.acc ne []) (.row 0) (c.getD 0) wb Qs Cs ws⟩
noncomputable def sameF : List (Str × V) → List (Str × V) → Bool
  | [], [] => true
  | (x, v) :: r, (y, u) :: r' => eqS x y && decide (v = u) && sameF r r'
  | _, _ => false
theorem sameF_eq : ∀ {l l' : List (Str × V)}, sameF l l' = true → l = l'
  | [], [], _ => rfl
  | (x, v) :: r, (y, u) :: r', h => by
    unfold sameF at h
    rw [Bool.and_eq_true, Bool.and_eq_true] at h
    rw [eqS_iff.mp h.1.1, of_decide_eq_true h.1.2, sameF_eq h.2]
  | [], _ :: _, h => nomatch h
  | _ :: _, [], h => nomatch h
noncomputable def chk (Qs Cs : List Nat) (ws : Bool) (sts : List (Option Nat)) (ess : List Nat) (wb : Bool) (st : Option Nat) (es : Nat) (q ne : Bool) (c : Option Nat) : Bool :=
  let z := stepC Qs wb st es q ne c
  match exS 40 (m0 st ne es q c wb Qs Cs ws) rtRest with
  | none => false
  | some (f, μ) => decide (f = z.f) && decide (lookS "escapedstate" μ.loc = some (.str [z.es])) && decide (lookS "quoted" μ.loc = some (.bool z.q)) &&
    sameF μ.fld (lf (stV z.st) (if z.set then .str z.add else .acc ne z.add) (.row (if c == some 10 then 1 else 0)) (c.getD 0) wb Qs Cs ws) && ess.contains z.es && (sts.contains z.st || decide (z.f = .exc)) && (decide (z.f = .brk) || decide (z.f = .exc) || z.st.isSome && c.isSome) && decide (z.add.length ≤ 2)
noncomputable def bools : List Bool := [true, false]
noncomputable def alpha1 : List Nat := [97,98,66,233,223,32,10,9,34,39,92]
noncomputable def sts1 : List (Option Nat) := [none, some 32, some 97, some 34, some 39, some 92]
noncomputable def ess1 : List Nat := [32, 97, 34]
noncomputable def wh1 (c : Nat) : Bool := c == 32 || c == 10 || c == 9 || c == 13
theorem tab1a : ([none, some 97, some 98, some 66, some 233, some 223].all fun c => sts1.all fun st => ess1.all fun es => bools.all fun q => bools.all fun ne => chk [39, 34] [35] false sts1 ess1 ((c.map wh1).getD false) st es q ne c) = true := by decide +kernel
theorem tab1b : ([some 32, some 10, some 9, some 34, some 39, some 92].all fun c => sts1.all fun st => ess1.all fun es => bools.all fun q => bools.all fun ne => chk [39, 34] [35] false sts1 ess1 ((c.map wh1).getD false) st es q ne c) = true := by decide +kernel
end Mine
end

section
open PySem PySem.W PyProof.Rows PySem.Calls
set_option Elab.async false
set_option maxRecDepth 100000
set_option maxHeartbeats 8000000
namespace Mine
theorem Rep.congr {Γ Γ' : Cx} {v : V} {u : Value} (h1 : Γ'.T0 = Γ.T0) (h2 : Γ'.ln0 = Γ.ln0) (h3 : Γ'.W = Γ.W) (h4 : Γ'.refs = Γ.refs) (h : Rep Γ v u) : Rep Γ' v u := by
  cases v <;> simp only [Rep] at h ⊢ <;> (try rw [h1]) <;> (try rw [h2]) <;> (try rw [h3]) <;> (try rw [h4]) <;> exact h
inductive Conv (Γ Γ' : Cx) : List (Str × V) → List (Str × V) → Prop
  | nil : Conv Γ Γ' [] []
  | cons {f v v' r r'} : (∀ u, Rep Γ v u → Rep Γ' v' u) → Conv Γ Γ' r r' → Conv Γ Γ' ((f, v) :: r) ((f, v') :: r')
theorem FldRep.conv {Γ Γ' : Cx} {l l' : List (Str × V)} (c : Conv Γ Γ' l l') : ∀ {es : List DictEntry}, FldRep Γ l es → FldRep Γ' l' es := by
  induction c with
  | nil => intro es h; cases h; exact .nil
  | cons a _ ih => intro es h; cases h with | cons b d => exact .cons (a _ b) (ih d)
theorem Conv.same {Γ Γ' : Cx} (h1 : Γ'.T0 = Γ.T0) (h2 : Γ'.ln0 = Γ.ln0) (h3 : Γ'.W = Γ.W) (h4 : Γ'.refs = Γ.refs) : ∀ l, Conv Γ Γ' l l
  | [] => .nil
  | (_, _) :: r => .cons (fun _ h => h.congr h1 h2 h3 h4) (Conv.same h1 h2 h3 h4 r)
theorem lf_conv {Γ Γ' : Cx} {st tok ln st' tok' ln' : V} {wc wc' : Nat} {wb wb' : Bool} {Qs Cs : List Nat} {ws : Bool} (h4 : Γ'.refs = Γ.refs) (hs : ∀ u, Rep Γ st u → Rep Γ' st' u) (ht : ∀ u, Rep Γ tok u → Rep Γ' tok' u) (hl : ∀ u, Rep Γ ln u → Rep Γ' ln' u) (hw : ∀ u, Rep Γ (.whites wc wb) u → Rep Γ' (.whites wc' wb') u) :
    Conv Γ Γ' (lf st tok ln wc wb Qs Cs ws) (lf st' tok' ln' wc' wb' Qs Cs ws) := by
  have ho : ∀ k u, Rep Γ (.obj k) u → Rep Γ' (.obj k) u := fun k u h => by simp only [Rep] at h ⊢; rw [h4]; exact h
  exact .cons (ho 0) (.cons (fun _ h => h) (.cons (fun _ h => h) (.cons (fun _ h => h) (.cons (fun _ h => h) (.cons (fun _ h => h) (.cons hw (.cons (fun _ h => h) (.cons (fun _ h => h) (.cons (fun _ h => h) (.cons (fun _ h => h) (.cons hs (.cons (ho 1) (.cons hl (.cons (fun _ h => h) (.cons ht (.cons (ho 2) (.cons (fun _ h => h) (.cons (fun _ h => h) .nil))))))))))))))))))
theorem LocRep.congr {Γ Γ' : Cx} {loc : List (Str × V)} {m : Str → Option Value} (h1 : Γ'.T0 = Γ.T0) (h2 : Γ'.ln0 = Γ.ln0) (h3 : Γ'.W = Γ.W) (h4 : Γ'.refs = Γ.refs) (h : LocRep Γ loc m) : LocRep Γ' loc m :=
  fun x v e => let ⟨u, e', r⟩ := h x v e; ⟨u, e', r.congr h1 h2 h3 h4⟩
/-- the io part of the ledger -/
structure IO where
  io : Addr
  dio : Addr
  h1 : Int
  h2 : Int
  h3 : Int
  t1 : Nat
  t2 : Nat
  t3 : Nat
  t4 : Nat
  t5 : Nat
  buf : Str
noncomputable abbrev IO.led (i : IO) (p t6 : Nat) : List (Addr × Obj) := [(i.io, instObj 587 i.dio), (i.dio, ioDict i.h1 i.h2 i.h3 i.t1 i.t2 i.t3 i.t4 i.t5 t6 i.buf p)]
theorem read_lex (w : World) : plainGet (hd.heap_39 w.params) 587 "read" = true ∧ findIn (hd.heap_39 w.params) (.ref 587) "read" = some (some (.ref 533)) ∧ isFn (hd.heap_39 w.params) (.ref 533) = true ∧ keepIn (hd.heap_39 w.params) (.ref 533) = true := by
  have e : PySem.Challenge.rw_om0137_01 = PySem.Challenge.rw_om0137_01 := rfl
  revert e
  k_fill
  intro _
  refine ⟨?_, ?_, ?_, ?_⟩ <;> k_is
section
variable {w : World} {s s' : Shared} {A : Around} {base g : Heap} {fr : List Env} {mg mb : Str → Option Value} {mean : ExcName → Option Value} {x dx L f : Addr} {cn : Str} {cs : Scope} {cd : Value} {T0 W : Str} {ln0 : Int} {refs : Nat → Value} {i : IO} {p t6 : Nat} {μ : MS} {E : Value → Shared → Prop} {ls names : List Str}
/-- self.instream.read(1) -/
theorem readE_ok (G : Gd w A base fr mean mg mb g) (hroom : A.depth + 8 < recursionLimit) (hk : cs.kind = .function) (C n : Addr)
    (O : Ok (CxR w (A.deeper (envOf cn cs L f cd)) (envOf cn cs L f cd) g L s x dx C n (i.led p t6) T0 ln0 W refs) pc ls names) (HN : NamesOk μ ls names) (hin : lookS "instream" μ.fld = some (.obj 0)) (h0 : refs 0 = .ref i.io)
    (hne : i.io ≠ i.dio ∧ i.io ≠ x ∧ i.io ≠ dx ∧ i.dio ≠ x ∧ i.dio ≠ dx) (hp : p ≤ 1000) (hb : i.buf.length ≤ 1000)
    (R : Rel (CxR w (A.deeper (envOf cn cs L f cd)) (envOf cn cs L f cd) g L s x dx C n (i.led p t6) T0 ln0 W refs) μ s') {p2 p3 p4 p5 p6 : Pos} {k : Nat} {Q : Value → Shared → Prop} {pl : Sem Bool}
    (he : eval (.Call (.Attribute (.Attribute (.Name (Str.ofString "self") p2) (Str.ofString "instream") p3) (Str.ofString "read") p4) [.Constant (.int 1) k p5] [] p6) (envOf cn cs L f cd) = (do
      let ov ← eval (.Attribute (.Name (Str.ofString "self") p2) (Str.ofString "instream") p3) (envOf cn cs L f cd)
      standAt p4.atName
      let (fz, first) ← holding [ov] (getMethod ov (Str.ofString "read") pl)
      callWith p6 fz first (backTo p6 (starEach [.Constant (.int 1) k p5] (envOf cn cs L f cd))) []))
    (hN : (sL i.buf).drop p = [] → ∀ s'' t, Rel (CxR w (A.deeper (envOf cn cs L f cd)) (envOf cn cs L f cd) g L s x dx C n (i.led p t6) T0 ln0 W refs) μ s'' → Q (.str (ofL []) t) s'')
    (hC : ∀ c r t6', (sL i.buf).drop p = c :: r → ∀ s'' t, Rel (CxR w (A.deeper (envOf cn cs L f cd)) (envOf cn cs L f cd) g L s x dx C n (i.led (p + 1) t6') T0 ln0 W refs) μ s'' → Q (.str (ofL [c]) t) s'') :
    wpAny (model PySem.Challenge.rw_om0137_01.row.prog w) (A.deeper (envOf cn cs L f cd)) (eval (.Call (.Attribute (.Attribute (.Name (Str.ofString "self") p2) (Str.ofString "instream") p3) (Str.ofString "read") p4) [.Constant (.int 1) k p5] [] p6) (envOf cn cs L f cd)) Q E s' := by
  obtain ⟨r1, r2, r3, r4⟩ := read_lex w
  refine MethodCall_ (pl := pl) (Attribute_Name_ (self_ok O R (get_ok O R HN.2.1 hin fun u s2 ru R2 => ?_))) he
  obtain ⟨rfl, -⟩ := ru
  obtain ⟨h, tk, m, es, rfl, F, l, sf, fr', N⟩ := R2
  show wpAny _ _ (getMethod (refs 0) _ _) _ _ _
  rw [h0]
  refine method_inst F G.X (InstAt.of_news N (.tail _ (.tail _ (.head _))) (.tail _ (.tail _ (.tail _ (.head _))))) r1 r2 r3 rfl ?_
  refine callWith_K G.X r4 (spliced_more (wpAny_Constant_int (spliced_none ⟨G.X.keeps F.keep, ?_⟩)))
  refine read_K (A₀ := A) (p := p) (h1 := i.h1) (h2 := i.h2) (h3 := i.h3) (t1 := i.t1) (t2 := i.t2) (t3 := i.t3) (t4 := i.t4) (t5 := i.t5) (t6 := t6) (buf := i.buf) (rest := [(x, instObj C dx), (dx, dictOf es n)]) (io := i.io) (dio := i.dio) G.B F G.X G.T (fun q hq => N q ?_) (Around.frames_deeper G.B.stack) rfl hk (by simp only [depth_deeper]; omega) hne.1 ?_ ?_ hp hb ?_ ?_
  · simp only [List.mem_cons, List.not_mem_nil, or_false] at hq ⊢
    rcases hq with h | h | h | h <;> simp [h]
  · intro q hq
    simp only [List.mem_cons, List.not_mem_nil, or_false] at hq
    rcases hq with h | h <;> rw [h]
    · exact Ne.symm hne.2.1
    · exact Ne.symm hne.2.2.1
  · intro q hq
    simp only [List.mem_cons, List.not_mem_nil, or_false] at hq
    rcases hq with h | h <;> rw [h]
    · exact Ne.symm hne.2.2.2.1
    · exact Ne.symm hne.2.2.2.2
  · intro hD h' tk' t' F' N'
    refine hN hD _ _ ⟨h', tk', m, es, rfl, F', l, sf, fr', fun q hq => N' q ?_⟩
    simp only [List.mem_cons, List.not_mem_nil, or_false] at hq ⊢
    rcases hq with h | h | h | h <;> simp [h]
  · intro c r hD h' tk' t' t6' F' N'
    have cv : Conv (CxR w (A.deeper (envOf cn cs L f cd)) (envOf cn cs L f cd) g L s x dx C n (i.led p t6) T0 ln0 W refs) (CxR w (A.deeper (envOf cn cs L f cd)) (envOf cn cs L f cd) g L s x dx C n (i.led (p + 1) t6') T0 ln0 W refs) μ.fld μ.fld := by apply Conv.same <;> rfl
    refine hC c r t6' hD _ _ ⟨h', tk', m, es, rfl, F', (by apply LocRep.congr (h := l) <;> rfl), sf, fr'.conv cv, fun q hq => N' q ?_⟩
    simp only [List.mem_cons, List.not_mem_nil, or_false] at hq ⊢
    rcases hq with h | h | h | h <;> simp [h]
end
end Mine
end

section
open PySem PySem.W PyProof.Rows PySem.Calls
set_option Elab.async false
set_option maxRecDepth 100000
set_option maxHeartbeats 8000000
namespace Mine
inductive Out where
  | brk (r : List Nat) (st : Option Nat) (ln : Int) (tok : List Nat) (q : Bool)
  | bad
noncomputable def newTok (z : Stp) (tok : List Nat) : List Nat := if z.set then z.add else tok ++ z.add
/-- read_token's loop -/
noncomputable def run (qs : List Nat) (wh : Nat → Bool) : List Nat → Option Nat → Nat → Bool → List Nat → Int → Out
  | [], st, es, q, tok, ln =>
    let z := stepC qs false st es q (!tok.isEmpty) none
    if z.f = .brk then .brk [] z.st ln (newTok z tok) z.q else .bad
  | c :: r, st, es, q, tok, ln =>
    let z := stepC qs (wh c) st es q (!tok.isEmpty) (some c)
    let ln' := if c == 10 then ln + 1 else ln
    if z.f = .brk then .brk r z.st ln' (newTok z tok) z.q else if z.f = .exc then .bad else run qs wh r z.st z.es z.q (newTok z tok) ln'
noncomputable def rt0B : List Stmt := match rtTurn with
  | .If _ b _ _ :: _ => b
  | _ => []
theorem rtTurn_eq : rtTurn = .If (.BoolOp .And [.Attribute (.Name (Str.ofString "self") ⟨571, 15, 571, 19⟩) (Str.ofString "punctuation_chars") ⟨571, 15, 571, 37⟩, .Attribute (.Name (Str.ofString "self") ⟨571, 42, 571, 46⟩) (Str.ofString "_pushback_chars") ⟨571, 42, 571, 62⟩] ⟨571, 15, 571, 62⟩)
    rt0B [.Assign [.Name (Str.ofString "nextchar") ⟨574, 16, 574, 24⟩] (.Call (.Attribute (.Attribute (.Name (Str.ofString "self") ⟨574, 27, 574, 31⟩) (Str.ofString "instream") ⟨574, 27, 574, 40⟩) (Str.ofString "read") ⟨574, 27, 574, 45⟩) [.Constant (.int 1) 0 ⟨574, 46, 574, 47⟩] [] ⟨574, 27, 574, 48⟩) ⟨574, 16, 574, 48⟩] ⟨571, 12, 574, 48⟩ :: rtRest := by kernel_rfl
/-- ahead of a turn -/
noncomputable def μI (Qs Cs : List Nat) (ws : Bool) (ne : Bool) (st : Option Nat) (es : Nat) (q : Bool) : MS := ⟨true, lsR, [("escapedstate", .str [es]), ("quoted", .bool q)], lf (stV st) (.acc ne []) (.row 0) 0 false Qs Cs ws⟩
theorem lf_names {st tok ln : V} {wc : Nat} {wb : Bool} {Qs Cs : List Nat} {ws : Bool} {f : Str} {v : V} (h : lookS f (lf st tok ln wc wb Qs Cs ws) = some v) : namesR.any (eqS f) = true := by
  have aux : ∀ (l : List (Str × V)) (names : List Str), l.map (·.1) = names → lookS f l = some v → names.any (eqS f) = true := by
    intro l
    induction l with
    | nil => intro names _ h; cases h
    | cons p l ih =>
      intro names e h
      subst e
      obtain ⟨y, u⟩ := p
      unfold lookS at h
      rw [List.map_cons, List.any_cons]
      split at h
      · rename_i hy
        rw [eqS_iff.mp hy, eqS_iff.mpr rfl]; rfl
      · rw [ih _ rfl h, Bool.or_true]
  exact aux _ _ rfl h
theorem names_lf {st tok ln : V} {wc : Nat} {wb : Bool} {Qs Cs : List Nat} {ws : Bool} {loc : List (Str × V)} : NamesOk ⟨true, lsR, loc, lf st tok ln wc wb Qs Cs ws⟩ lsR namesR :=
  ⟨rfl, fun _ _ h => lf_names h, by show 19 ≤ 100; omega⟩
theorem pun_lf {st tok ln : V} {wc : Nat} {wb : Bool} {Qs Cs : List Nat} {ws : Bool} : lookS "_punctuation_chars" (lf st tok ln wc wb Qs Cs ws) = some (.str []) := by kernel_rfl
theorem ins_lf {st tok ln : V} {wc : Nat} {wb : Bool} {Qs Cs : List Nat} {ws : Bool} : lookS "instream" (lf st tok ln wc wb Qs Cs ws) = some (.obj 0) := by kernel_rfl
theorem test0 {μ : MS} {e : Expr} {p1 p2 p3 : Pos} (hp : μ.pc = true) (h : lookS "_punctuation_chars" μ.fld = some (.str [])) : evT 5 μ (.BoolOp .And [.Attribute (.Name (Str.ofString "self") p1) (Str.ofString "punctuation_chars") p2, e] p3) = some false := by
  have h1 : evE μ (.Attribute (.Name (Str.ofString "self") p1) (Str.ofString "punctuation_chars") p2) = some (.str []) := by
    show (if eqS (Str.ofString "self") "self" then (if eqS (Str.ofString "punctuation_chars") "punctuation_chars" then (if μ.pc = true ∧ lookS "_punctuation_chars" μ.fld = some (.str []) then some (.str []) else none) else lookS (Str.ofString "punctuation_chars") μ.fld) else none) = some (V.str [])
    have e1 : eqS (Str.ofString "self") "self" = true := eqS_iff.mpr rfl
    have e2 : eqS (Str.ofString "punctuation_chars") "punctuation_chars" = true := eqS_iff.mpr rfl
    rw [if_pos e1, if_pos e2, if_pos ⟨hp, h⟩]
  simp only [evT, h1, Option.bind_some, truth]
  rfl
theorem len_ofL (l : List Nat) : (ofL l).length = l.length := List.size_toArray ..
theorem ne_ofL (l : List Nat) : ((ofL l).length != 0) = !l.isEmpty := by
  rw [len_ofL]
  cases l <;> rfl
theorem app_ofL (l r : List Nat) : ofL l ++ ofL r = ofL (l ++ r) := by
  show (⟨l.toArray ++ r.toArray⟩ : Str) = ⟨(l ++ r).toArray⟩
  simp
end Mine
end

section
open PySem PySem.W PyProof.Rows PySem.Calls
set_option Elab.async false
set_option maxRecDepth 100000
set_option maxHeartbeats 8000000
namespace Mine
theorem chk_elim {Qs Cs : List Nat} {ws : Bool} {sts : List (Option Nat)} {ess : List Nat} {wb : Bool} {st : Option Nat} {es : Nat} {q ne : Bool} {c : Option Nat} (h : chk Qs Cs ws sts ess wb st es q ne c = true) :
    ∃ μ, exS 40 (m0 st ne es q c wb Qs Cs ws) rtRest = some ((stepC Qs wb st es q ne c).f, μ) ∧ lookS "escapedstate" μ.loc = some (.str [(stepC Qs wb st es q ne c).es]) ∧ lookS "quoted" μ.loc = some (.bool (stepC Qs wb st es q ne c).q) ∧
      μ.fld = lf (stV (stepC Qs wb st es q ne c).st) (if (stepC Qs wb st es q ne c).set then .str (stepC Qs wb st es q ne c).add else .acc ne (stepC Qs wb st es q ne c).add) (.row (if c == some 10 then 1 else 0)) (c.getD 0) wb Qs Cs ws ∧
      (stepC Qs wb st es q ne c).es ∈ ess ∧ ((stepC Qs wb st es q ne c).f ≠ .exc → (stepC Qs wb st es q ne c).st ∈ sts) ∧ ((stepC Qs wb st es q ne c).f ≠ .brk → (stepC Qs wb st es q ne c).f ≠ .exc → c.isSome = true) ∧ (stepC Qs wb st es q ne c).add.length ≤ 2 := by
  unfold chk at h
  dsimp only at h
  split at h
  · cases h
  · rename_i f μ hx
    simp only [Bool.and_eq_true, Bool.or_eq_true, decide_eq_true_eq] at h
    obtain ⟨⟨⟨⟨⟨⟨⟨h1, h2⟩, h3⟩, h4⟩, h5⟩, h6⟩, h7⟩, h8⟩ := h
    subst h1
    refine ⟨μ, hx, h2, h3, sameF_eq h4, List.contains_iff_mem.mp h5, fun hn => ?_, fun hb hn => ?_, h8⟩
    · rcases h6 with h | h
      · exact List.contains_iff_mem.mp h
      · exact absurd h hn
    · rcases h7 with (h | h) | h
      · exact absurd h hb
      · exact absurd h hn
      · exact h.2
theorem chk1 {c : Option Nat} {st : Option Nat} {es : Nat} {q ne : Bool} (hc : ∀ k, c = some k → k ∈ alpha1) (hs : st ∈ sts1) (he : es ∈ ess1) : chk [39, 34] [35] false sts1 ess1 ((c.map wh1).getD false) st es q ne c = true := by
  have hb : ∀ b : Bool, b ∈ bools := by decide
  have hm : c ∈ [none, some 97, some 98, some 66, some 233, some 223] ∨ c ∈ [some 32, some 10, some 9, some 34, some 39, some 92] := by
    cases c with
    | none => exact .inl (.head _)
    | some k =>
      have := hc k rfl
      revert this
      simp only [alpha1, List.mem_cons, List.not_mem_nil, or_false, Option.some.injEq, reduceCtorEq, false_or]
      intro h
      rcases h with h | h | h | h | h | h | h | h | h | h | h <;> simp [h]
  rcases hm with h | h
  · exact List.all_eq_true.mp (List.all_eq_true.mp (List.all_eq_true.mp (List.all_eq_true.mp (List.all_eq_true.mp tab1a c h) st hs) es he) q (hb q)) ne (hb ne)
  · exact List.all_eq_true.mp (List.all_eq_true.mp (List.all_eq_true.mp (List.all_eq_true.mp (List.all_eq_true.mp tab1b c h) st hs) es he) q (hb q)) ne (hb ne)
section
variable {w : World} {s s' : Shared} {A : Around} {base g : Heap} {fr : List Env} {mg mb : Str → Option Value} {mean : ExcName → Option Value} {x dx L f : Addr} {cn : Str} {cs : Scope} {cd : Value} {W : Str} {refs : Nat → Value} {i : IO} {p t6 : Nat} {μ : MS} {E : Value → Shared → Prop}
  {st : Option Nat} {es : Nat} {q : Bool} {tok : List Nat} {ln : Int}
/-- the rest of a turn -/
theorem rest1 (G : Gd w A base fr mean mg mb g) (hroom : A.depth + 8 < recursionLimit) (hh : A.handled = none) (hk : cs.kind = .function) (hl : ∀ x ∈ lsR, cs.names.lookup x = some .local) (hsf : cs.names.lookup (Str.ofString "self") = some .local) (hv : cs.names.lookup (Str.ofString "ValueError") = some .globalImplicit)
    (hap : x ≠ dx ∧ ∀ r ∈ i.led p t6, r.1 ≠ dx) {c : Option Nat} (hc : ∀ k, c = some k → k ∈ alpha1) (hs : st ∈ sts1) (he : es ∈ ess1) (hW : has W (sg (c.getD 0)) = (c.map wh1).getD false) (hT : tok.length ≤ 2000) (h0 : has W (sg 0) = false)
    (R : Rel (CxR w (A.deeper (envOf cn cs L f cd)) (envOf cn cs L f cd) g L s x dx 722 19 (i.led p t6) (ofL tok) ln W refs) { μI [39, 34] [35] false (!tok.isEmpty) st es q with loc := (Str.ofString "nextchar", ncV c) :: (μI [39, 34] [35] false (!tok.isEmpty) st es q).loc } s') {Q : Flow → Shared → Prop}
    (z : Stp) (hz : z = stepC [39, 34] ((c.map wh1).getD false) st es q (!tok.isEmpty) c)
    (q1 : ∀ fl s'', (z.f = .brk ∧ fl = .brk ∨ (z.f ≠ .brk ∧ z.f ≠ .exc ∧ c.isSome = true) ∧ (fl = .next ∨ fl = .cont)) → z.st ∈ sts1 → z.es ∈ ess1 → z.add.length ≤ 2 →
      Rel (CxR w (A.deeper (envOf cn cs L f cd)) (envOf cn cs L f cd) g L s x dx 722 19 (i.led p t6) (ofL (newTok z tok)) (if c == some 10 then ln + 1 else ln) W refs) (μI [39, 34] [35] false (!(newTok z tok).isEmpty) z.st z.es z.q) s'' → Q fl s'')
    (q2 : z.f = .exc → ∀ e s'' μ', ExcAt (CxR w (A.deeper (envOf cn cs L f cd)) (envOf cn cs L f cd) g L s x dx 722 19 (i.led p t6) (ofL tok) ln W refs) μ' e s'' → E e s'') :
    wpAny (model PySem.Challenge.rw_om0137_01.row.prog w) (A.deeper (envOf cn cs L f cd)) (execs rtRest (envOf cn cs L f cd)) Q E s' := by
  have O : Ok (CxR w (A.deeper (envOf cn cs L f cd)) (envOf cn cs L f cd) g L s x dx 722 19 (i.led p t6) (ofL tok) ln W refs) true lsR namesR :=
    ok_lex G hroom hh hk hl lsR_ok hsf (fun _ => hv) hap (by rw [len_ofL]; omega)
  obtain ⟨μ', hx, e1, e2, e3, e4, e5, e6, e7⟩ := chk_elim (chk1 (q := q) (ne := !tok.isEmpty) hc hs he)
  rw [← hz] at hx e1 e2 e3 e4 e5 e6 e7
  have R0 : Rel (CxR w (A.deeper (envOf cn cs L f cd)) (envOf cn cs L f cd) g L s x dx 722 19 (i.led p t6) (ofL tok) ln W refs) (m0 st (!tok.isEmpty) es q c ((c.map wh1).getD false) [39, 34] [35] false) s' := by
    obtain ⟨h, tk, m, es', rfl, F, l, sf, fr', N⟩ := R
    refine ⟨h, tk, m, es', rfl, F, l, sf, fr'.conv (lf_conv rfl (fun _ h => h) (fun _ h => h) (fun _ h => h) fun u hu => ?_), N⟩
    exact ⟨hW, hu.2⟩
  refine exS_ok O 40 rfl names_lf hx R0 (fun fl s'' hf R' => ?_) (fun hexc e s'' he => q2 hexc e s'' μ' he)
  have hfl : z.f = .brk ∧ fl = .brk ∨ (z.f ≠ .brk ∧ z.f ≠ .exc ∧ c.isSome = true) ∧ (fl = .next ∨ fl = .cont) := by
    cases hzf : z.f with
    | brk => rw [hzf] at hf; exact .inl ⟨rfl, hf⟩
    | next => rw [hzf] at hf e6; exact .inr ⟨⟨by simp, by simp, e6 (by simp) (by simp)⟩, .inl hf⟩
    | cont => rw [hzf] at hf e6; exact .inr ⟨⟨by simp, by simp, e6 (by simp) (by simp)⟩, .inr hf⟩
    | exc => rw [hzf] at hf; exact hf.elim
    | ret v =>
      exfalso
      rw [hz] at hzf
      revert hzf
      unfold stepC
      repeat' split
      all_goals (intro h; cases h)
  have hne : z.f ≠ .exc := by rcases hfl with h | h <;> simp_all
  refine q1 fl s'' hfl (e5 hne) e4 e7 ?_
  obtain ⟨h, tk, m, es', rfl, F, l, sf, fr', N⟩ := R'
  rw [e3] at fr'
  refine ⟨h, tk, m, es', rfl, F, ?_, sf, ?_, N⟩
  · intro y v hy
    unfold μI at hy
    simp only [lookS] at hy
    split at hy
    · rename_i h1
      obtain rfl := eqS_iff.mp h1
      cases hy
      obtain ⟨u, hu, ru⟩ := l _ _ e1
      exact ⟨u, hu, ru⟩
    · split at hy
      · rename_i h1
        obtain rfl := eqS_iff.mp h1
        cases hy
        obtain ⟨u, hu, ru⟩ := l _ _ e2
        exact ⟨u, hu, ru⟩
      · cases hy
  · refine FldRep.conv (lf_conv ?_ (fun u hu => ?_) (fun u hu => ?_) (fun u hu => ?_) fun u hu => ?_) fr'
    · rfl
    · cases hst : z.st with
      | none => rw [hst] at hu; exact hu
      | some k => rw [hst] at hu; exact hu
    · show _ ∧ _
      refine ⟨(ne_ofL _).symm, ?_⟩
      rw [app_ofL, List.append_nil]
      unfold newTok
      cases hset : z.set with
      | true => rw [hset] at hu; exact hu
      | false =>
        rw [hset] at hu
        obtain ⟨_, t, hu⟩ := hu
        exact ⟨t, by rw [hu, app_ofL]; rfl⟩
    · obtain ⟨t, hu⟩ := hu
      refine ⟨t, ?_⟩
      rw [hu]
      show Value.int (ln + ((if (c == some 10) = true then 1 else 0 : Nat) : Int)) t = Value.int ((if (c == some 10) = true then ln + 1 else ln) + ((0 : Nat) : Int)) t
      congr 1
      split <;> simp
    · exact ⟨h0, hu.2⟩
end
end Mine
end

section
open PySem PySem.W PyProof.Rows PySem.Calls
set_option Elab.async false
set_option maxRecDepth 100000
set_option maxHeartbeats 8000000
namespace Mine
section
variable {w : World} {s s' : Shared} {A : Around} {base g : Heap} {fr : List Env} {mg mb : Str → Option Value} {mean : ExcName → Option Value} {x dx L f : Addr} {cn : Str} {cs : Scope} {cd : Value} {W : Str} {refs : Nat → Value} {i : IO} {p t6 : Nat} {E : Value → Shared → Prop}
  {st : Option Nat} {es : Nat} {q : Bool} {tok : List Nat} {ln : Int}
/-- what a loop of read_token takes for granted -/
structure LoopOk (w : World) (A : Around) (base g : Heap) (fr : List Env) (mean : ExcName → Option Value) (mg mb : Str → Option Value) (cs : Scope) (x dx : Addr) (i : IO) (W : Str) (refs : Nat → Value) : Prop where
  G : Gd w A base fr mean mg mb g
  room : A.depth + 8 < recursionLimit
  hh : A.handled = none
  hk : cs.kind = .function
  hl : ∀ x ∈ lsR, cs.names.lookup x = some .local
  hsf : cs.names.lookup (Str.ofString "self") = some .local
  hv : cs.names.lookup (Str.ofString "ValueError") = some .globalImplicit
  ne : i.io ≠ i.dio ∧ i.io ≠ x ∧ i.io ≠ dx ∧ i.dio ≠ x ∧ i.dio ≠ dx
  ne2 : x ≠ dx
  r0 : refs 0 = .ref i.io
  len : i.buf.length ≤ 1000
  chars : ∀ c ∈ sL i.buf, c ∈ alpha1
  whites : ∀ c ∈ alpha1, has W (sg c) = wh1 c
  zero : has W (sg 0) = false
theorem LoopOk.apart (K : LoopOk w A base g fr mean mg mb cs x dx i W refs) (p t6 : Nat) : x ≠ dx ∧ ∀ r ∈ i.led p t6, r.1 ≠ dx := by
  refine ⟨K.ne2, fun r hr => ?_⟩
  simp only [IO.led, List.mem_cons, List.not_mem_nil, or_false] at hr
  rcases hr with h | h <;> rw [h]
  · exact K.ne.2.2.1
  · exact K.ne.2.2.2.2
theorem len_sL (x : Str) : (sL x).length = x.length := by simp [Str.length, sL]
theorem turn1 (K : LoopOk w A base g fr mean mg mb cs x dx i W refs) {b : List Stmt} (hb : b = rtTurn) (hs : st ∈ sts1) (he : es ∈ ess1) (hp : p ≤ i.buf.length) (hT : tok.length ≤ 2 * p)
    (R : Rel (CxR w (A.deeper (envOf cn cs L f cd)) (envOf cn cs L f cd) g L s x dx 722 19 (i.led p t6) (ofL tok) ln W refs) (μI [39, 34] [35] false (!tok.isEmpty) st es q) s') {Q : Flow → Shared → Prop}
    (q1 : ∀ t6' tok' ln' st' es' q' fl s'', (fl = .next ∨ fl = .cont) → p + 1 ≤ i.buf.length → tok'.length ≤ 2 * (p + 1) → st' ∈ sts1 → es' ∈ ess1 → run [39, 34] wh1 ((sL i.buf).drop p) st es q tok ln = run [39, 34] wh1 ((sL i.buf).drop (p + 1)) st' es' q' tok' ln' →
      Rel (CxR w (A.deeper (envOf cn cs L f cd)) (envOf cn cs L f cd) g L s x dx 722 19 (i.led (p + 1) t6') (ofL tok') ln' W refs) (μI [39, 34] [35] false (!tok'.isEmpty) st' es' q') s'' → Q fl s'')
    (q2 : ∀ p' t6' tok' ln' st' es' q' s'', p' ≤ i.buf.length → tok'.length ≤ 2 * p' + 2 → st' ∈ sts1 → es' ∈ ess1 → run [39, 34] wh1 ((sL i.buf).drop p) st es q tok ln = .brk ((sL i.buf).drop p') st' ln' tok' q' →
      Rel (CxR w (A.deeper (envOf cn cs L f cd)) (envOf cn cs L f cd) g L s x dx 722 19 (i.led p' t6') (ofL tok') ln' W refs) (μI [39, 34] [35] false (!tok'.isEmpty) st' es' q') s'' → Q .brk s'')
    (q3 : run [39, 34] wh1 ((sL i.buf).drop p) st es q tok ln = .bad → ∀ Γ e s'' μ', Γ.g = g → Γ.L = L → Γ.s0 = s → ExcAt Γ μ' e s'' → E e s'') :
    wpAny (model PySem.Challenge.rw_om0137_01.row.prog w) (A.deeper (envOf cn cs L f cd)) (execs b (envOf cn cs L f cd)) Q E s' := by
  have O : ∀ p t6, Ok (CxR w (A.deeper (envOf cn cs L f cd)) (envOf cn cs L f cd) g L s x dx 722 19 (i.led p t6) (ofL tok) ln W refs) true lsR namesR := fun p' t6' =>
    ok_lex K.G K.room K.hh K.hk K.hl lsR_ok K.hsf (fun _ => K.hv) (K.apart p' t6') (by have := K.len; rw [len_ofL]; omega)
  have hlen := K.len
  have hnc : lsR.any (eqS (Str.ofString "nextchar")) = true := by decide +kernel
  rw [hb, rtTurn_eq]
  refine wpAny_execs_cons (wpAny_If (evT_ok (O p t6) rfl names_lf 5 (test0 rfl pun_lf) R fun s1 R1 => ?_))
  rw [if_neg (by decide)]
  refine wpAny_execs_cons (wpAny_Assign_Name (readE_ok K.G K.room K.hk 722 19 (O p t6) names_lf ins_lf K.r0 K.ne (by omega) K.len R1 (pl := _) rfl ?_ ?_) rfl)
  · intro hD s2 t R2
    refine store_ok (O p t6) (v := .str []) hnc R2 ⟨t, rfl⟩ fun s3 R3 => wpAny_execs_nil ?_
    refine rest1 K.G K.room K.hh K.hk K.hl K.hsf K.hv (K.apart p t6) (c := none) (fun _ h => nomatch h) hs he K.zero (by omega) K.zero R3 _ rfl ?_ ?_
    · intro fl s4 hf hz1 hz2 hz3 R4
      rcases hf with ⟨h1, h2⟩ | ⟨⟨_, _, h⟩, _⟩
      · subst h2
        refine q2 p t6 _ _ _ _ _ s4 hp ?_ hz1 hz2 ?_ R4
        · have hz3' : (stepC [39, 34] false st es q (!tok.isEmpty) none).add.length ≤ 2 := hz3
          show (newTok (stepC [39, 34] false st es q (!tok.isEmpty) none) tok).length ≤ _
          unfold newTok; split <;> (try simp only [List.length_append]) <;> omega
        · rw [hD]
          unfold run
          dsimp only
          have h1' : (stepC [39, 34] false st es q (!tok.isEmpty) none).f = Fl.brk := h1
          rw [if_pos h1']
          rfl
      · cases h
    · intro hx e s4 μ' he
      refine q3 ?_ _ e s4 μ' rfl rfl rfl he
      rw [hD]
      unfold run
      dsimp only
      have h1' : (stepC [39, 34] false st es q (!tok.isEmpty) none).f = Fl.exc := hx
      rw [if_neg (by rw [h1']; intro h; cases h)]
  · intro c r t6' hD s2 t R2
    have hlt : p + 1 ≤ i.buf.length := by
      have := congrArg List.length hD
      rw [List.length_drop, List.length_cons, len_sL] at this
      omega
    have hdr : (sL i.buf).drop (p + 1) = r := by
      rw [← List.drop_drop, hD]; rfl
    have hca : c ∈ alpha1 := K.chars c (List.mem_of_mem_drop (i := p) (by rw [hD]; exact .head _))
    refine store_ok (O (p + 1) t6') (v := .str [c]) hnc R2 ⟨t, rfl⟩ fun s3 R3 => wpAny_execs_nil ?_
    refine rest1 K.G K.room K.hh K.hk K.hl K.hsf K.hv (K.apart (p + 1) t6') (c := some c) (fun k h => by cases h; exact hca) hs he (K.whites c hca) (by omega) K.zero R3 _ rfl ?_ ?_
    · intro fl s4 hf hz1 hz2 hz3 R4
      have hnt : (newTok (stepC [39, 34] (wh1 c) st es q (!tok.isEmpty) (some c)) tok).length ≤ 2 * (p + 1) := by
        have hz3' : (stepC [39, 34] (wh1 c) st es q (!tok.isEmpty) (some c)).add.length ≤ 2 := hz3
        unfold newTok; split <;> (try simp only [List.length_append]) <;> omega
      have hln : (if (some c == some 10) = true then ln + 1 else ln) = (if (c == 10) = true then ln + 1 else ln) := by
        simp
      rcases hf with ⟨h1, h2⟩ | ⟨⟨h1, h2, _⟩, h3⟩
      · subst h2
        refine q2 (p + 1) t6' _ _ _ _ _ s4 hlt (by exact Nat.le_trans hnt (by omega)) hz1 hz2 ?_ R4
        rw [hD, hdr]
        unfold run
        dsimp only
        have h1' : (stepC [39, 34] (wh1 c) st es q (!tok.isEmpty) (some c)).f = Fl.brk := h1
        rw [if_pos h1', hln]
        rfl
      · refine q1 t6' _ _ _ _ _ fl s4 h3 hlt hnt hz1 hz2 ?_ R4
        rw [hD, hdr]
        have h1' : (stepC [39, 34] (wh1 c) st es q (!tok.isEmpty) (some c)).f ≠ Fl.brk := h1
        have h2' : (stepC [39, 34] (wh1 c) st es q (!tok.isEmpty) (some c)).f ≠ Fl.exc := h2
        rw [run]
        rw [if_neg h1', if_neg h2', hln]
        rfl
    · intro hx e s4 μ' he
      refine q3 ?_ _ e s4 μ' rfl rfl rfl he
      rw [hD]
      have h1' : (stepC [39, 34] (wh1 c) st es q (!tok.isEmpty) (some c)).f = Fl.exc := hx
      rw [run]
      rw [if_neg (by rw [h1']; intro h; cases h), if_pos h1']
end
end Mine
end

section
open PySem PySem.W PyProof.Rows PySem.Calls
set_option Elab.async false
set_option maxRecDepth 100000
set_option maxHeartbeats 8000000
namespace Mine
noncomputable def rtTail : List Stmt := rtBody.drop 3
noncomputable def rtW : Pos := match rtBody with
  | [_, _, .While _ _ _ p, _, _, _, _, _] => p
  | _ => ⟨0, 0, 0, 0⟩
noncomputable def rtA1 : Stmt := .Assign [.Name (Str.ofString "quoted") ⟨568, 8, 568, 14⟩] (.Constant (.bool false) 0 ⟨568, 17, 568, 22⟩) ⟨568, 8, 568, 22⟩
noncomputable def rtA2 : Stmt := .Assign [.Name (Str.ofString "escapedstate") ⟨569, 8, 569, 20⟩] (.Constant (.str (Str.ofString " ")) 0 ⟨569, 23, 569, 26⟩) ⟨569, 8, 569, 26⟩
theorem rtBody_eq : rtBody = rtA1 :: rtA2 :: .While (.Constant (.bool true) 0 ⟨570, 14, 570, 18⟩) rtTurn [] rtW :: rtTail := by kernel_rfl
noncomputable def retV (ne q : Bool) : V := if !q && !ne then .none else .acc ne []
noncomputable def chkT (Qs Cs : List Nat) (ws : Bool) (st : Option Nat) (es : Nat) (q ne : Bool) : Bool :=
  match exS 40 (μI Qs Cs ws ne st es q) rtTail with
  | some (.ret v, μ) => decide (v = retV ne q) && sameF μ.fld (lf (stV st) (.str []) (.row 0) 0 false Qs Cs ws)
  | _ => false
theorem tabT1 : (sts1.all fun st => ess1.all fun es => bools.all fun q => bools.all fun ne => chkT [39, 34] [35] false st es q ne) = true := by decide +kernel
theorem tail1 {st : Option Nat} {es : Nat} {q ne : Bool} (hs : st ∈ sts1) (he : es ∈ ess1) : ∃ μ, exS 40 (μI [39, 34] [35] false ne st es q) rtTail = some (.ret (retV ne q), μ) ∧ μ.fld = lf (stV st) (.str []) (.row 0) 0 false [39, 34] [35] false := by
  have hb : ∀ b : Bool, b ∈ bools := by decide
  have h := List.all_eq_true.mp (List.all_eq_true.mp (List.all_eq_true.mp (List.all_eq_true.mp tabT1 st hs) es he) q (hb q)) ne (hb ne)
  unfold chkT at h
  split at h
  · rename_i v μ hx
    rw [Bool.and_eq_true] at h
    exact ⟨μ, by rw [hx, of_decide_eq_true h.1], sameF_eq h.2⟩
  · cases h
section
variable {w : World} {s s' : Shared} {A : Around} {base g : Heap} {fr : List Env} {mg mb : Str → Option Value} {mean : ExcName → Option Value} {x dx L f : Addr} {cn : Str} {cs : Scope} {cd : Value} {W : Str} {refs : Nat → Value} {i : IO} {p t6 : Nat} {E : Value → Shared → Prop}
  {st : Option Nat} {es : Nat} {q : Bool} {tok : List Nat} {ln : Int}
theorem loop1 (K : LoopOk w A base g fr mean mg mb cs x dx i W refs) {b : List Stmt} (hb : b = rtTurn) (hs : st ∈ sts1) (he : es ∈ ess1) (hp : p ≤ i.buf.length) (hT : tok.length ≤ 2 * p)
    (R0 : Rel (CxR w (A.deeper (envOf cn cs L f cd)) (envOf cn cs L f cd) g L s x dx 722 19 (i.led p t6) (ofL tok) ln W refs) (μI [39, 34] [35] false (!tok.isEmpty) st es q) s') {R : Result → Shared → Prop} {k : Nat} {cp : Pos}
    (q2 : ∀ p' t6' tok' ln' st' es' q' s'', p' ≤ i.buf.length → tok'.length ≤ 2 * p' + 2 → st' ∈ sts1 → es' ∈ ess1 → run [39, 34] wh1 ((sL i.buf).drop p) st es q tok ln = .brk ((sL i.buf).drop p') st' ln' tok' q' →
      Rel (CxR w (A.deeper (envOf cn cs L f cd)) (envOf cn cs L f cd) g L s x dx 722 19 (i.led p' t6') (ofL tok') ln' W refs) (μI [39, 34] [35] false (!tok'.isEmpty) st' es' q') s'' → R (.ok .next) s'')
    (q3 : run [39, 34] wh1 ((sL i.buf).drop p) st es q tok ln = .bad → ∀ Γ e s'' μ', Γ.g = g → Γ.L = L → Γ.s0 = s → ExcAt Γ μ' e s'' → notedBy (model PySem.Challenge.rw_om0137_01.row.prog w) (A.deeper (envOf cn cs L f cd)) (envOf cn cs L f cd) (fun e s' => R (.error e) s') e s'') :
    codeAny (model PySem.Challenge.rw_om0137_01.row.prog w) (A.deeper (envOf cn cs L f cd)) (.whileLoop (.Constant (.bool true) k cp) b [] (envOf cn cs L f cd)) R s' := by
  have hlen := K.len
  refine codeAny_whileLoop (fun n s' => ∃ p1 t1 tok1 ln1 st1 es1 q1, n = 1001 - p1 ∧ p1 ≤ i.buf.length ∧ tok1.length ≤ 2 * p1 ∧ st1 ∈ sts1 ∧ es1 ∈ ess1 ∧ run [39, 34] wh1 ((sL i.buf).drop p) st es q tok ln = run [39, 34] wh1 ((sL i.buf).drop p1) st1 es1 q1 tok1 ln1 ∧
      Rel (CxR w (A.deeper (envOf cn cs L f cd)) (envOf cn cs L f cd) g L s x dx 722 19 (i.led p1 t1) (ofL tok1) ln1 W refs) (μI [39, 34] [35] false (!tok1.isEmpty) st1 es1 q1) s') ?_ (1001 - p) ⟨p, t6, tok, ln, st, es, q, rfl, hp, hT, hs, he, rfl, R0⟩
  rintro n s1 ⟨p1, t1, tok1, ln1, st1, es1, q1, rfl, hp1, hT1, hs1, he1, hrun, R1⟩
  refine wpAny_isTrue_value (wpAny_Constant_bool (wpAny_truthy_bool ?_))
  rw [if_pos rfl]
  refine turn1 K hb hs1 he1 hp1 hT1 R1 ?_ ?_ ?_
  · intro t6' tok' ln' st' es' q' fl s2 hfl hl ht h1 h2 h3 R2
    have : ∃ m, m < 1001 - p1 ∧ ∃ p1 t1 tok1 ln1 st1 es1 q1, m = 1001 - p1 ∧ p1 ≤ i.buf.length ∧ tok1.length ≤ 2 * p1 ∧ st1 ∈ sts1 ∧ es1 ∈ ess1 ∧ run [39, 34] wh1 ((sL i.buf).drop p) st es q tok ln = run [39, 34] wh1 ((sL i.buf).drop p1) st1 es1 q1 tok1 ln1 ∧
      Rel (CxR w (A.deeper (envOf cn cs L f cd)) (envOf cn cs L f cd) g L s x dx 722 19 (i.led p1 t1) (ofL tok1) ln1 W refs) (μI [39, 34] [35] false (!tok1.isEmpty) st1 es1 q1) s2 :=
      ⟨1001 - (p1 + 1), by omega, p1 + 1, t6', tok', ln', st', es', q', rfl, hl, ht, h1, h2, hrun.trans h3, R2⟩
    rcases hfl with h | h <;> subst h <;> exact this
  · intro p' t6' tok' ln' st' es' q' s2 hl ht h1 h2 h3 R2
    exact q2 p' t6' tok' ln' st' es' q' s2 hl ht h1 h2 (hrun.trans h3) R2
  · intro h Γ e s2 μ' hg hL hs0 hE
    exact q3 (hrun.trans h) Γ e s2 μ' hg hL hs0 hE
theorem body1 (K : LoopOk w A base g fr mean mg mb cs x dx i W refs) {b : List Stmt} (hb : b = rtBody) (hs : st ∈ sts1) (hp : p ≤ i.buf.length)
    (R0 : Rel (CxR w (A.deeper (envOf cn cs L f cd)) (envOf cn cs L f cd) g L s x dx 722 19 (i.led p t6) (ofL []) ln W refs) ⟨true, lsR, [], lf (stV st) (.acc false []) (.row 0) 0 false [39, 34] [35] false⟩ s') {Q : Flow → Shared → Prop} {R : Value → Shared → Prop}
    (q2 : ∀ p' t6' tok' ln' st' q' s'' u loc, p' ≤ i.buf.length → st' ∈ sts1 → tok'.length ≤ 3000 → run [39, 34] wh1 ((sL i.buf).drop p) st 32 false [] ln = .brk ((sL i.buf).drop p') st' ln' tok' q' →
      Rel (CxR w (A.deeper (envOf cn cs L f cd)) (envOf cn cs L f cd) g L s x dx 722 19 (i.led p' t6') (ofL tok') ln' W refs) ⟨true, lsR, loc, lf (stV st') (.str []) (.row 0) 0 false [39, 34] [35] false⟩ s'' → 
      (if !q' && tok'.isEmpty then u = .none else ∃ t, u = .str (ofL tok') t) → Q (.ret u) s'')
    (q3 : run [39, 34] wh1 ((sL i.buf).drop p) st 32 false [] ln = .bad → ∀ e h' tk t vs, RaisedS base g fr e (.type "ValueError") t vs [] h' → g.UpToSlots h' → R (.ref e) { s with heap := h', toks := tk }) :
    wpAny (model PySem.Challenge.rw_om0137_01.row.prog w) (A.deeper (envOf cn cs L f cd)) (execs b (envOf cn cs L f cd)) Q
      (fun e s' => wpAny (model PySem.Challenge.rw_om0137_01.row.prog w) (A.deeper (envOf cn cs L f cd)) (leaving (envOf cn cs L f cd) e) (fun _ s'' => R e s'') (fun e' s'' => R e' s'') s') s' := by
  have hlen := K.len
  have O : ∀ p t6 tok ln, tok.length ≤ 3000 → Ok (CxR w (A.deeper (envOf cn cs L f cd)) (envOf cn cs L f cd) g L s x dx 722 19 (i.led p t6) (ofL tok) ln W refs) true lsR namesR := fun p' t6' tok ln ht =>
    ok_lex K.G K.room K.hh K.hk K.hl lsR_ok K.hsf (fun _ => K.hv) (K.apart p' t6') (by rw [len_ofL]; omega)
  rw [hb, rtBody_eq]
  refine wpAny_execs_cons (exA_ok (O p t6 [] ln (by simp)) (f := .next) (μ' := ⟨true, lsR, [("quoted", .bool false)], lf (stV st) (.acc false []) (.row 0) 0 false [39, 34] [35] false⟩) rfl names_lf (by kernel_rfl) R0 (fun fl s1 hf R1 => ?_) (fun h => nomatch h))
  obtain rfl : fl = .next := hf
  refine wpAny_execs_cons (exA_ok (O p t6 [] ln (by simp)) (f := .next) (μ' := μI [39, 34] [35] false false st 32 false) rfl names_lf (by kernel_rfl) R1 (fun fl s2 hf R2 => ?_) (fun h => nomatch h))
  obtain rfl : fl = .next := hf
  refine wpAny_execs_cons (wpAny_While (loop1 K rfl (tok := []) hs (by decide) hp (by simp) R2 ?_ ?_))
  · intro p' t6' tok' ln' st' es' q' s3 hl ht h1 h2 h3 R3
    obtain ⟨μ', hx, hf⟩ := tail1 (q := q') (ne := !tok'.isEmpty) h1 h2
    refine exS_ok (O p' t6' tok' ln' (by omega)) 40 rfl names_lf hx R3 (fun fl s4 hfl R4 => ?_) (fun h => nomatch h)
    obtain ⟨u, rfl, ru⟩ := hfl
    have hn := exS_names 40 names_lf hx
    obtain ⟨μpc, μls, μloc, μfld⟩ := μ'
    have e1 : μpc = true := hn.1
    have e2 : μls = lsR := hn.2.1
    have e3 : μfld = _ := hf
    subst e1 e2 e3
    refine q2 p' t6' tok' ln' st' q' s4 u μloc hl h1 (by omega) h3 R4 ?_
    unfold retV at ru
    rw [Bool.not_not] at ru
    split
    · rename_i hq
      rw [if_pos hq] at ru
      exact ru
    · rename_i hq
      rw [if_neg hq] at ru
      obtain ⟨_, t, hu⟩ := ru
      exact ⟨t, by rw [hu, app_ofL, List.append_nil]⟩
  · intro hbad Γ e s3 μ' hg hL hs0 hE
    obtain ⟨s4, h', a, args, rfl, R4, hm, rfl⟩ := hE
    obtain ⟨h4, tk4, m4, es4, rfl, F4, _⟩ := R4
    rw [hg, hL] at F4
    rw [hs0]
    exact leave_loop K.G.B hm.of F4 (fun h5 t hr hup => q3 hbad a h5 tk4 t args hr hup) K.hk
end
end Mine
end

section
open PySem PySem.W PyProof.Rows PySem.Calls
set_option Elab.async false
set_option maxRecDepth 100000
set_option maxHeartbeats 8000000
namespace Mine
/-- a posix shlex between two words -/
noncomputable def LexAt (g h : Heap) (x dx : Addr) (i : IO) (refs : Nat → Value) (W : Str) (st : Option Nat) (ln : Int) (p : Nat) : Prop :=
  ∃ (Γ : Cx) (es : List DictEntry) (t6 : Nat), Γ.W = W ∧ Γ.refs = refs ∧ Γ.ln0 = ln ∧ FldRep Γ (lf (stV st) (.str []) (.row 0) 0 false [39, 34] [35] false) es ∧ Sub g h ((x, instObj 722 dx) :: (dx, dictOf es 19) :: i.led p t6)
structure LexOk (x dx : Addr) (i : IO) (W : Str) (refs : Nat → Value) : Prop where
  ne : i.io ≠ i.dio ∧ i.io ≠ x ∧ i.io ≠ dx ∧ i.dio ≠ x ∧ i.dio ≠ dx
  ne2 : x ≠ dx
  r0 : refs 0 = .ref i.io
  len : i.buf.length ≤ 1000
  chars : ∀ c ∈ sL i.buf, c ∈ alpha1
  whites : ∀ c ∈ alpha1, has W (sg c) = wh1 c
  zero : has W (sg 0) = false
section
variable {w : World} {s : Shared} {A : Around} {base g : Heap} {fr : List Env} {mg mb : Str → Option Value} {mean : ExcName → Option Value} {x dx : Addr} {W : Str} {refs : Nat → Value} {i : IO} {p : Nat} {st : Option Nat} {ln : Int} {R : Result → Shared → Prop}
theorem read_token_ok (G : Gd w A base fr mean mg mb g) (hroom : A.depth + 8 < recursionLimit) (hh : A.handled = none) (k : Ke g s.heap) (K : LexOk x dx i W refs) (hs : st ∈ sts1) (hp : p ≤ i.buf.length) (Lx : LexAt g s.heap x dx i refs W st ln p)
    (q2 : ∀ p' tok' ln' st' q' h' tk u, p' ≤ i.buf.length → st' ∈ sts1 → tok'.length ≤ 3000 → run [39, 34] wh1 ((sL i.buf).drop p) st 32 false [] ln = .brk ((sL i.buf).drop p') st' ln' tok' q' →
      Ke g h' → LexAt g h' x dx i refs W st' ln' p' → (if !q' && tok'.isEmpty then u = .none else ∃ t, u = .str (ofL tok') t) → R (.ok (.ret u)) { s with heap := h', toks := tk })
    (q3 : run [39, 34] wh1 ((sL i.buf).drop p) st 32 false [] ln = .bad → ∀ e h' tk t vs, RaisedS base g fr e (.type "ValueError") t vs [] h' → g.UpToSlots h' → R (.error (.ref e)) { s with heap := h', toks := tk }) :
    codeAny (model PySem.Challenge.rw_om0137_01.row.prog w) A (.call (.ref 690) ⟨[.ref x], []⟩) R s := by
  obtain ⟨Γ, es, t6, e1, e2, e3, FR, S⟩ := Lx
  have X := G.X
  revert X
  k_fill
  intro X
  refine enterG (binds := [("self", .ref x)]) G S k (by k_is) (by k_is) (by omega) (BindsTo.of_eq rfl) rfl ?_ (by decide) rfl rfl rfl
  intro L' h₁ F' N' hlt
  refine body1 (R := fun e s'' => R (.error e) s'') (i := i) (p := p) (t6 := t6) (x := x) (dx := dx) (W := W) (refs := refs) (ln := ln) (st := st) (s := s) ⟨G, hroom, hh, rfl, by decide, rfl, rfl, K.ne, K.ne2, K.r0, K.len, K.chars, K.whites, K.zero⟩ (by kernel_rfl) hs hp ?_ ?_ ?_
  · refine ⟨h₁, _, _, es, rfl, F', (fun y v h => nomatch h), rfl, FldRep.conv (lf_conv ?_ (fun u hu => ?_) (fun u hu => ?_) (fun u hu => ?_) fun u hu => ?_) FR, N'⟩
    · exact e2.symm
    · cases st with
      | none => exact hu
      | some k => exact hu
    · exact ⟨rfl, hu⟩
    · show ∃ t, u = .int (ln + ((0 : Nat) : Int)) t
      rw [← e3]; exact hu
    · exact ⟨K.zero, by rw [← e1]; exact hu.2⟩
  · intro p' t6' tok' ln' st' q' s'' u loc h1 h2 hlen h3 R2 hu
    obtain ⟨h, tk, m, es', rfl, F, l, sf, fr', N⟩ := R2
    exact q2 p' tok' ln' st' q' h tk u h1 h2 hlen h3 (Ke.of_fr F) ⟨_, es', t6', rfl, rfl, rfl, fr', Sub.of_news N⟩ hu
  · intro hbad e h' tk t vs hr hup
    exact q3 hbad e h' tk t vs hr hup
end
end Mine
end

section
open PySem PySem.W PyProof.Rows PySem.Calls
set_option Elab.async false
set_option maxRecDepth 100000
set_option maxHeartbeats 8000000
namespace Mine
theorem getL_none {Γ : Cx} {f : Str} : ∀ {fld : List (Str × V)} {es : List DictEntry}, FldRep Γ fld es → lookS f fld = none → getL f es = some none
  | _, _, .nil, _ => rfl
  | _, _, .cons (f := y) (v := v') (r := r) (h := hh) (t := t) (u := u) (es := es) hr R, h => by
    unfold lookS at h
    by_cases q : eqS y f = true
    · rw [if_pos q] at h; cases h
    · rw [if_neg q] at h
      have e := getL_none R h
      have ne : ¬ (Value.isStr (.str y t) f = true) := fun e => q (eqS_iff.mpr (by simpa [Value.isStr] using e))
      unfold getL at e ⊢
      rw [List.find?_cons_of_neg (by simpa using ne)]
      revert e
      cases es.find? (fun x => x.key.isStr f) with
      | some _ => exact id
      | none =>
        intro e
        dsimp only at e ⊢
        rw [List.any_cons]
        split at e
        · cases e
        · rename_i hn
          rw [if_neg]
          rw [Bool.or_eq_true]
          rintro (h | h)
          · cases h
          · exact hn h
noncomputable def gtBody : List Stmt := defBody "get_token" (clsBody "shlex" PySem.Challenge.rw_om0137_01.row.prog.main.body)
noncomputable def gt0 : List Stmt × Pos := match gtBody with
  | .If _ b _ p :: _ => (b, p)
  | _ => ([], ⟨0, 0, 0, 0⟩)
noncomputable def gt2 : List Stmt × Pos := match gtBody with
  | [_, _, .If _ b _ p, _, _, _] => (b, p)
  | _ => ([], ⟨0, 0, 0, 0⟩)
noncomputable def gt3 : List Stmt × Pos × Pos := match gtBody with
  | [_, _, _, .While _ [.If _ _ o p] _ p', _, _] => (o, p, p')
  | _ => ([], ⟨0, 0, 0, 0⟩, ⟨0, 0, 0, 0⟩)
noncomputable def gt45 : List Stmt := gtBody.drop 4
noncomputable def gtSrc : Expr := .Compare (.Attribute (.Name (Str.ofString "self") ⟨547, 11, 547, 15⟩) (Str.ofString "source") ⟨547, 11, 547, 22⟩) [.IsNot] [.Constant .none 0 ⟨547, 30, 547, 34⟩] ⟨547, 11, 547, 34⟩
noncomputable def gtTest : Expr := .Compare (.Name (Str.ofString "raw") ⟨554, 14, 554, 17⟩) [.Eq] [.Attribute (.Name (Str.ofString "self") ⟨554, 21, 554, 25⟩) (Str.ofString "eof") ⟨554, 21, 554, 29⟩] ⟨554, 14, 554, 29⟩
theorem gtBody_eq : gtBody = .If (.Attribute (.Name (Str.ofString "self") ⟨541, 11, 541, 15⟩) (Str.ofString "pushback") ⟨541, 11, 541, 24⟩) gt0.1 [] gt0.2 ::
    .Assign [.Name (Str.ofString "raw") ⟨546, 8, 546, 11⟩] (.Call (.Attribute (.Name (Str.ofString "self") ⟨546, 14, 546, 18⟩) (Str.ofString "read_token") ⟨546, 14, 546, 29⟩) [] [] ⟨546, 14, 546, 31⟩) ⟨546, 8, 546, 31⟩ ::
    .If gtSrc gt2.1 [] gt2.2 ::
    .While gtTest [.If (.UnaryOp .Not (.Attribute (.Name (Str.ofString "self") ⟨555, 19, 555, 23⟩) (Str.ofString "filestack") ⟨555, 19, 555, 33⟩) ⟨555, 15, 555, 33⟩) [.Return (some (.Attribute (.Name (Str.ofString "self") ⟨556, 23, 556, 27⟩) (Str.ofString "eof") ⟨556, 23, 556, 31⟩)) ⟨556, 16, 556, 31⟩] gt3.1 gt3.2.1] [] gt3.2.2 :: gt45 := by kernel_rfl
noncomputable def lsG : List Str := ["raw"]
theorem lsG_ok : ∀ y ∈ lsG, (y == ("__debug__" : Str)) = false ∧ y ≠ Str.ofString "self" := by decide
noncomputable def μG (st : Option Nat) : MS := ⟨false, lsG, [], lf (stV st) (.str []) (.row 0) 0 false [39, 34] [35] false⟩
noncomputable def rawV (tok : List Nat) (q : Bool) : V := if !q && tok.isEmpty then .none else .acc (!tok.isEmpty) []
noncomputable def μG2 (st : Option Nat) (v : V) : MS := ⟨false, lsG, [(Str.ofString "raw", v)], lf (stV st) (.str []) (.row 0) 0 false [39, 34] [35] false⟩
theorem names_lfG {st tok ln : V} {wc : Nat} {wb : Bool} {Qs Cs : List Nat} {ws : Bool} {loc : List (Str × V)} : NamesOk ⟨false, lsG, loc, lf st tok ln wc wb Qs Cs ws⟩ lsG namesR :=
  ⟨rfl, fun _ _ h => lf_names h, by show 19 ≤ 100; omega⟩
theorem rt_lex (w : World) : plainGet (hd.heap_39 w.params) 722 "read_token" = true ∧ findIn (hd.heap_39 w.params) (.ref 722) "read_token" = some (some (.ref 690)) ∧ isFn (hd.heap_39 w.params) (.ref 690) = true ∧ keepIn (hd.heap_39 w.params) (.ref 690) = true := by
  have e : PySem.Challenge.rw_om0137_01 = PySem.Challenge.rw_om0137_01 := rfl
  revert e
  k_fill
  intro _
  refine ⟨?_, ?_, ?_, ?_⟩ <;> k_is
/-- a posix shlex and its two deques, between two words -/
noncomputable def LexFull (g h : Heap) (x dx pb fs : Addr) (i : IO) (refs : Nat → Value) (W : Str) (st : Option Nat) (ln : Int) (p : Nat) : Prop :=
  LexAt g h x dx i refs W st ln p ∧ Sub g h [(pb, dequeObj), (fs, dequeObj)]
structure LexOk2 (x dx pb fs : Addr) (i : IO) (W : Str) (refs : Nat → Value) : Prop extends LexOk x dx i W refs where
  r1 : refs 1 = .ref pb
  r2 : refs 2 = .ref fs
  npb : pb ≠ x ∧ pb ≠ dx ∧ pb ≠ i.io ∧ pb ≠ i.dio
  nfs : fs ≠ x ∧ fs ≠ dx ∧ fs ≠ i.io ∧ fs ≠ i.dio
theorem sub_app {g h : Heap} {a b : List (Addr × Obj)} (x : Sub g h a) (y : Sub g h b) : Sub g h (a ++ b) := fun p hp => by
  rcases List.mem_append.mp hp with h | h
  · exact x p h
  · exact y p h
section
variable {w : World} {s : Shared} {A : Around} {base g : Heap} {fr : List Env} {mg mb : Str → Option Value} {mean : ExcName → Option Value} {x dx pb fs : Addr} {W : Str} {refs : Nat → Value} {i : IO} {p : Nat} {st : Option Nat} {ln : Int} {R : Result → Shared → Prop} {cn : Str} {cs : Scope} {cd : Value} {L f : Addr} {s' : Shared}
noncomputable abbrev CxG (w : World) (A : Around) (cn : Str) (cs : Scope) (cd : Value) (f : Addr) (g : Heap) (L : Addr) (s : Shared) (x dx pb fs : Addr) (i : IO) (p t6 : Nat) (tok : List Nat) (ln : Int) (W : Str) (refs : Nat → Value) : Cx :=
  CxR w (A.deeper (envOf cn cs L f cd)) (envOf cn cs L f cd) g L s x dx 722 19 (i.led p t6 ++ [(pb, dequeObj), (fs, dequeObj)]) (ofL tok) ln W refs
theorem ok_G (G : Gd w A base fr mean mg mb g) (hroom : A.depth + 8 < recursionLimit) (hh : A.handled = none) (hk : cs.kind = .function) (hl : ∀ x ∈ lsG, cs.names.lookup x = some .local) (hsf : cs.names.lookup (Str.ofString "self") = some .local) (K : LexOk2 x dx pb fs i W refs) (p t6 : Nat) (tok : List Nat) (ln : Int) (ht : tok.length ≤ 3000) :
    Ok (CxG w A cn cs cd f g L s x dx pb fs i p t6 tok ln W refs) false lsG namesR := by
  refine ok_lex G hroom hh hk hl lsG_ok hsf (fun h => nomatch h) ⟨K.ne2, fun r hr => ?_⟩ (by rw [len_ofL]; exact ht)
  simp only [IO.led, List.cons_append, List.nil_append, List.mem_cons, List.not_mem_nil, or_false] at hr
  rcases hr with h | h | h | h <;> rw [h]
  · exact K.ne.2.2.1
  · exact K.ne.2.2.2.2
  · exact K.npb.2.1
  · exact K.nfs.2.1
theorem pb_lf {st tok ln : V} {wc : Nat} {wb : Bool} {Qs Cs : List Nat} {ws : Bool} : lookS "pushback" (lf st tok ln wc wb Qs Cs ws) = some (.obj 1) := by kernel_rfl
theorem fs_lf {st tok ln : V} {wc : Nat} {wb : Bool} {Qs Cs : List Nat} {ws : Bool} : lookS "filestack" (lf st tok ln wc wb Qs Cs ws) = some (.obj 2) := by kernel_rfl
theorem rt_lf {st tok ln : V} {wc : Nat} {wb : Bool} {Qs Cs : List Nat} {ws : Bool} : lookS "read_token" (lf st tok ln wc wb Qs Cs ws) = none := by kernel_rfl
/-- behind self.read_token() -/
theorem gtEnd (G : Gd w A base fr mean mg mb g) (hroom : A.depth + 8 < recursionLimit) (hh : A.handled = none) (hk : cs.kind = .function) (hl : ∀ x ∈ lsG, cs.names.lookup x = some .local) (hsf : cs.names.lookup (Str.ofString "self") = some .local) (K : LexOk2 x dx pb fs i W refs) {p t6 : Nat} {tok : List Nat} {q : Bool} {ln : Int} (ht : tok.length ≤ 3000)
    {E : Value → Shared → Prop} {Q : Flow → Shared → Prop} (R0 : Rel (CxG w A cn cs cd f g L s x dx pb fs i p t6 tok ln W refs) (μG2 st (rawV tok q)) s')
    (hQ : ∀ u s'' loc, Rel (CxG w A cn cs cd f g L s x dx pb fs i p t6 tok ln W refs) ⟨false, lsG, loc, lf (stV st) (.str []) (.row 0) 0 false [39, 34] [35] false⟩ s'' → Rep (CxG w A cn cs cd f g L s x dx pb fs i p t6 tok ln W refs) (rawV tok q) u → Q (.ret u) s'') :
    wpAny (model PySem.Challenge.rw_om0137_01.row.prog w) (A.deeper (envOf cn cs L f cd)) (execs (.If gtSrc gt2.1 [] gt2.2 ::
    .While gtTest [.If (.UnaryOp .Not (.Attribute (.Name (Str.ofString "self") ⟨555, 19, 555, 23⟩) (Str.ofString "filestack") ⟨555, 19, 555, 33⟩) ⟨555, 15, 555, 33⟩) [.Return (some (.Attribute (.Name (Str.ofString "self") ⟨556, 23, 556, 27⟩) (Str.ofString "eof") ⟨556, 23, 556, 31⟩)) ⟨556, 16, 556, 31⟩] gt3.1 gt3.2.1] [] gt3.2.2 :: gt45) (envOf cn cs L f cd)) Q E s' := by
  have O := ok_G (f := f) (cn := cn) (cd := cd) (L := L) (s := s) G hroom hh hk hl hsf K p t6 tok ln ht
  refine wpAny_execs_cons (wpAny_If (evT_ok O rfl names_lfG 3 (b := false) (by kernel_rfl) R0 fun s1 R1 => ?_))
  rw [if_neg (by decide)]
  refine wpAny_execs_nil ?_
  refine wpAny_execs_cons (wpAny_While (codeAny_whileLoop (fun _ s' => Rel (CxG w A cn cs cd f g L s x dx pb fs i p t6 tok ln W refs) (μG2 st (rawV tok q)) s') (fun n s2 R2 => ?_) 0 R1))
  by_cases hq : (!q && tok.isEmpty) = true
  · have hv : rawV tok q = .none := by unfold rawV; rw [if_pos hq]
    rw [hv] at R2
    refine evT_ok O rfl names_lfG 3 (b := true) (by kernel_rfl) R2 fun s3 R3 => ?_
    rw [if_pos rfl]
    refine wpAny_execs_cons (wpAny_If (wpAny_isTrue_Not (wpAny_isTrue_value (Attribute_Name_ (self_ok O R3 (get_ok O R3 names_lfG.2.1 fs_lf fun u s4 ru R4 => ?_))))))
    obtain ⟨rfl, -⟩ := ru
    show wpAny _ _ (truthy (refs 2)) _ _ _
    rw [K.r2]
    have R4' := R4
    obtain ⟨h4, tk4, m4, es4, rfl, F4, l4, sf4, fr4, N4⟩ := R4
    refine truthy_deque (N4 (fs, dequeObj) (by simp [IO.led])).1 ?_
    rw [if_pos (by decide)]
    refine wpAny_execs_cons (wpAny_Return_some (evE_ok O rfl names_lfG (v := .none) (by kernel_rfl) R4'.toks fun u s5 ru R5 => ?_))
    exact hQ u s5 _ R5 (by rw [hv]; exact ru)
  · have hv : rawV tok q = .acc (!tok.isEmpty) [] := by unfold rawV; rw [if_neg hq]
    rw [hv] at R2
    refine evT_ok O rfl names_lfG 3 (b := false) (by kernel_rfl) R2 fun s3 R3 => ?_
    rw [if_neg (by decide)]
    refine wpAny_execs_nil ?_
    refine exS_ok O 10 (f := .ret (.acc (!tok.isEmpty) [])) (μ' := μG2 st (.acc (!tok.isEmpty) [])) rfl names_lfG (by kernel_rfl) R3 (fun fl s4 hf R4 => ?_) (fun h => nomatch h)
    obtain ⟨u, rfl, ru⟩ := hf
    exact hQ u s4 _ R4 (by rw [hv]; exact ru)
end
end Mine
end

section
open PySem PySem.W PyProof.Rows PySem.Calls
set_option Elab.async false
set_option maxRecDepth 100000
set_option maxHeartbeats 8000000
namespace Mine
section
variable {w : World} {s : Shared} {A : Around} {base g : Heap} {fr : List Env} {mg mb : Str → Option Value} {mean : ExcName → Option Value} {x dx pb fs : Addr} {W : Str} {refs : Nat → Value} {i : IO} {p : Nat} {st : Option Nat} {ln : Int} {R : Result → Shared → Prop} {cn : Str} {cs : Scope} {cd : Value} {L f : Addr} {s' : Shared}
theorem gtAll (G : Gd w A base fr mean mg mb g) (hroom : A.depth + 12 < recursionLimit) (hh : A.handled = none) (hk : cs.kind = .function) (hl : ∀ x ∈ lsG, cs.names.lookup x = some .local) (hsf : cs.names.lookup (Str.ofString "self") = some .local) (K : LexOk2 x dx pb fs i W refs) {t6 : Nat} (hs : st ∈ sts1) (hp : p ≤ i.buf.length) {b : List Stmt} (hb : b = gtBody)
    {Q : Flow → Shared → Prop} (R0 : Rel (CxG w A cn cs cd f g L s x dx pb fs i p t6 [] ln W refs) (μG st) s') {RE : Value → Shared → Prop}
    (q2 : ∀ p' t6' tok' ln' st' q' s'' u loc, p' ≤ i.buf.length → st' ∈ sts1 → run [39, 34] wh1 ((sL i.buf).drop p) st 32 false [] ln = .brk ((sL i.buf).drop p') st' ln' tok' q' →
      Rel (CxG w A cn cs cd f g L s x dx pb fs i p' t6' tok' ln' W refs) ⟨false, lsG, loc, lf (stV st') (.str []) (.row 0) 0 false [39, 34] [35] false⟩ s'' → (if !q' && tok'.isEmpty then u = .none else ∃ t, u = .str (ofL tok') t) → Q (.ret u) s'')
    (q3 : run [39, 34] wh1 ((sL i.buf).drop p) st 32 false [] ln = .bad → ∀ e h' tk t vs, RaisedS base g fr e (.type "ValueError") t vs [] h' → g.UpToSlots h' → RE (.ref e) { s with heap := h', toks := tk }) :
    wpAny (model PySem.Challenge.rw_om0137_01.row.prog w) (A.deeper (envOf cn cs L f cd)) (execs b (envOf cn cs L f cd)) Q
      (fun e s' => wpAny (model PySem.Challenge.rw_om0137_01.row.prog w) (A.deeper (envOf cn cs L f cd)) (leaving (envOf cn cs L f cd) e) (fun _ s'' => RE e s'') (fun e' s'' => RE e' s'') s') s' := by
  have O := ok_G (f := f) (cn := cn) (cd := cd) (L := L) (s := s) G (by omega) hh hk hl hsf K p t6 [] ln (by simp)
  rw [hb, gtBody_eq]
  refine wpAny_execs_cons (wpAny_If (wpAny_isTrue_value (Attribute_Name_ (self_ok O R0 (get_ok O R0 names_lfG.2.1 pb_lf fun u s1 ru R1 => ?_)))))
  obtain ⟨rfl, -⟩ := ru
  show wpAny _ _ (truthy (refs 1)) _ _ _
  rw [K.r1]
  have R1' := R1
  obtain ⟨h1, tk1, m1, es1, rfl, F1, l1, sf1, fr1, N1⟩ := R1
  refine truthy_deque (N1 (pb, dequeObj) (by simp [IO.led])).1 ?_
  rw [if_neg (by decide)]
  refine wpAny_execs_nil ?_
  have R2 := R1'.toks (tk := tk1 + 1 + 1)
  clear R1'
  obtain ⟨r1, r2, r3, r4⟩ := rt_lex w
  refine wpAny_execs_cons (wpAny_Assign_Name (MethodCall_ (self_ok O R2 (method_inst F1 G.X (InstAt.of_news N1 (.head _) (.tail _ (.head _))) r1 r2 r3 (getL_none fr1 rt_lf) (callWith_K0 (G.X.keeps F1.keep) r4 (wpAny_call ?_)))) rfl) rfl)
  have NS : News g L h1 ((x, instObj 722 dx) :: (dx, dictOf es1 19) :: i.led p t6) := fun q hq => N1 q (by
    simp only [IO.led, List.cons_append, List.nil_append, List.mem_cons, List.not_mem_nil, or_false] at hq ⊢
    rcases hq with h | h | h | h <;> simp [h])
  have NR : News g L h1 [(pb, dequeObj), (fs, dequeObj)] := fun q hq => N1 q (by
    simp only [IO.led, List.cons_append, List.nil_append, List.mem_cons, List.not_mem_nil, or_false] at hq ⊢
    rcases hq with h | h <;> simp [h])
  obtain ⟨FG, -, -, -⟩ := groundX (R := fun _ _ => True) (A := A.deeper (envOf cn cs L f cd)) (env := envOf cn cs L f cd) (s := { s with heap := h1, toks := tk1 + 1 + 1 }) G.B F1 NS (Around.frames_deeper G.B.stack) rfl hk
  obtain ⟨G', S', k', back⟩ := pushY (A := A.deeper (envOf cn cs L f cd)) (env := envOf cn cs L f cd) (s := { s with heap := h1, toks := tk1 + 1 + 1 }) G.B F1 NS (Around.frames_deeper G.B.stack) rfl hk G.X G.T
  refine read_token_ok G' (by simp only [depth_deeper]; omega) hh k' K.toLexOk hs hp ⟨_, es1, t6, rfl, rfl, rfl, fr1, S'⟩ ?_ ?_
  · intro p' tok' ln' st' q' h' tk u hp' hs' ht hrun hk' hL' hu
    obtain ⟨Γ', es', t6', e1, e2, e3, FR', SS⟩ := hL'
    obtain ⟨F2, N2⟩ := back _ NR (fun r hr hm => by
      simp only [List.mem_cons, List.not_mem_nil, or_false] at hr
      simp only [IO.led, List.map_cons, List.map_nil, List.mem_cons, List.not_mem_nil, or_false] at hm
      rcases hr with h | h
      · rw [h] at hm
        have := K.npb
        rcases hm with z | z | z | z
        · exact this.1 z
        · exact this.2.1 z
        · exact this.2.2.1 z
        · exact this.2.2.2 z
      · rw [h] at hm
        have := K.nfs
        rcases hm with z | z | z | z
        · exact this.1 z
        · exact this.2.1 z
        · exact this.2.2.1 z
        · exact this.2.2.2 z) h' _ hk' SS
    have O2 := ok_G (f := f) (cn := cn) (cd := cd) (L := L) (s := s) G (by omega) hh hk hl hsf K p' t6' tok' ln' ht
    have R3 : Rel (CxG w A cn cs cd f g L s x dx pb fs i p' t6' tok' ln' W refs) (μG st') { s with heap := h', toks := tk } := by
      refine ⟨h', tk, m1, es', rfl, F2, (fun y v h => nomatch h), sf1, FldRep.conv (lf_conv ?_ (fun u hu => ?_) (fun u hu => ?_) (fun u hu => ?_) fun u hu => ?_) FR', ?_⟩
      · exact e2.symm
      · cases st' with
        | none => exact hu
        | some k => exact hu
      · exact hu
      · show ∃ t, u = .int (ln' + ((0 : Nat) : Int)) t
        rw [← e3]; exact hu
      · exact ⟨K.zero, by rw [← e1]; exact hu.2⟩
      · intro q hq
        refine N2 q ?_
        simp only [IO.led, List.cons_append, List.nil_append, List.mem_cons, List.not_mem_nil, or_false] at hq ⊢
        rcases hq with h | h | h | h | h | h <;> simp [h]
    have hru : Rep (CxG w A cn cs cd f g L s x dx pb fs i p' t6' tok' ln' W refs) (rawV tok' q') u := by
      unfold rawV
      split at hu
      · rename_i hq
        rw [if_pos hq]; exact hu
      · rename_i hq
        rw [if_neg hq]
        obtain ⟨t, ht⟩ := hu
        exact ⟨(ne_ofL _).symm, t, by rw [ht, app_ofL, List.append_nil]⟩
    refine store_ok O2 (v := rawV tok' q') (by decide +kernel) R3 hru fun s4 R4 => ?_
    refine gtEnd G (by omega) hh hk hl hsf K ht R4 fun u' s5 loc R5 ru' => ?_
    refine q2 p' t6' tok' ln' st' q' s5 u' loc hp' hs' hrun R5 ?_
    unfold rawV at ru'
    split
    · rename_i hq
      rw [if_pos hq] at ru'; exact ru'
    · rename_i hq
      rw [if_neg hq] at ru'
      obtain ⟨_, t, hu'⟩ := ru'
      exact ⟨t, by rw [hu', app_ofL, List.append_nil]⟩
  · intro hbad e h' tk t vs hr hup
    exact leave_onS (s' := { s with heap := h', toks := tk }) G.B FG hr hup fun h2 hr2 _ hup2 => q3 hbad e h2 tk t vs hr2 hup2
theorem get_token_ok (G : Gd w A base fr mean mg mb g) (hroom : A.depth + 12 < recursionLimit) (hh : A.handled = none) (k : Ke g s.heap) (K : LexOk2 x dx pb fs i W refs) (hs : st ∈ sts1) (hp : p ≤ i.buf.length) (Lx : LexFull g s.heap x dx pb fs i refs W st ln p)
    (q2 : ∀ p' tok' ln' st' q' h' tk u, p' ≤ i.buf.length → st' ∈ sts1 → run [39, 34] wh1 ((sL i.buf).drop p) st 32 false [] ln = .brk ((sL i.buf).drop p') st' ln' tok' q' →
      Ke g h' → LexFull g h' x dx pb fs i refs W st' ln' p' → (if !q' && tok'.isEmpty then u = .none else ∃ t, u = .str (ofL tok') t) → R (.ok (.ret u)) { s with heap := h', toks := tk })
    (q3 : run [39, 34] wh1 ((sL i.buf).drop p) st 32 false [] ln = .bad → ∀ e h' tk t vs, RaisedS base g fr e (.type "ValueError") t vs [] h' → g.UpToSlots h' → R (.error (.ref e)) { s with heap := h', toks := tk }) :
    codeAny (model PySem.Challenge.rw_om0137_01.row.prog w) A (.call (.ref 683) ⟨[.ref x], []⟩) R s := by
  obtain ⟨⟨Γ, es, t6, e1, e2, e3, FR, S⟩, S2⟩ := Lx
  have X := G.X
  revert X
  k_fill
  intro X
  refine enterG (binds := [("self", .ref x)]) G (sub_app S S2) k (by k_is) (by k_is) (by omega) (BindsTo.of_eq rfl) rfl ?_ (by decide) rfl rfl rfl
  intro L' h₁ F' N' hlt
  refine gtAll (RE := fun e s'' => R (.error e) s'') (i := i) (p := p) (t6 := t6) (x := x) (dx := dx) (pb := pb) (fs := fs) (W := W) (refs := refs) (ln := ln) (st := st) (s := s) G hroom hh rfl (by decide) rfl K hs hp (by kernel_rfl) ?_ ?_ ?_
  · refine ⟨h₁, _, _, es, rfl, F', (fun y v h => nomatch h), rfl, FldRep.conv (lf_conv ?_ (fun u hu => ?_) (fun u hu => ?_) (fun u hu => ?_) fun u hu => ?_) FR, N'⟩
    · exact e2.symm
    · cases st with
      | none => exact hu
      | some k => exact hu
    · exact hu
    · show ∃ t, u = .int (ln + ((0 : Nat) : Int)) t
      rw [← e3]; exact hu
    · exact ⟨K.zero, by rw [← e1]; exact hu.2⟩
  · intro p' t6' tok' ln' st' q' s'' u loc h1 h2 h3 R2 hu
    obtain ⟨h, tk, m, es', rfl, F, l, sf, fr', N⟩ := R2
    have NS := Sub.of_news N
    refine q2 p' tok' ln' st' q' h tk u h1 h2 h3 (Ke.of_fr F) ⟨⟨_, es', t6', rfl, rfl, rfl, fr', fun q hq => NS q ?_⟩, fun q hq => NS q ?_⟩ hu
    · simp only [IO.led, List.cons_append, List.nil_append, List.mem_cons, List.not_mem_nil, or_false] at hq ⊢
      rcases hq with h | h | h | h <;> simp [h]
    · simp only [IO.led, List.cons_append, List.nil_append, List.mem_cons, List.not_mem_nil, or_false] at hq ⊢
      rcases hq with h | h <;> simp [h]
  · intro hbad e h' tk t vs hr hup
    exact q3 hbad e h' tk t vs hr hup
end
end Mine
end

section
open PySem PySem.W PyProof.Rows PySem.Calls
set_option Elab.async false
set_option maxRecDepth 100000
set_option maxHeartbeats 8000000
namespace Mine
noncomputable def namesN : List Str := ["lineno", "instream", "whitespace", "pushback"]
noncomputable def nlf (ln : V) (wc : Nat) (wb : Bool) : List (Str × V) := [("lineno", ln), ("instream", .obj 0), ("whitespace", .whites wc wb), ("pushback", .obj 1)]
theorem find_nx (w : World) (f : Str) (hf : f ∈ namesN) : findIn (hd.heap_39 w.params) (.ref 764) f = some none ∧ takerIn (hd.heap_39 w.params) 764 f = some none := by
  have e : PySem.Challenge.rw_om0137_01 = PySem.Challenge.rw_om0137_01 := rfl
  revert e
  k_fill
  intro _
  revert f
  rw [all_of]
  simp only [namesN, List.foldr]
  refine ⟨?_, ?_, ?_, ?_, trivial⟩ <;> (constructor <;> k_is)
theorem cls_nx (w : World) : plainGet (hd.heap_39 w.params) 764 "state" = true ∧ hasDictIn (hd.heap_39 w.params) 764 = true ∧ findIn (hd.heap_39 w.params) (.ref 764) "__setattr__" = some (some (.builtin "object.__setattr__")) ∧ plainOver (hd.heap_39 w.params) 764 = true := by
  have e : PySem.Challenge.rw_om0137_01 = PySem.Challenge.rw_om0137_01 := rfl
  revert e
  k_fill
  intro _
  refine ⟨?_, ?_, ?_, ?_⟩ <;> k_is
theorem rc_nx (w : World) : findIn (hd.heap_39 w.params) (.ref 764) "_read_char" = some (some (.ref 747)) ∧ isFn (hd.heap_39 w.params) (.ref 747) = true ∧ keepIn (hd.heap_39 w.params) (.ref 747) = true ∧ specialIn (hd.heap_39 w.params) (.ref 747) "__get__" = some (some (.builtin "function.__get__")) ∧ takesIn (hd.heap_39 w.params) (.ref 747) = some false ∧ nsIn (hd.heap_39 w.params) mainGlobals "iter" = some none := by
  have e : PySem.Challenge.rw_om0137_01 = PySem.Challenge.rw_om0137_01 := rfl
  revert e
  k_fill
  intro _
  refine ⟨?_, ?_, ?_, ?_, ?_, ?_⟩ <;> k_is
theorem nlf_names {ln : V} {wc : Nat} {wb : Bool} {f : Str} {v : V} (h : lookS f (nlf ln wc wb) = some v) : namesN.any (eqS f) = true := by
  have aux : ∀ (l : List (Str × V)) (names : List Str), l.map (·.1) = names → lookS f l = some v → names.any (eqS f) = true := by
    intro l
    induction l with
    | nil => intro names _ h; cases h
    | cons p l ih =>
      intro names e h
      subst e
      obtain ⟨y, u⟩ := p
      unfold lookS at h
      rw [List.map_cons, List.any_cons]
      split at h
      · rename_i hy
        rw [eqS_iff.mp hy, eqS_iff.mpr rfl]; rfl
      · rw [ih _ rfl h, Bool.or_true]
  exact aux _ _ rfl h
theorem names_nlf {ls : List Str} {ln : V} {wc : Nat} {wb : Bool} {loc : List (Str × V)} : NamesOk ⟨false, ls, loc, nlf ln wc wb⟩ ls namesN :=
  ⟨rfl, fun _ _ h => nlf_names h, by show 4 ≤ 100; omega⟩
theorem nlf_conv {Γ Γ' : Cx} {ln ln' : V} {wc wc' : Nat} {wb wb' : Bool} (h4 : Γ'.refs 0 = Γ.refs 0 ∧ Γ'.refs 1 = Γ.refs 1) (hl : ∀ u, Rep Γ ln u → Rep Γ' ln' u) (hw : ∀ u, Rep Γ (.whites wc wb) u → Rep Γ' (.whites wc' wb') u) :
    Conv Γ Γ' (nlf ln wc wb) (nlf ln' wc' wb') :=
  .cons hl (.cons (fun u h => by simp only [Rep] at h ⊢; rw [h4.1]; exact h) (.cons hw (.cons (fun u h => by simp only [Rep] at h ⊢; rw [h4.2]; exact h) .nil)))
section
variable {w : World} {s : Shared} {A : Around} {base g : Heap} {fr : List Env} {mg mb : Str → Option Value} {mean : ExcName → Option Value} {x dx L f : Addr} {led : List (Addr × Obj)} {cn : Str} {cs : Scope} {cd : Value} {T0 W : Str} {ln0 : Int} {refs : Nat → Value} {ls : List Str}
theorem ok_nx (G : Gd w A base fr mean mg mb g) (hh : A.handled = none) (hk : cs.kind = .function) (hl : ∀ x ∈ ls, cs.names.lookup x = some .local) (hls : ∀ y ∈ ls, (y == ("__debug__" : Str)) = false ∧ y ≠ Str.ofString "self") (hsf : cs.names.lookup (Str.ofString "self") = some .local)
    (hap : x ≠ dx ∧ ∀ p ∈ led, p.1 ≠ dx) (hT : T0.length ≤ 3000) :
    Ok (CxR w (A.deeper (envOf cn cs L f cd)) (envOf cn cs L f cd) g L s x dx 764 4 led T0 ln0 W refs) false ls namesN where
  X := G.X
  kind := hk
  locals := rfl
  isLoc := fun y hy => ⟨hl y (any_eqS hy), hls y (any_eqS hy)⟩
  self := hsf
  apart := hap
  plain := fun _ => (cls_nx w).1
  dict := (cls_nx w).2.1
  find := fun f hf => ⟨none, (find_nx w f (any_eqS hf)).1, rfl⟩
  setter := (cls_nx w).2.2.1
  over := (cls_nx w).2.2.2
  taker := fun f hf => (find_nx w f (any_eqS hf)).2
  small := hT
  prop := fun h => nomatch h
  handled := hh
  valErr := fun h => nomatch h
end
/-- a _netrclex between two words -/
noncomputable def NxAt (g h : Heap) (x dx : Addr) (i : IO) (refs : Nat → Value) (W : Str) (ln : Int) (p : Nat) : Prop :=
  ∃ (Γ : Cx) (es : List DictEntry) (t6 : Nat) (wc : Nat) (wb : Bool), Γ.W = W ∧ Γ.refs 0 = refs 0 ∧ Γ.refs 1 = refs 1 ∧ Γ.ln0 = ln ∧ FldRep Γ (nlf (.row 0) wc wb) es ∧ Sub g h ((x, instObj 764 dx) :: (dx, dictOf es 4) :: i.led p t6)
structure NxOk (x dx : Addr) (i : IO) (refs : Nat → Value) : Prop where
  ne : i.io ≠ i.dio ∧ i.io ≠ x ∧ i.io ≠ dx ∧ i.dio ≠ x ∧ i.dio ≠ dx
  ne2 : x ≠ dx
  r0 : refs 0 = .ref i.io
  len : i.buf.length ≤ 1000
noncomputable def rcBody : List Stmt := defBody "_read_char" (clsBody "_netrclex" PySem.Challenge.rw_om0137_01.row.prog.main.body)
noncomputable def rcRest : List Stmt := rcBody.drop 1
theorem rcBody_eq : rcBody = .Assign [.Name (Str.ofString "ch") ⟨732, 8, 732, 10⟩] (.Call (.Attribute (.Attribute (.Name (Str.ofString "self") ⟨732, 13, 732, 17⟩) (Str.ofString "instream") ⟨732, 13, 732, 26⟩) (Str.ofString "read") ⟨732, 13, 732, 31⟩) [.Constant (.int 1) 0 ⟨732, 32, 732, 33⟩] [] ⟨732, 13, 732, 34⟩) ⟨732, 8, 732, 34⟩ :: rcRest := by kernel_rfl
noncomputable def lsC : List Str := ["ch"]
theorem lsC_ok : ∀ y ∈ lsC, (y == ("__debug__" : Str)) = false ∧ y ≠ Str.ofString "self" := by decide
theorem rc_nl {wc : Nat} {wb : Bool} : exS 10 ⟨false, lsC, [(Str.ofString "ch", .str [10])], nlf (.row 0) wc wb⟩ rcRest = some (.ret (.str [10]), ⟨false, lsC, [(Str.ofString "ch", .str [10])], nlf (.row 1) wc wb⟩) := by kernel_rfl
theorem rc_eof {wc : Nat} {wb : Bool} : exS 10 ⟨false, lsC, [(Str.ofString "ch", .str [])], nlf (.row 0) wc wb⟩ rcRest = some (.ret (.str []), ⟨false, lsC, [(Str.ofString "ch", .str [])], nlf (.row 0) wc wb⟩) := by kernel_rfl
noncomputable def rcIf : List Stmt × Pos := match rcRest with
  | .If _ b _ p :: _ => (b, p)
  | _ => ([], ⟨0, 0, 0, 0⟩)
theorem rcRest_eq : rcRest = [.If (.Compare (.Name (Str.ofString "ch") ⟨733, 11, 733, 13⟩) [.Eq] [.Constant (.str (Str.ofString "\n")) 0 ⟨733, 17, 733, 21⟩] ⟨733, 11, 733, 21⟩) rcIf.1 [] rcIf.2, .Return (some (.Name (Str.ofString "ch") ⟨735, 15, 735, 17⟩)) ⟨735, 8, 735, 17⟩] := by kernel_rfl
/-- a test of one sign -/
theorem evT_sign {μ : MS} {n : Nat} {y : Str} {c k : Nat} {p1 p2 p3 : Pos} {kk : Nat} {z : Str} (hl : μ.ls.any (eqS y) = true) (h : lookS y μ.loc = some (.str [c])) (hz : sL z = [k]) : evT (n + 1) μ (.Compare (.Name y p1) [.Eq] [.Constant (.str z) kk p2] p3) = some (c == k) := by
  have h1 : evE μ (.Name y p1) = some (.str [c]) := by
    show (if μ.ls.any (eqS y) then lookS y μ.loc else none) = _
    rw [if_pos hl, h]
  have h2 : evE μ (.Constant (.str z) kk p2) = some (.str [k]) := by
    show some (V.str (sL z)) = _
    rw [hz]
  show ((evE μ (.Name y p1)).bind fun a => (evE μ (.Constant (.str z) kk p2)).bind fun b => cmp .Eq a b) = _
  rw [h1, h2]
  show some ([c] == [k]) = some (c == k)
  simp
theorem exS_if {n : Nat} {μ : MS} {t : Expr} {b o rest : List Stmt} {p : Pos} {c : Bool} (h : evT n μ t = some c) : exS (n + 1) μ (.If t b o p :: rest) = (match exS n μ (if c then b else o) with
    | some (.next, μ') => exS n μ' rest
    | r => r) := by
  show (match ((evT n μ t).bind fun c => exS n μ (if c then b else o)) with
    | some (.next, μ') => exS n μ' rest
    | r => r) = _
  rw [h]
  rfl
theorem rc_other {wc : Nat} {wb : Bool} {c : Nat} (hc : c ≠ 10) : exS 10 ⟨false, lsC, [(Str.ofString "ch", .str [c])], nlf (.row 0) wc wb⟩ rcRest = some (.ret (.str [c]), ⟨false, lsC, [(Str.ofString "ch", .str [c])], nlf (.row 0) wc wb⟩) := by
  have ht := evT_sign (μ := ⟨false, lsC, [(Str.ofString "ch", .str [c])], nlf (.row 0) wc wb⟩) (n := 8) (y := Str.ofString "ch") (c := c) (k := 10) (p1 := ⟨733, 11, 733, 13⟩) (p2 := ⟨733, 17, 733, 21⟩) (p3 := ⟨733, 11, 733, 21⟩) (kk := 0) (z := Str.ofString "\n") (by show lsC.any (eqS (Str.ofString "ch")) = true; decide +kernel) (by kernel_rfl) (by decide +kernel)
  rw [show (c == 10) = false from by simpa using hc] at ht
  rw [rcRest_eq]
  rw [exS_if ht]
  kernel_rfl
end Mine
end

section
open PySem PySem.W PyProof.Rows PySem.Calls
set_option Elab.async false
set_option maxRecDepth 100000
set_option maxHeartbeats 8000000
namespace Mine
noncomputable def nl (c : Nat) (ln : Int) : Int := if c == 10 then ln + 1 else ln
theorem ins_nlf {ln : V} {wc : Nat} {wb : Bool} : lookS "instream" (nlf ln wc wb) = some (.obj 0) := by kernel_rfl
section
variable {w : World} {s : Shared} {A : Around} {base g : Heap} {fr : List Env} {mg mb : Str → Option Value} {mean : ExcName → Option Value} {x dx : Addr} {W : Str} {refs : Nat → Value} {i : IO} {p : Nat} {ln : Int} {R : Result → Shared → Prop}
theorem read_char_ok (G : Gd w A base fr mean mg mb g) (hroom : A.depth + 8 < recursionLimit) (hh : A.handled = none) (k : Ke g s.heap) (K : NxOk x dx i refs) (hp : p ≤ i.buf.length) (Nx : NxAt g s.heap x dx i refs W ln p)
    (qN : (sL i.buf).drop p = [] → ∀ h' tk t, Ke g h' → NxAt g h' x dx i refs W ln p → R (.ok (.ret (.str (ofL []) t))) { s with heap := h', toks := tk })
    (qC : ∀ c r, (sL i.buf).drop p = c :: r → ∀ h' tk t, Ke g h' → NxAt g h' x dx i refs W (nl c ln) (p + 1) → R (.ok (.ret (.str (ofL [c]) t))) { s with heap := h', toks := tk }) :
    codeAny (model PySem.Challenge.rw_om0137_01.row.prog w) A (.call (.ref 747) ⟨[.ref x], []⟩) R s := by
  obtain ⟨Γ, es, t6, wc, wb, e1, e2, e2', e3, FR, S⟩ := Nx
  have hlen := K.len
  have X := G.X
  revert X
  k_fill
  intro X
  refine enterG (binds := [("self", .ref x)]) G S k (by k_is) (by k_is) (by omega) (BindsTo.of_eq rfl) rfl ?_ (by decide) rfl rfl rfl
  intro L' h₁ F' N' hlt
  have ap : ∀ p t6, x ≠ dx ∧ ∀ r ∈ i.led p t6, r.1 ≠ dx := fun p t6 => ⟨K.ne2, fun r hr => by
    simp only [IO.led, List.mem_cons, List.not_mem_nil, or_false] at hr
    rcases hr with h | h <;> rw [h]
    · exact K.ne.2.2.1
    · exact K.ne.2.2.2.2⟩
  have key : ∀ (b : List Stmt) (cn : Str) (cs : Scope) (cd : Value) (Q : Flow → Shared → Prop) (E : Value → Shared → Prop) (s1 : Shared), b = rcBody → cs.kind = .function → (∀ x ∈ lsC, cs.names.lookup x = some .local) → cs.names.lookup (Str.ofString "self") = some .local →
      Rel (CxR w (A.deeper (envOf cn cs L' 747 cd)) (envOf cn cs L' 747 cd) g L' s x dx 764 4 (i.led p t6) (ofL []) ln W refs) ⟨false, lsC, [], nlf (.row 0) wc wb⟩ s1 →
      ((sL i.buf).drop p = [] → ∀ h' tk t, Ke g h' → NxAt g h' x dx i refs W ln p → Q (.ret (.str (ofL []) t)) { s with heap := h', toks := tk }) →
      (∀ c r, (sL i.buf).drop p = c :: r → ∀ h' tk t, Ke g h' → NxAt g h' x dx i refs W (nl c ln) (p + 1) → Q (.ret (.str (ofL [c]) t)) { s with heap := h', toks := tk }) →
      wpAny (model PySem.Challenge.rw_om0137_01.row.prog w) (A.deeper (envOf cn cs L' 747 cd)) (execs b (envOf cn cs L' 747 cd)) Q E s1 := by
    intro b cn cs cd Q E s1 hb hk hl hsf R0 qN qC
    have O : ∀ p t6, Ok (CxR w (A.deeper (envOf cn cs L' 747 cd)) (envOf cn cs L' 747 cd) g L' s x dx 764 4 (i.led p t6) (ofL []) ln W refs) false lsC namesN := fun p t6 => ok_nx G hh hk hl lsC_ok hsf (ap p t6) (by rw [len_ofL]; simp)
    rw [hb, rcBody_eq]
    refine wpAny_execs_cons (wpAny_Assign_Name (readE_ok G hroom hk 764 4 (O p t6) names_nlf ins_nlf K.r0 K.ne (by omega) K.len R0 (pl := _) rfl ?_ ?_) rfl)
    · intro hD s2 t R2
      refine store_ok (O p t6) (v := .str []) (by decide +kernel) R2 ⟨t, rfl⟩ fun s3 R3 => ?_
      refine exS_ok (O p t6) 10 rfl names_nlf rc_eof R3 (fun fl s4 hf R4 => ?_) (fun h => nomatch h)
      obtain ⟨u, rfl, t', rfl⟩ := hf
      obtain ⟨h, tk, m, es', rfl, F, l, sf, fr', N⟩ := R4
      exact qN hD h tk t' (Ke.of_fr F) ⟨_, es', t6, wc, wb, rfl, rfl, rfl, rfl, fr', Sub.of_news N⟩
    · intro c r t6' hD s2 t R2
      refine store_ok (O (p + 1) t6') (v := .str [c]) (by decide +kernel) R2 ⟨t, rfl⟩ fun s3 R3 => ?_
      by_cases hc : c = 10
      · subst hc
        refine exS_ok (O (p + 1) t6') 10 rfl names_nlf rc_nl R3 (fun fl s4 hf R4 => ?_) (fun h => nomatch h)
        obtain ⟨u, rfl, t', rfl⟩ := hf
        obtain ⟨h, tk, m, es', rfl, F, l, sf, fr', N⟩ := R4
        refine qC 10 r hD h tk t' (Ke.of_fr F) ⟨CxR w (A.deeper (envOf cn cs L' 747 cd)) (envOf cn cs L' 747 cd) g L' s x dx 764 4 (i.led (p + 1) t6') (ofL []) (ln + 1) W refs, es', t6', wc, wb, rfl, rfl, rfl, rfl, ?_, Sub.of_news N⟩
        refine FldRep.conv (nlf_conv ?_ (fun u hu => ?_) (fun u hu => ?_)) fr'
        · exact ⟨rfl, rfl⟩
        rotate_left
        · exact hu
        obtain ⟨t2, hu⟩ := hu
        exact ⟨t2, by rw [hu]; congr 1; show ln + ((1 : Nat) : Int) = ln + 1 + ((0 : Nat) : Int); omega⟩
      · refine exS_ok (O (p + 1) t6') 10 rfl names_nlf (rc_other hc) R3 (fun fl s4 hf R4 => ?_) (fun h => nomatch h)
        obtain ⟨u, rfl, t', rfl⟩ := hf
        obtain ⟨h, tk, m, es', rfl, F, l, sf, fr', N⟩ := R4
        have hnl : nl c ln = ln := by unfold nl; rw [if_neg (by simpa using hc)]
        refine qC c r hD h tk t' (Ke.of_fr F) ?_
        rw [hnl]
        exact ⟨_, es', t6', wc, wb, rfl, rfl, rfl, rfl, fr', Sub.of_news N⟩
  refine key _ _ _ _ _ _ _ (by kernel_rfl) rfl (by decide) rfl ?_ (fun hD h' tk t => qN hD h' tk t) (fun c r hD h' tk t => qC c r hD h' tk t)
  refine ⟨h₁, _, _, es, rfl, F', (fun y v h => nomatch h), rfl, FldRep.conv (nlf_conv ?_ (fun u hu => ?_) fun u hu => ?_) FR, N'⟩
  · exact ⟨e2.symm, e2'.symm⟩
  · show ∃ t, u = .int (ln + ((0 : Nat) : Int)) t
    rw [← e3]; exact hu
  · exact ⟨by rw [← hu.1, e1], by rw [← e1]; exact hu.2⟩
end
end Mine
end

section
open PySem PySem.W PyProof.Rows PySem.Calls
set_option Elab.async false
set_option maxRecDepth 100000
set_option maxHeartbeats 8000000
namespace Mine
noncomputable def isRow : V → Bool
  | .row _ => true
  | _ => false
theorem Rep.congr2 {Γ Γ' : Cx} {v : V} {u : Value} (hr : isRow v = false) (h1 : Γ'.T0 = Γ.T0) (h3 : Γ'.W = Γ.W) (h4 : Γ'.refs = Γ.refs) (h : Rep Γ v u) : Rep Γ' v u := by
  cases v with
  | row d => cases hr
  | _ => simp only [Rep] at h ⊢ <;> (try rw [h1]) <;> (try rw [h3]) <;> (try rw [h4]) <;> exact h
theorem LocRep.congr2 {Γ Γ' : Cx} {loc : List (Str × V)} {m : Str → Option Value} (hr : ∀ y v, lookS y loc = some v → isRow v = false) (h1 : Γ'.T0 = Γ.T0) (h3 : Γ'.W = Γ.W) (h4 : Γ'.refs = Γ.refs) (h : LocRep Γ loc m) : LocRep Γ' loc m :=
  fun x v e => let ⟨u, e', r⟩ := h x v e; ⟨u, e', r.congr2 (hr x v e) h1 h3 h4⟩
noncomputable abbrev listE : Obj := { cls := .type "list", data := .seq #[] }
noncomputable def exL (b : Bool) (it q pb x : Addr) (tc : Nat) : List (Addr × Obj) := [(it, if b then citObj .none .none true else citObj (.ref q) (.str (Str.ofString "") tc) false), (q, methodObj (.ref 747) (.ref x)), (pb, listE)]
noncomputable abbrev CxN (w : World) (A : Around) (cn : Str) (cs : Scope) (cd : Value) (f : Addr) (g : Heap) (L : Addr) (s : Shared) (x dx : Addr) (i : IO) (p t6 : Nat) (ex : List (Addr × Obj)) (tok : List Nat) (ln : Int) (W : Str) (refs : Nat → Value) : Cx :=
  CxR w (A.deeper (envOf cn cs L f cd)) (envOf cn cs L f cd) g L s x dx 764 4 (i.led p t6 ++ ex) (ofL tok) ln W refs
theorem fn747 (w : World) : ∃ ofn fd, (hd.heap_39 w.params).lookup 747 = some ofn ∧ ofn.data = .func fd := by
  have e : PySem.Challenge.rw_om0137_01 = PySem.Challenge.rw_om0137_01 := rfl
  revert e
  k_fill
  intro _
  exact ⟨_, _, by k_is, rfl⟩
noncomputable def apartX (ex : List (Addr × Obj)) (x dx : Addr) (i : IO) : Prop := ∀ r ∈ ex, r.1 ≠ x ∧ r.1 ≠ dx ∧ r.1 ≠ i.io ∧ r.1 ≠ i.dio
section
variable {w : World} {s s' : Shared} {A A2 : Around} {base g : Heap} {fr : List Env} {mg mb : Str → Option Value} {mean : ExcName → Option Value} {x dx : Addr} {W : Str} {refs : Nat → Value} {i : IO} {p t6 : Nat} {ln : Int} {RR : Result → Shared → Prop} {cn : Str} {cs : Scope} {cd : Value} {L f : Addr} {ex : List (Addr × Obj)} {tok : List Nat} {ls : List Str} {loc : List (Str × V)} {wc : Nat} {wb : Bool} {E : Value → Shared → Prop}
theorem rc_call (G : Gd w A base fr mean mg mb g) (hk : cs.kind = .function) (hA2 : A2.frames = some (envOf cn cs L f cd :: fr)) (hd2 : A2.depth + 8 < recursionLimit) (hh2 : A2.handled = none) (K : NxOk x dx i refs) (hp : p ≤ i.buf.length) (hex : apartX ex x dx i) (hloc : ∀ y v, lookS y loc = some v → isRow v = false)
    (R : Rel (CxN w A cn cs cd f g L s x dx i p t6 ex tok ln W refs) ⟨false, ls, loc, nlf (.row 0) wc wb⟩ s')
    (hN : (sL i.buf).drop p = [] → ∀ s'' t t6' wc wb, Rel (CxN w A cn cs cd f g L s x dx i p t6' ex tok ln W refs) ⟨false, ls, loc, nlf (.row 0) wc wb⟩ s'' → RR (.ok (.ret (.str (ofL []) t))) s'')
    (hC : ∀ c r, (sL i.buf).drop p = c :: r → ∀ s'' t t6' wc wb, Rel (CxN w A cn cs cd f g L s x dx i (p + 1) t6' ex tok (nl c ln) W refs) ⟨false, ls, loc, nlf (.row 0) wc wb⟩ s'' → RR (.ok (.ret (.str (ofL [c]) t))) s'') :
    codeAny (model PySem.Challenge.rw_om0137_01.row.prog w) A2 (.call (.ref 747) ⟨[.ref x], []⟩) RR s' := by
  obtain ⟨h1, tk1, m1, es1, rfl, F1, l1, sf1, fr1, N1⟩ := R
  have NS : News g L h1 ((x, instObj 764 dx) :: (dx, dictOf es1 4) :: i.led p t6) := fun q hq => N1 q (by
    simp only [IO.led, List.cons_append, List.nil_append, List.mem_cons, List.not_mem_nil, or_false] at hq ⊢
    rcases hq with h | h | h | h <;> simp [h])
  have NR : News g L h1 ex := fun q hq => N1 q (by
    simp only [IO.led, List.cons_append, List.nil_append, List.mem_cons]
    exact .inr (.inr (.inr (.inr hq))))
  obtain ⟨G', S', k', back⟩ := pushY (A := A2) (env := envOf cn cs L f cd) (s := { s with heap := h1, toks := tk1 }) G.B F1 NS hA2 rfl hk G.X G.T
  have hne : ∀ r ∈ ex, r.1 ∉ List.map (fun x : Addr × Obj => x.1) ((x, instObj 764 dx) :: (dx, dictOf es1 4) :: i.led p t6) := fun r hr hm => by
    simp only [IO.led, List.map_cons, List.map_nil, List.mem_cons, List.not_mem_nil, or_false] at hm
    have := hex r hr
    rcases hm with z | z | z | z
    · exact this.1 z
    · exact this.2.1 z
    · exact this.2.2.1 z
    · exact this.2.2.2 z
  have conv : ∀ (p' : Nat) (ln' : Int) (h' : Heap) (tk : Nat), Ke (hideAll h1 (List.map (fun x : Addr × Obj => x.1) ((x, instObj 764 dx) :: (dx, dictOf es1 4) :: i.led p t6))) h' → NxAt (hideAll h1 (List.map (fun x : Addr × Obj => x.1) ((x, instObj 764 dx) :: (dx, dictOf es1 4) :: i.led p t6))) h' x dx i refs W ln' p' →
      ∃ t6' wc wb, Rel (CxN w A cn cs cd f g L s x dx i p' t6' ex tok ln' W refs) ⟨false, ls, loc, nlf (.row 0) wc wb⟩ { s with heap := h', toks := tk } := by
    intro p' ln' h' tk hk' hnx
    obtain ⟨Γ', es', t6', wc', wb', e1, e2, e2', e3, FR', SS⟩ := hnx
    obtain ⟨F2, N2⟩ := back _ NR hne h' _ hk' SS
    refine ⟨t6', wc', wb', h', tk, m1, es', rfl, F2, ?_, sf1, FldRep.conv (nlf_conv ?_ (fun u hu => ?_) fun u hu => ?_) FR', ?_⟩
    · apply LocRep.congr2 hloc (h := l1) <;> rfl
    · exact ⟨e2.symm, e2'.symm⟩
    · show ∃ t, u = .int (ln' + ((0 : Nat) : Int)) t
      rw [← e3]; exact hu
    · exact ⟨by rw [← hu.1, e1], by rw [← e1]; exact hu.2⟩
    · intro q hq
      refine N2 q ?_
      simp only [IO.led, List.cons_append, List.nil_append, List.mem_cons, List.not_mem_nil, or_false] at hq ⊢
      exact hq
  refine read_char_ok G' hd2 hh2 k' K hp ⟨_, es1, t6, wc, wb, rfl, rfl, rfl, rfl, fr1, S'⟩ ?_ ?_
  · intro hD h' tk t hk' hnx
    obtain ⟨t6', wc', wb', R'⟩ := conv p ln h' tk hk' hnx
    exact hN hD _ t t6' wc' wb' R'
  · intro c r hD h' tk t hk' hnx
    obtain ⟨t6', wc', wb', R'⟩ := conv (p + 1) (nl c ln) h' tk hk' hnx
    exact hC c r hD _ t t6' wc' wb' R'
/-- the next sign of the iterator -/
theorem next_turn (G : Gd w A base fr mean mg mb g) (hroom : A.depth + 12 < recursionLimit) (hh : A.handled = none) (hk : cs.kind = .function) (K : NxOk x dx i refs) (hp : p ≤ i.buf.length) {it q pb : Addr} {tc : Nat} (hex : apartX (exL false it q pb x tc) x dx i) (hne : it ≠ q ∧ it ≠ pb) (hloc : ∀ y v, lookS y loc = some v → isRow v = false)
    (R : Rel (CxN w A cn cs cd f g L s x dx i p t6 (exL false it q pb x tc) tok ln W refs) ⟨false, ls, loc, nlf (.row 0) wc wb⟩ s') {Q : Option Value → Shared → Prop}
    (hN : (sL i.buf).drop p = [] → ∀ s'' t6' wc wb, Rel (CxN w A cn cs cd f g L s x dx i p t6' (exL true it q pb x tc) tok ln W refs) ⟨false, ls, loc, nlf (.row 0) wc wb⟩ s'' → Q none s'')
    (hC : ∀ c r, (sL i.buf).drop p = c :: r → ∀ s'' t t6' wc wb, Rel (CxN w A cn cs cd f g L s x dx i (p + 1) t6' (exL false it q pb x tc) tok (nl c ln) W refs) ⟨false, ls, loc, nlf (.row 0) wc wb⟩ s'' → Q (some (.str (ofL [c]) t)) s'') :
    wpAny (model PySem.Challenge.rw_om0137_01.row.prog w) (A.deeper (envOf cn cs L f cd)) (pyNext (.ref it)) Q E s' := by
  obtain ⟨ofn, fd, ho, hd⟩ := fn747 w
  have facts : ∀ {p t6 ln s1 wc wb}, Rel (CxN w A cn cs cd f g L s x dx i p t6 (exL false it q pb x tc) tok ln W refs) ⟨false, ls, loc, nlf (.row 0) wc wb⟩ s1 →
      s1.heap.get? it = some (citObj (.ref q) (.str (Str.ofString "") tc) false) ∧ s1.heap.get? q = some (methodObj (.ref 747) (.ref x)) ∧ s1.heap.get? 747 = some ofn := by
    intro p t6 ln s1 wc wb R
    obtain ⟨h1, tk1, m1, es1, rfl, F1, l1, sf1, fr1, N1⟩ := R
    exact ⟨(N1 (it, _) (by simp [IO.led, exL])).1, (N1 (q, _) (by simp [IO.led, exL])).1, G.X.keeps F1.keep _ _ ho⟩
  obtain ⟨f1, f2, f3⟩ := facts R
  refine next_cit hh f1 f2 f3 hd ?_
  refine rc_call (A2 := (A.deeper (envOf cn cs L f cd)).in1) G hk (Around.frames_deeper G.B.stack) (by simp only [depth_in1, depth_deeper]; omega) hh K hp hex hloc R ?_ ?_
  · intro hD s2 t t6' wc' wb' R2
    obtain ⟨g1, g2, g3⟩ := facts R2
    refine ⟨_, _, rfl, g1, g2, g3, ?_⟩
    rw [if_pos (by decide)]
    intro h' hit' hext
    refine hN hD _ t6' wc' wb' ?_
    obtain ⟨h1, tk1, m1, es1, rfl, F1, l1, sf1, fr1, N1⟩ := R2
    have hitN := N1 (it, citObj (.ref q) (.str (Str.ofString "") tc) false) (by simp [IO.led, exL])
    refine ⟨h', tk1, m1, es1, rfl, ⟨?_, ?_, F1.above⟩, ?_, sf1, ?_, ?_⟩
    · exact F1.ns.extBut hext (fun e => hitN.2.1 e.symm)
    · intro b o hb
      exact hext b o (fun e => by rw [e, hitN.2.2] at hb; cases hb) (F1.keep b o hb)
    · apply LocRep.congr2 hloc (h := l1) <;> rfl
    · have cv : Conv (CxN w A cn cs cd f g L s x dx i p t6' (exL false it q pb x tc) tok ln W refs) (CxN w A cn cs cd f g L s x dx i p t6' (exL true it q pb x tc) tok ln W refs) (nlf (.row 0) wc' wb') (nlf (.row 0) wc' wb') := by apply Conv.same <;> rfl
      exact fr1.conv cv
    · intro r hr
      by_cases he : r.1 = it
      · have hxr := hex (it, if false then citObj .none .none true else citObj (.ref q) (.str (Str.ofString "") tc) false) (by simp [exL])
        have : r = (it, citObj .none .none true) := by
          simp only [IO.led, exL, List.cons_append, List.nil_append, List.mem_cons, List.not_mem_nil, or_false] at hr
          rcases hr with z | z | z | z | z | z | z
          · rw [z] at he; exact absurd he.symm hxr.1
          · rw [z] at he; exact absurd he.symm hxr.2.1
          · rw [z] at he; exact absurd he.symm hxr.2.2.1
          · rw [z] at he; exact absurd he.symm hxr.2.2.2
          · simpa using z
          · rw [z] at he; exact absurd he.symm hne.1
          · rw [z] at he; exact absurd he.symm hne.2
        rw [this]
        exact ⟨hit', hitN.2.1, hitN.2.2⟩
      · have hr' : r ∈ (x, instObj 764 dx) :: (dx, dictOf es1 4) :: (i.led p t6' ++ exL false it q pb x tc) := by
          simp only [IO.led, exL, List.cons_append, List.nil_append, List.mem_cons, List.not_mem_nil, or_false] at hr ⊢
          rcases hr with z | z | z | z | z | z | z
          · simp [z]
          · simp [z]
          · simp [z]
          · simp [z]
          · rw [z] at he; exact absurd rfl he
          · simp [z]
          · simp [z]
        have := N1 r hr'
        exact ⟨hext r.1 r.2 he this.1, this.2⟩
  · intro c r hD s2 t t6' wc' wb' R2
    obtain ⟨g1, g2, g3⟩ := facts R2
    refine ⟨_, _, rfl, g1, g2, g3, ?_⟩
    rw [if_neg (fun e => by have := congrArg (fun z : Str => z.cps.size) e; cases this)]
    exact hC c r hD s2 t t6' wc' wb' R2
end
end Mine
end

section
open PySem PySem.W PyProof.Rows PySem.Calls
set_option Elab.async false
set_option maxRecDepth 100000
set_option maxHeartbeats 8000000
namespace Mine
inductive NO where
  | ret (tok r : List Nat) (ln : Int)
  | fin (tok : List Nat) (ln : Int)
/-- the loop over the signs of a word of _netrclex -/
noncomputable def loopL (stop : Nat → Bool) : List Nat → List Nat → Int → NO
  | [], tok, ln => .fin tok ln
  | [c], tok, ln => if stop c then .ret tok [] (nl c ln) else if c == 92 then .fin tok ln else .fin (tok ++ [c]) (nl c ln)
  | c :: d :: r, tok, ln => if stop c then .ret tok (d :: r) (nl c ln) else if c == 92 then loopL stop r (tok ++ [d]) (nl d ln) else loopL stop (d :: r) (tok ++ [c]) (nl c ln)
theorem loopL_cons (stop : Nat → Bool) (c : Nat) (r tok : List Nat) (ln : Int) : loopL stop (c :: r) tok ln = if stop c then .ret tok r (nl c ln) else if c == 92 then (match r with
    | [] => .fin tok ln
    | d :: r' => loopL stop r' (tok ++ [d]) (nl d ln)) else loopL stop r (tok ++ [c]) (nl c ln) := by
  cases r with
  | nil => rw [loopL]; rfl
  | cons d r => rw [loopL]
noncomputable def lsN : List Str := ["token", "ch", "fiter"]
theorem lsN_ok : ∀ y ∈ lsN, (y == ("__debug__" : Str)) = false ∧ y ≠ Str.ofString "self" := by decide
noncomputable def locN (tok : List Nat) : List (Str × V) := [(Str.ofString "token", .acc (!tok.isEmpty) []), (Str.ofString "fiter", .obj 2)]
noncomputable def μN (tok : List Nat) (wc : Nat) (wb : Bool) : MS := ⟨false, lsN, locN tok, nlf (.row 0) wc wb⟩
noncomputable def μNc (v : V) (tok : List Nat) (wc : Nat) (wb : Bool) : MS := ⟨false, lsN, (Str.ofString "ch", v) :: locN tok, nlf (.row 0) wc wb⟩
theorem locN_row (tok : List Nat) : ∀ y v, lookS y (locN tok) = some v → isRow v = false := by
  intro y v h
  simp only [locN, lookS] at h
  split at h
  · cases h; rfl
  · split at h
    · cases h; rfl
    · cases h
theorem loc_row_cons {y0 : Str} {v0 : V} {loc : List (Str × V)} (h0 : isRow v0 = false) (h : ∀ y v, lookS y loc = some v → isRow v = false) : ∀ y v, lookS y ((y0, v0) :: loc) = some v → isRow v = false := by
  intro y v e
  simp only [lookS] at e
  split at e
  · cases e; exact h0
  · exact h y v e
/-- the statements of such a loop -/
structure LoopB where
  T : Expr
  P1 : Pos
  P2 : Pos
  P3 : Pos
  P4 : Pos
  P5 : Pos
  P6 : Pos
  P7 : Pos
  P8 : Pos
  P9 : Pos
  P10 : Pos
  P11 : Pos
  P12 : Pos
  P13 : Pos
  P14 : Pos
  P15 : Pos
noncomputable def LoopB.body (b : LoopB) : List Stmt := [.If b.T [.Return (some (.Name (Str.ofString "token") b.P1)) b.P2] [.If (.Compare (.Name (Str.ofString "ch") b.P3) [.Eq] [.Constant (.str (Str.ofString "\\")) 0 b.P4] b.P5) [.Assign [.Name (Str.ofString "ch") b.P6] (.Call (.Attribute (.Name (Str.ofString "self") b.P7) (Str.ofString "_read_char") b.P8) [] [] b.P9) b.P10] [] b.P11] b.P12,
  .AugAssign (.Name (Str.ofString "token") b.P13) .Add (.Name (Str.ofString "ch") b.P14) b.P15]
section
variable {w : World} {s s' : Shared} {A : Around} {base g : Heap} {fr : List Env} {mg mb : Str → Option Value} {mean : ExcName → Option Value} {x dx it q pb : Addr} {tc : Nat} {W : Str} {refs : Nat → Value} {i : IO} {p t6 : Nat} {ln : Int} {RR : Result → Shared → Prop} {cn : Str} {cs : Scope} {cd : Value} {L f : Addr} {tok : List Nat} {wc : Nat} {wb : Bool} {E : Value → Shared → Prop}
/-- what the loops of get_token take for granted -/
structure NLoop (w : World) (A : Around) (base g : Heap) (fr : List Env) (mean : ExcName → Option Value) (mg mb : Str → Option Value) (cs : Scope) (x dx it q pb : Addr) (tc : Nat) (i : IO) (refs : Nat → Value) : Prop where
  G : Gd w A base fr mean mg mb g
  room : A.depth + 12 < recursionLimit
  hh : A.handled = none
  hk : cs.kind = .function
  hl : ∀ x ∈ lsN, cs.names.lookup x = some .local
  hsf : cs.names.lookup (Str.ofString "self") = some .local
  K : NxOk x dx i refs
  hex : apartX (exL false it q pb x tc) x dx i
  hne : it ≠ q ∧ it ≠ pb
theorem NLoop.apart (N : NLoop w A base g fr mean mg mb cs x dx it q pb tc i refs) (b : Bool) (p t6 : Nat) : x ≠ dx ∧ ∀ r ∈ i.led p t6 ++ exL b it q pb x tc, r.1 ≠ dx := by
  refine ⟨N.K.ne2, fun r hr => ?_⟩
  have e1 := N.hex (it, if false then citObj .none .none true else citObj (.ref q) (.str (Str.ofString "") tc) false) (by simp [exL])
  have e2 := N.hex (q, methodObj (.ref 747) (.ref x)) (by simp [exL])
  have e3 := N.hex (pb, listE) (by simp [exL])
  simp only [IO.led, exL, List.cons_append, List.nil_append, List.mem_cons, List.not_mem_nil, or_false] at hr
  rcases hr with h | h | h | h | h <;> rw [h]
  · exact N.K.ne.2.2.1
  · exact N.K.ne.2.2.2.2
  · exact e1.2.1
  · exact e2.2.1
  · exact e3.2.1
theorem NLoop.ok (N : NLoop w A base g fr mean mg mb cs x dx it q pb tc i refs) (b : Bool) (p t6 : Nat) (tok : List Nat) (ln : Int) (W : Str) (cn : Str) (cd : Value) (f L : Addr) (s : Shared) (ht : tok.length ≤ 3000) : Ok (CxN w A cn cs cd f g L s x dx i p t6 (exL b it q pb x tc) tok ln W refs) false lsN namesN :=
  ok_nx N.G N.hh N.hk N.hl lsN_ok N.hsf (N.apart b p t6) (by rw [len_ofL]; exact ht)
theorem rcm_nlf {ln : V} {wc : Nat} {wb : Bool} : lookS "_read_char" (nlf ln wc wb) = none := by kernel_rfl
/-- token += ch, with the token taken anew -/
theorem aug_ok (N : NLoop w A base g fr mean mg mb cs x dx it q pb tc i refs) {b : Bool} {y : List Nat} (hy : y.length ≤ 1) (ht : tok.length ≤ 2000) {P13 P14 P15 : Pos} {Q : Flow → Shared → Prop}
    (R : Rel (CxN w A cn cs cd f g L s x dx i p t6 (exL b it q pb x tc) tok ln W refs) (μNc (.str y) tok wc wb) s')
    (h : ∀ s'', Rel (CxN w A cn cs cd f g L s x dx i p t6 (exL b it q pb x tc) (tok ++ y) ln W refs) (μN (tok ++ y) wc wb) s'' → Q .next s'') :
    wpAny (model PySem.Challenge.rw_om0137_01.row.prog w) (A.deeper (envOf cn cs L f cd)) (exec (.AugAssign (.Name (Str.ofString "token") P13) .Add (.Name (Str.ofString "ch") P14) P15) (envOf cn cs L f cd)) Q E s' := by
  have O := N.ok b p t6 tok ln W cn cd f L s (by omega)
  refine exA_ok O (f := .next) (μ' := ⟨false, lsN, (Str.ofString "token", .acc (!tok.isEmpty) y) :: (Str.ofString "ch", .str y) :: locN tok, nlf (.row 0) wc wb⟩) rfl names_nlf ?_ R (fun fl s2 hf R2 => ?_) (fun h => nomatch h)
  · have e1 : evE (μNc (.str y) tok wc wb) (.Name (Str.ofString "ch") P14) = some (.str y) := by kernel_rfl
    have e2 : lookS (Str.ofString "token") ((Str.ofString "ch", V.str y) :: locN tok) = some (.acc (!tok.isEmpty) []) := by kernel_rfl
    have e3 : plus (.acc (!tok.isEmpty) []) (.str y) = some (.acc (!tok.isEmpty) y) := by
      show (if ((([] : List Nat).length ≤ 50) : Bool) && decide (y.length ≤ 50) then some (V.acc (!tok.isEmpty) ([] ++ y)) else none) = _
      rw [if_pos (by simp; omega)]
      rfl
    have e4 : lsN.any (eqS (Str.ofString "token")) = true := by decide +kernel
    show (if lsN.any (eqS (Str.ofString "token")) then (lookS (Str.ofString "token") ((Str.ofString "ch", V.str y) :: locN tok)).bind fun u => (evE (μNc (.str y) tok wc wb) (.Name (Str.ofString "ch") P14)).bind fun v => (plus u v).map fun z => (Fl.next, ({ μNc (.str y) tok wc wb with loc := (Str.ofString "token", z) :: (μNc (.str y) tok wc wb).loc } : MS)) else none) = _
    rw [if_pos e4, e2, Option.bind_some, e1, Option.bind_some, e3, Option.map_some]
    rfl
  · obtain rfl : fl = .next := hf
    refine h s2 ?_
    obtain ⟨h1, tk1, m1, es1, rfl, F1, l1, sf1, fr1, N1⟩ := R2
    refine ⟨h1, tk1, m1, es1, rfl, F1, ?_, sf1, ?_, N1⟩
    · intro z v hz
      simp only [μN, locN, lookS] at hz
      split at hz
      · rename_i h1
        obtain rfl := eqS_iff.mp h1
        cases hz
        obtain ⟨u, hu, _, t, ru⟩ := l1 _ _ (show lookS (Str.ofString "token") _ = some (.acc (!tok.isEmpty) y) from by kernel_rfl)
        exact ⟨u, hu, (ne_ofL _).symm, t, by rw [ru, app_ofL, app_ofL, List.append_nil]⟩
      · split at hz
        · rename_i h1
          obtain rfl := eqS_iff.mp h1
          cases hz
          obtain ⟨u, hu, ru⟩ := l1 _ _ (show lookS (Str.ofString "fiter") _ = some (.obj 2) from by kernel_rfl)
          exact ⟨u, hu, ru⟩
        · cases hz
    · refine FldRep.conv (nlf_conv ?_ (fun u hu => ?_) fun u hu => ?_) fr1
      · exact ⟨rfl, rfl⟩
      · exact hu
      · exact hu
end
end Mine
end

section
open PySem PySem.W PyProof.Rows PySem.Calls
set_option Elab.async false
set_option maxRecDepth 100000
set_option maxHeartbeats 8000000
namespace Mine
section
variable {w : World} {s s' : Shared} {A : Around} {base g : Heap} {fr : List Env} {mg mb : Str → Option Value} {mean : ExcName → Option Value} {x dx it q pb : Addr} {tc : Nat} {W : Str} {refs : Nat → Value} {i : IO} {p t6 : Nat} {ln : Int} {RR : Result → Shared → Prop} {cn : Str} {cs : Scope} {cd : Value} {L f : Addr} {tok : List Nat} {wc : Nat} {wb : Bool} {E : Value → Shared → Prop}
/-- the white signs, seen from another sign -/
theorem rewhite {Γ : Cx} {pc : Bool} {ls : List Str} {loc : List (Str × V)} {wc : Nat} {wb : Bool} (c : Nat) (R : Rel Γ ⟨pc, ls, loc, nlf (.row 0) wc wb⟩ s') : Rel Γ ⟨pc, ls, loc, nlf (.row 0) c (has Γ.W (sg c))⟩ s' := by
  obtain ⟨h1, tk1, m1, es1, rfl, F1, l1, sf1, fr1, N1⟩ := R
  refine ⟨h1, tk1, m1, es1, rfl, F1, l1, sf1, FldRep.conv (nlf_conv ?_ (fun u hu => ?_) fun u hu => ?_) fr1, N1⟩
  · exact ⟨rfl, rfl⟩
  · exact hu
  · exact ⟨rfl, hu.2⟩
/-- ch = self._read_char() behind a backslash, or ch as it is -/
theorem esc_ok (N : NLoop w A base g fr mean mg mb cs x dx it q pb tc i refs) (hp : p ≤ i.buf.length) (ht : tok.length ≤ 2000) {c : Nat} {P3 P4 P5 P6 P7 P8 P9 P10 P11 : Pos} {Q : Flow → Shared → Prop} {pl : Sem Bool}
    (he : eval (.Call (.Attribute (.Name (Str.ofString "self") P7) (Str.ofString "_read_char") P8) [] [] P9) (envOf cn cs L f cd) = (do
      let ov ← eval (.Name (Str.ofString "self") P7) (envOf cn cs L f cd)
      standAt P8.atName
      let (fz, first) ← holding [ov] (getMethod ov (Str.ofString "_read_char") pl)
      callWith P9 fz first (backTo P9 (starEach [] (envOf cn cs L f cd))) []))
    (R : Rel (CxN w A cn cs cd f g L s x dx i p t6 (exL false it q pb x tc) tok ln W refs) (μNc (.str [c]) tok wc wb) s')
    (h1 : c ≠ 92 → ∀ s'' wc wb, Rel (CxN w A cn cs cd f g L s x dx i p t6 (exL false it q pb x tc) tok ln W refs) (μNc (.str [c]) tok wc wb) s'' → Q .next s'')
    (h2 : c = 92 → (sL i.buf).drop p = [] → ∀ s'' t6' wc wb, Rel (CxN w A cn cs cd f g L s x dx i p t6' (exL false it q pb x tc) tok ln W refs) (μNc (.str []) tok wc wb) s'' → Q .next s'')
    (h3 : c = 92 → ∀ d r, (sL i.buf).drop p = d :: r → ∀ s'' t6' wc wb, Rel (CxN w A cn cs cd f g L s x dx i (p + 1) t6' (exL false it q pb x tc) tok (nl d ln) W refs) (μNc (.str [d]) tok wc wb) s'' → Q .next s'') :
    wpAny (model PySem.Challenge.rw_om0137_01.row.prog w) (A.deeper (envOf cn cs L f cd)) (exec (.If (.Compare (.Name (Str.ofString "ch") P3) [.Eq] [.Constant (.str (Str.ofString "\\")) 0 P4] P5) [.Assign [.Name (Str.ofString "ch") P6] (.Call (.Attribute (.Name (Str.ofString "self") P7) (Str.ofString "_read_char") P8) [] [] P9) P10] [] P11) (envOf cn cs L f cd)) Q E s' := by
  have O := N.ok false p t6 tok ln W cn cd f L s (by omega)
  have hlc : lsN.any (eqS (Str.ofString "ch")) = true := by decide +kernel
  have ht1 : evT 1 (μNc (.str [c]) tok wc wb) (.Compare (.Name (Str.ofString "ch") P3) [.Eq] [.Constant (.str (Str.ofString "\\")) 0 P4] P5) = some (c == 92) :=
    evT_sign (n := 0) (μ := μNc (.str [c]) tok wc wb) hlc (by kernel_rfl) (by decide +kernel)
  refine wpAny_If (evT_ok O rfl names_nlf 1 ht1 R fun s1 R1 => ?_)
  have drop : ∀ {Γ : Cx} {v : V} {s2 : Shared} {wc wb}, Rel Γ ⟨false, lsN, (Str.ofString "ch", v) :: (Str.ofString "ch", .str [c]) :: locN tok, nlf (.row 0) wc wb⟩ s2 → Rel Γ (μNc v tok wc wb) s2 := by
    intro Γ v s2 wc wb R2
    obtain ⟨h1, tk1, m1, es1, e, F1, l1, sf1, fr1, N1⟩ := R2
    refine ⟨h1, tk1, m1, es1, e, F1, fun y u hy => l1 y u ?_, sf1, fr1, N1⟩
    simp only [μNc, lookS] at hy ⊢
    split at hy
    · rename_i hh; rw [if_pos hh]; exact hy
    · rename_i hh; rw [if_neg hh, if_neg hh]; exact hy
  by_cases hc : c = 92
  · rw [if_pos (by simpa using hc)]
    obtain ⟨r1, r2, r3, r4, r5, r6⟩ := rc_nx w
    refine wpAny_execs_cons (wpAny_Assign_Name (MethodCall_ (pl := pl) (self_ok O R1 ?_) he) rfl)
    have R1' := R1
    obtain ⟨h1', tk1, m1, es1, rfl, F1, l1, sf1, fr1, N1⟩ := R1
    refine method_inst F1 N.G.X (InstAt.of_news N1 (.head _) (.tail _ (.head _))) (cls_nx w).1 r1 r2 (getL_none fr1 rcm_nlf) (callWith_K0 (N.G.X.keeps F1.keep) r3 (wpAny_call ?_))
    refine rc_call N.G N.hk (Around.frames_deeper N.G.B.stack) (by simp only [depth_deeper]; have := N.room; omega) N.hh N.K hp N.hex (loc_row_cons rfl (locN_row tok)) R1' ?_ ?_
    · intro hD s2 t t6' wc' wb' R2
      exact store_ok (N.ok false p t6' tok ln W cn cd f L s (by omega)) (v := .str []) hlc R2 ⟨t, rfl⟩ fun s3 R3 => wpAny_execs_nil (h2 hc hD s3 t6' wc' wb' (drop R3))
    · intro d r hD s2 t t6' wc' wb' R2
      exact store_ok (N.ok false (p + 1) t6' tok (nl d ln) W cn cd f L s (by omega)) (v := .str [d]) hlc R2 ⟨t, rfl⟩ fun s3 R3 => wpAny_execs_nil (h3 hc d r hD s3 t6' wc' wb' (drop R3))
  · rw [if_neg (by simpa using hc)]
    exact wpAny_execs_nil (h1 hc s1 wc wb R1)
/-- the loop over the signs of a word -/
theorem loopN (N : NLoop w A base g fr mean mg mb cs x dx it q pb tc i refs) {B : LoopB} {body : List Stmt} (hB : body = B.body) (stop : Nat → Bool) (hp : p ≤ i.buf.length) (ht : tok.length ≤ p) {P0 : Pos} {pl : Sem Bool}
    (hT : ∀ c tok, evT 3 (μNc (.str [c]) tok c (has W (sg c))) B.T = some (stop c))
    (he : eval (.Call (.Attribute (.Name (Str.ofString "self") B.P7) (Str.ofString "_read_char") B.P8) [] [] B.P9) (envOf cn cs L f cd) = (do
      let ov ← eval (.Name (Str.ofString "self") B.P7) (envOf cn cs L f cd)
      standAt B.P8.atName
      let (fz, first) ← holding [ov] (getMethod ov (Str.ofString "_read_char") pl)
      callWith B.P9 fz first (backTo B.P9 (starEach [] (envOf cn cs L f cd))) []))
    (R0 : Rel (CxN w A cn cs cd f g L s x dx i p t6 (exL false it q pb x tc) tok ln W refs) (μN tok wc wb) s')
    (hRet : ∀ p' t6' tok' ln' s'' wc wb u, p' ≤ i.buf.length → tok'.length ≤ p' → loopL stop ((sL i.buf).drop p) tok ln = .ret tok' ((sL i.buf).drop p') ln' → Rel (CxN w A cn cs cd f g L s x dx i p' t6' (exL false it q pb x tc) tok' ln' W refs) (μN tok' wc wb) s'' → (∃ t, u = .str (ofL tok') t) → RR (.ok (.ret u)) s'')
    (hFin : ∀ p' t6' tok' ln' s'' wc wb, p' ≤ i.buf.length → (sL i.buf).drop p' = [] → tok'.length ≤ p' → loopL stop ((sL i.buf).drop p) tok ln = .fin tok' ln' → Rel (CxN w A cn cs cd f g L s x dx i p' t6' (exL true it q pb x tc) tok' ln' W refs) (μN tok' wc wb) s'' → RR (.ok .next) s'') :
    codeAny (model PySem.Challenge.rw_om0137_01.row.prog w) (A.deeper (envOf cn cs L f cd)) (.forLoop (.Name (Str.ofString "ch") P0) (.ref it) body [] (envOf cn cs L f cd)) RR s' := by
  have hlen := N.K.len
  have hlc : lsN.any (eqS (Str.ofString "ch")) = true := by decide +kernel
  obtain ⟨I, hI⟩ : ∃ I : Nat → Shared → Prop, I = (fun n s' => ∃ p1 t1 tok1 ln1 wc wb, n = 1001 - p1 ∧ p1 ≤ i.buf.length ∧ tok1.length ≤ p1 ∧ loopL stop ((sL i.buf).drop p) tok ln = loopL stop ((sL i.buf).drop p1) tok1 ln1 ∧
      Rel (CxN w A cn cs cd f g L s x dx i p1 t1 (exL false it q pb x tc) tok1 ln1 W refs) (μN tok1 wc wb) s' ∨ n = 0 ∧ p1 = i.buf.length ∧ tok1.length ≤ p1 ∧ loopL stop ((sL i.buf).drop p) tok ln = .fin tok1 ln1 ∧
      Rel (CxN w A cn cs cd f g L s x dx i p1 t1 (exL false it q pb x tc) tok1 ln1 W refs) (μN tok1 wc wb) s') := ⟨_, rfl⟩
  refine codeAny_forLoop_any I ?_ (1001 - p) (by rw [hI]; exact ⟨p, t6, tok, ln, wc, wb, .inl ⟨rfl, hp, ht, rfl, R0⟩⟩)
  intro n s1 hJ
  rw [hI] at hJ
  obtain ⟨p1, t1, tok1, ln1, wc1, wb1, ⟨rfl, hp1, ht1, hrun, R1⟩ | ⟨rfl, hp1, ht1, hrun, R1⟩⟩ := hJ
  · refine next_turn N.G N.room N.hh N.hk N.K hp1 N.hex N.hne (locN_row tok1) R1 ?_ ?_
    · intro hD s2 t6' wc' wb' R2
      refine wpAny_execs_nil ?_
      refine hFin p1 t6' tok1 ln1 s2 wc' wb' hp1 hD ht1 ?_ R2
      rw [hrun, hD, loopL]
    · intro c r hD s2 t t6' wc' wb' R2
      have hlt : p1 + 1 ≤ i.buf.length := by
        have := congrArg List.length hD
        rw [List.length_drop, List.length_cons, len_sL] at this
        omega
      have hdr : (sL i.buf).drop (p1 + 1) = r := by
        rw [← List.drop_drop, hD]; rfl
      rw [hD, loopL_cons] at hrun
      refine wpAny_of_eq (a := ()) rfl (wpAny_assign_Name ?_)
      refine store_ok (N.ok false (p1 + 1) t6' tok1 (nl c ln1) W cn cd f L s (by omega)) (v := .str [c]) hlc R2 ⟨t, rfl⟩ fun s3 R3 => ?_
      have R3' := rewhite c R3
      rw [hB]
      refine wpAny_execs_cons (wpAny_If (evT_ok (N.ok false (p1 + 1) t6' tok1 (nl c ln1) W cn cd f L s (by omega)) rfl names_nlf 3 (hT c tok1) R3' fun s4 R4 => ?_))
      cases hs : stop c with
      | true =>
        rw [if_pos rfl]
        rw [hs, if_pos rfl] at hrun
        refine wpAny_execs_cons (wpAny_Return_some (evE_ok (N.ok false (p1 + 1) t6' tok1 (nl c ln1) W cn cd f L s (by omega)) rfl names_nlf (v := .acc (!tok1.isEmpty) []) (by kernel_rfl) R4 fun u s5 ru R5 => ?_))
        obtain ⟨_, t', ru⟩ := ru
        refine hRet (p1 + 1) t6' tok1 (nl c ln1) s5 c (has W (sg c)) u hlt (by omega) (by rw [hrun, hdr]) ?_ ⟨t', by rw [ru, app_ofL, List.append_nil]⟩
        obtain ⟨h6, tk6, m6, es6, e6, F6, l6, sf6, fr6, N6⟩ := R5
        refine ⟨h6, tk6, m6, es6, e6, F6, fun y v hy => l6 y v ?_, sf6, fr6, N6⟩
        simp only [μN, μNc, locN, lookS] at hy ⊢
        split at hy
        · rename_i h1
          obtain rfl := eqS_iff.mp h1
          rw [if_neg (by decide +kernel), if_pos h1]; exact hy
        · split at hy
          · rename_i h0 h1
            obtain rfl := eqS_iff.mp h1
            rw [if_neg (by decide +kernel), if_neg h0, if_pos h1]; exact hy
          · cases hy
      | false =>
        rw [if_neg (by decide)]
        rw [hs, if_neg (by decide)] at hrun
        refine wpAny_execs_cons (esc_ok N hlt (by omega) he R4 ?_ ?_ ?_)
        · intro hc s5 wc5 wb5 R5
          rw [if_neg (by simpa using hc)] at hrun
          refine wpAny_execs_nil (wpAny_execs_cons (aug_ok N (y := [c]) (by simp) (by omega) R5 fun s6 R6 => wpAny_execs_nil ?_))
          exact ⟨1001 - (p1 + 1), by omega, by rw [hI]; exact ⟨p1 + 1, t6', tok1 ++ [c], nl c ln1, _, _, .inl ⟨rfl, hlt, by simp; omega, by rw [hrun, hdr], R6⟩⟩⟩
        · intro hc hD2 s5 t65 wc5 wb5 R5
          rw [if_pos (by simpa using hc)] at hrun
          rw [hdr] at hD2
          subst hD2
          refine wpAny_execs_nil (wpAny_execs_cons (aug_ok N (y := []) (by simp) (by omega) R5 fun s6 R6 => wpAny_execs_nil ?_))
          rw [List.append_nil] at R6
          have hpl : p1 + 1 = i.buf.length := by
            have := congrArg List.length hdr
            rw [List.length_drop, List.length_nil, len_sL] at this
            omega
          have hnl : nl c ln1 = ln1 := by rw [hc]; rfl
          rw [hnl] at R6
          exact ⟨0, by omega, by rw [hI]; exact ⟨p1 + 1, t65, tok1, ln1, _, _, .inr ⟨rfl, hpl, by omega, hrun, R6⟩⟩⟩
        · intro hc d r' hD2 s5 t65 wc5 wb5 R5
          rw [if_pos (by simpa using hc)] at hrun
          rw [hdr] at hD2
          subst hD2
          have hlt2 : p1 + 1 + 1 ≤ i.buf.length := by
            have := congrArg List.length hdr
            rw [List.length_drop, List.length_cons, len_sL] at this
            omega
          have hdr2 : (sL i.buf).drop (p1 + 1 + 1) = r' := by
            rw [← List.drop_drop, hdr]; rfl
          have hnl : nl c ln1 = ln1 := by rw [hc]; rfl
          rw [hnl] at R5
          refine wpAny_execs_nil (wpAny_execs_cons (aug_ok N (y := [d]) (by simp) (by omega) R5 fun s6 R6 => wpAny_execs_nil ?_))
          exact ⟨1001 - (p1 + 1 + 1), by omega, by rw [hI]; exact ⟨p1 + 1 + 1, t65, tok1 ++ [d], nl d ln1, _, _, .inl ⟨rfl, hlt2, by simp; omega, by rw [hrun, hdr2], R6⟩⟩⟩
  · have hnil : (sL i.buf).drop p1 = [] := by
      apply List.drop_eq_nil_of_le
      rw [len_sL]; omega
    refine next_turn N.G N.room N.hh N.hk N.K (by omega) N.hex N.hne (locN_row tok1) R1 ?_ ?_
    · intro hD s2 t6' wc' wb' R2
      exact wpAny_execs_nil (hFin p1 t6' tok1 ln1 s2 wc' wb' (by omega) hD ht1 hrun R2)
    · intro c r hD
      rw [hnil] at hD; cases hD
end
end Mine
end

section
open PySem PySem.W PyProof.Rows PySem.Calls
set_option Elab.async false
set_option maxRecDepth 100000
set_option maxHeartbeats 8000000
namespace Mine
/-- a word of _netrclex -/
noncomputable def ntok (wh : Nat → Bool) : List Nat → Int → NO
  | [], ln => .fin [] ln
  | c :: r, ln => if wh c then ntok wh r (nl c ln) else if c == 34 then loopL (· == 34) r [] (nl c ln) else if c == 92 then (match r with
    | [] => loopL wh [] [] ln
    | d :: r' => loopL wh r' [d] (nl d ln)) else loopL wh r [c] (nl c ln)
theorem ntok_cons (wh : Nat → Bool) (c : Nat) (r : List Nat) (ln : Int) : ntok wh (c :: r) ln = if wh c then ntok wh r (nl c ln) else if c == 34 then loopL (· == 34) r [] (nl c ln) else if c == 92 then (match r with
    | [] => loopL wh [] [] ln
    | d :: r' => loopL wh r' [d] (nl d ln)) else loopL wh r [c] (nl c ln) := rfl
theorem evT_ws {μ : MS} {n : Nat} {c : Nat} {b : Bool} {p1 p2 p3 p4 : Pos} (hl : μ.ls.any (eqS (Str.ofString "ch")) = true) (h : lookS (Str.ofString "ch") μ.loc = some (.str [c])) (hw : lookS (Str.ofString "whitespace") μ.fld = some (.whites c b)) :
    evT (n + 1) μ (.Compare (.Name (Str.ofString "ch") p1) [.In] [.Attribute (.Name (Str.ofString "self") p2) (Str.ofString "whitespace") p3] p4) = some b := by
  have h1 : evE μ (.Name (Str.ofString "ch") p1) = some (.str [c]) := by
    show (if μ.ls.any (eqS (Str.ofString "ch")) then lookS (Str.ofString "ch") μ.loc else none) = _
    rw [if_pos hl, h]
  have h2 : evE μ (.Attribute (.Name (Str.ofString "self") p2) (Str.ofString "whitespace") p3) = some (.whites c b) := by
    show (if eqS (Str.ofString "self") "self" then (if eqS (Str.ofString "whitespace") "punctuation_chars" then (if μ.pc = true ∧ lookS "_punctuation_chars" μ.fld = some (.str []) then some (.str []) else none) else lookS (Str.ofString "whitespace") μ.fld) else none) = some (V.whites c b)
    have e1 : eqS (Str.ofString "self") "self" = true := eqS_iff.mpr rfl
    have e2 : ¬ eqS (Str.ofString "whitespace") "punctuation_chars" = true := by decide +kernel
    rw [if_pos e1, if_neg e2, hw]
  show ((evE μ (.Name (Str.ofString "ch") p1)).bind fun a => (evE μ (.Attribute (.Name (Str.ofString "self") p2) (Str.ofString "whitespace") p3)).bind fun b => cmp .In a b) = _
  rw [h1, h2]
  show (if ([c] == [c]) = true then some b else none) = some b
  rw [if_pos (by simp)]
noncomputable def ngB2 : LoopB := ⟨.Compare (.Name (Str.ofString "ch") ⟨747, 23, 747, 25⟩) [.Eq] [.Constant (.str (Str.ofString "\"")) 0 ⟨747, 29, 747, 32⟩] ⟨747, 23, 747, 32⟩, ⟨748, 31, 748, 36⟩, ⟨748, 24, 748, 36⟩, ⟨749, 25, 749, 27⟩, ⟨749, 31, 749, 35⟩, ⟨749, 25, 749, 35⟩, ⟨750, 24, 750, 26⟩, ⟨750, 29, 750, 33⟩, ⟨750, 29, 750, 44⟩, ⟨750, 29, 750, 46⟩, ⟨750, 24, 750, 46⟩, ⟨749, 20, 750, 46⟩, ⟨747, 20, 750, 46⟩, ⟨751, 20, 751, 25⟩, ⟨751, 29, 751, 31⟩, ⟨751, 20, 751, 31⟩⟩
noncomputable def ngB3 : LoopB := ⟨.Compare (.Name (Str.ofString "ch") ⟨757, 23, 757, 25⟩) [.In] [.Attribute (.Name (Str.ofString "self") ⟨757, 29, 757, 33⟩) (Str.ofString "whitespace") ⟨757, 29, 757, 44⟩] ⟨757, 23, 757, 44⟩, ⟨758, 31, 758, 36⟩, ⟨758, 24, 758, 36⟩, ⟨759, 25, 759, 27⟩, ⟨759, 31, 759, 35⟩, ⟨759, 25, 759, 35⟩, ⟨760, 24, 760, 26⟩, ⟨760, 29, 760, 33⟩, ⟨760, 29, 760, 44⟩, ⟨760, 29, 760, 46⟩, ⟨760, 24, 760, 46⟩, ⟨759, 20, 760, 46⟩, ⟨757, 20, 760, 46⟩, ⟨761, 20, 761, 25⟩, ⟨761, 29, 761, 31⟩, ⟨761, 20, 761, 31⟩⟩
noncomputable def ngBody : List Stmt := defBody "get_token" (clsBody "_netrclex" PySem.Challenge.rw_om0137_01.row.prog.main.body)
noncomputable def ng0 : List Stmt × Pos := match ngBody with
  | .If _ b _ p :: _ => (b, p)
  | _ => ([], ⟨0, 0, 0, 0⟩)
noncomputable def ngL1 : List Stmt := [.If (.Compare (.Name (Str.ofString "ch") ⟨743, 15, 743, 17⟩) [.In] [.Attribute (.Name (Str.ofString "self") ⟨743, 21, 743, 25⟩) (Str.ofString "whitespace") ⟨743, 21, 743, 36⟩] ⟨743, 15, 743, 36⟩) [.Continue ⟨744, 16, 744, 24⟩] [] ⟨743, 12, 744, 24⟩,
  .If (.Compare (.Name (Str.ofString "ch") ⟨745, 15, 745, 17⟩) [.Eq] [.Constant (.str (Str.ofString "\"")) 0 ⟨745, 21, 745, 24⟩] ⟨745, 15, 745, 24⟩)
    [.For (.Name (Str.ofString "ch") ⟨746, 20, 746, 22⟩) (.Name (Str.ofString "fiter") ⟨746, 26, 746, 31⟩) ngB2.body [] ⟨746, 16, 751, 31⟩]
    [.If (.Compare (.Name (Str.ofString "ch") ⟨753, 19, 753, 21⟩) [.Eq] [.Constant (.str (Str.ofString "\\")) 0 ⟨753, 25, 753, 29⟩] ⟨753, 19, 753, 29⟩) [.Assign [.Name (Str.ofString "ch") ⟨754, 20, 754, 22⟩] (.Call (.Attribute (.Name (Str.ofString "self") ⟨754, 25, 754, 29⟩) (Str.ofString "_read_char") ⟨754, 25, 754, 40⟩) [] [] ⟨754, 25, 754, 42⟩) ⟨754, 20, 754, 42⟩] [] ⟨753, 16, 754, 42⟩,
     .AugAssign (.Name (Str.ofString "token") ⟨755, 16, 755, 21⟩) .Add (.Name (Str.ofString "ch") ⟨755, 25, 755, 27⟩) ⟨755, 16, 755, 27⟩,
     .For (.Name (Str.ofString "ch") ⟨756, 20, 756, 22⟩) (.Name (Str.ofString "fiter") ⟨756, 26, 756, 31⟩) ngB3.body [] ⟨756, 16, 761, 31⟩] ⟨745, 12, 761, 31⟩]
theorem ngBody_eq : ngBody = [.If (.Attribute (.Name (Str.ofString "self") ⟨738, 11, 738, 15⟩) (Str.ofString "pushback") ⟨738, 11, 738, 24⟩) ng0.1 [] ng0.2,
  .Assign [.Name (Str.ofString "token") ⟨740, 8, 740, 13⟩] (.Constant (.str (Str.ofString "")) 0 ⟨740, 16, 740, 18⟩) ⟨740, 8, 740, 18⟩,
  .Assign [.Name (Str.ofString "fiter") ⟨741, 8, 741, 13⟩] (.Call (.Name (Str.ofString "iter") ⟨741, 16, 741, 20⟩) [.Attribute (.Name (Str.ofString "self") ⟨741, 21, 741, 25⟩) (Str.ofString "_read_char") ⟨741, 21, 741, 36⟩, .Constant (.str (Str.ofString "")) 0 ⟨741, 38, 741, 40⟩] [] ⟨741, 16, 741, 41⟩) ⟨741, 8, 741, 41⟩,
  .For (.Name (Str.ofString "ch") ⟨742, 12, 742, 14⟩) (.Name (Str.ofString "fiter") ⟨742, 18, 742, 23⟩) ngL1 [] ⟨742, 8, 761, 31⟩,
  .Return (some (.Name (Str.ofString "token") ⟨762, 15, 762, 20⟩)) ⟨762, 8, 762, 20⟩] := by kernel_rfl
section
variable {w : World} {s s' : Shared} {A : Around} {base g : Heap} {fr : List Env} {mg mb : Str → Option Value} {mean : ExcName → Option Value} {x dx it q pb : Addr} {tc : Nat} {W : Str} {refs : Nat → Value} {i : IO} {p t6 : Nat} {ln : Int} {RR : Result → Shared → Prop} {cn : Str} {cs : Scope} {cd : Value} {L f : Addr} {tok : List Nat} {wc : Nat} {wb : Bool} {E : Value → Shared → Prop}
/-- for ch in fiter -/
theorem for_ok (N : NLoop w A base g fr mean mg mb cs x dx it q pb tc i refs) (r2 : refs 2 = .ref it) {b : Bool} (ht : tok.length ≤ 2000) {loc : List (Str × V)} {P0 P1 P2 : Pos} {body : List Stmt} {Q : Flow → Shared → Prop} (hf : lookS (Str.ofString "fiter") loc = some (.obj 2))
    (R : Rel (CxN w A cn cs cd f g L s x dx i p t6 (exL b it q pb x tc) tok ln W refs) ⟨false, lsN, loc, nlf (.row 0) wc wb⟩ s')
    (h : ∀ s'', Rel (CxN w A cn cs cd f g L s x dx i p t6 (exL b it q pb x tc) tok ln W refs) ⟨false, lsN, loc, nlf (.row 0) wc wb⟩ s'' → codeAny (model PySem.Challenge.rw_om0137_01.row.prog w) (A.deeper (envOf cn cs L f cd)) (.forLoop (.Name (Str.ofString "ch") P0) (.ref it) body [] (envOf cn cs L f cd)) (fun r s' => match r with | .ok f => Q f s' | .error e => cameBackBy (model PySem.Challenge.rw_om0137_01.row.prog w) (A.deeper (envOf cn cs L f cd)) (envOf cn cs L f cd) E e s') s'') :
    wpAny (model PySem.Challenge.rw_om0137_01.row.prog w) (A.deeper (envOf cn cs L f cd)) (exec (.For (.Name (Str.ofString "ch") P0) (.Name (Str.ofString "fiter") P1) body [] P2) (envOf cn cs L f cd)) Q E s' := by
  have O := N.ok b p t6 tok ln W cn cd f L s (by omega)
  refine wpAny_For (evE_ok O rfl names_nlf (v := .obj 2) ?_ R fun u s1 ru R1 => ?_)
  · show (if lsN.any (eqS (Str.ofString "fiter")) then lookS (Str.ofString "fiter") loc else none) = _
    rw [if_pos (by decide +kernel), hf]
  · obtain ⟨rfl, -⟩ := ru
    show wpAny _ _ (pyIter (refs 2)) _ _ _
    rw [r2]
    have R1' := R1
    obtain ⟨h1, tk1, m1, es1, rfl, F1, l1, sf1, fr1, N1⟩ := R1
    have hit := (N1 (it, if b then citObj .none .none true else citObj (.ref q) (.str (Str.ofString "") tc) false) (by simp [IO.led, exL])).1
    cases b with
    | true => exact iter_cit hit (h _ R1')
    | false => exact iter_cit hit (h _ R1')
theorem dropCh {Γ : Cx} {v : V} {s2 : Shared} {tok : List Nat} {wc wb} (R5 : Rel Γ (μNc v tok wc wb) s2) : Rel Γ (μN tok wc wb) s2 := by
  obtain ⟨h6, tk6, m6, es6, e6, F6, l6, sf6, fr6, N6⟩ := R5
  refine ⟨h6, tk6, m6, es6, e6, F6, fun y v hy => l6 y v ?_, sf6, fr6, N6⟩
  simp only [μN, μNc, locN, lookS] at hy ⊢
  split at hy
  · rename_i h1
    obtain rfl := eqS_iff.mp h1
    rw [if_neg (by decide +kernel), if_pos h1]; exact hy
  · split at hy
    · rename_i h0 h1
      obtain rfl := eqS_iff.mp h1
      rw [if_neg (by decide +kernel), if_neg h0, if_pos h1]; exact hy
    · cases hy
/-- the outer loop -/
theorem loop1N (N : NLoop w A base g fr mean mg mb cs x dx it q pb tc i refs) (r2 : refs 2 = .ref it) {body : List Stmt} (hB : body = ngL1) (hp : p ≤ i.buf.length) {P0 : Pos}
    (R0 : Rel (CxN w A cn cs cd f g L s x dx i p t6 (exL false it q pb x tc) [] ln W refs) (μN [] wc wb) s')
    (hRet : ∀ p' t6' tok' ln' s'' wc wb u, p' ≤ i.buf.length → tok'.length ≤ p' → ntok (fun c => has W (sg c)) ((sL i.buf).drop p) ln = .ret tok' ((sL i.buf).drop p') ln' → Rel (CxN w A cn cs cd f g L s x dx i p' t6' (exL false it q pb x tc) tok' ln' W refs) (μN tok' wc wb) s'' → (∃ t, u = .str (ofL tok') t) → RR (.ok (.ret u)) s'')
    (hFin : ∀ p' t6' tok' ln' s'' wc wb, p' ≤ i.buf.length → (sL i.buf).drop p' = [] → tok'.length ≤ p' → ntok (fun c => has W (sg c)) ((sL i.buf).drop p) ln = .fin tok' ln' → Rel (CxN w A cn cs cd f g L s x dx i p' t6' (exL true it q pb x tc) tok' ln' W refs) (μN tok' wc wb) s'' → RR (.ok .next) s'') :
    codeAny (model PySem.Challenge.rw_om0137_01.row.prog w) (A.deeper (envOf cn cs L f cd)) (.forLoop (.Name (Str.ofString "ch") P0) (.ref it) body [] (envOf cn cs L f cd)) RR s' := by
  have hlen := N.K.len
  have hlc : lsN.any (eqS (Str.ofString "ch")) = true := by decide +kernel
  obtain ⟨I, hI⟩ : ∃ I : Nat → Shared → Prop, I = (fun n s' => ∃ p1 t1 tok1 ln1 wc wb, n = 1002 - p1 ∧ p1 ≤ i.buf.length ∧ tok1 = [] ∧ ntok (fun c => has W (sg c)) ((sL i.buf).drop p) ln = ntok (fun c => has W (sg c)) ((sL i.buf).drop p1) ln1 ∧
      Rel (CxN w A cn cs cd f g L s x dx i p1 t1 (exL false it q pb x tc) [] ln1 W refs) (μN [] wc wb) s' ∨ n = 0 ∧ p1 ≤ i.buf.length ∧ (sL i.buf).drop p1 = [] ∧ tok1.length ≤ p1 ∧ ntok (fun c => has W (sg c)) ((sL i.buf).drop p) ln = .fin tok1 ln1 ∧
      Rel (CxN w A cn cs cd f g L s x dx i p1 t1 (exL true it q pb x tc) tok1 ln1 W refs) (μN tok1 wc wb) s') := ⟨_, rfl⟩
  refine codeAny_forLoop_any I ?_ (1002 - p) (by rw [hI]; exact ⟨p, t6, [], ln, wc, wb, .inl ⟨rfl, hp, rfl, rfl, R0⟩⟩)
  intro n s1 hJ
  rw [hI] at hJ
  obtain ⟨p1, t1, tok1, ln1, wc1, wb1, ⟨rfl, hp1, rfl, hrun, R1⟩ | ⟨rfl, hp1, hnil, ht1, hrun, R1⟩⟩ := hJ
  · refine next_turn N.G N.room N.hh N.hk N.K hp1 N.hex N.hne (locN_row []) R1 ?_ ?_
    · intro hD s2 t6' wc' wb' R2
      refine wpAny_execs_nil ?_
      refine hFin p1 t6' [] ln1 s2 wc' wb' hp1 hD (by simp) ?_ R2
      exact hrun.trans (congrArg (fun l => ntok (fun c => has W (sg c)) l ln1) hD)
    · intro c r hD s2 t t6' wc' wb' R2
      have hlt : p1 + 1 ≤ i.buf.length := by
        have := congrArg List.length hD
        rw [List.length_drop, List.length_cons, len_sL] at this
        omega
      have hdr : (sL i.buf).drop (p1 + 1) = r := by
        rw [← List.drop_drop, hD]; rfl
      rw [hD, ntok_cons] at hrun
      have O1 := N.ok false (p1 + 1) t6' [] (nl c ln1) W cn cd f L s (by simp)
      refine wpAny_of_eq (a := ()) rfl (wpAny_assign_Name ?_)
      refine store_ok O1 (v := .str [c]) hlc R2 ⟨t, rfl⟩ fun s3 R3 => ?_
      have R3' := rewhite c R3
      rw [hB]
      refine wpAny_execs_cons (wpAny_If (evT_ok O1 rfl names_nlf 3 (evT_ws (n := 2) (c := c) (b := has W (sg c)) hlc (by kernel_rfl) (by kernel_rfl)) R3' fun s4 R4 => ?_))
      have fin : ∀ (stop : Nat → Bool) (p0 : Nat) (tok0 : List Nat) (ln0 : Int), ntok (fun c => has W (sg c)) ((sL i.buf).drop p) ln = loopL stop ((sL i.buf).drop p0) tok0 ln0 → ∀ p' t6' tok' ln' s'' wc wb, p' ≤ i.buf.length → (sL i.buf).drop p' = [] → tok'.length ≤ p' → loopL stop ((sL i.buf).drop p0) tok0 ln0 = .fin tok' ln' → Rel (CxN w A cn cs cd f g L s x dx i p' t6' (exL true it q pb x tc) tok' ln' W refs) (μN tok' wc wb) s'' →
          ∃ m, m < 1002 - p1 ∧ I m s'' :=
        fun stop p0 tok0 ln0 hr0 p' t6' tok' ln' s'' wc wb a1 a2 a3 a4 a5 => ⟨0, by omega, by rw [hI]; exact ⟨p', t6', tok', ln', wc, wb, .inr ⟨rfl, a1, a2, a3, hr0.trans a4, a5⟩⟩⟩
      cases hs : has W (sg c) with
      | true =>
        rw [hs] at R4
        rw [if_pos rfl]
        rw [hs, if_pos rfl] at hrun
        refine wpAny_execs_cons (wpAny_Continue ?_)
        exact ⟨1002 - (p1 + 1), by omega, by rw [hI]; exact ⟨p1 + 1, t6', [], nl c ln1, _, _, .inl ⟨rfl, hlt, rfl, by rw [hrun, hdr], dropCh R4⟩⟩⟩
      | false =>
        rw [hs] at R4
        rw [if_neg (by decide)]
        rw [hs, if_neg (by decide)] at hrun
        refine wpAny_execs_nil (wpAny_execs_cons (wpAny_If (evT_ok O1 rfl names_nlf 3 (evT_sign (n := 2) (c := c) (k := 34) hlc (by kernel_rfl) (by decide +kernel)) R4 fun s5 R5 => ?_)))
        by_cases hq : c = 34
        · rw [if_pos (by simpa using hq)]
          rw [if_pos (by simpa using hq)] at hrun
          refine wpAny_execs_cons (for_ok N r2 (by simp) (by kernel_rfl) (dropCh R5) fun s6 R6 => ?_)
          refine loopN N (B := ngB2) rfl (· == 34) hlt (by simp) (pl := _) (fun c tok => evT_sign (n := 2) (c := c) (k := 34) hlc (by kernel_rfl) (by decide +kernel)) rfl R6 ?_ ?_
          · intro p' t7 tok' ln' s7 wc7 wb7 u a1 a2 a3 a4 a5
            exact hRet p' t7 tok' ln' s7 wc7 wb7 u a1 a2 (by rw [hrun, ← hdr]; exact a3) a4 a5
          · intro p' t7 tok' ln' s7 wc7 wb7 a1 a2 a3 a4 a5
            exact wpAny_execs_nil (wpAny_execs_nil (fin (· == 34) (p1 + 1) [] (nl c ln1) (by rw [hrun, hdr]) p' t7 tok' ln' s7 wc7 wb7 a1 a2 a3 a4 a5))
        · rw [if_neg (by simpa using hq)]
          rw [if_neg (by simpa using hq)] at hrun
          refine wpAny_execs_cons (esc_ok N hlt (by simp) (pl := _) rfl R5 ?_ ?_ ?_)
          · intro hc s6 wc6 wb6 R6
            rw [if_neg (by simpa using hc)] at hrun
            refine wpAny_execs_cons (aug_ok N (y := [c]) (by simp) (by simp) R6 fun s7 R7 => ?_)
            refine wpAny_execs_cons (for_ok N r2 (by simp) (by kernel_rfl) R7 fun s8 R8 => ?_)
            refine loopN N (B := ngB3) rfl (fun c => has W (sg c)) hlt (by simp) (pl := _) (fun c tok => evT_ws (n := 2) (c := c) (b := has W (sg c)) hlc (by kernel_rfl) (by kernel_rfl)) rfl R8 ?_ ?_
            · intro p' t7 tok' ln' s9 wc7 wb7 u a1 a2 a3 a4 a5
              exact hRet p' t7 tok' ln' s9 wc7 wb7 u a1 a2 (by rw [hrun, ← hdr]; exact a3) a4 a5
            · intro p' t7 tok' ln' s9 wc7 wb7 a1 a2 a3 a4 a5
              exact wpAny_execs_nil (wpAny_execs_nil (fin (fun c => has W (sg c)) (p1 + 1) [c] (nl c ln1) (by rw [hrun, hdr]) p' t7 tok' ln' s9 wc7 wb7 a1 a2 a3 a4 a5))
          · intro hc hD2 s6 t66 wc6 wb6 R6
            rw [if_pos (by simpa using hc)] at hrun
            rw [hdr] at hD2
            subst hD2
            have hnl : nl c ln1 = ln1 := by rw [hc]; rfl
            rw [hnl] at R6
            refine wpAny_execs_cons (aug_ok N (y := []) (by simp) (by simp) R6 fun s7 R7 => ?_)
            refine wpAny_execs_cons (for_ok N r2 (by simp) (by kernel_rfl) R7 fun s8 R8 => ?_)
            refine loopN N (B := ngB3) rfl (fun c => has W (sg c)) hlt (by simp) (pl := _) (fun c tok => evT_ws (n := 2) (c := c) (b := has W (sg c)) hlc (by kernel_rfl) (by kernel_rfl)) rfl R8 ?_ ?_
            · intro p' t7 tok' ln' s9 wc7 wb7 u a1 a2 a3 a4 a5
              exact hRet p' t7 tok' ln' s9 wc7 wb7 u a1 a2 (by rw [hdr] at a3; exact hrun.trans a3) a4 a5
            · intro p' t7 tok' ln' s9 wc7 wb7 a1 a2 a3 a4 a5
              exact wpAny_execs_nil (wpAny_execs_nil (fin (fun c => has W (sg c)) (p1 + 1) [] ln1 (by rw [hrun, hdr]) p' t7 tok' ln' s9 wc7 wb7 a1 a2 a3 a4 a5))
          · intro hc d r' hD2 s6 t66 wc6 wb6 R6
            rw [if_pos (by simpa using hc)] at hrun
            rw [hdr] at hD2
            subst hD2
            have hlt2 : p1 + 1 + 1 ≤ i.buf.length := by
              have := congrArg List.length hdr
              rw [List.length_drop, List.length_cons, len_sL] at this
              omega
            have hdr2 : (sL i.buf).drop (p1 + 1 + 1) = r' := by
              rw [← List.drop_drop, hdr]; rfl
            have hnl : nl c ln1 = ln1 := by rw [hc]; rfl
            rw [hnl] at R6
            refine wpAny_execs_cons (aug_ok N (y := [d]) (by simp) (by simp) R6 fun s7 R7 => ?_)
            refine wpAny_execs_cons (for_ok N r2 (by simp) (by kernel_rfl) R7 fun s8 R8 => ?_)
            refine loopN N (B := ngB3) rfl (fun c => has W (sg c)) hlt2 (by simp) (pl := _) (fun c tok => evT_ws (n := 2) (c := c) (b := has W (sg c)) hlc (by kernel_rfl) (by kernel_rfl)) rfl R8 ?_ ?_
            · intro p' t7 tok' ln' s9 wc7 wb7 u a1 a2 a3 a4 a5
              exact hRet p' t7 tok' ln' s9 wc7 wb7 u a1 a2 (by rw [hrun, ← hdr2]; exact a3) a4 a5
            · intro p' t7 tok' ln' s9 wc7 wb7 a1 a2 a3 a4 a5
              exact wpAny_execs_nil (wpAny_execs_nil (fin (fun c => has W (sg c)) (p1 + 1 + 1) [d] (nl d ln1) (by rw [hrun, hdr2]) p' t7 tok' ln' s9 wc7 wb7 a1 a2 a3 a4 a5))
  · have hit : s1.heap.get? it = some (citObj .none .none true) := by
      obtain ⟨h1, tk1, m1, es1, rfl, F1, l1, sf1, fr1, N1⟩ := R1
      exact (N1 (it, citObj .none .none true) (by simp [IO.led, exL])).1
    refine next_cit_ended N.hh hit fun h' hext hit' => ?_
    refine wpAny_execs_nil (hFin p1 t1 tok1 ln1 _ wc1 wb1 hp1 hnil ht1 hrun ?_)
    obtain ⟨h1, tk1, m1, es1, rfl, F1, l1, sf1, fr1, N1⟩ := R1
    have hitN := N1 (it, citObj .none .none true) (by simp [IO.led, exL])
    refine ⟨h', tk1, m1, es1, rfl, ⟨F1.ns.extBut hext (fun e => hitN.2.1 e.symm), fun b o hb => hext b o (fun e => by rw [e, hitN.2.2] at hb; cases hb) (F1.keep b o hb), F1.above⟩, l1, sf1, fr1, fun r hr => ?_⟩
    have hr0 := N1 r hr
    by_cases he : r.1 = it
    · refine ⟨?_, hr0.2⟩
      rw [he, hit']
      have : s.heap = s.heap := rfl
      have h2 := hr0.1
      rw [he] at h2
      exact hit.symm.trans h2
    · exact ⟨hext r.1 r.2 he hr0.1, hr0.2⟩
end
end Mine
end

section
open PySem PySem.W PyProof.Rows PySem.Calls
set_option Elab.async false
set_option maxRecDepth 100000
set_option maxHeartbeats 8000000
namespace Mine
theorem pb_nlf {ln : V} {wc : Nat} {wb : Bool} : lookS "pushback" (nlf ln wc wb) = some (.obj 1) := by kernel_rfl
/-- what get_token told -/
noncomputable def nDone (wh : Nat → Bool) (l : List Nat) (ln : Int) (tok r : List Nat) (ln' : Int) : Prop := ntok wh l ln = .ret tok r ln' ∨ ntok wh l ln = .fin tok ln' ∧ r = []
noncomputable def NxFull (g h : Heap) (x dx pb : Addr) (i : IO) (refs : Nat → Value) (W : Str) (ln : Int) (p : Nat) : Prop := NxAt g h x dx i refs W ln p ∧ Sub g h [(pb, listE)]
section
variable {w : World} {s s' : Shared} {A : Around} {base g : Heap} {fr : List Env} {mg mb : Str → Option Value} {mean : ExcName → Option Value} {x dx pb : Addr} {W : Str} {refs : Nat → Value} {i : IO} {p t6 : Nat} {ln : Int} {R : Result → Shared → Prop} {cn : Str} {cs : Scope} {cd : Value} {L f : Addr} {wc : Nat} {wb : Bool} {E : Value → Shared → Prop}
theorem ngAll (G : Gd w A base fr mean mg mb g) (hroom : A.depth + 12 < recursionLimit) (hh : A.handled = none) (hk : cs.kind = .function) (hl : ∀ x ∈ lsN, cs.names.lookup x = some .local) (hsf : cs.names.lookup (Str.ofString "self") = some .local) (hit : cs.names.lookup (Str.ofString "iter") = some .globalImplicit) (K : NxOk x dx i refs) (r1 : refs 1 = .ref pb) (hpb : pb ≠ x ∧ pb ≠ dx ∧ pb ≠ i.io ∧ pb ≠ i.dio) (hp : p ≤ i.buf.length) {b : List Stmt} (hb : b = ngBody)
    {Q : Flow → Shared → Prop} (R0 : Rel (CxN w A cn cs cd f g L s x dx i p t6 [(pb, listE)] [] ln W refs) ⟨false, lsN, [], nlf (.row 0) wc wb⟩ s')
    (q2 : ∀ p' tok' ln' h' tk u, p' ≤ i.buf.length → tok'.length ≤ 1000 → nDone (fun c => has W (sg c)) ((sL i.buf).drop p) ln tok' ((sL i.buf).drop p') ln' → Ke g h' → NxFull g h' x dx pb i refs W ln' p' → (∃ t, u = .str (ofL tok') t) → Q (.ret u) { s with heap := h', toks := tk }) :
    wpAny (model PySem.Challenge.rw_om0137_01.row.prog w) (A.deeper (envOf cn cs L f cd)) (execs b (envOf cn cs L f cd)) Q E s' := by
  have hlen := K.len
  have O : Ok (CxN w A cn cs cd f g L s x dx i p t6 [(pb, listE)] [] ln W refs) false lsN namesN := by
    refine ok_nx G hh hk hl lsN_ok hsf ⟨K.ne2, fun r hr => ?_⟩ (by rw [len_ofL]; simp)
    simp only [IO.led, List.cons_append, List.nil_append, List.mem_cons, List.not_mem_nil, or_false] at hr
    rcases hr with h | h | h <;> rw [h]
    · exact K.ne.2.2.1
    · exact K.ne.2.2.2.2
    · exact hpb.2.1
  rw [hb, ngBody_eq]
  refine wpAny_execs_cons (wpAny_If (wpAny_isTrue_value (Attribute_Name_ (self_ok O R0 (get_ok O R0 names_nlf.2.1 pb_nlf fun u s1 ru R1 => ?_)))))
  obtain ⟨rfl, -⟩ := ru
  show wpAny _ _ (truthy (refs 1)) _ _ _
  rw [r1]
  have R1' := R1
  obtain ⟨h1, tk1, m1, es1, rfl, F1, l1, sf1, fr1, N1⟩ := R1
  refine wpAny_truthy_list (items := #[]) ⟨_, (N1 (pb, listE) (by simp [IO.led])).1, rfl, _, rfl⟩ (by decide) ?_
  rw [if_neg (by decide)]
  refine wpAny_execs_nil ?_
  refine wpAny_execs_cons (exA_ok O (f := .next) (μ' := ⟨false, lsN, [(Str.ofString "token", .str [])], nlf (.row 0) wc wb⟩) rfl names_nlf (by kernel_rfl) R1'.toks (fun fl s2 hf R2 => ?_) (fun h => nomatch h))
  obtain rfl : fl = .next := hf
  clear R1' F1 l1 sf1 fr1 N1
  obtain ⟨h2, tk2, m2, es2, rfl, F2, l2, sf2, fr2, N2⟩ := R2
  obtain ⟨c1, c2, c3, c4, c5, c6⟩ := rc_nx w
  have R2 : Rel (CxN w A cn cs cd f g L s x dx i p t6 [(pb, listE)] [] ln W refs) ⟨false, lsN, [(Str.ofString "token", .str [])], nlf (.row 0) wc wb⟩ { s with heap := h2, toks := tk2 } := ⟨h2, tk2, m2, es2, rfl, F2, l2, sf2, fr2, N2⟩
  refine wpAny_execs_cons (wpAny_Assign_Name (Call_ (ld_builtin_at F2 G.T.g (mg_none_of G.X G.T.g c6) G.T.b ((G.T.builtins _ (by decide)).trans (by boot_by_name)) ?_ hk hit (by decide)) rfl) rfl)
  refine Calls.callWith_builtin rfl (Calls.evalArgs_plain (spliced_more (Attribute_Name_ (self_ok O R2 (kbm_bound (name := Str.ofString "_read_char") F2 G.X N2 (InstAt.of_news N2 (.head _) (.tail _ (.head _))) (O.plain _) (cls_nx w).2.1 c1 c2 c4 c5 (by decide +kernel) (getL_none fr2 rcm_nlf) fun q h3 F3 N3 hq3 => ?_)))))
  refine spliced_more (wpAny_Constant_str (spliced_none ?_))
  refine iter2 (N3 (q, methodObj (.ref 747) (.ref x)) (.head _)).1 ?_
  have hlt : ∀ r ∈ (q, methodObj (.ref 747) (.ref x)) :: (x, instObj 764 dx) :: (dx, dictOf es2 4) :: (i.led p t6 ++ [(pb, listE)]), r.1 ≠ h3.objs.size := fun r hr => Nat.ne_of_lt (Heap.lt_size (N3 r hr).1)
  have F4 := F3.push (citObj (.ref q) (.str (Str.ofString "") (tk2 + 1)) false)
  have N4 := N3.push F3 (citObj (.ref q) (.str (Str.ofString "") (tk2 + 1)) false)
  have hitx : ∀ r ∈ (x, instObj 764 dx) :: (dx, dictOf es2 4) :: (i.led p t6 ++ [(pb, listE)]), r.1 ≠ h3.objs.size := fun r hr => hlt r (.tail _ hr)
  have NL : NLoop w A base g fr mean mg mb cs x dx h3.objs.size q pb (tk2 + 1) i (fun k => if k = 2 then .ref h3.objs.size else refs k) := by
    refine ⟨G, hroom, hh, hk, hl, hsf, ⟨K.ne, K.ne2, K.r0, K.len⟩, fun r hr => ?_, ?_, ?_⟩
    · simp only [exL, List.mem_cons, List.not_mem_nil, or_false] at hr
      rcases hr with z | z | z <;> rw [z]
      · exact ⟨Ne.symm (hitx (x, _) (.head _)), Ne.symm (hitx (dx, _) (.tail _ (.head _))), Ne.symm (hitx (i.io, instObj 587 i.dio) (by simp [IO.led])), Ne.symm (hitx (i.dio, ioDict i.h1 i.h2 i.h3 i.t1 i.t2 i.t3 i.t4 i.t5 t6 i.buf p) (by simp [IO.led]))⟩
      · exact ⟨Nat.ne_of_gt (hq3 (x, _) (.head _)), Nat.ne_of_gt (hq3 (dx, _) (.tail _ (.head _))), Nat.ne_of_gt (hq3 (i.io, instObj 587 i.dio) (by simp [IO.led])), Nat.ne_of_gt (hq3 (i.dio, ioDict i.h1 i.h2 i.h3 i.t1 i.t2 i.t3 i.t4 i.t5 t6 i.buf p) (by simp [IO.led]))⟩
      · exact hpb
    · exact Ne.symm (hlt (q, _) (.head _))
    · exact Ne.symm (hitx (pb, listE) (by simp [IO.led]))
  have R4 : Rel (CxN w A cn cs cd f g L s x dx i p t6 (exL false h3.objs.size q pb x (tk2 + 1)) [] ln W (fun k => if k = 2 then .ref h3.objs.size else refs k)) ⟨false, lsN, [(Str.ofString "token", .acc false [])], nlf (.row 0) wc wb⟩ { s with heap := h3.push (citObj (.ref q) (.str (Str.ofString "") (tk2 + 1)) false), toks := tk2 + 1 + 1 } := by
    refine ⟨_, _, m2, es2, rfl, F4, ?_, sf2, FldRep.conv (nlf_conv ?_ (fun u hu => ?_) fun u hu => ?_) fr2, fun r hr => ?_⟩
    · intro y v hy
      simp only [lookS] at hy
      split at hy
      · rename_i hh1
        obtain rfl := eqS_iff.mp hh1
        cases hy
        obtain ⟨u, hu, t, ru⟩ := l2 (Str.ofString "token") (.str []) (by kernel_rfl)
        exact ⟨u, hu, rfl, t, by rw [ru]; rfl⟩
      · cases hy
    · exact ⟨rfl, rfl⟩
    · exact hu
    · exact hu
    · refine N4 r ?_
      simp only [IO.led, exL, List.cons_append, List.nil_append, List.mem_cons, List.not_mem_nil, or_false] at hr ⊢
      rcases hr with z | z | z | z | z | z | z <;> simp [z]
  refine store_ok (NL.ok false p t6 [] ln W cn cd f L s (by simp)) (v := .obj 2) (by decide +kernel) R4 ⟨rfl, rfl⟩ fun s5 R5 => ?_
  have R6 : Rel (CxN w A cn cs cd f g L s x dx i p t6 (exL false h3.objs.size q pb x (tk2 + 1)) [] ln W (fun k => if k = 2 then .ref h3.objs.size else refs k)) (μN [] wc wb) s5 := by
    obtain ⟨h6, tk6, m6, es6, e6, F6, l6, sf6, fr6, N6⟩ := R5
    refine ⟨h6, tk6, m6, es6, e6, F6, fun y v hy => l6 y v ?_, sf6, fr6, N6⟩
    simp only [μN, locN, lookS] at hy ⊢
    split at hy
    · rename_i h1
      obtain rfl := eqS_iff.mp h1
      rw [if_neg (by decide +kernel), if_pos h1]; exact hy
    · split at hy
      · rename_i h0 h1
        rw [if_pos h1]; exact hy
      · cases hy
  have out : ∀ (b : Bool) p' t6' tok' ln' s'' wc wb, Rel (CxN w A cn cs cd f g L s x dx i p' t6' (exL b h3.objs.size q pb x (tk2 + 1)) tok' ln' W (fun k => if k = 2 then .ref h3.objs.size else refs k)) (μN tok' wc wb) s'' → ∃ h' tk, s'' = { s with heap := h', toks := tk } ∧ Ke g h' ∧ NxFull g h' x dx pb i refs W ln' p' := by
    intro b p' t6' tok' ln' s'' wc wb R
    obtain ⟨h6, tk6, m6, es6, e6, F6, l6, sf6, fr6, N6⟩ := R
    have NS := Sub.of_news N6
    refine ⟨h6, tk6, e6, Ke.of_fr F6, ⟨_, es6, t6', wc, wb, rfl, rfl, rfl, rfl, fr6, fun r hr => NS r ?_⟩, fun r hr => NS r ?_⟩
    · simp only [IO.led, exL, List.cons_append, List.nil_append, List.mem_cons, List.not_mem_nil, or_false] at hr ⊢
      rcases hr with z | z | z | z <;> simp [z]
    · simp only [IO.led, exL, List.cons_append, List.nil_append, List.mem_cons, List.not_mem_nil, or_false] at hr ⊢
      simp [hr]
  refine wpAny_execs_cons (for_ok NL rfl (by simp) (by kernel_rfl) R6 fun s7 R7 => ?_)
  refine loop1N NL rfl rfl hp R7 ?_ ?_
  · intro p' t6' tok' ln' s8 wc8 wb8 u a1 a2 a3 R8 hu
    obtain ⟨h', tk, rfl, k', nx⟩ := out _ _ _ _ _ _ _ _ R8
    exact q2 p' tok' ln' h' tk u a1 (by omega) (.inl a3) k' nx hu
  · intro p' t6' tok' ln' s8 wc8 wb8 a1 a2 a3 a4 R8
    refine wpAny_execs_cons (wpAny_Return_some (evE_ok (NL.ok true p' t6' tok' ln' W cn cd f L s (by omega)) rfl names_nlf (v := .acc (!tok'.isEmpty) []) (by kernel_rfl) R8 fun u s9 ru R9 => ?_))
    obtain ⟨h', tk, rfl, k', nx⟩ := out _ _ _ _ _ _ _ _ R9
    obtain ⟨_, t, ru⟩ := ru
    exact q2 p' tok' ln' h' tk u a1 (by omega) (.inr ⟨a4, a2⟩) k' nx ⟨t, by rw [ru, app_ofL, List.append_nil]⟩
theorem nget_ok (G : Gd w A base fr mean mg mb g) (hroom : A.depth + 12 < recursionLimit) (hh : A.handled = none) (k : Ke g s.heap) (K : NxOk x dx i refs) (r1 : refs 1 = .ref pb) (hpb : pb ≠ x ∧ pb ≠ dx ∧ pb ≠ i.io ∧ pb ≠ i.dio) (hp : p ≤ i.buf.length) (Nx : NxFull g s.heap x dx pb i refs W ln p)
    (q2 : ∀ p' tok' ln' h' tk u, p' ≤ i.buf.length → tok'.length ≤ 1000 → nDone (fun c => has W (sg c)) ((sL i.buf).drop p) ln tok' ((sL i.buf).drop p') ln' → Ke g h' → NxFull g h' x dx pb i refs W ln' p' → (∃ t, u = .str (ofL tok') t) → R (.ok (.ret u)) { s with heap := h', toks := tk }) :
    codeAny (model PySem.Challenge.rw_om0137_01.row.prog w) A (.call (.ref 754) ⟨[.ref x], []⟩) R s := by
  obtain ⟨⟨Γ, es, t6, wc, wb, e1, e2, e2', e3, FR, S⟩, S2⟩ := Nx
  have X := G.X
  revert X
  k_fill
  intro X
  refine enterG (binds := [("self", .ref x)]) G (sub_app S S2) k (by k_is) (by k_is) (by omega) (BindsTo.of_eq rfl) rfl ?_ (by decide) rfl rfl rfl
  intro L' h₁ F' N' hlt
  refine ngAll (i := i) (p := p) (t6 := t6) (x := x) (dx := dx) (pb := pb) (W := W) (refs := refs) (ln := ln) (s := s) (wc := wc) (wb := wb) G hroom hh rfl (by decide) rfl rfl K r1 hpb hp (by kernel_rfl) ?_ ?_
  · refine ⟨h₁, _, _, es, rfl, F', (fun y v h => nomatch h), rfl, FldRep.conv (nlf_conv ?_ (fun u hu => ?_) fun u hu => ?_) FR, N'⟩
    · exact ⟨e2.symm, e2'.symm⟩
    · show ∃ t, u = .int (ln + ((0 : Nat) : Int)) t
      rw [← e3]; exact hu
    · exact ⟨by rw [← hu.1, e1], by rw [← e1]; exact hu.2⟩
  · intro p' tok' ln' h' tk u a1 a2 a3 a4 a5 a6
    exact q2 p' tok' ln' h' tk u a1 a2 a3 a4 a5 a6
end
end Mine
end

section
open PySem PySem.W PyProof.Rows PySem.Calls
set_option Elab.async false
set_option maxRecDepth 100000
set_option maxHeartbeats 8000000
namespace Mine
section
variable {w : World} {h : Heap}
theorem io_made (X : (hd.heap_39 w.params).In h) : Looks (model PySem.Challenge.rw_om0137_01.row.prog w) h (Bind.madeBy (.ref 587)) none := Looks.of_peek X (by kernel_rfl)
theorem io_here (X : (hd.heap_39 w.params).In h) : Looks (model PySem.Challenge.rw_om0137_01.row.prog w) h (Bind.madeHere "object.__new__" (.ref 587)) () := Looks.of_peek X (by kernel_rfl)
theorem io_check (X : (hd.heap_39 w.params).In h) : Looks (model PySem.Challenge.rw_om0137_01.row.prog w) h (checkBuiltinCall "object.__new__" ⟨[.ref 587], []⟩) () := Looks.of_peek X (by kernel_rfl)
theorem io_isType (X : (hd.heap_39 w.params).In h) : Looks (model PySem.Challenge.rw_om0137_01.row.prog w) h (isType (.ref 587)) true := Looks.of_peek X (by kernel_rfl)
theorem io_call (X : (hd.heap_39 w.params).In h) : Looks (model PySem.Challenge.rw_om0137_01.row.prog w) h (specialOf (.ref 587) "__call__") (some (.builtin "type.__call__")) := Looks.of_peek X (by kernel_rfl)
theorem io_typ (X : (hd.heap_39 w.params).In h) : Looks (model PySem.Challenge.rw_om0137_01.row.prog w) h (isInstance (.ref 587) (.type "type")) true := Looks.of_peek X (by kernel_rfl)
theorem io_mro (X : (hd.heap_39 w.params).In h) : Looks (model PySem.Challenge.rw_om0137_01.row.prog w) h (mroOf (.ref 587)) [.ref 587, .ref 110, .ref 83, .type "object"] := Looks.of_peek X (by kernel_rfl)
theorem io_sub (X : (hd.heap_39 w.params).In h) : Looks (model PySem.Challenge.rw_om0137_01.row.prog w) h (isSubtype (.ref 587) (.ref 587)) true := Looks.of_peek X (by kernel_rfl)
theorem io_init (X : (hd.heap_39 w.params).In h) : Looks (model PySem.Challenge.rw_om0137_01.row.prog w) h (typeLookup (.ref 587) "__init__") (some (.ref 357)) := Looks.of_peek X (by kernel_rfl)
theorem io_bind (X : (hd.heap_39 w.params).In h) (self : Value) : Looks (model PySem.Challenge.rw_om0137_01.row.prog w) h (bindSpecial (.ref 357) self) (.ref 357, [self]) := Looks.of_peek X (by kernel_rfl)
theorem io_obj (w : World) : ∃ oc od cd sl, (hd.heap_39 w.params).lookup 587 = some ⟨oc, od, .cls cd, sl⟩ ∧ cd.abstract = false ∧ cd.hasDel = false := by
  have e : PySem.Challenge.rw_om0137_01 = PySem.Challenge.rw_om0137_01 := rfl
  revert e
  k_fill
  intro _
  exact ⟨_, _, _, _, by k_is, rfl, rfl⟩
end
section
variable {w : World} {A : Around} {R : Result → Shared → Prop} {h : Heap} {g : Array GenState} {d : Drawn} {t : Nat} {os : OsState}
theorem io_new (X : (hd.heap_39 w.params).In h)
    (hq : R (.ok (.ret (.ref (h.objs.size + 1)))) ⟨(h.push emptyDict).push (instObj 587 h.objs.size), g, d, t, os⟩) :
    codeAny (model PySem.Challenge.rw_om0137_01.row.prog w) A (.call (.builtin "object.__new__") ⟨[.ref 587], []⟩) R ⟨h, g, d, t, os⟩ := by
  obtain ⟨oc, od, cd, sl, hC0, e1, e2⟩ := io_obj w
  have hC := X _ _ hC0
  have F := PySem.F.objNew
  have here := io_here X
  have chk := io_check X
  have ty := io_isType X
  refine codeAny_call_builtin_code (Code.quiet_builtin _ F.quiet) ?_
  refine chk.at ?_
  refine codeAny_builtin F.entry ?_
  unfold Builtin.«object.__new__»
  have fin : ∀ A', wpAny (model PySem.Challenge.rw_om0137_01.row.prog w) A' (do
      let d ← if typeHasDict (.ref 587) then some <$> alloc { cls := .type "dict", data := .dict #[] } else pure none
      ret (← newObj (.ref 587) .plain d)) (fun fin s' => match fin with | .done f => R (.ok f) s' | .again c' => c'.quiet = true ∧ codeAny (model PySem.Challenge.rw_om0137_01.row.prog w) A c' R s') (fun e s' => R (.error e) s') ⟨h, g, d, t, os⟩ := by
    intro A'
    show wpAny _ _ ((alloc emptyDict >>= fun x => pure (some x)) >>= _) _ _ _
    refine wpAny_bind (wpAny_bind (wpAny_alloc (wpAny_pure (wpAny_bind ?_))))
    show wpAny _ _ (newObjAsIs _ _ _) _ _ _
    unfold newObjAsIs classHasDel
    refine wpAny_bind (wpAny_alloc (wpAny_bind (wpAny_bind (wpAny_load (Heap.get?_push_of_some _ (Heap.get?_push_of_some _ hC)) (wpAny_pure ?_)))))
    rw [e2]
    refine wpAny_pure (wpAny_pure ?_)
    show R _ _
    rw [Heap.size_push]
    exact hq
  repeat (first | simp only [e1, Bool.false_eq_true, if_false, Bool.not_true] | exact fin _ | lk)
end
end Mine
end

section
open PySem PySem.W PyProof.Rows PySem.Calls
set_option Elab.async false
set_option maxRecDepth 100000
set_option maxHeartbeats 8000000
namespace Mine
theorem io_newAttr (w : World) : typeIn (hd.heap_39 w.params) (.ref 587) = some (.type "type") ∧ readsIn (hd.heap_39 w.params) 587 (.type "type") = true ∧ findCls (hd.heap_39 w.params) (.ref 587) (.type "type") "__new__" = some (.get (.builtin "staticmethod.__get__") (.ref 84) .none (.ref 587)) ∧ ∃ rest, recIn (hd.heap_39 w.params) 84 "staticmethod" = some (.ref 80 :: rest) := by
  have e : PySem.Challenge.rw_om0137_01 = PySem.Challenge.rw_om0137_01 := rfl
  revert e
  k_fill
  intro _
  exact ⟨by k_is, by k_is, by k_is, _, by k_is⟩
section
variable {w : World} {A : Around} {R : Result → Shared → Prop} {s : Shared} {h₀ : Heap} {L : Addr} {m : Str → Option Value}
theorem io_make {rest : List Value} (F : Fr h₀ L s.heap m) (X₀ : (hd.heap_39 w.params).In h₀)
    (hN : codeAny (model PySem.Challenge.rw_om0137_01.row.prog w) (A.under (.builtin "type.__call__" ⟨.ref 587 :: rest, []⟩)) (.call (.ref 80) ⟨.ref 587 :: rest, []⟩) (fun r s' => match r with
      | .ok (.ret v) => ∃ x dx, v = .ref x ∧ s'.heap.get? x = some (instObj 587 dx) ∧ (hd.heap_39 w.params).In s'.heap ∧ codeAny (model PySem.Challenge.rw_om0137_01.row.prog w) (A.under (.builtin "type.__call__" ⟨.ref 587 :: rest, []⟩)) (.call (.ref 357) ⟨.ref x :: rest, []⟩) (InitBack x R) s'
      | _ => False) { s with toks := s.toks + 1 }) :
    codeAny (model PySem.Challenge.rw_om0137_01.row.prog w) A (.call (.ref 587) ⟨rest, []⟩) R s := by
  have X := X₀.keeps F.keep
  obtain ⟨a1, a2, a3, rest', a4⟩ := io_newAttr w
  obtain ⟨oc, od, cd, sl, hC0, e1, e2⟩ := io_obj w
  have hC := X _ _ hC0
  have call := io_call X
  have typ := io_typ X
  have hm := io_mro X
  have made := io_made X
  obtain ⟨h, g, d, t, os⟩ := s
  refine codeAny_of_tree ?_
  show wpAny _ _ (callAny (.ref 587) _) _ _ _
  refine nd_load hC ?_
  show wpAny _ _ (callAny.viaDunder (.ref 587) _) _ _ _
  unfold callAny.viaDunder
  refine wpAny_bind (call.at ?_)
  dsimp only
  rw [tc_bind]
  refine wpAny_bind (wpAny_pure (wpAny_bind (wpAny_pure ?_)))
  refine wpAny_pure (a := Fin.again (.call (.builtin "type.__call__") ⟨.ref 587 :: rest, []⟩)) (And.intro rfl ?_)
  refine codeAny_call_builtin_at (Code.quiet_builtin _ (by decide +kernel)) entry_typeCall (check_slot tc_kind tc_split typ (tc_args _ _ _) ?_)
  unfold Builtin.«type.__call__»
  repeat (first | (simp only [List.isEmpty_cons, Bool.false_eq_true, if_false]) | (with_reducible refine wpAny_call ?_) | (refine wpAny_bind (cls_sm (s := ⟨h, g, d, t, os⟩) F X₀ a1 a2 a3 a4 rfl ?_)) | lk)
  refine codeAny_mono hN fun r s' z => ?_
  rcases r with e | (v | _ | _ | _) <;> first | exact z.elim | skip
  obtain ⟨x, dx, rfl, hx, X', hI⟩ := z
  have t1 : Looks (model PySem.Challenge.rw_om0137_01.row.prog w) s'.heap (typeOf (.ref x)) (.ref 587) := (Looks.ld hx).andThen .now
  have s1 := io_sub X'
  have i1 := io_init X'
  have b1 := io_bind X' (.ref x)
  obtain ⟨h', g', d', t', os'⟩ := s'
  unfold isInstance callSpecial? specialOf
  repeat (first | with_reducible refine wpAny_call ?_ | lk)
  refine codeAny_mono hI fun r s' z => ?_
  rcases r with e | (v | _ | _ | _) <;> first | exact z | exact z.elim | skip
  obtain ⟨rfl, z⟩ := z
  exact wpAny_pure (wpAny_pure z)
end
end Mine
end

section
open PySem PySem.W PyProof.Rows PySem.Calls
set_option Elab.async false
set_option maxRecDepth 100000
set_option maxHeartbeats 8000000
namespace Mine

theorem ioNew_K {w : World} {A : Around} {E : Value → Shared → Prop} {Q : Value → Shared → Prop} {s : Shared} {h₀ : Heap} {L : Addr} {m : Str → Option Value} {news : List (Addr × Obj)} (F : Fr h₀ L s.heap m) (N : News h₀ L s.heap news) (X₀ : (hd.heap_39 w.params).In h₀)
    (h : ∀ x dx h', Fr h₀ L h' m → News h₀ L h' ((x, instObj 587 dx) :: (dx, emptyDict) :: news) → (∀ p ∈ news, p.1 < dx) → dx < x → Q (.ref x) { s with heap := h' }) :
    wpAny (model PySem.Challenge.rw_om0137_01.row.prog w) A (call (.builtin "object.__new__") [.ref 587]) Q E s := by
  obtain ⟨hh, g, d, t, os⟩ := s
  refine wpAny_call (io_new (X₀.keeps F.keep) ?_)
  have := (N.push F emptyDict).push (F.push _) (instObj 587 hh.objs.size)
  rw [Heap.size_push] at this
  exact h _ hh.objs.size _ ((F.push _).push _) this (fun p hp => Heap.lt_size (N p hp).1) (Nat.lt_succ_self _)
theorem io80 (w : World) {s : Shared} {A A₀ : Around} {base h₀ : Heap} {outer : List Env} {mg mb : Str → Option Value} {mean : ExcName → Option Value} {env : Env} {L : Addr} {m : Str → Option Value} {news : List (Addr × Obj)} {text : Str} {t : Nat} {R : Result → Shared → Prop}
    (B : Below A₀ base outer h₀) (F : Fr h₀ L s.heap m) (X : (hd.heap_39 w.params).In h₀) (N : News h₀ L s.heap news) (T : Top hd.view_39 lo mean mg mb h₀) (hA : A.frames = some (env :: outer)) (hf : env.frame = some L) (hke : env.scope.kind = .function) (hroom : A.depth + 4 < recursionLimit)
    (h : ∀ x dx h' tk, Fr h₀ L h' m → News h₀ L h' ((x, instObj 587 dx) :: (dx, emptyDict) :: news) → (∀ p ∈ news, p.1 < dx) → dx < x → R (.ok (.ret (.ref x))) { s with heap := h', toks := tk }) :
    codeAny (model PySem.Challenge.rw_om0137_01.row.prog w) A (.call (.ref 80) ⟨[.ref 587, .str text t], []⟩) R s := by
  revert X
  k_fill
  intro X
  refine' kp_both (vs := [.str text t]) (ex := []) (DD := []) B F X N T hA hf hke ?k6 ?k7 ?k8 ?hv ?hx ?hnr ?hnm ?hn ?hD ?kP ?kG ?kG2 ?kG3 ?kB ?_ ?c2 ?c3 ?c4 ?c5
  case k6 => k_is
  case k7 => k_is
  case k8 => omega
  case hv => exact rfl
  case hx => exact rfl
  case hnr => exact rfl
  case hnm => exact rfl
  case hn => exact rfl
  case hD => exact .nil
  case kP => exact rfl
  case kG => exact rfl
  case kG2 => intro D; exact rfl
  case kG3 => intro C D; exact rfl
  case kB => intro C D; exact locs rfl
  case c2 => exact rfl
  case c3 => exact rfl
  case c4 => exact rfl
  case c5 => decide
  intro C D o g L' h₁ tk l1 l2 l3 hdo hDD FG F' N' B' X' T'
  have hA' : A.frames = some (env :: outer) := hA
  clear l3 hdo hDD B F N T X
  (w_on; repeat' (first | (k_unfold; (try dsimp only)) | ((with_reducible show wpAny _ _ (call (Value.builtin _) _ _) _ _ _); (k_here; k_dflt (refine' ioNew_K ?k1 ?k2 ?k3 ?_; (case k1 => k_asm); (case k2 => k_asm); (case k3 => k_asm)); intro x1 dx1 h1 F1 N1 l1' l2'; (try k_sweep))) | ((with_reducible show wpAny _ _ (call (Value.ref _) _ _) _ _ _); k_here; k_dflt (refine wpAny_call ?_; (refine' code_def ?k1 ?k2 ?k3 ?k4 ?k5 ?kA ?kF ?kK ?k6 ?k7 ?k8 ?k9 ?kB ?_ ?c2 ?c3 ?c4 ?c5; (case kA => first | exact Around.frames_deeper (by assumption) | exact Around.frames_deeper (Around.frames_deeper (by assumption)) | exact Around.frames_deeper (Around.frames_deeper (Around.frames_deeper (by assumption)))); (case kF => exact rfl); (case kK => exact rfl); (case k1 => k_asm); (case k2 => k_asm); (case k3 => k_asm); (case k4 => k_asm); (case k5 => k_asm); (case k6 => k_is); (case k7 => k_is); (case k8 => ((simp only [depth_under_make, depth_under_kw, depth_in1, depth_deeper]); (simp only [recursionLimit] at *); omega)); (case k9 => first | exact BindsTo.of_eq rfl | exact binds_K (by k_in) rfl (by k_is) rfl rfl rfl); (case c5 => decide); (case kB => exact locs rfl); (case c2 => exact rfl); (case c3 => exact rfl); (case c4 => exact rfl); k_whole; intro g' L' h' FG' F' N' B' X' T'; (try dsimp only); (try k_lift B'); (try k_fold)))) | walk1 | (dsimp only; (first | ((with_reducible show wpAny _ _ (call (Value.builtin _) _ _) _ _ _); (k_here; k_dflt (refine' ioNew_K ?k1 ?k2 ?k3 ?_; (case k1 => k_asm); (case k2 => k_asm); (case k3 => k_asm)); intro x1 dx1 h1 F1 N1 l1' l2'; (try k_sweep))) | ((with_reducible show wpAny _ _ (call (Value.ref _) _ _) _ _ _); k_here; k_dflt (refine wpAny_call ?_; (refine' code_def ?k1 ?k2 ?k3 ?k4 ?k5 ?kA ?kF ?kK ?k6 ?k7 ?k8 ?k9 ?kB ?_ ?c2 ?c3 ?c4 ?c5; (case kA => first | exact Around.frames_deeper (by assumption) | exact Around.frames_deeper (Around.frames_deeper (by assumption)) | exact Around.frames_deeper (Around.frames_deeper (Around.frames_deeper (by assumption)))); (case kF => exact rfl); (case kK => exact rfl); (case k1 => k_asm); (case k2 => k_asm); (case k3 => k_asm); (case k4 => k_asm); (case k5 => k_asm); (case k6 => k_is); (case k7 => k_is); (case k8 => ((simp only [depth_under_make, depth_under_kw, depth_in1, depth_deeper]); (simp only [recursionLimit] at *); omega)); (case k9 => first | exact BindsTo.of_eq rfl | exact binds_K (by k_in) rfl (by k_is) rfl rfl rfl); (case c5 => decide); (case kB => exact locs rfl); (case c2 => exact rfl); (case c3 => exact rfl); (case c4 => exact rfl); k_whole; intro g' L' h' FG' F' N' B' X' T'; (try dsimp only); (try k_lift B'); (try k_fold)))) | walk1))))
  dsimp only
  refine leaveK_ F1 N1 ?_
  intro kF kN
  refine h _ _ _ _ kF (fun p hp => kN p ?_) (fun p hp => l1' p (.tail _ (.tail _ hp))) l2'
  simp only [List.mem_cons] at hp ⊢
  rcases hp with z | z | z
  · exact .inl z
  · exact .inr (.inl z)
  · exact .inr (.inr (.inr (.inr z)))
end Mine
end

section
open PySem PySem.W PyProof.Rows PySem.Calls
set_option Elab.async false
set_option maxRecDepth 100000
set_option maxHeartbeats 8000000
namespace Mine

theorem ioInit (w : World) {s : Shared} {A : Around} {base g : Heap} {fr : List Env} {mg mb : Str → Option Value} {mean : ExcName → Option Value} {io dio : Addr} {text : Str} {t : Nat} {R : Result → Shared → Prop}
    (G : Gd w A base fr mean mg mb g) (hroom : A.depth + 4 < recursionLimit) (k : Ke g s.heap)
    (S : Sub g s.heap [(io, instObj 587 dio), (dio, emptyDict)]) (hne : io ≠ dio)
    (hR : ∀ h1 h2 h3 t1 t2 t3 t4 t5 t6 h' tk, Ke g h' → Sub g h' [(io, instObj 587 dio), (dio, ioDict h1 h2 h3 t1 t2 t3 t4 t5 t6 text 0)] → R (.ok (.ret .none)) { s with heap := h', toks := tk }) :
    codeAny (model PySem.Challenge.rw_om0137_01.row.prog w) A (.call (.ref 357) ⟨[.ref io, .str text t], []⟩) R s := by
  replace hne := neN hne
  have X := G.X
  have hA := G.B.stack
  revert X
  k_fill
  intro X
  refine' enterG G S k ?k6 ?k7 ?k8 ?k9 ?kB ?_ ?c2 ?c3 ?c4 ?c5
  case k6 => k_is
  case k7 => k_is
  case k8 => omega
  case k9 => first | exact BindsTo.of_eq rfl | exact binds_K (Frag.In.keeps X k.keep) rfl (by k_is) rfl rfl rfl
  case kB => exact rfl
  case c2 => decide
  case c3 => exact rfl
  case c4 => exact rfl
  case c5 => exact rfl
  intro L' h₁ F' N' hlt
  have B' := G.B
  have T' := G.T
  clear G S
  k_lt hlt
  (w_on; repeat' (first | (k_unfold; (try dsimp only)) | ((with_reducible show wpAny _ _ (call (Value.ref _) _ _) _ _ _); k_here; k_dflt (refine wpAny_call ?_; (refine' code_def ?k1 ?k2 ?k3 ?k4 ?k5 ?kA ?kF ?kK ?k6 ?k7 ?k8 ?k9 ?kB ?_ ?c2 ?c3 ?c4 ?c5; (case kA => first | exact Around.frames_deeper (by assumption) | exact Around.frames_deeper (Around.frames_deeper (by assumption)) | exact Around.frames_deeper (Around.frames_deeper (Around.frames_deeper (by assumption)))); (case kF => exact rfl); (case kK => exact rfl); (case k1 => k_asm); (case k2 => k_asm); (case k3 => k_asm); (case k4 => k_asm); (case k5 => k_asm); (case k6 => k_is); (case k7 => k_is); (case k8 => ((simp only [depth_under_make, depth_under_kw, depth_in1, depth_deeper]); (simp only [recursionLimit] at *); omega)); (case k9 => first | exact BindsTo.of_eq rfl | exact binds_K (by k_in) rfl (by k_is) rfl rfl rfl); (case c5 => decide); (case kB => exact locs rfl); (case c2 => exact rfl); (case c3 => exact rfl); (case c4 => exact rfl); k_whole; intro g' L' h' FG' F' N' B' X' T'; (try dsimp only); (try k_lift B'); (try k_fold)))) | walk1 | (dsimp only; (first | ((with_reducible show wpAny _ _ (call (Value.ref _) _ _) _ _ _); k_here; k_dflt (refine wpAny_call ?_; (refine' code_def ?k1 ?k2 ?k3 ?k4 ?k5 ?kA ?kF ?kK ?k6 ?k7 ?k8 ?k9 ?kB ?_ ?c2 ?c3 ?c4 ?c5; (case kA => first | exact Around.frames_deeper (by assumption) | exact Around.frames_deeper (Around.frames_deeper (by assumption)) | exact Around.frames_deeper (Around.frames_deeper (Around.frames_deeper (by assumption)))); (case kF => exact rfl); (case kK => exact rfl); (case k1 => k_asm); (case k2 => k_asm); (case k3 => k_asm); (case k4 => k_asm); (case k5 => k_asm); (case k6 => k_is); (case k7 => k_is); (case k8 => ((simp only [depth_under_make, depth_under_kw, depth_in1, depth_deeper]); (simp only [recursionLimit] at *); omega)); (case k9 => first | exact BindsTo.of_eq rfl | exact binds_K (by k_in) rfl (by k_is) rfl rfl rfl); (case c5 => decide); (case kB => exact locs rfl); (case c2 => exact rfl); (case c3 => exact rfl); (case c4 => exact rfl); k_whole; intro g' L' h' FG' F' N' B' X' T'; (try dsimp only); (try k_lift B'); (try k_fold)))) | walk1))))
  all_goals (try dsimp only)
  all_goals exact hR _ _ _ _ _ _ _ _ _ _ _ (Ke.of_fr (by assumption)) (Sub.of_news (by assumption))
end Mine
end

section
open PySem PySem.W PyProof.Rows PySem.Calls
set_option Elab.async false
set_option maxRecDepth 100000
set_option maxHeartbeats 8000000
namespace Mine
theorem mkIO_K {w : World} {s : Shared} {A A₀ : Around} {base h₀ : Heap} {outer : List Env} {mg mb : Str → Option Value} {mean : ExcName → Option Value} {env : Env} {L : Addr} {m : Str → Option Value} {news : List (Addr × Obj)} {text : Str} {t : Nat} {E : Value → Shared → Prop} {Q : Value → Shared → Prop}
    (B : Below A₀ base outer h₀) (F : Fr h₀ L s.heap m) (X : (hd.heap_39 w.params).In h₀) (N : News h₀ L s.heap news) (T : Top hd.view_39 lo mean mg mb h₀) (hA : A.frames = some (env :: outer)) (hf : env.frame = some L) (hke : env.scope.kind = .function) (hroom : A.depth + 8 < recursionLimit)
    (h : ∀ io dio h1 h2 h3 t1 t2 t3 t4 t5 t6 h' tk, Fr h₀ L h' m → News h₀ L h' ((io, instObj 587 dio) :: (dio, ioDict h1 h2 h3 t1 t2 t3 t4 t5 t6 text 0) :: news) → (∀ p ∈ news, p.1 < dio) → dio < io → Q (.ref io) { s with heap := h', toks := tk }) :
    wpAny (model PySem.Challenge.rw_om0137_01.row.prog w) A (call (.ref 587) [.str text t]) Q E s := by
  refine wpAny_call (io_make F X (io80 w (s := { s with toks := s.toks + 1 }) B F X N T hA hf hke ?_ (fun x dx h' tk F' N' l1 l2 => ⟨x, dx, rfl, (N' _ (.head _)).1, X.keeps F'.keep, ?_⟩)))
  · simp only [depth_under_make]; omega
  · have NS : News h₀ L h' [(x, instObj 587 dx), (dx, emptyDict)] := fun q hq => N' q (by
      simp only [List.mem_cons, List.not_mem_nil, or_false] at hq ⊢
      rcases hq with z | z <;> simp [z])
    have NR : News h₀ L h' news := fun q hq => N' q (.tail _ (.tail _ hq))
    obtain ⟨G', S', k', back⟩ := pushY (A := A.under (.builtin "type.__call__" ⟨[.ref 587, .str text t], []⟩)) (env := env) (s := { s with heap := h', toks := tk }) B F' NS hA hf hke X T
    refine ioInit w G' (by simp only [depth_under_make]; omega) k' S' (Nat.ne_of_gt l2) ?_
    intro h1 h2 h3 t1 t2 t3 t4 t5 t6 h'' tk' k2 S2
    obtain ⟨F2, N2⟩ := back news NR (fun r hr hm => by
      simp only [List.map_cons, List.map_nil, List.mem_cons, List.not_mem_nil, or_false] at hm
      have := l1 r hr
      rcases hm with z | z
      · rw [z] at this; exact absurd (Nat.lt_trans this l2) (Nat.lt_irrefl _)
      · rw [z] at this; exact absurd this (Nat.lt_irrefl _)) h'' _ k2 S2
    exact ⟨rfl, h x dx h1 h2 h3 t1 t2 t3 t4 t5 t6 h'' tk' F2 N2 l1 l2⟩
end Mine
end

section
open PySem PySem.W PyProof.Rows PySem.Calls
set_option Elab.async false
set_option maxRecDepth 100000
set_option maxHeartbeats 4000000
namespace Mine
noncomputable def Got1 (Q : Value → Shared → Prop) (s : Shared) : Prop := ∀ a h', PySem.W.X.Mem s.heap h' [] [(a, dequeObj)] → Q (.ref a) { s with heap := h' }
local macro_rules | `(tactic| x_close) => `(tactic| (rename Got1 _ _ => hg; exact hg _ _ (by assumption)))
section
variable {prog : Program} {w : World} {A : Around} {E : Value → Shared → Prop} {s : Shared}
theorem deque_new {Q : Value → Shared → Prop} (hg : Got1 Q s) : wpAny (model prog w) A (call (.type "collections.deque") []) Q E s := by
  x_run
theorem deque_K {h₀ : Heap} {L : Addr} {m : Str → Option Value} {news : List (Addr × Obj)} {Q : Value → Shared → Prop} (F : Fr h₀ L s.heap m) (N : News h₀ L s.heap news)
    (h : ∀ a h', Fr h₀ L h' m → News h₀ L h' ((a, dequeObj) :: news) → (∀ p ∈ news, @Ne Nat p.1 a) → Q (.ref a) { s with heap := h' }) : wpAny (model prog w) A (call (.type "collections.deque") []) Q E s := by
  refine deque_new fun a h' D => ?_
  have keep : ∀ b o, s.heap.get? b = some o → h'.get? b = some o := fun b o e => D.keep b o e (by simp [PySem.W.X.away])
  have ha := D.nw (a, dequeObj) (.head _)
  refine h a h' (F.after keep) (fun p hp => ?_) fun p hp e => ?_
  · rcases List.mem_cons.mp hp with rfl | hp
    · refine ⟨ha.1, fun e => ?_, ?_⟩
      · obtain ⟨oL, _, _, hL, _⟩ := F.ns
        have := ha.2
        rw [show (a, dequeObj).1 = L from e, hL] at this; cases this
      · cases q : h₀.get? a with
        | none => rfl
        | some o => have := ha.2; rw [F.keep _ _ q] at this; cases this
    · exact ⟨keep _ _ (N p hp).1, (N p hp).2⟩
  · have := ha.2
    rw [← e, (N p hp).1] at this; cases this
end
end Mine
end

section
open PySem PySem.W PyProof.Rows PySem.Calls Mine

section
open PySem PySem.W PyProof.Rows PySem.Calls
set_option Elab.async false
set_option maxRecDepth 100000
set_option maxHeartbeats 8000000
namespace Mine


noncomputable def Γ0 (w : World) (A : Around) (g : Heap) (s : Shared) (W : Str) (refs : Nat → Value) (ln : Int) : Cx := CxR w A (envOf (Str.ofString "") { kind := .function, names := [], isGenerator := false, isCoroutine := false } 0 0 .none) g 0 s 0 0 0 0 [] (ofL []) ln W refs
noncomputable def rf3 (a b c : Addr) : Nat → Value := fun k => if k = 0 then .ref a else if k = 1 then .ref b else .ref c
noncomputable abbrev wsS : Str := Str.ofString " \t\r\n"
noncomputable def PxDist (x dx pb fs : Addr) (i : IO) : Prop := (i.io ≠ i.dio ∧ i.io ≠ x ∧ i.io ≠ dx ∧ i.dio ≠ x ∧ i.dio ≠ dx) ∧ x ≠ dx ∧ (pb ≠ x ∧ pb ≠ dx ∧ pb ≠ i.io ∧ pb ≠ i.dio) ∧ (fs ≠ x ∧ fs ≠ dx ∧ fs ≠ i.io ∧ fs ≠ i.dio)
noncomputable def PxGoal (R : Result → Shared → Prop) (s : Shared) (g : Heap) (x dx : Addr) (text : Str) : Prop := ∀ (i : IO) pb fs h' tk, i.buf = text → PxDist x dx pb fs i → Ke g h' → LexFull g h' x dx pb fs i (rf3 i.io pb fs) wsS (some 32) 1 0 → R (.ok (.ret .none)) { s with heap := h', toks := tk }
theorem fin_px (w : World) (A : Around) {R : Result → Shared → Prop} {s : Shared} {g h' : Heap} {x dx io dio pb fs : Addr} {h1 h2 h3 : Int} {t1 t2 t3 t4 t5 t6 tk : Nat} {text : Str} {es : List DictEntry} (hR : PxGoal R s g x dx text) (k : Ke g h')
    (S : Sub g h' [(fs, dequeObj), (pb, dequeObj), (io, instObj 587 dio), (dio, ioDict h1 h2 h3 t1 t2 t3 t4 t5 t6 text 0), (x, instObj 722 dx), (dx, dictOf es 19)])
    (d : PxDist x dx pb fs ⟨io, dio, h1, h2, h3, t1, t2, t3, t4, t5, text⟩)
    (fr : ∀ Γ : Cx, Γ.W = wsS → Γ.refs = rf3 io pb fs → Γ.ln0 = 1 → FldRep Γ (lf (stV (some 32)) (.str []) (.row 0) 0 false [39, 34] [35] false) es) : R (.ok (.ret .none)) { s with heap := h', toks := tk } :=
  hR ⟨io, dio, h1, h2, h3, t1, t2, t3, t4, t5, text⟩ pb fs h' tk rfl d k ⟨⟨Γ0 w A g s wsS (rf3 io pb fs) 1, es, t6, rfl, rfl, rfl, fr _ rfl rfl rfl, fun p hp => S p (by
    simp only [IO.led, List.mem_cons, List.not_mem_nil, or_false] at hp ⊢
    rcases hp with z | z | z | z <;> simp [z])⟩, fun p hp => S p (by
    simp only [IO.led, List.mem_cons, List.not_mem_nil, or_false] at hp ⊢
    rcases hp with z | z <;> simp [z])⟩
theorem zero_ws : has wsS (sg 0) = false := by rw [has_one]; decide +kernel
theorem rep_str {Γ : Cx} {x : Str} {y : List Nat} {t : Nat} (h : x = ofL y) : Rep Γ (.str y) (.str x t) := ⟨t, by rw [h]⟩
theorem neA {a b : Addr} (h : @Ne Nat a b) : a ≠ b := h

theorem init_px (w : World) {s : Shared} {A : Around} {base g : Heap} {fr : List Env} {mg mb : Str → Option Value} {mean : ExcName → Option Value} {x dx : Addr} {text : Str} {t : Nat} {R : Result → Shared → Prop}
    (G : Gd w A base fr mean mg mb g) (hroom : A.depth + 12 < recursionLimit) (hh : A.handled = none) (k : Ke g s.heap)
    (S : Sub g s.heap [(x, instObj 722 dx), (dx, emptyDict)]) (hne : x ≠ dx) (hb : text.length ≤ 1000)
    (hR : PxGoal R s g x dx text) :
    codeAny (model PySem.Challenge.rw_om0137_01.row.prog w) A (.call (.ref 646) ⟨[.ref x, .str text t], [("posix", .bool true)]⟩) R s := by
  replace hne := neN hne
  have X := G.X
  have hA := G.B.stack
  revert X
  k_fill
  intro X
  refine' enterG G S k ?k6 ?k7 ?k8 ?k9 ?kB ?_ ?c2 ?c3 ?c4 ?c5
  case k6 => k_is
  case k7 => k_is
  case k8 => omega
  case k9 => first | exact BindsTo.of_eq rfl | exact binds_K (Frag.In.keeps X k.keep) rfl (by k_is) rfl rfl rfl
  case kB => exact rfl
  case c2 => decide
  case c3 => exact rfl
  case c4 => exact rfl
  case c5 => exact rfl
  intro L' h₁ F' N' hlt
  have B' := G.B
  have T' := G.T
  clear G S
  k_lt hlt
  refine wpAny_gen fun Q0 E0 hQ0 hE0 => ?_
  clear hE0
  (w_on; repeat' (first | ((with_reducible show wpAny _ _ (execs (_ :: _) _) _ _ (Shared.mk _ _ _ (HAdd.hAdd _ _) _)); refine tok_norm s ?_; intro tkn) | (k_unfold; (try dsimp only)) | ((with_reducible show wpAny _ _ (call (Value.type _) _ _) _ _ _); (k_here; k_dflt (refine' deque_K ?k1 ?k2 ?_; (case k1 => k_asm); (case k2 => k_asm)); intro a' h' F' N' l1'; (simp only [List.mem_cons, List.not_mem_nil, or_false, forall_eq_or_imp, forall_eq] at l1'); (repeat' (with_reducible rename And _ _ => hand'; obtain ⟨ha', hand'⟩ := hand')); (try k_sweep))) | ((with_reducible show wpAny _ _ (call (Value.ref _) _ _) _ _ _); (k_here; (show wpAny _ _ (call (Value.ref 587) [Value.str _ _] []) _ _ _); k_dflt (refine' mkIO_K ?k1 ?k2 ?k3 ?k5 ?k4 ?kA ?kF ?kK ?kR ?_; (case k2 => k_asm); (case k5 => k_asm); (case k3 => k_asm); (case k4 => k_asm); (case k1 => k_asm); (case kA => first | exact Around.frames_deeper (by assumption) | exact Around.frames_deeper (Around.frames_deeper (by assumption))); (case kF => exact rfl); (case kK => exact rfl); (case kR => ((simp only [depth_under_make, depth_under_kw, depth_in1, depth_deeper]); (simp only [recursionLimit] at *); omega))); intro io' dio' h1' h2' h3' t1' t2' t3' t4' t5' t6' h' tk' F' N' l1' l2'; (k_lt l1'); (k_lt2 l2'); (try k_sweep))) | ((with_reducible show wpAny _ _ (call (Value.ref _) _ _) _ _ _); k_here; k_dflt (refine wpAny_call ?_; (refine' code_def ?k1 ?k2 ?k3 ?k4 ?k5 ?kA ?kF ?kK ?k6 ?k7 ?k8 ?k9 ?kB ?_ ?c2 ?c3 ?c4 ?c5; (case kA => first | exact Around.frames_deeper (by assumption) | exact Around.frames_deeper (Around.frames_deeper (by assumption)) | exact Around.frames_deeper (Around.frames_deeper (Around.frames_deeper (by assumption)))); (case kF => exact rfl); (case kK => exact rfl); (case k1 => k_asm); (case k2 => k_asm); (case k3 => k_asm); (case k4 => k_asm); (case k5 => k_asm); (case k6 => k_is); (case k7 => k_is); (case k8 => ((simp only [depth_under_make, depth_under_kw, depth_in1, depth_deeper]); (simp only [recursionLimit] at *); omega)); (case k9 => first | exact BindsTo.of_eq rfl | exact binds_K (by k_in) rfl (by k_is) rfl rfl rfl); (case c5 => decide); (case kB => exact locs rfl); (case c2 => exact rfl); (case c3 => exact rfl); (case c4 => exact rfl); k_whole; intro g' L' h' FG' F' N' B' X' T'; (try dsimp only); (try k_lift B'); (try k_fold)))) | walk1 | (dsimp only; (first | ((with_reducible show wpAny _ _ (call (Value.type _) _ _) _ _ _); (k_here; k_dflt (refine' deque_K ?k1 ?k2 ?_; (case k1 => k_asm); (case k2 => k_asm)); intro a' h' F' N' l1'; (simp only [List.mem_cons, List.not_mem_nil, or_false, forall_eq_or_imp, forall_eq] at l1'); (repeat' (with_reducible rename And _ _ => hand'; obtain ⟨ha', hand'⟩ := hand')); (try k_sweep))) | ((with_reducible show wpAny _ _ (call (Value.ref _) _ _) _ _ _); (k_here; (show wpAny _ _ (call (Value.ref 587) [Value.str _ _] []) _ _ _); k_dflt (refine' mkIO_K ?k1 ?k2 ?k3 ?k5 ?k4 ?kA ?kF ?kK ?kR ?_; (case k2 => k_asm); (case k5 => k_asm); (case k3 => k_asm); (case k4 => k_asm); (case k1 => k_asm); (case kA => first | exact Around.frames_deeper (by assumption) | exact Around.frames_deeper (Around.frames_deeper (by assumption))); (case kF => exact rfl); (case kK => exact rfl); (case kR => ((simp only [depth_under_make, depth_under_kw, depth_in1, depth_deeper]); (simp only [recursionLimit] at *); omega))); intro io' dio' h1' h2' h3' t1' t2' t3' t4' t5' t6' h' tk' F' N' l1' l2'; (k_lt l1'); (k_lt2 l2'); (try k_sweep))) | ((with_reducible show wpAny _ _ (call (Value.ref _) _ _) _ _ _); k_here; k_dflt (refine wpAny_call ?_; (refine' code_def ?k1 ?k2 ?k3 ?k4 ?k5 ?kA ?kF ?kK ?k6 ?k7 ?k8 ?k9 ?kB ?_ ?c2 ?c3 ?c4 ?c5; (case kA => first | exact Around.frames_deeper (by assumption) | exact Around.frames_deeper (Around.frames_deeper (by assumption)) | exact Around.frames_deeper (Around.frames_deeper (Around.frames_deeper (by assumption)))); (case kF => exact rfl); (case kK => exact rfl); (case k1 => k_asm); (case k2 => k_asm); (case k3 => k_asm); (case k4 => k_asm); (case k5 => k_asm); (case k6 => k_is); (case k7 => k_is); (case k8 => ((simp only [depth_under_make, depth_under_kw, depth_in1, depth_deeper]); (simp only [recursionLimit] at *); omega)); (case k9 => first | exact BindsTo.of_eq rfl | exact binds_K (by k_in) rfl (by k_is) rfl rfl rfl); (case c5 => decide); (case kB => exact locs rfl); (case c2 => exact rfl); (case c3 => exact rfl); (case c4 => exact rfl); k_whole; intro g' L' h' FG' F' N' B' X' T'; (try dsimp only); (try k_lift B'); (try k_fold)))) | walk1))))
  all_goals (subst hQ0)
  all_goals (try dsimp only)
  refine fin_px w A hR (Ke.of_fr (by assumption)) (Sub.of_news (by assumption)) ?_ ?_
  · refine ⟨⟨?_, ?_, ?_, ?_, ?_⟩, ?_, ⟨?_, ?_, ?_, ?_⟩, ?_, ?_, ?_, ?_⟩ <;> (refine neA ?_; (try dsimp only); omega)
  · intro Γ e1 e2 e3
    refine .cons ?_ (.cons ?_ (.cons ?_ (.cons ?_ (.cons ?_ (.cons ?_ (.cons ?_ (.cons ?_ (.cons ?_ (.cons ?_ (.cons ?_ (.cons ?_ (.cons ?_ (.cons ?_ (.cons ?_ (.cons ?_ (.cons ?_ (.cons ?_ (.cons ?_ .nil))))))))))))))))))
    · exact ⟨by rw [e2]; rfl, by rw [e2]; rfl⟩
    · exact rfl
    · exact rfl
    · exact rfl
    · exact ⟨_, rfl⟩
    · exact rep_str (by kernel_rfl)
    · exact ⟨by rw [e1]; exact zero_ws, _, by rw [e1]⟩
    · exact rfl
    · exact ⟨_, rfl⟩
    · exact ⟨_, rfl⟩
    · exact ⟨_, rfl⟩
    · exact ⟨_, rfl⟩
    · exact ⟨by rw [e2]; rfl, by rw [e2]; rfl⟩
    · exact ⟨_, by rw [e3]; rfl⟩
    · exact ⟨_, rfl⟩
    · exact ⟨_, rfl⟩
    · exact ⟨by rw [e2]; rfl, by rw [e2]; rfl⟩
    · exact rfl
    · exact ⟨_, rfl⟩

end Mine
end

section
open PySem PySem.W PyProof.Rows PySem.Calls
set_option Elab.async false
set_option maxRecDepth 100000
set_option maxHeartbeats 8000000
namespace Mine


noncomputable def NpGoal (R : Result → Shared → Prop) (s : Shared) (g : Heap) (x dx : Addr) (text : Str) : Prop := ∀ (i : IO) (hs : Int) (kt t6 : Nat) es h' tk, i.buf = text → (i.io ≠ i.dio ∧ i.io ≠ x ∧ i.io ≠ dx ∧ i.dio ≠ x ∧ i.dio ≠ dx) → Ke g h' → Sub g h' ((x, instObj 722 dx) :: (dx, dictOf (⟨hs, .str (Str.ofString "instream") kt, .ref i.io⟩ :: es) 19) :: i.led 0 t6) → R (.ok (.ret .none)) { s with heap := h', toks := tk }
theorem fin_np {R : Result → Shared → Prop} {s : Shared} {g h' : Heap} {x dx io dio pb fs : Addr} {h1 h2 h3 hs : Int} {t1 t2 t3 t4 t5 t6 tk kt : Nat} {text : Str} {es : List DictEntry} (hR : NpGoal R s g x dx text) (k : Ke g h')
    (S : Sub g h' [(fs, dequeObj), (pb, dequeObj), (io, instObj 587 dio), (dio, ioDict h1 h2 h3 t1 t2 t3 t4 t5 t6 text 0), (x, instObj 722 dx), (dx, dictOf (⟨hs, .str (Str.ofString "instream") kt, .ref io⟩ :: es) 19)])
    (d : io ≠ dio ∧ io ≠ x ∧ io ≠ dx ∧ dio ≠ x ∧ dio ≠ dx) : R (.ok (.ret .none)) { s with heap := h', toks := tk } :=
  hR ⟨io, dio, h1, h2, h3, t1, t2, t3, t4, t5, text⟩ hs kt t6 es h' tk rfl d k (fun p hp => S p (by
    simp only [IO.led, List.mem_cons, List.not_mem_nil, or_false] at hp ⊢
    rcases hp with z | z | z | z <;> simp [z]))
theorem init_np (w : World) {s : Shared} {A : Around} {base g : Heap} {fr : List Env} {mg mb : Str → Option Value} {mean : ExcName → Option Value} {x dx : Addr} {text : Str} {t : Nat} {R : Result → Shared → Prop}
    (G : Gd w A base fr mean mg mb g) (hroom : A.depth + 12 < recursionLimit) (hh : A.handled = none) (k : Ke g s.heap)
    (S : Sub g s.heap [(x, instObj 722 dx), (dx, emptyDict)]) (hne : x ≠ dx) (hb : text.length ≤ 1000)
    (hR : NpGoal R s g x dx text) :
    codeAny (model PySem.Challenge.rw_om0137_01.row.prog w) A (.call (.ref 646) ⟨[.ref x, .str text t], []⟩) R s := by
  replace hne := neN hne
  have X := G.X
  have hA := G.B.stack
  revert X
  k_fill
  intro X
  refine' enterG G S k ?k6 ?k7 ?k8 ?k9 ?kB ?_ ?c2 ?c3 ?c4 ?c5
  case k6 => k_is
  case k7 => k_is
  case k8 => omega
  case k9 => first | exact BindsTo.of_eq rfl | exact binds_K (Frag.In.keeps X k.keep) rfl (by k_is) rfl rfl rfl
  case kB => exact rfl
  case c2 => decide
  case c3 => exact rfl
  case c4 => exact rfl
  case c5 => exact rfl
  intro L' h₁ F' N' hlt
  have B' := G.B
  have T' := G.T
  clear G S
  k_lt hlt
  refine wpAny_gen fun Q0 E0 hQ0 hE0 => ?_
  clear hE0
  (w_on; repeat' (first | ((with_reducible show wpAny _ _ (execs (_ :: _) _) _ _ (Shared.mk _ _ _ (HAdd.hAdd _ _) _)); refine tok_norm s ?_; intro tkn) | (k_unfold; (try dsimp only)) | ((with_reducible show wpAny _ _ (call (Value.type _) _ _) _ _ _); (k_here; k_dflt (refine' deque_K ?k1 ?k2 ?_; (case k1 => k_asm); (case k2 => k_asm)); intro a' h' F' N' l1'; (simp only [List.mem_cons, List.not_mem_nil, or_false, forall_eq_or_imp, forall_eq] at l1'); (repeat' (with_reducible rename And _ _ => hand'; obtain ⟨ha', hand'⟩ := hand')); (try k_sweep))) | ((with_reducible show wpAny _ _ (call (Value.ref _) _ _) _ _ _); (k_here; (show wpAny _ _ (call (Value.ref 587) [Value.str _ _] []) _ _ _); k_dflt (refine' mkIO_K ?k1 ?k2 ?k3 ?k5 ?k4 ?kA ?kF ?kK ?kR ?_; (case k2 => k_asm); (case k5 => k_asm); (case k3 => k_asm); (case k4 => k_asm); (case k1 => k_asm); (case kA => first | exact Around.frames_deeper (by assumption) | exact Around.frames_deeper (Around.frames_deeper (by assumption))); (case kF => exact rfl); (case kK => exact rfl); (case kR => ((simp only [depth_under_make, depth_under_kw, depth_in1, depth_deeper]); (simp only [recursionLimit] at *); omega))); intro io' dio' h1' h2' h3' t1' t2' t3' t4' t5' t6' h' tk' F' N' l1' l2'; (k_lt l1'); (k_lt2 l2'); (try k_sweep))) | ((with_reducible show wpAny _ _ (call (Value.ref _) _ _) _ _ _); k_here; k_dflt (refine wpAny_call ?_; (refine' code_def ?k1 ?k2 ?k3 ?k4 ?k5 ?kA ?kF ?kK ?k6 ?k7 ?k8 ?k9 ?kB ?_ ?c2 ?c3 ?c4 ?c5; (case kA => first | exact Around.frames_deeper (by assumption) | exact Around.frames_deeper (Around.frames_deeper (by assumption)) | exact Around.frames_deeper (Around.frames_deeper (Around.frames_deeper (by assumption)))); (case kF => exact rfl); (case kK => exact rfl); (case k1 => k_asm); (case k2 => k_asm); (case k3 => k_asm); (case k4 => k_asm); (case k5 => k_asm); (case k6 => k_is); (case k7 => k_is); (case k8 => ((simp only [depth_under_make, depth_under_kw, depth_in1, depth_deeper]); (simp only [recursionLimit] at *); omega)); (case k9 => first | exact BindsTo.of_eq rfl | exact binds_K (by k_in) rfl (by k_is) rfl rfl rfl); (case c5 => decide); (case kB => exact locs rfl); (case c2 => exact rfl); (case c3 => exact rfl); (case c4 => exact rfl); k_whole; intro g' L' h' FG' F' N' B' X' T'; (try dsimp only); (try k_lift B'); (try k_fold)))) | walk1 | (dsimp only; (first | ((with_reducible show wpAny _ _ (call (Value.type _) _ _) _ _ _); (k_here; k_dflt (refine' deque_K ?k1 ?k2 ?_; (case k1 => k_asm); (case k2 => k_asm)); intro a' h' F' N' l1'; (simp only [List.mem_cons, List.not_mem_nil, or_false, forall_eq_or_imp, forall_eq] at l1'); (repeat' (with_reducible rename And _ _ => hand'; obtain ⟨ha', hand'⟩ := hand')); (try k_sweep))) | ((with_reducible show wpAny _ _ (call (Value.ref _) _ _) _ _ _); (k_here; (show wpAny _ _ (call (Value.ref 587) [Value.str _ _] []) _ _ _); k_dflt (refine' mkIO_K ?k1 ?k2 ?k3 ?k5 ?k4 ?kA ?kF ?kK ?kR ?_; (case k2 => k_asm); (case k5 => k_asm); (case k3 => k_asm); (case k4 => k_asm); (case k1 => k_asm); (case kA => first | exact Around.frames_deeper (by assumption) | exact Around.frames_deeper (Around.frames_deeper (by assumption))); (case kF => exact rfl); (case kK => exact rfl); (case kR => ((simp only [depth_under_make, depth_under_kw, depth_in1, depth_deeper]); (simp only [recursionLimit] at *); omega))); intro io' dio' h1' h2' h3' t1' t2' t3' t4' t5' t6' h' tk' F' N' l1' l2'; (k_lt l1'); (k_lt2 l2'); (try k_sweep))) | ((with_reducible show wpAny _ _ (call (Value.ref _) _ _) _ _ _); k_here; k_dflt (refine wpAny_call ?_; (refine' code_def ?k1 ?k2 ?k3 ?k4 ?k5 ?kA ?kF ?kK ?k6 ?k7 ?k8 ?k9 ?kB ?_ ?c2 ?c3 ?c4 ?c5; (case kA => first | exact Around.frames_deeper (by assumption) | exact Around.frames_deeper (Around.frames_deeper (by assumption)) | exact Around.frames_deeper (Around.frames_deeper (Around.frames_deeper (by assumption)))); (case kF => exact rfl); (case kK => exact rfl); (case k1 => k_asm); (case k2 => k_asm); (case k3 => k_asm); (case k4 => k_asm); (case k5 => k_asm); (case k6 => k_is); (case k7 => k_is); (case k8 => ((simp only [depth_under_make, depth_under_kw, depth_in1, depth_deeper]); (simp only [recursionLimit] at *); omega)); (case k9 => first | exact BindsTo.of_eq rfl | exact binds_K (by k_in) rfl (by k_is) rfl rfl rfl); (case c5 => decide); (case kB => exact locs rfl); (case c2 => exact rfl); (case c3 => exact rfl); (case c4 => exact rfl); k_whole; intro g' L' h' FG' F' N' B' X' T'; (try dsimp only); (try k_lift B'); (try k_fold)))) | walk1))))
  all_goals (subst hQ0)
  all_goals (try dsimp only)
  refine fin_np hR (Ke.of_fr (by assumption)) (Sub.of_news (by assumption)) ?_
  refine ⟨?_, ?_, ?_, ?_, ?_⟩ <;> (refine neA ?_; (try dsimp only); omega)
end Mine
end
end

section
open PySem PySem.W PyProof.Rows PySem.Calls
set_option Elab.async false
set_option maxRecDepth 100000
set_option maxHeartbeats 8000000
namespace Mine

noncomputable abbrev wnS : Str := Str.ofString "\n\t\r "
noncomputable def NxGoal (R : Result → Shared → Prop) (s : Shared) (g : Heap) (x dx : Addr) (i : IO) (p : Nat) : Prop := ∀ pb h' tk, (pb ≠ x ∧ pb ≠ dx ∧ pb ≠ i.io ∧ pb ≠ i.dio) → Ke g h' → NxFull g h' x dx pb i (rf3 i.io pb pb) wnS 1 p → R (.ok (.ret .none)) { s with heap := h', toks := tk }
theorem fin_nx (w : World) (A : Around) {R : Result → Shared → Prop} {s : Shared} {g h' : Heap} {x dx pb : Addr} {i : IO} {p t6 tk : Nat} {es : List DictEntry} (hR : NxGoal R s g x dx i p) (k : Ke g h')
    (S : Sub g h' [(pb, listE), (x, instObj 764 dx), (dx, dictOf es 4), (i.io, instObj 587 i.dio), (i.dio, ioDict i.h1 i.h2 i.h3 i.t1 i.t2 i.t3 i.t4 i.t5 t6 i.buf p)])
    (d : pb ≠ x ∧ pb ≠ dx ∧ pb ≠ i.io ∧ pb ≠ i.dio)
    (fr : ∀ Γ : Cx, Γ.W = wnS → Γ.refs = rf3 i.io pb pb → Γ.ln0 = 1 → FldRep Γ (nlf (.row 0) 0 false) es) : R (.ok (.ret .none)) { s with heap := h', toks := tk } :=
  hR pb h' tk d k ⟨⟨Γ0 w A g s wnS (rf3 i.io pb pb) 1, es, t6, 0, false, rfl, rfl, rfl, rfl, fr _ rfl rfl rfl, fun p hp => S p (by
    simp only [IO.led, List.mem_cons, List.not_mem_nil, or_false] at hp ⊢
    rcases hp with z | z | z | z <;> simp [z])⟩, fun p hp => S p (by
    simp only [List.mem_cons, List.not_mem_nil, or_false] at hp ⊢
    simp [hp])⟩
theorem zero_wn : has wnS (sg 0) = false := by rw [has_one]; decide +kernel
theorem init_nx (w : World) {s : Shared} {A : Around} {base g : Heap} {fr : List Env} {mg mb : Str → Option Value} {mean : ExcName → Option Value} {x dx : Addr} {i : IO} {p t6 : Nat} {R : Result → Shared → Prop}
    (G : Gd w A base fr mean mg mb g) (hroom : A.depth + 12 < recursionLimit) (hh : A.handled = none) (k : Ke g s.heap)
    (S : Sub g s.heap [(x, instObj 764 dx), (dx, emptyDict), (i.io, instObj 587 i.dio), (i.dio, ioDict i.h1 i.h2 i.h3 i.t1 i.t2 i.t3 i.t4 i.t5 t6 i.buf p)]) (hne : x ≠ dx) (d : i.io ≠ i.dio ∧ i.io ≠ x ∧ i.io ≠ dx ∧ i.dio ≠ x ∧ i.dio ≠ dx)
    (hR : NxGoal R s g x dx i p) :
    codeAny (model PySem.Challenge.rw_om0137_01.row.prog w) A (.call (.ref 740) ⟨[.ref x, .ref i.io], []⟩) R s := by
  obtain ⟨d1, d2, d3, d4, d5⟩ := d
  replace d1 := neN d1
  replace d2 := neN d2
  replace d3 := neN d3
  replace d4 := neN d4
  replace d5 := neN d5
  replace hne := neN hne
  have X := G.X
  have hA := G.B.stack
  revert X
  k_fill
  intro X
  refine' enterG G S k ?k6 ?k7 ?k8 ?k9 ?kB ?_ ?c2 ?c3 ?c4 ?c5
  case k6 => k_is
  case k7 => k_is
  case k8 => omega
  case k9 => first | exact BindsTo.of_eq rfl | exact binds_K (Frag.In.keeps X k.keep) rfl (by k_is) rfl rfl rfl
  case kB => exact rfl
  case c2 => decide
  case c3 => exact rfl
  case c4 => exact rfl
  case c5 => exact rfl
  intro L' h₁ F' N' hlt
  have B' := G.B
  have T' := G.T
  clear G S
  k_lt hlt
  refine wpAny_gen fun Q0 E0 hQ0 hE0 => ?_
  clear hE0
  (w_on; repeat' (first | ((with_reducible show wpAny _ _ (execs (_ :: _) _) _ _ (Shared.mk _ _ _ (HAdd.hAdd _ _) _)); refine tok_norm s ?_; intro tkn) | (k_unfold; (try dsimp only)) | ((with_reducible show wpAny _ _ (call (Value.ref _) _ _) _ _ _); k_here; k_dflt (refine wpAny_call ?_; (refine' code_def ?k1 ?k2 ?k3 ?k4 ?k5 ?kA ?kF ?kK ?k6 ?k7 ?k8 ?k9 ?kB ?_ ?c2 ?c3 ?c4 ?c5; (case kA => first | exact Around.frames_deeper (by assumption) | exact Around.frames_deeper (Around.frames_deeper (by assumption)) | exact Around.frames_deeper (Around.frames_deeper (Around.frames_deeper (by assumption)))); (case kF => exact rfl); (case kK => exact rfl); (case k1 => k_asm); (case k2 => k_asm); (case k3 => k_asm); (case k4 => k_asm); (case k5 => k_asm); (case k6 => k_is); (case k7 => k_is); (case k8 => ((simp only [depth_under_make, depth_under_kw, depth_in1, depth_deeper]); (simp only [recursionLimit] at *); omega)); (case k9 => first | exact BindsTo.of_eq rfl | exact binds_K (by k_in) rfl (by k_is) rfl rfl rfl); (case c5 => decide); (case kB => exact locs rfl); (case c2 => exact rfl); (case c3 => exact rfl); (case c4 => exact rfl); k_whole; intro g' L' h' FG' F' N' B' X' T'; (try dsimp only); (try k_lift B'); (try k_fold)))) | walk1 | (dsimp only; (first | ((with_reducible show wpAny _ _ (call (Value.ref _) _ _) _ _ _); k_here; k_dflt (refine wpAny_call ?_; (refine' code_def ?k1 ?k2 ?k3 ?k4 ?k5 ?kA ?kF ?kK ?k6 ?k7 ?k8 ?k9 ?kB ?_ ?c2 ?c3 ?c4 ?c5; (case kA => first | exact Around.frames_deeper (by assumption) | exact Around.frames_deeper (Around.frames_deeper (by assumption)) | exact Around.frames_deeper (Around.frames_deeper (Around.frames_deeper (by assumption)))); (case kF => exact rfl); (case kK => exact rfl); (case k1 => k_asm); (case k2 => k_asm); (case k3 => k_asm); (case k4 => k_asm); (case k5 => k_asm); (case k6 => k_is); (case k7 => k_is); (case k8 => ((simp only [depth_under_make, depth_under_kw, depth_in1, depth_deeper]); (simp only [recursionLimit] at *); omega)); (case k9 => first | exact BindsTo.of_eq rfl | exact binds_K (by k_in) rfl (by k_is) rfl rfl rfl); (case c5 => decide); (case kB => exact locs rfl); (case c2 => exact rfl); (case c3 => exact rfl); (case c4 => exact rfl); k_whole; intro g' L' h' FG' F' N' B' X' T'; (try dsimp only); (try k_lift B'); (try k_fold)))) | walk1))))
  all_goals (subst hQ0)
  all_goals (try dsimp only)
  refine fin_nx w A hR (Ke.of_fr (by assumption)) (Sub.of_news (by assumption)) ?_ ?_
  · refine ⟨?_, ?_, ?_, ?_⟩ <;> (refine neA ?_; (try dsimp only); omega)
  · intro Γ e1 e2 e3
    refine .cons ?_ (.cons ?_ (.cons ?_ (.cons ?_ .nil)))
    · exact ⟨_, by rw [e3]; rfl⟩
    · exact ⟨by rw [e2]; rfl, by rw [e2]; rfl⟩
    · exact ⟨by rw [e1]; exact zero_wn, _, by rw [e1]⟩
    · exact ⟨by rw [e2]; rfl, by rw [e2]; rfl⟩
end Mine
end

section
set_option Elab.async false
namespace Mine
/-- the modes of the law's own reader -/
inductive Md where
  | between | plain | pesc | quoted | qesc | closed | alike | same | other | q (m : Nat)
  deriving DecidableEq
noncomputable abbrev Fd := List (List Nat × Int × Int)
structure Td where
  f : Fd
  m : Md
  w : List Nat
  r : Int
noncomputable def isQ (c : Nat) : Bool := c == 34 || c == 39
/-- _law_step -/
noncomputable def lstep (t : Td) (c : Nat) : Td :=
  let b := nl c t.r
  match t.m with
  | .same => t
  | .other => t
  | .between => if wh1 c then ⟨t.f, .between, [], b⟩ else if c == 34 then ⟨t.f, .quoted, [], b⟩ else if c == 92 then ⟨t.f, .pesc, [], b⟩ else if c == 39 then ⟨t.f, .other, [], b⟩ else ⟨t.f, .plain, [c], b⟩
  | .plain => if wh1 c then ⟨t.f ++ [(t.w, b, b)], .between, [], b⟩ else if c == 92 then ⟨t.f, .pesc, t.w, b⟩ else if isQ c then ⟨t.f, .other, t.w, b⟩ else ⟨t.f, .plain, t.w ++ [c], b⟩
  | .pesc => ⟨t.f, .plain, t.w ++ [c], b⟩
  | .quoted => if c == 34 then ⟨t.f, .closed, t.w, b⟩ else if c == 92 then ⟨t.f, .qesc, t.w, b⟩ else ⟨t.f, .quoted, t.w ++ [c], b⟩
  | .qesc => if c == 34 || c == 92 then ⟨t.f, .quoted, t.w ++ [c], b⟩ else ⟨t.f, .other, t.w, b⟩
  | .q m => ⟨t.f, if c == m then .alike else .other, t.w, b⟩
  | .closed => if wh1 c then ⟨t.f ++ [(t.w, t.r, b)], .between, [], b⟩ else if isQ c then ⟨t.f, .q c, t.w, b⟩ else ⟨t.f, .other, t.w, b⟩
  | .alike => if wh1 c then ⟨t.f ++ [(t.w, t.r, b)], .same, [], b⟩ else if isQ c then ⟨t.f, .q c, t.w, b⟩ else ⟨t.f, .other, t.w, b⟩
inductive En where
  | fin | same | other
  deriving DecidableEq
/-- _law_told -/
noncomputable def ltold (t : Td) : Fd × En × List Nat × Int := match t.m with
  | .plain | .closed => (t.f ++ [(t.w, t.r, t.r)], .fin, [], t.r)
  | .between => (t.f, .fin, [], t.r)
  | .alike => (t.f ++ [(t.w, t.r, t.r)], .same, [], t.r)
  | .same => (t.f, .same, [], t.r)
  | _ => (t.f, .other, t.w, t.r)
noncomputable abbrev rn := run [39, 34] wh1
noncomputable abbrev nt := ntok wh1
/-- netrc's call has ended so -/
noncomputable def Nd (N : NO) (tok r : List Nat) (n : Int) : Prop := N = .ret tok r n ∨ N = .fin tok n ∧ r = []
/-- what is asked behind the known words -/
noncomputable def AfterO (N : NO) (O : Out) : En → List Nat → Int → Prop
  | .same, _, _ => True
  | .fin, _, row => (∃ r, Nd N [] r row) ∧ ∃ r' st', O = .brk r' st' row [] false
  | .other, w, _ => ∃ tok r n, Nd N tok r n ∧ w <+: tok ∧ (O = .bad ∨ ∃ r' st' n' tok' q, O = .brk r' st' n' tok' q ∧ w <+: tok' ∧ tok ≠ tok')
/-- what is asked of all words -/
noncomputable def AskedO : Fd → NO → Out → (En × List Nat × Int) → Prop
  | [], N, O, x => AfterO N O x.1 x.2.1 x.2.2
  | (k, a, b) :: f, N, O, x => ∃ r, Nd N k r a ∧ ∃ r' st' q, O = .brk r' st' b k q ∧ (q || !k.isEmpty) = true ∧ AskedO f (nt r a) (rn r' st' 32 false [] b) x
noncomputable def Tl (m : Md) (w : List Nat) (r : Int) (l : List Nat) : Fd × En × List Nat × Int := ltold (l.foldl lstep ⟨[], m, w, r⟩)
theorem lstep_f (t : Td) (c : Nat) (f0 : Fd) : lstep ⟨f0 ++ t.f, t.m, t.w, t.r⟩ c = ⟨f0 ++ (lstep t c).f, (lstep t c).m, (lstep t c).w, (lstep t c).r⟩ := by
  obtain ⟨f, m, w, r⟩ := t
  cases m <;> simp only [lstep] <;> (repeat' split) <;> simp_all [List.append_assoc]
theorem fold_f (l : List Nat) : ∀ (t : Td) (f0 : Fd), l.foldl lstep ⟨f0 ++ t.f, t.m, t.w, t.r⟩ = ⟨f0 ++ (l.foldl lstep t).f, (l.foldl lstep t).m, (l.foldl lstep t).w, (l.foldl lstep t).r⟩ := by
  induction l with
  | nil => intro t f0; rfl
  | cons c l ih => intro t f0; rw [List.foldl_cons, List.foldl_cons, lstep_f, ih]
theorem ltold_f (t : Td) (f0 : Fd) : ltold ⟨f0 ++ t.f, t.m, t.w, t.r⟩ = (f0 ++ (ltold t).1, (ltold t).2) := by
  obtain ⟨f, m, w, r⟩ := t
  cases m <;> simp [ltold]
theorem Tl_found (e : List Nat × Int × Int) (m : Md) (w : List Nat) (r : Int) (l : List Nat) : ltold (l.foldl lstep ⟨[e], m, w, r⟩) = (e :: (Tl m w r l).1, (Tl m w r l).2) := by
  have h := fold_f l ⟨[], m, w, r⟩ [e]
  simp only [List.append_nil] at h
  rw [h, ltold_f]
  rfl
theorem Tl_cons (m : Md) (w : List Nat) (r : Int) (c : Nat) (l : List Nat) : Tl m w r (c :: l) = ltold (l.foldl lstep (lstep ⟨[], m, w, r⟩ c)) := rfl
theorem Tl_other (w : List Nat) (r : Int) (l : List Nat) : Tl .other w r l = ([], .other, w, r) := by
  have : ∀ l : List Nat, l.foldl lstep ⟨[], .other, w, r⟩ = ⟨[], .other, w, r⟩ := by
    intro l
    induction l with
    | nil => rfl
    | cons c l ih => rw [List.foldl_cons]; exact ih
  unfold Tl; rw [this]; rfl
theorem Tl_same (w : List Nat) (r : Int) (l : List Nat) : Tl .same w r l = ([], .same, [], r) := by
  have : ∀ l : List Nat, l.foldl lstep ⟨[], .same, w, r⟩ = ⟨[], .same, w, r⟩ := by
    intro l
    induction l with
    | nil => rfl
    | cons c l ih => rw [List.foldl_cons]; exact ih
  unfold Tl; rw [this]; rfl
theorem isQ_contains (c : Nat) : [39, 34].contains c = isQ c := by
  unfold isQ
  rw [Bool.eq_iff_iff]
  simp only [List.contains_cons, List.contains_nil, Bool.or_false, Bool.or_eq_true, beq_iff_eq]
  exact Or.comm
theorem run_97 (c : Nat) (r : List Nat) (es : Nat) (q : Bool) (tok : List Nat) (ln : Int) : rn (c :: r) (some 97) es q tok ln = if wh1 c then (if (!tok.isEmpty || q) then .brk r (some 32) (nl c ln) tok q else rn r (some 32) es q tok (nl c ln)) else if isQ c then rn r (some c) es q tok (nl c ln) else if c == 92 then rn r (some 92) 97 q tok (nl c ln) else rn r (some 97) es q (tok ++ [c]) (nl c ln) := by
  have e1 : isQ 97 = false := rfl
  simp only [rn, run, stepC, isQ_contains, e1, nl, newTok]
  cases wh1 c <;> cases isQ c <;> cases h : (c == 92) <;> simp <;> (try split) <;> simp_all
theorem run_q {m : Nat} (hm : isQ m = true) (c : Nat) (r : List Nat) (es : Nat) (q : Bool) (tok : List Nat) (ln : Int) : rn (c :: r) (some m) es q tok ln = if c == m then rn r (some 97) es true tok (nl c ln) else if c == 92 && m == 34 then rn r (some 92) m true tok (nl c ln) else rn r (some m) es true (tok ++ [c]) (nl c ln) := by
  have e1 : (m == 32) = false := by
    unfold isQ at hm
    cases h : (m == 32) with
    | false => rfl
    | true => rw [beq_iff_eq] at h; subst h; cases hm
  simp only [rn, run, stepC, isQ_contains, hm, e1, nl, newTok]
  cases (c == m) <;> cases (c == 92 && m == 34) <;> simp
theorem run_92 (c : Nat) (r : List Nat) (es : Nat) (q : Bool) (tok : List Nat) (ln : Int) : rn (c :: r) (some 92) es q tok ln = rn r (some es) es q (tok ++ (if isQ es && c != 92 && c != es then [92, c] else [c])) (nl c ln) := by
  have e1 : isQ 92 = false := rfl
  simp only [rn, run, stepC, isQ_contains, e1, nl, newTok]
  simp
theorem run_32 (c : Nat) (r : List Nat) (es : Nat) (ln : Int) : rn (c :: r) (some 32) es false [] ln = if wh1 c then rn r (some 32) es false [] (nl c ln) else if c == 92 then rn r (some 92) 97 false [] (nl c ln) else if isQ c then rn r (some c) es false [] (nl c ln) else rn r (some 97) es false [c] (nl c ln) := by
  simp only [rn, run, stepC, isQ_contains, nl, newTok]
  cases wh1 c <;> cases isQ c <;> cases h : (c == 92) <;> simp
theorem run_nil_97 (es : Nat) (q : Bool) (tok : List Nat) (ln : Int) : rn [] (some 97) es q tok ln = .brk [] none ln tok q := by
  simp [rn, run, stepC, newTok]
theorem run_nil_q {m : Nat} (hm : isQ m = true) (es : Nat) (q : Bool) (tok : List Nat) (ln : Int) : rn [] (some m) es q tok ln = .bad := by
  simp only [rn, run, stepC, isQ_contains, hm]
  simp
theorem run_nil_92 (es : Nat) (q : Bool) (tok : List Nat) (ln : Int) : rn [] (some 92) es q tok ln = .bad := by
  simp [rn, run, stepC]
theorem run_nil_32 (es : Nat) (q : Bool) (tok : List Nat) (ln : Int) : rn [] (some 32) es q tok ln = .brk [] none ln tok q := by
  simp [rn, run, stepC, newTok]
theorem run_none (l : List Nat) (es : Nat) (q : Bool) (tok : List Nat) (ln : Int) : rn l none es q tok ln = .brk l.tail none (match l with | [] => ln | c :: _ => nl c ln) [] q := by
  cases l <;> simp [rn, run, stepC, newTok, nl]
noncomputable def loopE (stop : Nat → Bool) : List Nat → List Nat → Int → NO
  | [], tok, ln => .fin tok ln
  | d :: r, tok, ln => loopL stop r (tok ++ [d]) (nl d ln)
theorem loopL_eq (stop : Nat → Bool) (c : Nat) (r tok : List Nat) (ln : Int) : loopL stop (c :: r) tok ln = if stop c then .ret tok r (nl c ln) else if c == 92 then loopE stop r tok ln else loopL stop r (tok ++ [c]) (nl c ln) := by
  rw [loopL_cons]
  cases r <;> rfl
theorem nt_eq (c : Nat) (r : List Nat) (ln : Int) : nt (c :: r) ln = if wh1 c then nt r (nl c ln) else if c == 34 then loopL (· == 34) r [] (nl c ln) else if c == 92 then loopE wh1 r [] ln else loopL wh1 r [c] (nl c ln) := by
  rw [nt, ntok_cons]
  cases r <;> rfl
end Mine
end

section
set_option Elab.async false
namespace Mine
/-- the states in which a word of shlex is under way -/
noncomputable def InW (st es : Nat) (q : Bool) (tok : List Nat) : Prop := st = 97 ∧ (q = true ∨ tok ≠ []) ∨ isQ st = true ∨ st = 92 ∧ (es = 97 ∨ es = 34)
theorem ne_app {l : List Nat} {c : Nat} : l ++ [c] ≠ [] := by simp
theorem grow_run : ∀ (l : List Nat) {st es : Nat} {q : Bool} {tok : List Nat} {ln : Int}, InW st es q tok → rn l (some st) es q tok ln = .bad ∨ ∃ r' st' n' tok' q', rn l (some st) es q tok ln = .brk r' st' n' tok' q' ∧ tok <+: tok' := by
  intro l
  induction l with
  | nil =>
    intro st es q tok ln h
    rcases h with ⟨rfl, _⟩ | h | ⟨rfl, _⟩
    · exact .inr ⟨_, _, _, _, _, run_nil_97 .., List.prefix_rfl⟩
    · exact .inl (run_nil_q h ..)
    · exact .inl (run_nil_92 ..)
  | cons c r ih =>
    intro st es q tok ln h
    rcases h with ⟨rfl, hq⟩ | h | ⟨rfl, he⟩
    · rw [run_97]
      split
      · rw [if_pos]
        · exact .inr ⟨_, _, _, _, _, rfl, List.prefix_rfl⟩
        · rcases hq with h | h
          · simp [h]
          · cases tok <;> simp_all
      · split
        · rename_i hc
          exact ih (.inr (.inl hc))
        · split
          · exact ih (.inr (.inr ⟨rfl, .inl rfl⟩))
          · rcases ih (es := es) (q := q) (tok := tok ++ [c]) (ln := nl c ln) (.inl ⟨rfl, .inr ne_app⟩) with e | ⟨r', st', n', tok', q', e, p⟩
            · exact .inl e
            · exact .inr ⟨r', st', n', tok', q', e, (List.prefix_append _ _).trans p⟩
    · rw [run_q h]
      split
      · exact ih (.inl ⟨rfl, .inl rfl⟩)
      · split
        · rename_i hc
          rw [Bool.and_eq_true, beq_iff_eq, beq_iff_eq] at hc
          exact ih (.inr (.inr ⟨rfl, .inr hc.2⟩))
        · rcases ih (st := st) (es := es) (q := true) (tok := tok ++ [c]) (ln := nl c ln) (.inr (.inl h)) with e | ⟨r', st', n', tok', q', e, p⟩
          · exact .inl e
          · exact .inr ⟨r', st', n', tok', q', e, (List.prefix_append _ _).trans p⟩
    · rw [run_92]
      have hne : tok ++ (if (isQ es && c != 92 && c != es) = true then [92, c] else [c]) ≠ [] := by split <;> simp
      have hin : InW es es q (tok ++ (if (isQ es && c != 92 && c != es) = true then [92, c] else [c])) := by
        rcases he with rfl | rfl
        · exact .inl ⟨rfl, .inr hne⟩
        · exact .inr (.inl rfl)
      rcases ih (ln := nl c ln) hin with e | ⟨r', st', n', tok', q', e, p⟩
      · exact .inl e
      · exact .inr ⟨r', st', n', tok', q', e, (List.prefix_append _ _).trans p⟩
theorem grow_loop (stop : Nat → Bool) : ∀ l : List Nat, (∀ tok ln, ∃ tok' r n, Nd (loopL stop l tok ln) tok' r n ∧ tok <+: tok') ∧ (∀ tok ln, ∃ tok' r n, Nd (loopE stop l tok ln) tok' r n ∧ tok <+: tok') := by
  intro l
  induction l with
  | nil => exact ⟨fun tok ln => ⟨tok, [], ln, .inr ⟨by rw [loopL], rfl⟩, List.prefix_rfl⟩, fun tok ln => ⟨tok, [], ln, .inr ⟨rfl, rfl⟩, List.prefix_rfl⟩⟩
  | cons c r ih =>
    refine ⟨fun tok ln => ?_, fun tok ln => ?_⟩
    · rw [loopL_eq]
      split
      · exact ⟨tok, r, _, .inl rfl, List.prefix_rfl⟩
      · split
        · exact ih.2 tok ln
        · obtain ⟨tok', r', n, h, p⟩ := ih.1 (tok ++ [c]) (nl c ln)
          exact ⟨tok', r', n, h, (List.prefix_append _ _).trans p⟩
    · obtain ⟨tok', r', n, h, p⟩ := ih.1 (tok ++ [c]) (nl c ln)
      exact ⟨tok', r', n, h, (List.prefix_append _ _).trans p⟩
/-- two words that part at a place -/
noncomputable def Inc (u v : List Nat) : Prop := ∃ P a b u' v', u = P ++ a :: u' ∧ v = P ++ b :: v' ∧ a ≠ b
theorem Inc.ne {u v U V : List Nat} (h : Inc u v) (hu : u <+: U) (hv : v <+: V) : U ≠ V := by
  obtain ⟨P, a, b, u', v', rfl, rfl, hab⟩ := h
  obtain ⟨x, rfl⟩ := hu
  obtain ⟨y, rfl⟩ := hv
  intro e
  simp only [List.append_assoc, List.cons_append, List.append_cancel_left_eq, List.cons.injEq] at e
  exact hab e.1
theorem after_div {stop : Nat → Bool} {l u v w : List Nat} {N : NO} {ln ln' row : Int} {st es : Nat} {q : Bool} (hN : N = loopL stop l u ln ∨ N = loopE stop l u ln) (h : Inc u v) (hu : w <+: u) (hv : w <+: v) (hI : InW st es q v) : AfterO N (rn l (some st) es q v ln') .other w row := by
  have hg : ∃ tok' r n, Nd N tok' r n ∧ u <+: tok' := by
    rcases hN with rfl | rfl
    · exact (grow_loop stop l).1 u ln
    · exact (grow_loop stop l).2 u ln
  obtain ⟨tok, r, n, hn, hp⟩ := hg
  refine ⟨tok, r, n, hn, hu.trans hp, ?_⟩
  rcases grow_run l (ln := ln') hI with e | ⟨r', st', n', tok', q', e, p⟩
  · exact .inl e
  · exact .inr ⟨r', st', n', tok', q', e, hv.trans p, h.ne hp p⟩
noncomputable def Clean (Q : List Nat) : Prop := ∀ c ∈ Q, wh1 c = false ∧ c ≠ 92
theorem isQ_clean {c : Nat} (h : isQ c = true) : wh1 c = false ∧ c ≠ 92 := by
  unfold isQ at h
  rw [Bool.or_eq_true, beq_iff_eq, beq_iff_eq] at h
  rcases h with rfl | rfl <;> exact ⟨rfl, by decide⟩
theorem clean_app {Q : List Nat} {c : Nat} (h : Clean Q) (hc : wh1 c = false ∧ c ≠ 92) : Clean (Q ++ [c]) := by
  intro d hd
  rcases List.mem_append.mp hd with h1 | h1
  · exact h d h1
  · rw [List.mem_singleton.mp h1]; exact hc
theorem ne_or {q : Bool} {T : List Nat} (h : q = true ∨ T ≠ []) : (!T.isEmpty || q) = true := by
  rcases h with h | h
  · simp [h]
  · cases T <;> simp_all
theorem both_q (l : List Nat) : (∀ (T Q w : List Nat) (st es : Nat) (q : Bool) (ln ln' row : Int), (st = 97 ∧ (q = true ∨ T ≠ []) ∨ isQ st = true) → Q ≠ [] → Clean Q → w <+: T → AfterO (loopL wh1 l (T ++ Q) ln) (rn l (some st) es q T ln') .other w row) ∧
    (∀ (T Q w : List Nat) (es : Nat) (q : Bool) (ln ln' row : Int), (es = 97 ∨ es = 34) → Q ≠ [] → Clean Q → w <+: T → AfterO (loopE wh1 l (T ++ Q) ln) (rn l (some 92) es q T ln') .other w row) := by
  induction l with
  | nil =>
    refine ⟨fun T Q w st es q ln ln' row hs hq hc hw => ?_, fun T Q w es q ln ln' row he hq hc hw => ?_⟩
    · refine ⟨T ++ Q, [], ln, .inr ⟨by rw [loopL], rfl⟩, hw.trans (List.prefix_append _ _), ?_⟩
      rcases hs with ⟨rfl, _⟩ | h
      · exact .inr ⟨_, _, _, _, _, run_nil_97 .., hw, by simpa using hq⟩
      · exact .inl (run_nil_q h ..)
    · exact ⟨T ++ Q, [], ln, .inr ⟨rfl, rfl⟩, hw.trans (List.prefix_append _ _), .inl (run_nil_92 ..)⟩
  | cons c r ih =>
    have ord : ∀ (T Q w : List Nat) (st es : Nat) (q : Bool) (ln ln' row : Int), (st = 97 ∨ isQ st = true) → Q ≠ [] → Clean Q → w <+: T → AfterO (loopL wh1 r (T ++ Q ++ [c]) ln) (rn r (some st) es q (T ++ [c]) ln') .other w row := by
      intro T Q w st es q ln ln' row hs hq hcl hw
      obtain ⟨a, Q', rfl⟩ := List.exists_cons_of_ne_nil hq
      have hs' : st = 97 ∧ (q = true ∨ T ++ [c] ≠ []) ∨ isQ st = true := hs.imp (fun h => ⟨h, .inr ne_app⟩) id
      by_cases hac : a = c
      · subst hac
        have := ih.1 (T ++ [a]) (Q' ++ [a]) w st es q ln ln' row hs' ne_app (clean_app (fun d hd => hcl d (.tail _ hd)) (hcl a (.head _))) (hw.trans (List.prefix_append _ _))
        simpa [List.append_assoc] using this
      · exact after_div (stop := wh1) (.inl rfl) ⟨T, a, c, Q' ++ [c], [], by simp, rfl, hac⟩ ((hw.trans (List.prefix_append _ _)).trans (List.prefix_append _ _)) (hw.trans (List.prefix_append _ _)) (hs.elim (fun h => .inl ⟨h, .inr ne_app⟩) fun h => .inr (.inl h))
    refine ⟨fun T Q w st es q ln ln' row hs hq hcl hw => ?_, fun T Q w es q ln ln' row he hq hcl hw => ?_⟩
    · rw [loopL_eq]
      obtain ⟨a, Q', hQ⟩ := List.exists_cons_of_ne_nil hq
      by_cases hwh : wh1 c = true
      · rw [if_pos hwh]
        refine ⟨T ++ Q, r, _, .inl rfl, hw.trans (List.prefix_append _ _), ?_⟩
        rcases hs with ⟨rfl, hqt⟩ | h
        · rw [run_97, if_pos hwh, if_pos (ne_or hqt)]
          exact .inr ⟨_, _, _, _, _, rfl, hw, by simpa using hq⟩
        · have hcs : (c == st) = false := by
            cases e : (c == st) with
            | false => rfl
            | true => rw [beq_iff_eq] at e; subst e; rw [(isQ_clean h).1] at hwh; cases hwh
          have hc92 : (c == 92) = false := by
            cases e : (c == 92) with
            | false => rfl
            | true => rw [beq_iff_eq] at e; subst e; cases hwh
          rw [run_q h, if_neg (by rw [hcs]; decide), if_neg (by rw [hc92]; simp)]
          rcases grow_run r (st := st) (es := es) (q := true) (tok := T ++ [c]) (ln := nl c ln') (.inr (.inl h)) with e | ⟨r', st', n', tok', q', e, p⟩
          · exact .inl e
          · refine .inr ⟨r', st', n', tok', q', e, (hw.trans (List.prefix_append _ _)).trans p, ?_⟩
            have hac : a ≠ c := fun e => by
              have := (hcl a (by rw [hQ]; exact .head _)).1
              rw [e, hwh] at this; cases this
            exact Inc.ne ⟨T, a, c, Q', [], by rw [hQ], rfl, hac⟩ List.prefix_rfl p
      · rw [if_neg hwh]
        by_cases hc92 : c = 92
        · rw [if_pos (by simpa using hc92)]
          rcases hs with ⟨rfl, hqt⟩ | h
          · rw [run_97, if_neg hwh, if_neg (by rw [hc92]; decide), if_pos (by simpa using hc92)]
            exact ih.2 T Q w 97 q ln _ row (.inl rfl) hq hcl hw
          · have hcs : (c == st) = false := by
              cases e : (c == st) with
              | false => rfl
              | true => rw [beq_iff_eq] at e; subst e; exact absurd hc92 (isQ_clean h).2
            rw [run_q h, if_neg (by rw [hcs]; decide)]
            by_cases hst : st = 34
            · rw [if_pos (by simp [hc92, hst]), hst]
              exact ih.2 T Q w 34 true ln _ row (.inr rfl) hq hcl hw
            · rw [if_neg (by simp [hst])]
              have hac : a ≠ c := fun e => (hcl a (by rw [hQ]; exact .head _)).2 (e.trans hc92)
              exact after_div (stop := wh1) (.inr rfl) ⟨T, a, c, Q', [], by rw [hQ], rfl, hac⟩ (hw.trans (List.prefix_append _ _)) (hw.trans (List.prefix_append _ _)) (.inr (.inl h))
        · rw [if_neg (by simpa using hc92)]
          rcases hs with ⟨rfl, hqt⟩ | h
          · rw [run_97, if_neg hwh]
            by_cases hcq : isQ c = true
            · rw [if_pos hcq]
              have := ih.1 T (Q ++ [c]) w c es q (nl c ln) (nl c ln') row (.inr hcq) ne_app (clean_app hcl (isQ_clean hcq)) hw
              simpa [List.append_assoc] using this
            · rw [if_neg hcq, if_neg (by simpa using hc92)]
              exact ord T Q w 97 es q _ _ row (.inl rfl) hq hcl hw
          · rw [run_q h]
            by_cases hcs : c = st
            · rw [if_pos (by simpa using hcs)]
              have := ih.1 T (Q ++ [c]) w 97 es true (nl c ln) (nl c ln') row (.inl ⟨rfl, .inl rfl⟩) ne_app (clean_app hcl (isQ_clean (hcs ▸ h))) hw
              simpa [List.append_assoc] using this
            · rw [if_neg (by simpa using hcs), if_neg (by simp [hc92])]
              exact ord T Q w st es true _ _ row (.inr h) hq hcl hw
    · rw [run_92]
      show AfterO (loopL wh1 r (T ++ Q ++ [c]) (nl c ln)) _ _ _ _
      obtain ⟨a, Q', hQ⟩ := List.exists_cons_of_ne_nil hq
      rcases he with rfl | rfl
      · rw [if_neg (by simp [isQ])]
        exact ord T Q w 97 97 q _ _ row (.inl rfl) hq hcl hw
      · by_cases hX : (isQ 34 && c != 92 && c != 34) = true
        · rw [if_pos hX]
          have hac : a ≠ 92 := (hcl a (by rw [hQ]; exact .head _)).2
          exact after_div (stop := wh1) (.inl rfl) ⟨T, a, 92, Q' ++ [c], [c], by rw [hQ]; simp, rfl, hac⟩ ((hw.trans (List.prefix_append _ _)).trans (List.prefix_append _ _)) (hw.trans (List.prefix_append _ _)) (.inr (.inl rfl))
        · rw [if_neg hX]
          exact ord T Q w 34 34 q _ _ row (.inr rfl) hq hcl hw
end Mine
end

section
set_option Elab.async false
namespace Mine
theorem nl_ne {c : Nat} {r : Int} (h : c ≠ 10) : nl c r = r := by
  unfold nl; rw [if_neg (by simpa using h)]
theorem isQ_nl {c : Nat} {r : Int} (h : isQ c = true) : nl c r = r := by
  apply nl_ne
  rintro rfl
  cases h
theorem after_long {N : NO} {w v r0 l : List Nat} {n ln row : Int} {st es : Nat} {q : Bool} (hN : N = .ret w r0 n) (hI : InW st es q v) (hp : w <+: v) (hl : w.length < v.length) : AfterO N (rn l (some st) es q v ln) .other w row := by
  refine ⟨w, r0, n, .inl hN, List.prefix_rfl, ?_⟩
  rcases grow_run l (ln := ln) hI with e | ⟨r', st', n', tok', q', e, p⟩
  · exact .inl e
  · refine .inr ⟨r', st', n', tok', q', e, hp.trans p, fun h => ?_⟩
    have := p.length_le
    rw [← h] at this
    omega
theorem after_long92 {N : NO} {w r0 : List Nat} (l : List Nat) {n ln row : Int} {es : Nat} {q : Bool} (hN : N = .ret w r0 n) (he : es = 97 ∨ es = 34) : AfterO N (rn l (some 92) es q w ln) .other w row := by
  cases l with
  | nil => exact ⟨w, r0, n, .inl hN, List.prefix_rfl, .inl (run_nil_92 ..)⟩
  | cons d l =>
    rw [run_92]
    have hne : 0 < (if (isQ es && d != 92 && d != es) = true then [92, d] else [d]).length := by split <;> simp
    refine after_long hN ?_ (List.prefix_append _ _) (by rw [List.length_append]; omega)
    rcases he with rfl | rfl
    · exact .inl ⟨rfl, .inr (by intro h; have := congrArg List.length h; rw [List.length_append, List.length_nil] at this; omega)⟩
    · exact .inr (.inl rfl)
structure PP (l : List Nat) : Prop where
  bt : ∀ r, AskedO (Tl .between [] r l).1 (nt l r) (rn l (some 32) 32 false [] r) (Tl .between [] r l).2
  pl : ∀ w r es, w ≠ [] → AskedO (Tl .plain w r l).1 (loopL wh1 l w r) (rn l (some 97) es false w r) (Tl .plain w r l).2
  pe : ∀ w r, AskedO (Tl .pesc w r l).1 (loopE wh1 l w r) (rn l (some 92) 97 false w r) (Tl .pesc w r l).2
  qt : ∀ w r es q, AskedO (Tl .quoted w r l).1 (loopL (· == 34) l w r) (rn l (some 34) es q w r) (Tl .quoted w r l).2
  qe : ∀ w r, AskedO (Tl .qesc w r l).1 (loopE (· == 34) l w r) (rn l (some 92) 34 true w r) (Tl .qesc w r l).2
  cl : ∀ w r es, AskedO (Tl .closed w r l).1 (.ret w l r) (rn l (some 97) es true w r) (Tl .closed w r l).2
  al : ∀ w r r0 es, AskedO (Tl .alike w r l).1 (.ret w r0 r) (rn l (some 97) es true w r) (Tl .alike w r l).2
  qm : ∀ w r r0 m es q, isQ m = true → AskedO (Tl (.q m) w r l).1 (.ret w r0 r) (rn l (some m) es q w r) (Tl (.q m) w r l).2
theorem end_none (r : Int) : AskedO [] (nt [] r) (rn [] none 32 false [] r) (.fin, [], r) :=
  ⟨⟨[], .inr ⟨rfl, rfl⟩⟩, [], none, run_none ..⟩
theorem pp_nil : PP [] where
  bt r := ⟨⟨[], .inr ⟨rfl, rfl⟩⟩, [], none, run_nil_32 ..⟩
  pl w r es h := ⟨[], .inr ⟨by rw [loopL]; rfl, rfl⟩, [], none, false, run_nil_97 .., by cases w <;> simp_all, end_none r⟩
  pe w r := ⟨w, [], r, .inr ⟨rfl, rfl⟩, List.prefix_rfl, .inl (run_nil_92 ..)⟩
  qt w r es q := ⟨w, [], r, .inr ⟨by rw [loopL], rfl⟩, List.prefix_rfl, .inl (run_nil_q rfl ..)⟩
  qe w r := ⟨w, [], r, .inr ⟨rfl, rfl⟩, List.prefix_rfl, .inl (run_nil_92 ..)⟩
  cl w r es := ⟨[], .inl rfl, [], none, true, run_nil_97 .., rfl, end_none r⟩
  al w r r0 es := ⟨r0, .inl rfl, [], none, true, run_nil_97 .., rfl, trivial⟩
  qm w r r0 m es q h := ⟨w, r0, r, .inl rfl, List.prefix_rfl, .inl (run_nil_q h ..)⟩
theorem isQ_false {c : Nat} (h1 : ¬ (c == 34) = true) (h2 : ¬ (c == 39) = true) : ¬ isQ c = true := by
  unfold isQ
  rw [Bool.or_eq_true]
  exact fun h => h.elim h1 h2
theorem pp_cons (c : Nat) (l : List Nat) (ih : PP l) : PP (c :: l) where
  bt r := by
    rw [nt_eq, run_32, Tl_cons]
    simp only [lstep]
    split
    · exact ih.bt _
    · split
      · rename_i hc
        rw [beq_iff_eq] at hc
        subst hc
        exact ih.qt [] _ 32 false
      · split
        · rename_i hc
          rw [beq_iff_eq] at hc
          subst hc
          exact ih.pe [] r
        · split
          · rename_i hc
            rw [beq_iff_eq] at hc
            subst hc
            show AskedO (Tl .other [] _ l).1 _ _ (Tl .other [] _ l).2
            rw [Tl_other]
            exact (both_q l).1 [] [39] [] 39 32 false _ _ _ (.inr rfl) (by simp) (fun d hd => by rw [List.mem_singleton.mp hd]; exact ⟨rfl, by decide⟩) List.prefix_rfl
          · rename_i h1 _ h2
            rw [if_neg (isQ_false h1 h2)]
            exact ih.pl [c] _ 32 (by simp)
  pl w r es hw := by
    rw [loopL_eq, run_97, Tl_cons]
    simp only [lstep]
    split
    · rw [if_pos (by cases w <;> simp_all)]
      show AskedO (ltold (l.foldl lstep ⟨[(w, nl c r, nl c r)], .between, [], nl c r⟩)).1 _ _ (ltold (l.foldl lstep ⟨[(w, nl c r, nl c r)], .between, [], nl c r⟩)).2
      rw [Tl_found]
      exact ⟨l, .inl rfl, l, some 32, false, rfl, by cases w <;> simp_all, ih.bt _⟩
    · split
      · rename_i hc
        rw [beq_iff_eq] at hc
        subst hc
        rw [if_neg (by decide)]
        exact ih.pe w r
      · split
        · rename_i hq
          show AskedO (Tl .other w _ l).1 _ _ (Tl .other w _ l).2
          rw [Tl_other]
          exact (both_q l).1 w [c] w c es false _ _ _ (.inr hq) (by simp) (fun d hd => by rw [List.mem_singleton.mp hd]; exact isQ_clean hq) List.prefix_rfl
        · exact ih.pl (w ++ [c]) _ es (by simp)
  pe w r := by
    rw [run_92, Tl_cons, if_neg (by simp [isQ])]
    exact ih.pl (w ++ [c]) _ 97 (by simp)
  qt w r es q := by
    rw [loopL_eq, run_q rfl, Tl_cons]
    simp only [lstep]
    split
    · rename_i hc
      rw [beq_iff_eq] at hc
      subst hc
      exact ih.cl w r es
    · split
      · rename_i hc
        rw [beq_iff_eq] at hc
        subst hc
        exact ih.qe w r
      · rename_i hc
        rw [if_neg (by simpa using hc)]
        exact ih.qt (w ++ [c]) _ es true
  qe w r := by
    rw [run_92, Tl_cons]
    simp only [lstep]
    show AskedO _ (loopL (· == 34) l (w ++ [c]) (nl c r)) _ _
    split
    · rename_i hc
      rw [if_neg (by rw [Bool.or_eq_true, beq_iff_eq, beq_iff_eq] at hc; rcases hc with rfl | rfl <;> simp)]
      exact ih.qt (w ++ [c]) _ 34 true
    · rename_i hc
      rw [Bool.or_eq_true, beq_iff_eq, beq_iff_eq, not_or] at hc
      rw [if_pos (by simp [isQ, hc.1, hc.2])]
      show AskedO (Tl .other w _ l).1 _ _ (Tl .other w _ l).2
      rw [Tl_other]
      exact after_div (stop := (· == 34)) (.inl rfl) ⟨w, c, 92, [], [c], rfl, rfl, hc.2⟩ (List.prefix_append _ _) (List.prefix_append _ _) (.inr (.inl rfl))
  cl w r es := by
    rw [run_97, Tl_cons]
    simp only [lstep]
    split
    · rename_i hwh
      rw [if_pos (by simp)]
      show AskedO (ltold (l.foldl lstep ⟨[(w, r, nl c r)], .between, [], nl c r⟩)).1 _ _ (ltold (l.foldl lstep ⟨[(w, r, nl c r)], .between, [], nl c r⟩)).2
      rw [Tl_found]
      refine ⟨c :: l, .inl rfl, l, some 32, true, rfl, rfl, ?_⟩
      rw [nt_eq, if_pos hwh]
      exact ih.bt _
    · split
      · rename_i hq
        rw [isQ_nl hq]
        exact ih.qm w r (c :: l) c es true hq
      · show AskedO (Tl .other w _ l).1 _ _ (Tl .other w _ l).2
        rw [Tl_other]
        split
        · exact after_long92 l rfl (.inl rfl)
        · exact after_long rfl (.inl ⟨rfl, .inl rfl⟩) (List.prefix_append _ _) (by simp)
  al w r r0 es := by
    rw [run_97, Tl_cons]
    simp only [lstep]
    split
    · rw [if_pos (by simp)]
      show AskedO (ltold (l.foldl lstep ⟨[(w, r, nl c r)], .same, [], nl c r⟩)).1 _ _ (ltold (l.foldl lstep ⟨[(w, r, nl c r)], .same, [], nl c r⟩)).2
      rw [Tl_found, Tl_same]
      exact ⟨r0, .inl rfl, l, some 32, true, rfl, rfl, trivial⟩
    · split
      · rename_i hq
        rw [isQ_nl hq]
        exact ih.qm w r r0 c es true hq
      · show AskedO (Tl .other w _ l).1 _ _ (Tl .other w _ l).2
        rw [Tl_other]
        split
        · exact after_long92 l rfl (.inl rfl)
        · exact after_long rfl (.inl ⟨rfl, .inl rfl⟩) (List.prefix_append _ _) (by simp)
  qm w r r0 m es q hm := by
    rw [run_q hm, Tl_cons]
    simp only [lstep]
    split
    · rename_i hc
      rw [beq_iff_eq] at hc
      subst hc
      rw [isQ_nl hm]
      exact ih.al w r r0 es
    · show AskedO (Tl .other w _ l).1 _ _ (Tl .other w _ l).2
      rw [Tl_other]
      split
      · rename_i hc
        rw [Bool.and_eq_true, beq_iff_eq, beq_iff_eq] at hc
        rw [hc.2]
        exact after_long92 l rfl (.inr rfl)
      · exact after_long rfl (.inr (.inl hm)) (List.prefix_append _ _) (by simp)
theorem pp_all : ∀ l, PP l
  | [] => pp_nil
  | c :: l => pp_cons c l (pp_all l)
/-- the law, with no program in sight -/
theorem law_plain (text : List Nat) : AskedO (Tl .between [] 1 text).1 (nt text 1) (rn text (some 32) 32 false [] 1) (Tl .between [] 1 text).2 := (pp_all text).bt 1
end Mine
end

section
open PySem PySem.W PyProof.Rows PySem.Calls
set_option Elab.async false
set_option maxRecDepth 100000
set_option maxHeartbeats 8000000
namespace Mine
noncomputable abbrev tupO (vs : List Value) : Obj := { cls := .type "tuple", data := .seq vs.toArray }
noncomputable def mS : Md → Str
  | .between => Str.ofString "between"
  | .plain => Str.ofString "plain"
  | .pesc => Str.ofString "plain escape"
  | .quoted => Str.ofString "quoted"
  | .qesc => Str.ofString "quoted escape"
  | .closed => Str.ofString "closed"
  | .alike => Str.ofString "alike"
  | .same => Str.ofString "same"
  | .other => Str.ofString "other"
  | .q m => ofL [m]
section
variable {prog : Program} {w : World} {A : Around} {E : Value → Shared → Prop} {s : Shared} {Q : Value → Shared → Prop} {t u : Tok} {c : Nat}
theorem eq_sg {z : Str} (k : Nat) (hz : sL z = [k]) (h : Q (.bool (c == k)) s) : wpAny (model prog w) A (compareOp .Eq (.str (sg c) t) (.str z u)) Q E s := by
  refine PyProof.Rows.eq_str ?_
  have e : (sg c == z) = (c == k) := by
    rw [← toList_beq]
    show ([c] == sL z) = _
    rw [hz]
    simp
  rw [e]; exact h
theorem ws_wh (c : Nat) : has wnS (sg c) = wh1 c := by
  rw [has_one]
  show ([10, 9, 13, 32] : List Nat).contains c = _
  unfold wh1
  simp only [List.contains_cons, List.contains_nil, Bool.or_false]
  cases (c == 10) <;> cases (c == 9) <;> cases (c == 13) <;> cases (c == 32) <;> rfl
theorem in_ws (h : Q (.bool (wh1 c)) s) : wpAny (model prog w) A (compareOp .In (.str (sg c) u) (.str wnS t)) Q E s := by
  refine in_has ?_
  rw [ws_wh]; exact h
theorem ite_twoB {b : Bool} {P Q : Prop} (h1 : b = true → P) (h2 : b = false → Q) : if b = true then P else Q := by cases b with | true => exact h1 rfl | false => exact h2 rfl
theorem ite_trB {b : Bool} {P Q : Prop} (h : b = true) (p : P) : if b = true then P else Q := by rw [if_pos h]; exact p
theorem ite_faB {b : Bool} {P Q : Prop} (h : b = false) (p : Q) : if b = true then P else Q := by rw [if_neg (by rw [h]; exact Bool.false_ne_true)]; exact p
end
theorem add_ofL {prog : Program} {w : World} {A : Around} {E : Value → Shared → Prop} {s : Shared} {Q : Value → Shared → Prop} {t u : Tok} {c : Nat} {x : List Nat} (hx : x.length ≤ 1000) (h : ∀ t' tk, Q (.str (ofL (x ++ [c])) t') { s with toks := tk }) : wpAny (model prog w) A (binaryOp .Add (.str (ofL x) t) (.str (sg c) u)) Q E s := by
  refine PyProof.Rows.add_str (fun t' tk => ?_) (by rw [len_ofL, sizeLine_eq]; show x.length + 1 ≤ _; omega)
  rw [show sg c = ofL [c] from rfl, app_ofL]
  exact h t' tk
theorem sub2 {g h : Heap} {L : List (Addr × Obj)} {a b : Addr × Obj} (S : Sub g h L) (ha : a ∈ L) (hb : b ∈ L) : Sub g h [a, b] := fun p hp => S p (by
  simp only [List.mem_cons, List.not_mem_nil, or_false] at hp
  rcases hp with z | z <;> rw [z] <;> assumption)
theorem sub3 {g h : Heap} {L : List (Addr × Obj)} {a b c : Addr × Obj} (S : Sub g h L) (ha : a ∈ L) (hb : b ∈ L) (hc : c ∈ L) : Sub g h [a, b, c] := fun p hp => S p (by
  simp only [List.mem_cons, List.not_mem_nil, or_false] at hp
  rcases hp with z | z | z <;> rw [z] <;> assumption)
/-- a step of the law's reader has ended -/
structure StepR (g : Heap) (s : Shared) (fl : Addr) (items : List Value) (T : Td) (R : Result → Shared → Prop) : Prop where
  one : ∀ a h' tk t1 t2 t3, T.f = [] → Ke g h' → Sub g h' [(a, tupO [.ref fl, .str (mS T.m) t1, .str (ofL T.w) t2, .int T.r t3]), (fl, listOf items.toArray 0)] → @Ne Nat a fl → R (.ok (.ret (.ref a))) { s with heap := h', toks := tk }
  two : ∀ a f' x h' tk t1 t2 t3 u1 u2 u3 k b d, T.f = [(k, b, d)] → Ke g h' → Sub g h' [(a, tupO [.ref f', .str (mS T.m) t1, .str (ofL T.w) t2, .int T.r t3]), (f', listOf (items ++ [Value.ref x]).toArray 0), (x, tupO [.str (ofL k) u1, .int b u2, .int d u3])] → @Ne Nat a f' → @Ne Nat a x → @Ne Nat f' x → R (.ok (.ret (.ref a))) { s with heap := h', toks := tk }


theorem st_plain (w : World) {s : Shared} {A : Around} {base g : Heap} {fr : List Env} {mg mb : Str → Option Value} {mean : ExcName → Option Value} {a fl : Addr} {c t tm tw tr : Nat} {word : List Nat} {row : Int} {items : List Value} {R : Result → Shared → Prop} 
    (G : Gd w A base fr mean mg mb g) (hroom : A.depth + 4 < recursionLimit) (hh : A.handled = none) (k : Ke g s.heap)
    (S : Sub g s.heap [(a, tupO [.ref fl, .str (Str.ofString "plain") tm, .str (ofL word) tw, .int row tr]), (fl, listOf items.toArray 0)]) (hne : a ≠ fl) (hw : word.length ≤ 1000) (hi : items.length ≤ 1000)
    (hR : StepR g s fl items (lstep ⟨[], .plain, word, row⟩ c) R) :
    codeAny (model PySem.Challenge.rw_om0137_01.row.prog w) A (.call (.ref 791) ⟨[.ref a, .str (sg c) t], []⟩) R s := by
  replace hne := neN hne
  have hwl : (ofL word).length = word.length := len_ofL word
  have hcl : (sg c).length = 1 := rfl
  have X := G.X
  have hA := G.B.stack
  revert X
  k_fill
  intro X
  refine' enterG G S k ?k6 ?k7 ?k8 ?k9 ?kB ?_ ?c2 ?c3 ?c4 ?c5
  case k6 => k_is
  case k7 => k_is
  case k8 => omega
  case k9 => first | exact BindsTo.of_eq rfl | exact binds_K (Frag.In.keeps X k.keep) rfl (by k_is) rfl rfl rfl
  case kB => exact rfl
  case c2 => decide
  case c3 => exact rfl
  case c4 => exact rfl
  case c5 => exact rfl
  intro L' h₁ F' N' hlt
  have B' := G.B
  have T' := G.T
  clear G S
  k_lt hlt
  refine wpAny_gen fun Q0 E0 hQ0 hE0 => ?_
  clear hE0
  (w_on; repeat' (first | ((with_reducible show wpAny _ _ (execs (_ :: _) _) _ _ (Shared.mk _ _ _ (HAdd.hAdd _ _) _)); refine tok_norm s ?_; intro tkn) | (k_unfold; (try dsimp only)) | ((with_reducible show wpAny _ _ (binaryOp _ (Value.str _ _) (Value.str _ _)) _ _ _); (refine add_ofL (by assumption) ?_; intro t' tk')) | ((k_here; (with_reducible show wpAny _ _ (binaryOp _ (Value.ref _) (Value.ref _)) _ _ _); k_dflt (refine' kmk_add_lit ?F ?N ?a ?b ?e ?_ ?z; (case F => k_asm); (case N => k_asm); (case a => kmk_list); (case b => kmk_list); (case e => exact rfl); (case z => (simp only [sizeLine_eq, List.length_cons, List.length_nil, List.length_append]; omega))); intro D' h' F' N' l1; (try k_lt l1); (try k_sweep))) | ((with_reducible show ite _ _ _); (first | (refine ite_pos (by decide) ?_) | (refine ite_neg (by decide) ?_) | (refine ite_trB (by with_reducible assumption) ?_) | (refine ite_faB (by with_reducible assumption) ?_) | (refine ite_twoB ?_ ?_ <;> (intro hb')))) | (((with_reducible show wpAny _ _ (compareOp CmpOp.Eq (Value.str (sg _) _) (Value.str (Str.ofString _) _)) _ _ _); first | refine eq_sg 10 rfl ?_ | refine eq_sg 34 rfl ?_ | refine eq_sg 39 rfl ?_ | refine eq_sg 92 rfl ?_)) | ((with_reducible show wpAny _ _ (compareOp CmpOp.In (Value.str _ _) (Value.str _ _)) _ _ _); refine in_ws ?_) | ((k_here; (with_reducible show wpAny _ _ (assign (Expr.Tuple _ _ _) _ (Value.ref _)) _ _ _); k_dflt (refine' unpackN_ ?k1 ?k2 ?k3 ?k4 ?k5 ?k6 ?_; (case k1 => k_asm); (case k2 => k_asm); (case k3 => kun_tup); (case k4 => assumption); (case k5 => exact rfl); (case k6 => exact rfl); k_whole); intro h' F' N'; (try k_sweep))) | ((with_reducible show wpAny _ _ (call (Value.ref _) _ _) _ _ _); k_here; k_dflt (refine wpAny_call ?_; (refine' code_def ?k1 ?k2 ?k3 ?k4 ?k5 ?kA ?kF ?kK ?k6 ?k7 ?k8 ?k9 ?kB ?_ ?c2 ?c3 ?c4 ?c5; (case kA => first | exact Around.frames_deeper (by assumption) | exact Around.frames_deeper (Around.frames_deeper (by assumption)) | exact Around.frames_deeper (Around.frames_deeper (Around.frames_deeper (by assumption)))); (case kF => exact rfl); (case kK => exact rfl); (case k1 => k_asm); (case k2 => k_asm); (case k3 => k_asm); (case k4 => k_asm); (case k5 => k_asm); (case k6 => k_is); (case k7 => k_is); (case k8 => ((simp only [depth_under_make, depth_under_kw, depth_in1, depth_deeper]); (simp only [recursionLimit] at *); omega)); (case k9 => first | exact BindsTo.of_eq rfl | exact binds_K (by k_in) rfl (by k_is) rfl rfl rfl); (case c5 => decide); (case kB => exact locs rfl); (case c2 => exact rfl); (case c3 => exact rfl); (case c4 => exact rfl); k_whole; intro g' L' h' FG' F' N' B' X' T'; (try dsimp only); (try k_lift B'); (try k_fold)))) | walk1 | (dsimp only; (first | ((with_reducible show wpAny _ _ (binaryOp _ (Value.str _ _) (Value.str _ _)) _ _ _); (refine add_ofL (by assumption) ?_; intro t' tk')) | ((k_here; (with_reducible show wpAny _ _ (binaryOp _ (Value.ref _) (Value.ref _)) _ _ _); k_dflt (refine' kmk_add_lit ?F ?N ?a ?b ?e ?_ ?z; (case F => k_asm); (case N => k_asm); (case a => kmk_list); (case b => kmk_list); (case e => exact rfl); (case z => (simp only [sizeLine_eq, List.length_cons, List.length_nil, List.length_append]; omega))); intro D' h' F' N' l1; (try k_lt l1); (try k_sweep))) | ((with_reducible show ite _ _ _); (first | (refine ite_pos (by decide) ?_) | (refine ite_neg (by decide) ?_) | (refine ite_trB (by with_reducible assumption) ?_) | (refine ite_faB (by with_reducible assumption) ?_) | (refine ite_twoB ?_ ?_ <;> (intro hb')))) | (((with_reducible show wpAny _ _ (compareOp CmpOp.Eq (Value.str (sg _) _) (Value.str (Str.ofString _) _)) _ _ _); first | refine eq_sg 10 rfl ?_ | refine eq_sg 34 rfl ?_ | refine eq_sg 39 rfl ?_ | refine eq_sg 92 rfl ?_)) | ((with_reducible show wpAny _ _ (compareOp CmpOp.In (Value.str _ _) (Value.str _ _)) _ _ _); refine in_ws ?_) | ((k_here; (with_reducible show wpAny _ _ (assign (Expr.Tuple _ _ _) _ (Value.ref _)) _ _ _); k_dflt (refine' unpackN_ ?k1 ?k2 ?k3 ?k4 ?k5 ?k6 ?_; (case k1 => k_asm); (case k2 => k_asm); (case k3 => kun_tup); (case k4 => assumption); (case k5 => exact rfl); (case k6 => exact rfl); k_whole); intro h' F' N'; (try k_sweep))) | ((with_reducible show wpAny _ _ (call (Value.ref _) _ _) _ _ _); k_here; k_dflt (refine wpAny_call ?_; (refine' code_def ?k1 ?k2 ?k3 ?k4 ?k5 ?kA ?kF ?kK ?k6 ?k7 ?k8 ?k9 ?kB ?_ ?c2 ?c3 ?c4 ?c5; (case kA => first | exact Around.frames_deeper (by assumption) | exact Around.frames_deeper (Around.frames_deeper (by assumption)) | exact Around.frames_deeper (Around.frames_deeper (Around.frames_deeper (by assumption)))); (case kF => exact rfl); (case kK => exact rfl); (case k1 => k_asm); (case k2 => k_asm); (case k3 => k_asm); (case k4 => k_asm); (case k5 => k_asm); (case k6 => k_is); (case k7 => k_is); (case k8 => ((simp only [depth_under_make, depth_under_kw, depth_in1, depth_deeper]); (simp only [recursionLimit] at *); omega)); (case k9 => first | exact BindsTo.of_eq rfl | exact binds_K (by k_in) rfl (by k_is) rfl rfl rfl); (case c5 => decide); (case kB => exact locs rfl); (case c2 => exact rfl); (case c3 => exact rfl); (case c4 => exact rfl); k_whole; intro g' L' h' FG' F' N' B' X' T'; (try dsimp only); (try k_lift B'); (try k_fold)))) | walk1))))
  all_goals (subst hQ0)
  all_goals (try dsimp only)
  all_goals (simp [lstep, nl, isQ, *] at hR; (rename News _ _ _ _ => hN1); (have hS1 := Sub.of_news hN1); (first | exact hR.one _ _ _ _ _ _ rfl (Ke.of_fr (by assumption)) (sub2 hS1 (.head _) (by first | exact .head _ | exact .tail _ (.head _) | exact .tail _ (.tail _ (.head _)) | exact .tail _ (.tail _ (.tail _ (.head _))) | exact .tail _ (.tail _ (.tail _ (.tail _ (.head _)))) | exact .tail _ (.tail _ (.tail _ (.tail _ (.tail _ (.head _))))))) (by omega) | exact hR.two _ _ _ _ _ _ _ _ _ _ _ _ _ _ rfl (Ke.of_fr (by assumption)) (sub3 hS1 (.head _) (.tail _ (.head _)) (by first | exact .head _ | exact .tail _ (.head _) | exact .tail _ (.tail _ (.head _)) | exact .tail _ (.tail _ (.tail _ (.head _))) | exact .tail _ (.tail _ (.tail _ (.tail _ (.head _)))) | exact .tail _ (.tail _ (.tail _ (.tail _ (.tail _ (.head _))))))) (by omega) (by omega) (by omega)))

theorem st_between (w : World) {s : Shared} {A : Around} {base g : Heap} {fr : List Env} {mg mb : Str → Option Value} {mean : ExcName → Option Value} {a fl : Addr} {c t tm tw tr : Nat} {word : List Nat} {row : Int} {items : List Value} {R : Result → Shared → Prop} 
    (G : Gd w A base fr mean mg mb g) (hroom : A.depth + 4 < recursionLimit) (hh : A.handled = none) (k : Ke g s.heap)
    (S : Sub g s.heap [(a, tupO [.ref fl, .str (Str.ofString "between") tm, .str (ofL word) tw, .int row tr]), (fl, listOf items.toArray 0)]) (hne : a ≠ fl) (hw : word.length ≤ 1000) (hi : items.length ≤ 1000)
    (hR : StepR g s fl items (lstep ⟨[], .between, word, row⟩ c) R) :
    codeAny (model PySem.Challenge.rw_om0137_01.row.prog w) A (.call (.ref 791) ⟨[.ref a, .str (sg c) t], []⟩) R s := by
  replace hne := neN hne
  have hwl : (ofL word).length = word.length := len_ofL word
  have hcl : (sg c).length = 1 := rfl
  have X := G.X
  have hA := G.B.stack
  revert X
  k_fill
  intro X
  refine' enterG G S k ?k6 ?k7 ?k8 ?k9 ?kB ?_ ?c2 ?c3 ?c4 ?c5
  case k6 => k_is
  case k7 => k_is
  case k8 => omega
  case k9 => first | exact BindsTo.of_eq rfl | exact binds_K (Frag.In.keeps X k.keep) rfl (by k_is) rfl rfl rfl
  case kB => exact rfl
  case c2 => decide
  case c3 => exact rfl
  case c4 => exact rfl
  case c5 => exact rfl
  intro L' h₁ F' N' hlt
  have B' := G.B
  have T' := G.T
  clear G S
  k_lt hlt
  refine wpAny_gen fun Q0 E0 hQ0 hE0 => ?_
  clear hE0
  (w_on; repeat' (first | ((with_reducible show wpAny _ _ (execs (_ :: _) _) _ _ (Shared.mk _ _ _ (HAdd.hAdd _ _) _)); refine tok_norm s ?_; intro tkn) | (k_unfold; (try dsimp only)) | ((with_reducible show wpAny _ _ (binaryOp _ (Value.str _ _) (Value.str _ _)) _ _ _); (refine add_ofL (by assumption) ?_; intro t' tk')) | ((k_here; (with_reducible show wpAny _ _ (binaryOp _ (Value.ref _) (Value.ref _)) _ _ _); k_dflt (refine' kmk_add_lit ?F ?N ?a ?b ?e ?_ ?z; (case F => k_asm); (case N => k_asm); (case a => kmk_list); (case b => kmk_list); (case e => exact rfl); (case z => (simp only [sizeLine_eq, List.length_cons, List.length_nil, List.length_append]; omega))); intro D' h' F' N' l1; (try k_lt l1); (try k_sweep))) | ((with_reducible show ite _ _ _); (first | (refine ite_pos (by decide) ?_) | (refine ite_neg (by decide) ?_) | (refine ite_trB (by with_reducible assumption) ?_) | (refine ite_faB (by with_reducible assumption) ?_) | (refine ite_twoB ?_ ?_ <;> (intro hb')))) | (((with_reducible show wpAny _ _ (compareOp CmpOp.Eq (Value.str (sg _) _) (Value.str (Str.ofString _) _)) _ _ _); first | refine eq_sg 10 rfl ?_ | refine eq_sg 34 rfl ?_ | refine eq_sg 39 rfl ?_ | refine eq_sg 92 rfl ?_)) | ((with_reducible show wpAny _ _ (compareOp CmpOp.In (Value.str _ _) (Value.str _ _)) _ _ _); refine in_ws ?_) | ((k_here; (with_reducible show wpAny _ _ (assign (Expr.Tuple _ _ _) _ (Value.ref _)) _ _ _); k_dflt (refine' unpackN_ ?k1 ?k2 ?k3 ?k4 ?k5 ?k6 ?_; (case k1 => k_asm); (case k2 => k_asm); (case k3 => kun_tup); (case k4 => assumption); (case k5 => exact rfl); (case k6 => exact rfl); k_whole); intro h' F' N'; (try k_sweep))) | ((with_reducible show wpAny _ _ (call (Value.ref _) _ _) _ _ _); k_here; k_dflt (refine wpAny_call ?_; (refine' code_def ?k1 ?k2 ?k3 ?k4 ?k5 ?kA ?kF ?kK ?k6 ?k7 ?k8 ?k9 ?kB ?_ ?c2 ?c3 ?c4 ?c5; (case kA => first | exact Around.frames_deeper (by assumption) | exact Around.frames_deeper (Around.frames_deeper (by assumption)) | exact Around.frames_deeper (Around.frames_deeper (Around.frames_deeper (by assumption)))); (case kF => exact rfl); (case kK => exact rfl); (case k1 => k_asm); (case k2 => k_asm); (case k3 => k_asm); (case k4 => k_asm); (case k5 => k_asm); (case k6 => k_is); (case k7 => k_is); (case k8 => ((simp only [depth_under_make, depth_under_kw, depth_in1, depth_deeper]); (simp only [recursionLimit] at *); omega)); (case k9 => first | exact BindsTo.of_eq rfl | exact binds_K (by k_in) rfl (by k_is) rfl rfl rfl); (case c5 => decide); (case kB => exact locs rfl); (case c2 => exact rfl); (case c3 => exact rfl); (case c4 => exact rfl); k_whole; intro g' L' h' FG' F' N' B' X' T'; (try dsimp only); (try k_lift B'); (try k_fold)))) | walk1 | (dsimp only; (first | ((with_reducible show wpAny _ _ (binaryOp _ (Value.str _ _) (Value.str _ _)) _ _ _); (refine add_ofL (by assumption) ?_; intro t' tk')) | ((k_here; (with_reducible show wpAny _ _ (binaryOp _ (Value.ref _) (Value.ref _)) _ _ _); k_dflt (refine' kmk_add_lit ?F ?N ?a ?b ?e ?_ ?z; (case F => k_asm); (case N => k_asm); (case a => kmk_list); (case b => kmk_list); (case e => exact rfl); (case z => (simp only [sizeLine_eq, List.length_cons, List.length_nil, List.length_append]; omega))); intro D' h' F' N' l1; (try k_lt l1); (try k_sweep))) | ((with_reducible show ite _ _ _); (first | (refine ite_pos (by decide) ?_) | (refine ite_neg (by decide) ?_) | (refine ite_trB (by with_reducible assumption) ?_) | (refine ite_faB (by with_reducible assumption) ?_) | (refine ite_twoB ?_ ?_ <;> (intro hb')))) | (((with_reducible show wpAny _ _ (compareOp CmpOp.Eq (Value.str (sg _) _) (Value.str (Str.ofString _) _)) _ _ _); first | refine eq_sg 10 rfl ?_ | refine eq_sg 34 rfl ?_ | refine eq_sg 39 rfl ?_ | refine eq_sg 92 rfl ?_)) | ((with_reducible show wpAny _ _ (compareOp CmpOp.In (Value.str _ _) (Value.str _ _)) _ _ _); refine in_ws ?_) | ((k_here; (with_reducible show wpAny _ _ (assign (Expr.Tuple _ _ _) _ (Value.ref _)) _ _ _); k_dflt (refine' unpackN_ ?k1 ?k2 ?k3 ?k4 ?k5 ?k6 ?_; (case k1 => k_asm); (case k2 => k_asm); (case k3 => kun_tup); (case k4 => assumption); (case k5 => exact rfl); (case k6 => exact rfl); k_whole); intro h' F' N'; (try k_sweep))) | ((with_reducible show wpAny _ _ (call (Value.ref _) _ _) _ _ _); k_here; k_dflt (refine wpAny_call ?_; (refine' code_def ?k1 ?k2 ?k3 ?k4 ?k5 ?kA ?kF ?kK ?k6 ?k7 ?k8 ?k9 ?kB ?_ ?c2 ?c3 ?c4 ?c5; (case kA => first | exact Around.frames_deeper (by assumption) | exact Around.frames_deeper (Around.frames_deeper (by assumption)) | exact Around.frames_deeper (Around.frames_deeper (Around.frames_deeper (by assumption)))); (case kF => exact rfl); (case kK => exact rfl); (case k1 => k_asm); (case k2 => k_asm); (case k3 => k_asm); (case k4 => k_asm); (case k5 => k_asm); (case k6 => k_is); (case k7 => k_is); (case k8 => ((simp only [depth_under_make, depth_under_kw, depth_in1, depth_deeper]); (simp only [recursionLimit] at *); omega)); (case k9 => first | exact BindsTo.of_eq rfl | exact binds_K (by k_in) rfl (by k_is) rfl rfl rfl); (case c5 => decide); (case kB => exact locs rfl); (case c2 => exact rfl); (case c3 => exact rfl); (case c4 => exact rfl); k_whole; intro g' L' h' FG' F' N' B' X' T'; (try dsimp only); (try k_lift B'); (try k_fold)))) | walk1))))
  all_goals (subst hQ0)
  all_goals (try dsimp only)
  all_goals (simp [lstep, nl, isQ, *] at hR; (rename News _ _ _ _ => hN1); (have hS1 := Sub.of_news hN1); (first | exact hR.one _ _ _ _ _ _ rfl (Ke.of_fr (by assumption)) (sub2 hS1 (.head _) (by first | exact .head _ | exact .tail _ (.head _) | exact .tail _ (.tail _ (.head _)) | exact .tail _ (.tail _ (.tail _ (.head _))) | exact .tail _ (.tail _ (.tail _ (.tail _ (.head _)))) | exact .tail _ (.tail _ (.tail _ (.tail _ (.tail _ (.head _))))))) (by omega) | exact hR.two _ _ _ _ _ _ _ _ _ _ _ _ _ _ rfl (Ke.of_fr (by assumption)) (sub3 hS1 (.head _) (.tail _ (.head _)) (by first | exact .head _ | exact .tail _ (.head _) | exact .tail _ (.tail _ (.head _)) | exact .tail _ (.tail _ (.tail _ (.head _))) | exact .tail _ (.tail _ (.tail _ (.tail _ (.head _)))) | exact .tail _ (.tail _ (.tail _ (.tail _ (.tail _ (.head _))))))) (by omega) (by omega) (by omega)))

theorem st_pesc (w : World) {s : Shared} {A : Around} {base g : Heap} {fr : List Env} {mg mb : Str → Option Value} {mean : ExcName → Option Value} {a fl : Addr} {c t tm tw tr : Nat} {word : List Nat} {row : Int} {items : List Value} {R : Result → Shared → Prop} 
    (G : Gd w A base fr mean mg mb g) (hroom : A.depth + 4 < recursionLimit) (hh : A.handled = none) (k : Ke g s.heap)
    (S : Sub g s.heap [(a, tupO [.ref fl, .str (Str.ofString "plain escape") tm, .str (ofL word) tw, .int row tr]), (fl, listOf items.toArray 0)]) (hne : a ≠ fl) (hw : word.length ≤ 1000) (hi : items.length ≤ 1000)
    (hR : StepR g s fl items (lstep ⟨[], .pesc, word, row⟩ c) R) :
    codeAny (model PySem.Challenge.rw_om0137_01.row.prog w) A (.call (.ref 791) ⟨[.ref a, .str (sg c) t], []⟩) R s := by
  replace hne := neN hne
  have hwl : (ofL word).length = word.length := len_ofL word
  have hcl : (sg c).length = 1 := rfl
  have X := G.X
  have hA := G.B.stack
  revert X
  k_fill
  intro X
  refine' enterG G S k ?k6 ?k7 ?k8 ?k9 ?kB ?_ ?c2 ?c3 ?c4 ?c5
  case k6 => k_is
  case k7 => k_is
  case k8 => omega
  case k9 => first | exact BindsTo.of_eq rfl | exact binds_K (Frag.In.keeps X k.keep) rfl (by k_is) rfl rfl rfl
  case kB => exact rfl
  case c2 => decide
  case c3 => exact rfl
  case c4 => exact rfl
  case c5 => exact rfl
  intro L' h₁ F' N' hlt
  have B' := G.B
  have T' := G.T
  clear G S
  k_lt hlt
  refine wpAny_gen fun Q0 E0 hQ0 hE0 => ?_
  clear hE0
  (w_on; repeat' (first | ((with_reducible show wpAny _ _ (execs (_ :: _) _) _ _ (Shared.mk _ _ _ (HAdd.hAdd _ _) _)); refine tok_norm s ?_; intro tkn) | (k_unfold; (try dsimp only)) | ((with_reducible show wpAny _ _ (binaryOp _ (Value.str _ _) (Value.str _ _)) _ _ _); (refine add_ofL (by assumption) ?_; intro t' tk')) | ((k_here; (with_reducible show wpAny _ _ (binaryOp _ (Value.ref _) (Value.ref _)) _ _ _); k_dflt (refine' kmk_add_lit ?F ?N ?a ?b ?e ?_ ?z; (case F => k_asm); (case N => k_asm); (case a => kmk_list); (case b => kmk_list); (case e => exact rfl); (case z => (simp only [sizeLine_eq, List.length_cons, List.length_nil, List.length_append]; omega))); intro D' h' F' N' l1; (try k_lt l1); (try k_sweep))) | ((with_reducible show ite _ _ _); (first | (refine ite_pos (by decide) ?_) | (refine ite_neg (by decide) ?_) | (refine ite_trB (by with_reducible assumption) ?_) | (refine ite_faB (by with_reducible assumption) ?_) | (refine ite_twoB ?_ ?_ <;> (intro hb')))) | (((with_reducible show wpAny _ _ (compareOp CmpOp.Eq (Value.str (sg _) _) (Value.str (Str.ofString _) _)) _ _ _); first | refine eq_sg 10 rfl ?_ | refine eq_sg 34 rfl ?_ | refine eq_sg 39 rfl ?_ | refine eq_sg 92 rfl ?_)) | ((with_reducible show wpAny _ _ (compareOp CmpOp.In (Value.str _ _) (Value.str _ _)) _ _ _); refine in_ws ?_) | ((k_here; (with_reducible show wpAny _ _ (assign (Expr.Tuple _ _ _) _ (Value.ref _)) _ _ _); k_dflt (refine' unpackN_ ?k1 ?k2 ?k3 ?k4 ?k5 ?k6 ?_; (case k1 => k_asm); (case k2 => k_asm); (case k3 => kun_tup); (case k4 => assumption); (case k5 => exact rfl); (case k6 => exact rfl); k_whole); intro h' F' N'; (try k_sweep))) | ((with_reducible show wpAny _ _ (call (Value.ref _) _ _) _ _ _); k_here; k_dflt (refine wpAny_call ?_; (refine' code_def ?k1 ?k2 ?k3 ?k4 ?k5 ?kA ?kF ?kK ?k6 ?k7 ?k8 ?k9 ?kB ?_ ?c2 ?c3 ?c4 ?c5; (case kA => first | exact Around.frames_deeper (by assumption) | exact Around.frames_deeper (Around.frames_deeper (by assumption)) | exact Around.frames_deeper (Around.frames_deeper (Around.frames_deeper (by assumption)))); (case kF => exact rfl); (case kK => exact rfl); (case k1 => k_asm); (case k2 => k_asm); (case k3 => k_asm); (case k4 => k_asm); (case k5 => k_asm); (case k6 => k_is); (case k7 => k_is); (case k8 => ((simp only [depth_under_make, depth_under_kw, depth_in1, depth_deeper]); (simp only [recursionLimit] at *); omega)); (case k9 => first | exact BindsTo.of_eq rfl | exact binds_K (by k_in) rfl (by k_is) rfl rfl rfl); (case c5 => decide); (case kB => exact locs rfl); (case c2 => exact rfl); (case c3 => exact rfl); (case c4 => exact rfl); k_whole; intro g' L' h' FG' F' N' B' X' T'; (try dsimp only); (try k_lift B'); (try k_fold)))) | walk1 | (dsimp only; (first | ((with_reducible show wpAny _ _ (binaryOp _ (Value.str _ _) (Value.str _ _)) _ _ _); (refine add_ofL (by assumption) ?_; intro t' tk')) | ((k_here; (with_reducible show wpAny _ _ (binaryOp _ (Value.ref _) (Value.ref _)) _ _ _); k_dflt (refine' kmk_add_lit ?F ?N ?a ?b ?e ?_ ?z; (case F => k_asm); (case N => k_asm); (case a => kmk_list); (case b => kmk_list); (case e => exact rfl); (case z => (simp only [sizeLine_eq, List.length_cons, List.length_nil, List.length_append]; omega))); intro D' h' F' N' l1; (try k_lt l1); (try k_sweep))) | ((with_reducible show ite _ _ _); (first | (refine ite_pos (by decide) ?_) | (refine ite_neg (by decide) ?_) | (refine ite_trB (by with_reducible assumption) ?_) | (refine ite_faB (by with_reducible assumption) ?_) | (refine ite_twoB ?_ ?_ <;> (intro hb')))) | (((with_reducible show wpAny _ _ (compareOp CmpOp.Eq (Value.str (sg _) _) (Value.str (Str.ofString _) _)) _ _ _); first | refine eq_sg 10 rfl ?_ | refine eq_sg 34 rfl ?_ | refine eq_sg 39 rfl ?_ | refine eq_sg 92 rfl ?_)) | ((with_reducible show wpAny _ _ (compareOp CmpOp.In (Value.str _ _) (Value.str _ _)) _ _ _); refine in_ws ?_) | ((k_here; (with_reducible show wpAny _ _ (assign (Expr.Tuple _ _ _) _ (Value.ref _)) _ _ _); k_dflt (refine' unpackN_ ?k1 ?k2 ?k3 ?k4 ?k5 ?k6 ?_; (case k1 => k_asm); (case k2 => k_asm); (case k3 => kun_tup); (case k4 => assumption); (case k5 => exact rfl); (case k6 => exact rfl); k_whole); intro h' F' N'; (try k_sweep))) | ((with_reducible show wpAny _ _ (call (Value.ref _) _ _) _ _ _); k_here; k_dflt (refine wpAny_call ?_; (refine' code_def ?k1 ?k2 ?k3 ?k4 ?k5 ?kA ?kF ?kK ?k6 ?k7 ?k8 ?k9 ?kB ?_ ?c2 ?c3 ?c4 ?c5; (case kA => first | exact Around.frames_deeper (by assumption) | exact Around.frames_deeper (Around.frames_deeper (by assumption)) | exact Around.frames_deeper (Around.frames_deeper (Around.frames_deeper (by assumption)))); (case kF => exact rfl); (case kK => exact rfl); (case k1 => k_asm); (case k2 => k_asm); (case k3 => k_asm); (case k4 => k_asm); (case k5 => k_asm); (case k6 => k_is); (case k7 => k_is); (case k8 => ((simp only [depth_under_make, depth_under_kw, depth_in1, depth_deeper]); (simp only [recursionLimit] at *); omega)); (case k9 => first | exact BindsTo.of_eq rfl | exact binds_K (by k_in) rfl (by k_is) rfl rfl rfl); (case c5 => decide); (case kB => exact locs rfl); (case c2 => exact rfl); (case c3 => exact rfl); (case c4 => exact rfl); k_whole; intro g' L' h' FG' F' N' B' X' T'; (try dsimp only); (try k_lift B'); (try k_fold)))) | walk1))))
  all_goals (subst hQ0)
  all_goals (try dsimp only)
  all_goals (simp [lstep, nl, isQ, *] at hR; (rename News _ _ _ _ => hN1); (have hS1 := Sub.of_news hN1); (first | exact hR.one _ _ _ _ _ _ rfl (Ke.of_fr (by assumption)) (sub2 hS1 (.head _) (by first | exact .head _ | exact .tail _ (.head _) | exact .tail _ (.tail _ (.head _)) | exact .tail _ (.tail _ (.tail _ (.head _))) | exact .tail _ (.tail _ (.tail _ (.tail _ (.head _)))) | exact .tail _ (.tail _ (.tail _ (.tail _ (.tail _ (.head _))))))) (by omega) | exact hR.two _ _ _ _ _ _ _ _ _ _ _ _ _ _ rfl (Ke.of_fr (by assumption)) (sub3 hS1 (.head _) (.tail _ (.head _)) (by first | exact .head _ | exact .tail _ (.head _) | exact .tail _ (.tail _ (.head _)) | exact .tail _ (.tail _ (.tail _ (.head _))) | exact .tail _ (.tail _ (.tail _ (.tail _ (.head _)))) | exact .tail _ (.tail _ (.tail _ (.tail _ (.tail _ (.head _))))))) (by omega) (by omega) (by omega)))

theorem st_quoted (w : World) {s : Shared} {A : Around} {base g : Heap} {fr : List Env} {mg mb : Str → Option Value} {mean : ExcName → Option Value} {a fl : Addr} {c t tm tw tr : Nat} {word : List Nat} {row : Int} {items : List Value} {R : Result → Shared → Prop} 
    (G : Gd w A base fr mean mg mb g) (hroom : A.depth + 4 < recursionLimit) (hh : A.handled = none) (k : Ke g s.heap)
    (S : Sub g s.heap [(a, tupO [.ref fl, .str (Str.ofString "quoted") tm, .str (ofL word) tw, .int row tr]), (fl, listOf items.toArray 0)]) (hne : a ≠ fl) (hw : word.length ≤ 1000) (hi : items.length ≤ 1000)
    (hR : StepR g s fl items (lstep ⟨[], .quoted, word, row⟩ c) R) :
    codeAny (model PySem.Challenge.rw_om0137_01.row.prog w) A (.call (.ref 791) ⟨[.ref a, .str (sg c) t], []⟩) R s := by
  replace hne := neN hne
  have hwl : (ofL word).length = word.length := len_ofL word
  have hcl : (sg c).length = 1 := rfl
  have X := G.X
  have hA := G.B.stack
  revert X
  k_fill
  intro X
  refine' enterG G S k ?k6 ?k7 ?k8 ?k9 ?kB ?_ ?c2 ?c3 ?c4 ?c5
  case k6 => k_is
  case k7 => k_is
  case k8 => omega
  case k9 => first | exact BindsTo.of_eq rfl | exact binds_K (Frag.In.keeps X k.keep) rfl (by k_is) rfl rfl rfl
  case kB => exact rfl
  case c2 => decide
  case c3 => exact rfl
  case c4 => exact rfl
  case c5 => exact rfl
  intro L' h₁ F' N' hlt
  have B' := G.B
  have T' := G.T
  clear G S
  k_lt hlt
  refine wpAny_gen fun Q0 E0 hQ0 hE0 => ?_
  clear hE0
  (w_on; repeat' (first | ((with_reducible show wpAny _ _ (execs (_ :: _) _) _ _ (Shared.mk _ _ _ (HAdd.hAdd _ _) _)); refine tok_norm s ?_; intro tkn) | (k_unfold; (try dsimp only)) | ((with_reducible show wpAny _ _ (binaryOp _ (Value.str _ _) (Value.str _ _)) _ _ _); (refine add_ofL (by assumption) ?_; intro t' tk')) | ((k_here; (with_reducible show wpAny _ _ (binaryOp _ (Value.ref _) (Value.ref _)) _ _ _); k_dflt (refine' kmk_add_lit ?F ?N ?a ?b ?e ?_ ?z; (case F => k_asm); (case N => k_asm); (case a => kmk_list); (case b => kmk_list); (case e => exact rfl); (case z => (simp only [sizeLine_eq, List.length_cons, List.length_nil, List.length_append]; omega))); intro D' h' F' N' l1; (try k_lt l1); (try k_sweep))) | ((with_reducible show ite _ _ _); (first | (refine ite_pos (by decide) ?_) | (refine ite_neg (by decide) ?_) | (refine ite_trB (by with_reducible assumption) ?_) | (refine ite_faB (by with_reducible assumption) ?_) | (refine ite_twoB ?_ ?_ <;> (intro hb')))) | (((with_reducible show wpAny _ _ (compareOp CmpOp.Eq (Value.str (sg _) _) (Value.str (Str.ofString _) _)) _ _ _); first | refine eq_sg 10 rfl ?_ | refine eq_sg 34 rfl ?_ | refine eq_sg 39 rfl ?_ | refine eq_sg 92 rfl ?_)) | ((with_reducible show wpAny _ _ (compareOp CmpOp.In (Value.str _ _) (Value.str _ _)) _ _ _); refine in_ws ?_) | ((k_here; (with_reducible show wpAny _ _ (assign (Expr.Tuple _ _ _) _ (Value.ref _)) _ _ _); k_dflt (refine' unpackN_ ?k1 ?k2 ?k3 ?k4 ?k5 ?k6 ?_; (case k1 => k_asm); (case k2 => k_asm); (case k3 => kun_tup); (case k4 => assumption); (case k5 => exact rfl); (case k6 => exact rfl); k_whole); intro h' F' N'; (try k_sweep))) | ((with_reducible show wpAny _ _ (call (Value.ref _) _ _) _ _ _); k_here; k_dflt (refine wpAny_call ?_; (refine' code_def ?k1 ?k2 ?k3 ?k4 ?k5 ?kA ?kF ?kK ?k6 ?k7 ?k8 ?k9 ?kB ?_ ?c2 ?c3 ?c4 ?c5; (case kA => first | exact Around.frames_deeper (by assumption) | exact Around.frames_deeper (Around.frames_deeper (by assumption)) | exact Around.frames_deeper (Around.frames_deeper (Around.frames_deeper (by assumption)))); (case kF => exact rfl); (case kK => exact rfl); (case k1 => k_asm); (case k2 => k_asm); (case k3 => k_asm); (case k4 => k_asm); (case k5 => k_asm); (case k6 => k_is); (case k7 => k_is); (case k8 => ((simp only [depth_under_make, depth_under_kw, depth_in1, depth_deeper]); (simp only [recursionLimit] at *); omega)); (case k9 => first | exact BindsTo.of_eq rfl | exact binds_K (by k_in) rfl (by k_is) rfl rfl rfl); (case c5 => decide); (case kB => exact locs rfl); (case c2 => exact rfl); (case c3 => exact rfl); (case c4 => exact rfl); k_whole; intro g' L' h' FG' F' N' B' X' T'; (try dsimp only); (try k_lift B'); (try k_fold)))) | walk1 | (dsimp only; (first | ((with_reducible show wpAny _ _ (binaryOp _ (Value.str _ _) (Value.str _ _)) _ _ _); (refine add_ofL (by assumption) ?_; intro t' tk')) | ((k_here; (with_reducible show wpAny _ _ (binaryOp _ (Value.ref _) (Value.ref _)) _ _ _); k_dflt (refine' kmk_add_lit ?F ?N ?a ?b ?e ?_ ?z; (case F => k_asm); (case N => k_asm); (case a => kmk_list); (case b => kmk_list); (case e => exact rfl); (case z => (simp only [sizeLine_eq, List.length_cons, List.length_nil, List.length_append]; omega))); intro D' h' F' N' l1; (try k_lt l1); (try k_sweep))) | ((with_reducible show ite _ _ _); (first | (refine ite_pos (by decide) ?_) | (refine ite_neg (by decide) ?_) | (refine ite_trB (by with_reducible assumption) ?_) | (refine ite_faB (by with_reducible assumption) ?_) | (refine ite_twoB ?_ ?_ <;> (intro hb')))) | (((with_reducible show wpAny _ _ (compareOp CmpOp.Eq (Value.str (sg _) _) (Value.str (Str.ofString _) _)) _ _ _); first | refine eq_sg 10 rfl ?_ | refine eq_sg 34 rfl ?_ | refine eq_sg 39 rfl ?_ | refine eq_sg 92 rfl ?_)) | ((with_reducible show wpAny _ _ (compareOp CmpOp.In (Value.str _ _) (Value.str _ _)) _ _ _); refine in_ws ?_) | ((k_here; (with_reducible show wpAny _ _ (assign (Expr.Tuple _ _ _) _ (Value.ref _)) _ _ _); k_dflt (refine' unpackN_ ?k1 ?k2 ?k3 ?k4 ?k5 ?k6 ?_; (case k1 => k_asm); (case k2 => k_asm); (case k3 => kun_tup); (case k4 => assumption); (case k5 => exact rfl); (case k6 => exact rfl); k_whole); intro h' F' N'; (try k_sweep))) | ((with_reducible show wpAny _ _ (call (Value.ref _) _ _) _ _ _); k_here; k_dflt (refine wpAny_call ?_; (refine' code_def ?k1 ?k2 ?k3 ?k4 ?k5 ?kA ?kF ?kK ?k6 ?k7 ?k8 ?k9 ?kB ?_ ?c2 ?c3 ?c4 ?c5; (case kA => first | exact Around.frames_deeper (by assumption) | exact Around.frames_deeper (Around.frames_deeper (by assumption)) | exact Around.frames_deeper (Around.frames_deeper (Around.frames_deeper (by assumption)))); (case kF => exact rfl); (case kK => exact rfl); (case k1 => k_asm); (case k2 => k_asm); (case k3 => k_asm); (case k4 => k_asm); (case k5 => k_asm); (case k6 => k_is); (case k7 => k_is); (case k8 => ((simp only [depth_under_make, depth_under_kw, depth_in1, depth_deeper]); (simp only [recursionLimit] at *); omega)); (case k9 => first | exact BindsTo.of_eq rfl | exact binds_K (by k_in) rfl (by k_is) rfl rfl rfl); (case c5 => decide); (case kB => exact locs rfl); (case c2 => exact rfl); (case c3 => exact rfl); (case c4 => exact rfl); k_whole; intro g' L' h' FG' F' N' B' X' T'; (try dsimp only); (try k_lift B'); (try k_fold)))) | walk1))))
  all_goals (subst hQ0)
  all_goals (try dsimp only)
  all_goals (simp [lstep, nl, isQ, *] at hR; (rename News _ _ _ _ => hN1); (have hS1 := Sub.of_news hN1); (first | exact hR.one _ _ _ _ _ _ rfl (Ke.of_fr (by assumption)) (sub2 hS1 (.head _) (by first | exact .head _ | exact .tail _ (.head _) | exact .tail _ (.tail _ (.head _)) | exact .tail _ (.tail _ (.tail _ (.head _))) | exact .tail _ (.tail _ (.tail _ (.tail _ (.head _)))) | exact .tail _ (.tail _ (.tail _ (.tail _ (.tail _ (.head _))))))) (by omega) | exact hR.two _ _ _ _ _ _ _ _ _ _ _ _ _ _ rfl (Ke.of_fr (by assumption)) (sub3 hS1 (.head _) (.tail _ (.head _)) (by first | exact .head _ | exact .tail _ (.head _) | exact .tail _ (.tail _ (.head _)) | exact .tail _ (.tail _ (.tail _ (.head _))) | exact .tail _ (.tail _ (.tail _ (.tail _ (.head _)))) | exact .tail _ (.tail _ (.tail _ (.tail _ (.tail _ (.head _))))))) (by omega) (by omega) (by omega)))

theorem st_qesc (w : World) {s : Shared} {A : Around} {base g : Heap} {fr : List Env} {mg mb : Str → Option Value} {mean : ExcName → Option Value} {a fl : Addr} {c t tm tw tr : Nat} {word : List Nat} {row : Int} {items : List Value} {R : Result → Shared → Prop} 
    (G : Gd w A base fr mean mg mb g) (hroom : A.depth + 4 < recursionLimit) (hh : A.handled = none) (k : Ke g s.heap)
    (S : Sub g s.heap [(a, tupO [.ref fl, .str (Str.ofString "quoted escape") tm, .str (ofL word) tw, .int row tr]), (fl, listOf items.toArray 0)]) (hne : a ≠ fl) (hw : word.length ≤ 1000) (hi : items.length ≤ 1000)
    (hR : StepR g s fl items (lstep ⟨[], .qesc, word, row⟩ c) R) :
    codeAny (model PySem.Challenge.rw_om0137_01.row.prog w) A (.call (.ref 791) ⟨[.ref a, .str (sg c) t], []⟩) R s := by
  replace hne := neN hne
  have hwl : (ofL word).length = word.length := len_ofL word
  have hcl : (sg c).length = 1 := rfl
  have X := G.X
  have hA := G.B.stack
  revert X
  k_fill
  intro X
  refine' enterG G S k ?k6 ?k7 ?k8 ?k9 ?kB ?_ ?c2 ?c3 ?c4 ?c5
  case k6 => k_is
  case k7 => k_is
  case k8 => omega
  case k9 => first | exact BindsTo.of_eq rfl | exact binds_K (Frag.In.keeps X k.keep) rfl (by k_is) rfl rfl rfl
  case kB => exact rfl
  case c2 => decide
  case c3 => exact rfl
  case c4 => exact rfl
  case c5 => exact rfl
  intro L' h₁ F' N' hlt
  have B' := G.B
  have T' := G.T
  clear G S
  k_lt hlt
  refine wpAny_gen fun Q0 E0 hQ0 hE0 => ?_
  clear hE0
  (w_on; repeat' (first | ((with_reducible show wpAny _ _ (execs (_ :: _) _) _ _ (Shared.mk _ _ _ (HAdd.hAdd _ _) _)); refine tok_norm s ?_; intro tkn) | (k_unfold; (try dsimp only)) | ((with_reducible show wpAny _ _ (binaryOp _ (Value.str _ _) (Value.str _ _)) _ _ _); (refine add_ofL (by assumption) ?_; intro t' tk')) | ((k_here; (with_reducible show wpAny _ _ (binaryOp _ (Value.ref _) (Value.ref _)) _ _ _); k_dflt (refine' kmk_add_lit ?F ?N ?a ?b ?e ?_ ?z; (case F => k_asm); (case N => k_asm); (case a => kmk_list); (case b => kmk_list); (case e => exact rfl); (case z => (simp only [sizeLine_eq, List.length_cons, List.length_nil, List.length_append]; omega))); intro D' h' F' N' l1; (try k_lt l1); (try k_sweep))) | ((with_reducible show ite _ _ _); (first | (refine ite_pos (by decide) ?_) | (refine ite_neg (by decide) ?_) | (refine ite_trB (by with_reducible assumption) ?_) | (refine ite_faB (by with_reducible assumption) ?_) | (refine ite_twoB ?_ ?_ <;> (intro hb')))) | (((with_reducible show wpAny _ _ (compareOp CmpOp.Eq (Value.str (sg _) _) (Value.str (Str.ofString _) _)) _ _ _); first | refine eq_sg 10 rfl ?_ | refine eq_sg 34 rfl ?_ | refine eq_sg 39 rfl ?_ | refine eq_sg 92 rfl ?_)) | ((with_reducible show wpAny _ _ (compareOp CmpOp.In (Value.str _ _) (Value.str _ _)) _ _ _); refine in_ws ?_) | ((k_here; (with_reducible show wpAny _ _ (assign (Expr.Tuple _ _ _) _ (Value.ref _)) _ _ _); k_dflt (refine' unpackN_ ?k1 ?k2 ?k3 ?k4 ?k5 ?k6 ?_; (case k1 => k_asm); (case k2 => k_asm); (case k3 => kun_tup); (case k4 => assumption); (case k5 => exact rfl); (case k6 => exact rfl); k_whole); intro h' F' N'; (try k_sweep))) | ((with_reducible show wpAny _ _ (call (Value.ref _) _ _) _ _ _); k_here; k_dflt (refine wpAny_call ?_; (refine' code_def ?k1 ?k2 ?k3 ?k4 ?k5 ?kA ?kF ?kK ?k6 ?k7 ?k8 ?k9 ?kB ?_ ?c2 ?c3 ?c4 ?c5; (case kA => first | exact Around.frames_deeper (by assumption) | exact Around.frames_deeper (Around.frames_deeper (by assumption)) | exact Around.frames_deeper (Around.frames_deeper (Around.frames_deeper (by assumption)))); (case kF => exact rfl); (case kK => exact rfl); (case k1 => k_asm); (case k2 => k_asm); (case k3 => k_asm); (case k4 => k_asm); (case k5 => k_asm); (case k6 => k_is); (case k7 => k_is); (case k8 => ((simp only [depth_under_make, depth_under_kw, depth_in1, depth_deeper]); (simp only [recursionLimit] at *); omega)); (case k9 => first | exact BindsTo.of_eq rfl | exact binds_K (by k_in) rfl (by k_is) rfl rfl rfl); (case c5 => decide); (case kB => exact locs rfl); (case c2 => exact rfl); (case c3 => exact rfl); (case c4 => exact rfl); k_whole; intro g' L' h' FG' F' N' B' X' T'; (try dsimp only); (try k_lift B'); (try k_fold)))) | walk1 | (dsimp only; (first | ((with_reducible show wpAny _ _ (binaryOp _ (Value.str _ _) (Value.str _ _)) _ _ _); (refine add_ofL (by assumption) ?_; intro t' tk')) | ((k_here; (with_reducible show wpAny _ _ (binaryOp _ (Value.ref _) (Value.ref _)) _ _ _); k_dflt (refine' kmk_add_lit ?F ?N ?a ?b ?e ?_ ?z; (case F => k_asm); (case N => k_asm); (case a => kmk_list); (case b => kmk_list); (case e => exact rfl); (case z => (simp only [sizeLine_eq, List.length_cons, List.length_nil, List.length_append]; omega))); intro D' h' F' N' l1; (try k_lt l1); (try k_sweep))) | ((with_reducible show ite _ _ _); (first | (refine ite_pos (by decide) ?_) | (refine ite_neg (by decide) ?_) | (refine ite_trB (by with_reducible assumption) ?_) | (refine ite_faB (by with_reducible assumption) ?_) | (refine ite_twoB ?_ ?_ <;> (intro hb')))) | (((with_reducible show wpAny _ _ (compareOp CmpOp.Eq (Value.str (sg _) _) (Value.str (Str.ofString _) _)) _ _ _); first | refine eq_sg 10 rfl ?_ | refine eq_sg 34 rfl ?_ | refine eq_sg 39 rfl ?_ | refine eq_sg 92 rfl ?_)) | ((with_reducible show wpAny _ _ (compareOp CmpOp.In (Value.str _ _) (Value.str _ _)) _ _ _); refine in_ws ?_) | ((k_here; (with_reducible show wpAny _ _ (assign (Expr.Tuple _ _ _) _ (Value.ref _)) _ _ _); k_dflt (refine' unpackN_ ?k1 ?k2 ?k3 ?k4 ?k5 ?k6 ?_; (case k1 => k_asm); (case k2 => k_asm); (case k3 => kun_tup); (case k4 => assumption); (case k5 => exact rfl); (case k6 => exact rfl); k_whole); intro h' F' N'; (try k_sweep))) | ((with_reducible show wpAny _ _ (call (Value.ref _) _ _) _ _ _); k_here; k_dflt (refine wpAny_call ?_; (refine' code_def ?k1 ?k2 ?k3 ?k4 ?k5 ?kA ?kF ?kK ?k6 ?k7 ?k8 ?k9 ?kB ?_ ?c2 ?c3 ?c4 ?c5; (case kA => first | exact Around.frames_deeper (by assumption) | exact Around.frames_deeper (Around.frames_deeper (by assumption)) | exact Around.frames_deeper (Around.frames_deeper (Around.frames_deeper (by assumption)))); (case kF => exact rfl); (case kK => exact rfl); (case k1 => k_asm); (case k2 => k_asm); (case k3 => k_asm); (case k4 => k_asm); (case k5 => k_asm); (case k6 => k_is); (case k7 => k_is); (case k8 => ((simp only [depth_under_make, depth_under_kw, depth_in1, depth_deeper]); (simp only [recursionLimit] at *); omega)); (case k9 => first | exact BindsTo.of_eq rfl | exact binds_K (by k_in) rfl (by k_is) rfl rfl rfl); (case c5 => decide); (case kB => exact locs rfl); (case c2 => exact rfl); (case c3 => exact rfl); (case c4 => exact rfl); k_whole; intro g' L' h' FG' F' N' B' X' T'; (try dsimp only); (try k_lift B'); (try k_fold)))) | walk1))))
  all_goals (subst hQ0)
  all_goals (try dsimp only)
  all_goals (simp [lstep, nl, isQ, *] at hR; (rename News _ _ _ _ => hN1); (have hS1 := Sub.of_news hN1); (first | exact hR.one _ _ _ _ _ _ rfl (Ke.of_fr (by assumption)) (sub2 hS1 (.head _) (by first | exact .head _ | exact .tail _ (.head _) | exact .tail _ (.tail _ (.head _)) | exact .tail _ (.tail _ (.tail _ (.head _))) | exact .tail _ (.tail _ (.tail _ (.tail _ (.head _)))) | exact .tail _ (.tail _ (.tail _ (.tail _ (.tail _ (.head _))))))) (by omega) | exact hR.two _ _ _ _ _ _ _ _ _ _ _ _ _ _ rfl (Ke.of_fr (by assumption)) (sub3 hS1 (.head _) (.tail _ (.head _)) (by first | exact .head _ | exact .tail _ (.head _) | exact .tail _ (.tail _ (.head _)) | exact .tail _ (.tail _ (.tail _ (.head _))) | exact .tail _ (.tail _ (.tail _ (.tail _ (.head _)))) | exact .tail _ (.tail _ (.tail _ (.tail _ (.tail _ (.head _))))))) (by omega) (by omega) (by omega)))

theorem st_closed (w : World) {s : Shared} {A : Around} {base g : Heap} {fr : List Env} {mg mb : Str → Option Value} {mean : ExcName → Option Value} {a fl : Addr} {c t tm tw tr : Nat} {word : List Nat} {row : Int} {items : List Value} {R : Result → Shared → Prop} 
    (G : Gd w A base fr mean mg mb g) (hroom : A.depth + 4 < recursionLimit) (hh : A.handled = none) (k : Ke g s.heap)
    (S : Sub g s.heap [(a, tupO [.ref fl, .str (Str.ofString "closed") tm, .str (ofL word) tw, .int row tr]), (fl, listOf items.toArray 0)]) (hne : a ≠ fl) (hw : word.length ≤ 1000) (hi : items.length ≤ 1000)
    (hR : StepR g s fl items (lstep ⟨[], .closed, word, row⟩ c) R) :
    codeAny (model PySem.Challenge.rw_om0137_01.row.prog w) A (.call (.ref 791) ⟨[.ref a, .str (sg c) t], []⟩) R s := by
  replace hne := neN hne
  have hwl : (ofL word).length = word.length := len_ofL word
  have hcl : (sg c).length = 1 := rfl
  have X := G.X
  have hA := G.B.stack
  revert X
  k_fill
  intro X
  refine' enterG G S k ?k6 ?k7 ?k8 ?k9 ?kB ?_ ?c2 ?c3 ?c4 ?c5
  case k6 => k_is
  case k7 => k_is
  case k8 => omega
  case k9 => first | exact BindsTo.of_eq rfl | exact binds_K (Frag.In.keeps X k.keep) rfl (by k_is) rfl rfl rfl
  case kB => exact rfl
  case c2 => decide
  case c3 => exact rfl
  case c4 => exact rfl
  case c5 => exact rfl
  intro L' h₁ F' N' hlt
  have B' := G.B
  have T' := G.T
  clear G S
  k_lt hlt
  refine wpAny_gen fun Q0 E0 hQ0 hE0 => ?_
  clear hE0
  (w_on; repeat' (first | ((with_reducible show wpAny _ _ (execs (_ :: _) _) _ _ (Shared.mk _ _ _ (HAdd.hAdd _ _) _)); refine tok_norm s ?_; intro tkn) | (k_unfold; (try dsimp only)) | ((with_reducible show wpAny _ _ (binaryOp _ (Value.str _ _) (Value.str _ _)) _ _ _); (refine add_ofL (by assumption) ?_; intro t' tk')) | ((k_here; (with_reducible show wpAny _ _ (binaryOp _ (Value.ref _) (Value.ref _)) _ _ _); k_dflt (refine' kmk_add_lit ?F ?N ?a ?b ?e ?_ ?z; (case F => k_asm); (case N => k_asm); (case a => kmk_list); (case b => kmk_list); (case e => exact rfl); (case z => (simp only [sizeLine_eq, List.length_cons, List.length_nil, List.length_append]; omega))); intro D' h' F' N' l1; (try k_lt l1); (try k_sweep))) | ((with_reducible show ite _ _ _); (first | (refine ite_pos (by decide) ?_) | (refine ite_neg (by decide) ?_) | (refine ite_trB (by with_reducible assumption) ?_) | (refine ite_faB (by with_reducible assumption) ?_) | (refine ite_twoB ?_ ?_ <;> (intro hb')))) | (((with_reducible show wpAny _ _ (compareOp CmpOp.Eq (Value.str (sg _) _) (Value.str (Str.ofString _) _)) _ _ _); first | refine eq_sg 10 rfl ?_ | refine eq_sg 34 rfl ?_ | refine eq_sg 39 rfl ?_ | refine eq_sg 92 rfl ?_)) | ((with_reducible show wpAny _ _ (compareOp CmpOp.In (Value.str _ _) (Value.str _ _)) _ _ _); refine in_ws ?_) | ((k_here; (with_reducible show wpAny _ _ (assign (Expr.Tuple _ _ _) _ (Value.ref _)) _ _ _); k_dflt (refine' unpackN_ ?k1 ?k2 ?k3 ?k4 ?k5 ?k6 ?_; (case k1 => k_asm); (case k2 => k_asm); (case k3 => kun_tup); (case k4 => assumption); (case k5 => exact rfl); (case k6 => exact rfl); k_whole); intro h' F' N'; (try k_sweep))) | ((with_reducible show wpAny _ _ (call (Value.ref _) _ _) _ _ _); k_here; k_dflt (refine wpAny_call ?_; (refine' code_def ?k1 ?k2 ?k3 ?k4 ?k5 ?kA ?kF ?kK ?k6 ?k7 ?k8 ?k9 ?kB ?_ ?c2 ?c3 ?c4 ?c5; (case kA => first | exact Around.frames_deeper (by assumption) | exact Around.frames_deeper (Around.frames_deeper (by assumption)) | exact Around.frames_deeper (Around.frames_deeper (Around.frames_deeper (by assumption)))); (case kF => exact rfl); (case kK => exact rfl); (case k1 => k_asm); (case k2 => k_asm); (case k3 => k_asm); (case k4 => k_asm); (case k5 => k_asm); (case k6 => k_is); (case k7 => k_is); (case k8 => ((simp only [depth_under_make, depth_under_kw, depth_in1, depth_deeper]); (simp only [recursionLimit] at *); omega)); (case k9 => first | exact BindsTo.of_eq rfl | exact binds_K (by k_in) rfl (by k_is) rfl rfl rfl); (case c5 => decide); (case kB => exact locs rfl); (case c2 => exact rfl); (case c3 => exact rfl); (case c4 => exact rfl); k_whole; intro g' L' h' FG' F' N' B' X' T'; (try dsimp only); (try k_lift B'); (try k_fold)))) | walk1 | (dsimp only; (first | ((with_reducible show wpAny _ _ (binaryOp _ (Value.str _ _) (Value.str _ _)) _ _ _); (refine add_ofL (by assumption) ?_; intro t' tk')) | ((k_here; (with_reducible show wpAny _ _ (binaryOp _ (Value.ref _) (Value.ref _)) _ _ _); k_dflt (refine' kmk_add_lit ?F ?N ?a ?b ?e ?_ ?z; (case F => k_asm); (case N => k_asm); (case a => kmk_list); (case b => kmk_list); (case e => exact rfl); (case z => (simp only [sizeLine_eq, List.length_cons, List.length_nil, List.length_append]; omega))); intro D' h' F' N' l1; (try k_lt l1); (try k_sweep))) | ((with_reducible show ite _ _ _); (first | (refine ite_pos (by decide) ?_) | (refine ite_neg (by decide) ?_) | (refine ite_trB (by with_reducible assumption) ?_) | (refine ite_faB (by with_reducible assumption) ?_) | (refine ite_twoB ?_ ?_ <;> (intro hb')))) | (((with_reducible show wpAny _ _ (compareOp CmpOp.Eq (Value.str (sg _) _) (Value.str (Str.ofString _) _)) _ _ _); first | refine eq_sg 10 rfl ?_ | refine eq_sg 34 rfl ?_ | refine eq_sg 39 rfl ?_ | refine eq_sg 92 rfl ?_)) | ((with_reducible show wpAny _ _ (compareOp CmpOp.In (Value.str _ _) (Value.str _ _)) _ _ _); refine in_ws ?_) | ((k_here; (with_reducible show wpAny _ _ (assign (Expr.Tuple _ _ _) _ (Value.ref _)) _ _ _); k_dflt (refine' unpackN_ ?k1 ?k2 ?k3 ?k4 ?k5 ?k6 ?_; (case k1 => k_asm); (case k2 => k_asm); (case k3 => kun_tup); (case k4 => assumption); (case k5 => exact rfl); (case k6 => exact rfl); k_whole); intro h' F' N'; (try k_sweep))) | ((with_reducible show wpAny _ _ (call (Value.ref _) _ _) _ _ _); k_here; k_dflt (refine wpAny_call ?_; (refine' code_def ?k1 ?k2 ?k3 ?k4 ?k5 ?kA ?kF ?kK ?k6 ?k7 ?k8 ?k9 ?kB ?_ ?c2 ?c3 ?c4 ?c5; (case kA => first | exact Around.frames_deeper (by assumption) | exact Around.frames_deeper (Around.frames_deeper (by assumption)) | exact Around.frames_deeper (Around.frames_deeper (Around.frames_deeper (by assumption)))); (case kF => exact rfl); (case kK => exact rfl); (case k1 => k_asm); (case k2 => k_asm); (case k3 => k_asm); (case k4 => k_asm); (case k5 => k_asm); (case k6 => k_is); (case k7 => k_is); (case k8 => ((simp only [depth_under_make, depth_under_kw, depth_in1, depth_deeper]); (simp only [recursionLimit] at *); omega)); (case k9 => first | exact BindsTo.of_eq rfl | exact binds_K (by k_in) rfl (by k_is) rfl rfl rfl); (case c5 => decide); (case kB => exact locs rfl); (case c2 => exact rfl); (case c3 => exact rfl); (case c4 => exact rfl); k_whole; intro g' L' h' FG' F' N' B' X' T'; (try dsimp only); (try k_lift B'); (try k_fold)))) | walk1))))
  all_goals (subst hQ0)
  all_goals (try dsimp only)
  all_goals (simp [lstep, nl, isQ, *] at hR; (rename News _ _ _ _ => hN1); (have hS1 := Sub.of_news hN1); (first | exact hR.one _ _ _ _ _ _ rfl (Ke.of_fr (by assumption)) (sub2 hS1 (.head _) (by first | exact .head _ | exact .tail _ (.head _) | exact .tail _ (.tail _ (.head _)) | exact .tail _ (.tail _ (.tail _ (.head _))) | exact .tail _ (.tail _ (.tail _ (.tail _ (.head _)))) | exact .tail _ (.tail _ (.tail _ (.tail _ (.tail _ (.head _))))))) (by omega) | exact hR.two _ _ _ _ _ _ _ _ _ _ _ _ _ _ rfl (Ke.of_fr (by assumption)) (sub3 hS1 (.head _) (.tail _ (.head _)) (by first | exact .head _ | exact .tail _ (.head _) | exact .tail _ (.tail _ (.head _)) | exact .tail _ (.tail _ (.tail _ (.head _))) | exact .tail _ (.tail _ (.tail _ (.tail _ (.head _)))) | exact .tail _ (.tail _ (.tail _ (.tail _ (.tail _ (.head _))))))) (by omega) (by omega) (by omega)))

theorem st_alike (w : World) {s : Shared} {A : Around} {base g : Heap} {fr : List Env} {mg mb : Str → Option Value} {mean : ExcName → Option Value} {a fl : Addr} {c t tm tw tr : Nat} {word : List Nat} {row : Int} {items : List Value} {R : Result → Shared → Prop} 
    (G : Gd w A base fr mean mg mb g) (hroom : A.depth + 4 < recursionLimit) (hh : A.handled = none) (k : Ke g s.heap)
    (S : Sub g s.heap [(a, tupO [.ref fl, .str (Str.ofString "alike") tm, .str (ofL word) tw, .int row tr]), (fl, listOf items.toArray 0)]) (hne : a ≠ fl) (hw : word.length ≤ 1000) (hi : items.length ≤ 1000)
    (hR : StepR g s fl items (lstep ⟨[], .alike, word, row⟩ c) R) :
    codeAny (model PySem.Challenge.rw_om0137_01.row.prog w) A (.call (.ref 791) ⟨[.ref a, .str (sg c) t], []⟩) R s := by
  replace hne := neN hne
  have hwl : (ofL word).length = word.length := len_ofL word
  have hcl : (sg c).length = 1 := rfl
  have X := G.X
  have hA := G.B.stack
  revert X
  k_fill
  intro X
  refine' enterG G S k ?k6 ?k7 ?k8 ?k9 ?kB ?_ ?c2 ?c3 ?c4 ?c5
  case k6 => k_is
  case k7 => k_is
  case k8 => omega
  case k9 => first | exact BindsTo.of_eq rfl | exact binds_K (Frag.In.keeps X k.keep) rfl (by k_is) rfl rfl rfl
  case kB => exact rfl
  case c2 => decide
  case c3 => exact rfl
  case c4 => exact rfl
  case c5 => exact rfl
  intro L' h₁ F' N' hlt
  have B' := G.B
  have T' := G.T
  clear G S
  k_lt hlt
  refine wpAny_gen fun Q0 E0 hQ0 hE0 => ?_
  clear hE0
  (w_on; repeat' (first | ((with_reducible show wpAny _ _ (execs (_ :: _) _) _ _ (Shared.mk _ _ _ (HAdd.hAdd _ _) _)); refine tok_norm s ?_; intro tkn) | (k_unfold; (try dsimp only)) | ((with_reducible show wpAny _ _ (binaryOp _ (Value.str _ _) (Value.str _ _)) _ _ _); (refine add_ofL (by assumption) ?_; intro t' tk')) | ((k_here; (with_reducible show wpAny _ _ (binaryOp _ (Value.ref _) (Value.ref _)) _ _ _); k_dflt (refine' kmk_add_lit ?F ?N ?a ?b ?e ?_ ?z; (case F => k_asm); (case N => k_asm); (case a => kmk_list); (case b => kmk_list); (case e => exact rfl); (case z => (simp only [sizeLine_eq, List.length_cons, List.length_nil, List.length_append]; omega))); intro D' h' F' N' l1; (try k_lt l1); (try k_sweep))) | ((with_reducible show ite _ _ _); (first | (refine ite_pos (by decide) ?_) | (refine ite_neg (by decide) ?_) | (refine ite_trB (by with_reducible assumption) ?_) | (refine ite_faB (by with_reducible assumption) ?_) | (refine ite_twoB ?_ ?_ <;> (intro hb')))) | (((with_reducible show wpAny _ _ (compareOp CmpOp.Eq (Value.str (sg _) _) (Value.str (Str.ofString _) _)) _ _ _); first | refine eq_sg 10 rfl ?_ | refine eq_sg 34 rfl ?_ | refine eq_sg 39 rfl ?_ | refine eq_sg 92 rfl ?_)) | ((with_reducible show wpAny _ _ (compareOp CmpOp.In (Value.str _ _) (Value.str _ _)) _ _ _); refine in_ws ?_) | ((k_here; (with_reducible show wpAny _ _ (assign (Expr.Tuple _ _ _) _ (Value.ref _)) _ _ _); k_dflt (refine' unpackN_ ?k1 ?k2 ?k3 ?k4 ?k5 ?k6 ?_; (case k1 => k_asm); (case k2 => k_asm); (case k3 => kun_tup); (case k4 => assumption); (case k5 => exact rfl); (case k6 => exact rfl); k_whole); intro h' F' N'; (try k_sweep))) | ((with_reducible show wpAny _ _ (call (Value.ref _) _ _) _ _ _); k_here; k_dflt (refine wpAny_call ?_; (refine' code_def ?k1 ?k2 ?k3 ?k4 ?k5 ?kA ?kF ?kK ?k6 ?k7 ?k8 ?k9 ?kB ?_ ?c2 ?c3 ?c4 ?c5; (case kA => first | exact Around.frames_deeper (by assumption) | exact Around.frames_deeper (Around.frames_deeper (by assumption)) | exact Around.frames_deeper (Around.frames_deeper (Around.frames_deeper (by assumption)))); (case kF => exact rfl); (case kK => exact rfl); (case k1 => k_asm); (case k2 => k_asm); (case k3 => k_asm); (case k4 => k_asm); (case k5 => k_asm); (case k6 => k_is); (case k7 => k_is); (case k8 => ((simp only [depth_under_make, depth_under_kw, depth_in1, depth_deeper]); (simp only [recursionLimit] at *); omega)); (case k9 => first | exact BindsTo.of_eq rfl | exact binds_K (by k_in) rfl (by k_is) rfl rfl rfl); (case c5 => decide); (case kB => exact locs rfl); (case c2 => exact rfl); (case c3 => exact rfl); (case c4 => exact rfl); k_whole; intro g' L' h' FG' F' N' B' X' T'; (try dsimp only); (try k_lift B'); (try k_fold)))) | walk1 | (dsimp only; (first | ((with_reducible show wpAny _ _ (binaryOp _ (Value.str _ _) (Value.str _ _)) _ _ _); (refine add_ofL (by assumption) ?_; intro t' tk')) | ((k_here; (with_reducible show wpAny _ _ (binaryOp _ (Value.ref _) (Value.ref _)) _ _ _); k_dflt (refine' kmk_add_lit ?F ?N ?a ?b ?e ?_ ?z; (case F => k_asm); (case N => k_asm); (case a => kmk_list); (case b => kmk_list); (case e => exact rfl); (case z => (simp only [sizeLine_eq, List.length_cons, List.length_nil, List.length_append]; omega))); intro D' h' F' N' l1; (try k_lt l1); (try k_sweep))) | ((with_reducible show ite _ _ _); (first | (refine ite_pos (by decide) ?_) | (refine ite_neg (by decide) ?_) | (refine ite_trB (by with_reducible assumption) ?_) | (refine ite_faB (by with_reducible assumption) ?_) | (refine ite_twoB ?_ ?_ <;> (intro hb')))) | (((with_reducible show wpAny _ _ (compareOp CmpOp.Eq (Value.str (sg _) _) (Value.str (Str.ofString _) _)) _ _ _); first | refine eq_sg 10 rfl ?_ | refine eq_sg 34 rfl ?_ | refine eq_sg 39 rfl ?_ | refine eq_sg 92 rfl ?_)) | ((with_reducible show wpAny _ _ (compareOp CmpOp.In (Value.str _ _) (Value.str _ _)) _ _ _); refine in_ws ?_) | ((k_here; (with_reducible show wpAny _ _ (assign (Expr.Tuple _ _ _) _ (Value.ref _)) _ _ _); k_dflt (refine' unpackN_ ?k1 ?k2 ?k3 ?k4 ?k5 ?k6 ?_; (case k1 => k_asm); (case k2 => k_asm); (case k3 => kun_tup); (case k4 => assumption); (case k5 => exact rfl); (case k6 => exact rfl); k_whole); intro h' F' N'; (try k_sweep))) | ((with_reducible show wpAny _ _ (call (Value.ref _) _ _) _ _ _); k_here; k_dflt (refine wpAny_call ?_; (refine' code_def ?k1 ?k2 ?k3 ?k4 ?k5 ?kA ?kF ?kK ?k6 ?k7 ?k8 ?k9 ?kB ?_ ?c2 ?c3 ?c4 ?c5; (case kA => first | exact Around.frames_deeper (by assumption) | exact Around.frames_deeper (Around.frames_deeper (by assumption)) | exact Around.frames_deeper (Around.frames_deeper (Around.frames_deeper (by assumption)))); (case kF => exact rfl); (case kK => exact rfl); (case k1 => k_asm); (case k2 => k_asm); (case k3 => k_asm); (case k4 => k_asm); (case k5 => k_asm); (case k6 => k_is); (case k7 => k_is); (case k8 => ((simp only [depth_under_make, depth_under_kw, depth_in1, depth_deeper]); (simp only [recursionLimit] at *); omega)); (case k9 => first | exact BindsTo.of_eq rfl | exact binds_K (by k_in) rfl (by k_is) rfl rfl rfl); (case c5 => decide); (case kB => exact locs rfl); (case c2 => exact rfl); (case c3 => exact rfl); (case c4 => exact rfl); k_whole; intro g' L' h' FG' F' N' B' X' T'; (try dsimp only); (try k_lift B'); (try k_fold)))) | walk1))))
  all_goals (subst hQ0)
  all_goals (try dsimp only)
  all_goals (simp [lstep, nl, isQ, *] at hR; (rename News _ _ _ _ => hN1); (have hS1 := Sub.of_news hN1); (first | exact hR.one _ _ _ _ _ _ rfl (Ke.of_fr (by assumption)) (sub2 hS1 (.head _) (by first | exact .head _ | exact .tail _ (.head _) | exact .tail _ (.tail _ (.head _)) | exact .tail _ (.tail _ (.tail _ (.head _))) | exact .tail _ (.tail _ (.tail _ (.tail _ (.head _)))) | exact .tail _ (.tail _ (.tail _ (.tail _ (.tail _ (.head _))))))) (by omega) | exact hR.two _ _ _ _ _ _ _ _ _ _ _ _ _ _ rfl (Ke.of_fr (by assumption)) (sub3 hS1 (.head _) (.tail _ (.head _)) (by first | exact .head _ | exact .tail _ (.head _) | exact .tail _ (.tail _ (.head _)) | exact .tail _ (.tail _ (.tail _ (.head _))) | exact .tail _ (.tail _ (.tail _ (.tail _ (.head _)))) | exact .tail _ (.tail _ (.tail _ (.tail _ (.tail _ (.head _))))))) (by omega) (by omega) (by omega)))

theorem st_same (w : World) {s : Shared} {A : Around} {base g : Heap} {fr : List Env} {mg mb : Str → Option Value} {mean : ExcName → Option Value} {a fl : Addr} {c t tm tw tr : Nat} {word : List Nat} {row : Int} {items : List Value} {R : Result → Shared → Prop} 
    (G : Gd w A base fr mean mg mb g) (hroom : A.depth + 4 < recursionLimit) (hh : A.handled = none) (k : Ke g s.heap)
    (S : Sub g s.heap [(a, tupO [.ref fl, .str (Str.ofString "same") tm, .str (ofL word) tw, .int row tr]), (fl, listOf items.toArray 0)]) (hne : a ≠ fl) (hw : word.length ≤ 1000) (hi : items.length ≤ 1000)
    (hR : StepR g s fl items (lstep ⟨[], .same, word, row⟩ c) R) :
    codeAny (model PySem.Challenge.rw_om0137_01.row.prog w) A (.call (.ref 791) ⟨[.ref a, .str (sg c) t], []⟩) R s := by
  replace hne := neN hne
  have hwl : (ofL word).length = word.length := len_ofL word
  have hcl : (sg c).length = 1 := rfl
  have X := G.X
  have hA := G.B.stack
  revert X
  k_fill
  intro X
  refine' enterG G S k ?k6 ?k7 ?k8 ?k9 ?kB ?_ ?c2 ?c3 ?c4 ?c5
  case k6 => k_is
  case k7 => k_is
  case k8 => omega
  case k9 => first | exact BindsTo.of_eq rfl | exact binds_K (Frag.In.keeps X k.keep) rfl (by k_is) rfl rfl rfl
  case kB => exact rfl
  case c2 => decide
  case c3 => exact rfl
  case c4 => exact rfl
  case c5 => exact rfl
  intro L' h₁ F' N' hlt
  have B' := G.B
  have T' := G.T
  clear G S
  k_lt hlt
  refine wpAny_gen fun Q0 E0 hQ0 hE0 => ?_
  clear hE0
  (w_on; repeat' (first | ((with_reducible show wpAny _ _ (execs (_ :: _) _) _ _ (Shared.mk _ _ _ (HAdd.hAdd _ _) _)); refine tok_norm s ?_; intro tkn) | (k_unfold; (try dsimp only)) | ((with_reducible show wpAny _ _ (binaryOp _ (Value.str _ _) (Value.str _ _)) _ _ _); (refine add_ofL (by assumption) ?_; intro t' tk')) | ((k_here; (with_reducible show wpAny _ _ (binaryOp _ (Value.ref _) (Value.ref _)) _ _ _); k_dflt (refine' kmk_add_lit ?F ?N ?a ?b ?e ?_ ?z; (case F => k_asm); (case N => k_asm); (case a => kmk_list); (case b => kmk_list); (case e => exact rfl); (case z => (simp only [sizeLine_eq, List.length_cons, List.length_nil, List.length_append]; omega))); intro D' h' F' N' l1; (try k_lt l1); (try k_sweep))) | ((with_reducible show ite _ _ _); (first | (refine ite_pos (by decide) ?_) | (refine ite_neg (by decide) ?_) | (refine ite_trB (by with_reducible assumption) ?_) | (refine ite_faB (by with_reducible assumption) ?_) | (refine ite_twoB ?_ ?_ <;> (intro hb')))) | (((with_reducible show wpAny _ _ (compareOp CmpOp.Eq (Value.str (sg _) _) (Value.str (Str.ofString _) _)) _ _ _); first | refine eq_sg 10 rfl ?_ | refine eq_sg 34 rfl ?_ | refine eq_sg 39 rfl ?_ | refine eq_sg 92 rfl ?_)) | ((with_reducible show wpAny _ _ (compareOp CmpOp.In (Value.str _ _) (Value.str _ _)) _ _ _); refine in_ws ?_) | ((k_here; (with_reducible show wpAny _ _ (assign (Expr.Tuple _ _ _) _ (Value.ref _)) _ _ _); k_dflt (refine' unpackN_ ?k1 ?k2 ?k3 ?k4 ?k5 ?k6 ?_; (case k1 => k_asm); (case k2 => k_asm); (case k3 => kun_tup); (case k4 => assumption); (case k5 => exact rfl); (case k6 => exact rfl); k_whole); intro h' F' N'; (try k_sweep))) | ((with_reducible show wpAny _ _ (call (Value.ref _) _ _) _ _ _); k_here; k_dflt (refine wpAny_call ?_; (refine' code_def ?k1 ?k2 ?k3 ?k4 ?k5 ?kA ?kF ?kK ?k6 ?k7 ?k8 ?k9 ?kB ?_ ?c2 ?c3 ?c4 ?c5; (case kA => first | exact Around.frames_deeper (by assumption) | exact Around.frames_deeper (Around.frames_deeper (by assumption)) | exact Around.frames_deeper (Around.frames_deeper (Around.frames_deeper (by assumption)))); (case kF => exact rfl); (case kK => exact rfl); (case k1 => k_asm); (case k2 => k_asm); (case k3 => k_asm); (case k4 => k_asm); (case k5 => k_asm); (case k6 => k_is); (case k7 => k_is); (case k8 => ((simp only [depth_under_make, depth_under_kw, depth_in1, depth_deeper]); (simp only [recursionLimit] at *); omega)); (case k9 => first | exact BindsTo.of_eq rfl | exact binds_K (by k_in) rfl (by k_is) rfl rfl rfl); (case c5 => decide); (case kB => exact locs rfl); (case c2 => exact rfl); (case c3 => exact rfl); (case c4 => exact rfl); k_whole; intro g' L' h' FG' F' N' B' X' T'; (try dsimp only); (try k_lift B'); (try k_fold)))) | walk1 | (dsimp only; (first | ((with_reducible show wpAny _ _ (binaryOp _ (Value.str _ _) (Value.str _ _)) _ _ _); (refine add_ofL (by assumption) ?_; intro t' tk')) | ((k_here; (with_reducible show wpAny _ _ (binaryOp _ (Value.ref _) (Value.ref _)) _ _ _); k_dflt (refine' kmk_add_lit ?F ?N ?a ?b ?e ?_ ?z; (case F => k_asm); (case N => k_asm); (case a => kmk_list); (case b => kmk_list); (case e => exact rfl); (case z => (simp only [sizeLine_eq, List.length_cons, List.length_nil, List.length_append]; omega))); intro D' h' F' N' l1; (try k_lt l1); (try k_sweep))) | ((with_reducible show ite _ _ _); (first | (refine ite_pos (by decide) ?_) | (refine ite_neg (by decide) ?_) | (refine ite_trB (by with_reducible assumption) ?_) | (refine ite_faB (by with_reducible assumption) ?_) | (refine ite_twoB ?_ ?_ <;> (intro hb')))) | (((with_reducible show wpAny _ _ (compareOp CmpOp.Eq (Value.str (sg _) _) (Value.str (Str.ofString _) _)) _ _ _); first | refine eq_sg 10 rfl ?_ | refine eq_sg 34 rfl ?_ | refine eq_sg 39 rfl ?_ | refine eq_sg 92 rfl ?_)) | ((with_reducible show wpAny _ _ (compareOp CmpOp.In (Value.str _ _) (Value.str _ _)) _ _ _); refine in_ws ?_) | ((k_here; (with_reducible show wpAny _ _ (assign (Expr.Tuple _ _ _) _ (Value.ref _)) _ _ _); k_dflt (refine' unpackN_ ?k1 ?k2 ?k3 ?k4 ?k5 ?k6 ?_; (case k1 => k_asm); (case k2 => k_asm); (case k3 => kun_tup); (case k4 => assumption); (case k5 => exact rfl); (case k6 => exact rfl); k_whole); intro h' F' N'; (try k_sweep))) | ((with_reducible show wpAny _ _ (call (Value.ref _) _ _) _ _ _); k_here; k_dflt (refine wpAny_call ?_; (refine' code_def ?k1 ?k2 ?k3 ?k4 ?k5 ?kA ?kF ?kK ?k6 ?k7 ?k8 ?k9 ?kB ?_ ?c2 ?c3 ?c4 ?c5; (case kA => first | exact Around.frames_deeper (by assumption) | exact Around.frames_deeper (Around.frames_deeper (by assumption)) | exact Around.frames_deeper (Around.frames_deeper (Around.frames_deeper (by assumption)))); (case kF => exact rfl); (case kK => exact rfl); (case k1 => k_asm); (case k2 => k_asm); (case k3 => k_asm); (case k4 => k_asm); (case k5 => k_asm); (case k6 => k_is); (case k7 => k_is); (case k8 => ((simp only [depth_under_make, depth_under_kw, depth_in1, depth_deeper]); (simp only [recursionLimit] at *); omega)); (case k9 => first | exact BindsTo.of_eq rfl | exact binds_K (by k_in) rfl (by k_is) rfl rfl rfl); (case c5 => decide); (case kB => exact locs rfl); (case c2 => exact rfl); (case c3 => exact rfl); (case c4 => exact rfl); k_whole; intro g' L' h' FG' F' N' B' X' T'; (try dsimp only); (try k_lift B'); (try k_fold)))) | walk1))))
  all_goals (subst hQ0)
  all_goals (try dsimp only)
  all_goals (simp [lstep, nl, isQ, *] at hR; (rename News _ _ _ _ => hN1); (have hS1 := Sub.of_news hN1); (first | exact hR.one _ _ _ _ _ _ rfl (Ke.of_fr (by assumption)) (sub2 hS1 (.head _) (by first | exact .head _ | exact .tail _ (.head _) | exact .tail _ (.tail _ (.head _)) | exact .tail _ (.tail _ (.tail _ (.head _))) | exact .tail _ (.tail _ (.tail _ (.tail _ (.head _)))) | exact .tail _ (.tail _ (.tail _ (.tail _ (.tail _ (.head _))))))) (by omega) | exact hR.two _ _ _ _ _ _ _ _ _ _ _ _ _ _ rfl (Ke.of_fr (by assumption)) (sub3 hS1 (.head _) (.tail _ (.head _)) (by first | exact .head _ | exact .tail _ (.head _) | exact .tail _ (.tail _ (.head _)) | exact .tail _ (.tail _ (.tail _ (.head _))) | exact .tail _ (.tail _ (.tail _ (.tail _ (.head _)))) | exact .tail _ (.tail _ (.tail _ (.tail _ (.tail _ (.head _))))))) (by omega) (by omega) (by omega)))

theorem st_other (w : World) {s : Shared} {A : Around} {base g : Heap} {fr : List Env} {mg mb : Str → Option Value} {mean : ExcName → Option Value} {a fl : Addr} {c t tm tw tr : Nat} {word : List Nat} {row : Int} {items : List Value} {R : Result → Shared → Prop} 
    (G : Gd w A base fr mean mg mb g) (hroom : A.depth + 4 < recursionLimit) (hh : A.handled = none) (k : Ke g s.heap)
    (S : Sub g s.heap [(a, tupO [.ref fl, .str (Str.ofString "other") tm, .str (ofL word) tw, .int row tr]), (fl, listOf items.toArray 0)]) (hne : a ≠ fl) (hw : word.length ≤ 1000) (hi : items.length ≤ 1000)
    (hR : StepR g s fl items (lstep ⟨[], .other, word, row⟩ c) R) :
    codeAny (model PySem.Challenge.rw_om0137_01.row.prog w) A (.call (.ref 791) ⟨[.ref a, .str (sg c) t], []⟩) R s := by
  replace hne := neN hne
  have hwl : (ofL word).length = word.length := len_ofL word
  have hcl : (sg c).length = 1 := rfl
  have X := G.X
  have hA := G.B.stack
  revert X
  k_fill
  intro X
  refine' enterG G S k ?k6 ?k7 ?k8 ?k9 ?kB ?_ ?c2 ?c3 ?c4 ?c5
  case k6 => k_is
  case k7 => k_is
  case k8 => omega
  case k9 => first | exact BindsTo.of_eq rfl | exact binds_K (Frag.In.keeps X k.keep) rfl (by k_is) rfl rfl rfl
  case kB => exact rfl
  case c2 => decide
  case c3 => exact rfl
  case c4 => exact rfl
  case c5 => exact rfl
  intro L' h₁ F' N' hlt
  have B' := G.B
  have T' := G.T
  clear G S
  k_lt hlt
  refine wpAny_gen fun Q0 E0 hQ0 hE0 => ?_
  clear hE0
  (w_on; repeat' (first | ((with_reducible show wpAny _ _ (execs (_ :: _) _) _ _ (Shared.mk _ _ _ (HAdd.hAdd _ _) _)); refine tok_norm s ?_; intro tkn) | (k_unfold; (try dsimp only)) | ((with_reducible show wpAny _ _ (binaryOp _ (Value.str _ _) (Value.str _ _)) _ _ _); (refine add_ofL (by assumption) ?_; intro t' tk')) | ((k_here; (with_reducible show wpAny _ _ (binaryOp _ (Value.ref _) (Value.ref _)) _ _ _); k_dflt (refine' kmk_add_lit ?F ?N ?a ?b ?e ?_ ?z; (case F => k_asm); (case N => k_asm); (case a => kmk_list); (case b => kmk_list); (case e => exact rfl); (case z => (simp only [sizeLine_eq, List.length_cons, List.length_nil, List.length_append]; omega))); intro D' h' F' N' l1; (try k_lt l1); (try k_sweep))) | ((with_reducible show ite _ _ _); (first | (refine ite_pos (by decide) ?_) | (refine ite_neg (by decide) ?_) | (refine ite_trB (by with_reducible assumption) ?_) | (refine ite_faB (by with_reducible assumption) ?_) | (refine ite_twoB ?_ ?_ <;> (intro hb')))) | (((with_reducible show wpAny _ _ (compareOp CmpOp.Eq (Value.str (sg _) _) (Value.str (Str.ofString _) _)) _ _ _); first | refine eq_sg 10 rfl ?_ | refine eq_sg 34 rfl ?_ | refine eq_sg 39 rfl ?_ | refine eq_sg 92 rfl ?_)) | ((with_reducible show wpAny _ _ (compareOp CmpOp.In (Value.str _ _) (Value.str _ _)) _ _ _); refine in_ws ?_) | ((k_here; (with_reducible show wpAny _ _ (assign (Expr.Tuple _ _ _) _ (Value.ref _)) _ _ _); k_dflt (refine' unpackN_ ?k1 ?k2 ?k3 ?k4 ?k5 ?k6 ?_; (case k1 => k_asm); (case k2 => k_asm); (case k3 => kun_tup); (case k4 => assumption); (case k5 => exact rfl); (case k6 => exact rfl); k_whole); intro h' F' N'; (try k_sweep))) | ((with_reducible show wpAny _ _ (call (Value.ref _) _ _) _ _ _); k_here; k_dflt (refine wpAny_call ?_; (refine' code_def ?k1 ?k2 ?k3 ?k4 ?k5 ?kA ?kF ?kK ?k6 ?k7 ?k8 ?k9 ?kB ?_ ?c2 ?c3 ?c4 ?c5; (case kA => first | exact Around.frames_deeper (by assumption) | exact Around.frames_deeper (Around.frames_deeper (by assumption)) | exact Around.frames_deeper (Around.frames_deeper (Around.frames_deeper (by assumption)))); (case kF => exact rfl); (case kK => exact rfl); (case k1 => k_asm); (case k2 => k_asm); (case k3 => k_asm); (case k4 => k_asm); (case k5 => k_asm); (case k6 => k_is); (case k7 => k_is); (case k8 => ((simp only [depth_under_make, depth_under_kw, depth_in1, depth_deeper]); (simp only [recursionLimit] at *); omega)); (case k9 => first | exact BindsTo.of_eq rfl | exact binds_K (by k_in) rfl (by k_is) rfl rfl rfl); (case c5 => decide); (case kB => exact locs rfl); (case c2 => exact rfl); (case c3 => exact rfl); (case c4 => exact rfl); k_whole; intro g' L' h' FG' F' N' B' X' T'; (try dsimp only); (try k_lift B'); (try k_fold)))) | walk1 | (dsimp only; (first | ((with_reducible show wpAny _ _ (binaryOp _ (Value.str _ _) (Value.str _ _)) _ _ _); (refine add_ofL (by assumption) ?_; intro t' tk')) | ((k_here; (with_reducible show wpAny _ _ (binaryOp _ (Value.ref _) (Value.ref _)) _ _ _); k_dflt (refine' kmk_add_lit ?F ?N ?a ?b ?e ?_ ?z; (case F => k_asm); (case N => k_asm); (case a => kmk_list); (case b => kmk_list); (case e => exact rfl); (case z => (simp only [sizeLine_eq, List.length_cons, List.length_nil, List.length_append]; omega))); intro D' h' F' N' l1; (try k_lt l1); (try k_sweep))) | ((with_reducible show ite _ _ _); (first | (refine ite_pos (by decide) ?_) | (refine ite_neg (by decide) ?_) | (refine ite_trB (by with_reducible assumption) ?_) | (refine ite_faB (by with_reducible assumption) ?_) | (refine ite_twoB ?_ ?_ <;> (intro hb')))) | (((with_reducible show wpAny _ _ (compareOp CmpOp.Eq (Value.str (sg _) _) (Value.str (Str.ofString _) _)) _ _ _); first | refine eq_sg 10 rfl ?_ | refine eq_sg 34 rfl ?_ | refine eq_sg 39 rfl ?_ | refine eq_sg 92 rfl ?_)) | ((with_reducible show wpAny _ _ (compareOp CmpOp.In (Value.str _ _) (Value.str _ _)) _ _ _); refine in_ws ?_) | ((k_here; (with_reducible show wpAny _ _ (assign (Expr.Tuple _ _ _) _ (Value.ref _)) _ _ _); k_dflt (refine' unpackN_ ?k1 ?k2 ?k3 ?k4 ?k5 ?k6 ?_; (case k1 => k_asm); (case k2 => k_asm); (case k3 => kun_tup); (case k4 => assumption); (case k5 => exact rfl); (case k6 => exact rfl); k_whole); intro h' F' N'; (try k_sweep))) | ((with_reducible show wpAny _ _ (call (Value.ref _) _ _) _ _ _); k_here; k_dflt (refine wpAny_call ?_; (refine' code_def ?k1 ?k2 ?k3 ?k4 ?k5 ?kA ?kF ?kK ?k6 ?k7 ?k8 ?k9 ?kB ?_ ?c2 ?c3 ?c4 ?c5; (case kA => first | exact Around.frames_deeper (by assumption) | exact Around.frames_deeper (Around.frames_deeper (by assumption)) | exact Around.frames_deeper (Around.frames_deeper (Around.frames_deeper (by assumption)))); (case kF => exact rfl); (case kK => exact rfl); (case k1 => k_asm); (case k2 => k_asm); (case k3 => k_asm); (case k4 => k_asm); (case k5 => k_asm); (case k6 => k_is); (case k7 => k_is); (case k8 => ((simp only [depth_under_make, depth_under_kw, depth_in1, depth_deeper]); (simp only [recursionLimit] at *); omega)); (case k9 => first | exact BindsTo.of_eq rfl | exact binds_K (by k_in) rfl (by k_is) rfl rfl rfl); (case c5 => decide); (case kB => exact locs rfl); (case c2 => exact rfl); (case c3 => exact rfl); (case c4 => exact rfl); k_whole; intro g' L' h' FG' F' N' B' X' T'; (try dsimp only); (try k_lift B'); (try k_fold)))) | walk1))))
  all_goals (subst hQ0)
  all_goals (try dsimp only)
  all_goals (simp [lstep, nl, isQ, *] at hR; (rename News _ _ _ _ => hN1); (have hS1 := Sub.of_news hN1); (first | exact hR.one _ _ _ _ _ _ rfl (Ke.of_fr (by assumption)) (sub2 hS1 (.head _) (by first | exact .head _ | exact .tail _ (.head _) | exact .tail _ (.tail _ (.head _)) | exact .tail _ (.tail _ (.tail _ (.head _))) | exact .tail _ (.tail _ (.tail _ (.tail _ (.head _)))) | exact .tail _ (.tail _ (.tail _ (.tail _ (.tail _ (.head _))))))) (by omega) | exact hR.two _ _ _ _ _ _ _ _ _ _ _ _ _ _ rfl (Ke.of_fr (by assumption)) (sub3 hS1 (.head _) (.tail _ (.head _)) (by first | exact .head _ | exact .tail _ (.head _) | exact .tail _ (.tail _ (.head _)) | exact .tail _ (.tail _ (.tail _ (.head _))) | exact .tail _ (.tail _ (.tail _ (.tail _ (.head _)))) | exact .tail _ (.tail _ (.tail _ (.tail _ (.tail _ (.head _))))))) (by omega) (by omega) (by omega)))

theorem st_q34 (w : World) {s : Shared} {A : Around} {base g : Heap} {fr : List Env} {mg mb : Str → Option Value} {mean : ExcName → Option Value} {a fl : Addr} {c t tm tw tr : Nat} {word : List Nat} {row : Int} {items : List Value} {R : Result → Shared → Prop} 
    (G : Gd w A base fr mean mg mb g) (hroom : A.depth + 4 < recursionLimit) (hh : A.handled = none) (k : Ke g s.heap)
    (S : Sub g s.heap [(a, tupO [.ref fl, .str (Str.ofString "\"") tm, .str (ofL word) tw, .int row tr]), (fl, listOf items.toArray 0)]) (hne : a ≠ fl) (hw : word.length ≤ 1000) (hi : items.length ≤ 1000)
    (hR : StepR g s fl items (lstep ⟨[], (.q 34), word, row⟩ c) R) :
    codeAny (model PySem.Challenge.rw_om0137_01.row.prog w) A (.call (.ref 791) ⟨[.ref a, .str (sg c) t], []⟩) R s := by
  replace hne := neN hne
  have hwl : (ofL word).length = word.length := len_ofL word
  have hcl : (sg c).length = 1 := rfl
  have X := G.X
  have hA := G.B.stack
  revert X
  k_fill
  intro X
  refine' enterG G S k ?k6 ?k7 ?k8 ?k9 ?kB ?_ ?c2 ?c3 ?c4 ?c5
  case k6 => k_is
  case k7 => k_is
  case k8 => omega
  case k9 => first | exact BindsTo.of_eq rfl | exact binds_K (Frag.In.keeps X k.keep) rfl (by k_is) rfl rfl rfl
  case kB => exact rfl
  case c2 => decide
  case c3 => exact rfl
  case c4 => exact rfl
  case c5 => exact rfl
  intro L' h₁ F' N' hlt
  have B' := G.B
  have T' := G.T
  clear G S
  k_lt hlt
  refine wpAny_gen fun Q0 E0 hQ0 hE0 => ?_
  clear hE0
  (w_on; repeat' (first | ((with_reducible show wpAny _ _ (execs (_ :: _) _) _ _ (Shared.mk _ _ _ (HAdd.hAdd _ _) _)); refine tok_norm s ?_; intro tkn) | (k_unfold; (try dsimp only)) | ((with_reducible show wpAny _ _ (binaryOp _ (Value.str _ _) (Value.str _ _)) _ _ _); (refine add_ofL (by assumption) ?_; intro t' tk')) | ((k_here; (with_reducible show wpAny _ _ (binaryOp _ (Value.ref _) (Value.ref _)) _ _ _); k_dflt (refine' kmk_add_lit ?F ?N ?a ?b ?e ?_ ?z; (case F => k_asm); (case N => k_asm); (case a => kmk_list); (case b => kmk_list); (case e => exact rfl); (case z => (simp only [sizeLine_eq, List.length_cons, List.length_nil, List.length_append]; omega))); intro D' h' F' N' l1; (try k_lt l1); (try k_sweep))) | ((with_reducible show ite _ _ _); (first | (refine ite_pos (by decide) ?_) | (refine ite_neg (by decide) ?_) | (refine ite_trB (by with_reducible assumption) ?_) | (refine ite_faB (by with_reducible assumption) ?_) | (refine ite_twoB ?_ ?_ <;> (intro hb')))) | (((with_reducible show wpAny _ _ (compareOp CmpOp.Eq (Value.str (sg _) _) (Value.str (Str.ofString _) _)) _ _ _); first | refine eq_sg 10 rfl ?_ | refine eq_sg 34 rfl ?_ | refine eq_sg 39 rfl ?_ | refine eq_sg 92 rfl ?_)) | ((with_reducible show wpAny _ _ (compareOp CmpOp.In (Value.str _ _) (Value.str _ _)) _ _ _); refine in_ws ?_) | ((k_here; (with_reducible show wpAny _ _ (assign (Expr.Tuple _ _ _) _ (Value.ref _)) _ _ _); k_dflt (refine' unpackN_ ?k1 ?k2 ?k3 ?k4 ?k5 ?k6 ?_; (case k1 => k_asm); (case k2 => k_asm); (case k3 => kun_tup); (case k4 => assumption); (case k5 => exact rfl); (case k6 => exact rfl); k_whole); intro h' F' N'; (try k_sweep))) | ((with_reducible show wpAny _ _ (call (Value.ref _) _ _) _ _ _); k_here; k_dflt (refine wpAny_call ?_; (refine' code_def ?k1 ?k2 ?k3 ?k4 ?k5 ?kA ?kF ?kK ?k6 ?k7 ?k8 ?k9 ?kB ?_ ?c2 ?c3 ?c4 ?c5; (case kA => first | exact Around.frames_deeper (by assumption) | exact Around.frames_deeper (Around.frames_deeper (by assumption)) | exact Around.frames_deeper (Around.frames_deeper (Around.frames_deeper (by assumption)))); (case kF => exact rfl); (case kK => exact rfl); (case k1 => k_asm); (case k2 => k_asm); (case k3 => k_asm); (case k4 => k_asm); (case k5 => k_asm); (case k6 => k_is); (case k7 => k_is); (case k8 => ((simp only [depth_under_make, depth_under_kw, depth_in1, depth_deeper]); (simp only [recursionLimit] at *); omega)); (case k9 => first | exact BindsTo.of_eq rfl | exact binds_K (by k_in) rfl (by k_is) rfl rfl rfl); (case c5 => decide); (case kB => exact locs rfl); (case c2 => exact rfl); (case c3 => exact rfl); (case c4 => exact rfl); k_whole; intro g' L' h' FG' F' N' B' X' T'; (try dsimp only); (try k_lift B'); (try k_fold)))) | walk1 | (dsimp only; (first | ((with_reducible show wpAny _ _ (binaryOp _ (Value.str _ _) (Value.str _ _)) _ _ _); (refine add_ofL (by assumption) ?_; intro t' tk')) | ((k_here; (with_reducible show wpAny _ _ (binaryOp _ (Value.ref _) (Value.ref _)) _ _ _); k_dflt (refine' kmk_add_lit ?F ?N ?a ?b ?e ?_ ?z; (case F => k_asm); (case N => k_asm); (case a => kmk_list); (case b => kmk_list); (case e => exact rfl); (case z => (simp only [sizeLine_eq, List.length_cons, List.length_nil, List.length_append]; omega))); intro D' h' F' N' l1; (try k_lt l1); (try k_sweep))) | ((with_reducible show ite _ _ _); (first | (refine ite_pos (by decide) ?_) | (refine ite_neg (by decide) ?_) | (refine ite_trB (by with_reducible assumption) ?_) | (refine ite_faB (by with_reducible assumption) ?_) | (refine ite_twoB ?_ ?_ <;> (intro hb')))) | (((with_reducible show wpAny _ _ (compareOp CmpOp.Eq (Value.str (sg _) _) (Value.str (Str.ofString _) _)) _ _ _); first | refine eq_sg 10 rfl ?_ | refine eq_sg 34 rfl ?_ | refine eq_sg 39 rfl ?_ | refine eq_sg 92 rfl ?_)) | ((with_reducible show wpAny _ _ (compareOp CmpOp.In (Value.str _ _) (Value.str _ _)) _ _ _); refine in_ws ?_) | ((k_here; (with_reducible show wpAny _ _ (assign (Expr.Tuple _ _ _) _ (Value.ref _)) _ _ _); k_dflt (refine' unpackN_ ?k1 ?k2 ?k3 ?k4 ?k5 ?k6 ?_; (case k1 => k_asm); (case k2 => k_asm); (case k3 => kun_tup); (case k4 => assumption); (case k5 => exact rfl); (case k6 => exact rfl); k_whole); intro h' F' N'; (try k_sweep))) | ((with_reducible show wpAny _ _ (call (Value.ref _) _ _) _ _ _); k_here; k_dflt (refine wpAny_call ?_; (refine' code_def ?k1 ?k2 ?k3 ?k4 ?k5 ?kA ?kF ?kK ?k6 ?k7 ?k8 ?k9 ?kB ?_ ?c2 ?c3 ?c4 ?c5; (case kA => first | exact Around.frames_deeper (by assumption) | exact Around.frames_deeper (Around.frames_deeper (by assumption)) | exact Around.frames_deeper (Around.frames_deeper (Around.frames_deeper (by assumption)))); (case kF => exact rfl); (case kK => exact rfl); (case k1 => k_asm); (case k2 => k_asm); (case k3 => k_asm); (case k4 => k_asm); (case k5 => k_asm); (case k6 => k_is); (case k7 => k_is); (case k8 => ((simp only [depth_under_make, depth_under_kw, depth_in1, depth_deeper]); (simp only [recursionLimit] at *); omega)); (case k9 => first | exact BindsTo.of_eq rfl | exact binds_K (by k_in) rfl (by k_is) rfl rfl rfl); (case c5 => decide); (case kB => exact locs rfl); (case c2 => exact rfl); (case c3 => exact rfl); (case c4 => exact rfl); k_whole; intro g' L' h' FG' F' N' B' X' T'; (try dsimp only); (try k_lift B'); (try k_fold)))) | walk1))))
  all_goals (subst hQ0)
  all_goals (try dsimp only)
  all_goals (simp [lstep, nl, isQ, *] at hR; (rename News _ _ _ _ => hN1); (have hS1 := Sub.of_news hN1); (first | exact hR.one _ _ _ _ _ _ rfl (Ke.of_fr (by assumption)) (sub2 hS1 (.head _) (by first | exact .head _ | exact .tail _ (.head _) | exact .tail _ (.tail _ (.head _)) | exact .tail _ (.tail _ (.tail _ (.head _))) | exact .tail _ (.tail _ (.tail _ (.tail _ (.head _)))) | exact .tail _ (.tail _ (.tail _ (.tail _ (.tail _ (.head _))))))) (by omega) | exact hR.two _ _ _ _ _ _ _ _ _ _ _ _ _ _ rfl (Ke.of_fr (by assumption)) (sub3 hS1 (.head _) (.tail _ (.head _)) (by first | exact .head _ | exact .tail _ (.head _) | exact .tail _ (.tail _ (.head _)) | exact .tail _ (.tail _ (.tail _ (.head _))) | exact .tail _ (.tail _ (.tail _ (.tail _ (.head _)))) | exact .tail _ (.tail _ (.tail _ (.tail _ (.tail _ (.head _))))))) (by omega) (by omega) (by omega)))

theorem st_q39 (w : World) {s : Shared} {A : Around} {base g : Heap} {fr : List Env} {mg mb : Str → Option Value} {mean : ExcName → Option Value} {a fl : Addr} {c t tm tw tr : Nat} {word : List Nat} {row : Int} {items : List Value} {R : Result → Shared → Prop} 
    (G : Gd w A base fr mean mg mb g) (hroom : A.depth + 4 < recursionLimit) (hh : A.handled = none) (k : Ke g s.heap)
    (S : Sub g s.heap [(a, tupO [.ref fl, .str (Str.ofString "'") tm, .str (ofL word) tw, .int row tr]), (fl, listOf items.toArray 0)]) (hne : a ≠ fl) (hw : word.length ≤ 1000) (hi : items.length ≤ 1000)
    (hR : StepR g s fl items (lstep ⟨[], (.q 39), word, row⟩ c) R) :
    codeAny (model PySem.Challenge.rw_om0137_01.row.prog w) A (.call (.ref 791) ⟨[.ref a, .str (sg c) t], []⟩) R s := by
  replace hne := neN hne
  have hwl : (ofL word).length = word.length := len_ofL word
  have hcl : (sg c).length = 1 := rfl
  have X := G.X
  have hA := G.B.stack
  revert X
  k_fill
  intro X
  refine' enterG G S k ?k6 ?k7 ?k8 ?k9 ?kB ?_ ?c2 ?c3 ?c4 ?c5
  case k6 => k_is
  case k7 => k_is
  case k8 => omega
  case k9 => first | exact BindsTo.of_eq rfl | exact binds_K (Frag.In.keeps X k.keep) rfl (by k_is) rfl rfl rfl
  case kB => exact rfl
  case c2 => decide
  case c3 => exact rfl
  case c4 => exact rfl
  case c5 => exact rfl
  intro L' h₁ F' N' hlt
  have B' := G.B
  have T' := G.T
  clear G S
  k_lt hlt
  refine wpAny_gen fun Q0 E0 hQ0 hE0 => ?_
  clear hE0
  (w_on; repeat' (first | ((with_reducible show wpAny _ _ (execs (_ :: _) _) _ _ (Shared.mk _ _ _ (HAdd.hAdd _ _) _)); refine tok_norm s ?_; intro tkn) | (k_unfold; (try dsimp only)) | ((with_reducible show wpAny _ _ (binaryOp _ (Value.str _ _) (Value.str _ _)) _ _ _); (refine add_ofL (by assumption) ?_; intro t' tk')) | ((k_here; (with_reducible show wpAny _ _ (binaryOp _ (Value.ref _) (Value.ref _)) _ _ _); k_dflt (refine' kmk_add_lit ?F ?N ?a ?b ?e ?_ ?z; (case F => k_asm); (case N => k_asm); (case a => kmk_list); (case b => kmk_list); (case e => exact rfl); (case z => (simp only [sizeLine_eq, List.length_cons, List.length_nil, List.length_append]; omega))); intro D' h' F' N' l1; (try k_lt l1); (try k_sweep))) | ((with_reducible show ite _ _ _); (first | (refine ite_pos (by decide) ?_) | (refine ite_neg (by decide) ?_) | (refine ite_trB (by with_reducible assumption) ?_) | (refine ite_faB (by with_reducible assumption) ?_) | (refine ite_twoB ?_ ?_ <;> (intro hb')))) | (((with_reducible show wpAny _ _ (compareOp CmpOp.Eq (Value.str (sg _) _) (Value.str (Str.ofString _) _)) _ _ _); first | refine eq_sg 10 rfl ?_ | refine eq_sg 34 rfl ?_ | refine eq_sg 39 rfl ?_ | refine eq_sg 92 rfl ?_)) | ((with_reducible show wpAny _ _ (compareOp CmpOp.In (Value.str _ _) (Value.str _ _)) _ _ _); refine in_ws ?_) | ((k_here; (with_reducible show wpAny _ _ (assign (Expr.Tuple _ _ _) _ (Value.ref _)) _ _ _); k_dflt (refine' unpackN_ ?k1 ?k2 ?k3 ?k4 ?k5 ?k6 ?_; (case k1 => k_asm); (case k2 => k_asm); (case k3 => kun_tup); (case k4 => assumption); (case k5 => exact rfl); (case k6 => exact rfl); k_whole); intro h' F' N'; (try k_sweep))) | ((with_reducible show wpAny _ _ (call (Value.ref _) _ _) _ _ _); k_here; k_dflt (refine wpAny_call ?_; (refine' code_def ?k1 ?k2 ?k3 ?k4 ?k5 ?kA ?kF ?kK ?k6 ?k7 ?k8 ?k9 ?kB ?_ ?c2 ?c3 ?c4 ?c5; (case kA => first | exact Around.frames_deeper (by assumption) | exact Around.frames_deeper (Around.frames_deeper (by assumption)) | exact Around.frames_deeper (Around.frames_deeper (Around.frames_deeper (by assumption)))); (case kF => exact rfl); (case kK => exact rfl); (case k1 => k_asm); (case k2 => k_asm); (case k3 => k_asm); (case k4 => k_asm); (case k5 => k_asm); (case k6 => k_is); (case k7 => k_is); (case k8 => ((simp only [depth_under_make, depth_under_kw, depth_in1, depth_deeper]); (simp only [recursionLimit] at *); omega)); (case k9 => first | exact BindsTo.of_eq rfl | exact binds_K (by k_in) rfl (by k_is) rfl rfl rfl); (case c5 => decide); (case kB => exact locs rfl); (case c2 => exact rfl); (case c3 => exact rfl); (case c4 => exact rfl); k_whole; intro g' L' h' FG' F' N' B' X' T'; (try dsimp only); (try k_lift B'); (try k_fold)))) | walk1 | (dsimp only; (first | ((with_reducible show wpAny _ _ (binaryOp _ (Value.str _ _) (Value.str _ _)) _ _ _); (refine add_ofL (by assumption) ?_; intro t' tk')) | ((k_here; (with_reducible show wpAny _ _ (binaryOp _ (Value.ref _) (Value.ref _)) _ _ _); k_dflt (refine' kmk_add_lit ?F ?N ?a ?b ?e ?_ ?z; (case F => k_asm); (case N => k_asm); (case a => kmk_list); (case b => kmk_list); (case e => exact rfl); (case z => (simp only [sizeLine_eq, List.length_cons, List.length_nil, List.length_append]; omega))); intro D' h' F' N' l1; (try k_lt l1); (try k_sweep))) | ((with_reducible show ite _ _ _); (first | (refine ite_pos (by decide) ?_) | (refine ite_neg (by decide) ?_) | (refine ite_trB (by with_reducible assumption) ?_) | (refine ite_faB (by with_reducible assumption) ?_) | (refine ite_twoB ?_ ?_ <;> (intro hb')))) | (((with_reducible show wpAny _ _ (compareOp CmpOp.Eq (Value.str (sg _) _) (Value.str (Str.ofString _) _)) _ _ _); first | refine eq_sg 10 rfl ?_ | refine eq_sg 34 rfl ?_ | refine eq_sg 39 rfl ?_ | refine eq_sg 92 rfl ?_)) | ((with_reducible show wpAny _ _ (compareOp CmpOp.In (Value.str _ _) (Value.str _ _)) _ _ _); refine in_ws ?_) | ((k_here; (with_reducible show wpAny _ _ (assign (Expr.Tuple _ _ _) _ (Value.ref _)) _ _ _); k_dflt (refine' unpackN_ ?k1 ?k2 ?k3 ?k4 ?k5 ?k6 ?_; (case k1 => k_asm); (case k2 => k_asm); (case k3 => kun_tup); (case k4 => assumption); (case k5 => exact rfl); (case k6 => exact rfl); k_whole); intro h' F' N'; (try k_sweep))) | ((with_reducible show wpAny _ _ (call (Value.ref _) _ _) _ _ _); k_here; k_dflt (refine wpAny_call ?_; (refine' code_def ?k1 ?k2 ?k3 ?k4 ?k5 ?kA ?kF ?kK ?k6 ?k7 ?k8 ?k9 ?kB ?_ ?c2 ?c3 ?c4 ?c5; (case kA => first | exact Around.frames_deeper (by assumption) | exact Around.frames_deeper (Around.frames_deeper (by assumption)) | exact Around.frames_deeper (Around.frames_deeper (Around.frames_deeper (by assumption)))); (case kF => exact rfl); (case kK => exact rfl); (case k1 => k_asm); (case k2 => k_asm); (case k3 => k_asm); (case k4 => k_asm); (case k5 => k_asm); (case k6 => k_is); (case k7 => k_is); (case k8 => ((simp only [depth_under_make, depth_under_kw, depth_in1, depth_deeper]); (simp only [recursionLimit] at *); omega)); (case k9 => first | exact BindsTo.of_eq rfl | exact binds_K (by k_in) rfl (by k_is) rfl rfl rfl); (case c5 => decide); (case kB => exact locs rfl); (case c2 => exact rfl); (case c3 => exact rfl); (case c4 => exact rfl); k_whole; intro g' L' h' FG' F' N' B' X' T'; (try dsimp only); (try k_lift B'); (try k_fold)))) | walk1))))
  all_goals (subst hQ0)
  all_goals (try dsimp only)
  all_goals (simp [lstep, nl, isQ, *] at hR; (rename News _ _ _ _ => hN1); (have hS1 := Sub.of_news hN1); (first | exact hR.one _ _ _ _ _ _ rfl (Ke.of_fr (by assumption)) (sub2 hS1 (.head _) (by first | exact .head _ | exact .tail _ (.head _) | exact .tail _ (.tail _ (.head _)) | exact .tail _ (.tail _ (.tail _ (.head _))) | exact .tail _ (.tail _ (.tail _ (.tail _ (.head _)))) | exact .tail _ (.tail _ (.tail _ (.tail _ (.tail _ (.head _))))))) (by omega) | exact hR.two _ _ _ _ _ _ _ _ _ _ _ _ _ _ rfl (Ke.of_fr (by assumption)) (sub3 hS1 (.head _) (.tail _ (.head _)) (by first | exact .head _ | exact .tail _ (.head _) | exact .tail _ (.tail _ (.head _)) | exact .tail _ (.tail _ (.tail _ (.head _))) | exact .tail _ (.tail _ (.tail _ (.tail _ (.head _)))) | exact .tail _ (.tail _ (.tail _ (.tail _ (.tail _ (.head _))))))) (by omega) (by omega) (by omega)))
end Mine
end

section
open PySem PySem.W PyProof.Rows PySem.Calls
set_option Elab.async false
set_option maxRecDepth 100000
set_option maxHeartbeats 8000000
namespace Mine
noncomputable def okM : Md → Prop
  | .q m => m = 34 ∨ m = 39
  | _ => True
theorem step_ok (w : World) {s : Shared} {A : Around} {base g : Heap} {fr : List Env} {mg mb : Str → Option Value} {mean : ExcName → Option Value} {a fl : Addr} {c t tm tw tr : Nat} {M : Md} {word : List Nat} {row : Int} {items : List Value} {R : Result → Shared → Prop}
    (G : Gd w A base fr mean mg mb g) (hroom : A.depth + 4 < recursionLimit) (hh : A.handled = none) (k : Ke g s.heap) (hm : okM M)
    (S : Sub g s.heap [(a, tupO [.ref fl, .str (mS M) tm, .str (ofL word) tw, .int row tr]), (fl, listOf items.toArray 0)]) (hne : a ≠ fl) (hw : word.length ≤ 1000) (hi : items.length ≤ 1000)
    (hR : StepR g s fl items (lstep ⟨[], M, word, row⟩ c) R) :
    codeAny (model PySem.Challenge.rw_om0137_01.row.prog w) A (.call (.ref 791) ⟨[.ref a, .str (sg c) t], []⟩) R s := by
  cases M with
  | between => exact st_between w G hroom hh k S hne hw hi hR
  | plain => exact st_plain w G hroom hh k S hne hw hi hR
  | pesc => exact st_pesc w G hroom hh k S hne hw hi hR
  | quoted => exact st_quoted w G hroom hh k S hne hw hi hR
  | qesc => exact st_qesc w G hroom hh k S hne hw hi hR
  | closed => exact st_closed w G hroom hh k S hne hw hi hR
  | alike => exact st_alike w G hroom hh k S hne hw hi hR
  | same => exact st_same w G hroom hh k S hne hw hi hR
  | other => exact st_other w G hroom hh k S hne hw hi hR
  | q m =>
    rcases hm with rfl | rfl
    · exact st_q34 w G hroom hh k S hne hw hi hR
    · exact st_q39 w G hroom hh k S hne hw hi hR
theorem lstep_ok (t : Td) (c : Nat) (h : okM t.m) : okM (lstep t c).m := by
  obtain ⟨f, m, w, r⟩ := t
  cases m <;> simp only [lstep] <;> (repeat' split) <;> first | trivial | exact h | (rename_i hq; unfold isQ at hq; rw [Bool.or_eq_true, beq_iff_eq, beq_iff_eq] at hq; exact hq)
theorem lstep_len (t : Td) (c : Nat) : (lstep t c).w.length ≤ t.w.length + 1 := by
  obtain ⟨f, m, w, r⟩ := t
  cases m <;> simp only [lstep] <;> (repeat' split) <;> simp
theorem lstep_one (M : Md) (w : List Nat) (r : Int) (c : Nat) : (lstep ⟨[], M, w, r⟩ c).f = [] ∨ ∃ e, (lstep ⟨[], M, w, r⟩ c).f = [e] := by
  cases M <;> simp only [lstep] <;> (repeat' split) <;> simp
end Mine
end

section
open PySem PySem.W PyProof.Rows PySem.Calls
set_option Elab.async false
set_option maxRecDepth 100000
set_option maxHeartbeats 8000000
namespace Mine
/-- the found words, as a list of tuples -/
inductive FR : Fd → List Value → List (Addr × Obj) → Prop
  | nil : FR [] [] []
  | app {f items ft k b d x u1 u2 u3} : FR f items ft → FR (f ++ [(k, b, d)]) (items ++ [.ref x]) ((x, tupO [.str (ofL k) u1, .int b u2, .int d u3]) :: ft)
theorem FR.length {f : Fd} {items : List Value} {ft : List (Addr × Obj)} (h : FR f items ft) : items.length = f.length := by
  induction h with
  | nil => rfl
  | app _ ih => simp [ih]
/-- the ledger of what was told -/
noncomputable abbrev TL (a fl : Addr) (T : Td) (items : List Value) (tm tw tr : Nat) : List (Addr × Obj) := [(a, tupO [.ref fl, .str (mS T.m) tm, .str (ofL T.w) tw, .int T.r tr]), (fl, listOf items.toArray 0)]
theorem lstep_eq (T : Td) (c : Nat) : lstep T c = ⟨T.f ++ (lstep ⟨[], T.m, T.w, T.r⟩ c).f, (lstep ⟨[], T.m, T.w, T.r⟩ c).m, (lstep ⟨[], T.m, T.w, T.r⟩ c).w, (lstep ⟨[], T.m, T.w, T.r⟩ c).r⟩ := by
  have := lstep_f ⟨[], T.m, T.w, T.r⟩ c T.f
  simpa using this
section
variable {w : World} {s s' : Shared} {A : Around} {base g : Heap} {fr : List Env} {mg mb : Str → Option Value} {mean : ExcName → Option Value} {cn : Str} {cs : Scope} {cd : Value} {L f : Addr} {E : Value → Shared → Prop} {m : Str → Option Value} {h : Heap}
/-- a call of _law_step within a frame -/
theorem step_K (G : Gd w A base fr mean mg mb g) (hroom : A.depth + 8 < recursionLimit) (hh : A.handled = none) (hk : cs.kind = .function) {a fl it : Addr} {T : Td} {items : List Value} {ft : List (Addr × Obj)} {tm tw tr c t tk : Nat} {o : Obj}
    (F : Fr g L h m) (N : News g L h (TL a fl T items tm tw tr ++ ((it, o) :: ft))) (hfr : FR T.f items ft) (hm : okM T.m) (hne : a ≠ fl) (hap : ∀ p ∈ (it, o) :: ft, p.1 ≠ a ∧ p.1 ≠ fl) (hitf : ∀ p ∈ ft, p.1 ≠ it) (hw : T.w.length ≤ 999) (hf : T.f.length ≤ 999) {Q : Value → Shared → Prop}
    (hQ : ∀ a' fl' items' ft' tm tw tr h' tk, Fr g L h' m → News g L h' (TL a' fl' (lstep T c) items' tm tw tr ++ ((it, o) :: ft')) → FR (lstep T c).f items' ft' → a' ≠ fl' → (∀ p ∈ (it, o) :: ft', p.1 ≠ a' ∧ p.1 ≠ fl') → (∀ p ∈ ft', p.1 ≠ it) → Q (.ref a') { s with heap := h', toks := tk }) :
    wpAny (model PySem.Challenge.rw_om0137_01.row.prog w) (A.deeper (envOf cn cs L f cd)) (call (.ref 791) [.ref a, .str (sg c) t]) Q E { s with heap := h, toks := tk } := by
  have NS : News g L h (TL a fl T items tm tw tr) := fun q hq => N q (List.mem_append_left _ hq)
  have NR : News g L h ((it, o) :: ft) := fun q hq => N q (List.mem_append_right _ hq)
  obtain ⟨G', S', k', back⟩ := pushY (A := A.deeper (envOf cn cs L f cd)) (env := envOf cn cs L f cd) (s := { s with heap := h, toks := tk }) G.B F NS (Around.frames_deeper G.B.stack) rfl hk G.X G.T
  have hnm : ∀ p ∈ (it, o) :: ft, p.1 ∉ List.map (fun x : Addr × Obj => x.1) (TL a fl T items tm tw tr) := fun p hp hm => by
    simp only [List.map_cons, List.map_nil, List.mem_cons, List.not_mem_nil, or_false] at hm
    rcases hm with z | z
    · exact (hap p hp).1 z
    · exact (hap p hp).2 z
  have apart : ∀ {h' : Heap} {sub' : List (Addr × Obj)}, Sub (hideAll h (List.map (fun x : Addr × Obj => x.1) (TL a fl T items tm tw tr))) h' sub' → ∀ q ∈ sub', ∀ p ∈ (it, o) :: ft, p.1 ≠ q.1 := by
    intro h' sub' SS q hq p hp e
    have h1 := (SS q hq).2
    rw [← e, hideAll_get _ (NR p hp).1 (hnm p hp)] at h1
    cases h1
  refine wpAny_call (step_ok w G' (by simp only [depth_deeper]; omega) hh k' hm S' hne (by omega) (by rw [hfr.length]; omega) ⟨?_, ?_⟩)
  · intro a' h' tk' t1 t2 t3 hf0 hk' SS hne'
    obtain ⟨F2, N2⟩ := back _ NR hnm h' _ hk' SS
    refine hQ a' fl items ft t1 t2 t3 h' tk' F2 ?_ ?_ hne' ?_ hitf
    · rw [lstep_eq]; exact N2
    · rw [lstep_eq, hf0]; simpa using hfr
    · intro p hp
      exact ⟨apart SS _ (.head _) p hp, apart SS _ (.tail _ (.head _)) p hp⟩
  · intro a' f' x h' tk' t1 t2 t3 u1 u2 u3 kk b d hf0 hk' SS n1 n2 n3
    obtain ⟨F2, N2⟩ := back _ NR hnm h' _ hk' SS
    refine hQ a' f' (items ++ [.ref x]) ((x, tupO [.str (ofL kk) u1, .int b u2, .int d u3]) :: ft) t1 t2 t3 h' tk' F2 ?_ ?_ n1 ?_ ?_
    · rw [lstep_eq]
      intro q hq
      refine N2 q ?_
      simp only [List.cons_append, List.nil_append, List.mem_cons] at hq ⊢
      rcases hq with z | z | z | z | z
      · exact .inl z
      · exact .inr (.inl z)
      · exact .inr (.inr (.inr (.inl z)))
      · exact .inr (.inr (.inl z))
      · exact .inr (.inr (.inr (.inr z)))
    · rw [lstep_eq, hf0]; exact .app hfr
    · intro p hp
      rcases List.mem_cons.mp hp with rfl | hp
      · exact ⟨apart SS _ (.head _) _ (.head _), apart SS _ (.tail _ (.head _)) _ (.head _)⟩
      · rcases List.mem_cons.mp hp with rfl | hp
        · exact ⟨Ne.symm n2, Ne.symm n3⟩
        · exact ⟨apart SS _ (.head _) p (.tail _ hp), apart SS _ (.tail _ (.head _)) p (.tail _ hp)⟩
    · intro p hp
      rcases List.mem_cons.mp hp with rfl | hp
      · exact Ne.symm (apart SS _ (.tail _ (.tail _ (.head _))) _ (.head _))
      · exact hitf p hp
end
end Mine
end

section
open PySem PySem.W PyProof.Rows PySem.Calls Builtin
set_option Elab.async false
set_option maxRecDepth 100000
set_option maxHeartbeats 8000000
namespace Mine
theorem args_iter1 (a : Value) : argsOk "iter" ⟨[a], []⟩ := by unfold argsOk; kernel_rfl
section
variable {prog : Program} {w : World} {A : Around} {E : Value → Shared → Prop} {s : Shared}
theorem iter1 {v : Value} {Q : Value → Shared → Prop} (h : wpAny (model prog w) A.in1 (pyIter v) Q E s) : wpAny (model prog w) A (call (.builtin "iter") [v]) Q E s := by
  refine Calls.call_function_entry kind_iter plain_iter entry_iter (args_iter1 _) ?_
  unfold Builtin.«iter»
  refine wpAny_bind (m := someArgs "iter" 1 2 _) (wpAny_of_eq (a := [v]) rfl ?_)
  dsimp only
  exact wpAny_bind (wpAny_mono h (fun r s' z => wpAny_pure ⟨_, rfl, z⟩) fun _ _ z => z)
theorem is_tup_other {x y : Addr} {vs : List Value} {oy : Obj} {Q : Value → Shared → Prop} (hx : s.heap.get? x = some (tupO vs)) (hy : s.heap.get? y = some oy) (hc : oy.cls = .type "object") (hxy : x ≠ y) (h : Q (.bool false) s) : wpAny (model prog w) A (compareOp .Is (.ref x) (.ref y)) Q E s := by
  show wpAny _ _ (do return .bool (← isSame (.ref x) (.ref y))) Q E s
  unfold isSame
  refine wpAny_bind ?_
  dsimp only
  rw [if_neg (by simpa using hxy)]
  refine wpAny_bind (wpAny_load hx (wpAny_bind (wpAny_load hy ?_)))
  rw [hc]
  exact wpAny_pure (wpAny_pure h)
end
section
variable {prog : Program} {w : World} {A : Around} {E : Value → Shared → Prop} {s : Shared}
theorem next_item {it : Addr} {ty : String} (hty : ty = "str_ascii_iterator" ∨ ty = "str_iterator") {x : Str} {t i c : Nat} {Q : Option Value → Shared → Prop} (hit : s.heap.IsStrIter it ty x t i) (hx : x.cps[i]? = some c)
    (hQ : ∀ h', h'.IsStrIter it ty x t (i + 1) → Heap.SameBut it s.heap h' → Q (some (.str ⟨#[c]⟩ s.toks)) { s with heap := h', toks := s.toks + 1 }) : wpAny (model prog w) A (pyNext (.ref it)) Q E s := by
  rcases hty with rfl | rfl
  · exact wpAny_pyNext_ascii_item hit hx hQ
  · exact wpAny_pyNext_wide_item hit hx hQ
theorem next_end {it : Addr} {ty : String} (hty : ty = "str_ascii_iterator" ∨ ty = "str_iterator") {x : Str} {t i : Nat} {Q : Option Value → Shared → Prop} (hh : A.handled = none) (hit : s.heap.IsStrIter it ty x t i) (hx : x.cps[i]? = none)
    (hQ : ∀ h', Heap.ExtBut it s.heap h' → Q none { s with heap := h' }) : wpAny (model prog w) A (pyNext (.ref it)) Q E s := by
  rcases hty with rfl | rfl
  · exact wpAny_pyNext_ascii_end hh hit hx hQ
  · exact wpAny_pyNext_wide_end hh hit hx hQ
end
noncomputable def rdBody : List Stmt := defBody "reduce" PySem.Challenge.rw_om0137_01.row.prog.main.body
noncomputable def rd0 : List Stmt × Pos := match rdBody with
  | [_, .If _ b _ p, _, _] => (b, p)
  | _ => ([], ⟨0, 0, 0, 0⟩)
theorem rdBody_eq : rdBody = [.Assign [.Name (Str.ofString "it") ⟨769, 4, 769, 6⟩] (.Call (.Name (Str.ofString "iter") ⟨769, 9, 769, 13⟩) [.Name (Str.ofString "sequence") ⟨769, 14, 769, 22⟩] [] ⟨769, 9, 769, 23⟩) ⟨769, 4, 769, 23⟩,
  .If (.Compare (.Name (Str.ofString "initial") ⟨770, 7, 770, 14⟩) [.Is] [.Name (Str.ofString "_initial_missing") ⟨770, 18, 770, 34⟩] ⟨770, 7, 770, 34⟩) rd0.1 [.Assign [.Name (Str.ofString "value") ⟨776, 8, 776, 13⟩] (.Name (Str.ofString "initial") ⟨776, 16, 776, 23⟩) ⟨776, 8, 776, 23⟩] rd0.2,
  .For (.Name (Str.ofString "element") ⟨777, 8, 777, 15⟩) (.Name (Str.ofString "it") ⟨777, 19, 777, 21⟩) [.Assign [.Name (Str.ofString "value") ⟨778, 8, 778, 13⟩] (.Call (.Name (Str.ofString "function") ⟨778, 16, 778, 24⟩) [.Name (Str.ofString "value") ⟨778, 25, 778, 30⟩, .Name (Str.ofString "element") ⟨778, 32, 778, 39⟩] [] ⟨778, 16, 778, 40⟩) ⟨778, 8, 778, 40⟩] [] ⟨777, 4, 778, 40⟩,
  .Return (some (.Name (Str.ofString "value") ⟨779, 11, 779, 16⟩)) ⟨779, 4, 779, 16⟩] := by kernel_rfl
theorem rd_K (w : World) : (∃ mi o, nsIn (hd.heap_39 w.params) mainGlobals "_initial_missing" = some (some (.ref mi)) ∧ (hd.heap_39 w.params).lookup mi = some o ∧ o.cls = .type "object") ∧ nsIn (hd.heap_39 w.params) mainGlobals "iter" = some none ∧ keepIn (hd.heap_39 w.params) (.ref 791) = true := by
  have e : PySem.Challenge.rw_om0137_01 = PySem.Challenge.rw_om0137_01 := rfl
  revert e
  k_fill
  intro _
  exact ⟨⟨_, _, by k_is, by k_is, rfl⟩, by k_is, by k_is⟩
noncomputable def lsD : List Str := ["function", "sequence", "initial", "it", "value", "element"]
section
variable {w : World} {s s' : Shared} {A : Around} {base g : Heap} {fr : List Env} {mg mb : Str → Option Value} {mean : ExcName → Option Value} {cn : Str} {cs : Scope} {cd : Value} {L f : Addr} {E : Value → Shared → Prop}
/-- ahead of a turn of reduce's loop -/
noncomputable def RI (s : Shared) (g : Heap) (L it : Addr) (ty : String) (text : Str) (t : Nat) (i : Nat) (T : Td) (s' : Shared) : Prop :=
  ∃ h tk m a fl items ft tm tw tr o, s' = { s with heap := h, toks := tk } ∧ Fr g L h m ∧ m (Str.ofString "function") = some (.ref 791) ∧ m (Str.ofString "it") = some (.ref it) ∧ m (Str.ofString "value") = some (.ref a) ∧
    News g L h (TL a fl T items tm tw tr ++ ((it, o) :: ft)) ∧ o.cls = .type ty ∧ o.data = .fields #[.str text t, .int i 0] ∧ FR T.f items ft ∧ a ≠ fl ∧ (∀ p ∈ (it, o) :: ft, p.1 ≠ a ∧ p.1 ≠ fl) ∧ (∀ p ∈ ft, p.1 ≠ it)
theorem rdLoop (G : Gd w A base fr mean mg mb g) (hroom : A.depth + 8 < recursionLimit) (hh : A.handled = none) (hk : cs.kind = .function) (hl : ∀ x ∈ lsD, cs.names.lookup x = some .local) {it : Addr} {ty : String} (hty : ty = "str_ascii_iterator" ∨ ty = "str_iterator") {text : List Nat} {t : Nat} (hlen : text.length ≤ 900)
    {RR : Result → Shared → Prop} {P0 : Pos} {body : List Stmt} (hB : body = [.Assign [.Name (Str.ofString "value") ⟨778, 8, 778, 13⟩] (.Call (.Name (Str.ofString "function") ⟨778, 16, 778, 24⟩) [.Name (Str.ofString "value") ⟨778, 25, 778, 30⟩, .Name (Str.ofString "element") ⟨778, 32, 778, 39⟩] [] ⟨778, 16, 778, 40⟩) ⟨778, 8, 778, 40⟩])
    (R0 : RI s g L it ty (ofL text) t 0 ⟨[], .between, [], 1⟩ s')
    (hR : ∀ h tk m a fl items ft tm tw tr, Fr g L h m → m (Str.ofString "value") = some (.ref a) → News g L h (TL a fl (text.foldl lstep ⟨[], .between, [], 1⟩) items tm tw tr ++ ft) → FR (text.foldl lstep ⟨[], .between, [], 1⟩).f items ft → a ≠ fl → (∀ p ∈ ft, p.1 ≠ a ∧ p.1 ≠ fl) → RR (.ok .next) { s with heap := h, toks := tk }) :
    codeAny (model PySem.Challenge.rw_om0137_01.row.prog w) (A.deeper (envOf cn cs L f cd)) (.forLoop (.Name (Str.ofString "element") P0) (.ref it) body [] (envOf cn cs L f cd)) RR s' := by
  have hlv : ∀ x ∈ lsD, (envOf cn cs L f cd).kindOf x = some .local := hl
  have inv : ∀ i, (text.take i).length ≤ 900 → okM ((text.take i).foldl lstep ⟨[], .between, [], 1⟩).m ∧ ((text.take i).foldl lstep ⟨[], .between, [], 1⟩).w.length ≤ i ∧ ((text.take i).foldl lstep ⟨[], .between, [], 1⟩).f.length ≤ i := by
    have aux : ∀ (l : List Nat) (T : Td), okM T.m → okM (l.foldl lstep T).m ∧ (l.foldl lstep T).w.length ≤ T.w.length + l.length ∧ (l.foldl lstep T).f.length ≤ T.f.length + l.length := by
      intro l
      induction l with
      | nil => intro T h; exact ⟨h, by simp, by simp⟩
      | cons c l ih =>
        intro T h
        obtain ⟨a1, a2, a3⟩ := ih (lstep T c) (lstep_ok T c h)
        have b1 := lstep_len T c
        have b2 : (lstep T c).f.length ≤ T.f.length + 1 := by
          rw [lstep_eq]
          rcases lstep_one T.m T.w T.r c with e | ⟨x, e⟩ <;> rw [e] <;> simp
        rw [List.foldl_cons]
        refine ⟨a1, ?_, ?_⟩ <;> simp only [List.length_cons] <;> omega
    intro i _
    obtain ⟨a1, a2, a3⟩ := aux (text.take i) ⟨[], .between, [], 1⟩ trivial
    have : (text.take i).length ≤ i := by rw [List.length_take]; omega
    refine ⟨a1, ?_, ?_⟩
    · have : ([] : List Nat).length = 0 := rfl
      simp only [List.length_nil] at a2; omega
    · simp only [List.length_nil] at a3; omega
  refine codeAny_forLoop_any (fun n s' => ∃ i, n = 1000 - i ∧ i ≤ text.length ∧ RI s g L it ty (ofL text) t i ((text.take i).foldl lstep ⟨[], .between, [], 1⟩) s') ?_ 1000 ⟨0, rfl, by omega, R0⟩
  rintro n s1 ⟨i, rfl, hi, h, tk, m, a, fl, items, ft, tm, tw, tr, o, rfl, F, mf, mi, mv, N, oc, od, hfr, hne, hap, hitf⟩
  have hitN := N (it, o) (by simp)
  have hIt : h.IsStrIter it ty (ofL text) t i := ⟨o, hitN.1, oc, od⟩
  obtain ⟨i1, i2, i3⟩ := inv i (by rw [List.length_take]; omega)
  cases hx : text[i]? with
  | none =>
    have hle : text.length ≤ i := List.getElem?_eq_none_iff.mp hx
    refine next_end hty hh hIt (by simpa using hx) fun h' he => wpAny_execs_nil ?_
    have ht : text.take i = text := List.take_of_length_le hle
    rw [ht] at N hfr
    refine hR h' tk m a fl items ft tm tw tr ⟨F.ns.extBut he (fun e => hitN.2.1 e.symm), fun b ob hb => he b ob (fun e => by rw [e, hitN.2.2] at hb; cases hb) (F.keep b ob hb), F.above⟩ mv (fun p hp => ?_) hfr hne (fun p hp => hap p (.tail _ hp))
    have hpN := N p (by
      rcases List.mem_append.mp hp with z | z
      · exact List.mem_append_left _ z
      · exact List.mem_append_right _ (.tail _ z))
    refine ⟨he _ _ (fun e => ?_) hpN.1, hpN.2⟩
    rcases List.mem_append.mp hp with z | z
    · simp only [List.mem_cons, List.not_mem_nil, or_false] at z
      rcases z with z | z
      · rw [z] at e; exact (hap (it, o) (.head _)).1 e.symm
      · rw [z] at e; exact (hap (it, o) (.head _)).2 e.symm
    · exact hitf p z e
  | some c =>
    have hlt : i < text.length := (List.getElem?_eq_some_iff.mp hx).1
    refine next_item hty hIt (by simpa using hx) fun h1 hIt1 hs1 => ?_
    obtain ⟨o1, g1, oc1, od1⟩ := hIt1
    have F1 : Fr g L h1 m := F.change hs1 hitN.2.1 hitN.2.2
    have N1 : News g L h1 (TL a fl ((text.take i).foldl lstep ⟨[], .between, [], 1⟩) items tm tw tr ++ ((it, o1) :: ft)) := by
      intro p hp
      by_cases e : p.1 = it
      · have : p = (it, o1) := by
          rcases List.mem_append.mp hp with z | z
          · simp only [List.mem_cons, List.not_mem_nil, or_false] at z
            rcases z with z | z
            · rw [z] at e; exact absurd e.symm (hap (it, o) (.head _)).1
            · rw [z] at e; exact absurd e.symm (hap (it, o) (.head _)).2
          · rcases List.mem_cons.mp z with z | z
            · exact z
            · exact absurd e (hitf p z)
        rw [this]
        exact ⟨g1, hitN.2⟩
      · have hpN := N p (by
          rcases List.mem_append.mp hp with z | z
          · exact List.mem_append_left _ z
          · rcases List.mem_cons.mp z with z | z
            · rw [z] at e; exact absurd rfl e
            · exact List.mem_append_right _ (.tail _ z))
        exact ⟨(hs1.2 p.1 e).trans hpN.1, hpN.2⟩
    have hap1 : ∀ p ∈ (it, o1) :: ft, p.1 ≠ a ∧ p.1 ≠ fl := by
      intro p hp
      rcases List.mem_cons.mp hp with rfl | hp
      · exact hap (it, o) (.head _)
      · exact hap p (.tail _ hp)
    refine wpAny_of_eq (a := ()) rfl (wpAny_assign_Name (wpAny_storeName_local (hlv _ (by decide)) F1.ns (fun h2 hn2 hs2 => ?_) (by show (cs.kind == .class || (cs.kind == .module && _)) = false; rw [hk]; rfl)))
    have F2 := F1.set hn2 hs2
    have N2 := N1.set hs2
    rw [hB]
    refine wpAny_execs_cons (wpAny_Assign_Name (Call_ (wpAny_Name (wpAny_loadName_local hk (hlv _ (by decide)) F2.ns (v := .ref 791) (by rw [if_neg (by decide)]; exact mf) ?_)) rfl) rfl)
    refine callWith_K G.X (rd_K w).2.2 (spliced_more (wpAny_Name (wpAny_loadName_local hk (hlv _ (by decide)) F2.ns (v := .ref a) (by rw [if_neg (by decide)]; exact mv) (spliced_more (wpAny_Name (wpAny_loadName_local hk (hlv _ (by decide)) F2.ns (v := .str ⟨#[c]⟩ tk) (by rw [if_pos rfl]) (spliced_none ⟨G.X.keeps F2.keep, ?_⟩)))))))
    refine step_K (s := s) (c := c) G hroom hh hk F2 N2 hfr i1 hne hap1 hitf (by omega) (by omega) fun a' fl' items' ft' tm' tw' tr' h3 tk3 F3 N3 hfr3 hne3 hap3 hitf3 => ?_
    refine wpAny_storeName_local (hlv _ (by decide)) F3.ns (fun h4 hn4 hs4 => ?_) (by show (cs.kind == .class || (cs.kind == .module && _)) = false; rw [hk]; rfl)
    have F4 := F3.set hn4 hs4
    have N4 := N3.set hs4
    have htk : text.take (i + 1) = text.take i ++ [c] := by
      rw [List.take_add_one, hx]; rfl
    refine wpAny_execs_nil ⟨1000 - (i + 1), by omega, i + 1, rfl, by omega, h4, _, _, a', fl', items', ft', tm', tw', tr', o1, rfl, F4, ?_, ?_, ?_, ?_, oc1, od1, ?_, hne3, hap3, hitf3⟩
    · rw [if_neg (by decide), if_neg (by decide)]; exact mf
    · rw [if_neg (by decide), if_neg (by decide)]; exact mi
    · rw [if_pos rfl]
    · rw [htk, List.foldl_append]; exact N4
    · rw [htk, List.foldl_append]; exact hfr3
end
end Mine
end

section
open PySem PySem.W PyProof.Rows PySem.Calls
set_option Elab.async false
set_option maxRecDepth 100000
set_option maxHeartbeats 8000000
namespace Mine
/-- what reduce gave -/
noncomputable def ToldAt (g h : Heap) (a : Addr) (T : Td) : Prop := ∃ fl items ft tm tw tr, Sub g h (TL a fl T items tm tw tr ++ ft) ∧ FR T.f items ft ∧ a ≠ fl ∧ (∀ p ∈ ft, p.1 ≠ a ∧ p.1 ≠ fl)
section
variable {w : World} {s s' : Shared} {A : Around} {base g : Heap} {fr : List Env} {mg mb : Str → Option Value} {mean : ExcName → Option Value} {cn : Str} {cs : Scope} {cd : Value} {L f : Addr} {E : Value → Shared → Prop}
theorem rdAll (G : Gd w A base fr mean mg mb g) (hroom : A.depth + 8 < recursionLimit) (hh : A.handled = none) (hk : cs.kind = .function) (hl : ∀ x ∈ lsD, cs.names.lookup x = some .local) (hgi : cs.names.lookup (Str.ofString "iter") = some .globalImplicit) (hgm : cs.names.lookup (Str.ofString "_initial_missing") = some .globalImplicit)
    {text : List Nat} {t a fl tm tw tr : Nat} (hlen : text.length ≤ 900) {h : Heap} {tk : Nat} {m : Str → Option Value} (F : Fr g L h m) (mf : m (Str.ofString "function") = some (.ref 791)) (ms : m (Str.ofString "sequence") = some (.str (ofL text) t)) (mi : m (Str.ofString "initial") = some (.ref a)) (N : News g L h (TL a fl ⟨[], .between, [], 1⟩ [] tm tw tr)) (hne : a ≠ fl)
    {b : List Stmt} (hb : b = rdBody) {Q : Flow → Shared → Prop} (hQ : ∀ a' h' tk', Ke g h' → ToldAt g h' a' (text.foldl lstep ⟨[], .between, [], 1⟩) → Q (.ret (.ref a')) { s with heap := h', toks := tk' }) :
    wpAny (model PySem.Challenge.rw_om0137_01.row.prog w) (A.deeper (envOf cn cs L f cd)) (execs b (envOf cn cs L f cd)) Q E { s with heap := h, toks := tk } := by
  have hlv : ∀ x ∈ lsD, (envOf cn cs L f cd).kindOf x = some .local := hl
  have hcl : ∀ e : Env, e = envOf cn cs L f cd → (e.scope.kind == .class || (e.scope.kind == .module && e.locals != e.globals)) = false := by
    rintro e rfl
    show (cs.kind == .class || (cs.kind == .module && _)) = false
    rw [hk]; rfl
  obtain ⟨⟨mis, omi, k1, k2, k3⟩, k4, k5⟩ := rd_K w
  rw [hb, rdBody_eq]
  refine wpAny_execs_cons (wpAny_Assign_Name (Call_ (ld_builtin_at F G.T.g (mg_none_of G.X G.T.g k4) G.T.b ((G.T.builtins _ (by decide)).trans (by boot_by_name)) ?_ hk hgi (by decide)) rfl) rfl)
  refine Calls.callWith_builtin rfl (Calls.evalArgs_plain (spliced_more (wpAny_Name (wpAny_loadName_local hk (hlv _ (by decide)) F.ns ms (spliced_none (iter1 ?_))))))
  have go : ∀ ty, (ty = "str_ascii_iterator" ∨ ty = "str_iterator") → wpAny (model PySem.Challenge.rw_om0137_01.row.prog w) (A.deeper (envOf cn cs L f cd)) (storeName (envOf cn cs L f cd) (Str.ofString "it") (.ref h.objs.size)) (fun _ s1 => wpAny (model PySem.Challenge.rw_om0137_01.row.prog w) (A.deeper (envOf cn cs L f cd)) (execs (rdBody.drop 1) (envOf cn cs L f cd)) Q E s1) E { s with heap := h.push { cls := .type ty, data := .fields #[.str (ofL text) t, .int 0 0] }, toks := tk } := by
    intro ty hty
    have F1 := F.push { cls := .type ty, data := .fields #[.str (ofL text) t, .int 0 0] }
    have N1 := N.push F { cls := .type ty, data := .fields #[.str (ofL text) t, .int 0 0] }
    refine wpAny_storeName_local (hlv _ (by decide)) F1.ns (fun h2 hn2 hs2 => ?_) (hcl _ rfl)
    have F2 := F1.set hn2 hs2
    have N2 := N1.set hs2
    rw [rdBody_eq]
    show wpAny _ _ (execs (_ :: _) _) _ _ _
    have hanm : a ≠ mis := fun e => by
      have h1 := (N (a, tupO [.ref fl, .str (mS .between) tm, .str (ofL []) tw, .int 1 tr]) (.head _)).2.2
      rw [show (a, tupO [.ref fl, .str (mS .between) tm, .str (ofL []) tw, .int 1 tr]).1 = mis from e, G.X _ _ k2] at h1
      cases h1
    refine wpAny_execs_cons (wpAny_If (wpAny_isTrue_Compare1 (wpAny_Name (wpAny_loadName_local hk (hlv _ (by decide)) F2.ns (v := .ref a) (by rw [if_neg (by decide)]; exact mi) (ld_global_at F2 G.T.g (mg_of G.X G.T.g k1) (is_tup_other (N2 (a, tupO [.ref fl, .str (mS .between) tm, .str (ofL []) tw, .int 1 tr]) (.tail _ (.head _))).1 (G.X.keeps F2.keep _ _ k2) k3 hanm (wpAny_truthy_bool ?_)) hk hgm (by decide)))) rfl))
    rw [if_neg (by decide)]
    refine wpAny_execs_cons (wpAny_Assign_Name (wpAny_Name (wpAny_loadName_local hk (hlv _ (by decide)) F2.ns (v := .ref a) (by rw [if_neg (by decide)]; exact mi) (wpAny_storeName_local (hlv _ (by decide)) F2.ns (fun h3 hn3 hs3 => ?_) (hcl _ rfl)))) rfl)
    have F3 := F2.set hn3 hs3
    have N3 := N2.set hs3
    refine wpAny_execs_nil (wpAny_execs_cons (wpAny_For (wpAny_Name (wpAny_loadName_local hk (hlv _ (by decide)) F3.ns (v := .ref h.objs.size) (by rw [if_neg (by decide), if_pos rfl]) ?_))))
    have hiter : ∀ {Q' : Value → Shared → Prop} {s9 : Shared}, s9.heap.IsStrIter h.objs.size ty (ofL text) t 0 → Q' (.ref h.objs.size) s9 → wpAny (model PySem.Challenge.rw_om0137_01.row.prog w) (A.deeper (envOf cn cs L f cd)) (pyIter (.ref h.objs.size)) Q' E s9 := by
      intro Q' s9 hi hq
      rcases hty with rfl | rfl
      · exact wpAny_pyIter_striter_ascii hi hq
      · exact wpAny_pyIter_striter_wide hi hq
    have hitN := N3 (h.objs.size, { cls := .type ty, data := .fields #[.str (ofL text) t, .int 0 0] }) (.head _)
    refine hiter ⟨_, hitN.1, rfl, rfl⟩ ?_
    refine rdLoop (s := s) (t := t) G hroom hh hk hl hty hlen rfl ?_ ?_
    · refine ⟨h3, _, _, a, fl, [], [], tm, tw, tr, { cls := .type ty, data := .fields #[.str (ofL text) t, .int 0 0] }, rfl, F3, ?_, ?_, ?_, fun p hp => N3 p ?_, rfl, rfl, .nil, hne, ?_, fun p hp => nomatch hp⟩
      · rw [if_neg (by decide), if_neg (by decide)]; exact mf
      · rw [if_neg (by decide), if_pos rfl]
      · rw [if_pos rfl]
      · simp only [List.cons_append, List.nil_append, List.mem_cons, List.not_mem_nil, or_false] at hp ⊢
        rcases hp with z | z | z <;> simp [z]
      · intro p hp
        rw [List.mem_singleton.mp hp]
        exact ⟨Nat.ne_of_gt (Heap.lt_size (N _ (.head _)).1), Nat.ne_of_gt (Heap.lt_size (N _ (.tail _ (.head _))).1)⟩
    · intro h5 tk5 m5 a5 fl5 items5 ft5 tm5 tw5 tr5 F5 mv5 N5 hfr5 hne5 hap5
      refine wpAny_execs_cons (wpAny_Return_some (wpAny_Name (wpAny_loadName_local hk (hlv _ (by decide)) F5.ns mv5 ?_)))
      exact hQ a5 h5 tk5 (Ke.of_fr F5) ⟨fl5, items5, ft5, tm5, tw5, tr5, Sub.of_news N5, hfr5, hne5, hap5⟩
  cases ha : (ofL text).cps.all (· < 128) with
  | true => exact wpAny_pyIter_ascii ha (go _ (.inl rfl))
  | false => exact wpAny_pyIter_wide ha (go _ (.inr rfl))
theorem reduce_ok (G : Gd w A base fr mean mg mb g) (hroom : A.depth + 8 < recursionLimit) (hh : A.handled = none) (k : Ke g s.heap) {text : List Nat} {t a fl tm tw tr : Nat} (hlen : text.length ≤ 900) (S : Sub g s.heap (TL a fl ⟨[], .between, [], 1⟩ [] tm tw tr)) (hne : a ≠ fl) {R : Result → Shared → Prop}
    (hR : ∀ a' h' tk', Ke g h' → ToldAt g h' a' (text.foldl lstep ⟨[], .between, [], 1⟩) → R (.ok (.ret (.ref a'))) { s with heap := h', toks := tk' }) :
    codeAny (model PySem.Challenge.rw_om0137_01.row.prog w) A (.call (.ref 777) ⟨[.ref 791, .str (ofL text) t, .ref a], []⟩) R s := by
  have X := G.X
  revert X
  k_fill
  intro X
  refine' enterG G S k ?k6 ?k7 ?k8 ?k9 ?kB ?_ ?c2 ?c3 ?c4 ?c5
  case k6 => k_is
  case k7 => k_is
  case k8 => omega
  case k9 => first | exact BindsTo.of_eq rfl | exact binds_K (Frag.In.keeps X k.keep) rfl (by k_is) rfl rfl rfl
  case kB => exact rfl
  case c2 => decide
  case c3 => exact rfl
  case c4 => exact rfl
  case c5 => exact rfl
  intro L' h₁ F' N' hlt
  exact rdAll (s := s) G hroom hh rfl (by decide) rfl rfl hlen F' rfl rfl rfl N' hne (by kernel_rfl) (fun a' h' tk' k' T' => hR a' h' tk' k' T')
end
end Mine
end

section
open PySem PySem.W PyProof.Rows PySem.Calls
set_option Elab.async false
set_option maxRecDepth 100000
set_option maxHeartbeats 8000000
namespace Mine
theorem fold_ok : ∀ (l : List Nat) (T : Td), okM T.m → okM (l.foldl lstep T).m ∧ (l.foldl lstep T).f.length ≤ T.f.length + l.length := by
  intro l
  induction l with
  | nil => intro T h; exact ⟨h, by simp⟩
  | cons c l ih =>
    intro T h
    obtain ⟨a1, a3⟩ := ih (lstep T c) (lstep_ok T c h)
    have b2 : (lstep T c).f.length ≤ T.f.length + 1 := by
      rw [lstep_eq]
      rcases lstep_one T.m T.w T.r c with e | ⟨x, e⟩ <;> rw [e] <;> simp
    rw [List.foldl_cons]
    refine ⟨a1, ?_⟩
    simp only [List.length_cons]; omega
noncomputable def modeS (m : Md) : Prop := m = .between ∨ m = .plain ∨ m = .pesc ∨ m = .quoted ∨ m = .qesc ∨ m = .closed ∨ m = .alike ∨ m = .same ∨ m = .other ∨ m = .q 34 ∨ m = .q 39
theorem modes_of {m : Md} (h : okM m) : modeS m := by
  unfold modeS
  cases m <;> simp
  exact h
theorem reduce_K {w : World} {s : Shared} {A A₀ : Around} {base h₀ : Heap} {outer : List Env} {mg mb : Str → Option Value} {mean : ExcName → Option Value} {env : Env} {L : Addr} {m : Str → Option Value} {text : List Nat} {t a fl tm tw tr : Nat} {E : Value → Shared → Prop} {Q : Value → Shared → Prop}
    (B : Below A₀ base outer h₀) (F : Fr h₀ L s.heap m) (X : (hd.heap_39 w.params).In h₀) (T : Top hd.view_39 lo mean mg mb h₀) (N : News h₀ L s.heap [(a, tupO [.ref fl, .str (Str.ofString "between") tm, .str (Str.ofString "") tw, .int 1 tr]), (fl, listOf #[] 0)]) (hA : A.frames = some (env :: outer)) (hf : env.frame = some L) (hke : env.scope.kind = .function) (hroom : A.depth + 8 < recursionLimit) (hh : A.handled = none) (hlen : text.length ≤ 900) (hne : a ≠ fl)
    (h : ∀ fd md wd rd, text.foldl lstep ⟨[], .between, [], 1⟩ = ⟨fd, md, wd, rd⟩ → ∀ a' fl' items ft tm tw tr h' tk, Fr h₀ L h' m → News h₀ L h' ((a', tupO [.ref fl', .str (mS md) tm, .str (ofL wd) tw, .int rd tr]) :: (fl', listOf items.toArray 0) :: ft) → FR fd items ft → @Ne Nat a' fl' → items.length ≤ 900 → modeS md → Q (.ref a') { s with heap := h', toks := tk }) :
    wpAny (model PySem.Challenge.rw_om0137_01.row.prog w) A (call (.ref 777) [.ref 791, .str (ofL text) t, .ref a]) Q E s := by
  obtain ⟨G', S', k', back⟩ := pushY B F N hA hf hke X T
  refine wpAny_call (reduce_ok G' hroom hh k' hlen (fl := fl) (tm := tm) (tw := tw) (tr := tr) S' hne ?_)
  intro a' h' tk' hk' hT
  obtain ⟨fl', items, ft, tm', tw', tr', SS, hfr, hne', hap⟩ := hT
  obtain ⟨F2, N2⟩ := back [] News.nil (fun _ hp => nomatch hp) h' _ hk' SS
  rw [List.append_nil] at N2
  have hfo := fold_ok text ⟨[], .between, [], 1⟩ trivial
  exact h _ _ _ _ rfl a' fl' items ft tm' tw' tr' h' tk' F2 N2 hfr hne' (by rw [hfr.length]; simpa using Nat.le_trans hfo.2 (by simpa using hlen)) (modes_of hfo.1)
noncomputable def eS : En → Str
  | .fin => Str.ofString "end"
  | .same => Str.ofString "same"
  | .other => Str.ofString "other"
/-- what _law_told gave -/
noncomputable def EndAt (g h : Heap) (a : Addr) (x : Fd × En × List Nat × Int) : Prop := ∃ fl items ft te tw tr, Sub g h ((a, tupO [.ref fl, .str (eS x.2.1) te, .str (ofL x.2.2.1) tw, .int x.2.2.2 tr]) :: (fl, listOf items.toArray 0) :: ft) ∧ FR x.1 items ft


theorem subOne {g h : Heap} {d a f : Addr × Obj} {ft : List (Addr × Obj)} (S : Sub g h (d :: a :: f :: ft)) : Sub g h (d :: f :: ft) := fun p hp => S p (by
  simp only [List.mem_cons] at hp ⊢
  rcases hp with z | z | z
  · exact .inl z
  · exact .inr (.inr (.inl z))
  · exact .inr (.inr (.inr z)))
theorem subTwo {g h : Heap} {d e l x a f : Addr × Obj} {ft : List (Addr × Obj)} (S : Sub g h (d :: e :: l :: x :: a :: f :: ft)) : Sub g h (d :: e :: x :: ft) := fun p hp => S p (by
  simp only [List.mem_cons] at hp ⊢
  rcases hp with z | z | z | z
  · exact .inl z
  · exact .inr (.inl z)
  · exact .inr (.inr (.inr (.inl z)))
  · exact .inr (.inr (.inr (.inr (.inr (.inr z))))))
theorem told_ok (w : World) {s : Shared} {A : Around} {base g : Heap} {fr : List Env} {mg mb : Str → Option Value} {mean : ExcName → Option Value} {text : List Nat} {t : Nat} {R : Result → Shared → Prop}
    (G : Gd w A base fr mean mg mb g) (hroom : A.depth + 12 < recursionLimit) (hh : A.handled = none) (k : Ke g s.heap) (hlen : text.length ≤ 900)
    (hR : ∀ a h' tk, Ke g h' → EndAt g h' a (ltold (text.foldl lstep ⟨[], .between, [], 1⟩)) → R (.ok (.ret (.ref a))) { s with heap := h', toks := tk }) :
    codeAny (model PySem.Challenge.rw_om0137_01.row.prog w) A (.call (.ref 798) ⟨[.str (ofL text) t], []⟩) R s := by
  have S : Sub g s.heap [] := fun _ hp => nomatch hp
  have X := G.X
  have hA := G.B.stack
  revert X
  k_fill
  intro X
  refine' enterG G S k ?k6 ?k7 ?k8 ?k9 ?kB ?_ ?c2 ?c3 ?c4 ?c5
  case k6 => k_is
  case k7 => k_is
  case k8 => omega
  case k9 => first | exact BindsTo.of_eq rfl | exact binds_K (Frag.In.keeps X k.keep) rfl (by k_is) rfl rfl rfl
  case kB => exact rfl
  case c2 => decide
  case c3 => exact rfl
  case c4 => exact rfl
  case c5 => exact rfl
  intro L' h₁ F' N' hlt
  have B' := G.B
  have T' := G.T
  clear G S hlt
  refine wpAny_gen fun Q0 E0 hQ0 hE0 => ?_
  clear hE0
  (w_on; repeat' (first | ((with_reducible show wpAny _ _ (execs (_ :: _) _) _ _ (Shared.mk _ _ _ (HAdd.hAdd _ _) _)); refine tok_norm s ?_; intro tkn) | (k_unfold; (try dsimp only)) | ((with_reducible show ite _ _ _); (first | (refine ite_pos (by decide) ?_) | (refine ite_neg (by decide) ?_) | (refine ite_trB (by with_reducible assumption) ?_) | (refine ite_faB (by with_reducible assumption) ?_) | (refine ite_twoB ?_ ?_ <;> (intro hb')))) | ((with_reducible show wpAny _ _ (call (Value.ref _) _ _) _ _ _); (k_here; (show wpAny _ _ (call (Value.ref 777) [Value.ref 791, Value.str (ofL _) _, Value.ref _] []) _ _ _); k_dflt (refine' reduce_K ?k1 ?k2 ?k3 ?k4 ?k5 ?kA ?kF ?kK ?kR ?kH ?kL ?kN ?_; (case k2 => k_asm); (case k5 => k_asm); (case k3 => k_asm); (case k4 => k_asm); (case k1 => k_asm); (case kA => exact Around.frames_deeper (by assumption)); (case kF => exact rfl); (case kK => exact rfl); (case kR => ((simp only [depth_under_make, depth_under_kw, depth_in1, depth_deeper]); (simp only [recursionLimit] at *); omega)); (case kH => assumption); (case kL => assumption); (case kN => omega)); intro fd' md' wd' rd' hTd' a' fl' items' ft' tm' tw' tr' h' tk' F' N' hfr' hne' hil' hmo'; (unfold modeS at hmo'); (rcases hmo' with hmo' | hmo' | hmo' | hmo' | hmo' | hmo' | hmo' | hmo' | hmo' | hmo' | hmo') <;> (subst hmo'; dsimp only [mS] at N'; (try k_sweep)))) | ((k_here; (with_reducible show wpAny _ _ (binaryOp _ (Value.ref _) (Value.ref _)) _ _ _); k_dflt (refine' kmk_add_lit ?F ?N ?a ?b ?e ?_ ?z; (case F => k_asm); (case N => k_asm); (case a => kmk_list); (case b => kmk_list); (case e => exact rfl); (case z => (simp only [sizeLine_eq, List.length_cons, List.length_nil, List.length_append]; omega))); intro D' h' F' N' l1; (try k_lt l1); (try k_sweep))) | ((k_here; (with_reducible show wpAny _ _ (assign (Expr.Tuple _ _ _) _ (Value.ref _)) _ _ _); k_dflt (refine' unpackN_ ?k1 ?k2 ?k3 ?k4 ?k5 ?k6 ?_; (case k1 => k_asm); (case k2 => k_asm); (case k3 => kun_tup); (case k4 => assumption); (case k5 => exact rfl); (case k6 => exact rfl); k_whole); intro h' F' N'; (try k_sweep))) | ((with_reducible show wpAny _ _ (call (Value.ref _) _ _) _ _ _); k_here; k_dflt (refine wpAny_call ?_; (refine' code_def ?k1 ?k2 ?k3 ?k4 ?k5 ?kA ?kF ?kK ?k6 ?k7 ?k8 ?k9 ?kB ?_ ?c2 ?c3 ?c4 ?c5; (case kA => first | exact Around.frames_deeper (by assumption) | exact Around.frames_deeper (Around.frames_deeper (by assumption)) | exact Around.frames_deeper (Around.frames_deeper (Around.frames_deeper (by assumption)))); (case kF => exact rfl); (case kK => exact rfl); (case k1 => k_asm); (case k2 => k_asm); (case k3 => k_asm); (case k4 => k_asm); (case k5 => k_asm); (case k6 => k_is); (case k7 => k_is); (case k8 => ((simp only [depth_under_make, depth_under_kw, depth_in1, depth_deeper]); (simp only [recursionLimit] at *); omega)); (case k9 => first | exact BindsTo.of_eq rfl | exact binds_K (by k_in) rfl (by k_is) rfl rfl rfl); (case c5 => decide); (case kB => exact locs rfl); (case c2 => exact rfl); (case c3 => exact rfl); (case c4 => exact rfl); k_whole; intro g' L' h' FG' F' N' B' X' T'; (try dsimp only); (try k_lift B'); (try k_fold)))) | walk1 | (dsimp only; (first | ((with_reducible show ite _ _ _); (first | (refine ite_pos (by decide) ?_) | (refine ite_neg (by decide) ?_) | (refine ite_trB (by with_reducible assumption) ?_) | (refine ite_faB (by with_reducible assumption) ?_) | (refine ite_twoB ?_ ?_ <;> (intro hb')))) | ((with_reducible show wpAny _ _ (call (Value.ref _) _ _) _ _ _); (k_here; (show wpAny _ _ (call (Value.ref 777) [Value.ref 791, Value.str (ofL _) _, Value.ref _] []) _ _ _); k_dflt (refine' reduce_K ?k1 ?k2 ?k3 ?k4 ?k5 ?kA ?kF ?kK ?kR ?kH ?kL ?kN ?_; (case k2 => k_asm); (case k5 => k_asm); (case k3 => k_asm); (case k4 => k_asm); (case k1 => k_asm); (case kA => exact Around.frames_deeper (by assumption)); (case kF => exact rfl); (case kK => exact rfl); (case kR => ((simp only [depth_under_make, depth_under_kw, depth_in1, depth_deeper]); (simp only [recursionLimit] at *); omega)); (case kH => assumption); (case kL => assumption); (case kN => omega)); intro fd' md' wd' rd' hTd' a' fl' items' ft' tm' tw' tr' h' tk' F' N' hfr' hne' hil' hmo'; (unfold modeS at hmo'); (rcases hmo' with hmo' | hmo' | hmo' | hmo' | hmo' | hmo' | hmo' | hmo' | hmo' | hmo' | hmo') <;> (subst hmo'; dsimp only [mS] at N'; (try k_sweep)))) | ((k_here; (with_reducible show wpAny _ _ (binaryOp _ (Value.ref _) (Value.ref _)) _ _ _); k_dflt (refine' kmk_add_lit ?F ?N ?a ?b ?e ?_ ?z; (case F => k_asm); (case N => k_asm); (case a => kmk_list); (case b => kmk_list); (case e => exact rfl); (case z => (simp only [sizeLine_eq, List.length_cons, List.length_nil, List.length_append]; omega))); intro D' h' F' N' l1; (try k_lt l1); (try k_sweep))) | ((k_here; (with_reducible show wpAny _ _ (assign (Expr.Tuple _ _ _) _ (Value.ref _)) _ _ _); k_dflt (refine' unpackN_ ?k1 ?k2 ?k3 ?k4 ?k5 ?k6 ?_; (case k1 => k_asm); (case k2 => k_asm); (case k3 => kun_tup); (case k4 => assumption); (case k5 => exact rfl); (case k6 => exact rfl); k_whole); intro h' F' N'; (try k_sweep))) | ((with_reducible show wpAny _ _ (call (Value.ref _) _ _) _ _ _); k_here; k_dflt (refine wpAny_call ?_; (refine' code_def ?k1 ?k2 ?k3 ?k4 ?k5 ?kA ?kF ?kK ?k6 ?k7 ?k8 ?k9 ?kB ?_ ?c2 ?c3 ?c4 ?c5; (case kA => first | exact Around.frames_deeper (by assumption) | exact Around.frames_deeper (Around.frames_deeper (by assumption)) | exact Around.frames_deeper (Around.frames_deeper (Around.frames_deeper (by assumption)))); (case kF => exact rfl); (case kK => exact rfl); (case k1 => k_asm); (case k2 => k_asm); (case k3 => k_asm); (case k4 => k_asm); (case k5 => k_asm); (case k6 => k_is); (case k7 => k_is); (case k8 => ((simp only [depth_under_make, depth_under_kw, depth_in1, depth_deeper]); (simp only [recursionLimit] at *); omega)); (case k9 => first | exact BindsTo.of_eq rfl | exact binds_K (by k_in) rfl (by k_is) rfl rfl rfl); (case c5 => decide); (case kB => exact locs rfl); (case c2 => exact rfl); (case c3 => exact rfl); (case c4 => exact rfl); k_whole; intro g' L' h' FG' F' N' B' X' T'; (try dsimp only); (try k_lift B'); (try k_fold)))) | walk1))))
  all_goals (subst hQ0)
  all_goals (try dsimp only)
  all_goals ((rename News _ _ _ _ => hN1); (have hS1 := Sub.of_news hN1); (rename FR _ _ _ => hfr1); (rename List.foldl lstep _ _ = _ => hTd1); (rw [hTd1] at hR); (first | exact hR _ _ _ (Ke.of_fr (by assumption)) ⟨_, _, _, _, _, _, subOne hS1, hfr1⟩ | exact hR _ _ _ (Ke.of_fr (by assumption)) ⟨_, _, _, _, _, _, subTwo hS1, .app hfr1⟩))
end Mine
end

section
open PySem PySem.W PyProof.Rows PySem.Calls
set_option Elab.async false
set_option maxRecDepth 100000
set_option maxHeartbeats 8000000
namespace Mine
theorem ws_wh2 (c : Nat) : has wsS (sg c) = wh1 c := by
  rw [has_one]
  show ([32, 9, 13, 10] : List Nat).contains c = _
  unfold wh1
  simp only [List.contains_cons, List.contains_nil, Bool.or_false]
  cases (c == 10) <;> cases (c == 9) <;> cases (c == 13) <;> cases (c == 32) <;> rfl
theorem wn_fun : (fun c => has wnS (sg c)) = wh1 := funext ws_wh
theorem Nd_unique {N : NO} {tok r tok' r' : List Nat} {n n' : Int} (h : Nd N tok r n) (h' : Nd N tok' r' n') : tok = tok' ∧ r = r' ∧ n = n' := by
  rcases h with rfl | ⟨rfl, rfl⟩ <;> rcases h' with e | ⟨e, rfl⟩ <;> cases e <;> exact ⟨rfl, rfl, rfl⟩
theorem nDone_nd {l tok r : List Nat} {n n' : Int} (h : nDone (fun c => has wnS (sg c)) l n tok r n') : Nd (nt l n) tok r n' := by
  rw [wn_fun] at h; exact h
end Mine
end

section
open PySem PySem.W PyProof.Rows PySem.Calls
set_option Elab.async false
set_option maxRecDepth 100000
set_option maxHeartbeats 8000000
namespace Mine
noncomputable abbrev nxLed (x dx pb : Addr) (i : IO) (es : List DictEntry) (p t6 : Nat) : List (Addr × Obj) := ((x, instObj 764 dx) :: (dx, dictOf es 4) :: i.led p t6) ++ [(pb, listE)]
noncomputable abbrev lxLed (x dx pb fs : Addr) (i : IO) (es : List DictEntry) (p t6 : Nat) : List (Addr × Obj) := ((x, instObj 722 dx) :: (dx, dictOf es 19) :: i.led p t6) ++ [(pb, dequeObj), (fs, dequeObj)]
noncomputable def NxF (i : IO) (pb : Addr) (ln : Int) (es : List DictEntry) : Prop := ∃ Γ : Cx, Γ.W = wnS ∧ Γ.refs = rf3 i.io pb pb ∧ Γ.ln0 = ln ∧ ∃ wc wb, FldRep Γ (nlf (.row 0) wc wb) es
noncomputable def LxF (i : IO) (pb fs : Addr) (st : Option Nat) (ln : Int) (es : List DictEntry) : Prop := ∃ Γ : Cx, Γ.W = wsS ∧ Γ.refs = rf3 i.io pb fs ∧ Γ.ln0 = ln ∧ FldRep Γ (lf (stV st) (.str []) (.row 0) 0 false [39, 34] [35] false) es
structure NxS (x dx pb : Addr) (i : IO) : Prop where
  ok : NxOk x dx i (rf3 i.io pb pb)
  pb : pb ≠ x ∧ pb ≠ dx ∧ pb ≠ i.io ∧ pb ≠ i.dio
theorem nxF_of {i : IO} {pb : Addr} {ln : Int} {es : List DictEntry} {Γ : Cx} {wc : Nat} {wb : Bool} (e1 : Γ.W = wnS) (e2 : Γ.refs 0 = rf3 i.io pb pb 0) (e2' : Γ.refs 1 = rf3 i.io pb pb 1) (e3 : Γ.ln0 = ln) (FR : FldRep Γ (nlf (.row 0) wc wb) es) : NxF i pb ln es :=
by
  refine ⟨{ Γ with refs := rf3 i.io pb pb }, e1, rfl, e3, wc, wb, FldRep.conv (nlf_conv ?_ (fun u hu => ?_) fun u hu => ?_) FR⟩
  · exact ⟨e2.symm, e2'.symm⟩
  · exact hu
  · exact hu
theorem pushZ {w : World} {A₀ A : Around} {s : Shared} {base h₀ : Heap} {outer : List Env} {L : Addr} {m mg mb : Str → Option Value} {mean : ExcName → Option Value} {env : Env} {sub : List (Addr × Obj)}
    (B : Below A₀ base outer h₀) (F : Fr h₀ L s.heap m) (N : News h₀ L s.heap sub) (hA : A.frames = some (env :: outer)) (hf : env.frame = some L) (hke : env.scope.kind = .function)
    (X : (hd.heap_39 w.params).In h₀) (T : Top hd.view_39 lo mean mg mb h₀) : ∃ g, Gd w A base (env :: outer) mean mg mb g ∧ Sub g s.heap sub ∧ Ke g s.heap ∧
      (∀ rest, News h₀ L s.heap rest → (∀ p ∈ rest, p.1 ∉ sub.map (·.1)) → ∀ h' sub', Ke g h' → Sub g h' sub' → Fr h₀ L h' m ∧ News h₀ L h' (sub' ++ rest) ∧ ∀ p ∈ sub', ∀ r ∈ rest, r.1 ≠ p.1) := by
  obtain ⟨G', S', k', back⟩ := pushY B F N hA hf hke X T
  refine ⟨_, G', S', k', fun rest NR hr h' sub' k2 S2 => ?_⟩
  obtain ⟨F2, N2⟩ := back rest NR hr h' sub' k2 S2
  refine ⟨F2, N2, fun p hp r hr' e => ?_⟩
  have h1 := (S2 p hp).2
  rw [← e, hideAll_get _ (NR r hr').1 (hr r hr')] at h1
  cases h1
theorem lex_K (w : World) : (makesIn (hd.heap_39 w.params) 722 = true ∧ findIn (hd.heap_39 w.params) (.ref 722) "__init__" = some (some (.ref 646)) ∧ typeIn (hd.heap_39 w.params) (.ref 646) = some (.type "function")) ∧ makesIn (hd.heap_39 w.params) 764 = true ∧ findIn (hd.heap_39 w.params) (.ref 764) "__init__" = some (some (.ref 740)) ∧ typeIn (hd.heap_39 w.params) (.ref 740) = some (.type "function") := by
  have e : PySem.Challenge.rw_om0137_01 = PySem.Challenge.rw_om0137_01 := rfl
  revert e
  k_fill
  intro _
  refine ⟨⟨?_, ?_, ?_⟩, ?_, ?_, ?_⟩ <;> k_is
section
variable {w : World} {s : Shared} {A A₀ : Around} {base h₀ : Heap} {outer : List Env} {mg mb : Str → Option Value} {mean : ExcName → Option Value} {env : Env} {L : Addr} {m : Str → Option Value} {news : List (Addr × Obj)} {text : Str} {t : Nat} {E : Value → Shared → Prop} {Q : Value → Shared → Prop}
theorem notin_two {news : List (Addr × Obj)} {x dx : Addr} (l1 : ∀ p ∈ news, p.1 < dx) (l2 : dx < x) {C : Addr} : ∀ p ∈ news, p.1 ∉ List.map (fun q : Addr × Obj => q.1) [(x, instObj C dx), (dx, emptyDict)] := fun r hr hm => by
  simp only [List.map_cons, List.map_nil, List.mem_cons, List.not_mem_nil, or_false] at hm
  have := l1 r hr
  rcases hm with z | z
  · rw [z] at this; exact absurd (Nat.lt_trans this l2) (Nat.lt_irrefl _)
  · rw [z] at this; exact absurd this (Nat.lt_irrefl _)
/-- shlex(text) -/
theorem mkNp_K (B : Below A₀ base outer h₀) (F : Fr h₀ L s.heap m) (X : (hd.heap_39 w.params).In h₀) (N : News h₀ L s.heap news) (T : Top hd.view_39 lo mean mg mb h₀) (hA : A.frames = some (env :: outer)) (hf : env.frame = some L) (hke : env.scope.kind = .function) (hroom : A.depth + 16 < recursionLimit) (hh : A.handled = none) (hb : text.length ≤ 1000)
    (h : ∀ x dx (i : IO) hs kt t6 es h' tk, i.buf = text → i.io ≠ i.dio → Fr h₀ L h' m → News h₀ L h' (((x, instObj 722 dx) :: (dx, dictOf (⟨hs, .str (Str.ofString "instream") kt, .ref i.io⟩ :: es) 19) :: i.led 0 t6) ++ news) → (∀ p ∈ i.led 0 t6, ∀ r ∈ news, r.1 ≠ p.1) → Q (.ref x) { s with heap := h', toks := tk }) :
    wpAny (model PySem.Challenge.rw_om0137_01.row.prog w) A (call (.ref 722) [.str text t]) Q E s := by
  obtain ⟨⟨m1, m2, m3⟩, -⟩ := lex_K w
  refine wpAny_call (make_K F N (X.keeps F.keep) m1 m2 m3 fun x dx h' F' N' l1 l2 => ?_)
  have NS : News h₀ L h' [(x, instObj 722 dx), (dx, emptyDict)] := fun q hq => N' q (by
    simp only [List.mem_cons, List.not_mem_nil, or_false] at hq ⊢
    rcases hq with z | z <;> simp [z])
  have NR : News h₀ L h' news := fun q hq => N' q (.tail _ (.tail _ hq))
  obtain ⟨g', G', S', k', back⟩ := pushZ (A := A.under (.builtin "type.__call__" ⟨.ref 722 :: [.str text t], []⟩)) (env := env) (s := { s with heap := h' }) B F' NS hA hf hke X T
  refine init_np w G' (by simp only [depth_under_make]; omega) hh k' S' (Nat.ne_of_gt l2) hb ?_
  intro i hs kt t6 es h2 tk eb d k2 S2
  obtain ⟨F2, N2, ap⟩ := back news NR (notin_two l1 l2) h2 _ k2 S2
  exact ⟨rfl, h x dx i hs kt t6 es h2 tk eb d.1 F2 N2 fun p hp => ap p (.tail _ (.tail _ hp))⟩
/-- _netrclex(stream) -/
theorem mkNx_K {i : IO} {t6 : Nat} (B : Below A₀ base outer h₀) (F : Fr h₀ L s.heap m) (X : (hd.heap_39 w.params).In h₀) (N : News h₀ L s.heap (i.led 0 t6 ++ news)) (T : Top hd.view_39 lo mean mg mb h₀) (hA : A.frames = some (env :: outer)) (hf : env.frame = some L) (hke : env.scope.kind = .function) (hroom : A.depth + 16 < recursionLimit) (hh : A.handled = none) (hne : i.io ≠ i.dio) (hap : ∀ p ∈ i.led 0 t6, ∀ r ∈ news, r.1 ≠ p.1)
    (h : ∀ x dx pb es t6 h' tk, (x ≠ dx ∧ i.io ≠ i.dio ∧ i.io ≠ x ∧ i.io ≠ dx ∧ i.dio ≠ x ∧ i.dio ≠ dx) → (pb ≠ x ∧ pb ≠ dx ∧ pb ≠ i.io ∧ pb ≠ i.dio) → Fr h₀ L h' m → NxF i pb 1 es → News h₀ L h' ((((x, instObj 764 dx) :: (dx, dictOf es 4) :: i.led 0 t6) ++ [(pb, listE)]) ++ news) →
      (∀ p ∈ ((x, instObj 764 dx) :: (dx, dictOf es 4) :: i.led 0 t6) ++ [(pb, listE)], ∀ r ∈ news, r.1 ≠ p.1) → Q (.ref x) { s with heap := h', toks := tk }) :
    wpAny (model PySem.Challenge.rw_om0137_01.row.prog w) A (call (.ref 764) [.ref i.io]) Q E s := by
  obtain ⟨-, m1, m2, m3⟩ := lex_K w
  refine wpAny_call (make_K F N (X.keeps F.keep) m1 m2 m3 fun x dx h' F' N' l1 l2 => ?_)
  have NS : News h₀ L h' [(x, instObj 764 dx), (dx, emptyDict), (i.io, instObj 587 i.dio), (i.dio, ioDict i.h1 i.h2 i.h3 i.t1 i.t2 i.t3 i.t4 i.t5 t6 i.buf 0)] := fun q hq => N' q (by
    simp only [IO.led, List.cons_append, List.nil_append, List.mem_cons, List.not_mem_nil, or_false] at hq ⊢
    rcases hq with z | z | z | z <;> simp [z])
  have NR : News h₀ L h' news := fun q hq => N' q (.tail _ (.tail _ (List.mem_append_right _ hq)))
  have d1 := l1 (i.io, instObj 587 i.dio) (by simp [IO.led])
  have d2 := l1 (i.dio, ioDict i.h1 i.h2 i.h3 i.t1 i.t2 i.t3 i.t4 i.t5 t6 i.buf 0) (by simp [IO.led])
  have dd : i.io ≠ i.dio ∧ i.io ≠ x ∧ i.io ≠ dx ∧ i.dio ≠ x ∧ i.dio ≠ dx := ⟨hne, Nat.ne_of_lt (Nat.lt_trans d1 l2), Nat.ne_of_lt d1, Nat.ne_of_lt (Nat.lt_trans d2 l2), Nat.ne_of_lt d2⟩
  obtain ⟨g', G', S', k', back⟩ := pushZ (A := A.under (.builtin "type.__call__" ⟨.ref 764 :: [.ref i.io], []⟩)) (env := env) (s := { s with heap := h' }) B F' NS hA hf hke X T
  refine init_nx w G' (by simp only [depth_under_make]; omega) hh k' (i := i) (p := 0) (t6 := t6) S' (Nat.ne_of_gt l2) dd ?_
  rintro pb h2 tk d k2 ⟨⟨Γ, es, t6', wc, wb, e1, e2, e2', e3, FR, S⟩, S2⟩
  obtain ⟨F2, N2, ap⟩ := back news NR (fun r hr hm => by
    simp only [List.map_cons, List.map_nil, List.mem_cons, List.not_mem_nil, or_false] at hm
    have := l1 r (List.mem_append_right _ hr)
    rcases hm with z | z | z | z
    · rw [z] at this; exact absurd (Nat.lt_trans this l2) (Nat.lt_irrefl _)
    · rw [z] at this; exact absurd this (Nat.lt_irrefl _)
    · exact hap _ (.head _) r hr z
    · exact hap _ (.tail _ (.head _)) r hr z) h2 _ k2 (sub_app S S2)
  exact ⟨rfl, h x dx pb es t6' h2 tk ⟨Nat.ne_of_gt l2, dd⟩ d F2 (nxF_of e1 e2 e2' e3 FR) N2 ap⟩
/-- shlex(text, posix=True) -/
theorem mkPx_K (B : Below A₀ base outer h₀) (F : Fr h₀ L s.heap m) (X : (hd.heap_39 w.params).In h₀) (N : News h₀ L s.heap news) (T : Top hd.view_39 lo mean mg mb h₀) (hA : A.frames = some (env :: outer)) (hf : env.frame = some L) (hke : env.scope.kind = .function) (hroom : A.depth + 16 < recursionLimit) (hh : A.handled = none) (hb : text.length ≤ 1000)
    (h : ∀ x dx pb fs (i : IO) es t6 h' tk, i.buf = text → PxDist x dx pb fs i → Fr h₀ L h' m → LxF i pb fs (some 32) 1 es → News h₀ L h' ((((x, instObj 722 dx) :: (dx, dictOf es 19) :: i.led 0 t6) ++ [(pb, dequeObj), (fs, dequeObj)]) ++ news) →
      (∀ p ∈ ((x, instObj 722 dx) :: (dx, dictOf es 19) :: i.led 0 t6) ++ [(pb, dequeObj), (fs, dequeObj)], ∀ r ∈ news, r.1 ≠ p.1) → Q (.ref x) { s with heap := h', toks := tk }) :
    wpAny (model PySem.Challenge.rw_om0137_01.row.prog w) A (call (.ref 722) [.str text t] [("posix", .bool true)]) Q E s := by
  obtain ⟨⟨m1, m2, m3⟩, -⟩ := lex_K w
  refine wpAny_call (make_K F N (X.keeps F.keep) m1 m2 m3 fun x dx h' F' N' l1 l2 => ?_)
  have NS : News h₀ L h' [(x, instObj 722 dx), (dx, emptyDict)] := fun q hq => N' q (by
    simp only [List.mem_cons, List.not_mem_nil, or_false] at hq ⊢
    rcases hq with z | z <;> simp [z])
  have NR : News h₀ L h' news := fun q hq => N' q (.tail _ (.tail _ hq))
  obtain ⟨g', G', S', k', back⟩ := pushZ (A := A.under (.builtin "type.__call__" ⟨.ref 722 :: [.str text t], [("posix", .bool true)]⟩)) (env := env) (s := { s with heap := h' }) B F' NS hA hf hke X T
  refine init_px w G' (by simp only [depth_under_kw]; omega) hh k' S' (Nat.ne_of_gt l2) hb ?_
  rintro i pb fs h2 tk eb d k2 ⟨⟨Γ, es, t6, e1, e2, e3, FR, S⟩, S2⟩
  obtain ⟨F2, N2, ap⟩ := back news NR (notin_two l1 l2) h2 _ k2 (sub_app S S2)
  exact ⟨rfl, h x dx pb fs i es t6 h2 tk eb d F2 ⟨Γ, e1, e2, e3, FR⟩ N2 ap⟩
end
end Mine
end

section
open PySem PySem.W PyProof.Rows PySem.Calls
set_option Elab.async false
set_option maxRecDepth 100000
set_option maxHeartbeats 8000000
namespace Mine
theorem sub_perm {g h : Heap} {a b : List (Addr × Obj)} (S : Sub g h a) (e : ∀ p ∈ b, p ∈ a) : Sub g h b := fun p hp => S p (e p hp)
theorem gt_K (w : World) : (findIn (hd.heap_39 w.params) (.ref 764) "get_token" = some (some (.ref 754)) ∧ isFn (hd.heap_39 w.params) (.ref 754) = true ∧ keepIn (hd.heap_39 w.params) (.ref 754) = true) ∧ findIn (hd.heap_39 w.params) (.ref 722) "get_token" = some (some (.ref 683)) ∧ isFn (hd.heap_39 w.params) (.ref 683) = true ∧ keepIn (hd.heap_39 w.params) (.ref 683) = true := by
  have e : PySem.Challenge.rw_om0137_01 = PySem.Challenge.rw_om0137_01 := rfl
  revert e
  k_fill
  intro _
  refine ⟨⟨?_, ?_, ?_⟩, ?_, ?_, ?_⟩ <;> k_is
theorem gt_nlf {ln : V} {wc : Nat} {wb : Bool} : lookS "get_token" (nlf ln wc wb) = none := by kernel_rfl
theorem gt_lf {st tok ln : V} {wc : Nat} {wb : Bool} {Qs Cs : List Nat} {ws : Bool} : lookS "get_token" (lf st tok ln wc wb Qs Cs ws) = none := by kernel_rfl
theorem ln_nlf {wc : Nat} {wb : Bool} : lookS "lineno" (nlf (.row 0) wc wb) = some (.row 0) := by kernel_rfl
theorem ln_lf {st tok : V} {wc : Nat} {wb : Bool} {Qs Cs : List Nat} {ws : Bool} : lookS "lineno" (lf st tok (.row 0) wc wb Qs Cs ws) = some (.row 0) := by kernel_rfl
section
variable {w : World} {s : Shared} {A A₀ : Around} {base h₀ : Heap} {outer : List Env} {mg mb : Str → Option Value} {mean : ExcName → Option Value} {env : Env} {L : Addr} {m : Str → Option Value} {news : List (Addr × Obj)} {E : Value → Shared → Prop} {Q : Value → Shared → Prop}
  {x dx pb fs : Addr} {i : IO} {es : List DictEntry} {p t6 : Nat} {ln : Int} {st : Option Nat}
/-- ours.get_token() -/
theorem nget_K (B : Below A₀ base outer h₀) (F : Fr h₀ L s.heap m) (X : (hd.heap_39 w.params).In h₀) (T : Top hd.view_39 lo mean mg mb h₀) (hA : A.frames = some (env :: outer)) (hf : env.frame = some L) (hke : env.scope.kind = .function) (hroom : A.depth + 16 < recursionLimit) (hh : A.handled = none)
    (K : NxS x dx pb i) (hp : p ≤ i.buf.length) (FR : NxF i pb ln es) (N : News h₀ L s.heap (nxLed x dx pb i es p t6 ++ news)) (hap : ∀ r ∈ news, r.1 ∉ [x, dx, i.io, i.dio, pb])
    (h : ∀ p' tok' ln' es' t6' h' tk t, p' ≤ i.buf.length → tok'.length ≤ 1000 → Nd (nt ((sL i.buf).drop p) ln) tok' ((sL i.buf).drop p') ln' → NxF i pb ln' es' → Fr h₀ L h' m → News h₀ L h' (nxLed x dx pb i es' p' t6' ++ news) → Q (.str (ofL tok') t) { s with heap := h', toks := tk }) :
    wpAny (model PySem.Challenge.rw_om0137_01.row.prog w) A (call (.ref 754) [.ref x]) Q E s := by
  obtain ⟨Γ, e1, e2, e3, wc, wb, FR⟩ := FR
  have NS : News h₀ L s.heap (nxLed x dx pb i es p t6) := fun q hq => N q (List.mem_append_left _ hq)
  have NR : News h₀ L s.heap news := fun q hq => N q (List.mem_append_right _ hq)
  obtain ⟨g', G', S', k', back⟩ := pushZ (A := A) (env := env) B F NS hA hf hke X T
  refine wpAny_call (nget_ok G' (by omega) hh k' K.ok (pb := pb) rfl K.pb hp ⟨⟨Γ, es, t6, wc, wb, e1, by rw [e2], by rw [e2], e3, FR, sub_perm S' fun q hq => List.mem_append_left _ hq⟩, sub_perm S' fun q hq => List.mem_append_right _ hq⟩ ?_)
  rintro p' tok' ln' h' tk u a1 a2 a3 k2 ⟨⟨Γ', es', t6', wc', wb', f1, f2, f2', f3, FR', S⟩, S2⟩ ⟨t, rfl⟩
  obtain ⟨F2, N2, -⟩ := back news NR hap h' _ k2 (sub_app S S2)
  refine h p' tok' ln' es' t6' h' tk t a1 a2 (nDone_nd a3) (nxF_of f1 f2 f2' f3 FR') F2 N2
/-- theirs.get_token() -/
theorem lget_K (B : Below A₀ base outer h₀) (F : Fr h₀ L s.heap m) (X : (hd.heap_39 w.params).In h₀) (T : Top hd.view_39 lo mean mg mb h₀) (hA : A.frames = some (env :: outer)) (hf : env.frame = some L) (hke : env.scope.kind = .function) (hroom : A.depth + 16 < recursionLimit) (hh : A.handled = none)
    (K : LexOk2 x dx pb fs i wsS (rf3 i.io pb fs)) (hs : st ∈ sts1) (hp : p ≤ i.buf.length) (FR : LxF i pb fs st ln es) (N : News h₀ L s.heap (lxLed x dx pb fs i es p t6 ++ news)) (hap : ∀ r ∈ news, r.1 ∉ [x, dx, i.io, i.dio, pb, fs])
    (h : ∀ p' tok' ln' st' q' es' t6' h' tk u, p' ≤ i.buf.length → st' ∈ sts1 → rn ((sL i.buf).drop p) st 32 false [] ln = .brk ((sL i.buf).drop p') st' ln' tok' q' → LxF i pb fs st' ln' es' → Fr h₀ L h' m → News h₀ L h' (lxLed x dx pb fs i es' p' t6' ++ news) → (if !q' && tok'.isEmpty then u = .none else ∃ t, u = .str (ofL tok') t) → Q u { s with heap := h', toks := tk })
    (hbad : ∀ g, rn ((sL i.buf).drop p) st 32 false [] ln = .bad → Fr h₀ L g m → ∀ e h' tk t vs, RaisedS base g (env :: outer) e (.type "ValueError") t vs [] h' → g.UpToSlots h' → E (.ref e) { s with heap := h', toks := tk }) :
    wpAny (model PySem.Challenge.rw_om0137_01.row.prog w) A (call (.ref 683) [.ref x]) Q E s := by
  obtain ⟨Γ, e1, e2, e3, FR⟩ := FR
  have NS : News h₀ L s.heap (lxLed x dx pb fs i es p t6) := fun q hq => N q (List.mem_append_left _ hq)
  have NR : News h₀ L s.heap news := fun q hq => N q (List.mem_append_right _ hq)
  obtain ⟨FG, -, -, -⟩ := groundX (R := fun _ _ => True) (A := A) (env := env) (s := s) B F NS hA hf hke
  obtain ⟨G', S', k', back⟩ := pushY (A := A) (env := env) B F NS hA hf hke X T
  refine wpAny_call (get_token_ok G' (by omega) hh k' K hs hp ⟨⟨Γ, es, t6, e1, e2, e3, FR, sub_perm S' fun q hq => List.mem_append_left _ hq⟩, sub_perm S' fun q hq => List.mem_append_right _ hq⟩ ?_ ?_)
  · rintro p' tok' ln' st' q' h' tk u a1 a2 a3 k2 ⟨⟨Γ', es', t6', f1, f2, f3, FR', S⟩, S2⟩ hu
    obtain ⟨F2, N2⟩ := back news NR hap h' _ k2 (sub_app S S2)
    exact h p' tok' ln' st' q' es' t6' h' tk u a1 a2 a3 ⟨Γ', f1, f2, f3, FR'⟩ F2 N2 hu
  · intro hb e h' tk t vs hr hup
    exact hbad _ hb FG e h' tk t vs hr hup
/-- ours.lineno -/
theorem nline_K (F : Fr h₀ L s.heap m) (X : (hd.heap_39 w.params).In h₀) (FR : NxF i pb ln es) (N : News h₀ L s.heap (nxLed x dx pb i es p t6 ++ news)) (h : ∀ t, Q (.int ln t) { s with toks := s.toks + 1 }) : wpAny (model PySem.Challenge.rw_om0137_01.row.prog w) A (getAttr (.ref x) "lineno" true) Q E s := by
  obtain ⟨Γ, e1, e2, e3, wc, wb, FR⟩ := FR
  obtain ⟨u, eu, t, rfl⟩ := getL_of FR ln_nlf
  refine get_own F X (InstAt.of_news N (.head _) (.tail _ (.head _))) (cls_nx w).1 (cls_nx w).2.1 (find_nx w "lineno" (by decide)).1 rfl eu rfl ?_
  have e : Γ.ln0 + ((0 : Nat) : Int) = ln := by rw [e3]; simp
  rw [e]; exact h t
/-- theirs.lineno -/
theorem lline_K (F : Fr h₀ L s.heap m) (X : (hd.heap_39 w.params).In h₀) (FR : LxF i pb fs st ln es) (N : News h₀ L s.heap (lxLed x dx pb fs i es p t6 ++ news)) (h : ∀ t, Q (.int ln t) { s with toks := s.toks + 1 }) : wpAny (model PySem.Challenge.rw_om0137_01.row.prog w) A (getAttr (.ref x) "lineno" true) Q E s := by
  obtain ⟨Γ, e1, e2, e3, FR⟩ := FR
  obtain ⟨u, eu, t, rfl⟩ := getL_of FR ln_lf
  refine get_own F X (InstAt.of_news N (.head _) (.tail _ (.head _))) (cls_lex w).1 (cls_lex w).2.1 (find_lex w "lineno" (by decide)).1 rfl eu rfl ?_
  have e : Γ.ln0 + ((0 : Nat) : Int) = ln := by rw [e3]; simp
  rw [e]; exact h t
/-- ours.get_token, called -/
theorem nmeth_K {pl : Sem Bool} {Q : Value × List Value → Shared → Prop} (F : Fr h₀ L s.heap m) (X : (hd.heap_39 w.params).In h₀) (FR : NxF i pb ln es) (N : News h₀ L s.heap (nxLed x dx pb i es p t6 ++ news)) (h : Q (.ref 754, [.ref x]) s) : wpAny (model PySem.Challenge.rw_om0137_01.row.prog w) A (getMethod (.ref x) "get_token" pl) Q E s := by
  obtain ⟨Γ, e1, e2, e3, wc, wb, FR⟩ := FR
  exact method_inst F X (InstAt.of_news N (.head _) (.tail _ (.head _))) (cls_nx w).1 (gt_K w).1.1 (gt_K w).1.2.1 (getL_none FR gt_nlf) h
theorem lmeth_K {pl : Sem Bool} {Q : Value × List Value → Shared → Prop} (F : Fr h₀ L s.heap m) (X : (hd.heap_39 w.params).In h₀) (FR : LxF i pb fs st ln es) (N : News h₀ L s.heap (lxLed x dx pb fs i es p t6 ++ news)) (h : Q (.ref 683, [.ref x]) s) : wpAny (model PySem.Challenge.rw_om0137_01.row.prog w) A (getMethod (.ref x) "get_token" pl) Q E s := by
  obtain ⟨Γ, e1, e2, e3, FR⟩ := FR
  exact method_inst F X (InstAt.of_news N (.head _) (.tail _ (.head _))) (cls_lex w).1 (gt_K w).2.1 (gt_K w).2.2.1 (getL_none FR gt_lf) h
end
/-- two pairs of a text and a row, which are alike -/
theorem pair_same {prog : Program} {w : World} {A : Around} {E : Value → Shared → Prop} {s : Shared} {Q : Value → Shared → Prop} {a b : Addr} {x : Str} {n : Int} {t1 t2 t3 t4 : Nat} (ha : s.heap.get? a = some (tupO [.str x t1, .int n t2])) (hb : s.heap.get? b = some (tupO [.str x t3, .int n t4])) (hx : PyData.strOk x = true) (hu : A.units + 64 < cLine) (h : Q (.bool false) s) :
    wpAny (model prog w) A (compareOp .NotEq (.ref a) (.ref b)) Q E s := by
  refine ne_dataH (reads_tuple_at ha rfl rfl (.cons (Reads.str _ _) (.cons (Reads.int _ _) .nil))) (reads_tuple_at hb rfl rfl (.cons (Reads.str _ _) (.cons (Reads.int _ _) .nil))) ?_ ?_ hu ?_
  · simp [SeqAt.shaped, PyData.canLay0, PyData.canLayAll0, PyData.depth, PyData.depthAll, hx]
  · simp [SeqAt.shaped, PyData.canLay0, PyData.canLayAll0, PyData.depth, PyData.depthAll, hx]
  · simpa [PyData.eqv, PyData.eqvAll] using h
theorem lstep_chars {P : Nat → Prop} {T : Td} {c : Nat} (hc : P c) (hw : ∀ x ∈ T.w, P x) (hf : ∀ e ∈ T.f, ∀ x ∈ e.1, P x) : (∀ x ∈ (lstep T c).w, P x) ∧ ∀ e ∈ (lstep T c).f, ∀ x ∈ e.1, P x := by
  obtain ⟨f, M, w, r⟩ := T
  have h1 : ∀ x ∈ w ++ [c], P x := fun x hx => by
    rcases List.mem_append.mp hx with h | h
    · exact hw x h
    · rw [List.mem_singleton.mp h]; exact hc
  have h2 : ∀ a b : Int, ∀ e ∈ f ++ [(w, a, b)], ∀ x ∈ e.1, P x := fun a b e he => by
    rcases List.mem_append.mp he with h | h
    · exact hf e h
    · rw [List.mem_singleton.mp h]; exact hw
  have h3 : ∀ x ∈ ([] : List Nat), P x := fun x hx => nomatch hx
  have h4 : ∀ x ∈ [c], P x := fun x hx => by rw [List.mem_singleton.mp hx]; exact hc
  cases M <;> simp only [lstep] <;> (repeat' split) <;> first | exact ⟨hw, hf⟩ | exact ⟨h1, hf⟩ | exact ⟨h3, hf⟩ | exact ⟨h4, hf⟩ | exact ⟨h3, h2 _ _⟩
theorem fold_chars {P : Nat → Prop} : ∀ (l : List Nat) (T : Td), (∀ x ∈ l, P x) → (∀ x ∈ T.w, P x) → (∀ e ∈ T.f, ∀ x ∈ e.1, P x) → (∀ x ∈ (l.foldl lstep T).w, P x) ∧ ∀ e ∈ (l.foldl lstep T).f, ∀ x ∈ e.1, P x
  | [], _, _, hw, hf => ⟨hw, hf⟩
  | c :: l, T, hl, hw, hf => by
    obtain ⟨a, b⟩ := lstep_chars (c := c) (hl c (.head _)) hw hf
    exact fold_chars l (lstep T c) (fun x hx => hl x (.tail _ hx)) a b
theorem told_chars {P : Nat → Prop} (l : List Nat) (hl : ∀ x ∈ l, P x) : ∀ e ∈ (Tl .between [] 1 l).1, ∀ x ∈ e.1, P x := by
  obtain ⟨a, b⟩ := fold_chars l ⟨[], .between, [], 1⟩ hl (fun _ h => nomatch h) (fun _ h => nomatch h)
  unfold Tl
  generalize l.foldl lstep ⟨[], .between, [], 1⟩ = T at a b
  obtain ⟨f, M, w, r⟩ := T
  have h2 : ∀ a b : Int, ∀ e ∈ f ++ [(w, a, b)], ∀ x ∈ e.1, P x := fun a' b' e he => by
    rcases List.mem_append.mp he with h | h
    · exact b e h
    · rw [List.mem_singleton.mp h]; exact a
  cases M <;> simp only [ltold] <;> first | exact b | exact h2 _ _
theorem strOk_of {l : List Nat} (h : ∀ x ∈ l, x < 0x110000) : PyData.strOk (ofL l) = true := by
  unfold PyData.strOk
  simpa using h
/-- the found words, one by one -/
theorem FR.at {f : Fd} {items : List Value} {ft : List (Addr × Obj)} (h : FR f items ft) : ∀ (j : Nat) (k : List Nat) (b d : Int), f[j]? = some (k, b, d) → ∃ (x : Addr) (u1 u2 u3 : Nat), items[j]? = some (Value.ref x) ∧ (x, tupO [.str (ofL k) u1, .int b u2, .int d u3]) ∈ ft := by
  induction h with
  | nil => intro j k b d h; simp at h
  | @app f items ft k' b' d' x u1 u2 u3 hr ih =>
    intro j k b d h
    by_cases hj : j < f.length
    · rw [List.getElem?_append_left hj] at h
      obtain ⟨y, v1, v2, v3, e, m⟩ := ih j k b d h
      exact ⟨y, v1, v2, v3, by rw [List.getElem?_append_left (by rw [hr.length]; exact hj)]; exact e, .tail _ m⟩
    · rw [List.getElem?_append_right (by omega)] at h
      have hz : j - f.length = 0 := by
        by_cases hz : j - f.length = 0
        · exact hz
        · rw [List.getElem?_eq_none (by simp; omega)] at h; cases h
      rw [hz] at h
      simp only [List.getElem?_cons_zero, Option.some.injEq, Prod.mk.injEq] at h
      obtain ⟨rfl, rfl, rfl⟩ := h
      refine ⟨x, u1, u2, u3, ?_, .head _⟩
      rw [List.getElem?_append_right (by rw [hr.length]; omega), hr.length, hz]; rfl
end Mine
end

section
set_option Elab.async false
namespace Mine
theorem stepC_add (qs : List Nat) (wh : Bool) (st : Option Nat) (es : Nat) (q ne : Bool) (c : Option Nat) : (stepC qs wh st es q ne c).add.length ≤ 2 := by
  unfold stepC
  repeat' split
  all_goals simp
theorem newTok_len (qs : List Nat) (wh : Bool) (st : Option Nat) (es : Nat) (q ne : Bool) (c : Option Nat) (tok : List Nat) : (newTok (stepC qs wh st es q ne c) tok).length ≤ tok.length + 2 := by
  have := stepC_add qs wh st es q ne c
  unfold newTok
  split
  · omega
  · rw [List.length_append]; omega
theorem run_tok {qs : List Nat} {wh : Nat → Bool} : ∀ (l : List Nat) {st : Option Nat} {es : Nat} {q : Bool} {tok : List Nat} {ln : Int} {r' : List Nat} {st' : Option Nat} {n' : Int} {tok' : List Nat} {q' : Bool}, run qs wh l st es q tok ln = .brk r' st' n' tok' q' → tok'.length ≤ tok.length + 2 * (l.length + 1)
  | [], st, es, q, tok, ln, r', st', n', tok', q', h => by
    simp only [run] at h
    split at h
    · injection h with _ _ _ h _
      rw [← h]
      have := newTok_len qs false st es q (!tok.isEmpty) none tok
      simpa using this
    · cases h
  | c :: l, st, es, q, tok, ln, r', st', n', tok', q', h => by
    have hn := newTok_len qs (wh c) st es q (!tok.isEmpty) (some c) tok
    simp only [run] at h
    rw [List.length_cons]
    split at h
    · injection h with _ _ _ h _
      rw [← h]
      omega
    · split at h
      · cases h
      · have := run_tok l h
        omega
end Mine
end

section
open PySem PySem.W PyProof.Rows PySem.Calls
set_option Elab.async false
set_option maxRecDepth 100000
set_option maxHeartbeats 8000000
namespace Mine
theorem CallKw_ {M : Model} {A : Around} {E : Value → Shared → Prop} {s : Shared} {env : Env} {func : Expr} {args : List Expr} {kws : List Keyword} {pos : Pos} {Q : Value → Shared → Prop}
    (h : wpAny M A (eval func env) (fun f s₁ => wpAny M A (callWith pos f [] (backTo pos (starEach args env)) (backToKw pos (keywordEach kws env))) Q E s₁) E s)
    (he : eval (.Call func args kws pos) env = (do callWith pos (← eval func env) [] (backTo pos (starEach args env)) (backToKw pos (keywordEach kws env))) := by rfl) : wpAny M A (eval (.Call func args kws pos) env) Q E s := by
  rw [he]; exact wpAny_bind h
theorem ft_K (w : World) : nsIn (hd.heap_39 w.params) mainGlobals "_law_told" = some (some (.ref 798)) ∧ nsIn (hd.heap_39 w.params) mainGlobals "_netrclex" = some (some (.ref 764)) ∧ nsIn (hd.heap_39 w.params) mainGlobals "shlex" = some (some (.ref 722)) ∧ nsIn (hd.heap_39 w.params) mainGlobals "len" = some none ∧ nsIn (hd.heap_39 w.params) mainGlobals "ValueError" = some none ∧ keepIn (hd.heap_39 w.params) (.ref 798) = true ∧ keepIn (hd.heap_39 w.params) (.ref 764) = true ∧ keepIn (hd.heap_39 w.params) (.ref 722) = true := by
  have e : PySem.Challenge.rw_om0137_01 = PySem.Challenge.rw_om0137_01 := rfl
  revert e
  k_fill
  intro _
  refine ⟨?_, ?_, ?_, ?_, ?_, ?_, ?_, ?_⟩ <;> k_is
section
variable {w : World} {s : Shared} {A A₀ : Around} {base h₀ : Heap} {outer : List Env} {mg mb : Str → Option Value} {mean : ExcName → Option Value} {env : Env} {L : Addr} {m : Str → Option Value} {news : List (Addr × Obj)} {text : List Nat} {t : Nat} {E : Value → Shared → Prop} {Q : Value → Shared → Prop}
theorem told_K (B : Below A₀ base outer h₀) (F : Fr h₀ L s.heap m) (X : (hd.heap_39 w.params).In h₀) (T : Top hd.view_39 lo mean mg mb h₀) (hA : A.frames = some (env :: outer)) (hf : env.frame = some L) (hke : env.scope.kind = .function) (hroom : A.depth + 12 < recursionLimit) (hh : A.handled = none) (hlen : text.length ≤ 900)
    (h : ∀ a fl items ft te tw tr h' tk, Fr h₀ L h' m → News h₀ L h' ((a, tupO [.ref fl, .str (eS (Tl .between [] 1 text).2.1) te, .str (ofL (Tl .between [] 1 text).2.2.1) tw, .int (Tl .between [] 1 text).2.2.2 tr]) :: (fl, listOf items.toArray 0) :: ft) → FR (Tl .between [] 1 text).1 items ft → Q (.ref a) { s with heap := h', toks := tk }) :
    wpAny (model PySem.Challenge.rw_om0137_01.row.prog w) A (call (.ref 798) [.str (ofL text) t]) Q E s := by
  obtain ⟨g', G', S', k', back⟩ := pushZ (A := A) (env := env) (sub := []) B F News.nil hA hf hke X T
  refine wpAny_call (told_ok w G' hroom hh k' hlen ?_)
  rintro a h' tk k2 ⟨fl, items, ft, te, tw, tr, S2, hfr⟩
  obtain ⟨F2, N2, -⟩ := back [] News.nil (fun _ hp => nomatch hp) h' _ k2 S2
  rw [List.append_nil] at N2
  exact h a fl items ft te tw tr h' tk F2 N2 hfr
end
/-- the state ahead of a turn of the loop, and behind it -/
structure FitC where
  xo : Addr
  dxo : Addr
  pbo : Addr
  i : IO
  xt : Addr
  dxt : Addr
  pbt : Addr
  fst : Addr
  i' : IO
  fl : Addr
  items : List Value
  ft : List (Addr × Obj)
  f : Fd
  x : En × List Nat × Int
  te : Nat
  tw : Nat
  tr : Nat
noncomputable abbrev FitC.NA (c : FitC) : List Addr := [c.xo, c.dxo, c.i.io, c.i.dio, c.pbo]
noncomputable abbrev FitC.LA (c : FitC) : List Addr := [c.xt, c.dxt, c.i'.io, c.i'.dio, c.pbt, c.fst]
structure FitC.Ok (c : FitC) (text : List Nat) : Prop where
  nx : NxS c.xo c.dxo c.pbo c.i
  lx : LexOk2 c.xt c.dxt c.pbt c.fst c.i' wsS (rf3 c.i'.io c.pbt c.fst)
  b1 : sL c.i.buf = text
  b2 : sL c.i'.buf = text
  nl : ∀ r ∈ c.LA, r ∉ c.NA
  no : ∀ p ∈ (c.fl, listOf c.items.toArray 0) :: c.ft, p.1 ∉ c.NA ∧ p.1 ∉ c.LA
  fr : FR c.f c.items c.ft
  ok : ∀ e ∈ c.f, PyData.strOk (ofL e.1) = true
  len : c.f.length ≤ 1000
  fin : c.x.1 = .fin → c.x.2.1 = []
  wl : c.x.2.1.length ≤ 1000
structure MF (c : FitC) (m : Str → Option Value) : Prop where
  ours : m (Str.ofString "ours") = some (.ref c.xo)
  theirs : m (Str.ofString "theirs") = some (.ref c.xt)
  en : m (Str.ofString "end") = some (.str (eS c.x.1) c.te)
  word : m (Str.ofString "word") = some (.str (ofL c.x.2.1) c.tw)
  row : m (Str.ofString "row") = some (.int c.x.2.2 c.tr)
noncomputable def FitC.led (c : FitC) (eo : List DictEntry) (po to_ : Nat) (et : List DictEntry) (pt tt : Nat) : List (Addr × Obj) := nxLed c.xo c.dxo c.pbo c.i eo po to_ ++ lxLed c.xt c.dxt c.pbt c.fst c.i' et pt tt
structure FS (c : FitC) (g : Heap) (L : Addr) (j : Nat) (rest : List (Addr × Obj)) (h : Heap) (m : Str → Option Value) (eo : List DictEntry) (po to_ : Nat) (et : List DictEntry) (pt tt : Nat) (lo lt : Int) (st : Option Nat) : Prop where
  F : Fr g L h m
  M : MF c m
  hpo : po ≤ c.i.buf.length
  hpt : pt ≤ c.i'.buf.length
  hst : st ∈ sts1
  hno : NxF c.i c.pbo lo eo
  hlt : LxF c.i' c.pbt c.fst st lt et
  N : News g L h (nxLed c.xo c.dxo c.pbo c.i eo po to_ ++ (lxLed c.xt c.dxt c.pbt c.fst c.i' et pt tt ++ rest))
  asked : AskedO (c.f.drop j) (nt ((sL c.i.buf).drop po) lo) (rn ((sL c.i'.buf).drop pt) st 32 false [] lt) c.x
theorem news_swap {g : Heap} {L : Addr} {h : Heap} {a b c : List (Addr × Obj)} (N : News g L h (a ++ (b ++ c))) : News g L h (b ++ (a ++ c)) := fun p hp => N p (by
  simp only [List.mem_append] at hp ⊢
  rcases hp with z | z | z
  · exact .inr (.inl z)
  · exact .inl z
  · exact .inr (.inr z))
theorem pre_slice {x w : List Nat} (h : w <+: x) : Txt.slice (ofL x) none (some (w.length : Int)) = ofL w := by
  have hl := h.length_le
  have q := eq_of_beq (slice_closes_toL (x := ofL x) (j := (w.length : Int)) (by omega) (by rw [len_ofL]; omega))
  rw [q]
  have e : ((w.length : Int) - 0).toNat = w.length := by omega
  rw [e]
  show ofL (List.take w.length (List.drop 0 x)) = ofL w
  rw [List.drop_zero, List.prefix_iff_eq_take.mp h]
  simp
theorem notin_NA {c : FitC} {text : List Nat} (K : c.Ok text) {et : List DictEntry} {pt tt : Nat} {rest : List (Addr × Obj)} (hr : ∀ p ∈ rest, p.1 ∉ c.NA) : ∀ r ∈ lxLed c.xt c.dxt c.pbt c.fst c.i' et pt tt ++ rest, r.1 ∉ c.NA := fun r h => by
  rcases List.mem_append.mp h with z | z
  · refine K.nl r.1 ?_
    simp only [IO.led, List.cons_append, List.nil_append, List.mem_cons, List.not_mem_nil, or_false] at z ⊢
    rcases z with z | z | z | z | z | z <;> simp [z]
  · exact hr r z
theorem notin_LA {c : FitC} {text : List Nat} (K : c.Ok text) {eo : List DictEntry} {po to_ : Nat} {rest : List (Addr × Obj)} (hr : ∀ p ∈ rest, p.1 ∉ c.LA) : ∀ r ∈ nxLed c.xo c.dxo c.pbo c.i eo po to_ ++ rest, r.1 ∉ c.LA := fun r h hm => by
  rcases List.mem_append.mp h with z | z
  · refine K.nl r.1 hm ?_
    simp only [IO.led, List.cons_append, List.nil_append, List.mem_cons, List.not_mem_nil, or_false] at z ⊢
    rcases z with z | z | z | z | z <;> simp [z]
  · exact hr r z hm
theorem alpha_lt : ∀ x ∈ alpha1, x < 0x110000 := by decide
theorem told_len (text : List Nat) (h : text.length ≤ 900) : (Tl .between [] 1 text).1.length ≤ 1000 := by
  have := (fold_ok text ⟨[], .between, [], 1⟩ trivial).2
  unfold Tl
  generalize text.foldl lstep ⟨[], .between, [], 1⟩ = T at this
  obtain ⟨f, M, w, r⟩ := T
  simp only [List.length_nil] at this
  cases M <;> simp only [ltold, List.length_append, List.length_singleton] <;> omega
theorem news_one {g : Heap} {L : Addr} {h h1 : Heap} {a b rest : List (Addr × Obj)} {I : Addr} {o o1 : Obj} (N : News g L h (a ++ (b ++ (I, o) :: rest))) (hs : Heap.SameBut I h h1) (ho : h1.get? I = some o1) (ha : ∀ p ∈ a, p.1 ≠ I) (hb : ∀ p ∈ b, p.1 ≠ I) (hr : ∀ p ∈ rest, p.1 ≠ I) : News g L h1 (a ++ (b ++ (I, o1) :: rest)) := by
  have old : ∀ p ∈ a ++ (b ++ (I, o) :: rest), p.1 ≠ I → h1.get? p.1 = some p.2 ∧ p.1 ≠ L ∧ g.get? p.1 = none := fun p hp e => ⟨(hs.2 p.1 e).trans (N p hp).1, (N p hp).2⟩
  intro p hp
  rcases List.mem_append.mp hp with z | z
  · exact old p (List.mem_append_left _ z) (ha p z)
  · rcases List.mem_append.mp z with z | z
    · exact old p (List.mem_append_right _ (List.mem_append_left _ z)) (hb p z)
    · rcases List.mem_cons.mp z with rfl | z
      · exact ⟨ho, (N (I, o) (List.mem_append_right _ (List.mem_append_right _ (.head _)))).2⟩
      · exact old p (List.mem_append_right _ (List.mem_append_right _ (.tail _ z))) (hr p z)
theorem nx_ne {x dx pb : Addr} {i : IO} {es : List DictEntry} {p t6 : Nat} {I : Addr} (h : I ∉ [x, dx, i.io, i.dio, pb]) : ∀ q ∈ nxLed x dx pb i es p t6, q.1 ≠ I := fun q hq e => h (by
  rw [← e]
  exact List.mem_map_of_mem (f := fun z : Addr × Obj => z.1) hq)
theorem lx_ne {x dx pb fs : Addr} {i : IO} {es : List DictEntry} {p t6 : Nat} {I : Addr} (h : I ∉ [x, dx, i.io, i.dio, pb, fs]) : ∀ q ∈ lxLed x dx pb fs i es p t6, q.1 ≠ I := fun q hq e => h (by
  rw [← e]
  exact List.mem_map_of_mem (f := fun z : Addr × Obj => z.1) hq)
theorem ne_nx {x dx pb : Addr} {i : IO} {es : List DictEntry} {p t6 : Nat} {I : Addr} (h : ∀ q ∈ nxLed x dx pb i es p t6, q.1 ≠ I) : I ∉ [x, dx, i.io, i.dio, pb] := fun hm => by
  obtain ⟨q, hq, e⟩ := List.mem_map.mp (show I ∈ (nxLed x dx pb i es p t6).map (·.1) from hm)
  exact h q hq e
theorem ne_lx {x dx pb fs : Addr} {i : IO} {es : List DictEntry} {p t6 : Nat} {I : Addr} (h : ∀ q ∈ lxLed x dx pb fs i es p t6, q.1 ≠ I) : I ∉ [x, dx, i.io, i.dio, pb, fs] := fun hm => by
  obtain ⟨q, hq, e⟩ := List.mem_map.mp (show I ∈ (lxLed x dx pb fs i es p t6).map (·.1) from hm)
  exact h q hq e
theorem told_fin (text : List Nat) : (Tl .between [] 1 text).2.1 = .fin → (Tl .between [] 1 text).2.2.1 = [] := by
  unfold Tl
  generalize text.foldl lstep ⟨[], .between, [], 1⟩ = T
  obtain ⟨f, M, w, r⟩ := T
  cases M <;> simp [ltold]
theorem fold_wl : ∀ (l : List Nat) (T : Td), (l.foldl lstep T).w.length ≤ T.w.length + l.length
  | [], T => by simp
  | c :: l, T => by
    have h1 := fold_wl l (lstep T c)
    have h2 := lstep_len T c
    rw [List.foldl_cons, List.length_cons]
    omega
theorem told_wl (text : List Nat) (h : text.length ≤ 900) : (Tl .between [] 1 text).2.2.1.length ≤ 1000 := by
  have := fold_wl text ⟨[], .between, [], 1⟩
  unfold Tl
  generalize text.foldl lstep ⟨[], .between, [], 1⟩ = T at this
  obtain ⟨f, M, w, r⟩ := T
  simp only [List.length_nil] at this
  cases M <;> simp only [ltold, List.length_nil] <;> omega
/-- what is asked behind the loop, as the code asks it -/
noncomputable def TailP (N : NO) (O : Out) (en : En) (w : List Nat) (row : Int) : Prop := ∃ tok r n, Nd N tok r n ∧ w <+: tok ∧ (en = .fin ∧ tok = [] ∧ w = [] ∧ n = row ∧ (∃ r' st', O = .brk r' st' row [] false) ∨
  en = .other ∧ (O = .bad ∨ ∃ r' st' n' tok' q, O = .brk r' st' n' tok' q ∧ w <+: tok' ∧ tok ≠ tok'))
theorem tailP_of {N : NO} {O : Out} {en : En} {w : List Nat} {row : Int} (h : AfterO N O en w row) (hf : en = .fin → w = []) (hs : en ≠ .same) : TailP N O en w row := by
  cases en with
  | same => exact absurd rfl hs
  | fin =>
    obtain ⟨⟨r, h1⟩, h2⟩ := h
    exact ⟨[], r, row, h1, by rw [hf rfl]; exact List.prefix_rfl, .inl ⟨rfl, rfl, hf rfl, rfl, h2⟩⟩
  | other =>
    obtain ⟨tok, r, n, h1, h2, h3⟩ := h
    exact ⟨tok, r, n, h1, h2, .inr ⟨rfl, h3⟩⟩
theorem en_cases (en : En) : en = .same ∨ en ≠ .same := by cases en <;> simp
theorem eS_same {en : En} (h : en ≠ .same) : (eS en == Str.ofString "same") = false := by cases en <;> first | exact absurd rfl h | decide
theorem ofL_ne {a b : List Nat} (h : a ≠ b) : (ofL a != ofL b) = true := by
  rw [bne_iff_ne]
  intro e
  exact h (by rw [← sL_ofL a, ← sL_ofL b, e])
theorem ofL_self (a : List Nat) : (ofL a != ofL a) = false := by rw [bne_eq_false_iff_eq]
theorem ofL_beq (a : List Nat) : (ofL a == ofL a) = true := beq_self_eq_true _
theorem mf_set1 {c : FitC} {m : Str → Option Value} {v : Value} {y : Str} (M : MF c m) (hy : y = Str.ofString "mine" ∨ y = Str.ofString "yours") : MF c (fun z => if z = y then some v else m z) := by
  refine ⟨?_, ?_, ?_, ?_, ?_⟩ <;> ((try dsimp only); rw [if_neg (by rcases hy with rfl | rfl <;> decide)])
  · exact M.ours
  · exact M.theirs
  · exact M.en
  · exact M.word
  · exact M.row
theorem fd_at (f : Fd) (j : Nat) : (f.length ≤ j ∧ f.drop j = []) ∨ ∃ k a b, f[j]? = some (k, a, b) ∧ j < f.length ∧ f.drop j = (k, a, b) :: f.drop (j + 1) := by
  by_cases h : j < f.length
  · exact .inr ⟨_, _, _, List.getElem?_eq_getElem h, h, List.drop_eq_getElem_cons h⟩
  · exact .inl ⟨by omega, List.drop_eq_nil_of_le (by omega)⟩
theorem mf_set3 {c : FitC} {m : Str → Option Value} {v1 v2 v3 : Value} (M : MF c m) : MF c (fun z => if z = Str.ofString "second" then some v3 else (fun z => if z = Str.ofString "first" then some v2 else (fun z => if z = Str.ofString "known" then some v1 else m z) z) z) := by
  refine ⟨?_, ?_, ?_, ?_, ?_⟩ <;> (dsimp only; rw [if_neg (by decide), if_neg (by decide), if_neg (by decide)])
  · exact M.ours
  · exact M.theirs
  · exact M.en
  · exact M.word
  · exact M.row
theorem mf_mk {m : Str → Option Value} {xo dxo pbo : Addr} {i : IO} {xt dxt pbt fst : Addr} {i' : IO} {fl : Addr} {items : List Value} {ft : List (Addr × Obj)} {f : Fd} {x : En × List Nat × Int} {te tw tr : Nat}
    (h1 : m (Str.ofString "ours") = some (.ref xo)) (h2 : m (Str.ofString "theirs") = some (.ref xt)) (h3 : m (Str.ofString "end") = some (.str (eS x.1) te)) (h4 : m (Str.ofString "word") = some (.str (ofL x.2.1) tw)) (h5 : m (Str.ofString "row") = some (.int x.2.2 tr)) :
    MF ⟨xo, dxo, pbo, i, xt, dxt, pbt, fst, i', fl, items, ft, f, x, te, tw, tr⟩ m := ⟨h1, h2, h3, h4, h5⟩
/-- what holds at each turn of the loop over the rows found -/
noncomputable abbrev FitInv (c : FitC) (g : Heap) (L' I : Addr) (s : Shared) (n : Nat) (s' : Shared) : Prop := ∃ j h tk m eo po to_ et pt tt lo lt st o, n = 2000 - j ∧ j ≤ c.f.length ∧ s' = { s with heap := h, toks := tk } ∧ FS c g L' j ((I, o) :: (c.fl, listOf c.items.toArray 0) :: c.ft) h m eo po to_ et pt tt lo lt st ∧ o.cls = .type "list_iterator" ∧ o.data = .fields #[.ref c.fl, .int j 0]
theorem fits_ok (w : World) {s : Shared} {A : Around} {base g : Heap} {fr : List Env} {mg mb : Str → Option Value} {mean : ExcName → Option Value} {text : List Nat} {t : Nat} {R : Result → Shared → Prop}
    (G : Gd w A base fr mean mg mb g) (hroom : A.depth + 24 < recursionLimit) (hh : A.handled = none) (hu : A.units + 67 < cLine) (k : Ke g s.heap) (hlen : text.length ≤ 900) (hal : ∀ c ∈ text, c ∈ alpha1)
    (XB : (hd.heap_39 w.params).In base) (TB : Top hd.view_39 lo mean mg mb base) (D : KtsDicts (fr.filterMap (·.frame)) g)
    (hR : ∀ g' h' tk, KtsTurn (fr.filterMap (·.frame)) g g' → Ke g' h' → R (.ok (.ret (.bool true))) { s with heap := h', toks := tk }) :
    codeAny (model PySem.Challenge.rw_om0137_01.row.prog w) A (.call (.ref 805) ⟨[.str (ofL text) t], []⟩) R s := by
  have S : Sub g s.heap [] := fun _ hp => nomatch hp
  obtain ⟨g1, g2, g3, g4, g5, g6, g7, g8⟩ := ft_K w
  have X := G.X
  have hA := G.B.stack
  revert X
  k_fill
  intro X
  refine' enterG G S k ?k6 ?k7 ?k8 ?k9 ?kB ?_ ?c2 ?c3 ?c4 ?c5
  case k6 => k_is
  case k7 => k_is
  case k8 => omega
  case k9 => first | exact BindsTo.of_eq rfl | exact binds_K (Frag.In.keeps X k.keep) rfl (by k_is) rfl rfl rfl
  case kB => exact rfl
  case c2 => decide
  case c3 => exact rfl
  case c4 => exact rfl
  case c5 => exact rfl
  intro L' h₁ F' N' hlt
  have hp := law_plain text
  refine wpAny_gen fun Q0 E0 hQ0 hE0 => ?_
  replace hR : ∀ g' h' tk, KtsTurn (fr.filterMap (·.frame)) g g' → Ke g' h' → Q0 (.ret (.bool true)) { s with heap := h', toks := tk } := fun g' h' tk t k => by rw [hQ0]; exact hR g' h' tk t k
  clear hQ0
  refine wpAny_execs_cons (Assign_Tuple (Call_ (ld_global_at F' G.T.g (mg_of G.X G.T.g g1) (callWith_K G.X g6 (spliced_more (wpAny_Name (wpAny_loadName_local rfl rfl F'.ns rfl (spliced_none ⟨G.X.keeps F'.keep, ?_⟩))))) rfl rfl (by decide)) rfl) rfl rfl)
  refine told_K (env := _) G.B F' G.X G.T (Around.frames_deeper G.B.stack) rfl rfl ?_ hh hlen ?_
  · simp only [depth_deeper]; omega
  intro a fl items ft te tw tr h1 tk1 F1 N1 hfr
  refine unpackN_ F1 N1 (N1.isTup (.head _)) hh rfl rfl fun h2 F2 N2 => ?_
  refine assignInOrder_cons (wpAny_assign_Name (stN F2 N2 fun h3 F3 N3 => ?_))
  refine assignInOrder_cons (wpAny_assign_Name (stN F3 N3 fun h4 F4 N4 => ?_))
  refine assignInOrder_cons (wpAny_assign_Name (stN F4 N4 fun h5 F5 N5 => ?_))
  refine assignInOrder_cons (wpAny_assign_Name (stN F5 N5 fun h6 F6 N6 => ?_))
  refine assignInOrder_nil ?_
  clear F2 F3 F4 F5 N2 N3 N4 N5 F' N' F1 N1
  dsimp only
  refine wpAny_execs_cons (wpAny_Assign_Name (Call_ (ld_global_at F6 G.T.g (mg_of G.X G.T.g g2) (callWith_K G.X g7 (spliced_more (Attribute_any_ (Call_ (ld_global_at F6 G.T.g (mg_of G.X G.T.g g3) (callWith_K G.X g8 (spliced_more (wpAny_Name (wpAny_loadName_local rfl rfl F6.ns rfl (spliced_none ⟨G.X.keeps F6.keep, ?_⟩))))) rfl rfl (by decide)) rfl)))) rfl rfl (by decide)) rfl) rfl)
  refine mkNp_K (env := _) G.B F6 G.X N6 G.T (Around.frames_deeper G.B.stack) rfl rfl ?_ hh (by rw [len_ofL]; omega) ?_
  · simp only [depth_deeper]; omega
  intro x0 dx0 i hs0 kt0 t60 es0 h7 tk7 hib hid F7 N7 ap7
  refine get_own F7 G.X (InstAt.of_news N7 (.head _) (.tail _ (.head _))) (cls_lex w).1 (cls_lex w).2.1 (find_lex w "instream" (by decide)).1 rfl (v := .ref i.io) ?_ rfl (spliced_none ⟨G.X.keeps F7.keep, ?_⟩)
  · unfold getL
    rw [List.find?_cons_of_pos (by simp [Value.isStr])]
  have N8 : News g L' h7 (i.led 0 t60 ++ (fl, listOf items.toArray 0) :: ft) := fun q hq => N7 q (by
    simp only [IO.led, List.cons_append, List.nil_append, List.mem_cons, List.not_mem_nil, or_false] at hq ⊢
    rcases hq with z | z | z | z <;> simp [z])
  refine mkNx_K (env := _) G.B F7 G.X N8 G.T (Around.frames_deeper G.B.stack) rfl rfl ?_ hh hid (fun p hp r hr => ap7 p hp r (.tail _ hr)) ?_
  · simp only [depth_deeper]; omega
  intro xo dxo pbo eso t6o h9 tk9 do1 do2 F9 fro N9 ap9
  dsimp only
  refine stN F9 N9 fun h10 F10 N10 => ?_
  refine wpAny_execs_cons (wpAny_Assign_Name (CallKw_ (ld_global_at F10 G.T.g (mg_of G.X G.T.g g3) (callWith_KW G.X g8 rfl (spliced_more (wpAny_Name (wpAny_loadName_local rfl rfl F10.ns rfl (spliced_none (kwAll_cons (wpAny_Constant_bool (kwAll_nil ⟨G.X.keeps F10.keep, ?_⟩))))))) rfl rfl) rfl rfl (by decide)) rfl) rfl)
  refine mkPx_K (env := _) G.B F10 G.X N10 G.T (Around.frames_deeper G.B.stack) rfl rfl ?_ hh (by rw [len_ofL]; omega) ?_
  · simp only [depth_deeper]; omega
  intro xt dxt pbt fst it' est t6t h11 tk11 hit dt F11 frt N11 ap11
  refine stN F11 N11 fun h12 F12 N12 => ?_
  dsimp only
  clear F6 F7 F9 F10 F11 N6 N7 N8 N9 N10 N11
  have hl0 : text.length = (ofL text).length := (len_ofL text).symm
  have K : FitC.Ok ⟨xo, dxo, pbo, i, xt, dxt, pbt, fst, it', fl, items, ft, (Tl .between [] 1 text).1, (Tl .between [] 1 text).2, te, tw, tr⟩ text := by
    refine ⟨⟨⟨⟨do1.2.1, do1.2.2⟩, do1.1, rfl, by rw [hib, ← hl0]; omega⟩, do2⟩, ⟨⟨dt.1, dt.2.1, rfl, by rw [hit, ← hl0]; omega, ?_, ?_, zero_ws⟩, rfl, rfl, dt.2.2.1, dt.2.2.2⟩, by rw [hib], by rw [hit], ?_, ?_, hfr, ?_, ?_, ?_, ?_⟩
    · rw [hit]; exact hal
    · intro c _; exact ws_wh2 c
    · intro r hr hm
      obtain ⟨p, hp1, rfl⟩ := List.mem_map.mp (show r ∈ (lxLed xt dxt pbt fst it' est 0 t6t).map (·.1) from hr)
      obtain ⟨q, hq1, hq2⟩ := List.mem_map.mp (show p.1 ∈ (nxLed xo dxo pbo i eso 0 t6o).map (·.1) from hm)
      exact ap11 p hp1 q (List.mem_append_left _ hq1) hq2
    · intro q hq
      refine ⟨fun hm => ?_, fun hm => ?_⟩
      · obtain ⟨p, hp1, hp2⟩ := List.mem_map.mp (show q.1 ∈ (nxLed xo dxo pbo i eso 0 t6o).map (·.1) from hm)
        exact ap9 p hp1 q hq hp2.symm
      · obtain ⟨p, hp1, hp2⟩ := List.mem_map.mp (show q.1 ∈ (lxLed xt dxt pbt fst it' est 0 t6t).map (·.1) from hm)
        exact ap11 p hp1 q (List.mem_append_right _ hq) hp2.symm
    · intro e he
      exact strOk_of fun x hx => told_chars (P := fun x => x < 0x110000) text (fun x hx => alpha_lt x (hal x hx)) e he x hx
    · exact told_len text hlen
    · exact told_fin text
    · exact told_wl text hlen
  have key : ∃ (c : FitC) (m : Str → Option Value) (eo : List DictEntry) (to_ : Nat) (et : List DictEntry) (tt : Nat), c.Ok text ∧ m (Str.ofString "found") = some (.ref c.fl) ∧ FS c g L' 0 ((c.fl, listOf c.items.toArray 0) :: c.ft) h12 m eo 0 to_ et 0 tt 1 1 (some 32) := by
    refine ⟨_, _, eso, t6o, est, t6t, K, ?_, F12, mf_mk ?_ ?_ ?_ ?_ ?_, Nat.zero_le _, Nat.zero_le _, by decide, fro, frt, news_swap N12, ?_⟩
    · (dsimp only; (repeat rw [if_neg (by decide)]); exact if_pos rfl)
    · (dsimp only; (repeat rw [if_neg (by decide)]); exact if_pos rfl)
    · (dsimp only; (repeat rw [if_neg (by decide)]); exact if_pos rfl)
    · (dsimp only; (repeat rw [if_neg (by decide)]); exact if_pos rfl)
    · (dsimp only; (repeat rw [if_neg (by decide)]); exact if_pos rfl)
    · (dsimp only; (repeat rw [if_neg (by decide)]); exact if_pos rfl)
    · rw [hib, hit]
      exact hp
  obtain ⟨c, m, eo, to_, et, tt, K, hfl, Z⟩ := key
  have F := Z.F
  have N := Z.N
  have hI : ∀ p ∈ nxLed c.xo c.dxo c.pbo c.i eo 0 to_ ++ (lxLed c.xt c.dxt c.pbt c.fst c.i' et 0 tt ++ (c.fl, listOf c.items.toArray 0) :: c.ft), p.1 ≠ h12.objs.size := fun p hp => Nat.ne_of_lt (Heap.lt_size (N p hp).1)
  have hIN : h12.objs.size ∉ c.NA := ne_nx fun p hp => hI p (List.mem_append_left _ hp)
  have hIL : h12.objs.size ∉ c.LA := ne_lx fun p hp => hI p (List.mem_append_right _ (List.mem_append_left _ hp))
  have hIR : ∀ p ∈ (c.fl, listOf c.items.toArray 0) :: c.ft, p.1 ≠ h12.objs.size := fun p hp => hI p (List.mem_append_right _ (List.mem_append_right _ hp))
  refine wpAny_execs_cons (wpAny_For (wpAny_Name (wpAny_loadName_local rfl rfl F.ns hfl (wpAny_pyIter_list (N.isList (a := c.fl) (items := c.items.toArray) (n := 0) (d := none) (sl := #[]) (List.mem_append_right _ (List.mem_append_right _ (.head _)))) ?_))))
  refine codeAny_genR fun RR hRR => ?_
  refine codeAny_forLoop_any (FitInv c g L' h12.objs.size s) ?_ 2000 ?_
  rotate_left
  · have F1 := F.push { cls := .type "list_iterator", data := .fields #[.ref c.fl, .int 0 0] }
    have N1 := N.push F { cls := .type "list_iterator", data := .fields #[.ref c.fl, .int 0 0] }
    refine ⟨0, _, _, m, eo, 0, to_, et, 0, tt, 1, 1, some 32, { cls := .type "list_iterator", data := .fields #[.ref c.fl, .int 0 0] }, rfl, Nat.zero_le _, rfl, ⟨F1, Z.M, Z.hpo, Z.hpt, Z.hst, Z.hno, Z.hlt, ?_, Z.asked⟩, rfl, rfl⟩
    intro p hp
    refine N1 p ?_
    simp only [List.mem_append, List.mem_cons] at hp ⊢
    rcases hp with z | z | z | z
    · exact .inr (.inl z)
    · exact .inr (.inr (.inl z))
    · exact .inl z
    · exact .inr (.inr (.inr z))
  · clear F N Z
    rintro n s1 ⟨j, h, tk, m, eo, po, to_, et, pt, tt, lo, lt, st, o, rfl, hj, rfl, Z, oc, od⟩
    have hitN := Z.N (h12.objs.size, o) (List.mem_append_right _ (List.mem_append_right _ (.head _)))
    have hIt : h.IsListIter h12.objs.size c.fl j := ⟨o, hitN.1, oc, od⟩
    have hL : h.IsList c.fl c.items.toArray := Z.N.isList (a := c.fl) (items := c.items.toArray) (n := 0) (d := none) (sl := #[]) (List.mem_append_right _ (List.mem_append_right _ (.tail _ (.head _))))
    rcases fd_at c.f j with ⟨hle, hdr⟩ | ⟨k, a, b, hx, hlt, hdr⟩
    · refine wpAny_pyNext_list_end hh hIt hL (by rw [List.getElem?_toArray]; exact List.getElem?_eq_none (by rw [K.fr.length]; exact hle)) fun h1 he => wpAny_execs_nil ?_
      rw [hRR]
      clear hRR
      have asked := Z.asked
      rw [hdr] at asked
      have F1 : Fr g L' h1 m := ⟨Z.F.ns.extBut he (fun e => hitN.2.1 e.symm), fun b ob hb => he b ob (fun e => by rw [e, hitN.2.2] at hb; cases hb) (Z.F.keep b ob hb), Z.F.above⟩
      have N1 : News g L' h1 (nxLed c.xo c.dxo c.pbo c.i eo po to_ ++ (lxLed c.xt c.dxt c.pbt c.fst c.i' et pt tt ++ [])) := fun p hp => by
        have hp' : p ∈ nxLed c.xo c.dxo c.pbo c.i eo po to_ ∨ p ∈ lxLed c.xt c.dxt c.pbt c.fst c.i' et pt tt := by
          rcases List.mem_append.mp hp with z | z
          · exact .inl z
          · exact .inr (by rwa [List.append_nil] at z)
        have hpN := Z.N p (by
          rcases hp' with z | z
          · exact List.mem_append_left _ z
          · exact List.mem_append_right _ (List.mem_append_left _ z))
        refine ⟨he _ _ (fun e => ?_) hpN.1, hpN.2⟩
        rcases hp' with z | z
        · exact nx_ne hIN p z e
        · exact lx_ne hIL p z e
      have M1 := Z.M
      have hpo := Z.hpo
      have hpt := Z.hpt
      have hst := Z.hst
      have hno := Z.hno
      have hlt := Z.hlt
      have hfin := K.fin
      have hwl := K.wl
      obtain ⟨en, word, row, hX⟩ : ∃ en word row, c.x = (en, word, row) := ⟨_, _, _, rfl⟩
      rw [hX] at asked hfin hwl
      obtain ⟨mo, mt, me, mw, mr⟩ := id M1
      rw [hX] at me mw mr
      clear Z hitN hIt hL he
      dsimp only at asked me mw mr hfin hwl ⊢
      refine wpAny_execs_cons (wpAny_If (wpAny_isTrue_Compare1 (wpAny_Name (wpAny_loadName_local rfl rfl F1.ns me (wpAny_Constant_str (PyProof.Rows.eq_str (wpAny_truthy_bool ?_))))) rfl))
      rcases en_cases en with rfl | hns
      · rw [if_pos (by decide)]
        exact wpAny_execs_cons (wpAny_Return_some (wpAny_Constant_bool (hR g h1 _ KtsTurn.refl (Ke.of_fr F1))))
      rw [eS_same hns, if_neg (by decide)]
      refine wpAny_execs_nil ?_
      obtain ⟨tok, r, n1, hnd, hpre, hrest⟩ := tailP_of asked hfin hns
      dsimp only
      refine wpAny_execs_cons (wpAny_Assign_Name (MethodCall_ (wpAny_Name (wpAny_loadName_local rfl rfl F1.ns mo (nmeth_K F1 G.X hno N1 (callWith_K0 (G.X.keeps F1.keep) (gt_K w).1.2.2 ?_)))) rfl) rfl)
      refine nget_K (env := _) G.B F1 G.X G.T (Around.frames_deeper G.B.stack) rfl rfl ?_ hh K.nx hpo hno N1 (notin_NA K fun _ h => nomatch h) ?_
      · simp only [depth_deeper]; omega
      intro po' tok1 lo' eo' to' h2 tk2 t2 hpo' htl hnd' hno' F2 N2
      obtain ⟨rfl, hr6, rfl⟩ := Nd_unique hnd hnd'
      refine stN F2 N2 fun h3 F3 N3 => ?_
      obtain ⟨m3, F3, M3, mm3, mo3, mt3, me3, mw3, mr3⟩ : ∃ m, Fr g L' h3 m ∧ MF c m ∧ m (Str.ofString "mine") = some (.str (ofL tok) t2) ∧ m (Str.ofString "ours") = some (.ref c.xo) ∧ m (Str.ofString "theirs") = some (.ref c.xt) ∧ m (Str.ofString "end") = some (.str (eS en) c.te) ∧ m (Str.ofString "word") = some (.str (ofL word) c.tw) ∧ m (Str.ofString "row") = some (.int row c.tr) := by
        refine ⟨_, F3, mf_set1 M1 (.inl rfl), if_pos rfl, ?_, ?_, ?_, ?_, ?_⟩ <;> ((try dsimp only); rw [if_neg (by decide)]; assumption)
      clear F1 N1 F2 N2
      dsimp only
      refine wpAny_execs_cons (wpAny_If (wpAny_isTrue_Compare1 (Subscript_ (wpAny_Name (wpAny_loadName_local rfl rfl F3.ns mm3 (wpAny_Slice (wpAny_pure ?_))))) rfl))
      refine Call_ (ld_builtin_at F3 G.T.g (mg_none_of G.X G.T.g g4) G.T.b ((G.T.builtins _ (by decide)).trans (by boot_by_name)) (Calls.callWith_builtin rfl (Calls.evalArgs_plain (spliced_more (wpAny_Name (wpAny_loadName_local rfl rfl F3.ns mw3 (spliced_none (len_str (by rw [len_ofL]; omega) (wpAny_pure ?_)))))))) rfl rfl (by decide)) rfl
      refine slice_strN_ns (s := { s with heap := h3, toks := _ }) F3 N3 (fun h4 t4 k4 F4 N4 => ?_) rfl (fun _ => rfl) (by rw [len_ofL, sizeLine_eq]; omega)
      rw [len_ofL, pre_slice hpre]
      refine wpAny_Name (wpAny_loadName_local rfl rfl F4.ns mw3 (PyProof.Rows.ne_str (wpAny_truthy_bool ?_)))
      rw [ofL_self, if_neg (by decide)]
      refine wpAny_execs_nil ?_
      dsimp only
      refine wpAny_execs_cons (wpAny_Try_except (wpAny_execs_cons (wpAny_Assign_Name (MethodCall_ (wpAny_Name (wpAny_loadName_local rfl rfl F4.ns mt3 (lmeth_K F4 G.X hlt (news_swap N4) (callWith_K0 (G.X.keeps F4.keep) (gt_K w).2.2.2 ?_)))) rfl) rfl)))
      refine lget_K (env := _) G.B F4 G.X G.T (Around.frames_deeper G.B.stack) rfl rfl ?_ hh K.lx hst hpt hlt (news_swap N4) (notin_LA K fun _ h => nomatch h) ?_ ?_
      · simp only [depth_deeper]; omega
      · intro pt' tok' lt' st2 q2 et' tt' h5 tk5 u hpt' hst' hrn hlt' F5 N5 hu'
        have hl3 : tok'.length ≤ 3000 := by
          have h1 := run_tok _ hrn
          have h2 := K.lx.len
          rw [List.length_drop, show (sL c.i'.buf).length = c.i'.buf.length from by simp [Str.length]] at h1
          simp only [List.length_nil] at h1
          omega
        refine stN F5 N5 fun h6 F6o N6 => ?_
        obtain ⟨m6, F6, my6, mm6, mo6, mt6, me6, mw6, mr6⟩ : ∃ m, Fr g L' h6 m ∧ m (Str.ofString "yours") = some u ∧ m (Str.ofString "mine") = some (.str (ofL tok) t2) ∧ m (Str.ofString "ours") = some (.ref c.xo) ∧ m (Str.ofString "theirs") = some (.ref c.xt) ∧ m (Str.ofString "end") = some (.str (eS en) c.te) ∧ m (Str.ofString "word") = some (.str (ofL word) c.tw) ∧ m (Str.ofString "row") = some (.int row c.tr) := by
          refine ⟨_, F6o, if_pos rfl, ?_, ?_, ?_, ?_, ?_, ?_⟩ <;> ((try dsimp only); rw [if_neg (by decide)]; assumption)
        clear F3 N3 F4 N4 F5 N5 F6o
        refine wpAny_execs_nil (wpAny_execs_nil ?_)
        dsimp only
        refine wpAny_execs_cons (wpAny_If (wpAny_isTrue_Compare1 (wpAny_Name (wpAny_loadName_local rfl rfl F6.ns me6 (wpAny_Constant_str (PyProof.Rows.eq_str (wpAny_truthy_bool ?_))))) rfl))
        rcases hrest with ⟨rfl, rfl, rfl, rfl, r', st', hO⟩ | ⟨rfl, hO | ⟨r', st', n', tok3, q3, hO, hpre3, hne3⟩⟩
        · rw [if_pos (by decide)]
          rw [hO] at hrn
          injection hrn with e1 e2 e3 e4 e5
          subst e3 e4 e5
          have hu : u = .none := hu'
          subst hu
          refine wpAny_execs_cons (wpAny_Return_some (BoolOp_and (wpAny_Compare1 (wpAny_Name (wpAny_loadName_local rfl rfl F6.ns mm6 (wpAny_Constant_str (PyProof.Rows.eq_str (wpAny_truthy_bool ?_))))) rfl)))
          rw [if_pos (by decide)]
          refine BoolOp_and (wpAny_Compare1 (wpAny_Name (wpAny_loadName_local rfl rfl F6.ns my6 (wpAny_Constant_none (is_none (wpAny_truthy_bool ?_))))) rfl)
          rw [if_pos (by decide)]
          dsimp only
          refine BoolOp_and (wpAny_Compare1 (Attribute_Name_ (wpAny_Name (wpAny_loadName_local rfl rfl F6.ns mo6 (nline_K F6 G.X hno' (news_swap N6) fun t7 => wpAny_Name (wpAny_loadName_local rfl rfl F6.ns mr6 (eq_int (wpAny_truthy_bool ?_))))))) rfl)
          rw [beq_self_eq_true, if_pos rfl]
          refine BoolOp_one (wpAny_Compare1 (Attribute_Name_ (wpAny_Name (wpAny_loadName_local rfl rfl F6.ns mt6 (lline_K F6 G.X hlt' N6 fun t7 => wpAny_Name (wpAny_loadName_local rfl rfl F6.ns mr6 (eq_int ?_)))))) rfl)
          rw [beq_self_eq_true]
          exact hR g h6 _ KtsTurn.refl (Ke.of_fr F6)
        · rw [hO] at hrn
          cases hrn
        · rw [if_neg (by decide)]
          refine wpAny_execs_nil ?_
          rw [hO] at hrn
          injection hrn with e1 e2 e3 e4 e5
          subst e3 e4 e5
          by_cases hq : (!q3 && tok3.isEmpty) = true
          · rw [if_pos hq] at hu'
            subst hu'
            have hw0 : word = [] := by
              rw [Bool.and_eq_true] at hq
              rw [List.isEmpty_iff.mp hq.2] at hpre3
              exact List.prefix_nil.mp hpre3
            subst hw0
            refine wpAny_execs_cons (wpAny_Return_some (BoolOp_and (wpAny_Compare1 (wpAny_Name (wpAny_loadName_local rfl rfl F6.ns mm6 (wpAny_Name (wpAny_loadName_local rfl rfl F6.ns my6 (EqNone.ne_str_none (wpAny_truthy_bool ?_)))))) rfl)))
            rw [if_pos rfl]
            refine BoolOp_one (wpAny_Compare1 (Subscript_ (BoolOp_or (wpAny_Name (wpAny_loadName_local rfl rfl F6.ns my6 (PyProof.Rows.truthy_none ?_))))) rfl)
            rw [if_neg (by decide)]
            refine BoolOp_one (wpAny_Constant_str ?_)
            refine wpAny_Slice (wpAny_pure (Call_ (ld_builtin_at F6 G.T.g (mg_none_of G.X G.T.g g4) G.T.b ((G.T.builtins _ (by decide)).trans (by boot_by_name)) (Calls.callWith_builtin rfl (Calls.evalArgs_plain (spliced_more (wpAny_Name (wpAny_loadName_local rfl rfl F6.ns mw6 (spliced_none (len_str (by rw [len_ofL]; omega) (wpAny_pure ?_)))))))) rfl rfl (by decide)) rfl))
            dsimp only
            refine slice_strN_ns (s := { s with heap := h6, toks := _ }) F6 N6 (fun h8 t8 k8 F8 N8 => ?_) rfl (fun _ => rfl) (by rw [sizeLine_eq]; show 0 ≤ _; omega)
            rw [show Txt.slice (Str.ofString "") none (some ((ofL ([] : List Nat)).length : Int)) = ofL [] from pre_slice (x := []) (w := []) List.prefix_rfl]
            refine wpAny_Name (wpAny_loadName_local rfl rfl F8.ns mw6 (PyProof.Rows.eq_str ?_))
            rw [ofL_beq]
            exact hR g h8 _ KtsTurn.refl (Ke.of_fr F8)
          · rw [if_neg hq] at hu'
            obtain ⟨t7, rfl⟩ := hu'
            refine wpAny_execs_cons (wpAny_Return_some (BoolOp_and (wpAny_Compare1 (wpAny_Name (wpAny_loadName_local rfl rfl F6.ns mm6 (wpAny_Name (wpAny_loadName_local rfl rfl F6.ns my6 (PyProof.Rows.ne_str (wpAny_truthy_bool ?_)))))) rfl)))
            rw [ofL_ne hne3, if_pos rfl]
            refine BoolOp_one (wpAny_Compare1 (Subscript_ (BoolOp_or (wpAny_Name (wpAny_loadName_local rfl rfl F6.ns my6 (P.truthy_str (by rw [len_ofL]; omega) ?_))))) rfl)
            rw [len_ofL]
            by_cases hz : tok3.length = 0
            · rw [hz, if_neg (by decide)]
              have hw0 : word = [] := by
                rw [List.length_eq_zero_iff.mp hz] at hpre3
                exact List.prefix_nil.mp hpre3
              subst hw0
              refine BoolOp_one (wpAny_Constant_str ?_)
              refine wpAny_Slice (wpAny_pure (Call_ (ld_builtin_at F6 G.T.g (mg_none_of G.X G.T.g g4) G.T.b ((G.T.builtins _ (by decide)).trans (by boot_by_name)) (Calls.callWith_builtin rfl (Calls.evalArgs_plain (spliced_more (wpAny_Name (wpAny_loadName_local rfl rfl F6.ns mw6 (spliced_none (len_str (by rw [len_ofL]; omega) (wpAny_pure ?_)))))))) rfl rfl (by decide)) rfl))
              dsimp only
              refine slice_strN_ns (s := { s with heap := h6, toks := _ }) F6 N6 (fun h8 t8 k8 F8 N8 => ?_) rfl (fun _ => rfl) (by rw [sizeLine_eq]; show 0 ≤ _; omega)
              rw [show Txt.slice (Str.ofString "") none (some ((ofL ([] : List Nat)).length : Int)) = ofL [] from pre_slice (x := []) (w := []) List.prefix_rfl]
              refine wpAny_Name (wpAny_loadName_local rfl rfl F8.ns mw6 (PyProof.Rows.eq_str ?_))
              rw [ofL_beq]
              exact hR g h8 _ KtsTurn.refl (Ke.of_fr F8)
            · rw [if_pos (by rw [bne_iff_ne]; omega)]
              refine wpAny_Slice (wpAny_pure (Call_ (ld_builtin_at F6 G.T.g (mg_none_of G.X G.T.g g4) G.T.b ((G.T.builtins _ (by decide)).trans (by boot_by_name)) (Calls.callWith_builtin rfl (Calls.evalArgs_plain (spliced_more (wpAny_Name (wpAny_loadName_local rfl rfl F6.ns mw6 (spliced_none (len_str (by rw [len_ofL]; omega) (wpAny_pure ?_)))))))) rfl rfl (by decide)) rfl))
              dsimp only
              refine slice_strN_ns (s := { s with heap := h6, toks := _ }) F6 N6 (fun h8 t8 k8 F8 N8 => ?_) rfl (fun _ => rfl) (by rw [len_ofL, sizeLine_eq]; omega)
              rw [len_ofL, pre_slice hpre3]
              refine wpAny_Name (wpAny_loadName_local rfl rfl F8.ns mw6 (PyProof.Rows.eq_str ?_))
              rw [ofL_beq]
              exact hR g h8 _ KtsTurn.refl (Ke.of_fr F8)
      · intro gg hb FG e h5 tk5 t5 vs hr hup
        subst hE0
        refine caught_S0 (T' := "ValueError") hr FG G.B hup XB TB D KtsTurn.refl g5 PyProof.Rows.Boot.«ValueError» (by decide) PySem.F.isExc_ValueError PySem.F.notTuple_ValueError (by rw [isSubtype_type]; kernel_rfl) fun h6 g6 n6 T6 F6 N6 _ _ B6 X6 P6 D6 => ?_
        rcases hrest with ⟨rfl, rfl, rfl, rfl, r', st', hO⟩ | ⟨rfl, hO⟩
        · rw [hO] at hb
          cases hb
        · refine wpAny_execs_cons (wpAny_Return_some (wpAny_Compare1 (wpAny_Name (wpAny_loadName_local rfl rfl F6.ns me3 (wpAny_Constant_str (PyProof.Rows.eq_str ?_)))) rfl))
          exact hR g6 h6 _ T6 (Ke.of_fr F6)
    · clear hRR hE0
      have hok : PyData.strOk (ofL k) = true := K.ok (k, a, b) (List.mem_of_getElem? hx)
      obtain ⟨x, u1, u2, u3, hxi, hxm⟩ := K.fr.at j k a b hx
      refine wpAny_pyNext_list_item hIt hL (by simpa using hxi) fun h1 hIt1 hs1 => ?_
      obtain ⟨o1, g1', oc1, od1⟩ := id hIt1
      have N1 := news_one Z.N hs1 g1' (nx_ne hIN) (lx_ne hIL) hIR
      have F1 : Fr g L' h1 m := Z.F.change hs1 hitN.2.1 hitN.2.2
      refine wpAny_letOwnedTupleGo_listiter hIt1 ?_
      refine unpackN_ F1 N1 (N1.isTup (a := x) (items := #[.str (ofL k) u1, .int a u2, .int b u3]) (n := 0) (d := none) (sl := #[]) (List.mem_append_right _ (List.mem_append_right _ (.tail _ (.tail _ hxm))))) hh rfl rfl fun h2 F2 N2 => ?_
      refine assignInOrder_cons (wpAny_assign_Name (stN F2 N2 fun h3 F3 N3 => ?_))
      refine assignInOrder_cons (wpAny_assign_Name (stN F3 N3 fun h4 F4 N4 => ?_))
      refine assignInOrder_cons (wpAny_assign_Name (stN F4 N4 fun h5 F5 N5 => ?_))
      refine assignInOrder_nil ?_
      dsimp only
      obtain ⟨m5, F5, M5, hk5, hf5, hs5⟩ : ∃ m, Fr g L' h5 m ∧ MF c m ∧ m (Str.ofString "known") = some (.str (ofL k) u1) ∧ m (Str.ofString "first") = some (.int a u2) ∧ m (Str.ofString "second") = some (.int b u3) := by
        refine ⟨_, F5, mf_set3 Z.M, ?_, ?_, ?_⟩ <;> ((try dsimp only); (repeat rw [if_neg (by decide)]); exact if_pos rfl)
      clear F1 F2 F3 F4 N1 N2 N3 N4 hs1 hIt hL hitN
      have asked := Z.asked
      have hcl := K.len
      rw [hdr] at asked
      obtain ⟨r, hnd, r', st', q, hrn, hqk, asked⟩ := asked
      have hNA : ∀ p ∈ (h12.objs.size, o1) :: (c.fl, listOf c.items.toArray 0) :: c.ft, p.1 ∉ c.NA := fun p hp => by
        rcases List.mem_cons.mp hp with rfl | hp
        · exact hIN
        · exact (K.no p hp).1
      have hLA : ∀ p ∈ (h12.objs.size, o1) :: (c.fl, listOf c.items.toArray 0) :: c.ft, p.1 ∉ c.LA := fun p hp => by
        rcases List.mem_cons.mp hp with rfl | hp
        · exact hIL
        · exact (K.no p hp).2
      refine wpAny_execs_cons (wpAny_If (wpAny_isTrue_Compare1 (Tuple_ (spliced_more (MethodCall_ (wpAny_Name (wpAny_loadName_local rfl rfl F5.ns M5.ours (nmeth_K F5 G.X Z.hno N5 (callWith_K0 (G.X.keeps F5.keep) (gt_K w).1.2.2 ?_)))) rfl))) rfl))
      refine nget_K (env := _) G.B F5 G.X G.T (Around.frames_deeper G.B.stack) rfl rfl ?_ hh K.nx Z.hpo Z.hno N5 (notin_NA K hNA) ?_
      · simp only [depth_deeper]; omega
      intro po' tok' lo' eo' to' h6 tk6 t6 hpo' htl hnd' hno' F6 N6
      obtain ⟨rfl, hr6, rfl⟩ := Nd_unique hnd hnd'
      dsimp only
      refine spliced_more (Attribute_Name_ (wpAny_Name (wpAny_loadName_local rfl rfl F6.ns M5.ours (nline_K F6 G.X hno' N6 fun t7 => spliced_none (newTuple_N (s := { s with heap := h6, toks := _ }) F6 N6 (fun h7 F7 N7 => ?_) ?_)))))
      · refine Tuple_ (spliced_more (wpAny_Name (wpAny_loadName_local rfl rfl F7.ns hk5 (spliced_more (wpAny_Name (wpAny_loadName_local rfl rfl F7.ns hf5 (spliced_none (newTuple_N (s := { s with heap := h7, toks := _ }) F7 N7 (fun h8 F8 N8 => ?_) ?_))))))))
        · refine pair_same (N8 _ (.tail _ (.head _))).1 (N8 _ (.head _)).1 hok (show A.units + 3 + 64 < cLine by omega) (wpAny_truthy_bool ?_)
          rw [if_neg (by decide)]
          refine wpAny_execs_nil ?_
          have N9 : News g L' h8 (lxLed c.xt c.dxt c.pbt c.fst c.i' et pt tt ++ (nxLed c.xo c.dxo c.pbo c.i eo' po' to' ++ (h12.objs.size, o1) :: (c.fl, listOf c.items.toArray 0) :: c.ft)) := news_swap fun p hp => N8 p (.tail _ (.tail _ hp))
          dsimp only
          refine wpAny_execs_cons (wpAny_If (wpAny_isTrue_Compare1 (Tuple_ (spliced_more (MethodCall_ (wpAny_Name (wpAny_loadName_local rfl rfl F8.ns M5.theirs (lmeth_K F8 G.X Z.hlt N9 (callWith_K0 (G.X.keeps F8.keep) (gt_K w).2.2.2 ?_)))) rfl))) rfl))
          refine lget_K (env := _) G.B F8 G.X G.T (Around.frames_deeper G.B.stack) rfl rfl ?_ hh K.lx Z.hst Z.hpt Z.hlt N9 (notin_LA K hLA) ?_ ?_
          · simp only [depth_deeper]; omega
          · intro pt' tok' lt' st2 q2 et' tt' h9 tk9 u hpt' hst' hrn' hlt' F9 N10 hu'
            rw [hrn] at hrn'
            injection hrn' with e1 e2 e3 e4 e5
            subst e2 e3 e4 e5
            rw [e1] at asked
            rw [if_neg (by intro hc; rw [Bool.and_eq_true] at hc; obtain ⟨h1, h2⟩ := hc; rw [h2] at hqk; cases q; exact absurd hqk (by decide); exact absurd h1 (by decide))] at hu'
            obtain ⟨t9, rfl⟩ := hu'
            dsimp only
            refine spliced_more (Attribute_Name_ (wpAny_Name (wpAny_loadName_local rfl rfl F9.ns M5.theirs (lline_K F9 G.X hlt' N10 fun t10 => spliced_none (newTuple_N (s := { s with heap := h9, toks := _ }) F9 N10 (fun h11 F11 N11 => ?_) ?_)))))
            · refine Tuple_ (spliced_more (wpAny_Name (wpAny_loadName_local rfl rfl F11.ns hk5 (spliced_more (wpAny_Name (wpAny_loadName_local rfl rfl F11.ns hs5 (spliced_none (newTuple_N (s := { s with heap := h11, toks := _ }) F11 N11 (fun h13 F13 N13 => ?_) ?_))))))))
              · refine pair_same (N13 _ (.tail _ (.head _))).1 (N13 _ (.head _)).1 hok (show A.units + 3 + 64 < cLine by omega) (wpAny_truthy_bool ?_)
                rw [if_neg (by decide)]
                refine wpAny_execs_nil (wpAny_execs_nil ?_)
                refine ⟨2000 - (j + 1), by omega, j + 1, h13, _, m5, eo', po', to', et', pt', tt', _, _, _, o1, rfl, hlt, rfl, ⟨F13, M5, hpo', hpt', hst', hno', hlt', news_swap fun p hp => N13 p (.tail _ (.tail _ hp)), ?_⟩, oc1, od1⟩
                rw [← hr6]
                exact asked
              · show 2 ≤ _
                rw [sizeLine_eq]; omega
            · show 2 ≤ _
              rw [sizeLine_eq]; omega
          · intro g9 hb
            rw [hrn] at hb
            cases hb
        · show 2 ≤ _
          rw [sizeLine_eq]; omega
      · show 2 ≤ _
        rw [sizeLine_eq]; omega
end Mine
end

section
open PySem PySem.W PyProof.Rows PySem.Calls
set_option Elab.async false
set_option maxRecDepth 100000
set_option maxHeartbeats 8000000
namespace Mine
theorem strs_of_data : ∀ {vs : List Value} {ws : List Str}, DataAre vs (ws.map PyData.str) → StrsAre vs ws
  | [], [], _ => .nil
  | v :: vs, x :: ws, .cons h r => by
    cases h default with
    | str _ t => exact .cons x t (strs_of_data r)
/-- a piece, as the program has it -/
noncomputable def PieceOf (x : Str) : Prop := x.length ≤ 3 ∧ ∀ c ∈ sL x, c ∈ alpha1
theorem piece_ok (w : World) {s : Shared} {A : Around} {base g : Heap} {fr : List Env} {mg mb : Str → Option Value} {mean : ExcName → Option Value} {n : Int} {t : Nat} {R : Result → Shared → Prop}
    (G : Gd w A base fr mean mg mb g) (hroom : A.depth + 4 < recursionLimit) (k : Ke g s.heap)
    (hR : ∀ x h' tk t', PieceOf x → Ke g h' → R (.ok (.ret (.str x t'))) { s with heap := h', toks := tk }) :
    codeAny (model PySem.Challenge.rw_om0137_01.row.prog w) A (.call (.ref 784) ⟨[.int n t], []⟩) R s := by
  have S : Sub g s.heap [] := fun _ hp => nomatch hp
  have X := G.X
  revert X
  k_fill
  intro X
  refine' enterG G S k ?k6 ?k7 ?k8 ?k9 ?kB ?_ ?c2 ?c3 ?c4 ?c5
  case k6 => k_is
  case k7 => k_is
  case k8 => omega
  case k9 => first | exact BindsTo.of_eq rfl | exact binds_K (Frag.In.keeps X k.keep) rfl (by k_is) rfl rfl rfl
  case kB => exact rfl
  case c2 => decide
  case c3 => exact rfl
  case c4 => exact rfl
  case c5 => exact rfl
  intro L' h₁ F N hlt
  refine wpAny_execs_cons ?_
  with_reducible refine wpAny_Return_some ?_
  with_reducible refine Subscript_ ?_
  with_reducible refine Tuple_ ?_
  with_reducible refine spliced_lits _ ((["a", " ", "\\\"", "\\\\", " \"", "\" ", "\"", "'", "\\ ", "\n", "b\tB", "\\'", "\"\"", "''", "éß", "\\"] : List Str).map PyData.str) _ _ ?hl ?_
  case hl => kernel_rfl
  intro vs tk hd
  dsimp only
  refine newTuple_N (s := { s with heap := h₁, toks := tk }) F N (fun h2 F2 N2 => ?_) ?_
  · refine wpAny_BinOp (wpAny_Name (wpAny_loadName_local rfl rfl F2.ns (v := .int n t) rfl (wpAny_Constant_int (mod_int' (by decide) ?_))))
    have hs := strs_of_data (ws := ["a", " ", "\\\"", "\\\\", " \"", "\" ", "\"", "'", "\\ ", "\n", "b\tB", "\\'", "\"\"", "''", "éß", "\\"]) hd
    have h0 : 0 ≤ n.fmod 16 := Int.fmod_nonneg_of_pos n (by decide)
    have h1 : n.fmod 16 < 16 := Int.fmod_lt_of_pos n (by decide)
    refine KTb.item_tup (N2.isTup (a := _) (items := vs.toArray) (n := 0) (d := none) (sl := #[]) (.head _)) hs h0 h1 (by omega) (fun t' hj => ?_)
    refine hR _ h2 _ _ ?_ (Ke.of_fr F2)
    have all : ∀ x ∈ (["a", " ", "\\\"", "\\\\", " \"", "\" ", "\"", "'", "\\ ", "\n", "b\tB", "\\'", "\"\"", "''", "éß", "\\"] : List Str), x.length ≤ 3 ∧ ∀ c ∈ sL x, c ∈ alpha1 := by decide +kernel
    refine all _ ?_
    rw [List.getD_eq_getElem?_getD, List.getElem?_eq_getElem hj]
    exact List.getElem_mem hj
  · show vs.length ≤ _; rw [(strs_of_data (ws := ["a", " ", "\\\"", "\\\\", " \"", "\" ", "\"", "'", "\\ ", "\n", "b\tB", "\\'", "\"\"", "''", "éß", "\\"]) hd).length, sizeLine_eq]; decide
end Mine
end

section
open PySem PySem.W PyProof.Rows PySem.Calls PyProof.Rows.LCg
set_option Elab.async false
set_option maxRecDepth 100000
set_option maxHeartbeats 8000000
namespace Mine
section
variable {w : World} {s : Shared} {A A₀ : Around} {base h₀ : Heap} {outer : List Env} {mg mb : Str → Option Value} {mean : ExcName → Option Value} {env : Env} {L : Addr} {m : Str → Option Value} {news : List (Addr × Obj)} {E : Value → Shared → Prop} {Q : Value → Shared → Prop}
theorem piece_K {n : Int} {t : Nat} (B : Below A₀ base outer h₀) (F : Fr h₀ L s.heap m) (X : (hd.heap_39 w.params).In h₀) (T : Top hd.view_39 lo mean mg mb h₀) (hA : A.frames = some (env :: outer)) (hf : env.frame = some L) (hke : env.scope.kind = .function) (hroom : A.depth + 4 < recursionLimit) (N : News h₀ L s.heap news)
    (h : ∀ x h' tk t', PieceOf x → Fr h₀ L h' m → News h₀ L h' news → Q (.str x t') { s with heap := h', toks := tk }) :
    wpAny (model PySem.Challenge.rw_om0137_01.row.prog w) A (call (.ref 784) [.int n t]) Q E s := by
  obtain ⟨g', G', S', k', back⟩ := pushZ (A := A) (env := env) (sub := []) B F News.nil hA hf hke X T
  refine wpAny_call (piece_ok w G' hroom k' ?_)
  intro x h' tk t' hx k2
  obtain ⟨F2, N2, -⟩ := back news N (fun _ _ hm => nomatch hm) h' [] k2 (fun _ hp => nomatch hp)
  exact h x h' tk t' hx F2 N2
theorem fits_K {text : List Nat} {t : Nat} (B : Below A₀ base [] h₀) (F : Fr h₀ L s.heap m) (X : (hd.heap_39 w.params).In h₀) (T : Top hd.view_39 lo mean mg mb h₀) (hA : A.frames = some [env]) (hf : env.frame = some L) (hke : env.scope.kind = .function) (hroom : A.depth + 24 < recursionLimit) (hh : A.handled = none) (hu : A.units + 67 < cLine) (N : News h₀ L s.heap news)
    (XB : (hd.heap_39 w.params).In base) (TB : Top hd.view_39 lo mean mg mb base) (hlen : text.length ≤ 900) (hal : ∀ c ∈ text, c ∈ alpha1)
    (h : ∀ h' tk, Fr h₀ L h' m → News h₀ L h' news → Q (.bool true) { s with heap := h', toks := tk }) :
    wpAny (model PySem.Challenge.rw_om0137_01.row.prog w) A (call (.ref 805) [.str (ofL text) t]) Q E s := by
  obtain ⟨G', S', k', -⟩ := pushY (A := A) (env := env) (sub := []) B F News.nil hA hf hke X T
  have hfs : ([env].filterMap (·.frame)) = [L] := by simp [hf]
  have hg : ∀ b o, s.heap.get? b = some o → (hideAll s.heap (([] : List (Addr × Obj)).map (·.1))).get? b = some o := fun b o e => hideAll_get _ e (fun hm => nomatch hm)
  obtain ⟨oL, es, ep, hL, hLd, hk1, hk2⟩ := F.ns
  have hL0 : h₀.get? L = none := kts_self F
  refine wpAny_call (fits_ok w G' hroom hh hu k' hlen hal XB TB ?_ ?_)
  · rw [hfs]
    intro b hb
    rw [List.mem_singleton.mp hb]
    exact ⟨oL, es, ep, hg _ _ hL, hLd⟩
  · intro g' h' tk T' k2
    rw [hfs] at T'
    obtain ⟨sl, hs⟩ := T'.frame L oL (hg _ _ hL) (.head _)
    refine h h' tk ⟨⟨_, es, ep, k2.keep _ _ hs, hLd, hk1, hk2⟩, fun b o e => k2.keep b o (T'.other b o (hg b o (F.keep b o e)) fun hm => ?_), F.above⟩ fun p hp => ⟨k2.keep _ _ (T'.other _ _ (hg _ _ (N p hp).1) fun hm => (N p hp).2.1 (List.mem_singleton.mp hm)), (N p hp).2⟩
    rw [List.mem_singleton.mp hm, hL0] at e
    cases e
end
section
variable {prog : Program} {w : World} {A : Around} {E : Value → Shared → Prop} {s : Shared} {h₀ : Heap} {L : Addr} {m : Str → Option Value} {env : Env}
/-- a comprehension whose turns keep the ledger -/
theorem comp_ind {elt : Expr} {x : Str} {scope : Scope} {cl : List (Str × Addr)} {S : List (Addr × Obj) → Prop} {P : Nat → Value → Prop} {Fin : List Value → List (Addr × Obj) → Prop} {news : List (Addr × Obj)} {n : Nat} {good : Value → Prop} (hS : S news)
    (turn : ∀ i v I oI C oC D m₂ h tk ys (E' : Value → Shared → Prop) (Qc : Value → Shared → Prop), i < n → P i v → NsObj oC m₂ → m₂ x = some v → Fr h₀ L h m → News h₀ L h ((I, oI) :: (C, oC) :: (D, lst ys) :: news) →
      (∀ y h' tk', good y → Fr h₀ L h' m → News h₀ L h' ((I, oI) :: (C, oC) :: (D, lst ys) :: news) → Qc y { s with heap := h', toks := tk' }) → wpAny (model prog w) A (eval elt (compEnvC scope cl C env)) Qc E' { s with heap := h, toks := tk })
    (fin : ∀ ys, ys.length = n → (∀ y ∈ ys, good y) → Fin ys news) : ∀ k i ys, i + k = n → ys.length = i → (∀ y ∈ ys, good y) → CompRest prog w A h₀ L m env elt x scope cl s S P Fin k i ys news
  | 0, i, ys, e, hl, hg => CompRest.zero (fin ys (by omega) hg)
  | k + 1, i, ys, e, hl, hg => CompRest.succ fun v I oI C oC D m₂ h tk E' hp ho hx F N off ne3 =>
    turn i v I oI C oC D m₂ h tk ys E' _ (by omega) hp ho hx F N fun y h' tk' hy F' N' =>
      CompEnd.intro F' N' news (fun _ h => h) off hS (comp_ind hS turn fin k (i + 1) (ys ++ [y]) (by omega) (by simp [hl]) fun z hz => by
        rcases List.mem_append.mp hz with q | q
        · exact hg z q
        · rw [List.mem_singleton.mp q]; exact hy)
theorem nameB_K {M : Model} {A : Around} {E : Value → Shared → Prop} {mg mb : Str → Option Value} {x : Str} {pos : Pos} {v : Value} {Q : Value → Shared → Prop} (F : Fr h₀ L s.heap m) (hg : h₀.Ns mainGlobals mg) (hmiss : mg x = none) (hb : h₀.Ns builtinsNs mb) (hv : mb x = some v) (h : Q v s)
    (hgl : env.globals = mainGlobals) (hbu : env.builtins = builtinsNs) (hk : env.scope.kind = .function) (hx : env.kindOf x = some .globalImplicit) (hd : (x == ("__debug__" : Str)) = false) : wpAny M A (eval (.Name x pos) env) Q E s :=
  Calls.Name_function_global hk hx (Calls.loadGlobal_builtin (env := env) (by rw [hgl]; exact hg.keeps F.keep) hmiss (by rw [hbu]; exact hb.keeps F.keep) hv h) hd
/-- y = [.. for x in range(a, b, st)] -/
theorem Assign_comp_step {elt iter : Expr} {x y : Str} {px py : Pos} {scope : Scope} {cl : List (Str × Addr)} {pos spos : Pos} {Q : Flow → Shared → Prop} {a b st : Int} (_F₀ : Fr h₀ L s.heap m) (hLe : env.locals = L)
    (hsw : swapsWith (.ListComp elt [⟨.Name x px, iter, [], 0⟩] scope pos) (some (.Name y py)) spos.line env = pure true)
    (hclos : closureFor scope env = pure cl) (hcell : ∀ z ∈ scope.names, z.2 ≠ .cell) (hkind : scope.kind = .function)
    (hnames : ∀ z ∈ scope.names, z.2 = .local → scope.names.lookup z.1 = some .local) (hx : scope.names.lookup x = some .local)
    (hy : env.kindOf y = some .local) (hp : (env.scope.kind == .class || (env.scope.kind == .module && env.locals != env.globals)) = false)
    (h : wpAny (model prog w) A (eval iter env) (fun xv s₁ => ∃ r t u v n news, xv = .ref r ∧ A.handled = none ∧ Fr h₀ L s₁.heap m ∧ News h₀ L s₁.heap news ∧ IsRange s₁.heap r a b st t u v ∧ Builtin.Range.small a b st = true ∧ Builtin.Range.rangeSize a b st = ((n : Nat) : Int) ∧ n ≤ sizeLine ∧
      ∀ s₂ : Shared, (∃ h, s₂ = { s₁ with heap := h }) → CompRest prog w A h₀ L m env elt x scope cl s₂ (fun _ => True) (fun i v => ∃ t, v = .int (a + (i : Int) * st) t) (FinA h₀ L m s₂ y Q) n 0 [] news) E s)
    (hs : ∀ x, foldedSetIterable iter env x = pure x := by intro _; rfl) :
    wpAny (model prog w) A (exec (.Assign [.Name y py] (.ListComp elt [⟨.Name x px, iter, [], 0⟩] scope pos) spos) env) Q E s := by
  subst hLe
  rw [exec_Assign_Name_used _ _ _ _ hsw]
  refine wpAny_bind (wpAny_standAt (wpAny_bind ?_))
  show wpAny _ A (do let _ ← comprehension (.ListComp elt [⟨.Name x px, iter, [], 0⟩] scope pos) scope env _ (newList []) false (eval iter env) (some (assign (.Name y py) env))) _ _ s
  refine wpAny_bind (wpAny_mono (wpAny_comprehension_free (use := some (assign (.Name y py) env)) (Q := fun _ s' => Q .next s') rfl hs hclos hkind hnames
    (wpAny_mono h (fun xv s₁ h₁ => ?_) fun _ _ e => e)) (fun _ s' hq => wpAny_pure (wpAny_pure hq)) fun _ _ e => e)
  obtain ⟨r, t, u, v, n, news, rfl, hh, F, N, hr, hsm, hn, hsz, R⟩ := h₁
  refine wpAny_pyIter_range hr hsm ?_
  refine block_U (Walks.range hh _ a st n) hsz (fun i h st => ⟨_, st⟩) (fun i h h' o nw hst e e' _ _ _ => ?_) hcell hkind hx (by show IsRangeIter _ _ _ _ _; rw [hn]; simpa using Heap.get?_push_size _ rfl) (fun q hq => ?_)
    (F.keeps fun _ _ e => Heap.get?_push_of_some _ e) (N.grown fun _ _ e => Heap.get?_push_of_some _ e) (Nat.ne_of_lt F.ns.lt) (next_is_new F) (fun p hp => Nat.ne_of_lt (Heap.lt_size (N p hp).1)) trivial (R _ ⟨_, rfl⟩) ?_
  · have st' : h.get? _ = some _ := hst
    show h'.get? _ = some _
    rw [e', ← e]; exact st'
  · rw [List.mem_singleton.mp hq]
    show s₁.heap.objs.size < (s₁.heap.push _).objs.size
    rw [Heap.size_push]; exact Nat.lt_succ_self _
  · intro D C h' tk m' ys news' F' N' o1 hn hC₀ hD₀ hCL hDL hCD offC fin
    show wpAny _ A (assign (.Name y py) env (.ref D)) _ _ _
    refine wpAny_assign_Name (wpAny_storeName_local hy F'.ns (fun h₂ hn₂ hs₂ => ?_) hp)
    have hL₀ : h₀.get? env.locals = none := Heap.get?_none_of_le F'.above
    have F₂ : Fr h₀ env.locals h₂ (fun z => if z = y then some (.ref D) else m z) := ⟨hn₂, fun b o e => hs₂.extBut b o (fun q => by rw [q, hL₀] at e; cases e) (F'.keep b o e), F'.above⟩
    refine ⟨m', hn.sameBut hs₂ hCL, fun h'' hs'' => fin D h'' _ (F₂.change hs'' hCL hC₀) (fun p hp => ?_) o1⟩
    have z : h₂.get? p.1 = some p.2 := hs₂.extBut _ _ (N' p hp).2.1 (N' p hp).1
    refine ⟨hs''.extBut _ _ ?_ z, (N' p hp).2⟩
    rcases List.mem_cons.mp hp with rfl | hp
    · exact Ne.symm hCD
    · exact offC p hp
end
theorem strs_drop : ∀ (n : Nat) {vs : List Value} {ws : List Str}, StrsAre vs ws → StrsAre (vs.drop n) (ws.drop n)
  | 0, _, _, h => by simpa using h
  | _ + 1, _, _, .nil => .nil
  | n + 1, _, _, .cons _ _ r => by simpa using strs_drop n r
theorem strs_take : ∀ (n : Nat) {vs : List Value} {ws : List Str}, StrsAre vs ws → StrsAre (vs.take n) (ws.take n)
  | 0, _, _, _ => by simpa using StrsAre.nil
  | _ + 1, _, _, .nil => .nil
  | n + 1, _, _, .cons y u r => by simpa using StrsAre.cons y u (strs_take n r)
theorem strs_good : ∀ {vs : List Value}, (∀ v ∈ vs, ∃ x t, v = .str x t ∧ PieceOf x) → ∃ ws, StrsAre vs ws ∧ ∀ x ∈ ws, PieceOf x
  | [], _ => ⟨[], .nil, fun _ h => nomatch h⟩
  | v :: vs, h => by
    obtain ⟨x, t, rfl, hx⟩ := h v (.head _)
    obtain ⟨ws, hw, hp⟩ := strs_good (vs := vs) fun v hv => h v (.tail _ hv)
    exact ⟨x :: ws, .cons x t hw, fun y hy => by
      rcases List.mem_cons.mp hy with rfl | hy
      · exact hx
      · exact hp y hy⟩
theorem join_piecesS : ∀ (ws : List Str), (∀ x ∈ ws, PieceOf x) → ∃ l : List Nat, Str.join (Str.ofString "") ws = ofL l ∧ l.length ≤ 3 * ws.length ∧ ∀ c ∈ l, c ∈ alpha1
  | [], _ => ⟨[], rfl, by simp, fun _ h => nomatch h⟩
  | [x], h => ⟨sL x, by rw [ofL_sL]; rfl, by
      have := (h x (.head _)).1
      simpa [Str.length] using this, (h x (.head _)).2⟩
  | x :: y :: r, h => by
    obtain ⟨l, e, hl, hc⟩ := join_piecesS (y :: r) fun z hz => h z (.tail _ hz)
    have hx := h x (.head _)
    refine ⟨sL x ++ l, ?_, ?_, ?_⟩
    · show x ++ Str.ofString "" ++ Str.join (Str.ofString "") (y :: r) = _
      rw [e]
      have e0 : Str.ofString "" = ofL [] := rfl
      have e1 : x = ofL (sL x) := (ofL_sL x).symm
      rw [e0, e1, app_ofL, app_ofL, List.append_nil, sL_ofL]
    · have := hx.1
      simp only [List.length_append, List.length_cons] at hl ⊢
      have e2 : x.length = (sL x).length := by simp [Str.length]
      omega
    · intro c hm
      rcases List.mem_append.mp hm with z | z
      · exact hx.2 c z
      · exact hc c z
theorem join_pieces (ws : List Str) (h : ∀ x ∈ ws, PieceOf x) : ∃ l : List Nat, Txt.join (Str.ofString "") ws = ofL l ∧ l.length ≤ 3 * ws.length ∧ ∀ c ∈ l, c ∈ alpha1 := by
  rw [eq_of_beq (join_plain_closes (Str.ofString "") ws)]
  exact join_piecesS ws h
end Mine
end

section
open PySem PySem.W PyProof.Rows PySem.Calls PyProof.Rows.LCg PyProof.Rows.LSm
set_option Elab.async false
set_option maxRecDepth 100000
set_option maxHeartbeats 8000000
namespace Mine
theorem ints_of_data : ∀ {vs : List Value} {ns : List Int}, DataAre vs (ns.map PyData.int) → IntsAre vs ns
  | [], [], _ => .nil
  | v :: vs, x :: ns, .cons h r => by
    cases h default with
    | int _ t => exact .cons x t (ints_of_data r)
theorem islist_keep {h₀ h : Heap} {l : Addr} {its : Array Value} (x : h₀.IsList l its) (k : ∀ b o, h₀.get? b = some o → h.get? b = some o) : h.IsList l its := let ⟨o, e, r⟩ := x; ⟨o, k _ _ e, r⟩
theorem ints_at {v : Value} : ∀ {vs : List Value} {ns : List Int}, IntsAre vs ns → v ∈ vs → ∃ n t, v = .int n t
  | _, _, .cons n t r, h => by
    rcases List.mem_cons.mp h with rfl | h
    · exact ⟨n, t, rfl⟩
    · exact ints_at r h
theorem fits_of {i : Int} (h1 : -1000000 ≤ i) (h2 : i ≤ 1000000) : Builtin.Range.rangeFitsLong i = true := by
  unfold Builtin.Range.rangeFitsLong
  rw [Bool.and_eq_true, decide_eq_true_eq, decide_eq_true_eq]
  omega
theorem small_four {n : Nat} (h : n ≤ 1000) : Builtin.Range.small 0 (n : Int) 4 = true ∧ ∃ k : Nat, Builtin.Range.rangeSize 0 (n : Int) 4 = (k : Int) ∧ k ≤ 1000 := by
  have e : Builtin.Range.rangeSize 0 (n : Int) 4 = if (0 : Int) < (n : Int) then ((n : Int) - 0 - 1) / 4 + 1 else 0 := by
    unfold Builtin.Range.rangeSize
    rw [if_pos (by decide)]
  have hk : ∃ k : Nat, Builtin.Range.rangeSize 0 (n : Int) 4 = (k : Int) ∧ k ≤ 1000 := by
    refine ⟨(Builtin.Range.rangeSize 0 (n : Int) 4).toNat, ?_, ?_⟩ <;> rw [e] <;> split <;> omega
  refine ⟨?_, hk⟩
  obtain ⟨k, e, hk⟩ := hk
  have f1 := fits_of (i := 0) (by omega) (by omega)
  have f2 := fits_of (i := (n : Int)) (by omega) (by omega)
  have f3 := fits_of (i := 4) (by omega) (by omega)
  have f4 := fits_of (i := (k : Int)) (by omega) (by omega)
  have f5 := fits_of (i := (n : Int) + (4 - 1)) (by omega) (by omega)
  unfold Builtin.Range.small
  rw [e, f1, f2, f3, f4, if_pos (by decide), f5]
  simp
theorem strs_pick {vs : List Value} {ws : List Str} {lo hi : Option Int} (h : StrsAre vs ws) : ∃ ws', StrsAre (slicePick vs.toArray lo hi none).toList ws' ∧ (∀ x ∈ ws', x ∈ ws) ∧ ws'.length ≤ ws.length := by
  rw [kms_pick_eq]
  refine ⟨(ws.drop (kms_lo lo vs.length)).take (kms_hi hi vs.length - kms_lo lo vs.length), ?_, fun x hx => List.mem_of_mem_drop (List.mem_of_mem_take hx), ?_⟩
  · exact strs_take _ (strs_drop _ h)
  · rw [List.length_take, List.length_drop]; omega
theorem sum_le3 : ∀ {ws : List Str}, (∀ x ∈ ws, PieceOf x) → (ws.map (·.length)).sum ≤ 3 * ws.length
  | [], _ => by simp
  | x :: r, h => by
    have h1 := (h x (.head _)).1
    have h2 := sum_le3 (ws := r) fun y hy => h y (.tail _ hy)
    simp only [List.map_cons, List.sum_cons, List.length_cons]
    omega
theorem bools_true : ∀ {zs : List Value}, (∀ y ∈ zs, y = .bool true) → BoolsAre zs (List.replicate zs.length true)
  | [], _ => .nil
  | z :: zs, h => by
    have e := h z (.head _)
    subst e
    exact .cons _ (bools_true fun y hy => h y (.tail _ hy))
theorem all_true : ∀ n : Nat, (List.replicate n true).all id = true
  | 0 => rfl
  | n + 1 => by rw [List.replicate_succ, List.all_cons, all_true n]; rfl
theorem lw_K (w : World) : nsIn (hd.heap_39 w.params) mainGlobals "_law_piece" = some (some (.ref 784)) ∧ nsIn (hd.heap_39 w.params) mainGlobals "_law_fits" = some (some (.ref 805)) ∧ nsIn (hd.heap_39 w.params) mainGlobals "len" = some none ∧ nsIn (hd.heap_39 w.params) mainGlobals "range" = some none ∧ nsIn (hd.heap_39 w.params) mainGlobals "all" = some none ∧ keepIn (hd.heap_39 w.params) (.ref 784) = true ∧ keepIn (hd.heap_39 w.params) (.ref 805) = true := by
  have e : PySem.Challenge.rw_om0137_01 = PySem.Challenge.rw_om0137_01 := rfl
  revert e
  k_fill
  intro _
  refine ⟨?_, ?_, ?_, ?_, ?_, ?_, ?_⟩ <;> k_is
theorem t1 : PySem.Challenge.rw_om0137_01.Holds := by
  w_on
  refine holds_law said_01 fun said => ?_
  refine PySem.W.holds_open (q := hd.view_39) (loose := loose1) (Xt := fun s => xlAt hd.view_39 [] s && recOk PySem.Challenge.rw_om0137_01.row.toRowW.records s) (XP := XL hd.view_39 []) (Yf := Hook.obs (kHook hd.heap_39 Ks ks_K)) (Ya := Hook.val (kHook hd.heap_39 Ks ks_K)) (YP := Hook.says (kHook hd.heap_39 Ks ks_K)) (N := 10700) left1 (Hook.of (kHook hd.heap_39 Ks ks_K)) (Hook.keeps (kHook hd.heap_39 Ks ks_K)) (fun s e => xl_of s (Bool.and_eq_true_iff.mp e).1) XL.keeps (by rfl) (by rfl) (by rfl) (fun s e => recFacts_of (Bool.and_eq_true_iff.mp e).2) (by rfl) said (by decide +kernel) ⟨rfl, rfl, rfl, rfl, rfl, by decide +kernel⟩ ?hw ?hc
  case hw => w_witness2
  k_fill
  intro w s₀ s₁ mg mb G Y fa o pm cd doc dV kV ho hd hcd hD hmg hg args vals as hpre hlay hrd hwl hlo
  have KX := kIn_of Y
  have X := (Ground.X G).1
  have V := (Ground.X G).2
  refine Ground.open G ?_
  intro T B D TE TW
  try (refine guard_noD D (by decide +kernel) ?_; clear D)
  obtain ⟨_, _, M⟩ := bmod_of_top T
  have TA := at_of_top T
  try (obtain ⟨_, _, he, B0⟩ := based_of_top T rfl hmg ho hd; have he' : cd = _ := he; subst he'; clear he)
  clear hmg
  wrow_args hpre hlay hrd hwl hlo
  first | refine callC_kw (enter_call ?_) | refine enter_call ?_ | refine callC_kw (enter_callW ?_) | refine enter_callW ?_ | w_how
  w_top on
  try refine codeAny_mono ?_ (fun _ _ g => GoodW.toG g)
  have K0 := below_caller (Top.heap T)
  w_call any ho hd hcd hD T F
  clear hd TA
  k_drop
  rename Below _ _ _ _ => K0
  rename Fr _ _ _ _ => F0
  rename News _ _ _ _ => N0
  rename Frag.In _ _ => KX
  rename Top _ _ _ _ _ _ => T0
  rename IntsAre _ _ => hI
  rename _ = Data.cell _ => hw
  rename Heap.IsList _ _ _ => hL
  rename ¬ _ < _ => h63
  rename World => w
  rename Shared => s1
  obtain ⟨l1, l2, l3, l4, l5, l6, l7⟩ := lw_K w
  refine wpAny_execs_cons ?_
  refine wpAny_Assign_Name ?_ ?hs
  case hs => rfl
  with_reducible refine ListComp_U (cl := []) F0 ?k1 ?k2 ?k3 ?k4 ?k5 ?_ ?k6
  case k1 => with_unfolding_all rfl
  case k2 => decide
  case k3 => rfl
  case k4 => decide
  case k5 => rfl
  case k6 => intro _; rfl
  with_reducible refine wpAny_BinOp ?_
  with_reducible refine List_ ?_
  refine spliced_lits _ (([0, 2, 4, 7, 10, 3, 5] : List Int).map PyData.int) _ _ ?hl ?_
  case hl => kernel_rfl
  intro vs tk hd1
  dsimp only
  have hv := ints_of_data hd1
  refine newList_N F0 N0 (fun h1 F1 N1 => ?_) ?_
  rotate_left
  · show vs.length ≤ _
    rw [hv.length, sizeLine_eq]; decide
  have hL1 := islist_keep hL F1.keep
  with_reducible refine Subscript_ ?_
  refine' ldLoc F1 ?hs ?_
  case hs => exact rfl
  with_reducible refine wpAny_Slice ?_
  refine wpAny_pure ?_
  rw [evalPart_some]
  with_reducible refine wpAny_Constant_int ?_
  refine wpAny_pure ?_
  refine kmk_slice_ints (s := { heap := h1, gens := _, drawn := _, toks := _, os := _ }) F1 N1 hL1 .none (.int _ _) hI (kmk_upto hI (by decide)) rfl (fun D2 ws2 h2 F2 N2 hlt2 hi2 hc2 hle2 => ?_) rfl (fun _ => rfl) ?_
  rotate_left
  · rw [List.size_toArray, hI.length, sizeLine_eq]
    omega
  dsimp only
  refine kmk_add_ints (s := { heap := h2, gens := _, drawn := _, toks := _, os := _ }) F2 N2 (N2.isList (items := vs.toArray) (n := 0) (d := none) (sl := #[]) (.tail _ (.head _))) (N2.isList (items := ws2.toArray) (n := 0) (d := none) (sl := #[]) (.head _)) hv hi2 (fun D3 us h3 F3 N3 hlt3 hi3 => ?_) ?_
  rotate_left
  · rw [sizeLine_eq]
    simp only [List.length_cons, List.length_nil]
    omega
  have hD3 : D3 ≠ _ := Nat.ne_of_gt (hlt3 _ (.tail _ (.tail _ (.head _))))
  have N4 := fun (p : Addr × Obj) (hp : p ∈ [(D3, listOf us.toArray 0), _]) => N3 p (by
    rcases List.mem_cons.mp hp with rfl | hp
    · exact .head _
    · rw [List.mem_singleton.mp hp]
      exact .tail _ (.tail _ (.tail _ (.head _))))
  have hus : us.length ≤ 27 := by
    have e := hi3.length
    simp only [List.length_append, List.length_cons, List.length_nil, List.length_take] at e
    omega
  dsimp only
  refine CompSrc.ledger (k := 0) rfl F3 N4 (.head _) (by rw [List.size_toArray, sizeLine_eq]; omega) fun g4 => ?_
  refine comp_ind (n := us.toArray.size) (good := fun y => ∃ x t, y = .str x t ∧ PieceOf x) (.inr ⟨_, .head _, rfl, _, rfl⟩) ?_ ?_ _ 0 [] (Nat.zero_add _) rfl (fun _ h => nomatch h)
  · intro i v I oI C oC D m5 h5 tk5 ys E' Qc hi hP ho hx F5 N5 kk
    obtain ⟨n, t, rfl⟩ := ints_at hi3 (List.mem_of_getElem? (show us[i]? = some v by simpa using hP))
    with_reducible refine Call_ ?_ ?he
    case he => rfl
    refine nameG_K F5 KX (topRead_of T0) l1 ?_ rfl rfl rfl (by decide)
    refine callWith_K KX l6 ?_
    refine spliced_more ?_
    with_reducible refine wpAny_Name ?_ ?hd
    case hd => decide
    refine wpAny_loadName_local rfl rfl (ho.ns (N5 _ (.tail _ (.head _))).1) hx ?_
    refine spliced_none ⟨KX.keeps F5.keep, ?_⟩
    refine piece_K (env := _) K0 F5 KX T0 (Around.frames_deeper K0.stack) rfl rfl (by k_room) N5 fun x h' tk t' hp F' N' => kk _ h' tk ⟨x, t', rfl, hp⟩ F' N'
  · intro ys hl hg D h5 tk5 F5 N5 off5
    obtain ⟨ws, hws, hpp⟩ := strs_good hg
    clear hg
    refine wpAny_storeName_cell rfl rfl (c := _) rfl ⟨_, (N5 _ (.tail _ (.tail _ (.head _)))).1, hw⟩ fun h6 hc6 hs6 => ?_
    obtain ⟨o6, e6, d6⟩ := hc6
    have Nc := (N5 _ (.tail _ (.tail _ (.head _)))).2
    have F6 := F5.change hs6 Nc.1 Nc.2
    have hDc := off5.2.1
    have N6 : News _ _ h6 [(D, lst ys), (_, o6)] := fun p hp => by
      rcases List.mem_cons.mp hp with rfl | hp
      · exact ⟨(hs6.2 _ (fun e => off5.2.1 e.symm)).trans (N5 _ (.head _)).1, (N5 _ (.head _)).2⟩
      · rw [List.mem_singleton.mp hp]
        exact ⟨e6, Nc⟩
    dsimp only
    refine wpAny_execs_cons ?_
    have hn : ys.length ≤ 27 := by rw [hl, List.size_toArray]; omega
    obtain ⟨hsm, kz, hkz, hkl⟩ := small_four (n := ys.length) (by omega)
    with_reducible refine Assign_comp_step F6 (cl := [(Str.ofString "pieces", s1.heap.objs.size + 1)]) (a := 0) (b := (ys.length : Int)) (st := 4) ?hLe ?hsw ?hclos ?hcell ?hkind ?hnames ?hx ?hy ?hp ?_ ?hs
    case hLe => rfl
    case hsw => rfl
    case hclos => with_unfolding_all rfl
    case hcell => decide
    case hkind => rfl
    case hnames => decide
    case hx => rfl
    case hy => rfl
    case hp => rfl
    case hs => intro _; rfl
    with_reducible refine Call_ ?_ ?he
    case he => rfl
    refine nameB_K F6 T0.g (mg_none_of KX T0.g l4) T0.b ((T0.builtins _ (by decide)).trans (by boot_by_name)) ?_ rfl rfl rfl rfl (by decide)
    refine PyProof.Rows.callWith_type1 (spliced_more ?_)
    with_reducible refine wpAny_Constant_int ?_
    refine spliced_more ?_
    with_reducible refine Call_ ?_ ?he
    case he => rfl
    refine nameB_K (s := { heap := h6, gens := _, drawn := _, toks := _, os := _ }) F6 T0.g (mg_none_of KX T0.g l3) T0.b ((T0.builtins _ (by decide)).trans (by boot_by_name)) ?_ rfl rfl rfl rfl (by decide)
    refine PyProof.Rows.callWith_builtin1 (spliced_more ?_)
    with_reducible refine wpAny_Name ?_ ?hd
    case hd => decide
    refine wpAny_loadName_cell rfl rfl (c := s1.heap.objs.size + 1) rfl ⟨o6, e6, d6⟩ (spliced_none ?_)
    refine len_list (items := ys.toArray) ⟨_, (N6 _ (.head _)).1, rfl, _, rfl⟩ (by rw [List.size_toArray]; omega) ?_
    rw [List.size_toArray]
    dsimp only
    refine spliced_more ?_
    with_reducible refine wpAny_Constant_int ?_
    refine spliced_none ?_
    dsimp only
    refine range3_rows (s := { heap := h6, gens := _, drawn := _, toks := _, os := _ }) F6 N6 (by decide) (fun h7 tk7 t1 t2 t3 hr7 F7 N7 hk7 => ?_) (.inl (PyProof.noPylong_small (by omega)))
    refine ⟨_, t1, t2, t3, kz, _, rfl, rfl, F7, N7, hr7, hsm, hkz, by rw [sizeLine_eq]; omega, ?_⟩
    rintro s8 ⟨h8, rfl⟩
    refine comp_ind (n := kz) (good := fun y => y = .bool true) trivial ?_ ?_ _ 0 [] (Nat.zero_add _) rfl (fun _ h => nomatch h)
    · intro i v I oI C oC Dx m9 h9 tk9 zs E' Qc hi hP ho hx F9 N9 kk
      obtain ⟨tv, rfl⟩ := hP
      with_reducible refine Call_ ?_ ?he
      case he => rfl
      refine nameG_K F9 KX (topRead_of T0) l2 ?_ rfl rfl rfl (by decide)
      refine callWith_K KX l7 ?_
      refine spliced_more ?_
      refine MethodCall_ (wpAny_Constant_str (GM.join ?_)) rfl
      refine Calls.callWith_builtin rfl (Calls.evalArgs_plain (spliced_more (Subscript_ ?_)))
      with_reducible refine wpAny_Name ?_ ?hd
      case hd => decide
      refine wpAny_loadName_cell rfl rfl (c := s1.heap.objs.size + 1) rfl ⟨o6, (N9 _ (.tail _ (.tail _ (.tail _ (.tail _ (.head _)))))).1, d6⟩ ?_
      with_reducible refine wpAny_Slice ?_
      rw [evalPart_some]
      with_reducible refine wpAny_Name ?_ ?hd
      case hd => decide
      refine wpAny_loadName_local rfl rfl (ho.ns (N9 _ (.tail _ (.head _))).1) hx ?_
      refine wpAny_pure (wpAny_pure ?_)
      obtain ⟨ws', hw', hsub, hlen'⟩ := strs_pick (lo := some (0 + (i : Int) * 4)) (hi := none) hws
      have hpw : ∀ x ∈ ws', PieceOf x := fun x hx => hpp x (hsub x hx)
      obtain ⟨l, el, hll, hlc⟩ := join_pieces ws' hpw
      have hwl := hws.length
      have hs3 := sum_le3 hpw
      dsimp only
      refine kmk_slice (s := { heap := h9, gens := _, drawn := _, toks := _, os := _ }) F9 N9 (N9.isList (items := ys.toArray) (n := ys.length) (d := none) (sl := #[]) (.tail _ (.tail _ (.tail _ (.head _))))) (.int _ _) .none (fun D' hA F' N' lA => ?_) rfl (fun _ => rfl) ?_
      · refine spliced_none (join_list ⟨_, (N' _ (.head _)).1, rfl, _, rfl⟩ hw' ?_ fun t' k' => spliced_none ⟨KX.keeps F'.keep, ?_⟩)
        · show _ + ws'.length * 0 ≤ _
          omega
        · rw [el]
          dsimp only
          refine fits_K (env := _) K0 F' KX T0 (Around.frames_deeper K0.stack) rfl rfl (by k_room) rfl (by show 4 + 3 + 67 < cLine; decide) N' KX T0 ?_ hlc fun hB tkB FB NB => kk _ hB tkB rfl FB fun p hp => NB p (.tail _ hp)
          omega
      · rw [List.size_toArray, sizeLine_eq]; omega
    · intro zs hzl hzg Dz h9 tk9 F9 N9 off9
      dsimp only
      refine wpAny_execs_cons ?_
      with_reducible refine wpAny_Return_some ?_
      with_reducible refine Call_ ?_ ?heB
      case heB => rfl
      refine nameB_K (s := { heap := h9, gens := _, drawn := _, toks := _, os := _ }) F9 T0.g (mg_none_of KX T0.g l5) T0.b ((T0.builtins _ (by decide)).trans (by boot_by_name)) ?_ rfl rfl rfl rfl (by decide)
      refine PyProof.Rows.callWith_builtin1 (spliced_more ?_)
      with_reducible refine wpAny_Name ?_ ?hdB
      case hdB => decide
      refine wpAny_loadName_local rfl rfl F9.ns (if_pos rfl) (spliced_none ?_)
      refine all_bools (s := { heap := h9, gens := _, drawn := _, toks := _, os := _ }) F9 N9 rfl ⟨_, (N9 _ (.head _)).1, rfl, _, rfl⟩ (bools_true hzg) fun hB tkB FB NB => ?_
      rw [all_true]
      refine goodW_bool FB ?_ (raisesW_false ?_) ?_
      · show s1.gens = #[]
        with_reducible assumption
      · wrow_none_raised
      · wrow_post
end Mine
end

set_option maxRecDepth 100000 in
set_option maxHeartbeats 8000000 in
theorem PySem.Challenge.cw_om0137_01_holds : PySem.Challenge.rw_om0137_01.Holds := by
  exact Mine.t1
