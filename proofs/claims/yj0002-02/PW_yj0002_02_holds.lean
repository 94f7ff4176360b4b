import PyProof.Rows.All
import Wide.All
import OpenK.AllK
import KE.KDictIter
import OpenK.ZHead
import OpenK.XOpen
import Lean
import PySem.Challenge.RW_yj0002_02
set_option maxHeartbeats 0
set_option Elab.async false
set_option maxRecDepth 100000
set_option linter.unusedVariables false
section
open PySem PySem.W PyProof.Rows
namespace Mine
def anyF (as : Array Nat) (p : Nat → Bool) (i : Nat) (j : Nat) : Bool :=
 match Nat.beq i 0 && Nat.beq j as.size with
 | true => as.toList.any p
 | false => as.any p i j
theorem any_eq (as : Array Nat) (p : Nat → Bool) (i j : Nat) : Array.any as p i j = anyF as p i j := by
 unfold anyF
 split
 ·rename_i h
  rw [Bool.and_eq_true] at h
  rw [Nat.eq_of_beq_eq_true h.1, Nat.eq_of_beq_eq_true h.2, Array.any_toList]
 ·rfl
noncomputable def tnF : Builtin := by
 have go : ∀ f : Builtin, Builtin.«type.__new__» = f → True := fun _ _ => trivial
 refine (fun (f : Builtin) (_ : True) => f) ?f (go ?f ?h)
 case h =>
  delta Builtin.«type.__new__»
  conv => lhs; simp -zeta only [any_eq]
theorem tnF_eq : Builtin.«type.__new__» = tnF := by
 delta Builtin.«type.__new__» tnF
 conv => lhs; simp -zeta only [any_eq]
noncomputable def T2 (id : String) : Option Builtin := if id == "type.__new__" then some tnF else treeTable id
theorem T2_eq : treeTable = T2 := by
 funext id
 unfold T2
 split
 ·rename_i h
  have h := beq_iff_eq.mp h
  subst h
  rw [← tnF_eq]
  kernel_rfl
 ·rfl
noncomputable def topRunT (tb : String → Option Builtin) (p : Program) (w : World) (n₀ : Nat) (ann : Option Value) : Nat → SharedT → Thread → Option SharedT
 | 0, _, _ => none
 | n + 1, s, t => match through t with
  | true => some s
  | false => match stepOk n₀ ann t with
   | false => none
   | true => match stepT (denote tb) p w s t with
    | some (s', t') => topRunT tb p w n₀ ann n s' t'
    | none => none
theorem topRunT_of {tb : String → Option Builtin} {p : Program} {w : World} {n₀ : Nat} {ann : Option Value} : ∀ {n : Nat} {s s' : SharedT} {t : Thread},
  topRunT tb p w n₀ ann n s t = some s' → topRun tb p w n₀ ann n s.abs t = some s'.abs
 | 0, _, _, _, h => by cases h
 | n + 1, s, s', t, h => by
  unfold topRunT at h
  unfold topRun
  cases he : through t with
  | true => rw [he] at h; cases h; rfl
  | false =>
   rw [he] at h
   cases hk : stepOk n₀ ann t with
   | false => rw [hk] at h; cases h
   | true =>
    rw [hk] at h
    cases hs : stepT (denote tb) p w s t with
    | none => rw [hs] at h; cases h
    | some r => obtain ⟨s₂, t₂⟩ := r; rw [hs] at h; rw [stepT_spec hs]; exact topRunT_of h
def insAll : List Obj → Nat → BT → Option BT
 | [], _, t => some t
 | o :: l, i, t => match ((t.ins i o).get i).isSome with
  | true => insAll l (i + 1) (t.ins i o)
  | false => none
theorem insAll_abs {life : Life} : ∀ {l : List Obj} {i : Nat} {t t' : BT}, insAll l i t = some t' →
  (absHeap t' (i + l.length) life).objs = (absHeap t i life).objs ++ l.toArray
 | [], i, t, t', h => by cases h; simp
 | o :: l, i, t, t', h => by
  unfold insAll at h
  cases hg : ((t.ins i o).get i).isSome with
  | false => rw [hg] at h; cases h
  | true =>
   rw [hg] at h
   have ih := insAll_abs (life := life) h
   rw [show i + (o :: l).length = i + 1 + l.length by simp; omega, ih, absHeap_ins hg]
   show (absHeap t i life).objs.push o ++ l.toArray = _
   simp
noncomputable def toT (s : Shared) : Option SharedT :=
 (insAll s.heap.objs.toList 0 .nil).map fun t => ⟨t, s.heap.objs.toList.length, s.heap.life, s.gens, s.drawn, s.toks, s.os⟩
theorem toT_abs {s : Shared} {t : SharedT} (h : toT s = some t) : t.abs = s ∧ t.n = s.heap.objs.size := by
 unfold toT at h
 obtain ⟨b, hb, rfl⟩ := Option.map_eq_some_iff.mp h
 have e := insAll_abs (life := s.heap.life) hb
 rw [Nat.zero_add] at e
 refine ⟨?_, by simp⟩
 obtain ⟨⟨objs, life⟩, gens, drawn, toks, os⟩ := s
 show Shared.mk (absHeap b objs.toList.length life) gens drawn toks os = _
 have e2 : absHeap b objs.toList.length life = ⟨objs, life⟩ := by
  have : (absHeap BT.nil 0 life).objs = #[] := rfl
  rw [this] at e
  have e3 : (absHeap b objs.toList.length life).objs = objs := by rw [e]; simp
  show Heap.mk _ _ = _
  exact congrArg (Heap.mk · life) e3
 rw [e2]
noncomputable def topFromT (tb : String → Option Builtin) (p : Program) (w : World) (N : Nat) (s₀ : Shared) : Option Shared :=
 match s₀.heap.isNs mainGlobals && s₀.gens.size == 0 with
 | true => (toT s₀).bind fun t => (topRunT tb p w t.n (s₀.heap.nsMap mainGlobals "__annotations__") N t (topStub p)).bind fun r =>
   match staticsOk (importedModules p.main.body) s₀.heap r.abs.heap && namesBound p r.abs.heap && gensDone r.abs && laidKept s₀.heap r.abs.heap with
   | true => some r.abs
   | false => none
 | false => none
theorem topFromT_of {tb : String → Option Builtin} {p : Program} {w : World} {N : Nat} {s₀ s : Shared} (h : topFromT tb p w N s₀ = some s) : topFrom tb p w N s₀ = some s := by
 unfold topFromT at h
 unfold topFrom
 cases hg : (s₀.heap.isNs mainGlobals && s₀.gens.size == 0) with
 | false => rw [hg] at h; cases h
 | true =>
  rw [hg] at h
  obtain ⟨t, ht, h⟩ := Option.bind_eq_some_iff.mp h
  obtain ⟨r, hr, h⟩ := Option.bind_eq_some_iff.mp h
  obtain ⟨e1, e2⟩ := toT_abs ht
  have hr' := topRunT_of hr
  rw [e1, e2] at hr'
  dsimp only
  rw [hr']
  exact h
theorem left_of {p q : Program} {loose : List Str} {Xt : Shared → Bool} {α : Type} {Yf : Shared → α} {Ya : World → α} {N : Nat} {g0 : Bool}
  (h : ∀ w, ((fencedOpening T2 p w N).bind (topFromT T2 p w N)).map (fun s => (openSeen q loose (importedModules p.main.body) Xt g0 s, Yf s)) = some (openGood q loose, Ya w)) :
  LeftO p q loose Xt Yf Ya N g0 := fun w => by
 rw [T2_eq]
 obtain ⟨s, hs, e⟩ := Option.map_eq_some_iff.mp (h w)
 obtain ⟨s₀, h0, h1⟩ := Option.bind_eq_some_iff.mp hs
 unfold openEnds
 rw [h0]
 show (topFrom T2 p w N s₀).map _ = _
 rw [topFromT_of h1]
 exact congrArg some e
def fV {β : Type} (v : Value) (k : Value → β) : β := match v with
 | .none => k .none
 | .ellipsis => k .ellipsis
 | .notImplemented => k .notImplemented
 | .bool b => k (.bool b)
 | .int i t => k (.int i t)
 | .float x t => k (.float x t)
 | .str s t => k (.str s t)
 | .bytes b t => k (.bytes b t)
 | .type n => k (.type n)
 | .builtin i => k (.builtin i)
 | .ref a => k (.ref a)
def fL {α β : Type} (f : α → (α → β) → β) : List α → (List α → β) → β
 | [], k => k []
 | a :: l, k => f a fun a' => fL f l fun l' => k (a' :: l')
def fO {α β : Type} (f : α → (α → β) → β) (x : Option α) (k : Option α → β) : β := match x with
 | none => k none
 | some a => f a fun a' => k (some a')
def fE {β : Type} (e : DictEntry) (k : DictEntry → β) : β := match e with
 | ⟨h, a, b⟩ => fV a fun a' => fV b fun b' => k ⟨h, a', b'⟩
def fA {α β : Type} (f : α → (α → β) → β) (x : Array α) (k : Array α → β) : β := match x with
 | ⟨l⟩ => fL f l fun l' => k ⟨l'⟩
def fI {α β : Type} (x : α) (k : α → β) : β := k x
def fF {β : Type} (f : FuncData) (k : FuncData → β) : β := match f with
 | ⟨a, b, c, d, e, g, cl, df, kd, dc, pm, an, cd, ct, bi⟩ => fL (fun (x : Str × Addr) k => match x with | (u, v) => k (u, v)) cl fun cl => fV df fun df => fV kd fun kd => fV dc fun dc => fV pm fun pm => fO fI an fun an => fV cd fun cd => fV ct fun ct =>
   match d with
   | .stmts d => k ⟨a, b, c, .stmts d, e, g, cl, df, kd, dc, pm, an, cd, ct, bi⟩
   | .expr d => k ⟨a, b, c, .expr d, e, g, cl, df, kd, dc, pm, an, cd, ct, bi⟩
def fC {β : Type} (c : ClassData) (k : ClassData → β) : β := match c with
 | ⟨n, bs, mro, ns, qn, hd, sl, sub, ab, co, del⟩ => fL fV bs fun bs => fL fV mro fun mro => fL fI sl fun sl => fL fV sub fun sub => fO fI co fun co => k ⟨n, bs, mro, ns, qn, hd, sl, sub, ab, co, del⟩
def fD {β : Type} (d : Data) (k : Data → β) : β := match d with
 | .plain => k .plain
 | .prim v => fV v fun v => k (.prim v)
 | .seq xs n => fA fV xs fun xs => k (.seq xs n)
 | .dict es n => fA fE es fun es => k (.dict es n)
 | .set es n t => k (.set es n t)
 | .bytearray b e => k (.bytearray b e)
 | .cell v => fO fV v fun v => k (.cell v)
 | .func f => fF f fun f => k (.func f)
 | .cls c => fC c fun c => k (.cls c)
 | .fields vs => fA fV vs fun vs => k (.fields vs)
 | .freed => k .freed
def fObj {β : Type} (o : Obj) (k : Obj → β) : β := match o with
 | ⟨c, d, dt, sl⟩ => fV c fun c => fO fI d fun d => fD dt fun dt => fA (fO fV) sl fun sl => k ⟨c, d, dt, sl⟩
theorem fV_id {β : Type} (v : Value) (k : Value → β) : fV v k = k v := by cases v <;> rfl
theorem fL_id {α β : Type} {f : α → (α → β) → β} (hf : ∀ a k, f a k = k a) : ∀ (l : List α) (k : List α → β), fL f l k = k l
 | [], _ => rfl
 | a :: l, k => by unfold fL; rw [hf, fL_id hf l]
theorem fO_id {α β : Type} {f : α → (α → β) → β} (hf : ∀ a k, f a k = k a) (x : Option α) (k : Option α → β) : fO f x k = k x := by
 cases x with
 | none => rfl
 | some a => unfold fO; dsimp only; rw [hf]
theorem fA_id {α β : Type} {f : α → (α → β) → β} (hf : ∀ a k, f a k = k a) (x : Array α) (k : Array α → β) : fA f x k = k x := by
 obtain ⟨l⟩ := x
 unfold fA
 dsimp only
 rw [fL_id hf]
theorem fE_id {β : Type} (e : DictEntry) (k : DictEntry → β) : fE e k = k e := by
 obtain ⟨a, b, c⟩ := e
 unfold fE
 dsimp only
 rw [fV_id, fV_id]
theorem fI_id {α β : Type} (x : α) (k : α → β) : fI x k = k x := rfl
theorem fF_id {β : Type} (f : FuncData) (k : FuncData → β) : fF f k = k f := by
 obtain ⟨a, b, c, d, e, g, cl, df, kd, dc, pm, an, cd, ct, bi⟩ := f
 unfold fF
 dsimp only
 rw [fL_id (fun x k => by obtain ⟨u, v⟩ := x; rfl)]
 simp only [fV_id, fO_id (fun x k => fI_id (β := β) x k)]
 cases d <;> rfl
theorem fC_id {β : Type} (c : ClassData) (k : ClassData → β) : fC c k = k c := by
 obtain ⟨n, bs, mro, ns, qn, hd, sl, sub, ab, co, del⟩ := c
 unfold fC
 dsimp only
 simp only [fL_id (fun v k => fV_id (β := β) v k), fL_id (fun x k => fI_id (β := β) x k), fO_id (fun x k => fI_id (β := β) x k)]
theorem fD_id {β : Type} (d : Data) (k : Data → β) : fD d k = k d := by
 cases d <;> unfold fD <;> dsimp only <;> simp only [fV_id, fA_id (fun v k => fV_id (β := β) v k), fA_id (fun e k => fE_id (β := β) e k), fO_id (fun v k => fV_id (β := β) v k), fF_id, fC_id]
theorem fObj_id {β : Type} (o : Obj) (k : Obj → β) : fObj o k = k o := by
 obtain ⟨c, d, dt, sl⟩ := o
 unfold fObj
 dsimp only
 simp only [fV_id, fO_id (fun x k => fI_id (β := β) x k), fD_id, fA_id (fun v k => fO_id (fun x k => fV_id (β := β) x k) v k)]
theorem left_forcedT {p q : Program} {loose : List Str} {Xt : Shared → Bool} {as : List Addr} {Ya : World → List (Option Obj)} {N tk : Nat} {g0 : Bool}
  (h : ∀ w, ((fencedOpening T2 p w N).bind (topFromT T2 p w N)).bind (fun s => fL (fO fObj) (as.map s.heap.get?) fun l => some (openSeen q loose (importedModules p.main.body) Xt g0 s, l, Nat.ble tk s.toks)) = some (openGood q loose, Ya w, true)) :
  LeftO p q loose Xt (fun s => (as.map s.heap.get?, Nat.ble tk s.toks)) (fun w => (Ya w, true)) N g0 := left_of fun w => by
 obtain ⟨s, hs, e⟩ := Option.bind_eq_some_iff.mp (h w)
 rw [fL_id (fun x k => fO_id (fun o k => fObj_id o k) x k)] at e
 rw [hs]
 exact e
end Mine
end
section
open PySem PySem.W PyProof.Rows
namespace Mine
def st1 (p : Program) (i : Nat) : Stmt := (p.main.body[i]?).getD (Stmt.Pass default)
def inCls : Stmt → List Stmt
 | .ClassDef _ _ _ b _ _ _ _ _ _ _ => b
 | _ => []
def st2 (p : Program) (i j : Nat) : Stmt := ((inCls (st1 p i))[j]?).getD (Stmt.Pass default)
def fnArgs : Stmt → Arguments
 | .FunctionDef _ a _ _ _ _ _ _ _ _ => a
 | _ => default
def fnBody : Stmt → List Stmt
 | .FunctionDef _ _ b _ _ _ _ _ _ _ => b
 | .ClassDef _ _ _ b _ _ _ _ _ _ _ => b
 | _ => []
def fnScope : Stmt → Scope
 | .FunctionDef _ _ _ _ _ _ s _ _ _ => s
 | _ => default
def docS (st : Stmt) : Str := match fnBody st with
 | .Expr (.Constant (.str s) _ _) _ :: _ => s
 | _ => Str.ofString ""
def pw : Program := PySem.Challenge.pw_yj0002_02
def o2 (P : Params) : Obj := ⟨.none, none, (.dict #[⟨(PyData.keyHash P "im\x70ort.loaded._heapq"), (.str "im\x70ort.loaded._heapq" 186), (Value.bool true)⟩, ⟨(PyData.keyHash P "class._frozen_importlib_external._LoaderBasics"), (.str "class._frozen_importlib_external._LoaderBasics" 191), (.ref 16)⟩, ⟨(PyData.keyHash P "watched.im\x70ort"), (.str "watched.im\x70ort" 207), (.ref 20)⟩, ⟨(PyData.keyHash P "class._frozen_importlib_external.FileLoader"), (.str "class._frozen_importlib_external.FileLoader" 208), (.ref 22)⟩, ⟨(PyData.keyHash P "class._frozen_importlib_external.ExtensionFileLoader"), (.str "class._frozen_importlib_external.ExtensionFileLoader" 229), (.ref 27)⟩, ⟨(PyData.keyHash P "class._frozen_importlib.ModuleSpec"), (.str "class._frozen_importlib.ModuleSpec" 257), (.ref 33)⟩, ⟨(PyData.keyHash P "sys.modules.booked-epoch"), (.str "sys.modules.booked-epoch" 286), (.int 3 0)⟩, ⟨(PyData.keyHash P "im\x70ort.later-laid._heapq"), (.str "im\x70ort.later-laid._heapq" 304), (Value.bool true)⟩, ⟨(PyData.keyHash P "watched.library"), (.str "watched.library" 306), (.ref 38)⟩, ⟨(PyData.keyHash P "watched.library-objects"), (.str "watched.library-objects" 0), (.str "\x0d" 0)⟩] 10), #[]⟩
def o3 (P : Params) : Obj := ⟨(.type "dict"), none, (.dict #[⟨(PyData.keyHash P "__name__"), (.str "__name__" 165), (.str "law_yj0002_02" 739)⟩, ⟨(PyData.keyHash P "__doc__"), (.str "__doc__" 166), .none⟩, ⟨(PyData.keyHash P "__package__"), (.str "__package__" 167), .none⟩, ⟨(PyData.keyHash P "__loader__"), (.str "__loader__" 168), (Value.builtin "__main__.__loader__#opaque")⟩, ⟨(PyData.keyHash P "__spec__"), (.str "__spec__" 169), .none⟩, ⟨(PyData.keyHash P "__annotations__"), (.str "__annotations__" 170), (.ref 6)⟩, ⟨(PyData.keyHash P "__builtins__"), (.str "__builtins__" 171), (.ref 4)⟩, ⟨(PyData.keyHash P "__file__"), (.str "__file__" 173), (.str "/claim/cut.py" 172)⟩, ⟨(PyData.keyHash P "__cached__"), (.str "__cached__" 174), .none⟩, ⟨(PyData.keyHash P "heapify"), (.str "heapify" 312), (Value.builtin "_heapq.heapify")⟩, ⟨(PyData.keyHash P "heapreplace"), (.str "heapreplace" 315), (Value.builtin "_heapq.heapreplace")⟩, ⟨(PyData.keyHash P "_wall"), (.str "_wall" 328), (.ref 49)⟩, ⟨(PyData.keyHash P "_tuplegetter"), (.str "_tuplegetter" 387), (.ref 88)⟩, ⟨(PyData.keyHash P "Match"), (.str "Match" 515), (.ref 163)⟩, ⟨(PyData.keyHash P "_calculate_ratio"), (.str "_calculate_ratio" 523), (.ref 173)⟩, ⟨(PyData.keyHash P "SequenceMatcher"), (.str "SequenceMatcher" 719), (.ref 270)⟩, ⟨(PyData.keyHash P "nlargest"), (.str "nlargest" 727), (.ref 280)⟩, ⟨(PyData.keyHash P "get_close_matches"), (.str "get_close_matches" 738), (.ref 286)⟩, ⟨(PyData.keyHash P "WORD"), (.str "WORD" 742), (.str "abcdefghi" 741)⟩, ⟨(PyData.keyHash P "STRANGERS"), (.str "STRANGERS" 747), (.ref 287)⟩, ⟨(PyData.keyHash P "_law_near"), (.str "_law_near" 756), (.ref 294)⟩, ⟨(PyData.keyHash P "_law_laid"), (.str "_law_laid" 769), (.ref 301)⟩, ⟨(PyData.keyHash P "law"), (.str "law" 775), (.ref 306)⟩] 23), #[]⟩
def o44 (P : Params) : Obj := ⟨.none, none, (.fields #[]), #[]⟩
def o48 (P : Params) : Obj := ⟨(.type "code"), none, (.fields #[(.str "_wall" 322), (.str "_wall" 323), (.str "/claim/cut.py" 324), (.int 2 0), (.int 1 0), (.int 0 0), (.int 0 0), (.int 3 0), (.ref 43), (Value.bool true), (.int 316 0), (.ref 44), .none, (.ref 45), (.ref 46), (.ref 47), (.int 326 0), (.int 2 0), (.str "/claim/cut.py" 327)]), #[]⟩
def o49 (P : Params) : Obj := ⟨(.type "function"), none, (.func { name := "_wall", qualname := "_wall", params := fnArgs (st1 pw 1), body := FuncBody.stmts (fnBody (st1 pw 1)), scope := fnScope (st1 pw 1), globals := 3, closure := [], defaults := .none, kwdefaults := .none, doc := .none, pyModule := (.str "__main__" 164), annotations := none, code := (.ref 48), closureTuple := .none, builtins := 0 }), #[]⟩
def o54 (P : Params) : Obj := ⟨.none, none, (.fields #[(.int 8 0), (.int 4 0), (.ref 62), (.int 12 0), (.int 4 0), (.ref 70), (.int 19 0), (.int 4 0), (.ref 77), (.int 22 0), (.int 4 0), (.ref 84)]), #[]⟩
def o55 (P : Params) : Obj := ⟨(.type "code"), none, (.fields #[(.str "_tuplegetter" 333), (.str "_tuplegetter" 334), (.str "/claim/cut.py" 335), (.int 6 0), (.int 0 0), (.int 0 0), (.int 0 0), (.int 0 0), (.ref 53), (Value.bool false), (.int 316 0), (.ref 54), .none, .none, .none, .none, (.int 336 0), (.int 6 0), (.str "/claim/cut.py" 337)]), #[]⟩
def o58 (P : Params) : Obj := ⟨.none, none, (.fields #[]), #[]⟩
def o62 (P : Params) : Obj := ⟨(.type "code"), none, (.fields #[(.str "__init__" 343), (.str "_tuplegetter.__init__" 344), (.str "/claim/cut.py" 345), (.int 8 0), (.int 3 0), (.int 0 0), (.int 0 0), (.int 3 0), (.ref 57), (Value.bool true), (.int 316 0), (.ref 58), .none, (.ref 59), (.ref 60), (.ref 61), (.int 349 0), (.int 8 0), (.str "/claim/cut.py" 350)]), #[]⟩
def o63 (P : Params) : Obj := ⟨(.type "function"), none, (.func { name := "__init__", qualname := "_tuplegetter.__init__", params := fnArgs (st2 pw 3 0), body := FuncBody.stmts (fnBody (st2 pw 3 0)), scope := fnScope (st2 pw 3 0), globals := 3, closure := [], defaults := .none, kwdefaults := .none, doc := .none, pyModule := (.str "cpy313.difflib" 329), annotations := none, code := (.ref 62), closureTuple := .none, builtins := 0 }), #[]⟩
def o64 (P : Params) : Obj := ⟨(.type "tuple"), none, (.seq #[.none] 0), #[]⟩
def o66 (P : Params) : Obj := ⟨.none, none, (.fields #[]), #[]⟩
def o70 (P : Params) : Obj := ⟨(.type "code"), none, (.fields #[(.str "__get__" 352), (.str "_tuplegetter.__get__" 353), (.str "/claim/cut.py" 354), (.int 12 0), (.int 3 0), (.int 0 0), (.int 0 0), (.int 3 0), (.ref 65), (Value.bool true), (.int 316 0), (.ref 66), .none, (.ref 67), (.ref 68), (.ref 69), (.int 358 0), (.int 12 0), (.str "/claim/cut.py" 359)]), #[]⟩
def o71 (P : Params) : Obj := ⟨(.type "function"), none, (.func { name := "__get__", qualname := "_tuplegetter.__get__", params := fnArgs (st2 pw 3 1), body := FuncBody.stmts (fnBody (st2 pw 3 1)), scope := fnScope (st2 pw 3 1), globals := 3, closure := [], defaults := (.ref 64), kwdefaults := .none, doc := .none, pyModule := (.str "cpy313.difflib" 329), annotations := none, code := (.ref 70), closureTuple := .none, builtins := 0 }), #[]⟩
def o73 (P : Params) : Obj := ⟨.none, none, (.fields #[]), #[]⟩
def o77 (P : Params) : Obj := ⟨(.type "code"), none, (.fields #[(.str "__set__" 361), (.str "_tuplegetter.__set__" 362), (.str "/claim/cut.py" 363), (.int 19 0), (.int 3 0), (.int 0 0), (.int 0 0), (.int 3 0), (.ref 72), (Value.bool true), (.int 316 0), (.ref 73), .none, (.ref 74), (.ref 75), (.ref 76), (.int 367 0), (.int 19 0), (.str "/claim/cut.py" 368)]), #[]⟩
def o78 (P : Params) : Obj := ⟨(.type "function"), none, (.func { name := "__set__", qualname := "_tuplegetter.__set__", params := fnArgs (st2 pw 3 2), body := FuncBody.stmts (fnBody (st2 pw 3 2)), scope := fnScope (st2 pw 3 2), globals := 3, closure := [], defaults := .none, kwdefaults := .none, doc := .none, pyModule := (.str "cpy313.difflib" 329), annotations := none, code := (.ref 77), closureTuple := .none, builtins := 0 }), #[]⟩
def o80 (P : Params) : Obj := ⟨.none, none, (.fields #[]), #[]⟩
def o84 (P : Params) : Obj := ⟨(.type "code"), none, (.fields #[(.str "__delete__" 370), (.str "_tuplegetter.__delete__" 371), (.str "/claim/cut.py" 372), (.int 22 0), (.int 2 0), (.int 0 0), (.int 0 0), (.int 3 0), (.ref 79), (Value.bool true), (.int 316 0), (.ref 80), .none, (.ref 81), (.ref 82), (.ref 83), (.int 375 0), (.int 22 0), (.str "/claim/cut.py" 376)]), #[]⟩
def o85 (P : Params) : Obj := ⟨(.type "function"), none, (.func { name := "__delete__", qualname := "_tuplegetter.__delete__", params := fnArgs (st2 pw 3 3), body := FuncBody.stmts (fnBody (st2 pw 3 3)), scope := fnScope (st2 pw 3 3), globals := 3, closure := [], defaults := .none, kwdefaults := .none, doc := .none, pyModule := (.str "cpy313.difflib" 329), annotations := none, code := (.ref 84), closureTuple := .none, builtins := 0 }), #[]⟩
def o87 (P : Params) : Obj := ⟨(.type "dict"), none, (.dict #[⟨(PyData.keyHash P "__module__"), (.str "__module__" 338), (.str "cpy313.difflib" 329)⟩, ⟨(PyData.keyHash P "__firstlineno__"), (.str "__firstlineno__" 342), (.int 6 341)⟩, ⟨(PyData.keyHash P "__init__"), (.str "__init__" 351), (.ref 63)⟩, ⟨(PyData.keyHash P "__get__"), (.str "__get__" 360), (.ref 71)⟩, ⟨(PyData.keyHash P "__set__"), (.str "__set__" 369), (.ref 78)⟩, ⟨(PyData.keyHash P "__delete__"), (.str "__delete__" 377), (.ref 85)⟩, ⟨(PyData.keyHash P "__static_attributes__"), (.str "__static_attributes__" 380), (.ref 86)⟩, ⟨(PyData.keyHash P "__dict__"), (.str "__dict__" 382), (.ref 89)⟩, ⟨(PyData.keyHash P "__weakref__"), (.str "__weakref__" 384), (.ref 90)⟩, ⟨(PyData.keyHash P "__doc__"), (.str "__doc__" 385), .none⟩] 4), #[]⟩
def o88 (P : Params) : Obj := ⟨(.type "type"), none, (.cls { name := "_tuplegetter", bases := [(.type "object")], mro := [(.ref 88), (.type "object")], ns := 87, qualname := "_tuplegetter", hasDict := true, slotNames := [], subclasses := [], abstract := false, collection := none, hasDel := false }), #[none, none, some (.str "_tuplegetter" 331), some (.str "_tuplegetter" 339), some (Value.builtin "object.__new__"), some (Value.bool true)]⟩
def o96 (P : Params) : Obj := ⟨(.type "cell"), none, (Data.cell (some (.ref 163))), #[]⟩
def o98 (P : Params) : Obj := ⟨.none, none, (.fields #[(.int 30 0), (.int 4 0), (.ref 109), (.int 35 0), (.int 4 0), (.ref 116), (.int 42 0), (.int 4 0), (.ref 127), (.int 53 0), (.int 4 0), (.ref 134), (.int 57 0), (.int 4 0), (.ref 141), (.int 60 0), (.int 4 0), (.ref 148)]), #[]⟩
def o99 (P : Params) : Obj := ⟨(.type "code"), none, (.fields #[(.str "Match" 390), (.str "Match" 391), (.str "/claim/cut.py" 392), (.int 24 0), (.int 0 0), (.int 0 0), (.int 0 0), (.int 0 0), (.ref 97), (Value.bool false), (.int 316 0), (.ref 98), .none, .none, .none, .none, (.int 393 0), (.int 24 0), (.str "/claim/cut.py" 394)]), #[]⟩
def o105 (P : Params) : Obj := ⟨.none, none, (.fields #[]), #[]⟩
def o109 (P : Params) : Obj := ⟨(.type "code"), none, (.fields #[(.str "__new__" 409), (.str "Match.__new__" 410), (.str "/claim/cut.py" 411), (.int 30 0), (.int 4 0), (.int 0 0), (.int 0 0), (.int 3 0), (.ref 104), (Value.bool true), (.int 316 0), (.ref 105), .none, (.ref 106), (.ref 107), (.ref 108), (.int 416 0), (.int 30 0), (.str "/claim/cut.py" 417)]), #[]⟩
def o110 (P : Params) : Obj := ⟨(.type "function"), none, (.func { name := "__new__", qualname := "Match.__new__", params := fnArgs (st2 pw 4 4), body := FuncBody.stmts (fnBody (st2 pw 4 4)), scope := fnScope (st2 pw 4 4), globals := 3, closure := [], defaults := .none, kwdefaults := .none, doc := (.str "Create new in\x73tance of Match(a, b, size)" 418), pyModule := (.str "cpy313.difflib" 329), annotations := none, code := (.ref 109), closureTuple := .none, builtins := 0 }), #[]⟩
def o112 (P : Params) : Obj := ⟨.none, none, (.fields #[]), #[]⟩
def o116 (P : Params) : Obj := ⟨(.type "code"), none, (.fields #[(.str "_make" 420), (.str "Match._make" 421), (.str "/claim/cut.py" 422), (.int 34 0), (.int 2 0), (.int 0 0), (.int 0 0), (.int 3 0), (.ref 111), (Value.bool true), (.int 316 0), (.ref 112), .none, (.ref 113), (.ref 114), (.ref 115), (.int 426 0), (.int 34 0), (.str "/claim/cut.py" 427)]), #[]⟩
def o117 (P : Params) : Obj := ⟨(.type "function"), none, (.func { name := "_make", qualname := "Match._make", params := fnArgs (st2 pw 4 5), body := FuncBody.stmts (fnBody (st2 pw 4 5)), scope := fnScope (st2 pw 4 5), globals := 3, closure := [], defaults := .none, kwdefaults := .none, doc := (.str "Make a new Match object from a sequence or iterable" 428), pyModule := (.str "cpy313.difflib" 329), annotations := (some 120), code := (.ref 116), closureTuple := .none, builtins := 0 }), #[]⟩
def o119 (P : Params) : Obj := ⟨(.type "classmethod"), (some 118), (.fields #[(.ref 117), (Value.bool false)]), #[]⟩
def o121 (P : Params) : Obj := ⟨(.type "tuple"), none, (.seq #[(.ref 96)] 0), #[]⟩
def o123 (P : Params) : Obj := ⟨.none, none, (.fields #[]), #[]⟩
def o127 (P : Params) : Obj := ⟨(.type "code"), none, (.fields #[(.str "_replace" 442), (.str "Match._replace" 443), (.str "/claim/cut.py" 444), (.int 42 0), (.int 1 0), (.int 1 0), (.int 0 0), (.int 11 0), (.ref 122), (Value.bool true), (.int 316 0), (.ref 123), .none, (.ref 124), (.ref 125), (.ref 126), (.int 449 0), (.int 42 0), (.str "/claim/cut.py" 450)]), #[]⟩
def o128 (P : Params) : Obj := ⟨(.type "function"), none, (.func { name := "_replace", qualname := "Match._replace", params := fnArgs (st2 pw 4 6), body := FuncBody.stmts (fnBody (st2 pw 4 6)), scope := fnScope (st2 pw 4 6), globals := 3, closure := [("__class__", 96)], defaults := .none, kwdefaults := .none, doc := (Value.str (docS (st2 pw 4 6)) 451), pyModule := (.str "cpy313.difflib" 329), annotations := none, code := (.ref 127), closureTuple := (.ref 121), builtins := 0 }), #[]⟩
def o130 (P : Params) : Obj := ⟨.none, none, (.fields #[]), #[]⟩
def o134 (P : Params) : Obj := ⟨(.type "code"), none, (.fields #[(.str "__repr__" 454), (.str "Match.__repr__" 455), (.str "/claim/cut.py" 456), (.int 53 0), (.int 1 0), (.int 0 0), (.int 0 0), (.int 3 0), (.ref 129), (Value.bool true), (.int 316 0), (.ref 130), .none, (.ref 131), (.ref 132), (.ref 133), (.int 458 0), (.int 53 0), (.str "/claim/cut.py" 459)]), #[]⟩
def o135 (P : Params) : Obj := ⟨(.type "function"), none, (.func { name := "__repr__", qualname := "Match.__repr__", params := fnArgs (st2 pw 4 8), body := FuncBody.stmts (fnBody (st2 pw 4 8)), scope := fnScope (st2 pw 4 8), globals := 3, closure := [], defaults := .none, kwdefaults := .none, doc := (.str "Return a nicely formatted representation string" 460), pyModule := (.str "cpy313.difflib" 329), annotations := none, code := (.ref 134), closureTuple := .none, builtins := 0 }), #[]⟩
def o137 (P : Params) : Obj := ⟨.none, none, (.fields #[]), #[]⟩
def o141 (P : Params) : Obj := ⟨(.type "code"), none, (.fields #[(.str "_asdict" 462), (.str "Match._asdict" 463), (.str "/claim/cut.py" 464), (.int 57 0), (.int 1 0), (.int 0 0), (.int 0 0), (.int 3 0), (.ref 136), (Value.bool true), (.int 316 0), (.ref 137), .none, (.ref 138), (.ref 139), (.ref 140), (.int 466 0), (.int 57 0), (.str "/claim/cut.py" 467)]), #[]⟩
def o142 (P : Params) : Obj := ⟨(.type "function"), none, (.func { name := "_asdict", qualname := "Match._asdict", params := fnArgs (st2 pw 4 9), body := FuncBody.stmts (fnBody (st2 pw 4 9)), scope := fnScope (st2 pw 4 9), globals := 3, closure := [], defaults := .none, kwdefaults := .none, doc := .none, pyModule := (.str "cpy313.difflib" 329), annotations := none, code := (.ref 141), closureTuple := .none, builtins := 0 }), #[]⟩
def o144 (P : Params) : Obj := ⟨.none, none, (.fields #[]), #[]⟩
def o148 (P : Params) : Obj := ⟨(.type "code"), none, (.fields #[(.str "__getnewargs__" 469), (.str "Match.__getnewargs__" 470), (.str "/claim/cut.py" 471), (.int 60 0), (.int 1 0), (.int 0 0), (.int 0 0), (.int 3 0), (.ref 143), (Value.bool true), (.int 316 0), (.ref 144), .none, (.ref 145), (.ref 146), (.ref 147), (.int 473 0), (.int 60 0), (.str "/claim/cut.py" 474)]), #[]⟩
def o149 (P : Params) : Obj := ⟨(.type "function"), none, (.func { name := "__getnewargs__", qualname := "Match.__getnewargs__", params := fnArgs (st2 pw 4 10), body := FuncBody.stmts (fnBody (st2 pw 4 10)), scope := fnScope (st2 pw 4 10), globals := 3, closure := [], defaults := .none, kwdefaults := .none, doc := (.str "Return self as a plain tuple.  Used by copy and pickle." 475), pyModule := (.str "cpy313.difflib" 329), annotations := none, code := (.ref 148), closureTuple := .none, builtins := 0 }), #[]⟩
def o162 (P : Params) : Obj := ⟨(.type "dict"), none, (.dict #[⟨(PyData.keyHash P "__module__"), (.str "__module__" 395), (.str "cpy313.difflib" 329)⟩, ⟨(PyData.keyHash P "__firstlineno__"), (.str "__firstlineno__" 399), (.int 24 398)⟩, ⟨(PyData.keyHash P "__doc__"), (.str "__doc__" 401), (.str "Match(a, b, size)" 400)⟩, ⟨(PyData.keyHash P "__slots__"), (.str "__slots__" 403), (.ref 101)⟩, ⟨(PyData.keyHash P "_fields"), (.str "_fields" 407), (.ref 102)⟩, ⟨(PyData.keyHash P "_field_defaults"), (.str "_field_defaults" 408), (.ref 103)⟩, ⟨(PyData.keyHash P "__new__"), (.str "__new__" 419), (.ref 164)⟩, ⟨(PyData.keyHash P "_make"), (.str "_make" 441), (.ref 119)⟩, ⟨(PyData.keyHash P "_replace"), (.str "_replace" 452), (.ref 128)⟩, ⟨(PyData.keyHash P "__replace__"), (.str "__replace__" 453), (.ref 128)⟩, ⟨(PyData.keyHash P "__repr__"), (.str "__repr__" 461), (.ref 135)⟩, ⟨(PyData.keyHash P "_asdict"), (.str "_asdict" 468), (.ref 142)⟩, ⟨(PyData.keyHash P "__getnewargs__"), (.str "__getnewargs__" 476), (.ref 149)⟩, ⟨(PyData.keyHash P "__match_args__"), (.str "__match_args__" 480), (.ref 150)⟩, ⟨(PyData.keyHash P "a"), (.str "a" 490), (.ref 152)⟩, ⟨(PyData.keyHash P "b"), (.str "b" 500), (.ref 155)⟩, ⟨(PyData.keyHash P "size"), (.str "size" 510), (.ref 158)⟩, ⟨(PyData.keyHash P "__static_attributes__"), (.str "__static_attributes__" 511), (.ref 160)⟩] 2), #[]⟩
def o163 (P : Params) : Obj := ⟨(.type "type"), none, (.cls { name := "Match", bases := [(.type "tuple")], mro := [(.ref 163), (.type "tuple"), (.type "object")], ns := 162, qualname := "Match", hasDict := false, slotNames := [], subclasses := [], abstract := false, collection := none, hasDel := false }), #[some (.ref 93), none, some (.str "Match" 388), some (.str "Match" 396), some .none, some (Value.bool false)]⟩
def o164 (P : Params) : Obj := ⟨(.type "staticmethod"), none, (.fields #[(.ref 110)]), #[]⟩
def o168 (P : Params) : Obj := ⟨.none, none, (.fields #[]), #[]⟩
def o172 (P : Params) : Obj := ⟨(.type "code"), none, (.fields #[(.str "_calculate_ratio" 516), (.str "_calculate_ratio" 517), (.str "/claim/cut.py" 518), (.int 67 0), (.int 2 0), (.int 0 0), (.int 0 0), (.int 3 0), (.ref 167), (Value.bool true), (.int 316 0), (.ref 168), .none, (.ref 169), (.ref 170), (.ref 171), (.int 521 0), (.int 67 0), (.str "/claim/cut.py" 522)]), #[]⟩
def o173 (P : Params) : Obj := ⟨(.type "function"), none, (.func { name := "_calculate_ratio", qualname := "_calculate_ratio", params := fnArgs (st1 pw 5), body := FuncBody.stmts (fnBody (st1 pw 5)), scope := fnScope (st1 pw 5), globals := 3, closure := [], defaults := .none, kwdefaults := .none, doc := .none, pyModule := (.str "cpy313.difflib" 329), annotations := none, code := (.ref 172), closureTuple := .none, builtins := 0 }), #[]⟩
def o178 (P : Params) : Obj := ⟨.none, none, (.fields #[(.int 146 0), (.int 4 0), (.ref 187), (.int 174 0), (.int 4 0), (.ref 194), (.int 185 0), (.int 4 0), (.ref 201), (.int 210 0), (.int 4 0), (.ref 208), (.int 237 0), (.int 4 0), (.ref 215), (.int 261 0), (.int 4 0), (.ref 223), (.int 336 0), (.int 4 0), (.ref 230), (.int 384 0), (.int 4 0), (.ref 237), (.int 387 0), (.int 4 0), (.ref 245), (.int 390 0), (.int 4 0), (.ref 252), (.int 414 0), (.int 4 0), (.ref 259), (.int 437 0), (.int 4 0), (.ref 266)]), #[]⟩
def o179 (P : Params) : Obj := ⟨(.type "code"), none, (.fields #[(.str "SequenceMatcher" 526), (.str "SequenceMatcher" 527), (.str "/claim/cut.py" 528), (.int 71 0), (.int 0 0), (.int 0 0), (.int 0 0), (.int 0 0), (.ref 177), (Value.bool false), (.int 316 0), (.ref 178), .none, .none, .none, .none, (.int 529 0), (.int 71 0), (.str "/claim/cut.py" 530)]), #[]⟩
def o181 (P : Params) : Obj := ⟨(.type "tuple"), none, (.seq #[.none, (.str "" 539), (.str "" 540), (Value.bool true)] 0), #[]⟩
def o183 (P : Params) : Obj := ⟨.none, none, (.fields #[]), #[]⟩
def o187 (P : Params) : Obj := ⟨(.type "code"), none, (.fields #[(.str "__init__" 541), (.str "SequenceMatcher.__init__" 542), (.str "/claim/cut.py" 543), (.int 146 0), (.int 5 0), (.int 0 0), (.int 0 0), (.int 3 0), (.ref 182), (Value.bool true), (.int 316 0), (.ref 183), .none, (.ref 184), (.ref 185), (.ref 186), (.int 549 0), (.int 146 0), (.str "/claim/cut.py" 550)]), #[]⟩
def o188 (P : Params) : Obj := ⟨(.type "function"), none, (.func { name := "__init__", qualname := "SequenceMatcher.__init__", params := fnArgs (st2 pw 6 1), body := FuncBody.stmts (fnBody (st2 pw 6 1)), scope := fnScope (st2 pw 6 1), globals := 3, closure := [], defaults := (.ref 181), kwdefaults := .none, doc := (Value.str (docS (st2 pw 6 1)) 551), pyModule := (.str "cpy313.difflib" 329), annotations := none, code := (.ref 187), closureTuple := .none, builtins := 0 }), #[]⟩
def o190 (P : Params) : Obj := ⟨.none, none, (.fields #[]), #[]⟩
def o194 (P : Params) : Obj := ⟨(.type "code"), none, (.fields #[(.str "set_seqs" 553), (.str "SequenceMatcher.set_seqs" 554), (.str "/claim/cut.py" 555), (.int 174 0), (.int 3 0), (.int 0 0), (.int 0 0), (.int 3 0), (.ref 189), (Value.bool true), (.int 316 0), (.ref 190), .none, (.ref 191), (.ref 192), (.ref 193), (.int 559 0), (.int 174 0), (.str "/claim/cut.py" 560)]), #[]⟩
def o195 (P : Params) : Obj := ⟨(.type "function"), none, (.func { name := "set_seqs", qualname := "SequenceMatcher.set_seqs", params := fnArgs (st2 pw 6 2), body := FuncBody.stmts (fnBody (st2 pw 6 2)), scope := fnScope (st2 pw 6 2), globals := 3, closure := [], defaults := .none, kwdefaults := .none, doc := (Value.str (docS (st2 pw 6 2)) 561), pyModule := (.str "cpy313.difflib" 329), annotations := none, code := (.ref 194), closureTuple := .none, builtins := 0 }), #[]⟩
def o197 (P : Params) : Obj := ⟨.none, none, (.fields #[]), #[]⟩
def o201 (P : Params) : Obj := ⟨(.type "code"), none, (.fields #[(.str "set_seq1" 563), (.str "SequenceMatcher.set_seq1" 564), (.str "/claim/cut.py" 565), (.int 185 0), (.int 2 0), (.int 0 0), (.int 0 0), (.int 3 0), (.ref 196), (Value.bool true), (.int 316 0), (.ref 197), .none, (.ref 198), (.ref 199), (.ref 200), (.int 568 0), (.int 185 0), (.str "/claim/cut.py" 569)]), #[]⟩
def o202 (P : Params) : Obj := ⟨(.type "function"), none, (.func { name := "set_seq1", qualname := "SequenceMatcher.set_seq1", params := fnArgs (st2 pw 6 3), body := FuncBody.stmts (fnBody (st2 pw 6 3)), scope := fnScope (st2 pw 6 3), globals := 3, closure := [], defaults := .none, kwdefaults := .none, doc := (Value.str (docS (st2 pw 6 3)) 570), pyModule := (.str "cpy313.difflib" 329), annotations := none, code := (.ref 201), closureTuple := .none, builtins := 0 }), #[]⟩
def o204 (P : Params) : Obj := ⟨.none, none, (.fields #[]), #[]⟩
def o208 (P : Params) : Obj := ⟨(.type "code"), none, (.fields #[(.str "set_seq2" 572), (.str "SequenceMatcher.set_seq2" 573), (.str "/claim/cut.py" 574), (.int 210 0), (.int 2 0), (.int 0 0), (.int 0 0), (.int 3 0), (.ref 203), (Value.bool true), (.int 316 0), (.ref 204), .none, (.ref 205), (.ref 206), (.ref 207), (.int 577 0), (.int 210 0), (.str "/claim/cut.py" 578)]), #[]⟩
def o209 (P : Params) : Obj := ⟨(.type "function"), none, (.func { name := "set_seq2", qualname := "SequenceMatcher.set_seq2", params := fnArgs (st2 pw 6 4), body := FuncBody.stmts (fnBody (st2 pw 6 4)), scope := fnScope (st2 pw 6 4), globals := 3, closure := [], defaults := .none, kwdefaults := .none, doc := (Value.str (docS (st2 pw 6 4)) 579), pyModule := (.str "cpy313.difflib" 329), annotations := none, code := (.ref 208), closureTuple := .none, builtins := 0 }), #[]⟩
def o211 (P : Params) : Obj := ⟨.none, none, (.fields #[]), #[]⟩
def o215 (P : Params) : Obj := ⟨(.type "code"), none, (.fields #[(.str "__chain_b" 581), (.str "SequenceMatcher.__chain_b" 582), (.str "/claim/cut.py" 583), (.int 237 0), (.int 1 0), (.int 0 0), (.int 0 0), (.int 3 0), (.ref 210), (Value.bool true), (.int 316 0), (.ref 211), .none, (.ref 212), (.ref 213), (.ref 214), (.int 596 0), (.int 237 0), (.str "/claim/cut.py" 597)]), #[]⟩
def o216 (P : Params) : Obj := ⟨(.type "function"), none, (.func { name := "__chain_b", qualname := "SequenceMatcher.__chain_b", params := fnArgs (st2 pw 6 5), body := FuncBody.stmts (fnBody (st2 pw 6 5)), scope := fnScope (st2 pw 6 5), globals := 3, closure := [], defaults := .none, kwdefaults := .none, doc := .none, pyModule := (.str "cpy313.difflib" 329), annotations := none, code := (.ref 215), closureTuple := .none, builtins := 0 }), #[]⟩
def o217 (P : Params) : Obj := ⟨(.type "tuple"), none, (.seq #[(.int 0 599), .none, (.int 0 600), .none] 0), #[]⟩
def o219 (P : Params) : Obj := ⟨.none, none, (.fields #[]), #[]⟩
def o223 (P : Params) : Obj := ⟨(.type "code"), none, (.fields #[(.str "find_longest_match" 601), (.str "SequenceMatcher.find_longest_match" 602), (.str "/claim/cut.py" 603), (.int 261 0), (.int 5 0), (.int 0 0), (.int 0 0), (.int 3 0), (.ref 218), (Value.bool true), (.int 316 0), (.ref 219), .none, (.ref 220), (.ref 221), (.ref 222), (.int 623 0), (.int 261 0), (.str "/claim/cut.py" 624)]), #[]⟩
def o224 (P : Params) : Obj := ⟨(.type "function"), none, (.func { name := "find_longest_match", qualname := "SequenceMatcher.find_longest_match", params := fnArgs (st2 pw 6 6), body := FuncBody.stmts (fnBody (st2 pw 6 6)), scope := fnScope (st2 pw 6 6), globals := 3, closure := [], defaults := (.ref 217), kwdefaults := .none, doc := (Value.str (docS (st2 pw 6 6)) 625), pyModule := (.str "cpy313.difflib" 329), annotations := none, code := (.ref 223), closureTuple := .none, builtins := 0 }), #[]⟩
def o226 (P : Params) : Obj := ⟨.none, none, (.fields #[]), #[]⟩
def o230 (P : Params) : Obj := ⟨(.type "code"), none, (.fields #[(.str "get_matching_blocks" 627), (.str "SequenceMatcher.get_matching_blocks" 628), (.str "/claim/cut.py" 629), (.int 336 0), (.int 1 0), (.int 0 0), (.int 0 0), (.int 3 0), (.ref 225), (Value.bool true), (.int 316 0), (.ref 226), .none, (.ref 227), (.ref 228), (.ref 229), (.int 650 0), (.int 336 0), (.str "/claim/cut.py" 651)]), #[]⟩
def o231 (P : Params) : Obj := ⟨(.type "function"), none, (.func { name := "get_matching_blocks", qualname := "SequenceMatcher.get_matching_blocks", params := fnArgs (st2 pw 6 7), body := FuncBody.stmts (fnBody (st2 pw 6 7)), scope := fnScope (st2 pw 6 7), globals := 3, closure := [], defaults := .none, kwdefaults := .none, doc := (Value.str (docS (st2 pw 6 7)) 652), pyModule := (.str "cpy313.difflib" 329), annotations := none, code := (.ref 230), closureTuple := .none, builtins := 0 }), #[]⟩
def o233 (P : Params) : Obj := ⟨.none, none, (.fields #[]), #[]⟩
def o237 (P : Params) : Obj := ⟨(.type "code"), none, (.fields #[(.str "get_opcodes" 654), (.str "SequenceMatcher.get_opcodes" 655), (.str "/claim/cut.py" 656), (.int 384 0), (.int 1 0), (.int 0 0), (.int 0 0), (.int 3 0), (.ref 232), (Value.bool true), (.int 316 0), (.ref 233), .none, (.ref 234), (.ref 235), (.ref 236), (.int 658 0), (.int 384 0), (.str "/claim/cut.py" 659)]), #[]⟩
def o238 (P : Params) : Obj := ⟨(.type "function"), none, (.func { name := "get_opcodes", qualname := "SequenceMatcher.get_opcodes", params := fnArgs (st2 pw 6 8), body := FuncBody.stmts (fnBody (st2 pw 6 8)), scope := fnScope (st2 pw 6 8), globals := 3, closure := [], defaults := .none, kwdefaults := .none, doc := .none, pyModule := (.str "cpy313.difflib" 329), annotations := none, code := (.ref 237), closureTuple := .none, builtins := 0 }), #[]⟩
def o239 (P : Params) : Obj := ⟨(.type "tuple"), none, (.seq #[(.int 3 661)] 0), #[]⟩
def o241 (P : Params) : Obj := ⟨.none, none, (.fields #[]), #[]⟩
def o245 (P : Params) : Obj := ⟨(.type "code"), none, (.fields #[(.str "get_grouped_opcodes" 662), (.str "SequenceMatcher.get_grouped_opcodes" 663), (.str "/claim/cut.py" 664), (.int 387 0), (.int 2 0), (.int 0 0), (.int 0 0), (.int 3 0), (.ref 240), (Value.bool true), (.int 316 0), (.ref 241), .none, (.ref 242), (.ref 243), (.ref 244), (.int 667 0), (.int 387 0), (.str "/claim/cut.py" 668)]), #[]⟩
def o246 (P : Params) : Obj := ⟨(.type "function"), none, (.func { name := "get_grouped_opcodes", qualname := "SequenceMatcher.get_grouped_opcodes", params := fnArgs (st2 pw 6 9), body := FuncBody.stmts (fnBody (st2 pw 6 9)), scope := fnScope (st2 pw 6 9), globals := 3, closure := [], defaults := (.ref 239), kwdefaults := .none, doc := .none, pyModule := (.str "cpy313.difflib" 329), annotations := none, code := (.ref 245), closureTuple := .none, builtins := 0 }), #[]⟩
def o248 (P : Params) : Obj := ⟨.none, none, (.fields #[]), #[]⟩
def o252 (P : Params) : Obj := ⟨(.type "code"), none, (.fields #[(.str "ratio" 670), (.str "SequenceMatcher.ratio" 671), (.str "/claim/cut.py" 672), (.int 390 0), (.int 1 0), (.int 0 0), (.int 0 0), (.int 3 0), (.ref 247), (Value.bool true), (.int 316 0), (.ref 248), .none, (.ref 249), (.ref 250), (.ref 251), (.int 675 0), (.int 390 0), (.str "/claim/cut.py" 676)]), #[]⟩
def o253 (P : Params) : Obj := ⟨(.type "function"), none, (.func { name := "ratio", qualname := "SequenceMatcher.ratio", params := fnArgs (st2 pw 6 10), body := FuncBody.stmts (fnBody (st2 pw 6 10)), scope := fnScope (st2 pw 6 10), globals := 3, closure := [], defaults := .none, kwdefaults := .none, doc := (Value.str (docS (st2 pw 6 10)) 677), pyModule := (.str "cpy313.difflib" 329), annotations := none, code := (.ref 252), closureTuple := .none, builtins := 0 }), #[]⟩
def o255 (P : Params) : Obj := ⟨.none, none, (.fields #[]), #[]⟩
def o259 (P : Params) : Obj := ⟨(.type "code"), none, (.fields #[(.str "quick_ratio" 679), (.str "SequenceMatcher.quick_ratio" 680), (.str "/claim/cut.py" 681), (.int 414 0), (.int 1 0), (.int 0 0), (.int 0 0), (.int 3 0), (.ref 254), (Value.bool true), (.int 316 0), (.ref 255), .none, (.ref 256), (.ref 257), (.ref 258), (.int 689 0), (.int 414 0), (.str "/claim/cut.py" 690)]), #[]⟩
def o260 (P : Params) : Obj := ⟨(.type "function"), none, (.func { name := "quick_ratio", qualname := "SequenceMatcher.quick_ratio", params := fnArgs (st2 pw 6 11), body := FuncBody.stmts (fnBody (st2 pw 6 11)), scope := fnScope (st2 pw 6 11), globals := 3, closure := [], defaults := .none, kwdefaults := .none, doc := (Value.str (docS (st2 pw 6 11)) 691), pyModule := (.str "cpy313.difflib" 329), annotations := none, code := (.ref 259), closureTuple := .none, builtins := 0 }), #[]⟩
def o262 (P : Params) : Obj := ⟨.none, none, (.fields #[]), #[]⟩
def o266 (P : Params) : Obj := ⟨(.type "code"), none, (.fields #[(.str "real_quick_ratio" 693), (.str "SequenceMatcher.real_quick_ratio" 694), (.str "/claim/cut.py" 695), (.int 437 0), (.int 1 0), (.int 0 0), (.int 0 0), (.int 3 0), (.ref 261), (Value.bool true), (.int 316 0), (.ref 262), .none, (.ref 263), (.ref 264), (.ref 265), (.int 699 0), (.int 437 0), (.str "/claim/cut.py" 700)]), #[]⟩
def o267 (P : Params) : Obj := ⟨(.type "function"), none, (.func { name := "real_quick_ratio", qualname := "SequenceMatcher.real_quick_ratio", params := fnArgs (st2 pw 6 12), body := FuncBody.stmts (fnBody (st2 pw 6 12)), scope := fnScope (st2 pw 6 12), globals := 3, closure := [], defaults := .none, kwdefaults := .none, doc := (Value.str (docS (st2 pw 6 12)) 701), pyModule := (.str "cpy313.difflib" 329), annotations := none, code := (.ref 266), closureTuple := .none, builtins := 0 }), #[]⟩
def o269 (P : Params) : Obj := ⟨(.type "dict"), none, (.dict #[⟨(PyData.keyHash P "__module__"), (.str "__module__" 531), (.str "cpy313.difflib" 329)⟩, ⟨(PyData.keyHash P "__firstlineno__"), (.str "__firstlineno__" 535), (.int 71 534)⟩, ⟨(PyData.keyHash P "__doc__"), (.str "__doc__" 537), (Value.str (docS (st1 pw 6)) 536)⟩, ⟨(PyData.keyHash P "__init__"), (.str "__init__" 552), (.ref 188)⟩, ⟨(PyData.keyHash P "set_seqs"), (.str "set_seqs" 562), (.ref 195)⟩, ⟨(PyData.keyHash P "set_seq1"), (.str "set_seq1" 571), (.ref 202)⟩, ⟨(PyData.keyHash P "set_seq2"), (.str "set_seq2" 580), (.ref 209)⟩, ⟨(PyData.keyHash P "_SequenceMatcher__chain_b"), (.str "_SequenceMatcher__chain_b" 598), (.ref 216)⟩, ⟨(PyData.keyHash P "find_longest_match"), (.str "find_longest_match" 626), (.ref 224)⟩, ⟨(PyData.keyHash P "get_matching_blocks"), (.str "get_matching_blocks" 653), (.ref 231)⟩, ⟨(PyData.keyHash P "get_opcodes"), (.str "get_opcodes" 660), (.ref 238)⟩, ⟨(PyData.keyHash P "get_grouped_opcodes"), (.str "get_grouped_opcodes" 669), (.ref 246)⟩, ⟨(PyData.keyHash P "ratio"), (.str "ratio" 678), (.ref 253)⟩, ⟨(PyData.keyHash P "quick_ratio"), (.str "quick_ratio" 692), (.ref 260)⟩, ⟨(PyData.keyHash P "real_quick_ratio"), (.str "real_quick_ratio" 702), (.ref 267)⟩, ⟨(PyData.keyHash P "__static_attributes__"), (.str "__static_attributes__" 713), (.ref 268)⟩, ⟨(PyData.keyHash P "__dict__"), (.str "__dict__" 715), (.ref 271)⟩, ⟨(PyData.keyHash P "__weakref__"), (.str "__weakref__" 717), (.ref 272)⟩] 3), #[]⟩
def o270 (P : Params) : Obj := ⟨(.type "type"), none, (.cls { name := "SequenceMatcher", bases := [(.type "object")], mro := [(.ref 270), (.type "object")], ns := 269, qualname := "SequenceMatcher", hasDict := true, slotNames := [], subclasses := [], abstract := false, collection := none, hasDel := false }), #[none, none, some (.str "SequenceMatcher" 524), some (.str "SequenceMatcher" 532), some (Value.builtin "object.__new__"), some (Value.bool true)]⟩
def o275 (P : Params) : Obj := ⟨(.type "tuple"), none, (.seq #[.none] 0), #[]⟩
def o277 (P : Params) : Obj := ⟨.none, none, (.fields #[]), #[]⟩
def o279 (P : Params) : Obj := ⟨(.type "code"), none, (.fields #[(.str "nlargest" 722), (.str "nlargest" 723), (.str "/claim/cut.py" 724), (.int 446 0), (.int 3 0), (.int 0 0), (.int 0 0), (.int 3 0), (.ref 276), (Value.bool true), (.int 316 0), (.ref 277), .none, .none, .none, (.ref 278), (.int 725 0), (.int 446 0), (.str "/claim/cut.py" 726)]), #[]⟩
def o280 (P : Params) : Obj := ⟨(.type "function"), none, (.func { name := "nlargest", qualname := "nlargest", params := fnArgs (st1 pw 8), body := FuncBody.stmts (fnBody (st1 pw 8)), scope := fnScope (st1 pw 8), globals := 3, closure := [], defaults := (.ref 275), kwdefaults := .none, doc := .none, pyModule := (.str "heapq" 720), annotations := none, code := (.ref 279), closureTuple := .none, builtins := 0 }), #[]⟩
def o281 (P : Params) : Obj := ⟨(.type "tuple"), none, (.seq #[(.int 3 730), (Value.float 4603579539098121011 731)] 0), #[]⟩
def o283 (P : Params) : Obj := ⟨.none, none, (.fields #[]), #[]⟩
def o285 (P : Params) : Obj := ⟨(.type "code"), none, (.fields #[(.str "get_close_matches" 732), (.str "get_close_matches" 733), (.str "/claim/cut.py" 734), (.int 492 0), (.int 4 0), (.int 0 0), (.int 0 0), (.int 3 0), (.ref 282), (Value.bool true), (.int 316 0), (.ref 283), .none, .none, .none, (.ref 284), (.int 735 0), (.int 492 0), (.str "/claim/cut.py" 736)]), #[]⟩
def o286 (P : Params) : Obj := ⟨(.type "function"), none, (.func { name := "get_close_matches", qualname := "get_close_matches", params := fnArgs (st1 pw 10), body := FuncBody.stmts (fnBody (st1 pw 10)), scope := fnScope (st1 pw 10), globals := 3, closure := [], defaults := (.ref 281), kwdefaults := .none, doc := (Value.str (docS (st1 pw 10)) 737), pyModule := (.str "cpy313.difflib" 728), annotations := none, code := (.ref 285), closureTuple := .none, builtins := 0 }), #[]⟩
def o287 (P : Params) : Obj := ⟨(.type "tuple"), none, (.seq #[(.str "ABC" 743), (.str "" 744), (.str "ZZZZZZZZZ" 745), (.str "JKLMNOPQR" 746)] 0), #[]⟩
def o289 (P : Params) : Obj := ⟨.none, none, (.fields #[]), #[]⟩
def o293 (P : Params) : Obj := ⟨(.type "code"), none, (.fields #[(.str "_law_near" 748), (.str "_law_near" 749), (.str "/claim/cut.py" 750), (.int 536 0), (.int 1 0), (.int 0 0), (.int 0 0), (.int 3 0), (.ref 288), (Value.bool true), (.int 316 0), (.ref 289), .none, (.ref 290), (.ref 291), (.ref 292), (.int 754 0), (.int 536 0), (.str "/claim/cut.py" 755)]), #[]⟩
def o294 (P : Params) : Obj := ⟨(.type "function"), none, (.func { name := "_law_near", qualname := "_law_near", params := fnArgs (st1 pw 14), body := FuncBody.stmts (fnBody (st1 pw 14)), scope := fnScope (st1 pw 14), globals := 3, closure := [], defaults := .none, kwdefaults := .none, doc := .none, pyModule := (.str "law_yj0002_02" 739), annotations := none, code := (.ref 293), closureTuple := .none, builtins := 0 }), #[]⟩
def o296 (P : Params) : Obj := ⟨.none, none, (.fields #[]), #[]⟩
def o300 (P : Params) : Obj := ⟨(.type "code"), none, (.fields #[(.str "_law_laid" 757), (.str "_law_laid" 758), (.str "/claim/cut.py" 759), (.int 541 0), (.int 2 0), (.int 0 0), (.int 0 0), (.int 3 0), (.ref 295), (Value.bool true), (.int 316 0), (.ref 296), .none, (.ref 297), (.ref 298), (.ref 299), (.int 767 0), (.int 541 0), (.str "/claim/cut.py" 768)]), #[]⟩
def o301 (P : Params) : Obj := ⟨(.type "function"), none, (.func { name := "_law_laid", qualname := "_law_laid", params := fnArgs (st1 pw 15), body := FuncBody.stmts (fnBody (st1 pw 15)), scope := fnScope (st1 pw 15), globals := 3, closure := [], defaults := .none, kwdefaults := .none, doc := .none, pyModule := (.str "law_yj0002_02" 739), annotations := none, code := (.ref 300), closureTuple := .none, builtins := 0 }), #[]⟩
def o303 (P : Params) : Obj := ⟨.none, none, (.fields #[]), #[]⟩
def o305 (P : Params) : Obj := ⟨(.type "code"), none, (.fields #[(.str "law" 770), (.str "law" 771), (.str "/claim/cut.py" 772), (.int 548 0), (.int 1 0), (.int 0 0), (.int 0 0), (.int 3 0), (.ref 302), (Value.bool true), (.int 316 0), (.ref 303), .none, .none, .none, (.ref 304), (.int 773 0), (.int 548 0), (.str "/claim/cut.py" 774)]), #[]⟩
def o306 (P : Params) : Obj := ⟨(.type "function"), none, (.func { name := "law", qualname := "law", params := fnArgs (st1 pw 16), body := FuncBody.stmts (fnBody (st1 pw 16)), scope := fnScope (st1 pw 16), globals := 3, closure := [], defaults := .none, kwdefaults := .none, doc := .none, pyModule := (.str "law_yj0002_02" 739), annotations := none, code := (.ref 305), closureTuple := .none, builtins := 0 }), #[]⟩
def KK (P : Params) : Frag := [(2, o2 P), (3, o3 P), (44, o44 P), (48, o48 P), (49, o49 P), (54, o54 P), (55, o55 P), (58, o58 P), (62, o62 P), (63, o63 P), (64, o64 P), (66, o66 P), (70, o70 P), (71, o71 P), (73, o73 P), (77, o77 P), (78, o78 P), (80, o80 P), (84, o84 P), (85, o85 P), (87, o87 P), (88, o88 P), (96, o96 P), (98, o98 P), (99, o99 P), (105, o105 P), (109, o109 P), (110, o110 P), (112, o112 P), (116, o116 P), (117, o117 P), (119, o119 P), (121, o121 P), (123, o123 P), (127, o127 P), (128, o128 P), (130, o130 P), (134, o134 P), (135, o135 P), (137, o137 P), (141, o141 P), (142, o142 P), (144, o144 P), (148, o148 P), (149, o149 P), (162, o162 P), (163, o163 P), (164, o164 P), (168, o168 P), (172, o172 P), (173, o173 P), (178, o178 P), (179, o179 P), (181, o181 P), (183, o183 P), (187, o187 P), (188, o188 P), (190, o190 P), (194, o194 P), (195, o195 P), (197, o197 P), (201, o201 P), (202, o202 P), (204, o204 P), (208, o208 P), (209, o209 P), (211, o211 P), (215, o215 P), (216, o216 P), (217, o217 P), (219, o219 P), (223, o223 P), (224, o224 P), (226, o226 P), (230, o230 P), (231, o231 P), (233, o233 P), (237, o237 P), (238, o238 P), (239, o239 P), (241, o241 P), (245, o245 P), (246, o246 P), (248, o248 P), (252, o252 P), (253, o253 P), (255, o255 P), (259, o259 P), (260, o260 P), (262, o262 P), (266, o266 P), (267, o267 P), (269, o269 P), (270, o270 P), (275, o275 P), (277, o277 P), (279, o279 P), (280, o280 P), (281, o281 P), (283, o283 P), (285, o285 P), (286, o286 P), (287, o287 P), (289, o289 P), (293, o293 P), (294, o294 P), (296, o296 P), (300, o300 P), (301, o301 P), (303, o303 P), (305, o305 P), (306, o306 P)]
def aa : List Addr := [2, 3, 44, 48, 49, 54, 55, 58, 62, 63, 64, 66, 70, 71, 73, 77, 78, 80, 84, 85, 87, 88, 96, 98, 99, 105, 109, 110, 112, 116, 117, 119, 121, 123, 127, 128, 130, 134, 135, 137, 141, 142, 144, 148, 149, 162, 163, 164, 168, 172, 173, 178, 179, 181, 183, 187, 188, 190, 194, 195, 197, 201, 202, 204, 208, 209, 211, 215, 216, 217, 219, 223, 224, 226, 230, 231, 233, 237, 238, 239, 241, 245, 246, 248, 252, 253, 255, 259, 260, 262, 266, 267, 269, 270, 275, 277, 279, 280, 281, 283, 285, 286, 287, 289, 293, 294, 296, 300, 301, 303, 305, 306]
def qq : Program := view pw [0, 16]
def loose : List Str := [Str.ofString "_wall", Str.ofString "_tuplegetter", Str.ofString "Match", Str.ofString "_calculate_ratio", Str.ofString "SequenceMatcher", Str.ofString "nlargest", Str.ofString "get_close_matches", Str.ofString "WORD", Str.ofString "STRANGERS", Str.ofString "_law_near", Str.ofString "_law_laid"]
def law : OpenLaw := PySem.Challenge.rw_yj0002_02
abbrev Xt (s : Shared) : Bool := xlAt qq [] s && recOk law.row.records s
def tk0 : Nat := 776
noncomputable def lhs (w : World) := ((fencedOpening T2 pw w 4714).bind (topFromT T2 pw w 4714)).bind (fun s => fL (fO fObj) (aa.map s.heap.get?) fun l => some (openSeen qq loose (importedModules pw.main.body) Xt true s, l, Nat.ble tk0 s.toks))
noncomputable def rhs (w : World) := some ((expectedOf qq, bltViewBooted, true, true, pinGoodD (drecsOf qq), plainGoodE qq (looseW qq loose), plainGoodD qq loose, wideGood qq, clsGoodW qq loose), [some (o2 w.params), some (o3 w.params), some (o44 w.params), some (o48 w.params), some (o49 w.params), some (o54 w.params), some (o55 w.params), some (o58 w.params), some (o62 w.params), some (o63 w.params), some (o64 w.params), some (o66 w.params), some (o70 w.params), some (o71 w.params), some (o73 w.params), some (o77 w.params), some (o78 w.params), some (o80 w.params), some (o84 w.params), some (o85 w.params), some (o87 w.params), some (o88 w.params), some (o96 w.params), some (o98 w.params), some (o99 w.params), some (o105 w.params), some (o109 w.params), some (o110 w.params), some (o112 w.params), some (o116 w.params), some (o117 w.params), some (o119 w.params), some (o121 w.params), some (o123 w.params), some (o127 w.params), some (o128 w.params), some (o130 w.params), some (o134 w.params), some (o135 w.params), some (o137 w.params), some (o141 w.params), some (o142 w.params), some (o144 w.params), some (o148 w.params), some (o149 w.params), some (o162 w.params), some (o163 w.params), some (o164 w.params), some (o168 w.params), some (o172 w.params), some (o173 w.params), some (o178 w.params), some (o179 w.params), some (o181 w.params), some (o183 w.params), some (o187 w.params), some (o188 w.params), some (o190 w.params), some (o194 w.params), some (o195 w.params), some (o197 w.params), some (o201 w.params), some (o202 w.params), some (o204 w.params), some (o208 w.params), some (o209 w.params), some (o211 w.params), some (o215 w.params), some (o216 w.params), some (o217 w.params), some (o219 w.params), some (o223 w.params), some (o224 w.params), some (o226 w.params), some (o230 w.params), some (o231 w.params), some (o233 w.params), some (o237 w.params), some (o238 w.params), some (o239 w.params), some (o241 w.params), some (o245 w.params), some (o246 w.params), some (o248 w.params), some (o252 w.params), some (o253 w.params), some (o255 w.params), some (o259 w.params), some (o260 w.params), some (o262 w.params), some (o266 w.params), some (o267 w.params), some (o269 w.params), some (o270 w.params), some (o275 w.params), some (o277 w.params), some (o279 w.params), some (o280 w.params), some (o281 w.params), some (o283 w.params), some (o285 w.params), some (o286 w.params), some (o287 w.params), some (o289 w.params), some (o293 w.params), some (o294 w.params), some (o296 w.params), some (o300 w.params), some (o301 w.params), some (o303 w.params), some (o305 w.params), some (o306 w.params)], true)
def two {α : Type} (_ _ : α) : Bool := true
theorem mk : two lhs rhs = true := by k_qdec
theorem chk0 : ∀ w, PySem.W.Fast.tw14720033549999066060 w = PySem.W.Fast.tw1938990355778164159 w := fun w => by kernel_rfl
theorem rhs_eq (w : World) : rhs w = some (openGood qq loose, ((KK w.params).map fun p => some p.2, true)) := by kernel_rfl
theorem chk (w : World) : lhs w = rhs w := by
 rw [PySem.W.Fast.te14720033549999066060, PySem.W.Fast.te1938990355778164159]
 exact chk0 w
end Mine
end
section
open PySem PySem.W PyProof.Rows
namespace Mine
theorem left : LeftO pw qq loose Xt (fun s => (aa.map s.heap.get?, Nat.ble tk0 s.toks)) (fun w => ((KK w.params).map fun p => some p.2, true)) 4714 :=
 left_forcedT (Ya := fun w => (KK w.params).map fun p => some p.2) fun w => (chk w).trans (rhs_eq w)
end Mine
end
open PySem PySem.W PySem.W.X PySem.Calls PyProof.Rows
namespace Mine
section
def FrObj (oL : Obj) (l : List (Str × Value)) : Prop :=
 ∃ (es : Array DictEntry) (ep : Nat) (m : Str → Option Value), oL.data = .dict es ep ∧ StrKeys es ∧ (∀ name, nsFind es name = m name) ∧ (∀ p ∈ l, m p.1 = some p.2) ∧ (l.map (·.1)).Nodup
def Fm (h : Heap) (L : Addr) (l : List (Str × Value)) : Prop := ∃ oL, h.get? L = some oL ∧ FrObj oL l
theorem Fm.lt {h : Heap} {L : Addr} {l : List (Str × Value)} (F : Fm h L l) : L < h.objs.size := let ⟨_, e, _⟩ := F; Heap.lt_size e
theorem Fm.ns {h : Heap} {L : Addr} {l : List (Str × Value)} (F : Fm h L l) : ∃ m, h.Ns L m ∧ (∀ p ∈ l, m p.1 = some p.2) ∧ (l.map (·.1)).Nodup :=
 let ⟨oL, e, es, ep, m, a, b, c, d, n⟩ := F; ⟨m, ⟨oL, es, ep, e, a, b, c⟩, d, n⟩
theorem Fm.of_ns {h : Heap} {L : Addr} {m : Str → Option Value} {l : List (Str × Value)} (hn : h.Ns L m) (hl : ∀ p ∈ l, m p.1 = some p.2) (nd : (l.map (·.1)).Nodup) : Fm h L l :=
 let ⟨o, es, ep, e, a, b, c⟩ := hn; ⟨o, e, es, ep, m, a, b, c, hl, nd⟩
inductive Setv : List (Str × Value) → Str → Value → List (Str × Value) → Prop
 | here {x : Str} {u v : Value} {l : List (Str × Value)} : Setv ((x, u) :: l) x v ((x, v) :: l)
 | there {p : Str × Value} {x : Str} {v : Value} {l l' : List (Str × Value)} : Setv l x v l' → Setv (p :: l) x v (p :: l')
theorem Setv.keys {l l' : List (Str × Value)} {x : Str} {v : Value} (h : Setv l x v l') : l'.map (·.1) = l.map (·.1) ∧ x ∈ l.map (·.1) := by
 induction h with
 | here => exact ⟨rfl, List.mem_cons_self⟩
 | there _ ih => exact ⟨by rw [List.map_cons, List.map_cons, ih.1], List.mem_cons_of_mem _ ih.2⟩
theorem Setv.ok {l l' : List (Str × Value)} {x : Str} {v : Value} {m : Str → Option Value} (h : Setv l x v l') (hl : ∀ p ∈ l, m p.1 = some p.2) (nd : (l.map (·.1)).Nodup) :
  ∀ p ∈ l', (if p.1 = x then some v else m p.1) = some p.2 := by
 induction h with
 | here =>
  intro p hp
  rcases List.mem_cons.mp hp with rfl | hp
  ·rw [if_pos rfl]
  ·have n := (List.nodup_cons.mp nd).1
   rw [if_neg fun e => n (by rw [← show p.1 = _ from e]; exact List.mem_map.mpr ⟨p, hp, rfl⟩)]
   exact hl p (.tail _ hp)
 | there h ih =>
  intro p hp
  have n := List.nodup_cons.mp nd
  rcases List.mem_cons.mp hp with rfl | hp
  ·rw [if_neg fun e => n.1 (by show p.1 ∈ _; rw [show p.1 = _ from e]; exact h.keys.2)]
   exact hl p (.head _)
  ·exact ih (fun p hp => hl p (.tail _ hp)) n.2 p hp
def Stored (l : List (Str × Value)) (x : Str) (v : Value) (l' : List (Str × Value)) : Prop := Setv l x v l' ∨ ((l.map (·.1)).contains x = false ∧ l' = (x, v) :: l)
theorem Stored.old {l l' : List (Str × Value)} {x : Str} {v : Value} (h : Setv l x v l') : Stored l x v l' := .inl h
theorem Stored.new {l : List (Str × Value)} {x : Str} {v : Value} (h : (l.map (·.1)).contains x = false) : Stored l x v ((x, v) :: l) := .inr ⟨h, rfl⟩
theorem Stored.fm {h' : Heap} {L : Addr} {l l' : List (Str × Value)} {x : Str} {v : Value} {m : Str → Option Value} (st : Stored l x v l') (hn : h'.Ns L (fun y => if y = x then some v else m y))
  (hl : ∀ p ∈ l, m p.1 = some p.2) (nd : (l.map (·.1)).Nodup) : Fm h' L l' := by
 rcases st with s | ⟨c, rfl⟩
 ·exact .of_ns hn (s.ok hl nd) (by rw [s.keys.1]; exact nd)
 ·have hx : x ∉ l.map (·.1) := fun q => by rw [List.contains_iff_mem.mpr q] at c; cases c
  refine .of_ns hn (fun p hp => ?_) (List.nodup_cons.mpr ⟨hx, nd⟩)
  rcases List.mem_cons.mp hp with rfl | hp
  ·exact if_pos rfl
  ·have : p.1 ≠ x := fun e => hx (e ▸ List.mem_map.mpr ⟨p, hp, rfl⟩)
   rw [if_neg this]
   exact hl p hp
structure St (hb : Heap) (tabs : List Addr) (L : Addr) (l : List (Str × Value)) (T : List (Addr × Obj)) (h : Heap) : Prop where
 fm : Fm h L l
 lnew : hb.objs.size ≤ L
 keep : ∀ b o, hb.get? b = some o → b ∉ tabs → h.get? b = some o
 tab : ∀ t ∈ tabs, ∃ ps more, hb.get? t = some (tableObj ps) ∧ h.get? t = some (tableObj (ps ++ more)) ∧ TriplesOk (ps ++ more).toList
 obj : ∀ p ∈ T, h.get? p.1 = some p.2
 new : ∀ p ∈ T, hb.objs.size ≤ p.1
 nd : (L :: T.map (·.1)).Nodup
section
variable {hb h h' : Heap} {tabs : List Addr} {L : Addr} {l l' : List (Str × Value)} {T T' : List (Addr × Obj)}
theorem lt_of_get {h : Heap} {a : Addr} {o : Obj} (e : h.get? a = some o) : a < h.objs.size := Heap.lt_size e
theorem St.old (S : St hb tabs L l T h) {b : Addr} {o : Obj} (e : hb.get? b = some o) (hn : b ∉ tabs) : h.get? b = some o := S.keep b o e hn
theorem St.oldNeL (S : St hb tabs L l T h) {b : Addr} {o : Obj} (e : hb.get? b = some o) : b ≠ L := Nat.ne_of_lt (Nat.lt_of_lt_of_le (lt_of_get e) S.lnew)
theorem St.tabLt (S : St hb tabs L l T h) {t : Addr} (ht : t ∈ tabs) : t < hb.objs.size := by
 obtain ⟨ps, more, e, _⟩ := S.tab t ht; exact lt_of_get e
theorem St.sub (S : St hb tabs L l T h) (hs : T'.Sublist T) : St hb tabs L l T' h :=
 ⟨S.fm, S.lnew, S.keep, S.tab, fun p hp => S.obj p (hs.subset hp), fun p hp => S.new p (hs.subset hp), (S.nd.sublist (.cons_cons L (hs.map _)))⟩
theorem St.get (S : St hb tabs L l T h) (i : Nat) {a : Addr} {o : Obj} (hi : T[i]? = some (a, o)) : h.get? a = some o := S.obj (a, o) (List.mem_of_getElem? hi)
theorem St.lt (S : St hb tabs L l T h) {p : Addr × Obj} (hp : p ∈ T) : p.1 < h.objs.size := lt_of_get (S.obj p hp)
theorem St.push (S : St hb tabs L l T h) (o : Obj) (hf : o.isFreed = false := by rfl) : St hb tabs L l ((h.objs.size, o) :: T) (h.push o) := by
 have hsz : hb.objs.size ≤ h.objs.size := Nat.le_of_lt (Nat.lt_of_le_of_lt S.lnew S.fm.lt)
 obtain ⟨oL, hL, r⟩ := S.fm
 refine ⟨⟨oL, Heap.get?_push_of_some _ hL, r⟩, S.lnew, fun b o' e hn => Heap.get?_push_of_some _ (S.keep b o' e hn), fun t ht => ?_, fun p hp => ?_, fun p hp => ?_, ?_⟩
 ·obtain ⟨ps, more, e1, e2, e3⟩ := S.tab t ht
  exact ⟨ps, more, e1, Heap.get?_push_of_some _ e2, e3⟩
 ·rcases List.mem_cons.mp hp with rfl | hp
  ·exact Heap.get?_push_size _ hf
  ·exact Heap.get?_push_of_some _ (S.obj p hp)
 ·rcases List.mem_cons.mp hp with rfl | hp
  ·exact hsz
  ·exact S.new p hp
 ·have hL' := Heap.lt_size hL
  have nd := List.nodup_cons.mp S.nd
  refine List.nodup_cons.mpr ⟨fun hm => ?_, List.nodup_cons.mpr ⟨fun hm => ?_, nd.2⟩⟩
  ·rcases List.mem_cons.mp hm with q | q
   ·exact absurd hL' (Nat.not_lt.mpr (Nat.le_of_eq q.symm))
   ·exact nd.1 q
  ·obtain ⟨p, hp, e⟩ := List.mem_map.mp hm
   exact absurd (S.lt hp) (Nat.not_lt.mpr (Nat.le_of_eq e.symm))
theorem St.setNs (S : St hb tabs L l T h) (hn : Fm h' L l') (hs : Heap.SameBut L h h') : St hb tabs L l' T h' := by
 have nd := List.nodup_cons.mp S.nd
 refine ⟨hn, S.lnew, fun b o e hn' => (hs.2 b (S.oldNeL e)).trans (S.keep b o e hn'), fun t ht => ?_, fun p hp => ?_, S.new, S.nd⟩
 ·obtain ⟨ps, more, e1, e2, e3⟩ := S.tab t ht
  exact ⟨ps, more, e1, (hs.2 t (S.oldNeL e1)).trans e2, e3⟩
 ·exact (hs.2 p.1 (fun q => nd.1 (q ▸ List.mem_map.mpr ⟨p, hp, rfl⟩))).trans (S.obj p hp)
theorem St.enter (S : St hb tabs L l T h) {L' : Addr} (hL : L' = h.objs.size) (hn : Fm h' L' l') (hk : ∀ b o, h.get? b = some o → h'.get? b = some o) :
  ∃ oL, FrObj oL l ∧ St hb tabs L' l' ((L, oL) :: T) h' := by
 obtain ⟨oL, e, r⟩ := S.fm
 have hLs := Heap.lt_size e
 refine ⟨oL, r, hn, ?_, fun b o e hn' => hk b o (S.keep b o e hn'), fun t ht => ?_, fun p hp => ?_, fun p hp => ?_, ?_⟩
 ·rw [hL]; exact Nat.le_of_lt (Nat.lt_of_le_of_lt S.lnew hLs)
 ·obtain ⟨ps, more, e1, e2, e3⟩ := S.tab t ht
  exact ⟨ps, more, e1, hk _ _ e2, e3⟩
 ·rcases List.mem_cons.mp hp with rfl | hp
  ·exact hk _ _ e
  ·exact hk _ _ (S.obj p hp)
 ·rcases List.mem_cons.mp hp with rfl | hp
  ·exact S.lnew
  ·exact S.new p hp
 ·refine List.nodup_cons.mpr ⟨fun hm => ?_, S.nd⟩
  rcases List.mem_cons.mp hm with q | q
  ·exact absurd hLs (Nat.not_lt.mpr (Nat.le_of_eq (hL.symm.trans q)))
  ·obtain ⟨p, hp, e⟩ := List.mem_map.mp q
   exact absurd (S.lt hp) (Nat.not_lt.mpr (Nat.le_of_eq (hL.symm.trans e.symm)))
theorem St.leave {L' : Addr} {oL : Obj} (S : St hb tabs L' l' T' h') (i : Nat) (hi : T'[i]? = some (L, oL)) (r : FrObj oL l) : St hb tabs L l (T'.eraseIdx i) h' := by
 have hm := List.mem_of_getElem? hi
 have hsub : (T'.eraseIdx i).Sublist T' := List.eraseIdx_sublist T' i
 refine ⟨⟨oL, S.get i hi, r⟩, S.new _ hm, S.keep, S.tab, fun p hp => S.obj p (hsub.subset hp), fun p hp => S.new p (hsub.subset hp), ?_⟩
 have nd := (List.nodup_cons.mp S.nd).2
 refine List.nodup_cons.mpr ⟨fun hm' => ?_, nd.sublist (hsub.map _)⟩
 obtain ⟨p, hp, e⟩ := List.mem_map.mp hm'
 obtain ⟨j, hj, hji⟩ := List.mem_eraseIdx_iff_getElem?.mp hp
 have h1 : (T'.map (·.1))[i]? = some L := by rw [List.getElem?_map, hi]; rfl
 have h2 : (T'.map (·.1))[j]? = some L := by rw [List.getElem?_map, hji]; exact congrArg some e
 exact hj ((List.getElem?_inj (List.getElem?_eq_some_iff.mp h2).1 nd).mp (h2.trans h1.symm))
end
end
section
structure Gd (K : Frag) (tabs : List Addr) (hb : Heap) : Prop where
 k : K.In hb
 mg : ∃ mg, hb.Ns mainGlobals mg
 bl : ∃ mb, hb.Ns builtinsNs mb ∧ ∀ x : Str, x ≠ "__name__" → mb x = bootBuiltins x
 lim : hb.NoLimit
 nb : NoneBooked hb
 n1 : mainGlobals ∉ tabs
 n2 : builtinsNs ∉ tabs
 n3 : cStatics ∉ tabs
 nt : (K.all fun p => !tabs.contains p.1) = true
def nodupB : List Str → Bool
 | [] => true
 | a :: l => !l.contains a && nodupB l
theorem nodup_of : ∀ {l : List Str}, nodupB l = true → l.Nodup
 | [], _ => List.nodup_nil
 | a :: l, h => by
  unfold nodupB at h
  obtain ⟨h1, h2⟩ := Bool.and_eq_true_iff.mp h
  refine List.nodup_cons.mpr ⟨fun q => ?_, nodup_of h2⟩
  rw [List.contains_iff_mem.mpr q] at h1
  cases h1
theorem lookup_rev : ∀ (l : List (Str × Value)), (l.map (·.1)).Nodup → ∀ {p : Str × Value}, p ∈ l → l.reverse.lookup p.1 = some p.2
 | [], _, _, hp => by cases hp
 | q :: r, hn, p, hp => by
  have n := List.nodup_cons.mp hn
  rw [List.reverse_cons, List.lookup_append]
  rcases List.mem_cons.mp hp with rfl | hp
  ·have : r.reverse.lookup p.1 = none := by
    rw [List.lookup_eq_none_iff]
    intro z hz
    have hz := List.mem_reverse.mp hz
    have : z.1 ≠ p.1 := fun e => n.1 (by show p.1 ∈ _; rw [← e]; exact List.mem_map.mpr ⟨z, hz, rfl⟩)
    simpa using this.symm
   rw [this]
   simp [List.lookup]
  ·rw [lookup_rev r n.2 hp]; rfl
section
variable {prog : Program} {w : World} {A : Around} {E : Value → Shared → Prop} {s : Shared} {K : Frag} {hb : Heap} {tabs : List Addr} {L : Addr} {l l' : List (Str × Value)} {T : List (Addr × Obj)} {fd : FuncData} {fa : Addr} {x : Str} {v : Value} {pos : Pos}
theorem St.oldNs (S : St hb tabs L l T s.heap) {a : Addr} {m : Str → Option Value} (hn : hb.Ns a m) (ha : a ∉ tabs) : s.heap.Ns a m :=
 let ⟨o, es, ep, e, r⟩ := hn; ⟨o, es, ep, S.old e ha, r⟩
theorem St.nb (S : St hb tabs L l T s.heap) (G : Gd K tabs hb) : NoneBooked s.heap := let ⟨mc, a, b⟩ := G.nb; ⟨mc, S.oldNs a G.n3, b⟩
theorem St.lim (S : St hb tabs L l T s.heap) (G : Gd K tabs hb) : s.heap.NoLimit := let ⟨mc, a, b⟩ := G.lim; ⟨mc, S.oldNs a G.n3, b⟩
theorem r_local {Q : Value → Shared → Prop} (S : St hb tabs L l T s.heap) (hv : (x, v) ∈ l) (h : Q v s)
  (hk : fd.scope.kind = .function := by kernel_rfl) (hl : (callEnv fd L fa).kindOf x = some .local := by kernel_rfl) (hd : (x == ("__debug__" : Str)) = false := by kernel_rfl) :
  wpAny (model prog w) A (eval (.Name x pos) (callEnv fd L fa)) Q E s := by
 obtain ⟨m, a, b, _⟩ := S.fm.ns
 exact wpAny_Name (wpAny_loadName_local hk hl a (b _ hv) h) hd
theorem r_load {Q : Value → Shared → Prop} (S : St hb tabs L l T s.heap) (hv : (x, v) ∈ l) (h : Q v s)
  (hk : fd.scope.kind = .function := by kernel_rfl) (hl : (callEnv fd L fa).kindOf x = some .local := by kernel_rfl) :
  wpAny (model prog w) A (loadName (callEnv fd L fa) x) Q E s := by
 obtain ⟨m, a, b, _⟩ := S.fm.ns
 exact wpAny_loadName_local hk hl a (b _ hv) h
theorem r_store {Q : Unit → Shared → Prop} (S : St hb tabs L l T s.heap) (st : Stored l x v l') (h : ∀ h', St hb tabs L l' T h' → Q () { s with heap := h', toks := s.toks + 1 })
  (hk : fd.scope.kind = .function := by kernel_rfl) (hl : (callEnv fd L fa).kindOf x = some .local := by kernel_rfl) :
  wpAny (model prog w) A (storeName (callEnv fd L fa) x v) Q E s := by
 obtain ⟨m, a, b, c⟩ := S.fm.ns
 exact wpAny_storeName_local hl a (fun h' hn hs => h h' (S.setNs (st.fm hn b c) hs))
  (by show (fd.scope.kind == .class || (fd.scope.kind == .module && L != fd.globals)) = false; rw [hk]; rfl)
theorem r_global {Q : Value → Shared → Prop} (G : Gd K tabs hb) (S : St hb tabs L l T s.heap) (e : nsIn K mainGlobals x = some (some v)) (h : Q v s)
  (hk : fd.scope.kind = .function := by kernel_rfl) (hl : (callEnv fd L fa).kindOf x = some .globalImplicit := by kernel_rfl) (hg : fd.globals = mainGlobals := by kernel_rfl)
  (hd : (x == ("__debug__" : Str)) = false := by kernel_rfl) : wpAny (model prog w) A (eval (.Name x pos) (callEnv fd L fa)) Q E s := by
 obtain ⟨mg, a⟩ := G.mg
 refine Name_function_global hk hl (loadGlobal_global (mg := mg) ?_ (mg_of G.k a e) h) hd
 show s.heap.Ns fd.globals mg
 rw [hg]; exact S.oldNs a G.n1
theorem r_builtin {Q : Value → Shared → Prop} (G : Gd K tabs hb) (S : St hb tabs L l T s.heap) (hv : bootBuiltins x = some v) (h : Q v s)
  (e : nsIn K mainGlobals x = some none := by kernel_rfl)
  (hk : fd.scope.kind = .function := by kernel_rfl) (hl : (callEnv fd L fa).kindOf x = some .globalImplicit := by kernel_rfl) (hg : fd.globals = mainGlobals := by kernel_rfl)
  (hbi : fd.builtins = builtinsNs := by kernel_rfl) (hn : (x == ("__name__" : Str)) = false := by kernel_rfl)
  (hd : (x == ("__debug__" : Str)) = false := by kernel_rfl) : wpAny (model prog w) A (eval (.Name x pos) (callEnv fd L fa)) Q E s := by
 obtain ⟨mg, a⟩ := G.mg
 obtain ⟨mb, b, c⟩ := G.bl
 refine Name_function_global hk hl (loadGlobal_builtin (mg := mg) (mb := mb) ?_ (mg_none_of G.k a e) ?_ ((c x (beq_eq_false_iff_ne.mp hn)).trans hv) h) hd
 ·show s.heap.Ns fd.globals mg
  rw [hg]; exact S.oldNs a G.n1
 ·show s.heap.Ns fd.builtins mb
  rw [hbi]; exact S.oldNs b G.n2
theorem c_def {R : Result → Shared → Prop} {oc : Value} {od : Option Addr} {osl : Array (Option Value)} {args : Args} {binds : List (Str × Value)} {body : List Stmt}
  (G : Gd K tabs hb) (S : St hb tabs L l T s.heap) (ho : K.lookup fa = some ⟨oc, od, .func fd, osl⟩) (hroom : A.depth < recursionLimit)
  (hbind : BindsTo s fd args binds)
  (h : ∀ L' h₁ oL, FrObj oL l → St hb tabs L' binds ((L, oL) :: T) h₁ →
   wpAny (model prog w) (A.deeper (callEnv fd L' fa)) (execs body (callEnv fd L' fa)) (fun f s' => R (.ok (.ret (match f with | .ret v => v | _ => .none))) s')
    (fun e s' => wpAny (model prog w) (A.deeper (callEnv fd L' fa)) (leaving (callEnv fd L' fa) e) (fun _ s'' => R (.error e) s'') (fun e' s'' => R (.error e') s'') s')
    { s with heap := h₁, toks := s.toks + binds.length })
  (hft : fa ∉ tabs := by decide)
  (hcd : ∀ hh : Heap, K.In hh → hh.CodeRec fd.code fd.qualname := by intro hh kk; exact codeRec_of kk (by kernel_rfl))
  (hct : (match fd.code with | .ref c => tabs.contains c | _ => false) = false := by kernel_rfl)
  (hbody : fd.body = .stmts body := by kernel_rfl)
  (hcell : (fd.scope.names.all fun x => x.2 != .cell) = true := by kernel_rfl) (hloc : (binds.all fun x => fd.scope.names.lookup x.1 == some .local) = true := by kernel_rfl)
  (hnd' : nodupB (binds.map (·.1)) = true := by kernel_rfl)
  (hco : fd.scope.isCoroutine = false := by kernel_rfl) (hgen : fd.scope.isGenerator = false := by kernel_rfl) (hk : fd.scope.kind = .function := by kernel_rfl) :
  codeAny (model prog w) A (.call (.ref fa) args) R s := by
 have hnd := nodup_of hnd'
 have hcr : s.heap.CodeRec fd.code fd.qualname := by
  obtain ⟨c, o, vs, t, e1, e2, e3, e4⟩ := hcd hb G.k
  refine ⟨c, o, vs, t, e1, S.old e2 (fun q => ?_), e3, e4⟩
  rw [e1] at hct
  have hct' : tabs.contains c = false := hct
  rw [List.contains_iff_mem.mpr q] at hct'
  cases hct'
 refine codeAny_call_def (fd := fd) (body := body) (binds := binds) hroom (S.old (G.k _ _ ho) hft) rfl (S.lim G) hcr hbody hbind
  (fun y hy => by have := List.all_eq_true.mp hcell y hy; simpa using this) (fun y hy => by have := List.all_eq_true.mp hloc y hy; simpa using this) (fun h₁ hns hk₁ => ?_) hco hgen hk
 have hfm : Fm h₁ s.heap.objs.size binds := Fm.of_ns hns (fun p hp => lookup_rev binds hnd hp) hnd
 obtain ⟨oL, r, S'⟩ := S.enter (L' := s.heap.objs.size) rfl hfm hk₁
 exact h _ h₁ oL r S'
end
end
section
section
variable {prog : Program} {w : World} {A : Around} {E : Value → Shared → Prop} {s : Shared} {env : Env} {x : Str} {v : Value} {pos p' : Pos} {rest body orelse : List Stmt} {value test e o : Expr} {attr : Str} {Q : Flow → Shared → Prop}
theorem q_nil (h : Q .next s) : wpAny (model prog w) A (execs [] env) Q E s := wpAny_execs_nil h
theorem q_assign (h : wpAny (model prog w) A (eval value env) (fun v s₁ => wpAny (model prog w) A (storeName env x v) (fun _ s₂ => wpAny (model prog w) A (execs rest env) Q E s₂) E s₁) E s)
  (hs : swapsWith value (some (.Name x p')) pos.line env = pure false := by rfl) : wpAny (model prog w) A (execs (.Assign [.Name x p'] value pos :: rest) env) Q E s :=
 wpAny_execs_cons (wpAny_Assign_Name h hs)
theorem q_setattr (h : wpAny (model prog w) A (eval value env) (fun v s₁ => wpAny (model prog w) A (eval o env) (fun ov s₂ => wpAny (model prog w) A (setAttr ov attr v) (fun _ s₃ => wpAny (model prog w) A (execs rest env) Q E s₃) E s₂) E s₁) E s)
  (hs : swapsWith value (some (.Attribute o attr p')) pos.line env = pure false := by rfl) : wpAny (model prog w) A (execs (.Assign [.Attribute o attr p'] value pos :: rest) env) Q E s :=
 wpAny_execs_cons (plainObj_wpAny_Assign_Attribute h hs)
theorem q_tuple {elts : List Expr} {k : Nat} {tpos : Pos} (h : wpAny (model prog w) A (eval value env) (fun v s₁ => wpAny (model prog w) A (assign (.Tuple elts k tpos) env v) (fun _ s₂ => wpAny (model prog w) A (execs rest env) Q E s₂) E s₁) E s)
  (hs : swapsWithSole [.Tuple elts k tpos] value pos.line env = pure false := by rfl) (hw : swappedStores [.Tuple elts k tpos] value env = pure none := by rfl) :
  wpAny (model prog w) A (execs (.Assign [.Tuple elts k tpos] value pos :: rest) env) Q E s :=
 wpAny_execs_cons (Assign_Tuple h hs hw)
theorem q_two {t₁ t₂ : Expr} (h : wpAny (model prog w) A (eval value env) (fun v s₁ => wpAny (model prog w) A (assign t₁ env v) (fun _ s₂ => wpAny (model prog w) A (assign t₂ env v) (fun _ s₃ => wpAny (model prog w) A (execs rest env) Q E s₃) E s₂) E s₁) E s)
  (he : (assignEach [t₁, t₂] env).map (·.2) = [assign t₁ env, assign t₂ env] := by rfl) (hw : swappedStores [t₁, t₂] value env = pure none := by rfl) :
  wpAny (model prog w) A (execs (.Assign [t₁, t₂] value pos :: rest) env) Q E s :=
 wpAny_execs_cons (wpAny_Assign_two h he hw)
theorem q_three {t₁ t₂ t₃ : Expr} (h : wpAny (model prog w) A (eval value env) (fun v s₁ => wpAny (model prog w) A (assign t₁ env v) (fun _ s₂ => wpAny (model prog w) A (assign t₂ env v) (fun _ s₃ => wpAny (model prog w) A (assign t₃ env v) (fun _ s₄ => wpAny (model prog w) A (execs rest env) Q E s₄) E s₃) E s₂) E s₁) E s)
  (he : (assignEach [t₁, t₂, t₃] env).map (·.2) = [assign t₁ env, assign t₂ env, assign t₃ env] := by rfl) (hw : swappedStores [t₁, t₂, t₃] value env = pure none := by rfl) :
  wpAny (model prog w) A (execs (.Assign [t₁, t₂, t₃] value pos :: rest) env) Q E s :=
 wpAny_execs_cons (wpAny_Assign_three h he hw)
theorem q_aug {op : Operator} (h : wpAny (model prog w) A (loadName env x) (fun old s₁ => wpAny (model prog w) A (eval value env) (fun v s₂ => wpAny (model prog w) A (inplaceOp op old v)
   (fun r s₃ => wpAny (model prog w) A (storeName env x r) (fun _ s₄ => wpAny (model prog w) A (execs rest env) Q E s₄) E s₃) E s₂) E s₁) E s) :
  wpAny (model prog w) A (execs (.AugAssign (.Name x p') op value pos :: rest) env) Q E s :=
 wpAny_execs_cons (wpAny_AugAssign_Name h)
theorem q_expr (h : wpAny (model prog w) A (eval e env) (fun v s' => match v with | .ref _ => False | _ => wpAny (model prog w) A (execs rest env) Q E s') E s)
  (hi : interactive env = false := by rfl) (hs : swapsWith e none pos.line env = pure false := by rfl) : wpAny (model prog w) A (execs (.Expr e pos :: rest) env) Q E s :=
 wpAny_execs_cons (wpAny_Expr (wpAny_mono h (fun v s' h' => by cases v <;> exact h') fun _ _ x => x) hi hs)
theorem q_doc {c : Str} {k : Nat} (h : wpAny (model prog w) A (execs rest env) Q E { s with toks := s.toks + 1 }) (hi : interactive env = false := by rfl) : wpAny (model prog w) A (execs (.Expr (.Constant (.str c) k p') pos :: rest) env) Q E s :=
 q_expr (Constant_str h) hi
theorem q_if (h : wpAny (model prog w) A (isTrue test env (eval test env)) (fun b s₂ =>
   (b = true → wpAny (model prog w) A (execs body env) (fun f s' => match f with | .next => wpAny (model prog w) A (execs rest env) Q E s' | f => Q f s') E s₂) ∧
   (b = false → wpAny (model prog w) A (execs orelse env) (fun f s' => match f with | .next => wpAny (model prog w) A (execs rest env) Q E s' | f => Q f s') E s₂)) E s) :
  wpAny (model prog w) A (execs (.If test body orelse pos :: rest) env) Q E s :=
 wpAny_execs_cons (wpAny_If (wpAny_mono h (fun b s' h' => by cases b <;> simp at h' ⊢ <;> exact h') fun _ _ x => x))
theorem q_ret (h : wpAny (model prog w) A (eval e env) (fun v => Q (.ret v)) E s) : wpAny (model prog w) A (execs (.Return (some e) pos :: rest) env) Q E s :=
 wpAny_execs_cons (wpAny_Return_some h)
theorem q_ret0 (h : Q (.ret .none) s) : wpAny (model prog w) A (execs (.Return none pos :: rest) env) Q E s := wpAny_execs_cons (wpAny_Return_none h)
theorem q_break (h : Q .brk s) : wpAny (model prog w) A (execs (.Break pos :: rest) env) Q E s := wpAny_execs_cons (fun _ _ _ => h)
theorem q_continue (h : Q .cont s) : wpAny (model prog w) A (execs (.Continue pos :: rest) env) Q E s := wpAny_execs_cons (fun _ _ _ => h)
end
end
section
section
variable {hb h h' : Heap} {tabs : List Addr} {L : Addr} {l l' : List (Str × Value)} {T T' : List (Addr × Obj)}
theorem hideAll_not : ∀ (l : List Addr) {h : Heap} {b : Addr} {o : Obj}, (hideAll h l).get? b = some o → b ∉ l := fun l h b o e hm => by
 rw [hideAll_none l hm] at e; cases e
theorem St.toK (S : St hb tabs L l T h) : ∃ (m : Str → Option Value) (TL : List (Addr × Obj)), Fr (hideAll hb tabs) L h m ∧ News (hideAll hb tabs) L h (TL ++ T) ∧ (∀ p ∈ l, m p.1 = some p.2) ∧ (l.map (·.1)).Nodup ∧
  (∀ p ∈ TL, p.1 < hb.objs.size) ∧
  ∀ (h' : Heap) (m' : Str → Option Value) (T' : List (Addr × Obj)) (l' : List (Str × Value)), Fr (hideAll hb tabs) L h' m' → News (hideAll hb tabs) L h' (TL ++ T') → (∀ p ∈ l', m' p.1 = some p.2) → (l'.map (·.1)).Nodup →
   (∀ p ∈ T', hb.objs.size ≤ p.1) → (L :: T'.map (·.1)).Nodup → St hb tabs L l' T' h' := by
 obtain ⟨m, hn, hl, nd⟩ := S.fm.ns
 have hTL : ∃ TL : List (Addr × Obj), TL.map (·.1) = tabs ∧ ∀ p ∈ TL, ∃ ps more, hb.get? p.1 = some (tableObj ps) ∧ h.get? p.1 = some p.2 ∧ p.2 = tableObj (ps ++ more) ∧ TriplesOk (ps ++ more).toList := by
  have : ∀ ts : List Addr, (∀ t ∈ ts, t ∈ tabs) → ∃ TL : List (Addr × Obj), TL.map (·.1) = ts ∧ ∀ p ∈ TL, ∃ ps more, hb.get? p.1 = some (tableObj ps) ∧ h.get? p.1 = some p.2 ∧ p.2 = tableObj (ps ++ more) ∧ TriplesOk (ps ++ more).toList := by
   intro ts
   induction ts with
   | nil => intro _; exact ⟨[], rfl, fun p hp => by cases hp⟩
   | cons t ts ih =>
    intro hs
    obtain ⟨TL, e, k⟩ := ih fun t ht => hs t (.tail _ ht)
    obtain ⟨ps, more, e1, e2, e4⟩ := S.tab t (hs t (.head _))
    exact ⟨(t, tableObj (ps ++ more)) :: TL, by rw [List.map_cons, e], fun p hp => by
     rcases List.mem_cons.mp hp with rfl | hp
     ·exact ⟨ps, more, e1, e2, rfl, e4⟩
     ·exact k p hp⟩
  exact this tabs fun _ h => h
 obtain ⟨TL, eT, kT⟩ := hTL
 have hlt : ∀ p ∈ TL, p.1 < hb.objs.size := fun p hp => by obtain ⟨ps, more, e1, _⟩ := kT p hp; exact Heap.lt_size e1
 refine ⟨m, TL, ⟨hn, fun b o e => S.keep b o (of_hideAll _ e) (hideAll_not _ e), by rw [hideAll_size]; exact S.lnew⟩, fun p hp => ?_, hl, nd, hlt, fun h' m' T' l' F N hl' nd' hT' ndT => ?_⟩
 ·rcases List.mem_append.mp hp with hp | hp
  ·obtain ⟨ps, more, e1, e2, e3, e4⟩ := kT p hp
   refine ⟨e2, S.oldNeL e1, ?_⟩
   exact hideAll_none _ (by rw [← eT]; exact List.mem_map.mpr ⟨p, hp, rfl⟩)
  ·refine ⟨S.obj p hp, fun q => (List.nodup_cons.mp S.nd).1 (q ▸ List.mem_map.mpr ⟨p, hp, rfl⟩), ?_⟩
   cases q : (hideAll hb tabs).get? p.1 with
   | none => rfl
   | some o => exact absurd (Heap.lt_size (of_hideAll _ q)) (Nat.not_lt.mpr (S.new p hp))
 ·refine ⟨Fm.of_ns F.ns hl' nd', S.lnew, fun b o e hn => F.keep b o (hideAll_get _ e hn), fun t ht => ?_, fun p hp => (N p (List.mem_append_right _ hp)).1, hT', ndT⟩
  rw [← eT] at ht
  obtain ⟨p, hp, rfl⟩ := List.mem_map.mp ht
  obtain ⟨ps, more, e1, e2, e3, e4⟩ := kT p hp
  exact ⟨ps, more, e1, by rw [(N p (List.mem_append_left _ hp)).1, e3], e4⟩
end
section
variable {prog : Program} {w : World} {A : Around} {E : Value → Shared → Prop} {s : Shared} {K : Frag} {hb : Heap} {tabs : List Addr} {L : Addr} {l l' : List (Str × Value)} {T : List (Addr × Obj)} {fd : FuncData} {fa : Addr} {x : Addr} {C dx : Addr} {v : Value} {name : Str} {fl fl' : List (Str × Value)} {od : Obj}
theorem St.kin (S : St hb tabs L l T s.heap) (G : Gd K tabs hb) : K.In s.heap := fun a o e => by
 have hnt := G.nt
 refine S.old (G.k a o e) fun q => ?_
 have hm : (a, o) ∈ K := by
  clear G hnt
  induction K with
  | nil => cases e
  | cons p r ih =>
   obtain ⟨b, o'⟩ := p
   rw [List.lookup_cons] at e
   split at e
   ·rename_i hq
    cases e
    rw [beq_iff_eq.mp hq]; exact .head _
   ·exact .tail _ (ih e)
 have := List.all_eq_true.mp hnt _ hm
 rw [List.contains_iff_mem.mpr q] at this
 cases this
inductive Ents : List DictEntry → List (Str × Value) → Prop
 | nil : Ents [] []
 | cons {h : Int} {k : Str} {t : Tok} {v : Value} {es : List DictEntry} {fl : List (Str × Value)} : Ents es fl → Ents (⟨h, .str k t, v⟩ :: es) ((k, v) :: fl)
def FlObj (o : Obj) (fl : List (Str × Value)) : Prop := ∃ es n, o = dictOf es n ∧ Ents es fl ∧ nodupB (fl.map (·.1)) = true
theorem Ents.len {es : List DictEntry} (h : Ents es fl) : es.length = fl.length := by
 induction h with
 | nil => rfl
 | cons _ ih => rw [List.length_cons, List.length_cons, ih]
theorem Ents.get {es : List DictEntry} (h : Ents es fl) (nd : (fl.map (·.1)).Nodup) (hm : (name, v) ∈ fl) : getL name es = some (some v) := by
 induction h with
 | nil => cases hm
 | cons h ih =>
  rename_i hh k t u es fl
  have n := List.nodup_cons.mp nd
  unfold getL
  rcases List.mem_cons.mp hm with e | hm
  ·cases e
   rw [List.find?_cons_of_pos (by simp [Value.isStr])]
  ·have hk : ¬ (k == name) = true := fun q => n.1 (by show k ∈ _; rw [beq_iff_eq.mp q]; exact List.mem_map.mpr ⟨_, hm, rfl⟩)
   rw [List.find?_cons_of_neg (by simpa [Value.isStr] using hk)]
   have := ih n.2 hm
   unfold getL at this
   cases q : es.find? (fun e => e.key.isStr name) with
   | some e => rw [q] at this; exact this
   | none => rw [q] at this; dsimp only at this; split at this <;> cases this
inductive Put : List (Str × Value) → Str → Value → List (Str × Value) → Prop
 | nil {x : Str} {v : Value} : Put [] x v [(x, v)]
 | here {x : Str} {u v : Value} {l : List (Str × Value)} : Put ((x, u) :: l) x v ((x, v) :: l)
 | there {y x : Str} {u v : Value} {l l' : List (Str × Value)} : (y == x) = false → Put l x v l' → Put ((y, u) :: l) x v ((y, u) :: l')
theorem Ents.put {es : List DictEntry} {hsh : Int} {t : Tok} (h : Ents es fl) (hp : Put fl name v fl') : Ents (putL name hsh (.str name t) v es) fl' := by
 induction h generalizing fl' with
 | nil =>
  cases hp
  exact .cons .nil
 | cons h ih =>
  rename_i hh k t' u es fl
  unfold putL
  cases hp with
  | here =>
   rw [if_pos (by simp [Value.isStr])]
   exact .cons h
  | there hne hp =>
   rw [if_neg (by simpa [Value.isStr] using hne)]
   exact .cons (ih hp)
theorem Ents.known {es : List DictEntry} (h : Ents es fl) : (getL name es).isSome = true := by
 have : es.any (·.refKey) = false := by
  induction h with
  | nil => rfl
  | cons _ ih => rw [List.any_cons, ih]; rfl
 unfold getL
 cases es.find? (fun e => e.key.isStr name) with
 | some e => rfl
 | none => rw [this]; rfl
theorem put_keys {l l' : List (Str × Value)} {x : Str} {v : Value} (hp : Put l x v l') : ∀ z, z ∈ l'.map (·.1) → z ∈ l.map (·.1) ∨ z = x := by
 induction hp with
 | nil => intro z hz; simp at hz; exact .inr hz
 | here => intro z hz; exact .inl hz
 | there _ _ ih =>
  intro z hz
  rcases List.mem_cons.mp hz with rfl | hz
  ·exact .inl (.head _)
  ·rcases ih z hz with q | q
   ·exact .inl (.tail _ q)
   ·exact .inr q
theorem put_nodup {l l' : List (Str × Value)} {x : Str} {v : Value} (hp : Put l x v l') (nd : nodupB (l.map (·.1)) = true) : nodupB (l'.map (·.1)) = true := by
 induction hp with
 | nil => rfl
 | here => exact nd
 | there hne hp ih =>
  rename_i y x u v l l'
  rw [List.map_cons] at nd ⊢
  unfold nodupB at nd ⊢
  obtain ⟨a, b⟩ := Bool.and_eq_true_iff.mp nd
  rw [ih b, Bool.and_true]
  cases q : (l'.map (·.1)).contains y with
  | false => rfl
  | true =>
   rcases put_keys hp y (List.contains_iff_mem.mp q) with z | z
   ·rw [List.contains_iff_mem.mpr z] at a; cases a
   ·rw [z] at hne; simp at hne
end
end
section
section
variable {M : Model} {A : Around} {E : Value → Shared → Prop} {s : Shared}
theorem evalArgs_any {f : Value} : ∀ {trees : List (Bool × Sem Value)} {Q : Args → Shared → Prop} (_ : trees.any (·.1) = false) (_ : wpAny M A (spliced trees) (fun vs s' => Q ⟨vs, []⟩ s') E s), wpAny M A (evalArgs f true trees []) Q E s
 | [], Q, hp, h => by
  unfold evalArgs
  show wpAny M A (spliced [] >>= _) Q E s
  refine wpAny_bind (wpAny_mono h (fun vs s' h' => ?_) fun _ _ x => x)
  refine wpAny_bind (wpAny_pure ?_)
  refine wpAny_holding ?_
  exact wpAny_bind (wpAny_pure (wpAny_bind (wpAny_pure (wpAny_pure h'))))
 | (true, x) :: rest, Q, hp, h => by cases hp
 | (false, x) :: rest, Q, hp, h => evalArgs_plain h
end
section
variable {prog : Program} {w : World} {A : Around} {E : Value → Shared → Prop} {s : Shared} {K : Frag} {hb : Heap} {tabs : List Addr} {L : Addr} {l l' : List (Str × Value)} {T : List (Addr × Obj)} {fd : FuncData} {fa x C dx : Addr} {v f : Value} {name : Str}
 {fl fl' : List (Str × Value)} {od : Obj} {env : Env} {pos apos : Pos} {first : List Value} {trees : List (Bool × Sem Value)} {Q : Value → Shared → Prop} {sl : Array (Option Value)} {args : List Expr} {o : Expr}
theorem cw_ref (G : Gd K tabs hb) (h : wpAny (model prog w) A (spliced trees) (fun vs s₁ => (∃ L l T, St hb tabs L l T s₁.heap) ∧ codeAny (model prog w) A (.call f ⟨first ++ vs, []⟩) (fun r s' => match r with | .ok (.ret v) => Q v s' | .ok _ => False | .error e => E e s') s₁) E s)
  (hk : keepIn K f = true := by kernel_rfl) (hp : trees.any (·.1) = false := by rfl) : wpAny (model prog w) A (callWith pos f first trees []) Q E s :=
 callWith_of (by rw [hp]; rfl) (keeps_K hk) (evalArgs_any hp (wpAny_mono h (fun vs s₁ z => let ⟨⟨_, _, _, S⟩, z⟩ := z; ⟨S.kin G, wpAny_call z⟩) fun _ _ z => z))
theorem cw_builtin {id : String} (h : wpAny (model prog w) A (spliced trees) (fun vs s₁ => wpAny (model prog w) A (call (.builtin id) (first ++ vs)) Q E s₁) E s)
  (hp : trees.any (·.1) = false := by rfl) : wpAny (model prog w) A (callWith pos (.builtin id) first trees []) Q E s := callWith_builtin hp (evalArgs_any hp h)
theorem cw_type {T : String} (h : wpAny (model prog w) A (spliced trees) (fun vs s₁ => wpAny (model prog w) A (call (.type T) (first ++ vs)) Q E s₁) E s)
  (hp : trees.any (·.1) = false := by rfl) : wpAny (model prog w) A (callWith pos (.type T) first trees []) Q E s := PyProof.Rows.callWith_type hp (evalArgs_any hp h)
theorem m_call {pl : Sem Bool} (h : wpAny (model prog w) A (eval o env) (fun ov s₁ => wpAny (model prog w) A (getMethod ov name pl) (fun fx s₂ => wpAny (model prog w) A (callWith pos fx.1 fx.2 (backTo pos (starEach args env)) []) Q E s₂) E s₁) E s)
  (he : eval (.Call (.Attribute o name apos) args [] pos) env = (do
   let ov ← eval o env
   standAt apos.atName
   let (f, first) ← holding [ov] (getMethod ov name pl)
   callWith pos f first (backTo pos (starEach args env)) (backToKw pos (keywordEach [] env))) := by rfl) :
  wpAny (model prog w) A (eval (.Call (.Attribute o name apos) args [] pos) env) Q E s := methodCall_KW h he
theorem Ents.get_none {es : List DictEntry} (h : Ents es fl) (hn : (fl.map (·.1)).contains name = false) : getL name es = some none := by
 have hany : es.any (·.refKey) = false := by
  clear hn
  induction h with
  | nil => rfl
  | cons _ ih => rw [List.any_cons, ih]; rfl
 have hf : es.find? (fun e => e.key.isStr name) = none := by
  clear hany
  induction h with
  | nil => rfl
  | cons h ih =>
   rename_i hh k t u es fl
   rw [List.map_cons, List.contains_cons, Bool.or_eq_false_iff] at hn
   have hk : (k == name) = false := by
    cases q : k == name with
    | false => rfl
    | true =>
     have := beq_iff_eq.mp q
     have h1 := hn.1
     rw [this] at h1
     simp at h1
   rw [List.find?_cons_of_neg (by simpa [Value.isStr] using hk)]
   exact ih hn.2
 unfold getL
 rw [hf, hany]
 rfl
theorem r_attr {expr : Bool} (G : Gd K tabs hb) (S : St hb tabs L l T s.heap) (hx : (x, (⟨.ref C, some dx, .plain, sl⟩ : Obj)) ∈ T) (hd : (dx, od) ∈ T) (hf : FlObj od fl) (hm : (name, v) ∈ fl) (h : Q v { s with toks := s.toks + 1 })
  (hg : plainGet K C name = true := by kernel_rfl) (hh : hasDictIn K C = true := by kernel_rfl) (ha : findIn K (.ref C) name = some none := by kernel_rfl) (hv : handedIn v = true := by rfl) :
  wpAny (model prog w) A (getAttr (.ref x) name expr) Q E s := by
 obtain ⟨es, n, rfl, he, nd⟩ := hf
 exact get_value (S.kin G) ⟨S.obj _ hx, rfl, rfl, S.obj _ hd⟩ (plainGet_of hg).1 (findObj_own hh ha rfl (by rw [lookIn_dict]; exact he.get (nodup_of nd) hm)) hv h
theorem r_meth {pl : Sem Bool} {Q : Value × List Value → Shared → Prop} {f : Addr} (G : Gd K tabs hb) (S : St hb tabs L l T s.heap) (hx : (x, (⟨.ref C, some dx, .plain, sl⟩ : Obj)) ∈ T) (hd : (dx, od) ∈ T) (hf : FlObj od fl) (h : Q (.ref f, [.ref x]) s)
  (hn : (fl.map (·.1)).contains name = false := by kernel_rfl) (hm : findIn K (.ref C) name = some (some (.ref f)) := by kernel_rfl) (hg : plainGet K C name = true := by kernel_rfl) (ht : isFn K (.ref f) = true := by kernel_rfl) :
  wpAny (model prog w) A (getMethod (.ref x) name pl) Q E s := by
 obtain ⟨es, n, rfl, he, nd⟩ := hf
 exact method_fn (ox := (⟨.ref C, some dx, .plain, sl⟩ : Obj)) (od := some (dictOf es n)) (S.kin G) ⟨S.obj _ hx, rfl, rfl, S.obj _ hd⟩ (plainGet_of hg).1 (plainGet_of hg).2 hm (beq_iff_eq.mp ht) (by show (lookIn name (dictOf es n)).map _ = _; rw [lookIn_dict, he.get_none hn]; rfl) h
theorem split_at {α : Type} {T : List α} {i : Nat} {a b : α} (hi : T[i]? = some a) : T = T.take i ++ a :: T.drop (i + 1) ∧ T.set i b = T.take i ++ b :: T.drop (i + 1) := by
 induction T generalizing i with
 | nil => simp at hi
 | cons c r ih =>
  cases i with
  | zero => simp at hi; subst hi; simp
  | succ i =>
   have := ih (i := i) (by simpa using hi)
   constructor
   ·have h1 := congrArg (c :: ·) this.1; simpa using h1
   ·simp [this.2]
theorem set_keys {T : List (Addr × Obj)} {i : Nat} {a : Addr} {o o' : Obj} (hi : T[i]? = some (a, o)) : (T.set i (a, o')).map (·.1) = T.map (·.1) := by
 obtain ⟨e1, e2⟩ := split_at (b := (a, o')) hi
 rw [e2]
 conv => rhs; rw [e1]
 simp
theorem r_setattr {Q : Unit → Shared → Prop} (i : Nat) (G : Gd K tabs hb) (S : St hb tabs L l T s.heap) (hx : (x, (⟨.ref C, some dx, .plain, sl⟩ : Obj)) ∈ T) (hi : T[i]? = some (dx, od)) (hf : FlObj od fl) (hp : Put fl name v fl')
  (h : ∀ h' od', St hb tabs L l (T.set i (dx, od')) h' → FlObj od' fl' → Q () { s with heap := h', toks := s.toks + 2 })
  (hz : Nat.ble fl'.length 1000 = true := by kernel_rfl)
  (hs : findIn K (.ref C) "__setattr__" = some (some (.builtin "object.__setattr__")) := by kernel_rfl) (hpo : plainOver K C = true := by kernel_rfl) (ht : takerIn K C name = some none := by kernel_rfl) (hh : hasDictIn K C = true := by kernel_rfl) :
  wpAny (model prog w) A (setAttr (.ref x) name v) Q E s := by
 obtain ⟨es, n, rfl, he, nd⟩ := hf
 obtain ⟨m, TL, F, N, hl, ndl, hTL, back⟩ := S.toK
 obtain ⟨e1, -⟩ := split_at (b := (dx, dictOf es n)) hi
 have hdm := List.mem_of_getElem? hi
 have hdn := S.new _ hdm
 have e3 : TL ++ T = (TL ++ T.take i) ++ (dx, dictOf es n) :: T.drop (i + 1) := by rw [List.append_assoc, ← e1]
 rw [e3] at N
 have ndT := (List.nodup_cons.mp S.nd).2
 have ndT' : ((T.take i).map (·.1) ++ dx :: (T.drop (i + 1)).map (·.1)).Nodup := by
  have : T.map (·.1) = (T.take i).map (·.1) ++ dx :: (T.drop (i + 1)).map (·.1) := by
   conv => lhs; rw [e1]
   simp
  rw [← this]; exact ndT
 obtain ⟨-, nd2, nd3⟩ := List.nodup_append.mp ndT'
 have I : InstAt s.heap x (⟨.ref C, some dx, .plain, sl⟩ : Obj) C (some (dictOf es n)) := ⟨S.obj _ hx, rfl, rfl, S.obj _ hdm⟩
 have he' := he.put (hsh := PyData.keyHash w.params name) (t := s.toks + 1) hp
 refine set_plain (S.kin G) I hs (osa_dict (s := { s with toks := s.toks + 1 }) F N (S.kin G) I rfl hpo ht hh (by rw [lookIn_dict]; exact he.known) (fun p hp' => ?_) (fun p hp' => ?_) (by rw [putName_dict]) rfl
  (by rw [he'.len]; exact Nat.le_of_ble_eq_true hz) fun h' F' N' => ?_)
 ·rcases List.mem_append.mp hp' with q | q
  ·exact Nat.ne_of_lt (Nat.lt_of_lt_of_le (hTL p q) hdn)
  ·exact nd3 _ (List.mem_map.mpr ⟨p, q, rfl⟩) _ (.head _)
 ·intro e
  exact (List.nodup_cons.mp nd2).1 (e ▸ List.mem_map.mpr ⟨p, hp', rfl⟩)
 ·refine h h' (dictOf (putL name (PyData.keyHash w.params name) (.str name (s.toks + 1)) v es) (putN name es n)) (back h' m (T.set i (dx, dictOf (putL name (PyData.keyHash w.params name) (.str name (s.toks + 1)) v es) (putN name es n))) l F' ?_ hl ndl (fun p hp' => ?_) (by rw [set_keys hi]; exact S.nd)) ⟨_, _, rfl, he', put_nodup hp nd⟩
  ·rw [(split_at hi).2, ← List.append_assoc]; exact N'
  ·rcases List.mem_or_eq_of_mem_set hp' with q | rfl
   ·exact S.new p q
   ·exact hdn
end
end
section
structure Kp (s s' : Shared) : Prop where
 os : s'.os = s.os
 gens : AllBare s.gens → AllBare s'.gens
theorem Kp.refl {s : Shared} : Kp s s := ⟨rfl, id⟩
theorem Kp.trans {a b c : Shared} (h : Kp a b) (k : Kp b c) : Kp a c := ⟨k.os.trans h.os, fun z => k.gens (h.gens z)⟩
theorem Kp.with {a b : Shared} (k : Kp a b) {h : Heap} {t : Tok} : Kp a { b with heap := h, toks := t } := ⟨k.os, k.gens⟩
section
variable {hb h h' : Heap} {tabs : List Addr} {L : Addr} {l l' : List (Str × Value)} {T T' own : List (Addr × Obj)}
theorem St.perm (S : St hb tabs L l T h) (p : T.Perm T') : St hb tabs L l T' h :=
 ⟨S.fm, S.lnew, S.keep, S.tab, fun q hq => S.obj q (p.symm.subset hq), fun q hq => S.new q (p.symm.subset hq), ((List.Perm.cons L (p.map _)).nodup_iff).mp S.nd⟩
theorem St.last {p : Addr × Obj} (S : St hb tabs L l (p :: T) h) : St hb tabs L l (T ++ [p]) h := S.perm (List.perm_append_comm (l₁ := [p]))
theorem St.front {p : Addr × Obj} (S : St hb tabs L l (T ++ [p]) h) : St hb tabs L l (p :: T) h := S.perm (List.perm_append_comm (l₂ := [p]))
theorem St.drop (S : St hb tabs L l (T ++ own) h) (hk : ∀ b o, b ∉ own.map (·.1) → h.get? b = some o → h'.get? b = some o) : St hb tabs L l T h' := by
 have nd := List.nodup_cons.mp S.nd
 rw [List.map_append] at nd
 have hL : L ∉ own.map (·.1) := fun q => nd.1 (List.mem_append_right _ q)
 obtain ⟨-, -, n3⟩ := List.nodup_append.mp nd.2
 have hT : ∀ p ∈ T, p.1 ∉ own.map (·.1) := fun p hp q => n3 _ (List.mem_map.mpr ⟨p, hp, rfl⟩) _ q rfl
 have hold : ∀ b, b < hb.objs.size → b ∉ own.map (·.1) := fun b hlt q => by
  obtain ⟨p, hp, e⟩ := List.mem_map.mp q
  have := S.new p (List.mem_append_right _ hp)
  rw [e] at this
  exact absurd hlt (Nat.not_lt.mpr this)
 obtain ⟨oL, e, r⟩ := S.fm
 refine ⟨⟨oL, hk _ _ hL e, r⟩, S.lnew, fun b o e hn => hk b o (hold b (lt_of_get e)) (S.keep b o e hn), fun t ht => ?_, fun p hp => hk _ _ (hT p hp) (S.obj p (List.mem_append_left _ hp)), fun p hp => S.new p (List.mem_append_left _ hp), ?_⟩
 ·obtain ⟨ps, more, e1, e2, e3⟩ := S.tab t ht
  exact ⟨ps, more, e1, hk _ _ (hold t (lt_of_get e1)) e2, e3⟩
 ·exact List.nodup_cons.mpr ⟨fun q => nd.1 (List.mem_append_left _ q), (List.nodup_append.mp nd.2).1⟩
theorem St.moved (S : St hb tabs L l (T ++ own) h) (hk : ∀ b o, b ∉ own.map (·.1) → h.get? b = some o → h'.get? b = some o) (hex : ∀ b ∈ own.map (·.1), ∃ o, h'.get? b = some o) :
  ∃ own', own'.map (·.1) = own.map (·.1) ∧ St hb tabs L l (T ++ own') h' := by
 have S1 := S.drop hk
 have hm : (own.map fun p => (p.1, (h'.get? p.1).getD default)).map (·.1) = own.map (·.1) := by rw [List.map_map]; rfl
 refine ⟨own.map fun p => (p.1, (h'.get? p.1).getD default), hm, S1.fm, S1.lnew, S1.keep, S1.tab, fun p hp => ?_, fun p hp => ?_, ?_⟩
 ·rcases List.mem_append.mp hp with q | q
  ·exact S1.obj p q
  ·obtain ⟨p', hp', rfl⟩ := List.mem_map.mp q
   obtain ⟨o, e⟩ := hex p'.1 (List.mem_map.mpr ⟨p', hp', rfl⟩)
   show h'.get? p'.1 = some ((h'.get? p'.1).getD default)
   rw [e]; rfl
 ·rcases List.mem_append.mp hp with q | q
  ·exact S1.new p q
  ·obtain ⟨p', hp', rfl⟩ := List.mem_map.mp q
   exact S.new p' (List.mem_append_right _ hp')
 ·rw [List.map_append, hm, ← List.map_append]; exact S.nd
end
section
variable {prog : Program} {w : World} {A : Around} {s : Shared} {hb : Heap} {tabs : List Addr} {L : Addr} {l : List (Str × Value)} {T own Ro : List (Addr × Obj)} {env : Env} {target : Expr} {body : List Stmt} {I : Addr} {fp wr : List Addr} {n : Nat} {P : Nat → Value → Prop} {Wt : Nat → Heap → Prop}
theorem for_walk {R : Result → Shared → Prop} (W : Walks prog w A I fp wr n P Wt) (hex : ∀ i h, Wt i h → ∀ b ∈ wr, ∃ o, h.get? b = some o) (how : own.map (·.1) = wr)
  (hro : ∀ b ∈ fp, b ∉ wr → (∃ o, (b, o) ∈ Ro) ∨ ∃ o, hb.get? b = some o ∧ b ∉ tabs) (S : St hb tabs L l (T ++ own) s.heap) (hst : Wt 0 s.heap)
  (J : Nat → List (Str × Value) → List (Addr × Obj) → Prop) (h0 : J 0 l T) (hR0 : ∀ p ∈ Ro, p ∈ T)
  (step : ∀ E i v l₁ T₁ own₁ s₁, i < n → P i v → J i l₁ T₁ → St hb tabs L l₁ (T₁ ++ own₁) s₁.heap → (∀ p ∈ Ro, p ∈ T₁) → Kp s s₁ →
   wpAny (model prog w) A (assign target env v) (fun _ s₂ => wpAny (model prog w) A (execs body env) (fun f s₃ => match f with
    | .next | .cont => ∃ l₂ T₂, St hb tabs L l₂ (T₂ ++ own₁) s₃.heap ∧ J (i + 1) l₂ T₂ ∧ (∀ p ∈ Ro, p ∈ T₂) ∧ Kp s s₃
    | .brk => R (.ok .next) s₃
    | .ret v => R (.ok (.ret v)) s₃) E s₂) E s₁)
  (hR : ∀ s' l' T', Kp s s' → St hb tabs L l' T' s'.heap → J n l' T' → (∀ p ∈ Ro, p ∈ T') → R (.ok .next) s')
  (ht : ∀ v, letOwnedTupleGo target (.ref I) v = pure () := by intro _; rfl) :
  codeAny (model prog w) A (.forLoop target (.ref I) body [] env) R s := by
 refine codeAny_forLoop (fun k s' => ∃ i l₁ T₁ own₁, own₁.map (·.1) = wr ∧ St hb tabs L l₁ (T₁ ++ own₁) s'.heap ∧ Wt i s'.heap ∧ J i l₁ T₁ ∧ (∀ p ∈ Ro, p ∈ T₁) ∧ Kp s s' ∧ i ≤ n ∧ k = n - i) ?_ n ⟨0, l, T, own, how, S, hst, h0, hR0, Kp.refl, Nat.zero_le _, rfl⟩ ht
 rintro k s' ⟨i, l₁, T₁, own₁, how₁, S₁, hst₁, hJ, hRo, hKp, hi, rfl⟩
 by_cases hlt : i < n
 ·refine W.item i _ _ _ hlt hst₁ fun v h₁ tk₁ hP hst₂ hk₁ => ?_
  obtain ⟨own₂, e₂, S₂⟩ := S₁.moved (h' := h₁) (fun b o hb' e => hk₁ b o (how₁ ▸ hb') e) (fun b hb' => hex _ _ hst₂ b (how₁ ▸ hb'))
  refine wpAny_mono (step _ i v l₁ T₁ own₂ { s' with heap := h₁, toks := tk₁ } hlt hP hJ S₂ hRo hKp.with) (fun _ s₂ h₂ => wpAny_mono h₂ (fun f s₃ h₃ => ?_) fun _ _ e => e) fun _ _ e => e
  have fin : (∃ l₂ T₂, St hb tabs L l₂ (T₂ ++ own₂) s₃.heap ∧ J (i + 1) l₂ T₂ ∧ (∀ p ∈ Ro, p ∈ T₂) ∧ Kp s s₃) → ∃ m, m < n - i ∧ ∃ i l₁ T₁ own₁, own₁.map (·.1) = wr ∧ St hb tabs L l₁ (T₁ ++ own₁) s₃.heap ∧ Wt i s₃.heap ∧ J i l₁ T₁ ∧ (∀ p ∈ Ro, p ∈ T₁) ∧ Kp s s₃ ∧ i ≤ n ∧ m = n - i := by
   rintro ⟨l₂, T₂, S₃, hJ₃, hRo₃, hKp₃⟩
   refine ⟨n - (i + 1), by omega, i + 1, l₂, T₂, own₂, e₂.trans how₁, S₃, W.frame _ _ _ hst₂ fun b hb' o e => ?_, hJ₃, hRo₃, hKp₃, hlt, rfl⟩
   by_cases q : b ∈ wr
   ·have : b ∈ own₂.map (·.1) := by rw [e₂, how₁]; exact q
    obtain ⟨p, hp, rfl⟩ := List.mem_map.mp this
    have e1 := S₂.obj p (List.mem_append_right _ hp)
    have e2 := S₃.obj p (List.mem_append_right _ hp)
    have e1' : h₁.get? p.1 = some p.2 := e1
    rw [e1'] at e
    rw [← e]; exact e2
   ·rcases hro b hb' q with ⟨o', ho'⟩ | ⟨o', ho', hnt⟩
    ·have e1 : h₁.get? b = some o' := S₂.obj _ (List.mem_append_left _ (hRo _ ho'))
     rw [e1] at e
     rw [← e]; exact S₃.obj _ (List.mem_append_left _ (hRo₃ _ ho'))
    ·have e1 : h₁.get? b = some o' := S₂.keep _ _ ho' hnt
     rw [e1] at e
     rw [← e]; exact S₃.keep _ _ ho' hnt
  cases f with
  | next => exact fin h₃
  | cont => exact fin h₃
  | brk => exact h₃
  | ret v => exact h₃
 ·have hin : i = n := by omega
  subst hin
  refine W.done _ _ _ hst₁ fun h₁ tk₁ hk₁ => wpAny_execs_nil ?_
  exact hR _ l₁ T₁ hKp.with (S₁.drop fun b o hb' e => hk₁ b o (how₁ ▸ hb') e) hJ hRo
end
section
variable {prog : Program} {w : World} {A : Around} {E : Value → Shared → Prop} {s : Shared} {env : Env} {target iter : Expr} {body rest : List Stmt} {pos : Pos} {Q : Flow → Shared → Prop}
theorem q_for (h : wpAny (model prog w) A (eval iter env) (fun x s₁ => wpAny (model prog w) A (pyIter x) (fun it s₂ =>
   codeAny (model prog w) A (.forLoop target it body [] env) (fun r s' => match r with
    | .ok .next => wpAny (model prog w) A (execs rest env) Q E s'
    | .ok f => Q f s'
    | .error e => cameBackBy (model prog w) A env E e s') s₂) E s₁) E s)
  (hs : ∀ x, foldedSetIterable iter env x = pure x := by intro _; rfl) : wpAny (model prog w) A (execs (.For target iter body [] pos :: rest) env) Q E s := by
 refine wpAny_execs_cons (wpAny_For (wpAny_mono h (fun x s₁ h₁ => wpAny_mono h₁ (fun it s₂ h₂ => codeAny_mono h₂ fun r s' z => ?_) fun _ _ e => e) fun _ _ e => e) hs)
 rcases r with e | (v | _ | _ | _) <;> exact z
end
end
section
abbrev tupO (vs : List Value) : Obj := { cls := .type "tuple", data := .seq vs.toArray }
abbrev lstO (vs : List Value) (n : Nat) : Obj := { cls := .type "list", data := .seq vs.toArray n }
section
variable {hb h h' : Heap} {tabs : List Addr} {L : Addr} {l l' : List (Str × Value)} {T T' own : List (Addr × Obj)}
theorem St.grown (S : St hb tabs L l T h) (hk : ∀ b o, h.get? b = some o → h'.get? b = some o) : St hb tabs L l T h' :=
 St.drop (own := []) ((List.append_nil T).symm ▸ S) fun b o _ e => hk b o e
theorem St.extBut (S : St hb tabs L l T h) (he : Heap.ExtBut h.objs.size h h') : St hb tabs L l T h' :=
 S.grown fun b o e => he b o (Nat.ne_of_lt (lt_of_get e)) e
end
section
variable {prog : Program} {w : World} {A : Around} {E : Value → Shared → Prop} {s : Shared} {K : Frag} {hb : Heap} {tabs : List Addr} {L : Addr} {l l' : List (Str × Value)} {T : List (Addr × Obj)} {fd : FuncData} {fa x C dx : Addr} {v f : Value} {name : Str}
 {env : Env} {pos tpos : Pos} {Q : Value → Shared → Prop} {elts : List Expr} {k : Nat} {value : Expr} {rest : List Stmt}
theorem le_line {n : Nat} (h : Nat.ble n 1000 = true) : n ≤ sizeLine := by rw [sizeLine_eq]; exact Nat.le_trans (Nat.le_of_ble_eq_true h) (by decide)
theorem r_tuple (h : wpAny (model prog w) A (spliced (backTo pos (starEach elts env))) (fun vs s₁ => Nat.ble vs.length 1000 = true ∧ ∃ hb tabs L l T, St hb tabs L l T s₁.heap ∧ ∀ a h', St hb tabs L l ((a, tupO vs) :: T) h' → Q (.ref a) { s₁ with heap := h' }) E s) :
  wpAny (model prog w) A (eval (.Tuple elts k pos) env) Q E s :=
 wpAny_Tuple (wpAny_mono h (fun vs s₁ ⟨hz, _, _, _, _, _, S, z⟩ => ⟨le_line hz, z _ _ (S.push _)⟩) fun _ _ z => z)
theorem r_list (h : wpAny (model prog w) A (spliced (backTo pos (starEach elts env))) (fun vs s₁ => Nat.ble vs.length 1000 = true ∧ ∃ hb tabs L l T, St hb tabs L l T s₁.heap ∧ ∀ a h', St hb tabs L l ((a, lstO vs 0) :: T) h' → Q (.ref a) { s₁ with heap := h' }) E s) :
  wpAny (model prog w) A (eval (.List elts pos) env) Q E s :=
 wpAny_List (wpAny_mono h (fun vs s₁ ⟨hz, _, _, _, _, _, S, z⟩ => ⟨le_line hz, z _ _ (S.push _)⟩) fun _ _ z => z)
theorem q_swap {Q : Flow → Shared → Prop} {elts vals : List Expr} {vk : Nat} {vpos : Pos} (names : List Str) (h : wpAny (model prog w) A (spliced (backTo vpos (starEach vals env))) (fun vs s₁ => vs.length = names.length ∧ Nat.ble vs.length 1000 = true ∧ A.handled = none ∧ ∃ hb tabs L l T, St hb tabs L l T s₁.heap ∧ ∀ h',
   St hb tabs L l T h' → wpAny (model prog w) A (assignInOrder (names.reverse.map fun n => bindName env n) vs.reverse) (fun _ s₂ => wpAny (model prog w) A (execs rest env) Q E s₂) E { s₁ with heap := h' }) E s)
  (hw : swappedStores [.Tuple elts k tpos] (.Tuple vals vk vpos) env = pure (some names) := by kernel_rfl) :
  wpAny (model prog w) A (execs (.Assign [.Tuple elts k tpos] (.Tuple vals vk vpos) pos :: rest) env) Q E s := by
 refine wpAny_execs_cons (Assign_Tuple_swapped (r_tuple (wpAny_mono h (fun vs s₁ z => ?_) fun _ _ z => z)) rfl hw)
 obtain ⟨hl, hz, hh, _, _, _, _, _, S, z⟩ := z
 refine ⟨hz, _, _, _, _, _, S, fun a h' S' => ?_⟩
 have ht : IsTup h' a vs.toArray := ⟨_, S'.get 0 rfl, rfl, _, rfl⟩
 have e : names.length = vs.toArray.size := by rw [List.size_toArray]; exact hl.symm
 rw [e]
 refine unpackItems_tuple hh ht fun h₂ he => ?_
 rw [List.toList_toArray]
 exact z _ ((S'.sub (List.sublist_cons_self _ _)).extBut he)
theorem as_nil {xs : List Value} {Q : Unit → Shared → Prop} (h : Q () s) : wpAny (model prog w) A (assignInOrder [] xs) Q E s := assignInOrder_nil h
theorem as_cons {n : Str} {ts : List (Value → Sem Unit)} {y : Value} {xs : List Value} {Q : Unit → Shared → Prop} (h : wpAny (model prog w) A (storeName env n y) (fun _ s₁ => wpAny (model prog w) A (assignInOrder ts xs) Q E s₁) E s) :
  wpAny (model prog w) A (assignInOrder ((fun v => bindName env n v) :: ts) (y :: xs)) Q E s := assignInOrder_cons (bindName_ h)
theorem r_dot {o : Expr} (h : wpAny (model prog w) A (eval o env) (fun ov s₁ => wpAny (model prog w) A (getAttr ov name true) Q E s₁) E s)
  (he : eval (.Attribute o name pos) env = (do
   let v ← eval o env
   standAt pos.atName
   let r ← holding [v] (getAttr v name true)
   letTemporaryGo o v r
   pure r) := by with_unfolding_all rfl) : wpAny (model prog w) A (eval (.Attribute o name pos) env) Q E s := Attribute_any_ h he
theorem r_call {func : Expr} {args : List Expr} (h : wpAny (model prog w) A (eval func env) (fun f s₁ => wpAny (model prog w) A (callWith pos f [] (backTo pos (starEach args env)) []) Q E s₁) E s)
  (he : eval (.Call func args [] pos) env = (do callWith pos (← eval func env) [] (backTo pos (starEach args env)) (backToKw pos (keywordEach [] env))) := by rfl) :
  wpAny (model prog w) A (eval (.Call func args [] pos) env) Q E s := Call_ h he
theorem r_min {a b : Int} {t u : Tok} (hh : A.handled = none) (S : St hb tabs L l T s.heap)
  (h : ∀ h' tk t', St hb tabs L l T h' → Q (.int (min a b) t') { s with heap := h', toks := tk }) : wpAny (model prog w) A (call (.builtin "min") [.int a t, .int b u]) Q E s :=
 min_two_ints hh fun h' tk hk => by
  have := fun t' => h h' tk t' (S.grown hk)
  by_cases c : b < a
  ·rw [Int.min_def, if_neg (by omega)] at this
   rw [if_pos c]; exact this _
  ·rw [Int.min_def, if_pos (by omega)] at this
   rw [if_neg c]; exact this _
end
end
section
open PySem.Spec
abbrev dict0 : Obj := { cls := .type "dict", data := .dict #[] }
section
variable {prog : Program} {w : World} {hb h h' : Heap} {tabs : List Addr} {L : Addr} {l l' : List (Str × Value)} {T : List (Addr × Obj)} {K : Type} [DecidableEq K] {knd : KeyKind prog w K}
theorem dict0_is : dict0.IsDictOf knd [] := by
 obtain ⟨o, ho, hd⟩ := Heap.dictOf_iff.mp (Heap.DictOf.new (knd := knd) {})
 rw [Heap.get?_push_size _ rfl] at ho
 have e := Option.some.inj ho
 rw [← e] at hd
 exact hd
theorem St.change (S : St hb tabs L l T h) (i : Nat) {a : Addr} {o o' : Obj} (hi : T[i]? = some (a, o)) (hs : Heap.SameBut a h h') (ho : h'.get? a = some o') : St hb tabs L l (T.set i (a, o')) h' := by
 have e := (split_at (b := (a, o')) hi)
 have S1 : St hb tabs L l ((T.take i ++ T.drop (i + 1)) ++ [(a, o)]) h := S.perm (by
  conv => lhs; rw [e.1]
  rw [List.append_assoc]
  exact List.Perm.append_left _ (List.perm_append_comm (l₁ := [(a, o)])))
 obtain ⟨own', hm, S2⟩ := S1.moved (h' := h') (fun b x hb' hx => (hs.2 b (fun q => hb' (by rw [q]; exact .head _))).trans hx) (fun b hb' => by
  rw [List.map_cons, List.map_nil, List.mem_singleton] at hb'
  exact ⟨o', by rw [hb']; exact ho⟩)
 rcases own' with _ | ⟨⟨a', o''⟩, r⟩
 ·cases hm
 ·rw [List.map_cons, List.map_cons, List.map_nil] at hm
  obtain ⟨ha, hr⟩ := List.cons.inj hm
  rw [List.map_eq_nil_iff] at hr
  subst hr
  have ha' : a' = a := ha
  subst ha'
  have h2 : h'.get? a' = some o'' := S2.obj (a', o'') (List.mem_append_right _ (.head _))
  rw [ho] at h2
  have e2 := Option.some.inj h2
  subst e2
  refine S2.perm ?_
  rw [e.2, List.append_assoc]
  exact List.Perm.append_left _ (List.perm_append_comm (l₂ := [(a', o')]))
theorem St.notMods {K : Frag} (S : St hb tabs L l T h) (G : Gd K tabs hb) {p : Addr × Obj} (hp : p ∈ T) : (p.1 == sysModules) = false :=
 beq_eq_false_iff_ne.mpr (Nat.ne_of_gt (Nat.lt_of_lt_of_le (modules_low G.lim) (S.new p hp)))
end
section
variable {prog : Program} {w : World} {A : Around} {E : Value → Shared → Prop} {s : Shared} {F : Frag} {hb : Heap} {tabs : List Addr} {L d : Addr} {l l' : List (Str × Value)} {T : List (Addr × Obj)} {env : Env} {pos : Pos} {Q : Value → Shared → Prop} {o : Obj}
 {K : Type} [DecidableEq K] {knd : KeyKind prog w K} {kvs : List (K × Value)} {k : K} {key v dflt : Value}
theorem r_dict0 (S : St hb tabs L l T s.heap) (h : ∀ d h', St hb tabs L l ((d, dict0) :: T) h' → Q (.ref d) { s with heap := h' }) : wpAny (model prog w) A (eval (.Dict [] [] pos) env) Q E s :=
 wpAny_Dict_empty (h _ _ (S.push _))
theorem dictAt (S : St hb tabs L l T s.heap) (hm : (d, o) ∈ T) (hd : o.IsDictOf knd kvs) : s.heap.DictOf knd d kvs := Heap.dictOf_iff.mpr ⟨o, S.obj _ hm, hd⟩
theorem r_setitem {Q : Unit → Shared → Prop} (i : Nat) (S : St hb tabs L l T s.heap) (hi : T[i]? = some (d, o)) (hd : o.IsDictOf knd kvs) (hkey : knd.is k key = true)
  (h : ∀ h' o', St hb tabs L l (T.set i (d, o')) h' → o'.IsDictOf knd (stored kvs k v) → Q () { s with heap := h', toks := s.toks + 1 }) (hz : kvs.length ≤ 1000) :
  wpAny (model prog w) A (setItem (.ref d) key v) Q E s :=
 wpAny_setItem_pairs (hsz := by rw [sizeLine_eq]; omega) hkey (dictAt S (List.mem_of_getElem? hi) hd) fun h' hm hs => by
  obtain ⟨o', ho', hd'⟩ := Heap.dictOf_iff.mp hm
  exact h h' o' (S.change i hi hs ho') hd'
theorem r_getitem (S : St hb tabs L l T s.heap) (hm : (d, o) ∈ T) (hd : o.IsDictOf knd kvs) (hkey : knd.is k key = true) (hv : valueAt kvs k = some v) (h : Q v { s with toks := s.toks + 1 }) :
  wpAny (model prog w) A (getItem (.ref d) key) Q E s := wpAny_getItem_of hkey (dictAt S hm hd).mapOf hv h
theorem r_get2 (G : Gd F tabs hb) (S : St hb tabs L l T s.heap) (hm : (d, o) ∈ T) (hd : o.IsDictOf knd kvs) (hkey : knd.is k key = true) (h : Q ((valueAt kvs k).getD dflt) { s with toks := s.toks + 1 }) :
  wpAny (model prog w) A (call (.builtin "dict.get") [.ref d, key, dflt]) Q E s :=
 have hD := dictAt S hm hd
 call_meetsIn PySem.F.slot_dict_get hD.typeIs PySem.F.entry_dict_get (PySem.F.args_dict_get_3 _ _ _) (meets_dict_get_default knd d hkey (S.notMods G hm) dflt) ⟨_, hD.mapOf, h⟩
theorem r_setdefault (i : Nat) (G : Gd F tabs hb) (S : St hb tabs L l T s.heap) (hi : T[i]? = some (d, o)) (hd : o.IsDictOf knd kvs) (hkey : knd.is k key = true)
  (h1 : ∀ v, valueAt kvs k = some v → Q v { s with toks := s.toks + 1 })
  (h2 : valueAt kvs k = none → ∀ h' o', St hb tabs L l (T.set i (d, o')) h' → o'.IsDictOf knd (stored kvs k dflt) → Q dflt { s with heap := h', toks := s.toks + 1 }) (hz : kvs.length ≤ 1000) :
  wpAny (model prog w) A (call (.builtin "dict.setdefault") [.ref d, key, dflt]) Q E s :=
 have hm := List.mem_of_getElem? hi
 have hD := dictAt S hm hd
 call_meetsIn PySem.F.slot_dict_setdefault hD.typeIs PySem.F.entry_dict_setdefault (PySem.F.args_dict_setdefault_3 _ _ _) (kt_meets_setdefault knd d hkey (S.notMods G hm) dflt)
  ⟨kvs, hD, by rw [sizeLine_eq]; omega, fun v hv => h1 v hv, fun hn h' hmm hs => by
   obtain ⟨o', ho', hd'⟩ := Heap.dictOf_iff.mp hmm
   exact h2 hn h' o' (S.change i hi hs ho') hd'⟩
end
end
section
section
variable {prog : Program} {w : World} {A : Around} {E : Value → Shared → Prop} {s : Shared} {K : Frag} {hb : Heap} {tabs : List Addr} {L : Addr} {l : List (Str × Value)} {T : List (Addr × Obj)} {env : Env} {pos : Pos}
theorem is_strs {Q : Value → Shared → Prop} {y z : Str} {u v : Tok} (NB : NoneBooked s.heap) (hu : u ≠ 0) (hv : v ≠ 0) (ht : u = v → y = z) (h : ∀ c : Bool, (c = true → y = z) → Q (.bool c) s) :
  wpAny (model prog w) A (compareOp .Is (.str y u) (.str z v)) Q E s := by
 have key : ∀ {Q : Bool → Shared → Prop}, (∀ c : Bool, (c = true → y = z) → Q c s) → wpAny (model prog w) A (isSame (.str y u) (.str z v)) Q E s := by
  intro Q h
  show wpAny (model prog w) A (isSame.created (y == z) u v) Q E s
  unfold isSame.created
  have h0 : (u == 0 || v == 0) = false := by
   cases q : (u == 0 || v == 0) with
   | false => rfl
   | true =>
    rcases Bool.or_eq_true_iff.mp q with q | q
    ·exact absurd (beq_iff_eq.mp q) hu
    ·exact absurd (beq_iff_eq.mp q) hv
  refine KFB.if_not h0 ?_
  by_cases huv : u = v
  ·refine KFB.if_so (beq_iff_eq.mpr huv) (wpAny_pure (h true fun _ => ht huv))
  ·refine KFB.if_not (beq_eq_false_iff_ne.mpr huv) ?_
   by_cases hyz : y = z
   ·refine KFB.if_not (by rw [beq_iff_eq.mpr hyz]; rfl) ?_
    refine wpAny_bind (wpAny_sharingNotTold_none NB ?_)
    refine KFB.if_not rfl ?_
    refine wpAny_bind (wpAny_sharingNotTold_none NB ?_)
    refine KFB.if_not rfl ?_
    refine wpAny_bind (wpAny_rule ?_)
    refine wpAny_bind (wpAny_askSetting ?_)
    exact wpAny_pure (h _ fun _ => hyz)
   ·refine KFB.if_so (by rw [beq_eq_false_iff_ne.mpr hyz]; rfl) (wpAny_pure (h false fun q => by cases q))
 show wpAny (model prog w) A (do return .bool (← isSame (.str y u) (.str z v))) Q E s
 exact wpAny_bind (key fun c hc => wpAny_pure (h c hc))
theorem as_attr {o : Expr} {name : Str} {v : Value} {Q : Unit → Shared → Prop} (h : wpAny (model prog w) A (eval o env) (fun ov s₁ => wpAny (model prog w) A (setAttr ov name v) Q E s₁) E s) :
  wpAny (model prog w) A (assign (.Attribute o name pos) env v) Q E s := by
 rw [assign_Attribute]
 exact wpAny_bind (wpAny_holding (wpAny_mono h (fun ov s₁ z => wpAny_bind (wpAny_standAt (wpAny_bind (wpAny_holding (wpAny_mono z (fun _ s₂ z => fun Γ p hΓ => by simp only [Sem.wp_release]; exact z) fun _ _ z => z))))) fun _ _ z => z))
theorem as_name {x : Str} {v : Value} {Q : Unit → Shared → Prop} (h : wpAny (model prog w) A (storeName env x v) Q E s) : wpAny (model prog w) A (assign (.Name x pos) env v) Q E s := assign_Name h
end
end
section
section
variable {prog : Program} {w : World} {A : Around} {s : Shared} {hb : Heap} {tabs : List Addr} {L : Addr} {l : List (Str × Value)} {T own Ro : List (Addr × Obj)} {env : Env} {body : List Stmt} {I : Addr} {fp wr : List Addr} {n : Nat} {Pt : Nat → Array Value → Prop} {Wt : Nat → Heap → Prop} {Mid : Nat → Addr → Heap → Prop}
 {elts : List Expr} {x1 : Nat} {tpos : Pos}
theorem for_walkU {R : Result → Shared → Prop} (hh : A.handled = none) (W : WalksU prog w A I fp wr n Pt Wt Mid) (hex : ∀ i h, Wt i h → ∀ b ∈ wr, ∃ o, h.get? b = some o) (how : own.map (·.1) = wr)
  (hro : ∀ b ∈ fp, b ∉ wr → (∃ o, (b, o) ∈ Ro) ∨ ∃ o, hb.get? b = some o ∧ b ∉ tabs) (S : St hb tabs L l (T ++ own) s.heap) (hst : Wt 0 s.heap)
  (J : Nat → List (Str × Value) → List (Addr × Obj) → Prop) (h0 : J 0 l T) (hR0 : ∀ p ∈ Ro, p ∈ T)
  (hsz : ∀ i vals, Pt i vals → (assignEach elts env).length = vals.size) (hstar : (assignEach elts env).findIdx? (·.1) = none)
  (step : ∀ E i vals l₁ T₁ own₁ s₁, i < n → Pt i vals → J i l₁ T₁ → St hb tabs L l₁ (T₁ ++ own₁) s₁.heap → (∀ p ∈ Ro, p ∈ T₁) → Kp s s₁ →
   wpAny (model prog w) A (assignInOrder ((assignEach elts env).map (·.2)) vals.toList) (fun _ s₂ => wpAny (model prog w) A (execs body env) (fun f s₃ => match f with
    | .next | .cont => ∃ l₂ T₂, St hb tabs L l₂ (T₂ ++ own₁) s₃.heap ∧ J (i + 1) l₂ T₂ ∧ (∀ p ∈ Ro, p ∈ T₂) ∧ Kp s s₃
    | .brk => R (.ok .next) s₃
    | .ret v => R (.ok (.ret v)) s₃) E s₂) E s₁)
  (hR : ∀ s' l' T', Kp s s' → St hb tabs L l' T' s'.heap → J n l' T' → (∀ p ∈ Ro, p ∈ T') → R (.ok .next) s') :
  codeAny (model prog w) A (.forLoop (.Tuple elts x1 tpos) (.ref I) body [] env) R s := by
 refine codeAny_forLoop_any (fun k s' => ∃ i l₁ T₁ own₁, own₁.map (·.1) = wr ∧ St hb tabs L l₁ (T₁ ++ own₁) s'.heap ∧ Wt i s'.heap ∧ J i l₁ T₁ ∧ (∀ p ∈ Ro, p ∈ T₁) ∧ Kp s s' ∧ i ≤ n ∧ k = n - i) ?_ n ⟨0, l, T, own, how, S, hst, h0, hR0, Kp.refl, Nat.zero_le _, rfl⟩
 rintro k s' ⟨i, l₁, T₁, own₁, how₁, S₁, hst₁, hJ, hRo, hKp, hi, rfl⟩
 by_cases hlt : i < n
 ·refine W.item i _ _ _ hlt hst₁ fun tu vals h₁ tk₁ hP htu hmid hk₁ => ?_
  refine W.go elts x1 tpos i tu _ _ _ hmid fun h₂ hst₂ hk₂ => ?_
  have ht₂ : h₂.IsTuple tu vals := htu.at fun o e => hk₂ tu o (W.apart i tu h₁ hmid) e
  obtain ⟨own₂, e₂, S₂⟩ := S₁.moved (h' := h₂) (fun b o hb' e => hk₂ b o (how₁ ▸ hb') (hk₁ b o (how₁ ▸ hb') e)) (fun b hb' => hex _ _ hst₂ b (how₁ ▸ hb'))
  refine wpAny_assign_Tuple hh ht₂ (hsz i vals hP) hstar fun h₃ hx₃ => ?_
  replace hx₃ : Heap.ExtBut h₂.objs.size h₂ h₃ := hx₃
  have S₃ := S₂.extBut hx₃
  have hst₃ : Wt (i + 1) h₃ := W.frame _ _ _ hst₂ fun b hb' o e => hx₃ b o (Nat.ne_of_lt (Heap.lt_size e)) e
  refine wpAny_mono (step _ i vals l₁ T₁ own₂ { s' with heap := h₃, toks := tk₁ } hlt hP hJ S₃ hRo hKp.with) (fun _ s₂ h₂' => wpAny_mono h₂' (fun f s₃ h₃' => ?_) fun _ _ e => e) fun _ _ e => e
  have fin : (∃ l₂ T₂, St hb tabs L l₂ (T₂ ++ own₂) s₃.heap ∧ J (i + 1) l₂ T₂ ∧ (∀ p ∈ Ro, p ∈ T₂) ∧ Kp s s₃) → ∃ m, m < n - i ∧ ∃ i l₁ T₁ own₁, own₁.map (·.1) = wr ∧ St hb tabs L l₁ (T₁ ++ own₁) s₃.heap ∧ Wt i s₃.heap ∧ J i l₁ T₁ ∧ (∀ p ∈ Ro, p ∈ T₁) ∧ Kp s s₃ ∧ i ≤ n ∧ m = n - i := by
   rintro ⟨l₂, T₂, S₄, hJ₃, hRo₃, hKp₃⟩
   refine ⟨n - (i + 1), by omega, i + 1, l₂, T₂, own₂, e₂.trans how₁, S₄, W.frame _ _ _ hst₃ fun b hb' o e => ?_, hJ₃, hRo₃, hKp₃, hlt, rfl⟩
   by_cases q : b ∈ wr
   ·have : b ∈ own₂.map (·.1) := by rw [e₂, how₁]; exact q
    obtain ⟨p, hp, rfl⟩ := List.mem_map.mp this
    have e1 : h₃.get? p.1 = some p.2 := S₃.obj p (List.mem_append_right _ hp)
    have e2 := S₄.obj p (List.mem_append_right _ hp)
    rw [e1] at e
    rw [← e]; exact e2
   ·rcases hro b hb' q with ⟨o', ho'⟩ | ⟨o', ho', hnt⟩
    ·have e1 : h₃.get? b = some o' := S₃.obj _ (List.mem_append_left _ (hRo _ ho'))
     rw [e1] at e
     rw [← e]; exact S₄.obj _ (List.mem_append_left _ (hRo₃ _ ho'))
    ·have e1 : h₃.get? b = some o' := S₃.keep _ _ ho' hnt
     rw [e1] at e
     rw [← e]; exact S₄.keep _ _ ho' hnt
  cases f with
  | next => exact fin h₃'
  | cont => exact fin h₃'
  | brk => exact h₃'
  | ret v => exact h₃'
 ·have hin : i = n := by omega
  subst hin
  refine W.done _ _ _ hst₁ fun h₁ tk₁ hk₁ => wpAny_execs_nil ?_
  exact hR _ l₁ T₁ hKp.with (S₁.drop fun b o hb' e => hk₁ b o (how₁ ▸ hb') e) hJ hRo
theorem toU (W : WalksT prog w A I fp wr n Pt Wt Mid) : WalksU prog w A I fp wr n Pt Wt Mid :=
 ⟨W.sub, W.frame, fun i s Q E hi st hQ => W.item i s Q E hi st fun T vals h' tk a _ c d e => hQ T vals h' tk a c d e, W.go, W.apart, W.done, W.self⟩
end
section
variable {hb h h' : Heap} {tabs : List Addr} {L : Addr} {l : List (Str × Value)} {T own : List (Addr × Obj)}
theorem St.adds (S : St hb tabs L l T h) (hk : ∀ b o, h.get? b = some o → h'.get? b = some o) (ho : ∀ p ∈ own, h'.get? p.1 = some p.2) (hn : ∀ p ∈ own, h.objs.size ≤ p.1) (hd : (own.map (·.1)).Nodup) : St hb tabs L l (T ++ own) h' := by
 have S1 := S.grown hk
 have hsz : hb.objs.size ≤ h.objs.size := Nat.le_of_lt (Nat.lt_of_le_of_lt S.lnew S.fm.lt)
 refine ⟨S1.fm, S1.lnew, S1.keep, S1.tab, fun p hp => ?_, fun p hp => ?_, ?_⟩
 ·rcases List.mem_append.mp hp with q | q
  ·exact S1.obj p q
  ·exact ho p q
 ·rcases List.mem_append.mp hp with q | q
  ·exact S1.new p q
  ·exact Nat.le_trans hsz (hn p q)
 ·rw [List.map_append, ← List.cons_append]
  refine List.nodup_append.mpr ⟨S.nd, hd, fun a ha b hb' e => ?_⟩
  obtain ⟨p, hp, e2⟩ := List.mem_map.mp hb'
  have h1 := hn p hp
  rw [e2, ← e] at h1
  rcases List.mem_cons.mp ha with q | q
  ·rw [q] at h1
   exact absurd S.fm.lt (Nat.not_lt.mpr h1)
  ·obtain ⟨p', hp', e3⟩ := List.mem_map.mp q
   rw [← e3] at h1
   exact absurd (S.lt hp') (Nat.not_lt.mpr h1)
end
end
section
open PySem.Spec
namespace B
theorem slot_md_get : Slot "method_descriptor" "__get__" "method_descriptor.__get__" :=
 .of (owner := "method_descriptor") (n := "__get__") (by rw [typeLookup_type, builtinLookup_eq_fast]; kernel_rfl) (by decide +kernel) (by decide +kernel) (by decide +kernel)
  (by first | exact .inl (by decide +kernel) | exact .inr (by decide +kernel)) (by rw [isSubtype_type]; kernel_rfl)
theorem entry_md_get : entryFor table "method_descriptor.__get__" = some Builtin.«method_descriptor.__get__» := entryFor_of_tree (by kernel_rfl)
theorem args_md_get (a b c : Value) : argsOk "method_descriptor.__get__" ⟨[a, b, c], []⟩ := by unfold argsOk; kernel_rfl
theorem md_set : typeLookup (.type "method_descriptor") "__set__" = pure none := by rw [typeLookup_type, builtinLookup_eq_fast]; kernel_rfl
theorem md_delete : typeLookup (.type "method_descriptor") "__delete__" = pure none := by rw [typeLookup_type, builtinLookup_eq_fast]; kernel_rfl
theorem type_dict_contains : typeOf (.builtin "dict.__contains__") = pure (.type "method_descriptor") := by show builtinType _ = _; rw [builtinType_eq_fast]; kernel_rfl
end B
abbrev bmO (id : String) (d : Addr) : Obj := { cls := .type "builtin_function_or_method", data := .fields #[.builtin id, .ref d] }
section
variable {prog : Program} {w : World} {M : Model} {A : Around} {E : Value → Shared → Prop} {s : Shared} {d : Addr}
theorem run_md_get {P : Fin → Shared → Prop} {id T : String} {o : Obj} (ho : s.heap.get? d = some o) (hc : o.cls = .type T) (htold : Manifest.toldItsClass.contains id = false)
  (hown : ".".intercalate (id.cutAt '.').dropLast = T) (hsub : isSubtype (.type T) (.type T) = pure true) (h : P (.done (.ret (.ref s.heap.objs.size))) { s with heap := s.heap.push (bmO id d) }) :
  wpAny M A (Builtin.«method_descriptor.__get__» ⟨[.builtin id, .ref d, .type T], []⟩) P E s := by
 unfold Builtin.«method_descriptor.__get__»
 refine wpAny_bind (wpAny_of_eq (a := (.builtin id, some (.ref d), some (.type T))) (by first | rfl | kernel_rfl) ?_)
 dsimp only
 rw [htold, if_neg Bool.false_ne_true]
 wp_delta
 refine wpAny_bind ?_
 wp_delta
 refine wpAny_bind ?_
 wp_delta
 simp only [hown]
 refine wpAny_pure ?_
 refine wpAny_bind (wpAny_isInstance (T := T) (b := true) ⟨o, ho, hc⟩ hsub ?_)
 refine wpAny_pure ?_
 exact wpAny_bind (wpAny_newObj_type (wpAny_pure h))
theorem call_md_get {Q : Value → Shared → Prop} {id T : String} {o : Obj} (ho : s.heap.get? d = some o) (hc : o.cls = .type T) (htold : Manifest.toldItsClass.contains id = false)
  (hown : ".".intercalate (id.cutAt '.').dropLast = T) (hsub : isSubtype (.type T) (.type T) = pure true) (hty : typeOf (.builtin id) = pure (.type "method_descriptor")) (h : Q (.ref s.heap.objs.size) { s with heap := s.heap.push (bmO id d) }) :
  wpAny (model prog w) A (call (.builtin "method_descriptor.__get__") [.builtin id, .ref d, .type T]) Q E s :=
 wpAny_call_entry B.slot_md_get hty B.entry_md_get (run_md_get ho hc htold hown hsub ⟨_, rfl, h⟩) (B.args_md_get _ _ _)
theorem getattribute_dict {P : Fin → Shared → Prop} {o : Obj} {es : Array DictEntry} {k : Nat} {name : Str} {u : Tok} {id : String} (hx : s.heap.get? d = some o) (hc : o.cls = .type "dict") (hdat : o.data = .dict es k) (hd : o.dict = none)
  (hl : typeLookup (.type "dict") name = pure (some (.builtin id))) (hty : typeOf (.builtin id) = pure (.type "method_descriptor")) (htold : Manifest.toldItsClass.contains id = false)
  (hown : ".".intercalate (id.cutAt '.').dropLast = "dict") (hname : (["__module__", "__name__", "__qualname__", "__doc__", "__annotations__"] : List Str).contains name = false)
  (h : P (.done (.ret (.ref s.heap.objs.size))) { s with heap := s.heap.push (bmO id d) }) :
  wpAny (model prog w) A (Builtin.«object.__getattribute__» ⟨[.ref d, .str name u], []⟩) P E s := by
 obtain ⟨c, dct, dat, sl⟩ := o
 simp only at hc hdat hd
 subst hc hdat hd
 obtain ⟨hp, g, dr, tk, os⟩ := s
 have hT : (⟨hp, g, dr, tk, os⟩ : Shared).TypeIs (.ref d) "dict" := ⟨_, hx, rfl⟩
 have hT2 : (⟨hp, g, dr, tk, os⟩ : Shared).TypeIs (.builtin id) "method_descriptor" := hty
 have f1 := B.slot_md_get.lookup
 have f2 := B.md_set
 have f3 := B.md_delete
 have hsub : isSubtype (.type "dict") (.type "dict") = pure true := by rw [isSubtype_type]; kernel_rfl
 unfold Builtin.«object.__getattribute__»
 repeat (any_goals (first | assumption | ((with_reducible show wpAny _ _ (call (Value.builtin "method_descriptor.__get__") _ _) _ _ _); refine call_md_get hx rfl htold hown hsub hty ?_) | wp_step))
 simp only [hname, Bool.false_eq_true, if_false]
 repeat (any_goals (first | assumption | ((with_reducible show wpAny _ _ (call (Value.builtin "method_descriptor.__get__") _ _) _ _ _); refine call_md_get hx rfl htold hown hsub hty ?_) | wp_step))
theorem getattribute_set {P : Fin → Shared → Prop} {o : Obj} {es : Array (Int × Value)} {k : Nat} {tb : SetTable} {name : Str} {u : Tok} {id : String} (hx : s.heap.get? d = some o) (hc : o.cls = .type "set") (hdat : o.data = .set es k tb) (hd : o.dict = none)
  (hl : typeLookup (.type "set") name = pure (some (.builtin id))) (hty : typeOf (.builtin id) = pure (.type "method_descriptor")) (htold : Manifest.toldItsClass.contains id = false)
  (hown : ".".intercalate (id.cutAt '.').dropLast = "set") (hname : (["__module__", "__name__", "__qualname__", "__doc__", "__annotations__"] : List Str).contains name = false)
  (h : P (.done (.ret (.ref s.heap.objs.size))) { s with heap := s.heap.push (bmO id d) }) :
  wpAny (model prog w) A (Builtin.«object.__getattribute__» ⟨[.ref d, .str name u], []⟩) P E s := by
 obtain ⟨c, dct, dat, sl⟩ := o
 simp only at hc hdat hd
 subst hc hdat hd
 obtain ⟨hp, g, dr, tk, os⟩ := s
 have hT : (⟨hp, g, dr, tk, os⟩ : Shared).TypeIs (.ref d) "set" := ⟨_, hx, rfl⟩
 have hT2 : (⟨hp, g, dr, tk, os⟩ : Shared).TypeIs (.builtin id) "method_descriptor" := hty
 have f1 := B.slot_md_get.lookup
 have f2 := B.md_set
 have f3 := B.md_delete
 have hsub : isSubtype (.type "set") (.type "set") = pure true := by rw [isSubtype_type]; kernel_rfl
 unfold Builtin.«object.__getattribute__»
 repeat (any_goals (first | assumption | ((with_reducible show wpAny _ _ (call (Value.builtin "method_descriptor.__get__") _ _) _ _ _); refine call_md_get hx rfl htold hown hsub hty ?_) | wp_step))
 simp only [hname, Bool.false_eq_true, if_false]
 repeat (any_goals (first | assumption | ((with_reducible show wpAny _ _ (call (Value.builtin "method_descriptor.__get__") _ _) _ _ _); refine call_md_get hx rfl htold hown hsub hty ?_) | wp_step))
theorem set_getattr_none : typeLookup (.type "set") "__getattr__" = pure none := by rw [typeLookup_type, builtinLookup_eq_fast]; kernel_rfl
theorem entry_set_getattribute : entryFor table "set.__getattribute__" = some Builtin.«object.__getattribute__» :=
 entryFor_alias (id' := "object.__getattribute__") (by kernel_rfl) (by decide +kernel) (by decide +kernel) (by kernel_rfl)
theorem bound_dict {o : Obj} {es : Array DictEntry} {k : Nat} {name : Str} {id : String} {Q : Value → Shared → Prop} (hx : s.heap.get? d = some o) (hc : o.cls = .type "dict") (hdat : o.data = .dict es k) (hd : o.dict = none)
  (hl : typeLookup (.type "dict") name = pure (some (.builtin id))) (hty : typeOf (.builtin id) = pure (.type "method_descriptor")) (htold : Manifest.toldItsClass.contains id = false)
  (hown : ".".intercalate (id.cutAt '.').dropLast = "dict") (hname : (["__module__", "__name__", "__qualname__", "__doc__", "__annotations__"] : List Str).contains name = false)
  (h : Q (.ref s.heap.objs.size) { s with heap := s.heap.push (bmO id d), toks := s.toks + 1 }) :
  wpAny (model prog w) A (getAttr (.ref d) name true) Q E s := by
 obtain ⟨c, dct, dat, sl⟩ := o
 simp only at hc hdat hd
 subst hc hdat hd
 obtain ⟨hp, g, dr, tk, os⟩ := s
 have hT : ∀ tk', (⟨hp, g, dr, tk', os⟩ : Shared).TypeIs (.ref d) "dict" := fun _ => ⟨_, hx, rfl⟩
 have f3 := F.slot_dict_getattribute.lookup
 have f4 := F.slot_dict_getattribute.bind (.ref d)
 have f5 := am_dict_getattr_none
 unfold getAttr getAttrBy
 repeat (any_goals (first | assumption | exact hT _ | ((with_reducible show wpAny _ _ (call (Value.builtin "dict.__getattribute__") _ _) _ _ _); refine wpAny_call_entry F.slot_dict_getattribute (hT _) am_entry_dict_getattribute (getattribute_dict hx rfl rfl rfl hl hty htold hown hname ⟨_, rfl, ?_⟩) (F.args_dict_getattribute_2 _ _)) | wp_step))
theorem bound_set {o : Obj} {es : Array (Int × Value)} {k : Nat} {tb : SetTable} {name : Str} {id : String} {Q : Value → Shared → Prop} (hx : s.heap.get? d = some o) (hc : o.cls = .type "set") (hdat : o.data = .set es k tb) (hd : o.dict = none)
  (hl : typeLookup (.type "set") name = pure (some (.builtin id))) (hty : typeOf (.builtin id) = pure (.type "method_descriptor")) (htold : Manifest.toldItsClass.contains id = false)
  (hown : ".".intercalate (id.cutAt '.').dropLast = "set") (hname : (["__module__", "__name__", "__qualname__", "__doc__", "__annotations__"] : List Str).contains name = false)
  (h : Q (.ref s.heap.objs.size) { s with heap := s.heap.push (bmO id d), toks := s.toks + 1 }) :
  wpAny (model prog w) A (getAttr (.ref d) name true) Q E s := by
 obtain ⟨c, dct, dat, sl⟩ := o
 simp only at hc hdat hd
 subst hc hdat hd
 obtain ⟨hp, g, dr, tk, os⟩ := s
 have hT : ∀ tk', (⟨hp, g, dr, tk', os⟩ : Shared).TypeIs (.ref d) "set" := fun _ => ⟨_, hx, rfl⟩
 have f3 := F.slot_set_getattribute.lookup
 have f4 := F.slot_set_getattribute.bind (.ref d)
 have f5 := set_getattr_none
 unfold getAttr getAttrBy
 repeat (any_goals (first | assumption | exact hT _ | ((with_reducible show wpAny _ _ (call (Value.builtin "set.__getattribute__") _ _) _ _ _); refine wpAny_call_entry F.slot_set_getattribute (hT _) entry_set_getattribute (getattribute_set hx rfl rfl rfl hl hty htold hown hname ⟨_, rfl, ?_⟩) (F.args_set_getattribute_2 _ _)) | wp_step))
end
end
section
open PySem.Spec
section
variable {prog : Program} {w : World} {M : Model} {A : Around} {E : Value → Shared → Prop} {s : Shared} {d : Addr}
theorem check_bound {P : Unit → Shared → Prop} {id T : String} {rest : List Value} {o : Obj} (hx : s.heap.get? d = some o) (hcl : o.cls = .type T) (hnc : ∀ c, o.data ≠ .cls c) (hk : builtinKind id = some .method) (hva : Manifest.varargsMethods.contains id = false)
  (hmod : isSubtype (.type T) (.type "module") = pure false)
  (hargs : (match Manifest.signature? id with | some sig => Bind.checkArgs id { sig with full := s!"{Bind.lastOf T}.{Bind.lastOf id}" } ⟨.ref d :: rest, []⟩ | none => pure ()) = pure ()) (h : P () s) :
  wpAny (model prog w) A (checkBoundCall id ⟨.ref d :: rest, []⟩) P E s := by
 have hT : s.TypeIs (.ref d) T := ⟨o, hx, hcl⟩
 unfold checkBoundCall
 cases hsig : Manifest.signature? id with
 | none => exact wpAny_pure h
 | some sig =>
 rw [hsig] at hargs
 simp only [hk]
 rw [if_neg (by decide)]
 refine wpAny_bind (wpAny_isInstance hT hmod ?_)
 rw [hva]
 simp only [Bool.or_false, Bool.false_eq_true, if_false]
 unfold isType
 refine wpAny_bind (wpAny_bind (wpAny_load hx (wpAny_pure ?_)))
 refine KFB.if_not (c := _) (by cases q : o.data <;> first | rfl | exact absurd q (hnc _)) ?_
 refine wpAny_bind (wpAny_typeOf hT ?_)
 dsimp only
 exact wpAny_of_eq hargs h
theorem bound_call {B : Builtin} {S : PySem.Spec} {Q : Value → Shared → Prop} {u : Addr} {id T : String} {pos : List Value} (ho : s.heap.get? u = some (bmO id d)) {o : Obj} (hx : s.heap.get? d = some o) (hcl : o.cls = .type T) (hnc : ∀ c, o.data ≠ .cls c) (hk : builtinKind id = some .method) (hva : Manifest.varargsMethods.contains id = false)
  (hmod : isSubtype (.type T) (.type "module") = pure false)
  (hargs : (match Manifest.signature? id with | some sig => Bind.checkArgs id { sig with full := s!"{Bind.lastOf T}.{Bind.lastOf id}" } ⟨.ref d :: pos, []⟩ | none => pure ()) = pure ()) (hq : plainId id = true)
  (entry : entryFor table id = some B) (g : MeetsIn prog w (B ⟨.ref d :: pos, []⟩) S) (h : S A (wants Q E) s) : wpAny (model prog w) A (call (.ref u) pos) Q E s := by
 refine wpAny_call (codeAny_of_tree ?_)
 show wpAny _ A.in1 (callAny (.ref u) ⟨pos, []⟩) _ _ s
 simp only [callAny]
 refine wpAny_bind (wpAny_load ho ?_)
 simp only [bmO, show (Value.type "builtin_function_or_method" == Value.type "method" || Value.type "builtin_function_or_method" == Value.type "builtin_function_or_method" || Value.type "builtin_function_or_method" == Value.type "method-wrapper") = true by decide, if_true]
 refine KFB.if_so (by decide) ?_
 refine wpAny_bind (check_bound hx hcl hnc hk hva hmod hargs ?_)
 refine wpAny_bind (wpAny_pure (wpAny_pure ?_))
 exact ⟨plainId_quiet hq _, codeAny_builtin entry (by rw [Around.under_plainId hq]; exact g A (wants Q E) s h)⟩
end
section
variable {prog : Program} {w : World} {A : Around} {E : Value → Shared → Prop} {s : Shared} {F : Frag} {hb : Heap} {tabs : List Addr} {L d u : Addr} {l : List (Str × Value)} {T : List (Addr × Obj)} {pos : Pos} {Q : Value → Shared → Prop} {o : Obj} {id : String} {first : List Value} {trees : List (Bool × Sem Value)}
 {K : Type} [DecidableEq K] {knd : KeyKind prog w K} {kvs : List (K × Value)} {k : K} {key v dflt : Value}
theorem r_bdict {name : Str} (id : String) (S : St hb tabs L l T s.heap) (hm : (d, o) ∈ T) (hd : o.IsDictOf knd kvs) (h : ∀ u h', St hb tabs L l ((u, bmO id d) :: T) h' → Q (.ref u) { s with heap := h', toks := s.toks + 1 })
  (hl : typeLookup (.type "dict") name = pure (some (.builtin id))) (hty : typeOf (.builtin id) = pure (.type "method_descriptor")) (htold : Manifest.toldItsClass.contains id = false := by decide +kernel)
  (hown : ".".intercalate (id.cutAt '.').dropLast = "dict" := by decide +kernel) (hname : (["__module__", "__name__", "__qualname__", "__doc__", "__annotations__"] : List Str).contains name = false := by decide +kernel) :
  wpAny (model prog w) A (getAttr (.ref d) name true) Q E s := by
 obtain ⟨es, ep, hx, hdd, -⟩ := hd
 exact bound_dict (S.obj _ hm) hx.1 hdd hx.2.1 hl hty htold hown hname (h _ _ (S.push _))
theorem cw_bound (h : wpAny (model prog w) A (spliced trees) (fun vs s₁ => s₁.heap.get? u = some (bmO id d) ∧ wpAny (model prog w) A (call (.ref u) (first ++ vs)) Q E s₁) E s) (hp : trees.any (·.1) = false := by rfl) :
  wpAny (model prog w) A (callWith pos (.ref u) first trees []) Q E s := by
 unfold callWith
 refine wpAny_bind (wpAny_holding (evalArgs_any hp (wpAny_mono h (fun x s₁ h₁ => wpAny_bind (wpAny_standAt ?_)) fun _ _ x => x)))
 obtain ⟨ho, hcall⟩ := h₁
 simp only [hp, List.any_nil, Bool.or_false]
 refine wpAny_bind (m := keeperOf (.ref u)) ?_
 unfold keeperOf
 refine wpAny_bind (wpAny_load ho ?_)
 simp only [bmO, show (Value.type "builtin_function_or_method" != Value.type "method") = true by decide, show (Value.type "builtin_function_or_method" == Value.type "builtin_function_or_method" || Value.type "builtin_function_or_method" == Value.type "method-wrapper") = true by decide, if_true]
 refine wpAny_pure ?_
 exact wpAny_bind (wpAny_mono hcall (fun r s₂ hr => wpAny_bind (wpAny_holding (wpAny_point (wpAny_pure hr)))) fun _ _ x => x)
theorem dict_mod : isSubtype (.type "dict") (.type "module") = pure false := by rw [isSubtype_type]; kernel_rfl
theorem bm_get2 (G : Gd F tabs hb) (S : St hb tabs L l T s.heap) (hu : (u, bmO "dict.get" d) ∈ T) (hm : (d, o) ∈ T) (hd : o.IsDictOf knd kvs) (hkey : knd.is k key = true) (h : Q ((valueAt kvs k).getD dflt) { s with toks := s.toks + 1 }) :
  wpAny (model prog w) A (call (.ref u) [key, dflt]) Q E s := by
 have hD := dictAt S hm hd
 obtain ⟨es, ep, hx, hdd, -⟩ := id hd
 exact bound_call (T := "dict") (S.obj _ hu) (S.obj _ hm) hx.1 (fun c q => by rw [hdd] at q; cases q) (by decide +kernel) (by decide +kernel) dict_mod
  (by rw [PySem.signature?_of (id := "dict.get") (n := ['t', 'e', 'g']) (o := ['t', 'c', 'i', 'd']) (by kernel_rfl) PySem.F.owner_dict]; kernel_rfl) (by decide +kernel) PySem.F.entry_dict_get (meets_dict_get_default knd d hkey (S.notMods G hm) dflt) ⟨_, hD.mapOf, h⟩
theorem bm_contains (G : Gd F tabs hb) (S : St hb tabs L l T s.heap) (hu : (u, bmO "dict.__contains__" d) ∈ T) (hm : (d, o) ∈ T) (hd : o.IsDictOf knd kvs) (hkey : knd.is k key = true) (h : Q (.bool (valueAt kvs k).isSome) { s with toks := s.toks + 1 }) :
  wpAny (model prog w) A (call (.ref u) [key]) Q E s := by
 have hD := dictAt S hm hd
 obtain ⟨es, ep, hx, hdd, -⟩ := id hd
 exact bound_call (T := "dict") (S.obj _ hu) (S.obj _ hm) hx.1 (fun c q => by rw [hdd] at q; cases q) (by decide +kernel) (by decide +kernel) dict_mod
  (by first | kernel_rfl) (by decide +kernel) entry_dict_contains (meets_dict_contains knd d hkey (S.notMods G hm)) ⟨_, hD.mapOf, h⟩
end
end
section
abbrev setO (led : Bool) : Obj := { cls := .type "set", dict := none, data := .set #[] 0 (.fresh 0 0 led) }
section
variable {hb h h' : Heap} {tabs : List Addr} {L : Addr} {l l' : List (Str × Value)} {T own : List (Addr × Obj)}
theorem St.forget (S : St hb tabs L l T h) (hs : l'.Sublist l) : St hb tabs L l' T h := by
 obtain ⟨oL, e, es, ep, m, a, b, c, d, n⟩ := S.fm
 exact ⟨⟨oL, e, es, ep, m, a, b, c, fun p hp => d p (hs.subset hp), n.sublist (hs.map _)⟩, S.lnew, S.keep, S.tab, S.obj, S.new, S.nd⟩
end
section
variable {prog : Program} {w : World} {A : Around} {E : Value → Shared → Prop} {s : Shared} {F : Frag} {hb : Heap} {tabs : List Addr} {L d u a : Addr} {l : List (Str × Value)} {T : List (Addr × Obj)} {pos : Pos} {Q : Value → Shared → Prop} {o : Obj}
 {K : Type} [DecidableEq K] {knd : PySem.KeyKind prog w K} {k : K} {key v : Value} {vs : List Value} {n : Nat}
theorem r_set0 (S : St hb tabs L l T s.heap) (h : ∀ a led h', St hb tabs L l ((a, setO led) :: T) h' → Q (.ref a) { s with heap := h' }) : wpAny (model prog w) A (call (.type "set") []) Q E s :=
 call_set_0 fun led => h _ led _ (S.push _)
theorem r_append (i : Nat) (S : St hb tabs L l T s.heap) (hi : T[i]? = some (d, lstO vs n)) (h : ∀ h', St hb tabs L l (T.set i (d, lstO (vs ++ [v]) (n + 1))) h' → Q .none { s with heap := h' }) (hz : vs.length ≤ 10000) :
  wpAny (model prog w) A (call (.builtin "list.append") [.ref d, v]) Q E s :=
 append_at (hsz := by rw [sizeLine_eq, List.size_toArray]; omega) (S.obj _ (List.mem_of_getElem? hi)) fun h' hs ho => h h' (S.change i hi hs (by rw [ho]; simp [lstO]))
theorem setO_is (led : Bool) {h : Heap} (hx : h.get? d = some (setO led)) : h.SetOf knd d (fun _ => false) 0 :=
 ⟨_, #[], 0, .fresh 0 0 led, hx, ⟨rfl, rfl, rfl⟩, rfl, (fun e he => by simp at he), (fun k => ⟨fun q => by simp at q, fun q => by obtain ⟨e, he, _⟩ := q; simp at he⟩), by decide, by cases led <;> decide, rfl⟩
theorem r_bset {name : Str} (id : String) (led : Bool) (S : St hb tabs L l T s.heap) (hm : (d, setO led) ∈ T) (h : ∀ u h', St hb tabs L l ((u, bmO id d) :: T) h' → Q (.ref u) { s with heap := h', toks := s.toks + 1 })
  (hl : typeLookup (.type "set") name = pure (some (.builtin id))) (hty : typeOf (.builtin id) = pure (.type "method_descriptor")) (htold : Manifest.toldItsClass.contains id = false := by decide +kernel)
  (hown : ".".intercalate (id.cutAt '.').dropLast = "set" := by decide +kernel) (hname : (["__module__", "__name__", "__qualname__", "__doc__", "__annotations__"] : List Str).contains name = false := by decide +kernel) :
  wpAny (model prog w) A (getAttr (.ref d) name true) Q E s :=
 bound_set (S.obj _ hm) rfl rfl rfl hl hty htold hown hname (h _ _ (S.push _))
theorem set_mod : isSubtype (.type "set") (.type "module") = pure false := by rw [isSubtype_type]; kernel_rfl
theorem meets_set_contains (hkey : knd.is k key = true) (hsc : key.scannable = true) :
  MeetsIn prog w (Builtin.«frozenset.__contains__» ⟨[.ref a, key], []⟩) (fun _ R s => ∃ S n, s.heap.SetOf knd a S n ∧ R (.ok (.ret (.bool (S k)))) { s with toks := s.toks + 1 }) :=
 .of_wp fun A R s ⟨S, n, hS, h⟩ => by
  unfold Builtin.«frozenset.__contains__» Builtin.Frozenset.oneOther
  simp only [List.isEmpty_nil, bind_assoc]
  unfold Builtin.Frozenset.addrOf Builtin.Frozenset.withSetAsKey setContains
  refine wpAny_bind (wpAny_pure ?_)
  try dsimp only
  refine wpAny_bind (wpAny_pure ?_)
  try dsimp only
  refine wpAny_bind (wpAny_tryCatch ?_)
  refine wpAny_holding ?_
  refine wpAny_bind (knd.pyHash hkey ?_)
  refine wpAny_bind (wpAny_setFind_of (s := { s with toks := s.toks + 1 }) hkey hsc hS fun r hr => ?_)
  refine wpAny_pure ?_
  show wpAny _ _ (ret (Value.bool r.isSome)) _ _ _
  rw [hr]
  exact wpAny_pure ⟨_, rfl, h⟩
theorem bm_set (led : Bool) (S : St hb tabs L l T s.heap) (hu : (u, bmO "set.__contains__" d) ∈ T) (hm : (d, setO led) ∈ T) (hkey : knd.is k key = true) (hsc : key.scannable = true) (h : Q (.bool false) { s with toks := s.toks + 1 }) :
  wpAny (model prog w) A (call (.ref u) [key]) Q E s :=
 bound_call (T := "set") (S.obj _ hu) (S.obj _ hm) rfl (fun c q => by cases q) (by decide +kernel) (by decide +kernel) set_mod
  (by first | kernel_rfl) (by decide +kernel) entry_set_contains (meets_set_contains (knd := knd) hkey hsc) ⟨_, 0, setO_is led (S.obj _ hm), h⟩
end
end
section
def LetAt (la : List Str) (i : Nat) (v : Value) : Prop := ∃ c u, la[i]? = some c ∧ v = .str c u
structure ItV (prog : Program) (w : World) (hb : Heap) (tabs : List Addr) (Ra : List (Addr × Obj)) (I : Addr) (n : Nat) (P : Nat → Value → Prop) (Wt : Nat → Heap → Prop) (fp : List Addr) : Prop where
 walks : ∀ A : Around, A.handled = none → Walks prog w A I fp [I] n P Wt
 ex : ∀ i h, Wt i h → ∃ o, h.get? I = some o
 ro : ∀ b ∈ fp, b ∉ [I] → (∃ o, (b, o) ∈ Ra) ∨ ∃ o, hb.get? b = some o ∧ b ∉ tabs
structure ItU (prog : Program) (w : World) (hb : Heap) (tabs : List Addr) (Ra : List (Addr × Obj)) (I : Addr) (wr : List Addr) (n : Nat) (Pt : Nat → Array Value → Prop) (Wt : Nat → Heap → Prop) (Mid : Nat → Addr → Heap → Prop) (fp : List Addr) : Prop where
 walks : ∀ A : Around, A.handled = none → WalksU prog w A I fp wr n Pt Wt Mid
 ex : ∀ i h, Wt i h → ∀ b ∈ wr, ∃ o, h.get? b = some o
 ro : ∀ b ∈ fp, b ∉ wr → (∃ o, (b, o) ∈ Ra) ∨ ∃ o, hb.get? b = some o ∧ b ∉ tabs
structure SqV (prog : Program) (w : World) (hb : Heap) (tabs : List Addr) (Ra : List (Addr × Obj)) (va : Value) (la : List Str) : Prop where
 len : ∀ {A : Around} {E : Value → Shared → Prop} {s : Shared} {L : Addr} {l : List (Str × Value)} {T : List (Addr × Obj)} {Q : Value → Shared → Prop}, St hb tabs L l T s.heap → (∀ p ∈ Ra, p ∈ T) →
  (∀ t tk, Q (.int la.length t) { s with toks := tk }) → wpAny (model prog w) A (call (.builtin "len") [va]) Q E s
 hand : handedIn va = true
 small : la.length ≤ 60
 item : ∀ {A : Around} {E : Value → Shared → Prop} {s : Shared} {L : Addr} {l : List (Str × Value)} {T : List (Addr × Obj)} {Q : Value → Shared → Prop} {value slice : Expr} {i : Nat} {t : Tok} {c : Str}, St hb tabs L l T s.heap → (∀ p ∈ Ra, p ∈ T) →
  la[i]? = some c → (∀ u tk, Q (.str c u) { s with toks := tk }) → (∀ o k, subscripted slice false o (.int k t) = operate [o, .int k t] (getItem o (.int k t))) → wpAny (model prog w) A (subscriptTail value slice va (.int i t)) Q E s
 iter : ∀ {A : Around} {E : Value → Shared → Prop} {s : Shared} {L : Addr} {l : List (Str × Value)} {T : List (Addr × Obj)} {Q : Value → Shared → Prop}, St hb tabs L l T s.heap → (∀ p ∈ Ra, p ∈ T) →
  (∀ I o Wt fp h', ItV prog w hb tabs Ra I la.length (LetAt la) Wt fp → Wt 0 h' → St hb tabs L l (T ++ [(I, o)]) h' → Q (.ref I) { s with heap := h' }) → wpAny (model prog w) A (pyIter va) Q E s
 enum : ∀ {A : Around} {E : Value → Shared → Prop} {s : Shared} {L : Addr} {l : List (Str × Value)} {T : List (Addr × Obj)} {Q : Value → Shared → Prop}, A.handled = none → St hb tabs L l T s.heap → (∀ p ∈ Ra, p ∈ T) →
  (∀ I J o o' Wt Mid fp h', ItU prog w hb tabs Ra I [I, J] la.length (fun i vals => ∃ t x, LetAt la i x ∧ vals = #[.int i t, x]) Wt Mid fp → Wt 0 h' → St hb tabs L l (T ++ [(I, o), (J, o')]) h' → Q (.ref I) { s with heap := h' }) →
  wpAny (model prog w) A (call (.type "enumerate") [va]) Q E s
def letters (x : Str) : List Str := x.cps.toList.map fun c => ⟨#[c]⟩
theorem letters_len (x : Str) : (letters x).length = x.cps.size := by simp [letters]
theorem letters_at {x : Str} {i : Nat} {v : Value} (h : SignAt x i v) : LetAt (letters x) i v := by
 obtain ⟨c, u, e, rfl⟩ := h
 exact ⟨⟨#[c]⟩, u, by simp [letters, e], rfl⟩
theorem letters_get {x : Str} {i : Nat} {c : Str} (h : (letters x)[i]? = some c) : ∃ k, x.cps[i]? = some k ∧ c = ⟨#[k]⟩ := by
 unfold letters at h
 rw [List.getElem?_map] at h
 obtain ⟨k, e, rfl⟩ := Option.map_eq_some_iff.mp h
 exact ⟨k, by simpa using e, rfl⟩
section
variable {prog : Program} {w : World} {hb : Heap} {tabs : List Addr}
theorem walks_mono {A : Around} {I : Addr} {fp wr : List Addr} {n : Nat} {P P' : Nat → Value → Prop} {Wt : Nat → Heap → Prop} (W : Walks prog w A I fp wr n P Wt) (h : ∀ i v, P i v → P' i v) : Walks prog w A I fp wr n P' Wt :=
 ⟨W.sub, W.frame, fun i s Q E hi st hQ => W.item i s Q E hi st fun v h' tk a b c => hQ v h' tk (h _ _ a) b c, W.done, W.self⟩
theorem walksU_mono {A : Around} {I : Addr} {fp wr : List Addr} {n : Nat} {P P' : Nat → Array Value → Prop} {Wt : Nat → Heap → Prop} {Mid : Nat → Addr → Heap → Prop} (W : WalksU prog w A I fp wr n P Wt Mid) (h : ∀ i v, P i v → P' i v) : WalksU prog w A I fp wr n P' Wt Mid :=
 ⟨W.sub, W.frame, fun i s Q E hi st hQ => W.item i s Q E hi st fun T vals h' tk a b c d => hQ T vals h' tk (h _ _ a) b c d, W.go, W.apart, W.done, W.self⟩
theorem enum_new {h : Heap} {a b : Addr} {k : Int} {v : Value} (h' : IsEnum h a b k v) : ∃ o, h.get? a = some o := ⟨_, h'⟩
theorem sq_str (x : Str) (t : Tok) (hx : x.cps.size ≤ 60) : SqV prog w hb tabs [] (.str x t) (letters x) where
 len := fun S _ h => by
  have e : x.length = x.cps.size := rfl
  refine len_str (by rw [e]; omega) ?_
  have := h
  rw [letters_len] at this
  exact this _ _
 hand := rfl
 small := by rw [letters_len]; exact hx
 item := fun {A E s L l T Q value slice i u c} S _ hi h hs => by
  obtain ⟨k, e, rfl⟩ := letters_get hi
  have hlt : i < x.cps.size := by
   rcases Nat.lt_or_ge i x.cps.size with q | q
   ·exact q
   ·rw [Array.getElem?_eq_none q] at e; cases e
  refine tail_any (typeIs_str s x t) slot_str_getitem.lookup (getItem_str (c := k) ?_ ?_ (h _ _)) (hs _ _)
  ·simp only [Bool.or_eq_false_iff, decide_eq_false_iff_not]; omega
  ·have : seqIndex? (i : Int) x.length = some i := by
    have e2 : x.length = x.cps.size := rfl
    unfold seqIndex?
    rw [e2]
    simp
    omega
   rw [this]; exact e
 iter := fun {A E s L l T Q} S _ h => by
  refine wpAny_pyIter_strU ?_
  cases ha : x.cps.all (· < 128)
  ·have e : strIterType x = "str_iterator" := by simp [strIterType, ha]
   rw [e]
   refine h _ _ (fun i h => h.IsStrIter s.heap.objs.size "str_iterator" x t i) _ _ ⟨fun A hA => letters_len x ▸ walks_mono (Walks.strWide hA _ x t) fun _ _ => letters_at, fun i h q => let ⟨o, e, _⟩ := q; ⟨o, e⟩, fun b hb' hn => absurd hb' hn⟩ ⟨_, Heap.get?_push_size _ rfl, rfl, rfl⟩ (S.push _).last
  ·have e : strIterType x = "str_ascii_iterator" := by simp [strIterType, ha]
   rw [e]
   refine h _ _ (fun i h => h.IsStrIter s.heap.objs.size "str_ascii_iterator" x t i) _ _ ⟨fun A hA => letters_len x ▸ walks_mono (Walks.strAscii hA _ x t) fun _ _ => letters_at, fun i h q => let ⟨o, e, _⟩ := q; ⟨o, e⟩, fun b hb' hn => absurd hb' hn⟩ ⟨_, Heap.get?_push_size _ rfl, rfl, rfl⟩ (S.push _).last
 enum := fun {A E s L l T Q} hh S _ h => by
  refine call_enumerate_str fun h' he hi hz hk => ?_
  obtain ⟨oe, hoe⟩ := enum_new he
  obtain ⟨oi, hoi, -⟩ := id hi
  have S' : St hb tabs L l (T ++ [(s.heap.objs.size + 1, oe), (s.heap.objs.size, oi)]) h' := S.adds hk (fun p hp => by
   rcases List.mem_cons.mp hp with rfl | hp
   ·exact hoe
   ·rcases List.mem_cons.mp hp with rfl | hp
    ·exact hoi
    ·cases hp) (fun p hp => by
   rcases List.mem_cons.mp hp with rfl | hp
   ·exact Nat.le_succ _
   ·rcases List.mem_cons.mp hp with rfl | hp
    ·exact Nat.le_refl _
    ·cases hp) (by simp)
  cases ha : x.cps.all (· < 128)
  ·have e : strIterType x = "str_iterator" := by simp [strIterType, ha]
   rw [e] at hi
   refine h _ _ _ _ _ _ _ _ ⟨fun A hA => letters_len x ▸ walksU_mono (toU (WalksT.enumerateD (Draws.strWide (A := A.in1) hA s.heap.objs.size x t) (s.heap.objs.size + 1) (Nat.succ_ne_self _) (by simp) (by simp))) (fun i v q => ?e1), ?e2, ?e3⟩ ⟨⟨_, he⟩, hi⟩ S'
   case e1 =>
    obtain ⟨t, x', a, b⟩ := q
    exact ⟨t, x', letters_at a, b⟩
   case e2 =>
    rintro i h ⟨⟨old, q⟩, q2⟩ b hb'
    rcases List.mem_cons.mp hb' with rfl | hb'
    ·exact enum_new q
    ·rw [List.mem_singleton] at hb'; subst hb'
     obtain ⟨o, e, _⟩ := q2
     exact ⟨o, e⟩
   case e3 =>
    intro b hb' hn
    exact absurd hb' hn
  ·have e : strIterType x = "str_ascii_iterator" := by simp [strIterType, ha]
   rw [e] at hi
   refine h _ _ _ _ _ _ _ _ ⟨fun A hA => letters_len x ▸ walksU_mono (toU (WalksT.enumerateD (Draws.strAscii (A := A.in1) hA s.heap.objs.size x t) (s.heap.objs.size + 1) (Nat.succ_ne_self _) (by simp) (by simp))) (fun i v q => ?e1), ?e2, ?e3⟩ ⟨⟨_, he⟩, hi⟩ S'
   case e1 =>
    obtain ⟨t, x', a, b⟩ := q
    exact ⟨t, x', letters_at a, b⟩
   case e2 =>
    rintro i h ⟨⟨old, q⟩, q2⟩ b hb'
    rcases List.mem_cons.mp hb' with rfl | hb'
    ·exact enum_new q
    ·rw [List.mem_singleton] at hb'; subst hb'
     obtain ⟨o, e, _⟩ := q2
     exact ⟨o, e⟩
   case e3 =>
    intro b hb' hn
    exact absurd hb' hn
end
end
section
section
variable {K : Type} [DecidableEq K]
theorem valueAt_cons (k k' : K) (v : Value) (l : List (K × Value)) : valueAt ((k, v) :: l) k' = if k = k' then some v else valueAt l k' := by
 unfold valueAt
 rw [List.find?_cons]
 by_cases h : k = k'
 ·simp [h]
 ·simp [h]
theorem valueAt_append (l r : List (K × Value)) (k : K) : valueAt (l ++ r) k = (valueAt l k).or (valueAt r k) := by
 unfold valueAt
 rw [List.find?_append]
 cases l.find? fun kv => decide (kv.1 = k) <;> simp
theorem valueAt_map (l : List (K × Value)) (k k' : K) (v : Value) : valueAt (l.map fun kv => if kv.1 = k then (kv.1, v) else kv) k' = if k = k' then (valueAt l k').map fun _ => v else valueAt l k' := by
 induction l with
 | nil => simp [valueAt]
 | cons p l ih =>
  obtain ⟨a, u⟩ := p
  rw [List.map_cons]
  by_cases h : a = k
  ·simp only [h, if_true]
   rw [valueAt_cons, ih, valueAt_cons]
   by_cases h2 : k = k'
   ·simp [h2]
   ·simp [h2]
  ·simp only [h, if_false]
   rw [valueAt_cons, ih, valueAt_cons]
   by_cases h2 : a = k'
   ·have : k ≠ k' := fun e => h (h2.trans e.symm)
    simp [h2, this]
   ·simp [h2]
theorem any_iff (l : List (K × Value)) (k : K) : l.any (fun kv => decide (kv.1 = k)) = (valueAt l k).isSome := by
 induction l with
 | nil => rfl
 | cons p l ih =>
  obtain ⟨a, u⟩ := p
  rw [valueAt_cons, List.any_cons, ih]
  by_cases h : a = k <;> simp [h]
theorem valueAt_stored (l : List (K × Value)) (k k' : K) (v : Value) : valueAt (stored l k v) k' = if k = k' then some v else valueAt l k' := by
 unfold stored
 split
 ·rename_i h
  rw [valueAt_map]
  by_cases h2 : k = k'
  ·subst h2
   rw [any_iff] at h
   obtain ⟨u, e⟩ := Option.isSome_iff_exists.mp h
   simp [e]
  ·simp [h2]
 ·rename_i h
  rw [valueAt_append]
  have hn : valueAt l k = none := by
   rw [any_iff] at h
   simpa using h
  rw [valueAt_cons]
  by_cases h2 : k = k'
  ·subst h2; simp [hn]
  ·simp [h2, valueAt]
theorem stored_len (l : List (K × Value)) (k : K) (v : Value) : (stored l k v).length ≤ l.length + 1 := stored_length_le l k v
end
def places (lb : List Str) (c : Str) : List Nat := (List.range lb.length).filter fun i => decide (lb[i]? = some c)
theorem places_snoc (lb : List Str) (d c : Str) : places (lb ++ [d]) c = places lb c ++ if d = c then [lb.length] else [] := by
 unfold places
 rw [List.length_append, List.length_singleton, List.range_succ, List.filter_append]
 congr 1
 ·apply List.filter_congr
  intro i hi
  have hi := List.mem_range.mp hi
  rw [List.getElem?_append_left hi]
 ·rw [List.filter_cons]
  by_cases h : d = c <;> simp [h]
theorem places_nil_iff {lb : List Str} {c : Str} : places lb c = [] ↔ c ∉ lb := by
 unfold places
 rw [List.filter_eq_nil_iff]
 constructor
 ·intro h hm
  obtain ⟨i, hi, e⟩ := List.mem_iff_getElem.mp hm
  exact h i (List.mem_range.mpr hi) (by simp [List.getElem?_eq_getElem hi, e])
 ·intro h i hi hd
  exact h (List.mem_of_getElem? (of_decide_eq_true hd))
inductive NatsAre : List Value → List Nat → Prop
 | nil : NatsAre [] []
 | cons {n : Nat} {t : Tok} {vs : List Value} {ns : List Nat} : NatsAre vs ns → NatsAre (.int n t :: vs) (n :: ns)
theorem NatsAre.snoc {vs : List Value} {ns : List Nat} (h : NatsAre vs ns) (n : Nat) (t : Tok) : NatsAre (vs ++ [.int n t]) (ns ++ [n]) := by
 induction h with
 | nil => exact .cons .nil
 | cons _ ih => exact .cons ih
theorem NatsAre.len {vs : List Value} {ns : List Nat} (h : NatsAre vs ns) : vs.length = ns.length := by
 induction h with
 | nil => rfl
 | cons _ ih => rw [List.length_cons, List.length_cons, ih]
theorem NatsAre.get {vs : List Value} {ns : List Nat} (h : NatsAre vs ns) {i : Nat} {v : Value} (e : vs[i]? = some v) : ∃ n t, ns[i]? = some n ∧ v = .int n t := by
 induction h generalizing i with
 | nil => simp at e
 | cons _ ih =>
  rename_i n t vs ns _
  cases i with
  | zero => simp at e; subst e; exact ⟨n, t, by simp, rfl⟩
  | succ i => simp at e; obtain ⟨m, u, a, b⟩ := ih e; exact ⟨m, u, by simpa using a, b⟩
structure JRow where
 c : Str
 a : Addr
 vs : List Value
 n : Nat
def JRow.kv (r : JRow) : Str × Value := (r.c, .ref r.a)
def JRow.ob (r : JRow) : Addr × Obj := (r.a, lstO r.vs r.n)
structure Rows2 (lb : List Str) (rows : List JRow) : Prop where
 nd : (rows.map (·.c)).Nodup
 at_ : ∀ r ∈ rows, NatsAre r.vs (places lb r.c)
 all : ∀ c ∈ lb, c ∈ rows.map (·.c)
 sub : ∀ c ∈ rows.map (·.c), c ∈ lb
theorem valueAt_rows_some {rows : List JRow} {c : Str} {v : Value} (h : valueAt (rows.map JRow.kv) c = some v) : ∃ (j : Nat) (r : JRow), rows[j]? = some r ∧ r.c = c ∧ v = .ref r.a := by
 induction rows with
 | nil => simp [valueAt] at h
 | cons r rows ih =>
  rw [List.map_cons] at h
  rw [show r.kv = (r.c, Value.ref r.a) from rfl, valueAt_cons] at h
  split at h
  ·rename_i e
   cases h
   exact ⟨0, r, rfl, e, rfl⟩
  ·obtain ⟨j, r', a, b, c⟩ := ih h
   exact ⟨j + 1, r', by rw [List.getElem?_cons_succ]; exact a, b, c⟩
theorem valueAt_rows_none {rows : List JRow} {c : Str} (h : valueAt (rows.map JRow.kv) c = none) : c ∉ rows.map (·.c) := by
 intro hm
 obtain ⟨r, hr, rfl⟩ := List.mem_map.mp hm
 have : (valueAt (rows.map JRow.kv) r.c).isSome = true := by
  rw [← any_iff, List.any_eq_true]
  exact ⟨r.kv, List.mem_map.mpr ⟨r, hr, rfl⟩, by simp [JRow.kv]⟩
 rw [h] at this; cases this
theorem Rows2.old {lb : List Str} {rows : List JRow} (R : Rows2 lb rows) {j : Nat} {r : JRow} (hj : rows[j]? = some r) {t : Tok} {n : Nat} : Rows2 (lb ++ [r.c]) (rows.set j ⟨r.c, r.a, r.vs ++ [.int lb.length t], n⟩) := by
 have hm := List.mem_of_getElem? hj
 have hk : (rows.set j ⟨r.c, r.a, r.vs ++ [.int lb.length t], n⟩).map (·.c) = rows.map (·.c) := by
  rw [List.map_set]
  apply List.ext_getElem?
  intro i
  rw [List.getElem?_set]
  by_cases e : j = i
  ·subst e
   rw [List.getElem?_map, hj]
   simp [(List.getElem?_eq_some_iff.mp hj).1]
  ·rw [if_neg e]
 refine ⟨hk ▸ R.nd, fun r' hr' => ?_, fun c hc => ?_, fun c hc => ?_⟩
 ·obtain ⟨i, hi⟩ := List.mem_iff_getElem?.mp hr'
  rw [List.getElem?_set] at hi
  rw [places_snoc]
  by_cases e : j = i
  ·subst e
   rw [if_pos rfl] at hi
   split at hi
   ·cases hi
    rw [if_pos rfl]
    exact (R.at_ r hm).snoc _ _
   ·cases hi
  ·rw [if_neg e] at hi
   have hne : r.c ≠ r'.c := by
    intro q
    have h1 : (rows.map (·.c))[j]? = some r.c := by rw [List.getElem?_map, hj]; rfl
    have h2 : (rows.map (·.c))[i]? = some r.c := by rw [List.getElem?_map, hi, q]; rfl
    exact e ((List.getElem?_inj (List.getElem?_eq_some_iff.mp h1).1 R.nd).mp (h1.trans h2.symm))
   rw [if_neg hne, List.append_nil]
   exact R.at_ r' (List.mem_of_getElem? hi)
 ·rw [hk]
  rcases List.mem_append.mp hc with q | q
  ·exact R.all c q
  ·rw [List.mem_singleton.mp q]; exact List.mem_map.mpr ⟨r, hm, rfl⟩
 ·rw [hk] at hc
  exact List.mem_append_left _ (R.sub c hc)
theorem Rows2.new {lb : List Str} {rows : List JRow} (R : Rows2 lb rows) {c : Str} (hc : c ∉ rows.map (·.c)) {a : Addr} {t : Tok} {n : Nat} : Rows2 (lb ++ [c]) (rows ++ [⟨c, a, [.int lb.length t], n⟩]) := by
 have hlb : c ∉ lb := fun q => hc (R.all c q)
 refine ⟨?_, fun r' hr' => ?_, fun d hd => ?_, fun d hd => ?_⟩
 ·rw [List.map_append, List.nodup_append]
  refine ⟨R.nd, by simp, fun d hd e he q => hc ?_⟩
  simp at he
  rw [← he, ← q]; exact hd
 ·rw [places_snoc]
  rcases List.mem_append.mp hr' with q | q
  ·have : c ≠ r'.c := fun e => hc (e ▸ List.mem_map.mpr ⟨r', q, rfl⟩)
   rw [if_neg this, List.append_nil]
   exact R.at_ r' q
  ·rw [List.mem_singleton.mp q]
   show NatsAre [_] (places lb c ++ if c = c then _ else _)
   rw [if_pos rfl, places_nil_iff.mpr hlb]
   exact .cons .nil
 ·rw [List.map_append]
  rcases List.mem_append.mp hd with q | q
  ·exact List.mem_append_left _ (R.all d q)
  ·exact List.mem_append_right _ (by simpa using q)
 ·rw [List.map_append] at hd
  rcases List.mem_append.mp hd with q | q
  ·exact List.mem_append_left _ (R.sub d q)
  ·exact List.mem_append_right _ (by simpa using q)
theorem Rows2.nil : Rows2 [] [] := ⟨List.nodup_nil, nofun, nofun, nofun⟩
theorem stored_rows_new {rows : List JRow} {c : Str} {a : Addr} (h : valueAt (rows.map JRow.kv) c = none) : stored (rows.map JRow.kv) c (.ref a) = (rows ++ [(⟨c, a, [], 0⟩ : JRow)]).map JRow.kv := by
 unfold stored
 rw [any_iff, h]
 simp [JRow.kv]
theorem nodup_sub_len {α : Type} [DecidableEq α] : ∀ {l m : List α}, l.Nodup → (∀ x ∈ l, x ∈ m) → l.length ≤ m.length
 | [], m, _, _ => Nat.zero_le _
 | a :: l, m, nd, h => by
  have n := List.nodup_cons.mp nd
  have ha := h a (.head _)
  have ih := nodup_sub_len (l := l) (m := m.erase a) n.2 (fun x hx => (List.mem_erase_of_ne (fun e : x = a => n.1 (e ▸ hx))).mpr (h x (.tail _ hx)))
  have := List.length_erase_of_mem ha
  have hp : 0 < m.length := List.length_pos_of_mem ha
  rw [List.length_cons]; omega
theorem Rows2.small {lb : List Str} {rows : List JRow} (R : Rows2 lb rows) : rows.length ≤ lb.length := by
 have := nodup_sub_len R.nd R.sub
 rwa [List.length_map] at this
theorem places_len (lb : List Str) (c : Str) : (places lb c).length ≤ lb.length := by
 have := List.length_filter_le (fun i => decide (lb[i]? = some c)) (List.range lb.length)
 rwa [List.length_range] at this
section
variable {rows : List JRow} {j : Nat} {r r' : JRow} {X : List (Addr × Obj)}
theorem get_ob (hj : rows[j]? = some r) : (rows.map JRow.ob ++ X)[j]? = some r.ob := by
 have hl := (List.getElem?_eq_some_iff.mp hj).1
 rw [List.getElem?_append_left (by rw [List.length_map]; exact hl), List.getElem?_map, hj]; rfl
theorem set_ob (hj : rows[j]? = some r) : (rows.map JRow.ob ++ X).set j r'.ob = (rows.set j r').map JRow.ob ++ X := by
 have hl := (List.getElem?_eq_some_iff.mp hj).1
 rw [List.set_append_left _ _ (by rw [List.length_map]; exact hl), List.map_set]
theorem set_kv (hj : rows[j]? = some r) (hc : r'.c = r.c) (ha : r'.a = r.a) : (rows.set j r').map JRow.kv = rows.map JRow.kv := by
 rw [List.map_set]
 apply List.ext_getElem?
 intro i
 rw [List.getElem?_set]
 by_cases e : j = i
 ·subst e
  rw [List.getElem?_map, hj]
  simp [(List.getElem?_eq_some_iff.mp hj).1, JRow.kv, hc, ha]
 ·rw [if_neg e]
end
end
section
open PySem.Spec
section
variable {α : Type} {a b c d e f g i j k : α} {l : List α}
theorem m0 : a ∈ a :: l := .head _
theorem m1 : a ∈ b :: a :: l := .tail _ (.head _)
theorem m2 : a ∈ b :: c :: a :: l := .tail _ m1
theorem m3 : a ∈ b :: c :: d :: a :: l := .tail _ m2
theorem m4 : a ∈ b :: c :: d :: e :: a :: l := .tail _ m3
theorem m5 : a ∈ b :: c :: d :: e :: f :: a :: l := .tail _ m4
theorem m6 : a ∈ b :: c :: d :: e :: f :: g :: a :: l := .tail _ m5
theorem m7 : a ∈ b :: c :: d :: e :: f :: g :: i :: a :: l := .tail _ m6
theorem m8 : a ∈ b :: c :: d :: e :: f :: g :: i :: j :: a :: l := .tail _ m7
theorem m9 : a ∈ b :: c :: d :: e :: f :: g :: i :: j :: k :: a :: l := .tail _ m8
end
section
variable {prog : Program} {w : World} {A : Around} {E : Value → Shared → Prop} {s : Shared} {F : Frag} {hb : Heap} {tabs : List Addr} {L d u a : Addr} {l : List (Str × Value)} {T : List (Addr × Obj)} {pos : Pos} {Q : Value → Shared → Prop} {o : Obj} {env : Env}
 {K : Type} [DecidableEq K] {knd : PySem.KeyKind prog w K} {kvs : List (K × Value)} {k : K} {key v dflt : Value} {vs : List Value} {n : Nat}
theorem r_dmeth {pl : Sem Bool} {name : Str} {id : String} {Q : Value × List Value → Shared → Prop} (S : St hb tabs L l T s.heap) (hm : (d, o) ∈ T) (hd : o.IsDictOf knd kvs) (slot : Slot "dict" name id) (ty : typeOf (.builtin id) = pure (.type "method_descriptor"))
  (h : Q (.builtin id, [.ref d]) s) : wpAny (model prog w) A (getMethod (.ref d) name pl) Q E s := by
 obtain ⟨es, ep, hx, hdd, -⟩ := hd
 exact getMethod_builtin ⟨_, S.obj _ hm, hx.1⟩ PySem.F.plainAttrs_dict slot ty (fun a e => by cases e; exact ⟨_, S.obj _ hm, hx.2.1⟩) h
theorem r_lmeth {pl : Sem Bool} {name : Str} {id : String} {Q : Value × List Value → Shared → Prop} (S : St hb tabs L l T s.heap) (hm : (d, lstO vs n) ∈ T) (slot : Slot "list" name id) (ty : typeOf (.builtin id) = pure (.type "method_descriptor"))
  (h : Q (.builtin id, [.ref d]) s) : wpAny (model prog w) A (getMethod (.ref d) name pl) Q E s :=
 getMethod_builtin ⟨_, S.obj _ hm, rfl⟩ PySem.F.plainAttrs_list slot ty (fun a e => by cases e; exact ⟨_, S.obj _ hm, rfl⟩) h
theorem boot_enumerate : bootBuiltins (Str.ofString "enumerate") = some (.type "enumerate") := by kernel_rfl
theorem boot_set : bootBuiltins (Str.ofString "set") = some (.type "set") := by kernel_rfl
end
section
variable {prog : Program} {w : World} {A : Around} {E : Value → Shared → Prop} {s : Shared} {env : Env} {pos : Pos}
theorem as_each {n : Str} {es : List Expr} {y : Value} {ys : List Value} {Q : Unit → Shared → Prop} (h : wpAny (model prog w) A (storeName env n y) (fun _ s₁ => wpAny (model prog w) A (assignInOrder ((assignEach es env).map (·.2)) ys) Q E s₁) E s)
  (he : (assignEach (.Name n pos :: es) env).map (·.2) = assign (.Name n pos) env :: (assignEach es env).map (·.2) := by rfl) :
  wpAny (model prog w) A (assignInOrder ((assignEach (.Name n pos :: es) env).map (·.2)) (y :: ys)) Q E s := by
 rw [he]
 exact assignInOrder_cons (assign_Name h)
theorem as_none {Q : Unit → Shared → Prop} (h : Q () s) : wpAny (model prog w) A (assignInOrder ((assignEach [] env).map (·.2)) []) Q E s := assignInOrder_nil h
end
section
variable {M : Model} {A : Around} {E : Value → Shared → Prop} {s : Shared} {env : Env} {pos : Pos} {x : Expr} {rest : List Expr} {whole : Sem Value} {Q : Bool → Shared → Prop}
theorem r_and (h : wpAny M A (isTrue x env (eval x env)) (fun c s' => (c = true → wpAny M A (isTrue (.BoolOp .And rest pos) env whole) Q E s') ∧ (c = false → Q false s')) E s) : wpAny M A (isTrue (.BoolOp .And (x :: rest) pos) env whole) Q E s :=
 isTrue_and (wpAny_mono h (fun c s' z => by cases c; exact z.2 rfl; exact z.1 rfl) fun _ _ z => z)
theorem r_or (h : wpAny M A (isTrue x env (eval x env)) (fun c s' => (c = true → Q true s') ∧ (c = false → wpAny M A (isTrue (.BoolOp .Or rest pos) env whole) Q E s')) E s) : wpAny M A (isTrue (.BoolOp .Or (x :: rest) pos) env whole) Q E s :=
 isTrue_or (wpAny_mono h (fun c s' z => by cases c; exact z.2 rfl; exact z.1 rfl) fun _ _ z => z)
end
section
variable {prog : Program} {w : World} {A : Around} {E : Value → Shared → Prop} {s : Shared} {env : Env} {pos p' : Pos} {test value o i : Expr} {body orelse rest : List Stmt} {Q : Flow → Shared → Prop}
theorem q_ifP (P : Shared → Prop) (h : wpAny (model prog w) A (isTrue test env (eval test env)) (fun b s₂ =>
   (b = true → wpAny (model prog w) A (execs body env) (fun f s' => f = .next ∧ P s') E s₂) ∧
   (b = false → wpAny (model prog w) A (execs orelse env) (fun f s' => f = .next ∧ P s') E s₂)) E s)
  (k : ∀ s', P s' → wpAny (model prog w) A (execs rest env) Q E s') : wpAny (model prog w) A (execs (.If test body orelse pos :: rest) env) Q E s :=
 q_if (wpAny_mono h (fun b s₂ z => ⟨fun hb => wpAny_mono (z.1 hb) (fun f s' q => by obtain ⟨rfl, q⟩ := q; exact k _ q) fun _ _ z => z, fun hb => wpAny_mono (z.2 hb) (fun f s' q => by obtain ⟨rfl, q⟩ := q; exact k _ q) fun _ _ z => z⟩) fun _ _ z => z)
theorem q_setitem (h : wpAny (model prog w) A (eval value env) (fun v s₁ => wpAny (model prog w) A (eval o env) (fun ov s₂ => wpAny (model prog w) A (eval i env) (fun iv s₃ =>
   wpAny (model prog w) A (setItem ov iv v) (fun _ s₄ => wpAny (model prog w) A (execs rest env) Q E s₄) E s₃) E s₂) E s₁) E s)
  (hs : swapsWith value (some (.Subscript o i p')) pos.line env = pure false := by rfl) : wpAny (model prog w) A (execs (.Assign [.Subscript o i p'] value pos :: rest) env) Q E s :=
 wpAny_execs_cons (wpAny_Assign_Subscript h hs)
end
section
variable {prog : Program} {w : World} {A : Around} {E : Value → Shared → Prop} {s : Shared} {F : Frag} {hb : Heap} {tabs : List Addr} {L d u : Addr} {l : List (Str × Value)} {T : List (Addr × Obj)} {Q : Value → Shared → Prop} {o : Obj}
 {K : Type} [DecidableEq K] {knd : PySem.KeyKind prog w K} {kvs : List (K × Value)} {k : K} {key v : Value} {value slice : Expr}
theorem r_dsub (S : St hb tabs L l T s.heap) (hm : (d, o) ∈ T) (hd : o.IsDictOf knd kvs) (hkey : knd.is k key = true) (hv : valueAt kvs k = some v) (h : Q v { s with toks := s.toks + 1 })
  (hs : subscripted slice false (.ref d) key = operate [.ref d, key] (getItem (.ref d) key) := by with_unfolding_all rfl) : wpAny (model prog w) A (subscriptTail value slice (.ref d) key) Q E s := by
 have hD := dictAt S hm hd
 exact tail_any hD.typeIs PySem.F.slot_dict_getitem.lookup (r_getitem S hm hd hkey hv h) hs
end
end
section
open PySem.Spec
section
variable {prog : Program} {w : World} {A : Around} {E : Value → Shared → Prop} {s : Shared} {F : Frag} {hb : Heap} {tabs : List Addr} {L d u : Addr} {l : List (Str × Value)} {T : List (Addr × Obj)} {Q : Value → Shared → Prop} {vs : List Value} {n : Nat} {env : Env} {pos : Pos}
theorem r_iterL (S : St hb tabs L l T s.heap) (hm : (d, lstO vs n) ∈ T)
  (h : ∀ I o Wt fp h', ItV prog w hb tabs [(d, lstO vs n)] I vs.length (fun i v => vs[i]? = some v) Wt fp → Wt 0 h' → St hb tabs L l (T ++ [(I, o)]) h' → Q (.ref I) { s with heap := h' }) : wpAny (model prog w) A (pyIter (.ref d)) Q E s := by
 have hl : s.heap.IsList d vs.toArray := ⟨_, S.obj _ hm, rfl, n, rfl⟩
 have hne : d ≠ s.heap.objs.size := Nat.ne_of_lt (S.lt hm)
 refine wpAny_pyIter_list hl (h _ _ (fun i h => h.IsListIter s.heap.objs.size d i ∧ h.IsList d vs.toArray) [s.heap.objs.size, d] _ ⟨fun A hA => ?_, ?_, ?_⟩ ⟨⟨_, Heap.get?_push_size _ rfl, rfl, rfl⟩, ⟨_, Heap.get?_push_of_some _ (S.obj _ hm), rfl, n, rfl⟩⟩ (S.push _).last)
 case refine_1 =>
  have W := Walks.list (prog := prog) (w := w) hA s.heap.objs.size d hne vs.toArray
  rw [List.size_toArray] at W
  exact walks_mono W fun i v e => by simpa using e
 case refine_2 =>
  rintro i h ⟨⟨o, e, _⟩, _⟩
  exact ⟨o, e⟩
 case refine_3 =>
  intro b hb' hn
  rcases List.mem_cons.mp hb' with rfl | hb'
  ·exact absurd (.head _) hn
  ·rw [List.mem_singleton] at hb'
   subst hb'
   exact .inl ⟨_, .head _⟩
abbrev rngO (a b : Int) (t u v : Tok) : Obj := { cls := .type "range", data := .fields #[.int a t, .int b u, .int 1 v] }
theorem r_range {a b : Int} {t u : Tok} (S : St hb tabs L l T s.heap) (h : ∀ r v h' tk, St hb tabs L l ((r, rngO a b t u v) :: T) h' → Q (.ref r) { s with heap := h', toks := tk }) : wpAny (model prog w) A (call (.type "range") [.int a t, .int b u]) Q E s :=
 call_range_2 (h _ _ _ _ (S.push _))
theorem r_iterR {a b : Int} {t u v : Tok} (S : St hb tabs L l T s.heap) (hm : (d, rngO a b t u v) ∈ T) (ha : -1000 ≤ a) (ha' : a ≤ 1000) (hb1 : -1000 ≤ b) (hb' : b ≤ 1000)
  (h : ∀ I o Wt fp h', ItV prog w hb tabs [] I (b - a).toNat (fun i v => ∃ t, v = .int (a + i) t) Wt fp → Wt 0 h' → St hb tabs L l (T ++ [(I, o)]) h' → Q (.ref I) { s with heap := h' }) : wpAny (model prog w) A (pyIter (.ref d)) Q E s := by
 have e : Builtin.Range.rangeSize a b 1 = ((b - a).toNat : Int) := by rw [rangeSize_one]; split <;> omega
 refine wpAny_pyIter_range (S.obj _ hm) (small_one (by omega) (by omega) (by omega) (by omega)) (h _ _ (fun i h => IsRangeIter h s.heap.objs.size (a + (i : Nat) * 1) (((b - a).toNat : Int) - (i : Nat)) 1) [s.heap.objs.size] _ ⟨fun A hA => ?_, ?_, ?_⟩ ?_ (S.push _).last)
 case refine_1 =>
  exact walks_mono (Walks.range (prog := prog) (w := w) hA s.heap.objs.size a 1 (b - a).toNat) fun i v q => by
   obtain ⟨t, q⟩ := q
   exact ⟨t, by rw [q, Int.mul_one]⟩
 case refine_2 => exact fun i h q => ⟨_, q⟩
 case refine_3 =>
  intro b hb' hn
  exact absurd hb' hn
 case refine_4 =>
  show (s.heap.push _).get? _ = _
  rw [e]
  simp
  exact Heap.get?_push_size _ rfl
theorem as_sub {o i : Expr} {v : Value} {Q : Unit → Shared → Prop} (h : wpAny (model prog w) A (eval o env) (fun ov s₁ => wpAny (model prog w) A (eval i env) (fun iv s₂ => wpAny (model prog w) A (setItem ov iv v) Q E s₂) E s₁) E s) :
  wpAny (model prog w) A (assign (.Subscript o i pos) env v) Q E s := by
 rw [assign_Subscript]
 refine wpAny_bind (wpAny_holding (wpAny_mono h (fun ov s₁ z => wpAny_bind (wpAny_holding (wpAny_mono z (fun iv s₂ z => wpAny_bind (wpAny_standAt (wpAny_bind (wpAny_holding (wpAny_mono z (fun _ s₃ z => fun Γ p hΓ => by simp only [Sem.wp_release]; exact z) fun _ _ z => z))))) fun _ _ z => z))) fun _ _ z => z))
theorem boot_range : bootBuiltins (Str.ofString "range") = some (.type "range") := by kernel_rfl
end
end
section
open PySem.Spec
section
variable {prog : Program} {w : World} {A : Around} {E : Value → Shared → Prop} {s : Shared} {env : Env} {pos : Pos} {test : Expr} {body rest : List Stmt} {Q : Flow → Shared → Prop} {hb : Heap} {tabs : List Addr} {L d : Addr} {l : List (Str × Value)} {T : List (Addr × Obj)}
theorem q_while (P : Shared → Prop) (I : Nat → Shared → Prop) (n : Nat) (h0 : I n s)
  (turn : ∀ E' n s, I n s → wpAny (model prog w) A (isTrue test env (eval test env)) (fun b s₂ =>
   (b = true → wpAny (model prog w) A (execs body env) (fun f s₃ => match f with
    | .next | .cont => ∃ m, m < n ∧ I m s₃
    | .brk => P s₃
    | .ret v => Q (.ret v) s₃) E' s₂) ∧ (b = false → P s₂)) E' s)
  (k : ∀ s', P s' → wpAny (model prog w) A (execs rest env) Q E s') : wpAny (model prog w) A (execs (.While test body [] pos :: rest) env) Q E s := by
 refine wpAny_execs_cons (wpAny_While (codeAny_mono (R := fun r s' => match r with
   | .ok .next => P s'
   | .ok .cont => False
   | .ok .brk => False
   | .ok (.ret v) => Q (.ret v) s'
   | .error e => False) (codeAny_whileLoop I (fun n s hI => ?_) n h0) fun r s' z => ?_))
 ·refine wpAny_mono (turn _ n s hI) (fun b s₂ z => ?_) fun _ _ z => z
  cases b with
  | true =>
   refine wpAny_mono (z.1 rfl) (fun f s₃ z => ?_) fun _ _ z => z
   cases f <;> exact z
  | false => exact wpAny_execs_nil (z.2 rfl)
 ·rcases r with e | (v | _ | _ | _) <;> first | exact z.elim | exact z | exact k _ z
theorem q_whileNot (P : Shared → Prop) (h : ∀ E', wpAny (model prog w) A (isTrue test env (eval test env)) (fun b s₂ => b = false ∧ P s₂) E' s)
  (k : ∀ s', P s' → wpAny (model prog w) A (execs rest env) Q E s') : wpAny (model prog w) A (execs (.While test body [] pos :: rest) env) Q E s :=
 q_while P (fun _ s' => s' = s) 0 rfl (fun E' n s' e => by
  subst e
  exact wpAny_mono (h E') (fun b s₂ z => ⟨fun hb => (by rw [z.1] at hb; cases hb), fun _ => z.2⟩) fun _ _ z => z) k
theorem as_tuple {elts : List Expr} {x1 : Nat} {tpos : Pos} {vs : List Value} {Q : Unit → Shared → Prop} (hh : A.handled = none) (S : St hb tabs L l T s.heap) (hm : (d, tupO vs) ∈ T)
  (h : ∀ h', St hb tabs L l T h' → wpAny (model prog w) A (assignInOrder ((assignEach elts env).map (·.2)) vs) Q E { s with heap := h' })
  (hsz : (assignEach elts env).length = vs.length := by rfl) (hstar : (assignEach elts env).findIdx? (·.1) = none := by kernel_rfl) :
  wpAny (model prog w) A (assign (.Tuple elts x1 tpos) env (.ref d)) Q E s :=
 wpAny_assign_Tuple hh (items := vs.toArray) ⟨_, S.obj _ hm, rfl, _, rfl⟩ (by rw [List.size_toArray]; exact hsz) hstar fun h' he => h h' (S.extBut he)
end
section
variable {M : Model} {α : Type} {A : Around} {E : Value → Shared → Prop} {s : Shared} {hb : Heap} {tabs : List Addr} {L : Addr} {l : List (Str × Value)} {T : List (Addr × Obj)} {t : Sem α} {Q : α → Shared → Prop}
theorem restate (S : St hb tabs L l T s.heap) (h : ∀ s', Kp s s' → St hb tabs L l T s'.heap → wpAny M A t Q E s') : wpAny M A t Q E s := h s Kp.refl S
theorem set_contains_lookup : typeLookup (.type "set") "__contains__" = pure (some (.builtin "set.__contains__")) := by rw [typeLookup_type, builtinLookup_eq_fast]; kernel_rfl
theorem set_contains_type : typeOf (.builtin "set.__contains__") = pure (.type "method_descriptor") := by show builtinType _ = _; rw [builtinType_eq_fast]; kernel_rfl
theorem dict_get_lookup : typeLookup (.type "dict") "get" = pure (some (.builtin "dict.get")) := by rw [typeLookup_type, builtinLookup_eq_fast]; kernel_rfl
theorem dict_get_type : typeOf (.builtin "dict.get") = pure (.type "method_descriptor") := by show builtinType _ = _; rw [builtinType_eq_fast]; kernel_rfl
end
end
section
def KOk {α : Type} (D : Nat → Nat → Prop) (Ans : Nat → Nat → Bool → Prop) (P : α → Prop) : KasT α → Prop
 | .ret a => P a
 | .ask i j k => D i j ∧ ∀ b, Ans i j b → KOk D Ans P (k b)
theorem KOk.bind {α β : Type} {D : Nat → Nat → Prop} {Ans : Nat → Nat → Bool → Prop} {P : α → Prop} {P' : β → Prop} {f : α → KasT β} : ∀ {t : KasT α}, KOk D Ans P t → (∀ a, P a → KOk D Ans P' (f a)) → KOk D Ans P' (t.bind f)
 | .ret a, h, hf => hf a h
 | .ask i j k, h, hf => ⟨h.1, fun b hb => KOk.bind (h.2 b hb) hf⟩
theorem KOk.mono {α : Type} {D : Nat → Nat → Prop} {Ans : Nat → Nat → Bool → Prop} {P P' : α → Prop} (hp : ∀ a, P a → P' a) : ∀ {t : KasT α}, KOk D Ans P t → KOk D Ans P' t
 | .ret a, h => hp a h
 | .ask i j k, h => ⟨h.1, fun b hb => KOk.mono hp (h.2 b hb)⟩
theorem KOk.wp {α : Type} {D : Nat → Nat → Prop} {Ans : Nat → Nat → Bool → Prop} {P : α → Prop} {cmp : Nat → Nat → (Bool → Shared → Prop) → Shared → Prop} {Inv : Shared → Prop}
  (hc : ∀ i j (C : Bool → Shared → Prop) s, Inv s → D i j → (∀ b s', Inv s' → Ans i j b → C b s') → cmp i j C s) {Q : α → Shared → Prop} (hQ : ∀ a s, Inv s → P a → Q a s) :
  ∀ {t : KasT α} {s : Shared}, KOk D Ans P t → Inv s → t.kasWp cmp Q s
 | .ret a, s, h, hs => hQ a s hs h
 | .ask i j k, s, h, hs => hc i j _ s hs h.1 fun b s' hs' hb => KOk.wp hc hQ (h.2 b hb) hs'
section
variable {n : Nat} {H : Prop} {rk : Nat → Nat}
def Rk (rk : Nat → Nat) (p : Array Nat) (i : Nat) : Nat := rk (p.getD i 0)
def SortedTo' (rk : Nat → Nat) (p : Array Nat) (m : Nat) : Prop := ∀ i j, i ≤ j → j < m → Rk rk p i ≤ Rk rk p j
def Pm (n : Nat) (p : Array Nat) : Prop := p.Perm (List.range n).toArray
abbrev DomN (n : Nat) (i j : Nat) : Prop := i < n ∧ j < n
abbrev AnsR (H : Prop) (rk : Nat → Nat) (i j : Nat) (b : Bool) : Prop := H → b = decide (rk i < rk j)
theorem Pm.size {p : Array Nat} (h : Pm n p) : p.size = n := by rw [Array.Perm.size_eq h]; simp
theorem Pm.lt {p : Array Nat} (h : Pm n p) (hn : 0 < n) (i : Nat) : p.getD i 0 < n := by
 by_cases hi : i < p.size
 ·have e : p.getD i 0 = p[i] := by simp [Array.getD, hi]
  rw [e]
  have hm : p[i] ∈ p.toList := by simp
  have := (Array.perm_iff_toList_perm.mp h).mem_iff.mp hm
  simpa using this
 ·have e : p.getD i 0 = 0 := by simp [Array.getD, hi]
  rw [e]; exact hn
theorem rk_congr {p q : Array Nat} {i j : Nat} (h : p[i]? = q[j]?) : Rk rk p i = Rk rk q j := by
 unfold Rk
 rw [Array.getD_eq_getD_getElem?, Array.getD_eq_getD_getElem?, h]
theorem rk_rev {p : Array Nat} {i j : Nat} (hj : j ≤ p.size) (k : Nat) : Rk rk (kas_rev p i j) k = if i ≤ k ∧ k < j then Rk rk p (i + j - 1 - k) else Rk rk p k := by
 have e := getElem?_mirror_all (i := i) hj k
 unfold kas_rev
 by_cases h : i ≤ k ∧ k < j
 ·rw [if_pos h] at e ⊢; exact rk_congr e
 ·rw [if_neg h] at e ⊢; exact rk_congr e
theorem pm_rev {p : Array Nat} (h : Pm n p) (i j : Nat) : Pm n (kas_rev p i j) := (mirror_perm p i j _).trans h
theorem asc_ok (hn : 0 < n) {p : Array Nat} (hp : Pm n p) : ∀ (f m : Nat), (H → SortedTo' rk p m) → 0 < m →
  KOk (DomN n) (AnsR H rk) (fun r => m ≤ r ∧ r ≤ m + f ∧ (H → SortedTo' rk p r) ∧ (H → r < m + f → Rk rk p r < Rk rk p (r - 1))) (kas_asc p f m)
 | 0, m, hs, hm => ⟨Nat.le_refl _, Nat.le_refl _, hs, fun _ h => absurd h (Nat.lt_irrefl _)⟩
 | f + 1, m, hs, hm => by
  refine ⟨⟨hp.lt hn _, hp.lt hn _⟩, fun b hb => ?_⟩
  cases b with
  | true =>
   refine ⟨Nat.le_refl _, Nat.le_add_right _ _, hs, fun h _ => ?_⟩
   exact of_decide_eq_true (hb h).symm
  | false =>
   have hs' : H → SortedTo' rk p (m + 1) := fun h i j hij hj => by
    have hlt : ¬ Rk rk p m < Rk rk p (m - 1) := of_decide_eq_false (hb h).symm
    rcases Nat.lt_or_ge j m with q | q
    ·exact hs h i j hij q
    ·have : j = m := by omega
     subst this
     rcases Nat.lt_or_ge i j with q2 | q2
     ·have := hs h i (j - 1) (by omega) (by omega)
      omega
     ·have : i = j := by omega
      subst this; exact Nat.le_refl _
   have ih := asc_ok hn hp f (m + 1) hs' (by omega)
   have : m + 1 + f = m + (f + 1) := by omega
   rw [this] at ih
   refine KOk.mono (fun r hr => ⟨by omega, hr.2.1, hr.2.2.1, hr.2.2.2⟩) ih
def DescTo (rk : Nat → Nat) (p : Array Nat) (m : Nat) : Prop := ∀ i j, i ≤ j → j < m → Rk rk p j ≤ Rk rk p i
def EqEnd (rk : Nat → Nat) (p : Array Nat) (m q : Nat) : Prop := ∀ x, m - (q + 1) ≤ x → x < m → Rk rk p x = Rk rk p (m - 1)
theorem rev_equal {p : Array Nat} {m q : Nat} (hm : m ≤ p.size) (he : EqEnd rk p m q) (x : Nat) : Rk rk (kas_rev p (m - (q + 1)) m) x = Rk rk p x := by
 rw [rk_rev hm]
 split
 ·rename_i h
  rw [he _ (by omega) (by omega), he x h.1 h.2]
 ·rfl
theorem desc_ok (hn : 0 < n) : ∀ (f : Nat) (p : Array Nat) (m q : Nat), Pm n p → 0 < m → q < m → m + f ≤ n → (H → DescTo rk p m ∧ EqEnd rk p m q) →
  KOk (DomN n) (AnsR H rk) (fun r => Pm n r.1 ∧ m ≤ r.2.1 ∧ r.2.1 ≤ m + f ∧ r.2.2 < r.2.1 ∧ (H → DescTo rk r.1 r.2.1 ∧ EqEnd rk r.1 r.2.1 r.2.2)) (kas_desc f p m q)
 | 0, p, m, q, hp, hm, hq, hf, hs => ⟨hp, Nat.le_refl _, Nat.le_refl _, hq, hs⟩
 | f + 1, p, m, q, hp, hm, hq, hf, hs => by
  have hsz := hp.size
  refine ⟨⟨hp.lt hn _, hp.lt hn _⟩, fun b hb => ?_⟩
  have ef : m + 1 + f = m + (f + 1) := by omega
  cases b with
  | true =>
   have next : ∀ p', Pm n p' → (H → ∀ x, Rk rk p' x = Rk rk p x) → KOk (DomN n) (AnsR H rk) (fun r => Pm n r.1 ∧ m ≤ r.2.1 ∧ r.2.1 ≤ m + (f + 1) ∧ r.2.2 < r.2.1 ∧ (H → DescTo rk r.1 r.2.1 ∧ EqEnd rk r.1 r.2.1 r.2.2)) (kas_desc f p' (m + 1) 0) := by
    intro p' hp' hr
    have ih := desc_ok hn f p' (m + 1) 0 hp' (by omega) (by omega) (by omega) (fun h => by
     have hlt : Rk rk p m < Rk rk p (m - 1) := of_decide_eq_true (hb h).symm
     have hr := hr h
     refine ⟨fun i j hij hj => ?_, fun x h1 h2 => by congr 1; omega⟩
     rw [hr, hr]
     rcases Nat.lt_or_ge j m with q1 | q1
     ·exact (hs h).1 i j hij q1
     ·have : j = m := by omega
      subst this
      rcases Nat.lt_or_ge i j with q2 | q2
      ·have := (hs h).1 i (j - 1) (by omega) (by omega)
       omega
      ·have : i = j := by omega
       subst this; exact Nat.le_refl _)
    rw [ef] at ih
    exact KOk.mono (fun r hr => ⟨hr.1, by omega, hr.2.2⟩) ih
   show KOk _ _ _ (if q > 0 then kas_desc f (kas_rev p (m - (q + 1)) m) (m + 1) 0 else kas_desc f p (m + 1) 0)
   split
   ·exact next _ (pm_rev hp _ _) fun h x => rev_equal (by omega) (hs h).2 x
   ·exact next _ hp fun _ _ => rfl
  | false =>
   show KOk _ _ _ (KasT.ask (p.getD (m - 1) 0) (p.getD m 0) fun d => if d = true then .ret (p, m, q) else kas_desc f p (m + 1) (q + 1))
   refine ⟨⟨hp.lt hn _, hp.lt hn _⟩, fun d hd => ?_⟩
   cases d with
   | true => exact ⟨hp, Nat.le_refl _, Nat.le_add_right _ _, hq, hs⟩
   | false =>
    have ih := desc_ok hn f p (m + 1) (q + 1) hp (by omega) (by omega) (by omega) (fun h => by
     have h1 : ¬ Rk rk p m < Rk rk p (m - 1) := of_decide_eq_false (hb h).symm
     have h2 : ¬ Rk rk p (m - 1) < Rk rk p m := of_decide_eq_false (hd h).symm
     refine ⟨fun i j hij hj => ?_, fun x h3 h4 => ?_⟩
     ·rcases Nat.lt_or_ge j m with q1 | q1
      ·exact (hs h).1 i j hij q1
      ·have : j = m := by omega
       subst this
       rcases Nat.lt_or_ge i j with q2 | q2
       ·have := (hs h).1 i (j - 1) (by omega) (by omega)
        omega
       ·have : i = j := by omega
        subst this; exact Nat.le_refl _
     ·rw [Nat.add_sub_cancel]
      rcases Nat.lt_or_ge x m with q1 | q1
      ·have := (hs h).2 x (by omega) q1
       omega
      ·have : x = m := by omega
       subst this; rfl)
    rw [ef] at ih
    exact KOk.mono (fun r hr => ⟨hr.1, by omega, hr.2.2⟩) ih
def CntP (n : Nat) (H : Prop) (rk : Nat → Nat) (r : Nat × Array Nat) : Prop := Pm n r.2 ∧ 0 < r.1 ∧ r.1 ≤ n ∧ (H → SortedTo' rk r.2 r.1)
theorem tail3_ok (hn : 0 < n) {m : Nat} {p : Array Nat} (hp : Pm n p) (hm : 0 < m) (hmn : m ≤ n) (hd : H → DescTo rk p m) : KOk (DomN n) (AnsR H rk) (CntP n H rk) (kas_tail3 m n p) := by
 have hsz := hp.size
 refine KOk.bind (asc_ok hn (pm_rev hp 0 m) (n - m) m (fun h i j hij hj => ?_) hm) fun r hr => ⟨pm_rev hp 0 m, by show 0 < r; omega, by show r ≤ n; omega, hr.2.2.1⟩
 rw [rk_rev (by omega), rk_rev (by omega), if_pos ⟨by omega, by omega⟩, if_pos ⟨by omega, hj⟩]
 exact hd h _ _ (by omega) (by omega)
theorem descPart_ok (hn : 0 < n) {m : Nat} {p : Array Nat} (hp : Pm n p) (hm : 0 < m) (hmn : m < n) (hd : H → DescTo rk p (m + 1)) : KOk (DomN n) (AnsR H rk) (CntP n H rk) (kas_descPart m n p) := by
 refine KOk.bind (desc_ok hn (n - (m + 1)) p (m + 1) 0 hp (by omega) (by omega) (by omega) (fun h => ⟨hd h, fun x h1 h2 => by congr 1; omega⟩)) fun r hr => ?_
 obtain ⟨h1, h2, h3, h4, h5⟩ := hr
 have hsz := h1.size
 show KOk _ _ _ (if r.2.2 > 0 then kas_tail3 r.2.1 n (kas_rev r.1 (r.2.1 - (r.2.2 + 1)) r.2.1) else kas_tail3 r.2.1 n r.1)
 split
 ·refine tail3_ok hn (pm_rev h1 _ _) (by omega) (by omega) fun h i j hij hj => ?_
  rw [rev_equal (by omega) (h5 h).2, rev_equal (by omega) (h5 h).2]
  exact (h5 h).1 i j hij hj
 ·exact tail3_ok hn h1 (by omega) (by omega) fun h => (h5 h).1
theorem count_ok (hn : 0 < n) {p : Array Nat} (hp : Pm n p) : KOk (DomN n) (AnsR H rk) (CntP n H rk) (kas_count n p) := by
 have hsz := hp.size
 refine KOk.bind (asc_ok hn hp (n - 1) 1 (fun h i j hij hj => (by omega : i = j) ▸ Nat.le_refl _) (by omega)) fun m hm => ?_
 obtain ⟨h1, h2, h3, h4⟩ := hm
 show KOk _ _ _ (if (m == n) = true then .ret (m, p) else if m > 1 then KasT.ask (p.getD 0 0) (p.getD (m - 1) 0) fun c => if c = true then .ret (m, p) else kas_descPart m n (kas_rev p 0 m) else kas_descPart m n p)
 split
 ·exact ⟨hp, by show 0 < m; omega, by show m ≤ n; omega, h3⟩
 ·rename_i hne
  have hne : m ≠ n := fun e => hne (by rw [e]; simp)
  split
  ·refine ⟨⟨hp.lt hn _, hp.lt hn _⟩, fun b hb => ?_⟩
   cases b with
   | true => exact ⟨hp, by show 0 < m; omega, by show m ≤ n; omega, h3⟩
   | false =>
    refine descPart_ok hn (pm_rev hp _ _) (by omega) (by omega) fun h i j hij hj => ?_
    have hlt : ¬ Rk rk p 0 < Rk rk p (m - 1) := of_decide_eq_false (hb h).symm
    have hs := h3 h
    have hm4 := h4 h (by omega)
    have eq : ∀ x, x < m → Rk rk p x = Rk rk p 0 := fun x hx => by
     have a := hs 0 x (by omega) hx
     have b := hs x (m - 1) (by omega) (by omega)
     omega
    have e1 := eq (m - 1) (by omega)
    have val : ∀ x, x ≤ m → Rk rk (kas_rev p 0 m) x = if x < m then Rk rk p 0 else Rk rk p m := fun x hx => by
     rw [rk_rev (by omega)]
     by_cases q : x < m
     ·rw [if_pos ⟨Nat.zero_le _, q⟩, if_pos q, eq (0 + m - 1 - x) (by omega)]
     ·rw [if_neg (fun z => q z.2), if_neg q]
      have : x = m := by omega
      rw [this]
    rw [val j (by omega), val i (by omega)]
    by_cases q : i < m
    ·rw [if_pos q]
     split
     ·exact Nat.le_refl _
     ·omega
    ·rw [if_neg q, if_neg (by omega)]
     exact Nat.le_refl _
  ·have hm1 : m = 1 := by omega
   subst hm1
   refine descPart_ok hn hp (by omega) (by omega) fun h i j hij hj => ?_
   have hm4 := h4 h (by omega)
   rcases Nat.lt_or_ge i j with q | q
   ·have : i = 0 := by omega
    have : j = 1 := by omega
    subst i j
    exact Nat.le_of_lt hm4
   ·have : i = j := by omega
    subst this; exact Nat.le_refl _
theorem place_ok (hn : 0 < n) {p : Array Nat} (hp : Pm n p) {k : Nat} : ∀ (f l r : Nat), l ≤ r → r ≤ k → r - l ≤ f → (H → SortedTo' rk p k ∧ (∀ x, x < l → Rk rk p x ≤ Rk rk p k) ∧ ∀ x, r ≤ x → x < k → Rk rk p k < Rk rk p x) →
  KOk (DomN n) (AnsR H rk) (fun l => l ≤ k ∧ (H → (∀ x, x < l → Rk rk p x ≤ Rk rk p k) ∧ ∀ x, l ≤ x → x < k → Rk rk p k < Rk rk p x)) (kas_place p k f l r)
 | 0, l, r, hlr, hrk, hf, hs => by
  have : l = r := by omega
  subst this
  exact ⟨hrk, fun h => (hs h).2⟩
 | f + 1, l, r, hlr, hrk, hf, hs => by
  show KOk _ _ _ (if l ≥ r then .ret l else KasT.ask (p.getD k 0) (p.getD ((l + r) / 2) 0) fun c => if c = true then kas_place p k f l ((l + r) / 2) else kas_place p k f ((l + r) / 2 + 1) r)
  split
  ·have : l = r := by omega
   subst this
   exact ⟨hrk, fun h => (hs h).2⟩
  ·refine ⟨⟨hp.lt hn _, hp.lt hn _⟩, fun b hb => ?_⟩
   cases b with
   | true =>
    refine place_ok hn hp f l ((l + r) / 2) (by omega) (by omega) (by omega) fun h => ⟨(hs h).1, (hs h).2.1, fun x h1 h2 => ?_⟩
    have hlt : Rk rk p k < Rk rk p ((l + r) / 2) := of_decide_eq_true (hb h).symm
    have := (hs h).1 ((l + r) / 2) x h1 h2
    omega
   | false =>
    refine place_ok hn hp f ((l + r) / 2 + 1) r (by omega) (by omega) (by omega) fun h => ⟨(hs h).1, fun x h1 => ?_, (hs h).2.2⟩
    have hlt : ¬ Rk rk p k < Rk rk p ((l + r) / 2) := of_decide_eq_false (hb h).symm
    have := (hs h).1 x ((l + r) / 2) (by omega) (by omega)
    omega
theorem rk_bubble {p : Array Nat} {k d : Nat} (hk : k < p.size) (hd : d ≤ k) (x : Nat) : Rk rk (bubble p k d) x = if x = k - d then Rk rk p k else if k - d < x ∧ x ≤ k then Rk rk p (x - 1) else Rk rk p x := by
 have e := getElem?_bubble hk d hd x
 by_cases h1 : x = k - d
 ·rw [if_pos h1] at e ⊢; exact rk_congr e
 ·rw [if_neg h1] at e ⊢
  by_cases h2 : k - d < x ∧ x ≤ k
  ·rw [if_pos h2] at e ⊢; exact rk_congr e
  ·rw [if_neg h2] at e ⊢; exact rk_congr e
theorem bin_ok (hn : 0 < n) : ∀ (f : Nat) (p : Array Nat) (k : Nat), Pm n p → k + f = n → (H → SortedTo' rk p k) → KOk (DomN n) (AnsR H rk) (fun r => Pm n r ∧ (H → SortedTo' rk r n)) (kas_bin f p k)
 | 0, p, k, hp, hk, hs => by
  have : k = n := by omega
  subst this
  exact ⟨hp, hs⟩
 | f + 1, p, k, hp, hk, hs => by
  have hsz := hp.size
  refine KOk.bind (place_ok hn hp k 0 k (Nat.zero_le _) (Nat.le_refl _) (by omega) fun h => ⟨hs h, fun x hx => absurd hx (Nat.not_lt_zero _), fun x h1 h2 => absurd h2 (by omega)⟩) fun l hl => ?_
  obtain ⟨h1, h2⟩ := hl
  refine bin_ok hn f _ (k + 1) ((bubble_perm p k _).trans hp) (by omega) fun h i j hij hj => ?_
  have hs := hs h
  obtain ⟨ha, hb⟩ := h2 h
  rw [rk_bubble (by omega) (by omega), rk_bubble (by omega) (by omega), show k - (k - l) = l by omega]
  by_cases i1 : i = l
  ·rw [if_pos i1]
   by_cases j1 : j = l
   ·rw [if_pos j1]; exact Nat.le_refl _
   ·rw [if_neg j1, if_pos ⟨by omega, by omega⟩]
    exact Nat.le_of_lt (hb _ (by omega) (by omega))
  ·rw [if_neg i1]
   by_cases i2 : l < i ∧ i ≤ k
   ·rw [if_pos i2, if_neg (by omega), if_pos ⟨by omega, by omega⟩]
    exact hs _ _ (by omega) (by omega)
   ·rw [if_neg i2]
    by_cases j1 : j = l
    ·rw [if_pos j1]
     exact ha i (by omega)
    ·rw [if_neg j1]
     by_cases j2 : l < j ∧ j ≤ k
     ·rw [if_pos j2]
      exact hs _ _ (by omega) (by omega)
     ·rw [if_neg j2]
      exact hs _ _ hij (by omega)
theorem sort_ok (hn : 0 < n) : KOk (DomN n) (AnsR H rk) (fun r => Pm n r ∧ (H → SortedTo' rk r n)) (kas_sort n) := by
 refine KOk.bind (count_ok hn (Array.Perm.refl _)) fun r hr => ?_
 obtain ⟨h1, h2, h3, h4⟩ := hr
 show KOk _ _ _ (if r.1 < n then kas_bin (n - max r.1 1) r.2 (max r.1 1) else .ret r.2)
 split
 ·have e : max r.1 1 = r.1 := by omega
  rw [e]
  exact bin_ok hn _ _ _ h1 (by omega) h4
 ·have e : r.1 = n := by omega
  exact ⟨h1, fun h => e ▸ h4 h⟩
end
end
section
open PySem.Spec
section
variable {prog : Program} {w : World} {A : Around} {E : Value → Shared → Prop} {s : Shared} {hb : Heap} {tabs : List Addr} {L d : Addr} {l : List (Str × Value)} {T pre post : List (Addr × Obj)} {vs : List Value} {v : Value} {n : Nat}
theorem r_truthL {Q : Bool → Shared → Prop} (S : St hb tabs L l T s.heap) (hm : (d, lstO vs n) ∈ T) (hz : vs.length ≤ 1000) (h : ∀ tk, Q (!vs.isEmpty) { s with toks := tk }) : wpAny (model prog w) A (truthy (.ref d)) Q E s :=
 wpAny_truthy_list (items := vs.toArray) ⟨_, S.obj _ hm, rfl, n, rfl⟩ (by rw [List.size_toArray]; omega) (by rw [List.isEmpty_toArray]; exact h _)
theorem r_pop {Q : Value → Shared → Prop} (i : Nat) (S : St hb tabs L l T s.heap) (hi : T[i]? = some (d, lstO (vs ++ [v]) n)) (hz : vs.length ≤ 1000) (h : ∀ h' n', St hb tabs L l (T.set i (d, lstO vs n')) h' → Q v { s with heap := h' }) :
  wpAny (model prog w) A (call (.builtin "list.pop") [.ref d]) Q E s := by
 have ho := S.obj _ (List.mem_of_getElem? hi)
 refine call_meets PySem.F.slot_list_pop ⟨_, ho, rfl⟩ PySem.F.entry_list_pop (PySem.F.args_list_pop_1 _) (PySem.MeetsSeq.list_pop_last d (vs ++ [v]).toArray n v (by simp) (by rw [sizeLine_eq, List.size_toArray, List.length_append, List.length_singleton]; omega)) ⟨ho, ?_⟩
 have hs := Heap.SameBut.update s.heap d (Obj.mapSeq fun xs => xs.eraseIdxIfInBounds ((vs ++ [v]).toArray.size - 1))
 have e : (Obj.mapSeq (fun xs => xs.eraseIdxIfInBounds ((vs ++ [v]).toArray.size - 1)) (lstO (vs ++ [v]) n)) = lstO vs (n + 1) := by
  have e1 : (vs ++ [v]).toArray.eraseIdxIfInBounds ((vs ++ [v]).toArray.size - 1) = vs.toArray := by
   simp [Array.eraseIdxIfInBounds]
   rw [List.eraseIdx_append_of_length_le (Nat.le_refl _)]
   simp
  simp only [Obj.mapSeq, lstO, e1]
  simp
 exact h _ (n + 1) (S.change i hi hs (by rw [Heap.get?_update_self _ ho (by rw [e]; rfl), e]))
theorem r_sort {Tt : Value} {H : Prop} {rk : Nat → Nat} {Q : Value → Shared → Prop} (S : St hb tabs L l (pre ++ (d, lstO vs n) :: post) s.heap) (h2 : 2 ≤ vs.length) (h64 : vs.length < 64)
  (hty : ∀ v ∈ vs, ∃ a o, v = .ref a ∧ (a, o) ∈ pre ++ post ∧ o.cls = Tt) (hT1 : (Tt != Value.type "tuple") = true) (hT2 : (Tt == Tt) = true)
  (hlt : ∀ (s' : Shared) e1, Kp s s' → St hb tabs L l (pre ++ (d, lstO [] e1) :: post) s'.heap → ∀ i j, i < vs.length → j < vs.length → ∀ C : Bool → Shared → Prop, (∀ b tk, (H → b = decide (rk i < rk j)) → C b { s' with toks := tk }) →
   wpAny (model prog w) A.in1 (keyLt' oneType' (vs.getD i .none) (vs.getD j .none)) C (fun _ _ => False) s')
  (k : ∀ s' n' (p : Array Nat), Kp s s' → Pm vs.length p → (H → SortedTo' rk p vs.length) → St hb tabs L l (pre ++ (d, lstO (p.toList.map fun i => vs.getD i .none) n') :: post) s'.heap → Q .none s') :
  wpAny (model prog w) A (call (.builtin "list.sort") [.ref d]) Q E s := by
 obtain ⟨m, TL, F, N, hl, nd, hTL, back⟩ := S.toK
 have hmem : (d, lstO vs n) ∈ pre ++ (d, lstO vs n) :: post := List.mem_append_right _ (.head _)
 have ho := S.obj _ hmem
 have hdn := S.new _ hmem
 have ndT := (List.nodup_cons.mp S.nd)
 have hdL : d ≠ L := fun e => ndT.1 (by rw [← e]; exact List.mem_map.mpr ⟨_, hmem, rfl⟩)
 have nd2 := ndT.2
 rw [List.map_append, List.map_cons] at nd2
 obtain ⟨-, n3, n4⟩ := List.nodup_append.mp nd2
 have hne : ∀ p ∈ TL ++ (pre ++ post), p.1 ≠ d := fun p hp => by
  rcases List.mem_append.mp hp with q | q
  ·exact Nat.ne_of_lt (Nat.lt_of_lt_of_le (hTL p q) hdn)
  ·rcases List.mem_append.mp q with q | q
   ·exact n4 _ (List.mem_map.mpr ⟨p, q, rfl⟩) _ (.head _)
   ·intro e
    exact (List.nodup_cons.mp n3).1 (e ▸ List.mem_map.mpr ⟨p, q, rfl⟩)
 have N0 : News (hideAll hb tabs) L s.heap (TL ++ (pre ++ post)) := fun p hp => by
  refine N p ?_
  rcases List.mem_append.mp hp with q | q
  ·exact List.mem_append_left _ q
  ·refine List.mem_append_right _ ?_
   rcases List.mem_append.mp q with q | q
   ·exact List.mem_append_left _ q
   ·exact List.mem_append_right _ (.tail _ q)
 have hd0 : (hideAll hb tabs).get? d = none := (N _ (List.mem_append_right _ hmem)).2.2
 have keys : ∀ o', (pre ++ (d, o') :: post).map (·.1) = (pre ++ (d, lstO vs n) :: post).map (·.1) := fun o' => by simp
 have toSt : ∀ (h' : Heap) (o' : Obj), Fr (hideAll hb tabs) L h' m → News (hideAll hb tabs) L h' ((d, o') :: (TL ++ (pre ++ post))) → St hb tabs L l (pre ++ (d, o') :: post) h' := fun h' o' F' N' => by
  refine back h' m _ l F' (fun p hp => N' p ?_) hl nd (fun p hp => ?_) (by rw [keys]; exact S.nd)
  ·rcases List.mem_append.mp hp with q | q
   ·exact .tail _ (List.mem_append_left _ q)
   ·rcases List.mem_append.mp q with q | q
    ·exact .tail _ (List.mem_append_right _ (List.mem_append_left _ q))
    ·rcases List.mem_cons.mp q with rfl | q
     ·exact .head _
     ·exact .tail _ (List.mem_append_right _ (List.mem_append_right _ q))
  ·have hk : p.1 ∈ (pre ++ (d, lstO vs n) :: post).map (·.1) := by rw [← keys o']; exact List.mem_map.mpr ⟨p, hp, rfl⟩
   obtain ⟨p', hp', e⟩ := List.mem_map.mp hk
   rw [← e]; exact S.new p' hp'
 have toN : ∀ (h' : Heap) (o' : Obj), St hb tabs L l (pre ++ (d, o') :: post) h' → (∀ p ∈ TL, h'.get? p.1 = some p.2) → News (hideAll hb tabs) L h' ((d, o') :: (TL ++ (pre ++ post))) := fun h' o' S' hT => fun p hp => by
  rcases List.mem_cons.mp hp with rfl | hp
  ·exact ⟨S'.obj _ (List.mem_append_right _ (.head _)), hdL, hd0⟩
  ·have := N0 p hp
   refine ⟨?_, this.2⟩
   rcases List.mem_append.mp hp with q | q
   ·exact hT p q
   ·rcases List.mem_append.mp q with q | q
    ·exact S'.obj _ (List.mem_append_left _ q)
    ·exact S'.obj _ (List.mem_append_right _ (.tail _ q))
 refine wpAny_call_entry PyProof.Rows.slot_list_sort ⟨_, ho, rfl⟩ PyProof.Rows.entry_list_sort ?_ (args_list_sort _)
 refine kas_list_sort (T := Tt) F N0 ho hdL hd0 hne h2 h64 (fun e1 h' F' N' v hv => ?_) hT1 hT2 fun e1 h' F' N' => ?_
 ·obtain ⟨a, o, rfl, hm, rfl⟩ := hty v hv
  exact (Looks.ld (N' (a, o) (.tail _ (List.mem_append_right _ hm))).1).andThen .now
 ·refine KOk.wp (Inv := fun s' => Kp s s' ∧ Fr (hideAll hb tabs) L s'.heap m ∧ News (hideAll hb tabs) L s'.heap ((d, seqObj "list" #[] e1) :: (TL ++ (pre ++ post)))) (fun i j C s' hI hD hC => ?_) (fun p s' hI hp => ?_) (sort_ok (H := H) (rk := rk) (by omega : 0 < vs.length)) ⟨⟨rfl, id⟩, F', N'⟩
  ·obtain ⟨K', F', N'⟩ := hI
   have S' := toSt _ _ F' N'
   exact hlt s' e1 K' S' i j hD.1 hD.2 C fun b tk hb' => hC b _ ⟨⟨K'.os, K'.gens⟩, F', N'⟩ hb'
  ·obtain ⟨K', F', N'⟩ := hI
   refine KasFin.intro F' N' (.head hne) fun h'' c F'' N'' => ?_
   exact ⟨_, rfl, k _ c p ⟨K'.os, K'.gens⟩ hp.1 hp.2 (toSt _ _ F'' N'')⟩
end
end
section
namespace MP
theorem slot_init : Slot "map" "__init__" "object.__init__" :=
 .of (owner := "object") (n := "__init__") (by rw [typeLookup_type, builtinLookup_eq_fast]; kernel_rfl) (by decide +kernel) (by decide +kernel) (by decide +kernel)
  (by first | exact .inl (by decide +kernel) | exact .inr (by decide +kernel)) (by rw [isSubtype_type]; kernel_rfl)
theorem mro : mroOf (.type "map") = pure [.type "map", .type "object"] := by rw [mroOf_type]; kernel_rfl
theorem new_lookup : typeLookup (.type "map") "__new__" = pure (some (.builtin "map.__new__")) := by rw [typeLookup_type, builtinLookup_eq_fast]; kernel_rfl
theorem called : TypeCalled "map" "map.__new__" "object.__init__" :=
 ⟨by decide +kernel, by decide +kernel, ⟨_, _, mro⟩, madeBy_type mro new_lookup (by decide +kernel), by decide +kernel, by rw [isSubtype_type]; kernel_rfl, slot_init⟩
theorem typeCall (a b : Value) : checkTypeCall "map" ⟨[a, b], []⟩ = pure () := by kernel_rfl
theorem newCall (a b : Value) : checkBuiltinCall "map.__new__" ⟨[.type "map", a, b], []⟩ = pure () := by kernel_rfl
theorem entry_new : entryFor table "map.__new__" = some Builtin.«map.__new__» := entryFor_of_tree (by kernel_rfl)
theorem slot_iter : Slot "map" "__iter__" "map.__iter__" :=
 .of (owner := "map") (n := "__iter__") (by rw [typeLookup_type, builtinLookup_eq_fast]; kernel_rfl) (by decide +kernel) (by decide +kernel) (by decide +kernel)
  (by first | exact .inl (by decide +kernel) | exact .inr (by decide +kernel)) (by rw [isSubtype_type]; kernel_rfl)
theorem entry_iter : entryFor table "map.__iter__" = some Builtin.«dict_keyiterator.__iter__» :=
 entryFor_alias (id' := "dict_keyiterator.__iter__") (by kernel_rfl) (by first | rfl | decide +kernel | (unfold String.splitOn; simp +decide [String.splitOnAux])) (by decide +kernel) (by kernel_rfl)
theorem args_iter (a : Value) : argsOk "map.__iter__" ⟨[a], []⟩ := by unfold argsOk; kernel_rfl
theorem slot_next : Slot "map" "__next__" "map.__next__" :=
 .of (owner := "map") (n := "__next__") (by rw [typeLookup_type, builtinLookup_eq_fast]; kernel_rfl) (by decide +kernel) (by decide +kernel) (by decide +kernel)
  (by first | exact .inl (by decide +kernel) | exact .inr (by decide +kernel)) (by rw [isSubtype_type]; kernel_rfl)
theorem entry_next : entryFor table "map.__next__" = some Builtin.«map.__next__» := entryFor_of_tree (by kernel_rfl)
theorem args_next (a : Value) : argsOk "map.__next__" ⟨[a], []⟩ := by unfold argsOk; kernel_rfl
theorem no_len : typeLookup (.type "map") "__len__" = pure none := by rw [typeLookup_type, builtinLookup_eq_fast]; kernel_rfl
theorem no_hint : typeLookup (.type "map") "__length_hint__" = pure none := by rw [typeLookup_type, builtinLookup_eq_fast]; kernel_rfl
theorem sub_map : isSubtype (.type "map") (.type "map") = pure true := by rw [isSubtype_type]; kernel_rfl
end MP
end
section
abbrev litO (d : Addr) (i : Nat) : Obj := { cls := .type "list_iterator", data := .fields #[.ref d, .int i 0] }
abbrev mapO (t : Addr) (f : Value) : Obj := { cls := .type "map", data := .fields #[.ref t, f] }
theorem meets_map_new (f : Value) (l : Addr) (vs : List Value) (n : Nat) :
  Meets (Builtin.«map.__new__» ⟨[.type "map", f, .ref l], []⟩) (fun _ R s => s.heap.get? l = some (lstO vs n) ∧
   R (.ok (.ret (.ref ((s.heap.push (litO l 0)).push (tupO [.ref s.heap.objs.size])).objs.size))) { s with heap := ((s.heap.push (litO l 0)).push (tupO [.ref s.heap.objs.size])).push (mapO (s.heap.push (litO l 0)).objs.size f) }) :=
 .of_wp fun prog w A R s h => by
  obtain ⟨hp, g, d, tk, os⟩ := s; obtain ⟨hl, h⟩ := h
  have hL : Heap.IsList (Shared.heap ⟨hp, g, d, tk, os⟩) l vs.toArray := ⟨_, hl, rfl, n, rfl⟩
  have hsub := MP.sub_map
  unfold Builtin.«map.__new__» Builtin.SmallTypes.newClass Builtin.SmallTypes.refuseKeywords Builtin.SmallTypes.iterAll Builtin.SmallTypes.newRecord
  refine wpAny_bind (wpAny_bind (wpAny_of_eq (a := true) rfl ?_))
  refine KFB.if_not rfl ?_
  refine wpAny_bind (wpAny_of_eq hsub ?_)
  refine KFB.if_not rfl (wpAny_pure ?_)
  refine wpAny_bind ?_
  refine KFB.if_so rfl (wpAny_pure ?_)
  refine wpAny_ite_split (fun hab => absurd hab (by simp)) (fun _ => ?_)
  refine wpAny_bind (wpAny_bind ?_)
  show wpAny _ _ (forIn [Value.ref l] _ _) _ _ _
  rw [List.forIn_cons]
  refine wpAny_bind (wpAny_bind (wpAny_holding (wpAny_pyIter_list hL (wpAny_pure ?_))))
  show wpAny _ _ (forIn [] _ _) _ _ _
  rw [List.forIn_nil]
  refine wpAny_pure (wpAny_pure ?_)
  refine wpAny_bind (wpAny_newTuple ?_ (by show 1 ≤ sizeLine; rw [sizeLine_eq]; decide))
  refine wpAny_bind (wpAny_newObj_type ?_ (by size_fits))
  exact wpAny_pure ⟨_, rfl, h⟩
section
variable {prog : Program} {w : World} {A : Around} {E : Value → Shared → Prop} {s : Shared} {hb : Heap} {tabs : List Addr} {L d mp t it : Addr} {l : List (Str × Value)} {T : List (Addr × Obj)} {vs : List Value} {f x : Value} {n i : Nat}
theorem r_map {Q : Value → Shared → Prop} (S : St hb tabs L l T s.heap) (hm : (d, lstO vs n) ∈ T) (h : ∀ mp t it h', St hb tabs L l ((mp, mapO t f) :: (t, tupO [.ref it]) :: (it, litO d 0) :: T) h' → Q (.ref mp) { s with heap := h' }) :
  wpAny (model prog w) A (call (.type "map") [f, .ref d]) Q E s := by
 have S' := ((S.push (litO d 0)).push (tupO [.ref s.heap.objs.size])).push (mapO (s.heap.push (litO d 0)).objs.size f)
 refine callType_new MP.called (by decide) (MP.typeCall _ _) (MP.newCall _ _) (fun obj => F.args_object_init_3 obj _ _) MP.entry_new (meets_map_new f d vs n) ⟨S.obj _ hm, ⟨_, S'.obj _ m0, rfl⟩, h _ _ _ _ S'⟩
theorem map_self {Q : Value → Shared → Prop} (S : St hb tabs L l T s.heap) (hm : (mp, mapO t f) ∈ T) (h : Q (.ref mp) s) : wpAny (model prog w) A (pyIter (.ref mp)) Q E s := by
 have hT : s.TypeIs (.ref mp) "map" := ⟨_, S.obj _ hm, rfl⟩
 refine wpAny_pyIter_slot hT MP.slot_iter (wpAny_call_entry MP.slot_iter hT MP.entry_iter ?_ (MP.args_iter _))
 show wpAny _ _ (ret (.ref mp)) _ _ s
 exact wpAny_pure ⟨_, rfl, "map", _, hT, MP.slot_next.lookup, h⟩
def LitAt (o : Obj) (d : Addr) (i : Nat) : Prop := o.cls = .type "list_iterator" ∧ o.data = .fields #[.ref d, .int i 0]
theorem map_next {Q : Option Value → Shared → Prop} {o : Obj} (ii : Nat) (S : St hb tabs L l T s.heap) (hmp : (mp, mapO t f) ∈ T) (ht : (t, tupO [.ref it]) ∈ T) (hit : T[ii]? = some (it, o)) (ho : LitAt o d i) (hd : (d, lstO vs n) ∈ T) (hx : vs[i]? = some x) (hne : mp ≠ it)
  (h : ∀ h' o' E', LitAt o' d (i + 1) → St hb tabs L l (T.set ii (it, o')) h' → wpAny (model prog w) A.in1 (call f [x]) (fun v s' => Q (some v) s') E' { s with heap := h' }) : wpAny (model prog w) A (pyNext (.ref mp)) Q E s := by
 have hT : s.TypeIs (.ref mp) "map" := ⟨_, S.obj _ hmp, rfl⟩
 have hi := S.obj _ (List.mem_of_getElem? hit)
 unfold pyNext
 refine wpAny_bind (wpAny_attempt (wpAny_callSpecial?_slot (name := Str.ofString "__next__") hT MP.slot_next (wpAny_call_entry MP.slot_next hT MP.entry_next ?_ (MP.args_next _))))
 show wpAny _ _ (field (.ref mp) 0 >>= _) _ _ s
 refine wpAny_bind (wpAny_field (S.obj _ hmp) rfl (x := .ref t) rfl ?_)
 show wpAny _ _ (seqItems? (.ref t) >>= _) _ _ s
 refine wpAny_bind (wpAny_seqItems (S.obj _ ht) rfl ?_)
 show wpAny _ _ (forIn (#[Value.ref it] : Array Value) _ _ >>= _) _ _ s
 rw [← Array.forIn_toList]
 refine wpAny_bind ?_
 show wpAny _ _ (forIn [Value.ref it] _ _) _ _ s
 rw [List.forIn_cons]
 refine wpAny_bind (wpAny_bind (wpAny_holding (wpAny_nextOf_list_item (items := vs.toArray) ⟨_, hi, ho.1, ho.2⟩ ⟨_, S.obj _ hd, rfl, n, rfl⟩ (by simpa using hx) fun h' hit' hs' => wpAny_pure ?_)))
 show wpAny _ _ (forIn [] _ _) _ _ _
 rw [List.forIn_nil]
 obtain ⟨o', ho', hc', hd'⟩ := hit'
 have S' := S.change ii hit hs' ho'
 refine wpAny_pure ?_
 show wpAny _ _ (field (.ref mp) 1 >>= _) _ _ _
 refine wpAny_bind (wpAny_field (s := { s with heap := h' }) ((hs'.2 mp hne).trans (S.obj _ hmp)) rfl (x := f) rfl ?_)
 refine wpAny_bind (wpAny_holding ?_)
 refine wpAny_mono (h h' o' _ ⟨hc', hd'⟩ S') (fun v s' hq => ?_) fun _ _ z => z
 exact wpAny_bind (wpAny_letGo (wpAny_pure ⟨_, rfl, wpAny_pure hq⟩))
theorem map_end {Q : Option Value → Shared → Prop} {o : Obj} (ii : Nat) (hh : A.handled = none) (S : St hb tabs L l (T ++ [(it, o)]) s.heap) (hmp : (mp, mapO t f) ∈ T) (ht : (t, tupO [.ref it]) ∈ T) (ho : LitAt o d vs.length) (hd : (d, lstO vs n) ∈ T)
  (h : ∀ h', St hb tabs L l T h' → Q none { s with heap := h' }) : wpAny (model prog w) A (pyNext (.ref mp)) Q E s := by
 have hmp' : (mp, mapO t f) ∈ T ++ [(it, o)] := List.mem_append_left _ hmp
 have hT : s.TypeIs (.ref mp) "map" := ⟨_, S.obj _ hmp', rfl⟩
 have hi := S.obj (it, o) (List.mem_append_right _ (.head _))
 unfold pyNext
 refine wpAny_bind (wpAny_attempt (wpAny_callSpecial?_slot (name := Str.ofString "__next__") hT MP.slot_next (wpAny_call_entry MP.slot_next hT MP.entry_next ?_ (MP.args_next _))))
 show wpAny _ _ (field (.ref mp) 0 >>= _) _ _ s
 refine wpAny_bind (wpAny_field (S.obj _ hmp') rfl (x := .ref t) rfl ?_)
 show wpAny _ _ (seqItems? (.ref t) >>= _) _ _ s
 refine wpAny_bind (wpAny_seqItems (S.obj _ (List.mem_append_left _ ht)) rfl ?_)
 show wpAny _ _ (forIn (#[Value.ref it] : Array Value) _ _ >>= _) _ _ s
 rw [← Array.forIn_toList]
 refine wpAny_bind ?_
 show wpAny _ _ (forIn [Value.ref it] _ _) _ _ s
 rw [List.forIn_cons]
 refine wpAny_bind (wpAny_bind (wpAny_holding (wpAny_nextOf_list_end (items := vs.toArray) hh ⟨_, hi, ho.1, ho.2⟩ ⟨_, S.obj _ (List.mem_append_left _ hd), rfl, n, rfl⟩ (by simp) fun h' e he hx => ?_)))
 obtain ⟨ox, hox, hcx⟩ := hx
 refine wpAny_bind (wpAny_isInstance (T := "StopIteration") (b := true) ⟨ox, hox, hcx⟩ isSubtype_stop ?_)
 refine wpAny_pure (h h' (S.drop (own := [(it, o)]) fun b x hb' e => he b x (fun q => hb' (by rw [q]; exact .head _)) e))
end
end
section
section
variable {prog : Program} {w : World} {A : Around} {E : Value → Shared → Prop} {s : Shared} {hb : Heap} {tabs : List Addr} {L d mp t it D I : Addr} {l : List (Str × Value)} {T : List (Addr × Obj)} {vs : List Value} {f x res : Value} {n i : Nat} {R : Result → Shared → Prop} {J : Nat → List Value → List (Addr × Obj) → Prop} {Je : List Value → List (Addr × Obj) → Prop}
theorem mapSeq_push' (vs : List Value) (v : Value) (c : Nat) : Obj.mapSeq (·.push v) (lstO vs c) = lstO (vs ++ [v]) (c + 1) := by simp [Obj.mapSeq, lstO]
theorem extend_loop (hn : n ≤ 1000)
  (step : ∀ i acc T₁ c s₁ E', i < n → acc.length = i → J i acc T₁ → St hb tabs L l ((D, lstO acc c) :: T₁) s₁.heap → Kp s s₁ →
   wpAny (model prog w) A.in1 (pyNext (.ref I)) (fun o s₂ => ∃ v T₂, o = some v ∧ Kp s s₂ ∧ St hb tabs L l ((D, lstO acc c) :: T₂) s₂.heap ∧ J (i + 1) (acc ++ [v]) T₂) E' s₁)
  (done : ∀ acc T₁ c s₁ E', acc.length = n → J n acc T₁ → St hb tabs L l ((D, lstO acc c) :: T₁) s₁.heap → Kp s s₁ →
   wpAny (model prog w) A.in1 (pyNext (.ref I)) (fun o s₂ => o = none ∧ Kp s s₂ ∧ ∃ T₂, St hb tabs L l ((D, lstO acc c) :: T₂) s₂.heap ∧ Je acc T₂) E' s₁)
  (hR : ∀ s' acc T' c, Kp s s' → St hb tabs L l ((D, lstO acc c) :: T') s'.heap → Je acc T' → R (.ok (.ret res)) s') :
  ∀ (k i : Nat) (acc : List Value) (T₁ : List (Addr × Obj)) (c : Nat) (s₁ : Shared), n - i = k → i ≤ n → acc.length = i → J i acc T₁ → St hb tabs L l ((D, lstO acc c) :: T₁) s₁.heap → Kp s s₁ →
   codeAny (model prog w) A (.builtin "list.extend.loop" ⟨[.ref D, .ref I, res], []⟩) R s₁ := by
 intro k
 induction k with
 | zero =>
  intro i acc T₁ c s₁ hk hi hacc hJ S hKp
  have : i = n := by omega
  subst this
  refine codeAny_builtin F.entry_extend_loop ?_
  rw [Around.under_plainId F.plain_extend_loop _]
  show wpAny _ A.in1 (pyNext (.ref I) >>= _) _ _ s₁
  refine wpAny_bind (wpAny_mono (done acc T₁ c s₁ _ hacc hJ S hKp) (fun o s₂ z => ?_) fun _ _ z => z)
  obtain ⟨rfl, K₂, T₂, S₂, hJe⟩ := z
  exact wpAny_pure (hR s₂ acc T₂ c K₂ S₂ hJe)
 | succ k ih =>
  intro i acc T₁ c s₁ hk hi hacc hJ S hKp
  refine codeAny_builtin F.entry_extend_loop ?_
  rw [Around.under_plainId F.plain_extend_loop _]
  show wpAny _ A.in1 (pyNext (.ref I) >>= _) _ _ s₁
  refine wpAny_bind (wpAny_mono (step i acc T₁ c s₁ _ (by omega) hacc hJ S hKp) (fun o s₂ z => ?_) fun _ _ z => z)
  obtain ⟨v, T₂, rfl, K₂, S₂, hJ₂⟩ := z
  have ho := S₂.obj _ m0
  show wpAny _ A.in1 (updateSeq D (·.push v) >>= _) _ _ _
  refine wpAny_bind ?_
  refine wpAny_updateSeq ho rfl (wpAny_pure ⟨plainId_quiet F.plain_extend_loop _, ?_⟩) (by rw [sizeLine_eq, List.size_toArray]; omega) (by rw [sizeLine_eq, Array.size_push, List.size_toArray]; omega)
  have S₃ := S₂.change (o' := lstO (acc ++ [v]) (c + 1)) 0 rfl (Heap.SameBut.update s₂.heap D (Obj.mapSeq (·.push v))) (by rw [Heap.get?_update_self _ ho (by rw [mapSeq_push']; rfl), mapSeq_push'])
  exact ih (i + 1) (acc ++ [v]) T₂ _ _ (by omega) (by omega) (by simp [hacc]) hJ₂ S₃ ⟨K₂.os, K₂.gens⟩
theorem r_listMap {Q : Value → Shared → Prop} (S : St hb tabs L l T s.heap) (hm : (mp, mapO t f) ∈ T) (hn : n ≤ 1000) (h0 : J 0 [] T)
  (step : ∀ D i acc T₁ c s₁ E', i < n → acc.length = i → J i acc T₁ → St hb tabs L l ((D, lstO acc c) :: T₁) s₁.heap → Kp s s₁ →
   wpAny (model prog w) A.in1.in1 (pyNext (.ref mp)) (fun o s₂ => ∃ v T₂, o = some v ∧ Kp s s₂ ∧ St hb tabs L l ((D, lstO acc c) :: T₂) s₂.heap ∧ J (i + 1) (acc ++ [v]) T₂) E' s₁)
  (done : ∀ D acc T₁ c s₁ E', acc.length = n → J n acc T₁ → St hb tabs L l ((D, lstO acc c) :: T₁) s₁.heap → Kp s s₁ →
   wpAny (model prog w) A.in1.in1 (pyNext (.ref mp)) (fun o s₂ => o = none ∧ Kp s s₂ ∧ ∃ T₂, St hb tabs L l ((D, lstO acc c) :: T₂) s₂.heap ∧ Je acc T₂) E' s₁)
  (k : ∀ s' D acc T' c, Kp s s' → St hb tabs L l ((D, lstO acc c) :: T') s'.heap → Je acc T' → Q (.ref D) s') :
  wpAny (model prog w) A (call (.type "list") [.ref mp]) Q E s := by
 refine callType_codes (Q₁ := fun obj s₁ => obj = .ref s.heap.objs.size ∧ s₁ = { s with heap := s.heap.push { cls := .type "list", data := .seq #[] } }) F.called_list (F.typeCall_list_1 _) F.entry_list_init
  (code_list_new _ ⟨rfl, rfl⟩) fun obj s₁ h₁ => ?_
 obtain ⟨rfl, rfl⟩ := h₁
 have S₁ := S.push (lstO [] 0)
 refine ⟨⟨_, S₁.obj _ m0, rfl⟩, F.args_list_init_2 _ _, ?_⟩
 show wpAny _ A.in1.in1 (do let old ← Builtin.List.listItems (.ref s.heap.objs.size); Builtin.List.listUpdate (.ref s.heap.objs.size) (fun _ => #[]); letGo old.toList.reverse; Builtin.List.listExtendWith (.ref s.heap.objs.size) (.ref mp) .none) _ _ _
 refine wpAny_bind ?_
 unfold Builtin.List.listItems
 refine wpAny_bind (wpAny_seqItems (S₁.obj _ m0) rfl (wpAny_pure ?_))
 show wpAny _ A.in1.in1 (updateSeq s.heap.objs.size (fun _ => #[]) >>= fun _ => letGo (#[] : Array Value).toList.reverse >>= fun _ => Builtin.List.listExtendWith (.ref s.heap.objs.size) (.ref mp) .none) _ _ _
 refine wpAny_bind (wpAny_updateSeq (S₁.obj _ m0) rfl ?_)
 obtain ⟨c1, hc1⟩ : ∃ c, Obj.mapSeq (fun _ => (#[] : Array Value)) (lstO [] 0) = lstO [] c := ⟨_, rfl⟩
 have S₂ := S₁.change (o' := lstO [] c1) 0 rfl (Heap.SameBut.update _ s.heap.objs.size (Obj.mapSeq fun _ => (#[] : Array Value))) (by rw [Heap.get?_update_self _ (S₁.obj _ m0) rfl, ← hc1])
 refine wpAny_bind (wpAny_letGo ?_)
 have hmp : (mp, mapO t f) ∈ (s.heap.objs.size, lstO [] c1) :: T := .tail _ hm
 have hne : s.heap.objs.size ≠ mp := fun e => Nat.lt_irrefl _ (e ▸ S.lt hm)
 unfold Builtin.List.listExtendWith
 refine wpAny_bind (wpAny_typeOf (T := "map") ⟨_, S₂.obj _ hmp, rfl⟩ ?_)
 have h1 : Builtin.List.listSameRef (.ref s.heap.objs.size) (.ref mp) = false := by simp [Builtin.List.listSameRef, hne]
 have h2 : (Value.type "map" == Value.type "list") = false := by decide
 have h3 : (Value.type "map" == Value.type "tuple") = false := by decide
 simp only [h1, h2, h3, Bool.or_false, Bool.false_eq_true, if_false]
 refine wpAny_bind (map_self S₂ hmp ?_)
 refine wpAny_bind (wpAny_holding ?_)
 unfold Builtin.List.listLengthHint
 refine wpAny_bind (wpAny_specialOf (T := "map") ⟨_, S₂.obj _ hmp, rfl⟩ MP.no_len ?_)
 show wpAny _ _ (specialOf (Value.ref mp) (Str.ofString "__length_hint__") >>= _) _ _ _
 refine wpAny_bind (wpAny_specialOf (T := "map") ⟨_, S₂.obj _ hmp, rfl⟩ MP.no_hint ?_)
 refine wpAny_pure ?_
 refine KFB.if_so rfl ?_
 refine wpAny_bind (wpAny_rule ?_)
 refine wpAny_bind ?_
 show wpAny _ _ (updateSeq s.heap.objs.size (·.push .none) >>= fun _ => updateSeq s.heap.objs.size (·.pop)) _ _ _
 obtain ⟨c2, hc2⟩ : ∃ c, Obj.mapSeq (·.push Value.none) (lstO [] c1) = lstO [.none] c := ⟨_, rfl⟩
 obtain ⟨c3, hc3⟩ : ∃ c, Obj.mapSeq (·.pop) (lstO [.none] c2) = lstO [] c := ⟨_, rfl⟩
 refine wpAny_bind (wpAny_updateSeq (S₂.obj _ m0) rfl ?_)
 have S₃ := S₂.change (o' := lstO [.none] c2) 0 rfl (Heap.SameBut.update _ s.heap.objs.size (Obj.mapSeq (·.push Value.none))) (by rw [Heap.get?_update_self _ (S₂.obj _ m0) rfl, ← hc2])
 refine wpAny_updateSeq (S₃.obj _ m0) rfl ?_
 have S₄ := S₃.change (o' := lstO [] c3) 0 rfl (Heap.SameBut.update _ s.heap.objs.size (Obj.mapSeq (·.pop))) (by rw [Heap.get?_update_self _ (S₃.obj _ m0) rfl, ← hc3])
 refine wpAny_pure ⟨plainId_quiet F.plain_extend_loop _, ?_⟩
 exact extend_loop hn (step _) (done _) (fun s' acc T' c K' S' hJ => ⟨rfl, k s' _ acc T' c K' S' hJ⟩) n 0 [] T c3 _ rfl (Nat.zero_le _) rfl h0 S₄ ⟨rfl, id⟩
end
end
section
section
variable {prog : Program} {w : World} {A : Around} {E : Value → Shared → Prop} {s : Shared} {hb : Heap} {tabs : List Addr} {L d I : Addr} {l : List (Str × Value)} {T own Ro : List (Addr × Obj)} {vs : List Value} {v : Value} {n : Nat} {env : Env} {fp wr : List Addr} {P : Nat → Value → Prop} {Wt : Nat → Heap → Prop} {target : Expr} {body : List Stmt}
theorem r_sortShort {Q : Value → Shared → Prop} (i : Nat) (S : St hb tabs L l T s.heap) (hi : T[i]? = some (d, lstO vs n)) (hz : vs.length < 2) (h : ∀ h' n', St hb tabs L l (T.set i (d, lstO vs n')) h' → Q .none { s with heap := h' }) :
  wpAny (model prog w) A (call (.builtin "list.sort") [.ref d]) Q E s := by
 have ho := S.obj _ (List.mem_of_getElem? hi)
 refine wpAny_call_entry PyProof.Rows.slot_list_sort ⟨_, ho, rfl⟩ PyProof.Rows.entry_list_sort ?_ (args_list_sort _)
 rw [list_sort_plain]
 have hlen := (List.getElem?_eq_some_iff.mp hi).1
 obtain ⟨c1, hc1⟩ : ∃ c, Obj.mapSeq (fun _ => (#[] : Array Value)) (lstO vs n) = lstO [] c := ⟨_, rfl⟩
 refine wpAny_bind (listItems_at ho rfl ?_)
 refine wpAny_bind (listUpdate_at ho rfl ?_ (by rw [sizeLine_eq, List.size_toArray]; omega) (Nat.zero_le _))
 have S₁ := S.change (o' := lstO [] c1) i hi (Heap.SameBut.update _ d (Obj.mapSeq fun _ => (#[] : Array Value))) (by rw [Heap.get?_update_self _ ho rfl, ← hc1])
 have hi₁ : (T.set i (d, lstO [] c1))[i]? = some (d, lstO [] c1) := by rw [List.getElem?_set_self hlen]
 refine wpAny_bind (seqEpoch_at (S₁.obj _ (List.mem_of_getElem? hi₁)) rfl ?_)
 have S₂ := S₁.push (tupO vs.toArray.toList)
 have S₃ := S₂.push (lstO [] 0)
 refine wpAny_bind (wpAny_newTuple ?_ (by show vs.length ≤ _; rw [sizeLine_eq]; omega))
 refine wpAny_bind (wpAny_newList ?_ (Nat.zero_le _))
 refine wpAny_holding ?_
 dsimp only
 have hn2 : vs.toArray.size < 2 := by rw [List.size_toArray]; exact hz
 rw [if_pos hn2, if_pos hn2]
 refine wpAny_bind (wpAny_pure ?_)
 refine wpAny_bind ?_
 show wpAny _ _ (pure ((), SortSt.mk' general' (vs.toArray.zip vs.toArray) #[] 7 none)) _ _ _
 refine wpAny_pure ?_
 have e1 : (arrOf (SortSt.mk' general' (vs.toArray.zip vs.toArray) #[] 7 none)).map (·.2) = vs.toArray := by
  show (vs.toArray.zip vs.toArray).map (·.2) = vs.toArray
  apply Array.toList_inj.mp
  simp
  exact List.map_snd_zip (Nat.le_refl _)
 dsimp only
 rw [e1]
 have hm3 : (d, lstO [] c1) ∈ ((s.heap.update d (Obj.mapSeq fun _ => (#[] : Array Value))).push (tupO vs.toArray.toList) |>.objs.size, lstO [] 0) :: ((s.heap.update d (Obj.mapSeq fun _ => (#[] : Array Value))).objs.size, tupO vs.toArray.toList) :: T.set i (d, lstO [] c1) := .tail _ (.tail _ (List.mem_of_getElem? hi₁))
 refine wpAny_bind (seqEpoch_at (S₃.obj _ hm3) rfl ?_)
 obtain ⟨c2, hc2⟩ : ∃ c, Obj.mapSeq (fun _ => vs.toArray) (lstO [] c1) = lstO vs c := ⟨_, rfl⟩
 refine wpAny_bind (listUpdate_at (S₃.obj _ hm3) rfl ?_ (Nat.zero_le _) (by rw [sizeLine_eq, List.size_toArray]; omega))
 have hi₃ : (((s.heap.update d (Obj.mapSeq fun _ => (#[] : Array Value))).push (tupO vs.toArray.toList) |>.objs.size, lstO [] 0) :: ((s.heap.update d (Obj.mapSeq fun _ => (#[] : Array Value))).objs.size, tupO vs.toArray.toList) :: T.set i (d, lstO [] c1))[i + 2]? = some (d, lstO [] c1) := hi₁
 have S₄ := S₃.change (o' := lstO vs c2) (i + 2) hi₃ (Heap.SameBut.update _ d (Obj.mapSeq fun _ => vs.toArray)) (by rw [Heap.get?_update_self _ (S₃.obj _ hm3) rfl, ← hc2])
 have S₅ := S₄.sub (T' := (T.set i (d, lstO [] c1)).set i (d, lstO vs c2)) (.cons _ (List.sublist_cons_self _ _))
 rw [List.set_set] at S₅
 refine KFB.if_not (by simp) ?_
 exact wpAny_pure ⟨_, rfl, h _ c2 S₅⟩
theorem for_walkO {R : Result → Shared → Prop} (W : Walks prog w A I fp wr n P Wt) (hown : ∀ i (s : Shared) v (Q : Unit → Shared → Prop) E, Wt i s.heap → Q () s → wpAny (model prog w) A (letOwnedTupleGo target (.ref I) v) Q E s)
  (hex : ∀ i h, Wt i h → ∀ b ∈ wr, ∃ o, h.get? b = some o) (how : own.map (·.1) = wr)
  (hro : ∀ b ∈ fp, b ∉ wr → (∃ o, (b, o) ∈ Ro) ∨ ∃ o, hb.get? b = some o ∧ b ∉ tabs) (S : St hb tabs L l (T ++ own) s.heap) (hst : Wt 0 s.heap)
  (J : Nat → List (Str × Value) → List (Addr × Obj) → Prop) (h0 : J 0 l T) (hR0 : ∀ p ∈ Ro, p ∈ T)
  (step : ∀ E i v l₁ T₁ own₁ s₁, i < n → P i v → J i l₁ T₁ → St hb tabs L l₁ (T₁ ++ own₁) s₁.heap → (∀ p ∈ Ro, p ∈ T₁) → Kp s s₁ →
   wpAny (model prog w) A (assign target env v) (fun _ s₂ => wpAny (model prog w) A (execs body env) (fun f s₃ => match f with
    | .next | .cont => ∃ l₂ T₂, St hb tabs L l₂ (T₂ ++ own₁) s₃.heap ∧ J (i + 1) l₂ T₂ ∧ (∀ p ∈ Ro, p ∈ T₂) ∧ Kp s s₃
    | .brk => R (.ok .next) s₃
    | .ret v => R (.ok (.ret v)) s₃) E s₂) E s₁)
  (hR : ∀ s' l' T', Kp s s' → St hb tabs L l' T' s'.heap → J n l' T' → (∀ p ∈ Ro, p ∈ T') → R (.ok .next) s') :
  codeAny (model prog w) A (.forLoop target (.ref I) body [] env) R s := by
 refine codeAny_forLoop_any (fun k s' => ∃ i l₁ T₁ own₁, own₁.map (·.1) = wr ∧ St hb tabs L l₁ (T₁ ++ own₁) s'.heap ∧ Wt i s'.heap ∧ J i l₁ T₁ ∧ (∀ p ∈ Ro, p ∈ T₁) ∧ Kp s s' ∧ i ≤ n ∧ k = n - i) ?_ n ⟨0, l, T, own, how, S, hst, h0, hR0, Kp.refl, Nat.zero_le _, rfl⟩
 rintro k s' ⟨i, l₁, T₁, own₁, how₁, S₁, hst₁, hJ, hRo, hKp, hi, rfl⟩
 by_cases hlt : i < n
 ·refine W.item i _ _ _ hlt hst₁ fun v h₁ tk₁ hP hst₂ hk₁ => ?_
  obtain ⟨own₂, e₂, S₂⟩ := S₁.moved (h' := h₁) (fun b o hb' e => hk₁ b o (how₁ ▸ hb') e) (fun b hb' => hex _ _ hst₂ b (how₁ ▸ hb'))
  refine hown (i + 1) _ _ _ _ hst₂ ?_
  refine wpAny_mono (step _ i v l₁ T₁ own₂ { s' with heap := h₁, toks := tk₁ } hlt hP hJ S₂ hRo hKp.with) (fun _ s₂ h₂ => wpAny_mono h₂ (fun f s₃ h₃ => ?_) fun _ _ e => e) fun _ _ e => e
  have fin : (∃ l₂ T₂, St hb tabs L l₂ (T₂ ++ own₂) s₃.heap ∧ J (i + 1) l₂ T₂ ∧ (∀ p ∈ Ro, p ∈ T₂) ∧ Kp s s₃) → ∃ m, m < n - i ∧ ∃ i l₁ T₁ own₁, own₁.map (·.1) = wr ∧ St hb tabs L l₁ (T₁ ++ own₁) s₃.heap ∧ Wt i s₃.heap ∧ J i l₁ T₁ ∧ (∀ p ∈ Ro, p ∈ T₁) ∧ Kp s s₃ ∧ i ≤ n ∧ m = n - i := by
   rintro ⟨l₂, T₂, S₃, hJ₃, hRo₃, hKp₃⟩
   refine ⟨n - (i + 1), by omega, i + 1, l₂, T₂, own₂, e₂.trans how₁, S₃, W.frame _ _ _ hst₂ fun b hb' o e => ?_, hJ₃, hRo₃, hKp₃, hlt, rfl⟩
   by_cases q : b ∈ wr
   ·have : b ∈ own₂.map (·.1) := by rw [e₂, how₁]; exact q
    obtain ⟨p, hp, rfl⟩ := List.mem_map.mp this
    have e1 : h₁.get? p.1 = some p.2 := S₂.obj p (List.mem_append_right _ hp)
    have e2 := S₃.obj p (List.mem_append_right _ hp)
    rw [e1] at e
    rw [← e]; exact e2
   ·rcases hro b hb' q with ⟨o', ho'⟩ | ⟨o', ho', hnt⟩
    ·have e1 : h₁.get? b = some o' := S₂.obj _ (List.mem_append_left _ (hRo _ ho'))
     rw [e1] at e
     rw [← e]; exact S₃.obj _ (List.mem_append_left _ (hRo₃ _ ho'))
    ·have e1 : h₁.get? b = some o' := S₂.keep _ _ ho' hnt
     rw [e1] at e
     rw [← e]; exact S₃.keep _ _ ho' hnt
  cases f with
  | next => exact fin h₃
  | cont => exact fin h₃
  | brk => exact h₃
  | ret v => exact h₃
 ·have hin : i = n := by omega
  subst hin
  refine W.done _ _ _ hst₁ fun h₁ tk₁ hk₁ => wpAny_execs_nil ?_
  exact hR _ l₁ T₁ hKp.with (S₁.drop fun b o hb' e => hk₁ b o (how₁ ▸ hb') e) hJ hRo
theorem r_iterLO {Q : Value → Shared → Prop} (S : St hb tabs L l T s.heap) (hm : (d, lstO vs n) ∈ T)
  (h : ∀ I o Wt fp h', ItV prog w hb tabs [(d, lstO vs n)] I vs.length (fun i v => vs[i]? = some v) Wt fp → (∀ (A : Around) elts x1 tpos i (s : Shared) v (Q : Unit → Shared → Prop) E, Wt i s.heap → Q () s → wpAny (model prog w) A (letOwnedTupleGo (.Tuple elts x1 tpos) (.ref I) v) Q E s) →
   Wt 0 h' → St hb tabs L l (T ++ [(I, o)]) h' → Q (.ref I) { s with heap := h' }) : wpAny (model prog w) A (pyIter (.ref d)) Q E s := by
 have hl : s.heap.IsList d vs.toArray := ⟨_, S.obj _ hm, rfl, n, rfl⟩
 have hne : d ≠ s.heap.objs.size := Nat.ne_of_lt (S.lt hm)
 refine wpAny_pyIter_list hl (h _ _ (fun i h => h.IsListIter s.heap.objs.size d i ∧ h.IsList d vs.toArray) [s.heap.objs.size, d] _ ⟨fun A hA => ?_, ?_, ?_⟩ ?_ ⟨⟨_, Heap.get?_push_size _ rfl, rfl, rfl⟩, ⟨_, Heap.get?_push_of_some _ (S.obj _ hm), rfl, n, rfl⟩⟩ (S.push _).last)
 case refine_1 =>
  have W := Walks.list (prog := prog) (w := w) hA s.heap.objs.size d hne vs.toArray
  rw [List.size_toArray] at W
  exact walks_mono W fun i v e => by simpa using e
 case refine_2 =>
  rintro i h ⟨⟨o, e, _⟩, _⟩
  exact ⟨o, e⟩
 case refine_3 =>
  intro b hb' hn
  rcases List.mem_cons.mp hb' with rfl | hb'
  ·exact absurd (.head _) hn
  ·rw [List.mem_singleton] at hb'
   subst hb'
   exact .inl ⟨_, .head _⟩
 case refine_4 =>
  intro A elts x1 tpos i s v Q E hw hq
  cases v with
  | ref a => exact wpAny_letOwnedTupleGo_listiter hw.1 hq
  | _ => exact wpAny_pure hq
end
end
section
def sortRev (a : Addr) : Sem PySem.Fin := (do
  let items ← Builtin.List.listItems (.ref a)
  Builtin.List.listUpdate (.ref a) fun _ => #[]
  let before ← seqEpoch a
  let held ← newTuple items.toList
  let keyStore ← newList []
  holding [held, keyStore] do
   rule "list.sort.reverse"
   let kind ← if items.size < 2 then pure general' else keyKind' items
   let ((), s) ← (if items.size < 2 then pure () else sortRuns').run (SortSt.mk' kind (items.zip items).reverse #[] 7 none)
   let sorted := (arrOf s).map (·.2)
   let touched := (← seqEpoch a) != before
   Builtin.List.listUpdate (.ref a) fun _ => sorted.reverse
   if let some e := failedOf s then rule "list.sort.comparison-raised"; throw e
   if touched then rule "list.sort.modified"; raiseError "ValueError" "list modified during sort"
   ret .none)
theorem list_sort_rev (a : Addr) : Builtin.«list.sort» ⟨[.ref a], [(Str.ofString "reverse", .bool true)]⟩ = sortRev a := rfl
theorem list_sort_keyrev (a : Addr) : Builtin.«list.sort» ⟨[.ref a], [(Str.ofString "key", .none), (Str.ofString "reverse", .bool true)]⟩ = sortRev a := rfl
end
section
open PySem.Spec
section
variable {prog : Program} {w : World} {A : Around} {E : Value → Shared → Prop} {s : Shared} {hb : Heap} {tabs : List Addr} {L d : Addr} {l : List (Str × Value)} {T : List (Addr × Obj)} {vs : List Value} {n : Nat} {κ : SortKind}
theorem sortRev_wp {H : Prop} {rk : Nat → Nat} {Q : PySem.Fin → Shared → Prop} (S : St hb tabs L l ((d, lstO vs n) :: T) s.heap) (h2 : 2 ≤ vs.length) (h64 : vs.length < 64)
  (hkind : ∀ (s' : Shared) T' {Q : SortKind → Shared → Prop} {E : Value → Shared → Prop}, St hb tabs L l T' s'.heap → (∀ p ∈ T, p ∈ T') → Q κ s' → wpAny (model prog w) A (keyKind' vs.toArray) Q E s')
  (hlt : ∀ (s' : Shared) T', Kp s s' → St hb tabs L l T' s'.heap → (∀ p ∈ T, p ∈ T') → ∀ i j, i < vs.length → j < vs.length → ∀ C : Bool → Shared → Prop, (∀ b tk, (H → b = decide (rk i < rk j)) → C b { s' with toks := tk }) →
   wpAny (model prog w) A (keyLt' κ (vs.reverse.getD i .none) (vs.reverse.getD j .none)) C (fun _ _ => False) s')
  (k : ∀ s' n' (p : Array Nat), Kp s s' → Pm vs.length p → (H → SortedTo' rk p vs.length) → St hb tabs L l ((d, lstO (p.toList.map fun i => vs.reverse.getD i .none).reverse n') :: T) s'.heap → Q (.done (.ret .none)) s') :
  wpAny (model prog w) A (sortRev d) Q E s := by
 have ho := S.obj _ m0
 unfold sortRev
 obtain ⟨c1, hc1⟩ : ∃ c, Obj.mapSeq (fun _ => (#[] : Array Value)) (lstO vs n) = lstO [] c := ⟨_, rfl⟩
 refine wpAny_bind (listItems_at ho rfl ?_)
 refine wpAny_bind (listUpdate_at ho rfl ?_ (by rw [sizeLine_eq, List.size_toArray]; omega) (Nat.zero_le _))
 have S₁ := S.change (o' := lstO [] c1) 0 rfl (Heap.SameBut.update _ d (Obj.mapSeq fun _ => (#[] : Array Value))) (by rw [Heap.get?_update_self _ ho rfl, ← hc1])
 refine wpAny_bind (seqEpoch_at (S₁.obj _ m0) rfl ?_)
 have S₂ := S₁.push (tupO vs.toArray.toList)
 have S₃ := S₂.push (lstO [] 0)
 refine wpAny_bind (wpAny_newTuple ?_ (by show vs.length ≤ _; rw [sizeLine_eq]; omega))
 refine wpAny_bind (wpAny_newList ?_ (Nat.zero_le _))
 refine wpAny_holding ?_
 dsimp only
 refine wpAny_bind (wpAny_rule ?_)
 have hn2 : ¬ vs.toArray.size < 2 := by rw [List.size_toArray]; omega
 rw [if_neg hn2, if_neg hn2]
 refine wpAny_bind (hkind _ _ S₃ (fun p hp => .tail _ (.tail _ (.tail _ hp))) ?_)
 have ep : (vs.toArray.zip vs.toArray).reverse = vs.reverse.toArray.zip vs.reverse.toArray := kat_pairs true (ks := vs) (vs := vs) rfl
 rw [ep]
 have hr : vs.reverse.length = vs.length := List.length_reverse
 refine wpAny_bind (wpAny_mono (kat_run (ks := vs.reverse) (vs := vs.reverse) (κ := κ) (Q := fun st' s' => ∃ p : Array Nat, arrOf st' = p.map (kas_item (vs.reverse.toArray.zip vs.reverse.toArray)) ∧ failedOf st' = none ∧ Kp s s' ∧ Pm vs.length p ∧ (H → SortedTo' rk p vs.length) ∧ ∃ a b ta tb, St hb tabs L l ((a, ta) :: (b, tb) :: (d, lstO [] c1) :: T) s'.heap)
  (G := fun p s' => Kp s s' ∧ Pm vs.length p ∧ (H → SortedTo' rk p vs.length) ∧ ∃ a b ta tb, St hb tabs L l ((a, ta) :: (b, tb) :: (d, lstO [] c1) :: T) s'.heap) rfl (by omega) (by omega) (fun p st' s' a1 a2 a3 a4 => ⟨p, a2, a3, a4⟩) ?_) ?_ fun _ _ x => x)
 ·rw [hr]
  refine KOk.wp (Inv := fun s' => Kp s s' ∧ ∃ a b ta tb, St hb tabs L l ((a, ta) :: (b, tb) :: (d, lstO [] c1) :: T) s'.heap) (fun i j C s' hI hD hC => ?_) (fun p s' hI hp => ?_) (sort_ok (H := H) (rk := rk) (by omega : 0 < vs.length)) ⟨⟨rfl, id⟩, _, _, _, _, S₃⟩
  ·obtain ⟨K', a, b, ta, tb, S'⟩ := hI
   exact hlt s' _ K' S' (fun p hp => .tail _ (.tail _ (.tail _ hp))) i j hD.1 hD.2 C fun b' tk hb' => hC b' _ ⟨⟨K'.os, K'.gens⟩, a, b, ta, tb, S'⟩ hb'
  ·exact ⟨hI.1, hp.1, hp.2, hI.2⟩
 rintro ⟨⟨⟩, st'⟩ s' ⟨p, har, hf, K', hpm, hso, a, b, ta, tb, S'⟩
 dsimp only
 have e1 : (arrOf st').map (·.2) = List.toArray (p.toList.map fun i => vs.reverse.getD i .none) := kat_snds rfl har
 rw [e1, hf]
 refine wpAny_bind (seqEpoch_at (S'.obj _ m2) rfl ?_)
 have e3 : (List.toArray (p.toList.map fun i => vs.reverse.getD i .none)).reverse = (p.toList.map fun i => vs.reverse.getD i .none).reverse.toArray := by simp
 rw [e3]
 have hpl : p.toList.length = vs.length := by
  have := (Array.perm_iff_toList_perm.mp hpm).length_eq
  simpa using this
 obtain ⟨c2, hc2⟩ : ∃ c, Obj.mapSeq (fun _ => (p.toList.map fun i => vs.reverse.getD i .none).reverse.toArray) (lstO [] c1) = lstO (p.toList.map fun i => vs.reverse.getD i .none).reverse c := ⟨_, rfl⟩
 refine wpAny_bind (listUpdate_at (S'.obj _ m2) rfl ?_ (Nat.zero_le _) (by rw [sizeLine_eq, List.size_toArray, List.length_reverse, List.length_map, hpl]; omega))
 have S₄ := S'.change (o' := lstO (p.toList.map fun i => vs.reverse.getD i .none).reverse c2) 2 rfl (Heap.SameBut.update _ d (Obj.mapSeq fun _ => (p.toList.map fun i => vs.reverse.getD i .none).reverse.toArray)) (by rw [Heap.get?_update_self _ (S'.obj _ m2) rfl, ← hc2])
 have S₅ := S₄.sub (T' := (d, lstO (p.toList.map fun i => vs.reverse.getD i .none).reverse c2) :: T) (.cons _ (.cons _ (List.Sublist.refl _)))
 refine KFB.if_not (by simp) ?_
 exact wpAny_pure (k _ c2 p ⟨K'.os, K'.gens⟩ hpm hso S₅)
end
end
section
open PySem.Spec
section
variable {prog : Program} {w : World} {A : Around} {E : Value → Shared → Prop} {s : Shared} {hb : Heap} {tabs : List Addr} {L d : Addr} {l : List (Str × Value)} {T : List (Addr × Obj)} {vs : List Value} {n : Nat}
theorem sortRev_short {Q : PySem.Fin → Shared → Prop} (S : St hb tabs L l ((d, lstO vs n) :: T) s.heap) (hz : vs.length < 2)
  (k : ∀ h' n', St hb tabs L l ((d, lstO vs n') :: T) h' → Q (.done (.ret .none)) { s with heap := h' }) :
  wpAny (model prog w) A (sortRev d) Q E s := by
 have ho := S.obj _ m0
 unfold sortRev
 obtain ⟨c1, hc1⟩ : ∃ c, Obj.mapSeq (fun _ => (#[] : Array Value)) (lstO vs n) = lstO [] c := ⟨_, rfl⟩
 refine wpAny_bind (listItems_at ho rfl ?_)
 refine wpAny_bind (listUpdate_at ho rfl ?_ (by rw [sizeLine_eq, List.size_toArray]; omega) (Nat.zero_le _))
 have S₁ := S.change (o' := lstO [] c1) 0 rfl (Heap.SameBut.update _ d (Obj.mapSeq fun _ => (#[] : Array Value))) (by rw [Heap.get?_update_self _ ho rfl, ← hc1])
 refine wpAny_bind (seqEpoch_at (S₁.obj _ m0) rfl ?_)
 have S₂ := S₁.push (tupO vs.toArray.toList)
 have S₃ := S₂.push (lstO [] 0)
 refine wpAny_bind (wpAny_newTuple ?_ (by show vs.length ≤ _; rw [sizeLine_eq]; omega))
 refine wpAny_bind (wpAny_newList ?_ (Nat.zero_le _))
 refine wpAny_holding ?_
 dsimp only
 refine wpAny_bind (wpAny_rule ?_)
 have hn2 : vs.toArray.size < 2 := by rw [List.size_toArray]; exact hz
 rw [if_pos hn2, if_pos hn2]
 refine wpAny_bind (wpAny_pure ?_)
 refine wpAny_bind ?_
 show wpAny _ _ (pure ((), SortSt.mk' general' (vs.toArray.zip vs.toArray).reverse #[] 7 none)) _ _ _
 refine wpAny_pure ?_
 have e1 : ((arrOf (SortSt.mk' general' (vs.toArray.zip vs.toArray).reverse #[] 7 none)).map (·.2)).reverse = vs.toArray := by
  show (((vs.toArray.zip vs.toArray).reverse).map (·.2)).reverse = vs.toArray
  apply Array.toList_inj.mp
  simp
  exact List.map_snd_zip (Nat.le_refl _)
 dsimp only
 rw [e1]
 refine wpAny_bind (seqEpoch_at (S₃.obj _ m2) rfl ?_)
 obtain ⟨c2, hc2⟩ : ∃ c, Obj.mapSeq (fun _ => vs.toArray) (lstO [] c1) = lstO vs c := ⟨_, rfl⟩
 refine wpAny_bind (listUpdate_at (S₃.obj _ m2) rfl ?_ (Nat.zero_le _) (by rw [sizeLine_eq, List.size_toArray]; omega))
 have S₄ := S₃.change (o' := lstO vs c2) 2 rfl (Heap.SameBut.update _ d (Obj.mapSeq fun _ => vs.toArray)) (by rw [Heap.get?_update_self _ (S₃.obj _ m2) rfl, ← hc2])
 have S₅ := S₄.sub (T' := (d, lstO vs c2) :: T) (.cons _ (.cons _ (List.Sublist.refl _)))
 refine KFB.if_not (by simp) ?_
 exact wpAny_pure (k _ c2 S₅)
end
end
section
open PySem.Spec
section
variable {prog : Program} {w : World} {A : Around} {E : Value → Shared → Prop} {s : Shared} {hb : Heap} {tabs : List Addr} {L d : Addr} {l : List (Str × Value)} {T : List (Addr × Obj)} {vs : List Value} {n : Nat}
theorem r_sortedRev {kw : List (Str × Value)} {Q : Value → Shared → Prop} (S : St hb tabs L l T s.heap) (hd : (d, lstO vs n) ∈ T) (hz : vs.length ≤ 1000)
  (ha1 : argsOk "sorted" ⟨[.ref d], kw⟩) (ha2 : ∀ x, argsOk "list.sort" ⟨[.ref x], kw⟩) (ht : ∀ x, Builtin.«list.sort» ⟨[.ref x], kw⟩ = sortRev x)
  (h : ∀ D tmp c h', St hb tabs L l ((D, lstO vs 0) :: (tmp, lstO vs c) :: T) h' → wpAny (model prog w) A.in1.in1 (sortRev D) (fun fin s' => ∃ v, fin = .done (.ret v) ∧ Q (.ref D) s') E { s with heap := h' }) :
  wpAny (model prog w) A (call (.builtin "sorted") [.ref d] kw) Q E s := by
 refine call_function_entry_kw kind_sorted plain_sorted entry_sorted ha1 ?_
 unfold Builtin.«sorted»
 refine wpAny_bind (m := checkCount "sorted" 1 1 _) (wpAny_pure ?_)
 refine wpAny_bind (collect_list (vs := vs) ⟨_, S.obj _ hd, rfl, n, rfl⟩ ?_ (by rw [sizeLine_eq]; omega))
 have S₁ := S.push (lstO [] 0)
 obtain ⟨c1, hc1⟩ : ∃ c, Obj.mapSeq (· ++ vs.toArray) (lstO [] 0) = lstO vs c := by
  have hx : ∃ c1, Obj.mapSeq (· ++ vs.toArray) (lstO [] 0) = { lstO [] 0 with data := .seq ((#[] : Array Value) ++ vs.toArray) c1 } := ⟨_, rfl⟩
  rw [Array.empty_append] at hx
  exact hx
 have S₂ := S₁.change (o' := lstO vs c1) 0 rfl (Heap.SameBut.update _ s.heap.objs.size (Obj.mapSeq (· ++ vs.toArray))) (by rw [Heap.get?_update_self _ (S₁.obj _ m0) (by rw [hc1]; rfl), hc1])
 refine wpAny_bind (wpAny_newList ?_ (by rw [sizeLine_eq]; omega))
 have S₃ := S₂.push (lstO vs 0)
 refine wpAny_bind (wpAny_holding (wpAny_call_entry_kw slot_list_sort ⟨_, S₃.obj _ m0, rfl⟩ entry_list_sort ?body (ha2 _)))
 case body =>
  rw [ht]
  refine wpAny_mono (h _ _ c1 _ S₃) (fun fin s' z => ?_) fun _ _ x => x
  obtain ⟨v, rfl, q⟩ := z
  exact ⟨_, rfl, wpAny_pure ⟨_, rfl, q⟩⟩
end
end
section
abbrev tabs : List Addr := [248]
def KN (P : Params) : Frag := [(2, o2 P), (3, o3 P), (44, o44 P), (48, o48 P), (49, o49 P), (54, o54 P), (55, o55 P), (58, o58 P), (62, o62 P), (63, o63 P), (64, o64 P), (66, o66 P), (70, o70 P), (71, o71 P), (73, o73 P), (77, o77 P), (78, o78 P), (80, o80 P), (84, o84 P), (85, o85 P), (87, o87 P), (88, o88 P), (96, o96 P), (98, o98 P), (99, o99 P), (105, o105 P), (109, o109 P), (110, o110 P), (112, o112 P), (116, o116 P), (117, o117 P), (119, o119 P), (121, o121 P), (123, o123 P), (127, o127 P), (128, o128 P), (130, o130 P), (134, o134 P), (135, o135 P), (137, o137 P), (141, o141 P), (142, o142 P), (144, o144 P), (148, o148 P), (149, o149 P), (162, o162 P), (163, o163 P), (164, o164 P), (168, o168 P), (172, o172 P), (173, o173 P), (178, o178 P), (179, o179 P), (181, o181 P), (183, o183 P), (187, o187 P), (188, o188 P), (190, o190 P), (194, o194 P), (195, o195 P), (197, o197 P), (201, o201 P), (202, o202 P), (204, o204 P), (208, o208 P), (209, o209 P), (211, o211 P), (215, o215 P), (216, o216 P), (217, o217 P), (219, o219 P), (223, o223 P), (224, o224 P), (226, o226 P), (230, o230 P), (231, o231 P), (233, o233 P), (237, o237 P), (238, o238 P), (239, o239 P), (241, o241 P), (245, o245 P), (246, o246 P), (252, o252 P), (253, o253 P), (255, o255 P), (259, o259 P), (260, o260 P), (262, o262 P), (266, o266 P), (267, o267 P), (269, o269 P), (270, o270 P), (275, o275 P), (277, o277 P), (279, o279 P), (280, o280 P), (281, o281 P), (283, o283 P), (285, o285 P), (286, o286 P), (287, o287 P), (289, o289 P), (293, o293 P), (294, o294 P), (296, o296 P), (300, o300 P), (301, o301 P), (303, o303 P), (305, o305 P), (306, o306 P)]
theorem KN_nt (P : Params) : ((KN P).all fun p => !tabs.contains p.1) = true := by kernel_rfl
theorem KK_cut (P : Params) : KK P = [(2, o2 P), (3, o3 P), (44, o44 P), (48, o48 P), (49, o49 P), (54, o54 P), (55, o55 P), (58, o58 P), (62, o62 P), (63, o63 P), (64, o64 P), (66, o66 P), (70, o70 P), (71, o71 P), (73, o73 P), (77, o77 P), (78, o78 P), (80, o80 P), (84, o84 P), (85, o85 P), (87, o87 P), (88, o88 P), (96, o96 P), (98, o98 P), (99, o99 P), (105, o105 P), (109, o109 P), (110, o110 P), (112, o112 P), (116, o116 P), (117, o117 P), (119, o119 P), (121, o121 P), (123, o123 P), (127, o127 P), (128, o128 P), (130, o130 P), (134, o134 P), (135, o135 P), (137, o137 P), (141, o141 P), (142, o142 P), (144, o144 P), (148, o148 P), (149, o149 P), (162, o162 P), (163, o163 P), (164, o164 P), (168, o168 P), (172, o172 P), (173, o173 P), (178, o178 P), (179, o179 P), (181, o181 P), (183, o183 P), (187, o187 P), (188, o188 P), (190, o190 P), (194, o194 P), (195, o195 P), (197, o197 P), (201, o201 P), (202, o202 P), (204, o204 P), (208, o208 P), (209, o209 P), (211, o211 P), (215, o215 P), (216, o216 P), (217, o217 P), (219, o219 P), (223, o223 P), (224, o224 P), (226, o226 P), (230, o230 P), (231, o231 P), (233, o233 P), (237, o237 P), (238, o238 P), (239, o239 P), (241, o241 P), (245, o245 P), (246, o246 P)] ++ (248, o248 P) :: [(252, o252 P), (253, o253 P), (255, o255 P), (259, o259 P), (260, o260 P), (262, o262 P), (266, o266 P), (267, o267 P), (269, o269 P), (270, o270 P), (275, o275 P), (277, o277 P), (279, o279 P), (280, o280 P), (281, o281 P), (283, o283 P), (285, o285 P), (286, o286 P), (287, o287 P), (289, o289 P), (293, o293 P), (294, o294 P), (296, o296 P), (300, o300 P), (301, o301 P), (303, o303 P), (305, o305 P), (306, o306 P)] := rfl
theorem KN_cut (P : Params) : KN P = [(2, o2 P), (3, o3 P), (44, o44 P), (48, o48 P), (49, o49 P), (54, o54 P), (55, o55 P), (58, o58 P), (62, o62 P), (63, o63 P), (64, o64 P), (66, o66 P), (70, o70 P), (71, o71 P), (73, o73 P), (77, o77 P), (78, o78 P), (80, o80 P), (84, o84 P), (85, o85 P), (87, o87 P), (88, o88 P), (96, o96 P), (98, o98 P), (99, o99 P), (105, o105 P), (109, o109 P), (110, o110 P), (112, o112 P), (116, o116 P), (117, o117 P), (119, o119 P), (121, o121 P), (123, o123 P), (127, o127 P), (128, o128 P), (130, o130 P), (134, o134 P), (135, o135 P), (137, o137 P), (141, o141 P), (142, o142 P), (144, o144 P), (148, o148 P), (149, o149 P), (162, o162 P), (163, o163 P), (164, o164 P), (168, o168 P), (172, o172 P), (173, o173 P), (178, o178 P), (179, o179 P), (181, o181 P), (183, o183 P), (187, o187 P), (188, o188 P), (190, o190 P), (194, o194 P), (195, o195 P), (197, o197 P), (201, o201 P), (202, o202 P), (204, o204 P), (208, o208 P), (209, o209 P), (211, o211 P), (215, o215 P), (216, o216 P), (217, o217 P), (219, o219 P), (223, o223 P), (224, o224 P), (226, o226 P), (230, o230 P), (231, o231 P), (233, o233 P), (237, o237 P), (238, o238 P), (239, o239 P), (241, o241 P), (245, o245 P), (246, o246 P)] ++ [(252, o252 P), (253, o253 P), (255, o255 P), (259, o259 P), (260, o260 P), (262, o262 P), (266, o266 P), (267, o267 P), (269, o269 P), (270, o270 P), (275, o275 P), (277, o277 P), (279, o279 P), (280, o280 P), (281, o281 P), (283, o283 P), (285, o285 P), (286, o286 P), (287, o287 P), (289, o289 P), (293, o293 P), (294, o294 P), (296, o296 P), (300, o300 P), (301, o301 P), (303, o303 P), (305, o305 P), (306, o306 P)] := rfl
theorem lookup_cut {a b : Addr} {o : Obj} {u : Obj} : ∀ {l r : Frag}, ((l ++ r).all fun p => !(p.1 == b)) = true → (l ++ r).lookup a = some o → (l ++ (b, u) :: r).lookup a = some o
 | [], r, hb, e => by
  show ((b, u) :: r).lookup a = _
  rw [List.lookup_cons]
  split
  ·rename_i hq
   exfalso
   have hm : ∀ (m : Frag), m.lookup a = some o → (a, o) ∈ m := fun m => by
    induction m with
    | nil => intro e; cases e
    | cons p r ih =>
     intro e
     rw [List.lookup_cons] at e
     split at e
     ·rename_i hq
      cases e
      rw [beq_iff_eq.mp hq]; exact .head _
     ·exact .tail _ (ih e)
   have := List.all_eq_true.mp hb _ (hm _ e)
   rw [show ((a, o).1 == b) = true from hq] at this
   cases this
  ·exact e
 | (c, q) :: l, r, hb, e => by
  rw [List.cons_append, List.lookup_cons] at e ⊢
  rw [List.cons_append, List.all_cons] at hb
  split
  ·rename_i hq
   rw [hq] at e; exact e
  ·rename_i hq
   rw [hq] at e
   exact lookup_cut (Bool.and_eq_true_iff.mp hb).2 e
theorem KN_in {P : Params} {h : Heap} (k : (KK P).In h) : (KN P).In h := fun a o e => k a o (by
 rw [KK_cut]
 rw [KN_cut] at e
 exact lookup_cut (by kernel_rfl) e)
def fd49 (P : Params) : FuncData := match (o49 P).data with
 | .func f => f
 | _ => default
def fd110 (P : Params) : FuncData := match (o110 P).data with
 | .func f => f
 | _ => default
theorem lk110 (P : Params) : (KN P).lookup 110 = some ⟨Value.type "function", none, .func (fd110 P), #[]⟩ := by kernel_rfl
def fd117 (P : Params) : FuncData := match (o117 P).data with
 | .func f => f
 | _ => default
theorem lk117 (P : Params) : (KN P).lookup 117 = some ⟨Value.type "function", none, .func (fd117 P), #[]⟩ := by kernel_rfl
def fd173 (P : Params) : FuncData := match (o173 P).data with
 | .func f => f
 | _ => default
theorem lk173 (P : Params) : (KN P).lookup 173 = some ⟨Value.type "function", none, .func (fd173 P), #[]⟩ := by kernel_rfl
def fd188 (P : Params) : FuncData := match (o188 P).data with
 | .func f => f
 | _ => default
theorem lk188 (P : Params) : (KN P).lookup 188 = some ⟨Value.type "function", none, .func (fd188 P), #[]⟩ := by kernel_rfl
def fd195 (P : Params) : FuncData := match (o195 P).data with
 | .func f => f
 | _ => default
theorem lk195 (P : Params) : (KN P).lookup 195 = some ⟨Value.type "function", none, .func (fd195 P), #[]⟩ := by kernel_rfl
def fd202 (P : Params) : FuncData := match (o202 P).data with
 | .func f => f
 | _ => default
theorem lk202 (P : Params) : (KN P).lookup 202 = some ⟨Value.type "function", none, .func (fd202 P), #[]⟩ := by kernel_rfl
def fd209 (P : Params) : FuncData := match (o209 P).data with
 | .func f => f
 | _ => default
theorem lk209 (P : Params) : (KN P).lookup 209 = some ⟨Value.type "function", none, .func (fd209 P), #[]⟩ := by kernel_rfl
def fd216 (P : Params) : FuncData := match (o216 P).data with
 | .func f => f
 | _ => default
theorem lk216 (P : Params) : (KN P).lookup 216 = some ⟨Value.type "function", none, .func (fd216 P), #[]⟩ := by kernel_rfl
def fd224 (P : Params) : FuncData := match (o224 P).data with
 | .func f => f
 | _ => default
theorem lk224 (P : Params) : (KN P).lookup 224 = some ⟨Value.type "function", none, .func (fd224 P), #[]⟩ := by kernel_rfl
def fd231 (P : Params) : FuncData := match (o231 P).data with
 | .func f => f
 | _ => default
theorem lk231 (P : Params) : (KN P).lookup 231 = some ⟨Value.type "function", none, .func (fd231 P), #[]⟩ := by kernel_rfl
def fd253 (P : Params) : FuncData := match (o253 P).data with
 | .func f => f
 | _ => default
theorem lk253 (P : Params) : (KN P).lookup 253 = some ⟨Value.type "function", none, .func (fd253 P), #[]⟩ := by kernel_rfl
def fd260 (P : Params) : FuncData := match (o260 P).data with
 | .func f => f
 | _ => default
theorem lk260 (P : Params) : (KN P).lookup 260 = some ⟨Value.type "function", none, .func (fd260 P), #[]⟩ := by kernel_rfl
def fd267 (P : Params) : FuncData := match (o267 P).data with
 | .func f => f
 | _ => default
theorem lk267 (P : Params) : (KN P).lookup 267 = some ⟨Value.type "function", none, .func (fd267 P), #[]⟩ := by kernel_rfl
def fd280 (P : Params) : FuncData := match (o280 P).data with
 | .func f => f
 | _ => default
theorem lk280 (P : Params) : (KN P).lookup 280 = some ⟨Value.type "function", none, .func (fd280 P), #[]⟩ := by kernel_rfl
def fd286 (P : Params) : FuncData := match (o286 P).data with
 | .func f => f
 | _ => default
theorem lk286 (P : Params) : (KN P).lookup 286 = some ⟨Value.type "function", none, .func (fd286 P), #[]⟩ := by kernel_rfl
def fd294 (P : Params) : FuncData := match (o294 P).data with
 | .func f => f
 | _ => default
theorem lk294 (P : Params) : (KN P).lookup 294 = some ⟨Value.type "function", none, .func (fd294 P), #[]⟩ := by kernel_rfl
def fd301 (P : Params) : FuncData := match (o301 P).data with
 | .func f => f
 | _ => default
theorem lk301 (P : Params) : (KN P).lookup 301 = some ⟨Value.type "function", none, .func (fd301 P), #[]⟩ := by kernel_rfl
def fd306 (P : Params) : FuncData := match (o306 P).data with
 | .func f => f
 | _ => default
theorem lk306 (P : Params) : (KN P).lookup 306 = some ⟨Value.type "function", none, .func (fd306 P), #[]⟩ := by kernel_rfl
end
section
def share (m n : Int) : UInt64 := if n = 0 then 4607182418800017408 else Float64.div (Float64.mul 4611686018427387904 (Float64.ofInt m)) (Float64.ofInt n)
section
variable {w : World} {A : Around} {E : Value → Shared → Prop} {s : Shared} {hb : Heap} {L : Addr} {l : List (Str × Value)} {T : List (Addr × Obj)} {R : Result → Shared → Prop}
theorem small_fits {n : Int} (h1 : 0 ≤ n) (h2 : n ≤ 1000) : n.natAbs < 2 ^ 1023 := by
 have : n.natAbs ≤ 1000 := by omega
 exact Nat.lt_of_lt_of_le (Nat.lt_of_le_of_lt this (by decide : 1000 < 2 ^ 10)) (Nat.pow_le_pow_right (by decide) (by decide))
theorem calc_ratio (G : Gd (KN w.params) tabs hb) (S : St hb tabs L l T s.heap) (hd : A.depth < recursionLimit) {m n : Int} {t u : Tok} (m0 : 0 ≤ m) (m1 : m ≤ 1000) (n0 : 0 ≤ n) (n1 : n ≤ 1000)
  (k : ∀ h' tk t', St hb tabs L l T h' → R (.ok (.ret (.float (share m n) t'))) { s with heap := h', toks := tk }) :
  codeAny (model pw w) A (.call (.ref 173) ⟨[.int m t, .int n u], []⟩) R s := by
 refine c_def G S (lk173 _) hd (binds := [(Str.ofString "matches", .int m t), (Str.ofString "length", .int n u)]) (body := fnBody (st1 pw 5)) (BindsTo.of_eq (by kernel_rfl)) ?_
 intro L' h₁ oL r S'
 refine q_if ?_
 refine isTrue_plain ?_
 refine r_local S' (.tail _ (.head _)) ?_
 refine truthy_int ⟨fun hb => ?_, fun hb => ?_⟩
 ·have hn : n ≠ 0 := by simpa using hb
  have hO : ¬ PySem.Flt.Over n := fun q => by
   have := small_fits n0 n1
   unfold PySem.Flt.Over at q
   omega
  refine q_ret ?_
  refine wpAny_BinOp ?_
  refine wpAny_BinOp ?_
  refine AutoFloatOps.wpAny_Constant_float ?_
  refine r_local S' (.head _) ?_
  refine mul_fi_fits (small_fits m0 m1) ?_
  refine r_local S' (.tail _ (.head _)) ?_
  refine AutoFloatOps.truediv_fi_2 (PySem.Flt.fin_of_fits hO) (fun x => hn ((PySem.Flt.isZero_ofInt n).mp x)) ?_
  have e : share m n = Float64.div (Float64.mul 4611686018427387904 (Float64.ofInt m)) (Float64.ofInt n) := if_neg hn
  refine e ▸ k _ _ _ (S'.leave 0 rfl r)
 ·have hn : n = 0 := by simpa using hb
  refine q_nil ?_
  refine q_ret ?_
  refine AutoFloatOps.wpAny_Constant_float ?_
  have e : share m n = 4607182418800017408 := if_pos hn
  refine e ▸ k _ _ _ (S'.leave 0 rfl r)
end
end
section
abbrev smO (dx : Addr) : Obj := ⟨.ref 270, some dx, .plain, #[]⟩
section
variable {w : World} {A : Around} {E : Value → Shared → Prop} {s : Shared} {hb : Heap} {L x dx : Addr} {l : List (Str × Value)} {T Ra Rb : List (Addr × Obj)} {R : Result → Shared → Prop} {od : Obj} {fl : List (Str × Value)} {va vb : Value} {la lb : List Str}
theorem real_quick (G : Gd (KN w.params) tabs hb) (S : St hb tabs L l T s.heap) (hd : A.depth + 1 < recursionLimit) (hh : A.handled = none) (hx : (x, smO dx) ∈ T) (hdx : (dx, od) ∈ T) (hf : FlObj od fl) (ha : (Str.ofString "a", va) ∈ fl) (hb' : (Str.ofString "b", vb) ∈ fl)
  (Va : SqV (pw) w hb tabs Ra va la) (Vb : SqV pw w hb tabs Rb vb lb) (hRa : ∀ p ∈ Ra, p ∈ T) (hRb : ∀ p ∈ Rb, p ∈ T)
  (k : ∀ h' tk t', St hb tabs L l T h' → R (.ok (.ret (.float (share (min la.length lb.length) (la.length + lb.length)) t'))) { s with heap := h', toks := tk }) :
  codeAny (model pw w) A (.call (.ref 267) ⟨[.ref x], []⟩) R s := by
 have sa := Va.small
 have sb := Vb.small
 refine c_def G S (lk267 _) (by omega) (binds := [(Str.ofString "self", .ref x)]) (body := fnBody (st2 pw 6 12)) (BindsTo.of_eq (by kernel_rfl)) ?_
 intro L' h₁ oL r S'
 refine q_doc ?_
 refine q_swap [Str.ofString "la", Str.ofString "lb"] ?_
 refine args_cons ?_
 refine r_call ?_
 refine r_builtin G S' boot_len ?_
 refine cw_builtin ?_
 refine args_cons ?_
 refine r_dot ?_
 refine r_local S' (.head _) ?_
 refine r_attr G S' (.tail _ hx) (.tail _ hdx) hf ha ?_ (hv := Va.hand)
 refine args_nil ?_
 refine Va.len S' (fun p hp => .tail _ (hRa p hp)) ?_
 intro t₁ tk₁
 refine args_cons ?_
 refine r_call ?_
 refine r_builtin G S' boot_len ?_
 refine cw_builtin ?_
 refine args_cons ?_
 refine r_dot ?_
 refine r_local S' (.head _) ?_
 refine r_attr G S' (.tail _ hx) (.tail _ hdx) hf hb' ?_ (hv := Vb.hand)
 refine args_nil ?_
 refine Vb.len S' (fun p hp => .tail _ (hRb p hp)) ?_
 intro t₂ tk₂
 refine args_nil ?_
 refine ⟨rfl, rfl, hh, _, _, _, _, _, S', ?_⟩
 intro h₂ S₂
 refine as_cons ?_
 refine r_store S₂ (.new (by kernel_rfl)) ?_
 intro h₃ S₃
 refine as_cons ?_
 refine r_store S₃ (.new (by kernel_rfl)) ?_
 intro h₄ S₄
 refine as_nil ?_
 refine q_ret ?_
 refine r_call ?_
 refine r_global G S₄ (v := .ref 173) (by kernel_rfl) ?_
 refine cw_ref G ?_
 refine args_cons ?_
 refine r_call ?_
 refine r_builtin G S₄ boot_min ?_
 refine cw_builtin ?_
 refine args_cons ?_
 refine r_local S₄ (.head _) ?_
 refine args_cons ?_
 refine r_local S₄ (.tail _ (.head _)) ?_
 refine args_nil ?_
 refine r_min hh S₄ ?_
 intro h₅ tk₅ t₅ S₅
 refine args_cons ?_
 refine wpAny_BinOp ?_
 refine r_local S₅ (.head _) ?_
 refine r_local S₅ (.tail _ (.head _)) ?_
 refine add_int ?_
 refine args_nil ?_
 refine ⟨⟨_, _, _, S₅⟩, ?_⟩
 refine calc_ratio G S₅ hd (by omega) (by omega) (by omega) (by omega) ?_
 intro h₆ tk₆ t₆ S₆
 exact k _ _ _ (S₆.leave 0 rfl r)
end
end
section
section
variable {w : World} {A : Around} {E : Value → Shared → Prop} {s : Shared} {hb : Heap} {L x dx : Addr} {l : List (Str × Value)} {T : List (Addr × Obj)} {R : Result → Shared → Prop} {od : Obj} {fl fl1 fl2 fl3 : List (Str × Value)} {av v : Value}
abbrev IsTold (w : World) (hb : Heap) (v u : Value) (C : Prop) : Prop := ∀ {A : Around} {E : Value → Shared → Prop} {s : Shared} {Q : Value → Shared → Prop}, NoneBooked s.heap → (∀ c : Bool, (c = true → C) → Q (.bool c) s) → wpAny (model pw w) A (compareOp .Is v u) Q E s
theorem isTold_none {y : Str} {t : Tok} : IsTold w hb (.str y t) .none False := fun _ h => is_none (h false fun q => by cases q)
theorem isTold_str {y z : Str} {t u : Tok} (ht : t ≠ 0) (hu : u ≠ 0) (he : t = u → y = z) : IsTold w hb (.str y t) (.str z u) (y = z) := fun nb h => is_strs nb ht hu he h
theorem set_seq1 {C : Prop} (G : Gd (KN w.params) tabs hb) (S : St hb tabs L l ((x, smO dx) :: (dx, od) :: T) s.heap) (hd : A.depth < recursionLimit) (hf : FlObj od fl) (ha : (Str.ofString "a", av) ∈ fl) (hav : handedIn av = true)
  (his : IsTold w hb v av C) (p1 : Put fl (Str.ofString "a") v fl1) (p2 : Put fl1 (Str.ofString "matching_blocks") .none fl2) (p3 : Put fl2 (Str.ofString "opcodes") .none fl3) (hz : Nat.ble fl1.length 1000 = true) (hz2 : Nat.ble fl2.length 1000 = true) (hz3 : Nat.ble fl3.length 1000 = true)
  (k0 : C → ∀ h' tk, St hb tabs L l ((x, smO dx) :: (dx, od) :: T) h' → R (.ok (.ret .none)) { s with heap := h', toks := tk })
  (k1 : ∀ h' tk od', St hb tabs L l ((x, smO dx) :: (dx, od') :: T) h' → FlObj od' fl3 → R (.ok (.ret .none)) { s with heap := h', toks := tk }) :
  codeAny (model pw w) A (.call (.ref 202) ⟨[.ref x, v], []⟩) R s := by
 refine c_def G S (lk202 _) (by omega) (binds := [(Str.ofString "self", .ref x), (Str.ofString "a", v)]) (body := fnBody (st2 pw 6 3)) (BindsTo.of_eq (by kernel_rfl)) ?_
 intro L' h₁ oL r S'
 refine q_doc ?_
 refine q_if ?_
 refine wpAny_isTrue_Compare1 ?_
 refine r_local S' (.tail _ (.head _)) ?_
 refine r_dot ?_
 refine r_local S' (.head _) ?_
 refine r_attr G S' (.tail _ (.head _)) (.tail _ (.tail _ (.head _))) hf ha ?_ (hv := hav)
 refine his (S'.nb G) fun c hc => ?_
 refine wpAny_truthy_bool ⟨fun hb => ?_, fun hb => ?_⟩
 ·refine q_ret0 ?_
  exact k0 (hc hb) _ _ (S'.leave 0 rfl r)
 ·refine q_nil ?_
  refine q_setattr ?_
  refine r_local S' (.tail _ (.head _)) ?_
  refine r_local S' (.head _) ?_
  refine r_setattr 2 G S' (.tail _ (.head _)) rfl hf p1 ?_ hz
  intro h₂ od₂ S₂ hf₂
  refine q_two ?_
  refine wpAny_Constant_none ?_
  refine as_attr ?_
  refine r_local S₂ (.head _) ?_
  refine r_setattr 2 G S₂ (.tail _ (.head _)) rfl hf₂ p2 ?_ hz2
  intro h₃ od₃ S₃ hf₃
  refine as_attr ?_
  refine r_local S₃ (.head _) ?_
  refine r_setattr 2 G S₃ (.tail _ (.head _)) rfl hf₃ p3 ?_ hz3
  intro h₄ od₄ S₄ hf₄
  refine q_nil ?_
  exact k1 _ _ _ (S₄.leave 0 rfl r) hf₄
end
end
section
section
variable {w : World} {A : Around} {E : Value → Shared → Prop} {s : Shared} {hb : Heap} {L x dx : Addr} {l : List (Str × Value)} {T : List (Addr × Obj)} {R : Result → Shared → Prop} {od : Obj} {fl : List (Str × Value)} {vb : Value} {lb : List Str} {Rb : List (Addr × Obj)}
 {fl1 : Value → List (Str × Value)} {fl2 : Value → Value → List (Str × Value)} {fl3 : Value → Value → Value → List (Str × Value)}
theorem str_is {c : Str} {u : Tok} : (PySem.strKind pw w).is c (.str c u) = true := by simp [PySem.strKind, Value.isStrOf]
theorem chain_b (G : Gd (KN w.params) tabs hb) (S : St hb tabs L l ((x, smO dx) :: (dx, od) :: T) s.heap) (hd : A.depth < recursionLimit) (hh : A.handled = none) (hf : FlObj od fl) (hb' : (Str.ofString "b", vb) ∈ fl)
  (Vb : SqV pw w hb tabs Rb vb lb) (hRb : ∀ p ∈ Rb, p ∈ T)
  (p1 : ∀ v, Put fl (Str.ofString "b2j") v (fl1 v)) (p2 : ∀ v u, Put (fl1 v) (Str.ofString "bjunk") u (fl2 v u)) (p3 : ∀ v u z, Put (fl2 v u) (Str.ofString "bpopular") z (fl3 v u z))
  (hij : ∀ v u, (Str.ofString "isjunk", .none) ∈ fl2 v u) (haj : ∀ v u z, (Str.ofString "autojunk", .bool true) ∈ fl3 v u z)
  (hz : ∀ v u z, Nat.ble (fl1 v).length 1000 = true ∧ Nat.ble (fl2 v u).length 1000 = true ∧ Nat.ble (fl3 v u z).length 1000 = true)
  (k : ∀ s' od' d2 sj sp o2 rows led led', Kp s s' → St hb tabs L l ((x, smO dx) :: (dx, od') :: (sp, setO led') :: (sj, setO led) :: (d2, o2) :: (rows.map JRow.ob ++ T)) s'.heap → FlObj od' (fl3 (.ref d2) (.ref sj) (.ref sp)) →
   o2.IsDictOf (PySem.strKind pw w) (rows.map JRow.kv) → Rows2 lb rows → R (.ok (.ret .none)) s') :
  codeAny (model pw w) A (.call (.ref 216) ⟨[.ref x], []⟩) R s := by
 refine c_def G S (lk216 _) (by omega) (binds := [(Str.ofString "self", .ref x)]) (body := fnBody (st2 pw 6 5)) (BindsTo.of_eq (by kernel_rfl)) ?_
 intro L' h₁ oL r S'
 refine q_assign ?_
 refine r_dot ?_
 refine r_local S' m0 ?_
 refine r_attr G S' m1 m2 hf hb' ?_ (hv := Vb.hand)
 refine r_store S' (.new (by kernel_rfl)) ?_
 intro h₂ S₂
 refine q_two ?_
 refine r_dict0 S₂ ?_
 intro d2 h₃ S₃
 refine as_attr ?_
 refine r_local S₃ m1 ?_
 refine r_setattr 3 G S₃ m2 rfl hf (p1 _) ?_ (hz (.ref d2) .none .none).1
 intro h₄ od₄ S₄ hf₄
 refine as_name ?_
 refine r_store S₄ (.new (by kernel_rfl)) ?_
 intro h₅ S₅
 refine q_for ?_
 refine r_call ?_
 refine r_builtin G S₅ boot_enumerate ?_
 refine cw_type ?_
 refine args_cons ?_
 refine r_local S₅ m1 ?_
 refine args_nil ?_
 refine Vb.enum hh S₅ (fun p hp => .tail _ (.tail _ (.tail _ (.tail _ (hRb p hp))))) ?_
 intro I J o o' Wt Mid fp h₆ IU hw S₆
 refine (IU.walks (A.deeper _) hh).self 0 _ _ _ ?_ ?_
 ·exact hw
 refine for_walkU (own := [(I, o), (J, o')]) (Ro := Rb) hh (IU.walks (A.deeper _) hh) IU.ex rfl IU.ro S₆ hw
  (fun i l₁ T₁ => l₁ = [(Str.ofString "b2j", .ref d2), (Str.ofString "b", vb), (Str.ofString "self", .ref x)] ∧
   ∃ o2 rows, T₁ = (d2, o2) :: (L, oL) :: (x, smO dx) :: (dx, od₄) :: (rows.map JRow.ob ++ T) ∧ o2.IsDictOf (PySem.strKind pw w) (rows.map JRow.kv) ∧ Rows2 (lb.take i) rows)
  ⟨rfl, dict0, [], rfl, dict0_is, Rows2.nil⟩ (fun p hp => .tail _ (.tail _ (.tail _ (.tail _ (hRb p hp))))) ?_ (by kernel_rfl) ?_ ?_
 ·rintro i vals ⟨t, y, -, rfl⟩
  rfl
 ·rintro E₁ i vals l₁ T₁ own₁ s₁ hi ⟨t, y, ⟨c, u, hc, rfl⟩, rfl⟩ ⟨rfl, o2, rows, rfl, hd2, hrows⟩ S₇ hRo hKp
  refine as_each ?_
  refine r_store S₇ (.new (by kernel_rfl)) ?_
  intro h₈ S₈
  refine as_each ?_
  refine r_store S₈ (.new (by kernel_rfl)) ?_
  intro h₉ S₉
  refine as_none ?_
  refine q_assign ?_
  refine m_call ?_
  refine r_local S₉ m2 ?_
  refine r_dmeth S₉ m0 hd2 PySem.F.slot_dict_setdefault PySem.F.type_dict_setdefault ?_
  refine cw_builtin ?_
  refine args_cons ?_
  refine r_local S₉ m0 ?_
  refine args_cons ?_
  refine r_list ?_
  refine args_nil ?_
  refine ⟨rfl, _, _, _, _, _, S₉, ?_⟩
  intro a h₁₀ S₁₀
  refine args_nil ?_
  have hle : (lb.take i).length = i := by rw [List.length_take]; omega
  have hsm := Vb.small
  have hrl := hrows.small
  have hlen : (rows.map JRow.kv).length ≤ 1000 := by rw [List.length_map]; omega
  have htk : lb.take (i + 1) = lb.take i ++ [c] := by rw [List.take_succ, hc]; rfl
  refine wpAny_mono (r_setdefault (E := E₁) (Q := fun v s₂ => ∃ (o2' : Obj) (rows' : List JRow) (j : Nat) (r : JRow), v = .ref r.a ∧ Kp s s₂ ∧
   St hb tabs L' [(Str.ofString "elt", .str c u), (Str.ofString "i", .int i t), (Str.ofString "b2j", .ref d2), (Str.ofString "b", vb), (Str.ofString "self", .ref x)] ((d2, o2') :: (L, oL) :: (x, smO dx) :: (dx, od₄) :: (rows'.map JRow.ob ++ (T ++ own₁))) s₂.heap ∧
   o2'.IsDictOf (PySem.strKind pw w) (rows'.map JRow.kv) ∧ rows'[j]? = some r ∧ r.vs.length ≤ 1000 ∧ Rows2 (lb.take (i + 1)) (rows'.set j ⟨r.c, r.a, r.vs ++ [.int i t], r.n + 1⟩)) 1 G S₁₀ rfl hd2 (k := c) str_is (fun v hv => ?_) (fun hn h₁₁ o2' S₁₁ hd2' => ?_) hlen) ?_ (fun _ _ z => z)
  ·obtain ⟨j, r, hj, rfl, rfl⟩ := valueAt_rows_some hv
   refine ⟨o2, rows, j, r, rfl, ⟨hKp.os, hKp.gens⟩, ?_, hd2, hj, ?_, ?_⟩
   ·rw [← List.append_assoc]
    exact S₁₀.sub (List.sublist_cons_self _ _)
   ·rw [(hrows.at_ r (List.mem_of_getElem? hj)).len]
    have := places_len (lb.take i) r.c
    omega
   ·have := hrows.old hj (t := t) (n := r.n + 1)
    rw [hle] at this
    rw [htk]; exact this
  ·refine ⟨o2', rows ++ [(⟨c, a, [], 0⟩ : JRow)], rows.length, ⟨c, a, [], 0⟩, rfl, ⟨hKp.os, hKp.gens⟩, ?_, ?_, by simp, by simp, ?_⟩
   ·refine S₁₁.perm ?_
    show ((a, lstO [] 0) :: (d2, o2') :: (L, oL) :: (x, smO dx) :: (dx, od₄) :: (rows.map JRow.ob ++ T ++ own₁)).Perm _
    rw [List.map_append, List.append_assoc, List.append_assoc]
    have : ((a, lstO [] 0) :: ((d2, o2') :: (L, oL) :: (x, smO dx) :: (dx, od₄) :: rows.map JRow.ob ++ (T ++ own₁))).Perm ((d2, o2') :: (L, oL) :: (x, smO dx) :: (dx, od₄) :: rows.map JRow.ob ++ (a, lstO [] 0) :: (T ++ own₁)) := List.perm_middle.symm
    exact this
   ·rw [← stored_rows_new hn]; exact hd2'
   ·have := hrows.new (valueAt_rows_none hn) (a := a) (t := t) (n := 1)
    rw [hle] at this
    rw [htk, List.set_append_right _ _ (Nat.le_refl _)]
    simpa using this
  ·rintro v s₂ ⟨o2', rows', j, r, rfl, hKp₂, S₁₂, hd2', hj, hvs, hrows'⟩
   refine r_store S₁₂ (.new (by kernel_rfl)) ?_
   intro h₁₃ S₁₃
   refine q_expr ?_
   refine m_call ?_
   refine r_local S₁₃ m0 ?_
   have hat : ((d2, o2') :: (L, oL) :: (x, smO dx) :: (dx, od₄) :: (rows'.map JRow.ob ++ (T ++ own₁)))[4 + j]? = some (r.a, lstO r.vs r.n) := by
    rw [Nat.add_comm]
    exact get_ob (X := T ++ own₁) hj
   refine r_lmeth S₁₃ (List.mem_of_getElem? hat) PySem.F.slot_list_append type_list_append ?_
   refine cw_builtin ?_
   refine args_cons ?_
   refine r_local S₁₃ m2 ?_
   refine args_nil ?_
   refine r_append (4 + j) S₁₃ hat ?_ (by omega)
   intro h₁₄ S₁₄
   refine q_nil ?_
   refine ⟨[(Str.ofString "b2j", .ref d2), (Str.ofString "b", vb), (Str.ofString "self", .ref x)], (d2, o2') :: (L, oL) :: (x, smO dx) :: (dx, od₄) :: ((rows'.set j ⟨r.c, r.a, r.vs ++ [.int i t], r.n + 1⟩).map JRow.ob ++ T), ?_, ⟨rfl, o2', _, rfl, ?_, hrows'⟩, ?_, ⟨hKp₂.os, hKp₂.gens⟩⟩
   ·refine (S₁₄.forget (l' := [(Str.ofString "b2j", .ref d2), (Str.ofString "b", vb), (Str.ofString "self", .ref x)]) ?_).perm ?_
    ·exact .cons _ (.cons _ (.cons _ (List.Sublist.refl _)))
    ·have e := set_ob (X := T ++ own₁) (r' := ⟨r.c, r.a, r.vs ++ [.int i t], r.n + 1⟩) hj
     rw [Nat.add_comm 4 j]
     show ((d2, o2') :: (L, oL) :: (x, smO dx) :: (dx, od₄) :: (rows'.map JRow.ob ++ (T ++ own₁)).set j (JRow.ob ⟨r.c, r.a, r.vs ++ [.int i t], r.n + 1⟩)).Perm ((d2, o2') :: (L, oL) :: (x, smO dx) :: (dx, od₄) :: (((rows'.set j ⟨r.c, r.a, r.vs ++ [.int i t], r.n + 1⟩).map JRow.ob ++ T) ++ own₁))
     rw [e, List.append_assoc]
   ·have e : List.map JRow.kv (rows'.set j ⟨r.c, r.a, r.vs ++ [Value.int i t], r.n + 1⟩) = _ := set_kv hj rfl rfl
    rw [e]; exact hd2'
   ·intro p hp
    exact .tail _ (.tail _ (.tail _ (.tail _ (List.mem_append_right _ (hRb p hp)))))
 ·rintro s' l' T' hKp S₇ ⟨rfl, o2, rows, rfl, hd2, hrows⟩ hRo
  have htk : lb.take lb.length = lb := List.take_length
  rw [htk] at hrows
  refine q_two ?_
  refine r_call ?_
  refine r_builtin G S₇ boot_set ?_
  refine cw_type ?_
  refine args_nil ?_
  refine r_set0 S₇ ?_
  intro sj led h₈ S₈
  refine as_attr ?_
  refine r_local S₈ m2 ?_
  refine r_setattr 4 G S₈ m3 rfl hf₄ (p2 _ _) ?_ (hz (.ref d2) (.ref sj) .none).2.1
  intro h₉ od₉ S₉ hf₉
  refine as_name ?_
  refine r_store S₉ (.new (by kernel_rfl)) ?_
  intro h₁₀ S₁₀
  refine q_assign ?_
  refine r_dot ?_
  refine r_local S₁₀ m3 ?_
  refine r_attr G S₁₀ m3 m4 hf₉ (hij _ _) ?_
  refine r_store S₁₀ (.new (by kernel_rfl)) ?_
  intro h₁₁ S₁₁
  refine q_if ?_
  refine isTrue_plain ?_
  refine r_local S₁₁ m0 ?_
  refine truthy_none ⟨nofun, fun _ => ?_⟩
  refine q_nil ?_
  refine q_two ?_
  refine r_call ?_
  refine r_builtin G S₁₁ boot_set ?_
  refine cw_type ?_
  refine args_nil ?_
  refine r_set0 S₁₁ ?_
  intro sp led' h₁₂ S₁₂
  refine as_attr ?_
  refine r_local S₁₂ m4 ?_
  refine r_setattr 5 G S₁₂ m4 rfl hf₉ (p3 _ _ _) ?_ (hz (.ref d2) (.ref sj) (.ref sp)).2.2
  intro h₁₃ od₁₃ S₁₃ hf₁₃
  refine as_name ?_
  refine r_store S₁₃ (.new (by kernel_rfl)) ?_
  intro h₁₄ S₁₄
  refine q_assign ?_
  refine r_call ?_
  refine r_builtin G S₁₄ boot_len ?_
  refine cw_builtin ?_
  refine args_cons ?_
  refine r_local S₁₄ m4 ?_
  refine args_nil ?_
  refine Vb.len S₁₄ (fun p hp => .tail _ (.tail _ (.tail _ (.tail _ (.tail _ (.tail _ (List.mem_append_right _ (hRb p hp)))))))) ?_
  intro t₁ tk₁
  refine r_store S₁₄ (.new (by kernel_rfl)) ?_
  intro h₁₅ S₁₅
  refine q_if ?_
  refine r_and ?_
  refine isTrue_plain ?_
  refine r_dot ?_
  refine r_local S₁₅ m6 ?_
  refine r_attr G S₁₅ m4 m5 hf₁₃ (haj _ _ _) ?_
  refine wpAny_truthy_bool ⟨fun _ => ?_, nofun⟩
  refine r_and ?_
  refine wpAny_isTrue_Compare1 ?_
  refine r_local S₁₅ m0 ?_
  refine wpAny_Constant_int ?_
  refine ge_int ?_
  have hsm := Vb.small
  refine wpAny_truthy_bool ⟨fun hb => absurd (of_decide_eq_true hb) (by omega), fun _ => ?_⟩
  refine ⟨nofun, fun _ => ?_⟩
  refine q_nil ?_
  refine q_nil ?_
  refine k _ _ _ _ _ _ _ led led' ?kp ?st hf₁₃ hd2 hrows
  case kp => exact ⟨hKp.os, hKp.gens⟩
  case st => exact (S₁₅.leave 3 rfl r).perm ((List.perm_append_comm (l₁ := [(sp, setO led'), (sj, setO led), (d2, o2)]) (l₂ := [(x, smO dx), (dx, od₁₃)])).append_right _)
end
end
section
section
variable {w : World} {A : Around} {E : Value → Shared → Prop} {s : Shared} {hb : Heap} {L x dx : Addr} {l : List (Str × Value)} {T : List (Addr × Obj)} {R : Result → Shared → Prop} {od : Obj} {fl f1 f2 f3 f4 : List (Str × Value)} {v bv : Value} {lb : List Str} {Rb : List (Addr × Obj)}
 {fl1 : Value → List (Str × Value)} {fl2 : Value → Value → List (Str × Value)} {fl3 : Value → Value → Value → List (Str × Value)} {C : Prop}
abbrev ChainK (w : World) (hb : Heap) (L x dx : Addr) (l : List (Str × Value)) (T : List (Addr × Obj)) (R : Result → Shared → Prop) (lb : List Str) (fl3 : Value → Value → Value → List (Str × Value)) (s : Shared) : Prop :=
 ∀ s' od' d2 sj sp o2 rows led led', Kp s s' → St hb tabs L l ((x, smO dx) :: (dx, od') :: (sp, setO led') :: (sj, setO led) :: (d2, o2) :: (rows.map JRow.ob ++ T)) s'.heap → FlObj od' (fl3 (.ref d2) (.ref sj) (.ref sp)) →
   o2.IsDictOf (PySem.strKind pw w) (rows.map JRow.kv) → Rows2 lb rows → R (.ok (.ret .none)) s'
theorem set_seq2 (G : Gd (KN w.params) tabs hb) (S : St hb tabs L l ((x, smO dx) :: (dx, od) :: T) s.heap) (hd : A.depth + 1 < recursionLimit) (hh : A.handled = none) (hf : FlObj od fl) (ha : (Str.ofString "b", bv) ∈ fl) (hav : handedIn bv = true)
  (Vb : SqV pw w hb tabs Rb v lb) (hRb : ∀ p ∈ Rb, p ∈ T) (his : IsTold w hb v bv C)
  (q1 : Put fl (Str.ofString "b") v f1) (q2 : Put f1 (Str.ofString "matching_blocks") .none f2) (q3 : Put f2 (Str.ofString "opcodes") .none f3) (q4 : Put f3 (Str.ofString "fullbcount") .none f4)
  (hz1 : Nat.ble f1.length 1000 = true) (hz2 : Nat.ble f2.length 1000 = true) (hz3 : Nat.ble f3.length 1000 = true) (hz4 : Nat.ble f4.length 1000 = true)
  (hb4 : (Str.ofString "b", v) ∈ f4) (hnm : (f4.map (·.1)).contains (Str.ofString "_SequenceMatcher__chain_b") = false)
  (p1 : ∀ v, Put f4 (Str.ofString "b2j") v (fl1 v)) (p2 : ∀ v u, Put (fl1 v) (Str.ofString "bjunk") u (fl2 v u)) (p3 : ∀ v u z, Put (fl2 v u) (Str.ofString "bpopular") z (fl3 v u z))
  (hij : ∀ v u, (Str.ofString "isjunk", .none) ∈ fl2 v u) (haj : ∀ v u z, (Str.ofString "autojunk", .bool true) ∈ fl3 v u z)
  (hz : ∀ v u z, Nat.ble (fl1 v).length 1000 = true ∧ Nat.ble (fl2 v u).length 1000 = true ∧ Nat.ble (fl3 v u z).length 1000 = true)
  (k0 : C → ∀ s', Kp s s' → St hb tabs L l ((x, smO dx) :: (dx, od) :: T) s'.heap → R (.ok (.ret .none)) s')
  (k : ChainK w hb L x dx l T R lb fl3 s) :
  codeAny (model pw w) A (.call (.ref 209) ⟨[.ref x, v], []⟩) R s := by
 refine c_def G S (lk209 _) (by omega) (binds := [(Str.ofString "self", .ref x), (Str.ofString "b", v)]) (body := fnBody (st2 pw 6 4)) (BindsTo.of_eq (by kernel_rfl)) ?_
 intro L' h₁ oL r S'
 refine q_doc ?_
 refine q_if ?_
 refine wpAny_isTrue_Compare1 ?_
 refine r_local S' m1 ?_
 refine r_dot ?_
 refine r_local S' m0 ?_
 refine r_attr G S' m1 m2 hf ha ?_ (hv := hav)
 refine his (S'.nb G) fun c hc => ?_
 refine wpAny_truthy_bool ⟨fun hb => ?_, fun hb => ?_⟩
 ·refine q_ret0 ?_
  exact k0 (hc hb) _ ⟨rfl, id⟩ (S'.leave 0 rfl r)
 ·refine q_nil ?_
  refine q_setattr ?_
  refine r_local S' m1 ?_
  refine r_local S' m0 ?_
  refine r_setattr 2 G S' m1 rfl hf q1 ?_ hz1
  intro h₂ od₂ S₂ hf₂
  refine q_two ?_
  refine wpAny_Constant_none ?_
  refine as_attr ?_
  refine r_local S₂ m0 ?_
  refine r_setattr 2 G S₂ m1 rfl hf₂ q2 ?_ hz2
  intro h₃ od₃ S₃ hf₃
  refine as_attr ?_
  refine r_local S₃ m0 ?_
  refine r_setattr 2 G S₃ m1 rfl hf₃ q3 ?_ hz3
  intro h₄ od₄ S₄ hf₄
  refine q_setattr ?_
  refine wpAny_Constant_none ?_
  refine r_local S₄ m0 ?_
  refine r_setattr 2 G S₄ m1 rfl hf₄ q4 ?_ hz4
  intro h₅ od₅ S₅ hf₅
  refine q_expr ?_
  refine m_call ?_
  refine r_local S₅ m0 ?_
  refine r_meth (f := 216) G S₅ m1 m2 hf₅ ?_ (hn := hnm)
  refine cw_ref G ?_
  refine args_nil ?_
  refine ⟨⟨_, _, _, S₅⟩, ?_⟩
  have S₆ := S₅.perm (T' := (x, smO dx) :: (dx, od₅) :: (L, oL) :: T) ((List.perm_append_comm (l₁ := [(L, oL)]) (l₂ := [(x, smO dx), (dx, od₅)])).append_right T)
  refine chain_b G S₆ hd hh hf₅ hb4 Vb (fun p hp => .tail _ (hRb p hp)) p1 p2 p3 hij haj hz ?_
  intro s' od' d2 sj sp o2 rows led led' hKp S₇ hf₇ hd2 hrows
  refine q_nil ?_
  have S₈ := S₇.perm (T' := (L, oL) :: (x, smO dx) :: (dx, od') :: (sp, setO led') :: (sj, setO led) :: (d2, o2) :: (rows.map JRow.ob ++ T)) (List.perm_middle (l₁ := (x, smO dx) :: (dx, od') :: (sp, setO led') :: (sj, setO led) :: (d2, o2) :: rows.map JRow.ob))
  refine k _ _ _ _ _ _ _ led led' ?kp ?st hf₇ hd2 hrows
  case kp => exact ⟨hKp.os, hKp.gens⟩
  case st => exact S₈.leave 0 rfl r
end
end
section
abbrev mf (va vb mb fc j sj sp : Value) : List (Str × Value) :=
 [(Str.ofString "isjunk", .none), (Str.ofString "a", va), (Str.ofString "b", vb), (Str.ofString "autojunk", .bool true), (Str.ofString "matching_blocks", mb), (Str.ofString "opcodes", .none), (Str.ofString "fullbcount", fc),
  (Str.ofString "b2j", j), (Str.ofString "bjunk", sj), (Str.ofString "bpopular", sp)]
section
variable {w : World} {A : Around} {E : Value → Shared → Prop} {s : Shared} {hb : Heap} {L x dx C : Addr} {l : List (Str × Value)} {T : List (Addr × Obj)} {R : Result → Shared → Prop} {od : Obj} {fl : List (Str × Value)} {va vb : Value} {la lb : List Str} {Ra Rb : List (Addr × Obj)} {prog : Program} {K : Frag} {tabs : List Addr}
theorem c_make {rest : List Value} {kw : List (Str × Value)} {fI : Addr} (G : Gd K tabs hb) (S : St hb tabs L l T s.heap)
  (h : ∀ x dx h', St hb tabs L l ((x, (⟨.ref C, some dx, .plain, #[]⟩ : Obj)) :: (dx, dict0) :: T) h' →
   codeAny (model prog w) (A.under (.builtin "type.__call__" ⟨.ref C :: rest, kw⟩)) (.call (.ref fI) ⟨.ref x :: rest, kw⟩) (InitBack x R) { s with heap := h' })
  (hm : makesIn K C = true := by kernel_rfl) (hi : findIn K (.ref C) "__init__" = some (some (.ref fI)) := by kernel_rfl) (hf : typeIn K (.ref fI) = some (.type "function") := by kernel_rfl) :
  codeAny (model prog w) A (.call (.ref C) ⟨rest, kw⟩) R s := by
 have X := S.kin G
 obtain ⟨hh, g, d, t, os⟩ := s
 refine make_core (makes_of X hm) (looks_findIn X hi) (fun self => bind_fn X self hf) (.inl rfl) (h _ hh.objs.size _ ?_)
 have := (S.push emptyDict).push (instObj C hh.objs.size)
 rwa [Heap.size_push] at this
end
section
variable {w : World} {A : Around} {E : Value → Shared → Prop} {s : Shared} {hb : Heap} {L x dx C : Addr} {l : List (Str × Value)} {T : List (Addr × Obj)} {R : Result → Shared → Prop} {od : Obj} {fl : List (Str × Value)} {va vb : Value} {la lb : List Str} {Ra Rb : List (Addr × Obj)}
theorem set_seqs (G : Gd (KN w.params) tabs hb) (S : St hb tabs L l ((x, smO dx) :: (dx, od) :: T) s.heap) (hd : A.depth + 2 < recursionLimit) (hh : A.handled = none)
  (hf : FlObj od [(Str.ofString "isjunk", .none), (Str.ofString "a", .none), (Str.ofString "b", .none), (Str.ofString "autojunk", .bool true)])
  (Vb : SqV pw w hb tabs Rb vb lb) (hRb : ∀ p ∈ Rb, p ∈ T) (ha : IsTold w hb va .none False) (hb' : IsTold w hb vb .none False)
  (k : ChainK w hb L x dx l T R lb (mf va vb .none .none) s) :
  codeAny (model pw w) A (.call (.ref 195) ⟨[.ref x, va, vb], []⟩) R s := by
 refine c_def G S (lk195 _) (by omega) (binds := [(Str.ofString "self", .ref x), (Str.ofString "a", va), (Str.ofString "b", vb)]) (body := fnBody (st2 pw 6 2)) (BindsTo.of_eq (by kernel_rfl)) ?_
 intro L' h₁ oL r S'
 refine q_doc ?_
 refine q_expr ?_
 refine m_call ?_
 refine r_local S' m0 ?_
 refine r_meth (f := 202) G S' m1 m2 hf ?_
 refine cw_ref G ?_
 refine args_cons ?_
 refine r_local S' m1 ?_
 refine args_nil ?_
 refine ⟨⟨_, _, _, S'⟩, ?_⟩
 have S₂ := S'.perm (T' := (x, smO dx) :: (dx, od) :: (L, oL) :: T) ((List.perm_append_comm (l₁ := [(L, oL)]) (l₂ := [(x, smO dx), (dx, od)])).append_right T)
 refine set_seq1 (C := False) (av := .none) (fl1 := [(Str.ofString "isjunk", .none), (Str.ofString "a", va), (Str.ofString "b", .none), (Str.ofString "autojunk", .bool true)])
  (fl2 := [(Str.ofString "isjunk", .none), (Str.ofString "a", va), (Str.ofString "b", .none), (Str.ofString "autojunk", .bool true), (Str.ofString "matching_blocks", .none)])
  (fl3 := [(Str.ofString "isjunk", .none), (Str.ofString "a", va), (Str.ofString "b", .none), (Str.ofString "autojunk", .bool true), (Str.ofString "matching_blocks", .none), (Str.ofString "opcodes", .none)])
  G S₂ (by show A.depth + 1 < _; omega) hf m1 rfl ha (.there (by kernel_rfl) .here) (.there (by kernel_rfl) (.there (by kernel_rfl) (.there (by kernel_rfl) (.there (by kernel_rfl) .nil))))
  (.there (by kernel_rfl) (.there (by kernel_rfl) (.there (by kernel_rfl) (.there (by kernel_rfl) (.there (by kernel_rfl) .nil))))) rfl rfl rfl nofun ?_
 intro h₃ tk od₃ S₃ hf₃
 refine q_expr ?_
 refine m_call ?_
 refine r_local S₃ m0 ?_
 refine r_meth (f := 209) G S₃ m0 m1 hf₃ ?_
 refine cw_ref G ?_
 refine args_cons ?_
 refine r_local S₃ m2 ?_
 refine args_nil ?_
 refine ⟨⟨_, _, _, S₃⟩, ?_⟩
 refine set_seq2 (C := False) (bv := .none) (f1 := [(Str.ofString "isjunk", .none), (Str.ofString "a", va), (Str.ofString "b", vb), (Str.ofString "autojunk", .bool true), (Str.ofString "matching_blocks", .none), (Str.ofString "opcodes", .none)])
  (f2 := [(Str.ofString "isjunk", .none), (Str.ofString "a", va), (Str.ofString "b", vb), (Str.ofString "autojunk", .bool true), (Str.ofString "matching_blocks", .none), (Str.ofString "opcodes", .none)])
  (f3 := [(Str.ofString "isjunk", .none), (Str.ofString "a", va), (Str.ofString "b", vb), (Str.ofString "autojunk", .bool true), (Str.ofString "matching_blocks", .none), (Str.ofString "opcodes", .none)])
  (f4 := [(Str.ofString "isjunk", .none), (Str.ofString "a", va), (Str.ofString "b", vb), (Str.ofString "autojunk", .bool true), (Str.ofString "matching_blocks", .none), (Str.ofString "opcodes", .none), (Str.ofString "fullbcount", .none)])
  (fl1 := fun j => [(Str.ofString "isjunk", .none), (Str.ofString "a", va), (Str.ofString "b", vb), (Str.ofString "autojunk", .bool true), (Str.ofString "matching_blocks", .none), (Str.ofString "opcodes", .none), (Str.ofString "fullbcount", .none), (Str.ofString "b2j", j)])
  (fl2 := fun j sj => [(Str.ofString "isjunk", .none), (Str.ofString "a", va), (Str.ofString "b", vb), (Str.ofString "autojunk", .bool true), (Str.ofString "matching_blocks", .none), (Str.ofString "opcodes", .none), (Str.ofString "fullbcount", .none), (Str.ofString "b2j", j), (Str.ofString "bjunk", sj)])
  (fl3 := mf va vb .none .none)
  G S₃ (by show A.depth + 1 + 1 < _; omega) hh hf₃ m2 rfl Vb (fun p hp => .tail _ (hRb p hp)) hb'
  (.there (by kernel_rfl) (.there (by kernel_rfl) .here))
  (.there (by kernel_rfl) (.there (by kernel_rfl) (.there (by kernel_rfl) (.there (by kernel_rfl) .here))))
  (.there (by kernel_rfl) (.there (by kernel_rfl) (.there (by kernel_rfl) (.there (by kernel_rfl) (.there (by kernel_rfl) .here)))))
  (.there (by kernel_rfl) (.there (by kernel_rfl) (.there (by kernel_rfl) (.there (by kernel_rfl) (.there (by kernel_rfl) (.there (by kernel_rfl) .nil))))))
  rfl rfl rfl rfl m2 (by kernel_rfl)
  (fun _ => .there (by kernel_rfl) (.there (by kernel_rfl) (.there (by kernel_rfl) (.there (by kernel_rfl) (.there (by kernel_rfl) (.there (by kernel_rfl) (.there (by kernel_rfl) .nil)))))))
  (fun _ _ => .there (by kernel_rfl) (.there (by kernel_rfl) (.there (by kernel_rfl) (.there (by kernel_rfl) (.there (by kernel_rfl) (.there (by kernel_rfl) (.there (by kernel_rfl) (.there (by kernel_rfl) .nil))))))))
  (fun _ _ _ => .there (by kernel_rfl) (.there (by kernel_rfl) (.there (by kernel_rfl) (.there (by kernel_rfl) (.there (by kernel_rfl) (.there (by kernel_rfl) (.there (by kernel_rfl) (.there (by kernel_rfl) (.there (by kernel_rfl) .nil)))))))))
  (fun _ _ => m0) (fun _ _ _ => m3) (fun _ _ _ => ⟨rfl, rfl, rfl⟩) nofun ?_
 intro s' od' d2 sj sp o2 rows led led' hKp S₇ hf₇ hd2 hrows
 refine q_nil ?_
 have S₈ := S₇.perm (T' := (L, oL) :: (x, smO dx) :: (dx, od') :: (sp, setO led') :: (sj, setO led) :: (d2, o2) :: (rows.map JRow.ob ++ T)) (List.perm_middle (l₁ := (x, smO dx) :: (dx, od') :: (sp, setO led') :: (sj, setO led) :: (d2, o2) :: rows.map JRow.ob))
 refine k _ _ _ _ _ _ _ led led' ?kp ?st hf₇ hd2 hrows
 case kp => exact ⟨hKp.os, hKp.gens⟩
 case st => exact S₈.leave 0 rfl r
theorem sm_init {args : Args} (G : Gd (KN w.params) tabs hb) (S : St hb tabs L l ((x, smO dx) :: (dx, dict0) :: T) s.heap) (hd : A.depth + 3 < recursionLimit) (hh : A.handled = none)
  (Vb : SqV pw w hb tabs Rb vb lb) (hRb : ∀ p ∈ Rb, p ∈ T) (ha : IsTold w hb va .none False) (hb' : IsTold w hb vb .none False)
  (hbind : BindsTo s (fd188 w.params) args [(Str.ofString "self", .ref x), (Str.ofString "isjunk", .none), (Str.ofString "a", va), (Str.ofString "b", vb), (Str.ofString "autojunk", .bool true)])
  (k : ChainK w hb L x dx l T R lb (mf va vb .none .none) s) :
  codeAny (model pw w) A (.call (.ref 188) args) R s := by
 refine c_def G S (lk188 _) (by omega) (body := fnBody (st2 pw 6 1)) hbind ?_
 intro L' h₁ oL r S'
 have hf0 : FlObj dict0 [] := ⟨[], 0, rfl, .nil, rfl⟩
 refine q_doc ?_
 refine q_setattr ?_
 refine r_local S' m1 ?_
 refine r_local S' m0 ?_
 refine r_setattr (fl' := [(Str.ofString "isjunk", .none)]) 2 G S' m1 rfl hf0 .nil ?_
 intro h₂ od₂ S₂ hf₂
 refine q_two ?_
 refine wpAny_Constant_none ?_
 refine as_attr ?_
 refine r_local S₂ m0 ?_
 refine r_setattr (fl' := [(Str.ofString "isjunk", .none), (Str.ofString "a", .none)]) 2 G S₂ m1 rfl hf₂ (.there (by kernel_rfl) .nil) ?_
 intro h₃ od₃ S₃ hf₃
 refine as_attr ?_
 refine r_local S₃ m0 ?_
 refine r_setattr (fl' := [(Str.ofString "isjunk", .none), (Str.ofString "a", .none), (Str.ofString "b", .none)]) 2 G S₃ m1 rfl hf₃ (.there (by kernel_rfl) (.there (by kernel_rfl) .nil)) ?_
 intro h₄ od₄ S₄ hf₄
 refine q_setattr ?_
 refine r_local S₄ m4 ?_
 refine r_local S₄ m0 ?_
 refine r_setattr (fl' := [(Str.ofString "isjunk", .none), (Str.ofString "a", .none), (Str.ofString "b", .none), (Str.ofString "autojunk", .bool true)]) 2 G S₄ m1 rfl hf₄ (.there (by kernel_rfl) (.there (by kernel_rfl) (.there (by kernel_rfl) .nil))) ?_
 intro h₅ od₅ S₅ hf₅
 refine q_expr ?_
 refine m_call ?_
 refine r_local S₅ m0 ?_
 refine r_meth (f := 195) G S₅ m1 m2 hf₅ ?_
 refine cw_ref G ?_
 refine args_cons ?_
 refine r_local S₅ m2 ?_
 refine args_cons ?_
 refine r_local S₅ m3 ?_
 refine args_nil ?_
 refine ⟨⟨_, _, _, S₅⟩, ?_⟩
 have S₆ := S₅.perm (T' := (x, smO dx) :: (dx, od₅) :: (L, oL) :: T) ((List.perm_append_comm (l₁ := [(L, oL)]) (l₂ := [(x, smO dx), (dx, od₅)])).append_right T)
 refine set_seqs G S₆ (by show A.depth + 1 + 2 < _; omega) hh hf₅ Vb (fun p hp => .tail _ (hRb p hp)) ha hb' ?_
 intro s' od' d2 sj sp o2 rows led led' hKp S₇ hf₇ hd2 hrows
 refine q_nil ?_
 have S₈ := S₇.perm (T' := (L, oL) :: (x, smO dx) :: (dx, od') :: (sp, setO led') :: (sj, setO led) :: (d2, o2) :: (rows.map JRow.ob ++ T)) (List.perm_middle (l₁ := (x, smO dx) :: (dx, od') :: (sp, setO led') :: (sj, setO led) :: (d2, o2) :: rows.map JRow.ob))
 refine k _ _ _ _ _ _ _ led led' ?kp ?st hf₇ hd2 hrows
 case kp => exact ⟨hKp.os, hKp.gens⟩
 case st => exact S₈.leave 0 rfl r
end
end
section
def cnt (c : Str) : List Str → Nat
 | [] => 0
 | d :: l => (if d = c then 1 else 0) + cnt c l
theorem cnt_append (c : Str) (l r : List Str) : cnt c (l ++ r) = cnt c l + cnt c r := by
 induction l with
 | nil => simp [cnt]
 | cons d l ih => rw [List.cons_append, cnt, ih, cnt]; omega
theorem cnt_snoc (c d : Str) (l : List Str) : cnt c (l ++ [d]) = cnt c l + if d = c then 1 else 0 := by
 rw [cnt_append]; simp [cnt]
theorem cnt_zero {c : Str} : ∀ {l : List Str}, cnt c l = 0 ↔ c ∉ l
 | [] => by simp [cnt]
 | d :: l => by
  rw [cnt, List.mem_cons]
  by_cases h : d = c
  ·rw [if_pos h]; constructor
   ·intro q; omega
   ·intro q; exact absurd (.inl h.symm) q
  ·rw [if_neg h, Nat.zero_add, cnt_zero]
   constructor
   ·rintro q (e | e)
    ·exact h e.symm
    ·exact q e
   ·intro q e; exact q (.inr e)
def qpr (lb : List Str) : List Str → Nat
 | [] => 0
 | c :: r => qpr lb r + if cnt c r.reverse < cnt c lb then 1 else 0
def qp (lb la : List Str) : Nat := qpr lb la.reverse
theorem qp_snoc (lb l : List Str) (c : Str) : qp lb (l ++ [c]) = qp lb l + if cnt c l < cnt c lb then 1 else 0 := by
 unfold qp
 rw [List.reverse_append]
 show qpr lb (c :: l.reverse) = _
 rw [qpr, List.reverse_reverse]
theorem qpr_le (lb : List Str) : ∀ l, qpr lb l ≤ l.length
 | [] => Nat.le_refl _
 | c :: r => by
  have := qpr_le lb r
  rw [qpr, List.length_cons]
  split <;> omega
theorem qp_le (lb l : List Str) : qp lb l ≤ l.length := by
 have := qpr_le lb l.reverse
 rwa [List.length_reverse] at this
def Fb (kvs : List (Str × Value)) (lb : List Str) : Prop := ∀ c, (c ∉ lb → valueAt kvs c = none) ∧ (c ∈ lb → ∃ t, valueAt kvs c = some (.int (cnt c lb) t))
theorem Fb.nil : Fb [] [] := fun c => ⟨fun _ => rfl, fun h => by cases h⟩
theorem Fb.get {kvs : List (Str × Value)} {lb : List Str} (h : Fb kvs lb) (c : Str) (u : Tok) : ∃ t, (valueAt kvs c).getD (.int 0 u) = .int (cnt c lb) t := by
 by_cases q : c ∈ lb
 ·obtain ⟨t, e⟩ := (h c).2 q
  exact ⟨t, by rw [e]; rfl⟩
 ·refine ⟨u, ?_⟩
  rw [(h c).1 q, cnt_zero.mpr q]; rfl
theorem Fb.snoc {kvs : List (Str × Value)} {lb : List Str} (h : Fb kvs lb) (c : Str) (t : Tok) : Fb (stored kvs c (.int (cnt c lb + 1 : Int) t)) (lb ++ [c]) := fun d => by
 rw [valueAt_stored, cnt_snoc]
 by_cases e : c = d
 ·subst e
  simp
 ·simp only [if_neg e, Nat.add_zero]
  refine ⟨fun q => (h d).1 fun z => q (List.mem_append_left _ z), fun q => (h d).2 ?_⟩
  rcases List.mem_append.mp q with z | z
  ·exact z
  ·exact absurd (List.mem_singleton.mp z).symm e
def Av (kvs : List (Str × Value)) (seen lb : List Str) : Prop := ∀ c, (c ∉ seen → valueAt kvs c = none) ∧ (c ∈ seen → ∃ t, valueAt kvs c = some (.int ((cnt c lb : Int) - cnt c seen) t))
theorem Av.nil {lb : List Str} : Av [] [] lb := fun c => ⟨fun _ => rfl, fun h => by cases h⟩
theorem Av.some_iff {kvs : List (Str × Value)} {seen lb : List Str} (h : Av kvs seen lb) (c : Str) : (valueAt kvs c).isSome = true ↔ c ∈ seen := by
 by_cases q : c ∈ seen
 ·obtain ⟨t, e⟩ := (h c).2 q
  simp [e, q]
 ·simp [(h c).1 q, q]
theorem Av.snoc {kvs : List (Str × Value)} {seen lb : List Str} (h : Av kvs seen lb) (c : Str) (t : Tok) : Av (stored kvs c (.int ((cnt c lb : Int) - cnt c seen - 1) t)) (seen ++ [c]) lb := fun d => by
 rw [valueAt_stored, cnt_snoc]
 by_cases e : c = d
 ·subst e
  simp only [if_true]
  refine ⟨fun q => absurd (List.mem_append_right _ (.head _)) q, fun _ => ⟨t, ?_⟩⟩
  congr 2
  omega
 ·simp only [if_neg e, Nat.add_zero]
  refine ⟨fun q => (h d).1 fun z => q (List.mem_append_left _ z), fun q => (h d).2 ?_⟩
  rcases List.mem_append.mp q with z | z
  ·exact z
  ·exact absurd (List.mem_singleton.mp z).symm e
theorem Fb.case {kvs : List (Str × Value)} {lb seen : List Str} {c : Str} {u : Tok} (P : Value → Prop) (h : Fb kvs lb) (hc : c ∉ seen) (k : ∀ t, P (.int ((cnt c lb : Int) - cnt c seen) t)) : P ((valueAt kvs c).getD (.int 0 u)) := by
 obtain ⟨t, e⟩ := h.get c u
 rw [e]
 have := k t
 rw [cnt_zero.mpr hc] at this
 simpa using this
end
section
def Fc (w : World) (T : List (Addr × Obj)) (fc : Value) (lb : List Str) : Prop := fc = .none ∨ ∃ df o kvs, fc = .ref df ∧ (df, o) ∈ T ∧ o.IsDictOf (PySem.strKind pw w) kvs ∧ Fb kvs lb
theorem Fc.mono {w : World} {T T' : List (Addr × Obj)} {fc : Value} {lb : List Str} (h : Fc w T fc lb) (hs : ∀ p ∈ T, p ∈ T') : Fc w T' fc lb := by
 rcases h with h | ⟨df, o, kvs, a, b, c, d⟩
 ·exact .inl h
 ·exact .inr ⟨df, o, kvs, a, hs _ b, c, d⟩
section
variable {w : World} {A : Around} {E : Value → Shared → Prop} {s : Shared} {hb : Heap} {L x dx : Addr} {l : List (Str × Value)} {T : List (Addr × Obj)} {R : Result → Shared → Prop} {od : Obj} {va vb mb fc j sj sp : Value} {la lb : List Str} {Ra Rb : List (Addr × Obj)}
abbrev ev260 (w : World) (L' : Addr) : Env := callEnv (fd260 w.params) L' 260
theorem quick_rest (G : Gd (KN w.params) tabs hb) {L' df : Addr} {oL of : Obj} {kvs : List (Str × Value)} (S : St hb tabs L' [(Str.ofString "self", .ref x)] ((L, oL) :: (x, smO dx) :: (dx, od) :: T) s.heap) (r : FrObj oL l) (hd : A.depth + 1 < recursionLimit) (hh : A.handled = none)
  (hf : FlObj od (mf va vb mb (.ref df) j sj sp)) (hdf : (df, of) ∈ T) (hof : of.IsDictOf (PySem.strKind pw w) kvs) (hfb : Fb kvs lb)
  (Va : SqV pw w hb tabs Ra va la) (Vb : SqV pw w hb tabs Rb vb lb) (hRa : ∀ p ∈ Ra, p ∈ T) (hRb : ∀ p ∈ Rb, p ∈ T)
  (k : ∀ s' t', Kp s s' → St hb tabs L l ((x, smO dx) :: (dx, od) :: T) s'.heap → R (.ok (.ret (.float (share (qp lb la) (la.length + lb.length)) t'))) s') :
  wpAny (model pw w) (A.deeper (ev260 w L')) (execs ((fnBody (st2 pw 6 11)).drop 2) (ev260 w L')) (fun f s' => R (.ok (.ret (match f with | .ret v => v | _ => .none))) s') E s := by
 refine q_assign ?_
 refine r_dot ?_
 refine r_local S m0 ?_
 refine r_attr G S m1 m2 hf m6 ?_
 refine r_store S (.new (by kernel_rfl)) ?_
 intro h₂ S₂
 refine q_assign ?_
 refine r_dict0 S₂ ?_
 intro d h₃ S₃
 refine r_store S₃ (.new (by kernel_rfl)) ?_
 intro h₄ S₄
 refine q_swap [Str.ofString "availhas", Str.ofString "matches"] ?_
 refine args_cons ?_
 refine r_dot ?_
 refine r_local S₄ m0 ?_
 refine r_bdict "dict.__contains__" S₄ m0 (dict0_is (knd := PySem.strKind pw w)) ?_ ?_ ?_
 rotate_left
 ·exact slot_dict_contains.lookup
 ·exact B.type_dict_contains
 intro u h₅ S₅
 refine args_cons ?_
 refine wpAny_Constant_int ?_
 refine args_nil ?_
 refine ⟨rfl, rfl, hh, _, _, _, _, _, S₅, ?_⟩
 intro h₆ S₆
 refine as_cons ?_
 refine r_store S₆ (.new (by kernel_rfl)) ?_
 intro h₇ S₇
 refine as_cons ?_
 refine r_store S₇ (.new (by kernel_rfl)) ?_
 intro h₈ S₈
 refine as_nil ?_
 refine q_for ?_
 refine r_dot ?_
 refine r_local S₈ m4 ?_
 refine r_attr G S₈ m3 m4 hf m1 ?_ (hv := Va.hand)
 refine Va.iter S₈ (fun p hp => .tail _ (.tail _ (.tail _ (.tail _ (.tail _ (hRa p hp)))))) ?_
 intro I o Wt fp h₉ IV hw S₉
 refine for_walk (own := [(I, o)]) (Ro := Ra) (IV.walks (A.deeper _) hh) (fun i h hi b hb' => by rw [List.mem_singleton] at hb'; subst hb'; exact IV.ex i h hi) rfl IV.ro S₉ hw
  (fun i l₁ T₁ => ∃ tm o2 kv2, l₁ = [(Str.ofString "availhas", .ref u), (Str.ofString "matches", .int (qp lb (la.take i)) tm), (Str.ofString "avail", .ref d), (Str.ofString "fullbcount", .ref df), (Str.ofString "self", .ref x)] ∧
   T₁ = (u, bmO "dict.__contains__" d) :: (d, o2) :: (L, oL) :: (x, smO dx) :: (dx, od) :: T ∧ o2.IsDictOf (PySem.strKind pw w) kv2 ∧ Av kv2 (la.take i) lb ∧ kv2.length ≤ i)
  ?_ (fun p hp => .tail _ (.tail _ (.tail _ (.tail _ (.tail _ (hRa p hp)))))) ?_ ?_
 ·exact ⟨_, dict0, [], rfl, rfl, dict0_is, Av.nil, Nat.le_refl _⟩
 ·rintro E₁ i v l₁ T₁ own₁ s₁ hi ⟨c, u', hc, rfl⟩ ⟨tm, o2, kv2, rfl, rfl, hd2, hav, hlen⟩ S₁₀ hRo hKp
  have hsm := Va.small
  have hsb := Vb.small
  refine as_name ?_
  refine r_store S₁₀ (.new (by kernel_rfl)) ?_
  intro h₁₁ S₁₁
  refine q_ifP (fun s₂ => ∃ tn, Kp s₁ s₂ ∧ St hb tabs L' [(Str.ofString "numb", .int ((cnt c lb : Int) - cnt c (la.take i)) tn), (Str.ofString "elt", .str c u'), (Str.ofString "availhas", .ref u), (Str.ofString "matches", .int (qp lb (la.take i)) tm), (Str.ofString "avail", .ref d), (Str.ofString "fullbcount", .ref df), (Str.ofString "self", .ref x)]
   ((u, bmO "dict.__contains__" d) :: (d, o2) :: (L, oL) :: (x, smO dx) :: (dx, od) :: (T ++ own₁)) s₂.heap) ?_ ?_
  ·refine isTrue_plain ?_
   refine r_call ?_
   refine r_local S₁₁ m1 ?_
   refine cw_bound (id := "dict.__contains__") (d := d) ?_
   refine args_cons ?_
   refine r_local S₁₁ m0 ?_
   refine args_nil ?_
   refine ⟨S₁₁.obj _ m0, ?_⟩
   refine bm_contains G S₁₁ m0 m1 hd2 (k := c) str_is ?_
   refine wpAny_truthy_bool ⟨fun hb' => ?_, fun hb' => ?_⟩
   ·have hm := (hav.some_iff c).mp hb'
    obtain ⟨t, e⟩ := (hav c).2 hm
    refine q_assign ?_
    refine Subscript_ ?_
    refine r_local S₁₁ m3 ?_
    refine r_local S₁₁ m0 ?_
    refine r_dsub S₁₁ m1 hd2 (k := c) str_is e ?_
    refine r_store S₁₁ (.new (by kernel_rfl)) ?_
    intro h₁₂ S₁₂
    refine q_nil ?_
    exact ⟨rfl, _, ⟨rfl, id⟩, S₁₂⟩
   ·have hm : c ∉ la.take i := fun q => by rw [(hav.some_iff c).mpr q] at hb'; cases hb'
    refine q_assign ?_
    refine m_call ?_
    refine r_local S₁₁ m4 ?_
    refine r_dmeth S₁₁ (.tail _ (.tail _ (.tail _ (.tail _ (.tail _ (List.mem_append_left _ hdf)))))) hof PySem.F.slot_dict_get PySem.F.type_dict_get ?_
    refine cw_builtin ?_
    refine args_cons ?_
    refine r_local S₁₁ m0 ?_
    refine args_cons ?_
    refine wpAny_Constant_int ?_
    refine args_nil ?_
    refine r_get2 G S₁₁ (.tail _ (.tail _ (.tail _ (.tail _ (.tail _ (List.mem_append_left _ hdf)))))) hof (k := c) str_is ?_
    refine hfb.case (fun v => wpAny _ _ (storeName _ _ v) _ _ _) hm fun t => ?_
    refine r_store S₁₁ (.new (by kernel_rfl)) ?_
    intro h₁₂ S₁₂
    refine q_nil ?_
    exact ⟨rfl, _, ⟨rfl, id⟩, S₁₂⟩
  ·rintro s₂ ⟨tn, hKp₂, S₁₂⟩
   refine q_setitem ?_
   refine wpAny_BinOp ?_
   refine r_local S₁₂ m0 ?_
   refine wpAny_Constant_int ?_
   refine sub_int ?_
   refine r_local S₁₂ m4 ?_
   refine r_local S₁₂ m1 ?_
   refine r_setitem 1 S₁₂ rfl hd2 (k := c) str_is ?_ (by omega)
   intro h₁₃ o3 S₁₃ hd3
   refine q_ifP (fun s₃ => ∃ tm', Kp s₁ s₃ ∧ St hb tabs L' [(Str.ofString "numb", .int ((cnt c lb : Int) - cnt c (la.take i)) tn), (Str.ofString "elt", .str c u'), (Str.ofString "availhas", .ref u), (Str.ofString "matches", .int (qp lb (la.take (i + 1))) tm'), (Str.ofString "avail", .ref d), (Str.ofString "fullbcount", .ref df), (Str.ofString "self", .ref x)]
    ((u, bmO "dict.__contains__" d) :: (d, o3) :: (L, oL) :: (x, smO dx) :: (dx, od) :: (T ++ own₁)) s₃.heap) ?_ ?_
   ·have htk : la.take (i + 1) = la.take i ++ [c] := by rw [List.take_add_one, hc]; rfl
    refine wpAny_isTrue_Compare1 ?_
    refine r_local S₁₃ m0 ?_
    refine wpAny_Constant_int ?_
    refine gt_int ?_
    refine wpAny_truthy_bool ⟨fun hb' => ?_, fun hb' => ?_⟩
    ·have hlt := of_decide_eq_true hb'
     refine q_assign ?_
     refine wpAny_BinOp ?_
     refine r_local S₁₃ m3 ?_
     refine wpAny_Constant_int ?_
     refine add_int ?_
     refine r_store S₁₃ (.old (.there (.there (.there .here)))) ?_
     intro h₁₄ S₁₄
     refine q_nil ?_
     have e : (qp lb (la.take (i + 1)) : Int) = qp lb (la.take i) + 1 := by
      rw [htk, qp_snoc, if_pos (by omega)]; rfl
     rw [← e] at S₁₄
     exact ⟨rfl, _, ⟨hKp₂.os, hKp₂.gens⟩, S₁₄⟩
    ·have hlt := of_decide_eq_false hb'
     refine q_nil ?_
     have e : qp lb (la.take (i + 1)) = qp lb (la.take i) := by
      rw [htk, qp_snoc, if_neg (by omega)]; rfl
     rw [← e] at S₁₃
     exact ⟨rfl, _, ⟨hKp₂.os, hKp₂.gens⟩, S₁₃⟩
   ·rintro s₃ ⟨tm', hKp₃, S₁₄⟩
    have htk : la.take (i + 1) = la.take i ++ [c] := by rw [List.take_add_one, hc]; rfl
    refine q_nil ?_
    refine ⟨_, _, S₁₄.forget (.cons _ (.cons _ (List.Sublist.refl _))), ⟨tm', o3, _, rfl, rfl, hd3, ?_, ?_⟩, ?_, ⟨hKp₃.os.trans hKp.os, fun z => hKp₃.gens (hKp.gens z)⟩⟩
    ·rw [htk]; exact hav.snoc c _
    ·exact Nat.le_trans (stored_len _ _ _) (by omega)
    ·exact fun p hp => .tail _ (.tail _ (.tail _ (.tail _ (.tail _ (hRa p hp)))))
 ·rintro s' l' T' hKp S₁₀ ⟨tm, o2, kv2, rfl, rfl, hd2, hav, hlen⟩ hRo
  have hsm := Va.small
  have hsb := Vb.small
  have hql := qp_le lb la
  rw [List.take_length] at S₁₀
  refine q_ret ?_
  refine r_call ?_
  refine r_global G S₁₀ (v := .ref 173) (by kernel_rfl) ?_
  refine cw_ref G ?_
  refine args_cons ?_
  refine r_local S₁₀ m1 ?_
  refine args_cons ?_
  refine wpAny_BinOp ?_
  refine r_call ?_
  refine r_builtin G S₁₀ boot_len ?_
  refine cw_builtin ?_
  refine args_cons ?_
  refine r_dot ?_
  refine r_local S₁₀ m4 ?_
  refine r_attr G S₁₀ m3 m4 hf m1 ?_ (hv := Va.hand)
  refine args_nil ?_
  refine Va.len S₁₀ (fun p hp => .tail _ (.tail _ (.tail _ (.tail _ (.tail _ (hRa p hp)))))) ?_
  intro t₁ tk₁
  refine r_call ?_
  refine r_builtin G S₁₀ boot_len ?_
  refine cw_builtin ?_
  refine args_cons ?_
  refine r_dot ?_
  refine r_local S₁₀ m4 ?_
  refine r_attr G S₁₀ m3 m4 hf m2 ?_ (hv := Vb.hand)
  refine args_nil ?_
  refine Vb.len S₁₀ (fun p hp => .tail _ (.tail _ (.tail _ (.tail _ (.tail _ (hRb p hp)))))) ?_
  intro t₂ tk₂
  refine add_int ?_
  refine args_nil ?_
  refine ⟨⟨_, _, _, S₁₀⟩, ?_⟩
  refine calc_ratio G (by exact S₁₀) (by show A.depth + 1 < _; omega) (by omega) (by omega) (by omega) (by omega) ?_
  intro h₆ tk₆ t₆ S₆
  have S₇ := S₆.sub (T' := (L, oL) :: (x, smO dx) :: (dx, od) :: T) (.cons _ (.cons _ (List.Sublist.refl _)))
  refine k _ _ ?kp ?st
  case kp => exact ⟨hKp.os, hKp.gens⟩
  case st => exact S₇.leave 0 rfl r
theorem quick_ratio {T₀ : List (Addr × Obj)} (hT₀ : ∀ p ∈ T₀, p ∈ T) (G : Gd (KN w.params) tabs hb) (S : St hb tabs L l ((x, smO dx) :: (dx, od) :: T) s.heap) (hd : A.depth + 1 < recursionLimit) (hh : A.handled = none)
  {fc : Value} (hf : FlObj od (mf va vb mb fc j sj sp)) (hfc : Fc w T₀ fc lb)
  (Va : SqV pw w hb tabs Ra va la) (Vb : SqV pw w hb tabs Rb vb lb) (hRa : ∀ p ∈ Ra, p ∈ T) (hRb : ∀ p ∈ Rb, p ∈ T)
  (k : ∀ s' t' od' X fc', Kp s s' → St hb tabs L l ((x, smO dx) :: (dx, od') :: (X ++ T)) s'.heap → FlObj od' (mf va vb mb fc' j sj sp) → Fc w (X ++ T₀) fc' lb → R (.ok (.ret (.float (share (qp lb la) (la.length + lb.length)) t'))) s') :
  codeAny (model pw w) A (.call (.ref 260) ⟨[.ref x], []⟩) R s := by
 refine c_def G S (lk260 _) (by omega) (binds := [(Str.ofString "self", .ref x)]) (body := fnBody (st2 pw 6 11)) (BindsTo.of_eq (by kernel_rfl)) ?_
 intro L' h₁ oL r S'
 refine q_doc ?_
 refine q_ifP (fun s₂ => ∃ od' X df o kvs, Kp s s₂ ∧ St hb tabs L' [(Str.ofString "self", .ref x)] ((L, oL) :: (x, smO dx) :: (dx, od') :: (X ++ T)) s₂.heap ∧ FlObj od' (mf va vb mb (.ref df) j sj sp) ∧ (df, o) ∈ X ++ T₀ ∧ o.IsDictOf (PySem.strKind pw w) kvs ∧ Fb kvs lb) ?_ ?_
 ·refine wpAny_isTrue_Compare1 ?_
  refine r_dot ?_
  refine r_local S' m0 ?_
  refine r_attr G S' m1 m2 hf m6 ?_ (hv := by rcases hfc with rfl | ⟨_, _, _, rfl, _⟩ <;> rfl)
  refine wpAny_Constant_none ?_
  rcases hfc with rfl | ⟨df, o, kvs, rfl, hm, hd2, hfb⟩
  ·refine is_none ?_
   refine wpAny_truthy_bool ⟨fun _ => ?_, nofun⟩
   refine q_two ?_
   refine r_dict0 S' ?_
   intro df h₂ S₂
   refine as_attr ?_
   refine r_local S₂ m0 ?_
   refine r_setattr (fl' := mf va vb mb (.ref df) j sj sp) 3 G S₂ m2 rfl hf (.there (by kernel_rfl) (.there (by kernel_rfl) (.there (by kernel_rfl) (.there (by kernel_rfl) (.there (by kernel_rfl) (.there (by kernel_rfl) .here)))))) ?_
   intro h₃ od₃ S₃ hf₃
   refine as_name ?_
   refine r_store S₃ (.new (by kernel_rfl)) ?_
   intro h₄ S₄
   refine q_for ?_
   refine r_dot ?_
   refine r_local S₄ m1 ?_
   refine r_attr G S₄ m2 m3 hf₃ m2 ?_ (hv := Vb.hand)
   refine Vb.iter S₄ (fun p hp => .tail _ (.tail _ (.tail _ (.tail _ (hRb p hp))))) ?_
   intro I o Wt fp h₅ IV hw S₅
   refine for_walk (own := [(I, o)]) (Ro := Rb) (IV.walks (A.deeper _) hh) (fun i h hi b hb' => by rw [List.mem_singleton] at hb'; subst hb'; exact IV.ex i h hi) rfl IV.ro S₅ hw
    (fun i l₁ T₁ => ∃ o2 kv2, l₁ = [(Str.ofString "fullbcount", .ref df), (Str.ofString "self", .ref x)] ∧ T₁ = (df, o2) :: (L, oL) :: (x, smO dx) :: (dx, od₃) :: T ∧ o2.IsDictOf (PySem.strKind pw w) kv2 ∧ Fb kv2 (lb.take i) ∧ kv2.length ≤ i)
    ?_ (fun p hp => .tail _ (.tail _ (.tail _ (.tail _ (hRb p hp))))) ?_ ?_
   ·exact ⟨dict0, [], rfl, rfl, dict0_is, Fb.nil, Nat.le_refl _⟩
   ·rintro E₁ i v l₁ T₁ own₁ s₁ hi ⟨c, u', hc, rfl⟩ ⟨o2, kv2, rfl, rfl, hd2, hfb, hlen⟩ S₁₀ hRo hKp
    have hsb := Vb.small
    have htk : lb.take (i + 1) = lb.take i ++ [c] := by rw [List.take_add_one, hc]; rfl
    refine as_name ?_
    refine r_store S₁₀ (.new (by kernel_rfl)) ?_
    intro h₁₁ S₁₁
    refine q_setitem ?_
    refine wpAny_BinOp ?_
    refine m_call ?_
    refine r_local S₁₁ m1 ?_
    refine r_dmeth S₁₁ m0 hd2 PySem.F.slot_dict_get PySem.F.type_dict_get ?_
    refine cw_builtin ?_
    refine args_cons ?_
    refine r_local S₁₁ m0 ?_
    refine args_cons ?_
    refine wpAny_Constant_int ?_
    refine args_nil ?_
    refine r_get2 G S₁₁ m0 hd2 (k := c) str_is ?_
    refine hfb.case (seen := []) (fun v => wpAny _ _ (eval _ _) (fun w s' => wpAny _ _ (binaryOp _ v w) _ _ s') _ _) nofun fun t => ?_
    refine wpAny_Constant_int ?_
    refine add_int ?_
    refine r_local S₁₁ m1 ?_
    refine r_local S₁₁ m0 ?_
    refine r_setitem 0 S₁₁ rfl hd2 (k := c) str_is ?_ (by omega)
    intro h₁₃ o3 S₁₃ hd3
    refine q_nil ?_
    refine ⟨_, _, S₁₃.forget (.cons _ (List.Sublist.refl _)), ⟨o3, _, rfl, rfl, hd3, ?_, ?_⟩, ?_, ⟨hKp.os, hKp.gens⟩⟩
    ·rw [htk]
     rw [show ((cnt c (lb.take i) : Int) - ((cnt c ([] : List Str) : Nat) : Int) + 1) = (cnt c (lb.take i) : Int) + 1 from by simp [cnt]]
     exact hfb.snoc c _
    ·exact Nat.le_trans (stored_len _ _ _) (by omega)
    ·exact fun p hp => .tail _ (.tail _ (.tail _ (.tail _ (hRb p hp))))
   ·rintro s' l' T' hKp S₁₀ ⟨o2, kv2, rfl, rfl, hd2, hfb, hlen⟩ hRo
    rw [List.take_length] at hfb
    refine q_nil ?_
    refine ⟨rfl, od₃, [(df, o2)], df, o2, kv2, ⟨hKp.os, hKp.gens⟩, ?_, hf₃, m0, hd2, hfb⟩
    refine (S₁₀.forget (.cons _ (List.Sublist.refl _))).perm ?_
    exact (List.perm_append_comm (l₁ := [(df, o2)]) (l₂ := [(L, oL), (x, smO dx), (dx, od₃)])).append_right T
  ·refine is_ref_none ?_
   refine wpAny_truthy_bool ⟨nofun, fun _ => ?_⟩
   refine q_nil ?_
   exact ⟨rfl, od, [], df, o, kvs, ⟨rfl, id⟩, S', hf, hm, hd2, hfb⟩
 ·rintro s₂ ⟨od', X, df, o, kvs, hKp, S₂, hf₂, hm, hd2, hfb⟩
  have hm' : (df, o) ∈ X ++ T := by
   rcases List.mem_append.mp hm with q | q
   ·exact List.mem_append_left _ q
   ·exact List.mem_append_right _ (hT₀ _ q)
  refine quick_rest G S₂ r hd hh hf₂ hm' hd2 hfb Va Vb (fun p hp => List.mem_append_right _ (hRa p hp)) (fun p hp => List.mem_append_right _ (hRb p hp)) ?_
  intro s' t' hKp' S₃
  exact k s' t' od' X (.ref df) ⟨hKp'.os.trans hKp.os, fun z => hKp'.gens (hKp.gens z)⟩ S₃ hf₂ (.inr ⟨df, o, kvs, rfl, hm, hd2, hfb⟩)
end
end
section
section
variable {w : World} {M : Model} {h : Heap}
theorem mt_sub (X : (KN w.params).In h) : Looks M h (isSubtype (.ref 163) (.type "tuple")) true := looks_mroIn X (by kernel_rfl)
theorem mt_subm (X : (KN w.params).In h) : Looks M h (isSubtype (.ref 163) (.ref 163)) true := looks_mroIn X (by kernel_rfl)
theorem mt_subo (X : (KN w.params).In h) : Looks M h (isSubtype (.ref 163) (.type "object")) true := looks_mroIn X (by kernel_rfl)
theorem mt_init (X : (KN w.params).In h) : Looks M h (typeLookup (.ref 163) "__init__") (some (.builtin "object.__init__")) := looks_findIn X (by kernel_rfl)
theorem mt_made (X : (KN w.params).In h) : Looks M h (Bind.madeBy (.ref 163)) none := Looks.of_peek X (by kernel_rfl)
theorem mt_isType (X : (KN w.params).In h) : Looks M h (isType (.ref 163)) true := Looks.of_peek X (by kernel_rfl)
theorem mt_call (X : (KN w.params).In h) : Looks M h (specialOf (.ref 163) "__call__") (some (.builtin "type.__call__")) := looks_specialIn X (by kernel_rfl)
theorem mt_typ (X : (KN w.params).In h) : Looks M h (isInstance (.ref 163) (.type "type")) true := looks_instIn X (by kernel_rfl)
theorem mt_mro (X : (KN w.params).In h) : Looks M h (mroOf (.ref 163)) [.ref 163, .type "tuple", .type "object"] := Looks.of_peek X (by kernel_rfl)
theorem mt_cls : readsIn (KN w.params) 163 (.type "type") = true := by kernel_rfl
theorem mt_new : findCls (KN w.params) (.ref 163) (.type "type") "__new__" = some (.get (.builtin "staticmethod.__get__") (.ref 164) .none (.ref 163)) := by kernel_rfl
theorem mt_new2 : findCls (KN w.params) (.type "tuple") (.type "type") "__new__" = some (.val (.builtin "tuple.__new__")) := by kernel_rfl
theorem mt_check (X : (KN w.params).In h) (t : Addr) : Looks M h (checkBuiltinCall "tuple.__new__" ⟨[.ref 163, .ref t], []⟩) () := Looks.of_peek X (by kernel_rfl)
theorem mt_here (X : (KN w.params).In h) : Looks M h (Bind.madeHere "tuple.__new__" (.ref 163)) () := Looks.of_peek X (by kernel_rfl)
theorem mt_nokw (X : (KN w.params).In h) (t : Addr) : Looks M h (noKeywords "tuple" ⟨[.ref 163, .ref t], []⟩) () := Looks.of_peek X (by kernel_rfl)
theorem mt_count : checkCount "tuple" 0 1 1 = pure () := by kernel_rfl
theorem tp_type : Looks M h (typeOf (.type "tuple")) (.type "type") := Looks.of_pure (by kernel_rfl)
theorem tp_ga (X : (KN w.params).In h) : Looks M h (specialOf (.type "tuple") "__getattribute__") (some (.builtin "type.__getattribute__")) := tp_type.andThen (looks_findIn (K := KN w.params) X (by kernel_rfl))
theorem tp_opaque (X : (KN w.params).In h) : Looks M h (opaqueClassAbove (.type "tuple")) none := Looks.of_peek (K := KN w.params) X (by kernel_rfl)
theorem tp_sub : subIn (KN w.params) (.type "type") (.type "type") = some true := by kernel_rfl
theorem tp_fi : findIn (KN w.params) (.type "type") "__getattribute__" = some (some (.builtin "type.__getattribute__")) := by kernel_rfl
theorem tp_hook (X : (KN w.params).In h) : Looks M h (hookBefore (.type "type")) none := looks_hook X (by kernel_rfl)
theorem mt_hasDel (X : (KN w.params).In h) : Looks M h (classHasDel 163) false := Looks.of_peek X (by kernel_rfl)
end
end
section
abbrev moO (dd : Addr) (vs : List Value) : Obj := { cls := .ref 163, dict := some dd, data := .seq vs.toArray }
section
variable {w : World} {A : Around} {E : Value → Shared → Prop} {s : Shared} {hb : Heap} {L t : Addr} {l : List (Str × Value)} {T : List (Addr × Obj)} {R : Result → Shared → Prop} {vs : List Value}
theorem c_tupnew (G : Gd (KN w.params) tabs hb) (S : St hb tabs L l T s.heap) (hm : (t, tupO vs) ∈ T) (hz : vs.length ≤ 1000)
  (k : ∀ m dd h', St hb tabs L l ((m, moO dd vs) :: T) h' → R (.ok (.ret (.ref m))) { s with heap := h' }) :
  codeAny (model pw w) A (.call (.builtin "tuple.__new__") ⟨[.ref 163, .ref t], []⟩) R s := by
 have X := S.kin G
 refine codeAny_call_builtin F.plain_tuple_new F.entry_tuple_new ((mt_check X t).here ?_)
 unfold Builtin.«tuple.__new__»
 refine wpAny_bind ((mt_isType X).here ?_)
 refine KFB.if_not rfl ?_
 refine wpAny_bind ((mt_sub X).here ?_)
 refine KFB.if_not rfl ?_
 show wpAny _ _ (Bind.madeHere "tuple.__new__" (.ref 163) >>= _) _ _ _
 refine wpAny_bind ((mt_here X).here ?_)
 refine wpAny_bind ((mt_init X).here ?_)
 refine KFB.if_so rfl ?_
 refine wpAny_bind ((mt_nokw X t).here ?_)
 show wpAny _ _ (checkCount "tuple" 0 1 1 >>= _) _ _ _
 rw [mt_count]
 refine wpAny_bind (wpAny_pure ?_)
 show wpAny _ _ (if (Value.ref 163 == Value.type "tuple") = true then _ else _) _ _ _
 refine KFB.if_not rfl ?_
 refine wpAny_bind (wpAny_collect_seq (items := vs.toArray) t (.inr rfl) (S.obj _ hm) rfl rfl (fun h' hk => ?_) (by rw [sizeLine_eq, List.size_toArray]; omega))
 refine wpAny_bind (wpAny_pure ?_)
 have S' := S.grown (h' := h') hk
 show wpAny _ _ (alloc _ >>= _) _ _ _
 refine wpAny_bind (wpAny_alloc ?_)
 have S2 := S'.push dict0
 show wpAny _ _ (newObj (.ref 163) (.seq vs.toArray.toList.toArray) (some h'.objs.size) >>= _) _ _ _
 refine wpAny_bind ?_
 unfold newObj
 rw [List.toList_toArray]
 show wpAny _ _ (if vs.toArray.size > sizeLine then _ else newObjAsIs (.ref 163) (.seq vs.toArray) (some h'.objs.size)) _ _ _
 rw [if_neg (by rw [sizeLine_eq, List.size_toArray]; omega)]
 unfold newObjAsIs
 refine wpAny_bind (wpAny_alloc ?_)
 have S3 := S2.push (moO h'.objs.size vs)
 refine wpAny_bind ((mt_hasDel (S3.kin (s := { s with heap := (h'.push dict0).push (moO h'.objs.size vs) }) G)).here ?_)
 refine KFB.if_not rfl ?_
 refine wpAny_pure (wpAny_pure ?_)
 exact k _ _ _ (S3.sub (.cons_cons _ (List.sublist_cons_self _ _)))
theorem boot_tuple : bootBuiltins (Str.ofString "tuple") = some (.type "tuple") := by kernel_rfl
theorem g_tupnew {E : Value → Shared → Prop} {pl : Sem Bool} {Q : Value × List Value → Shared → Prop} (X : (KN w.params).In s.heap) (h : Q (.builtin "tuple.__new__", []) { s with toks := s.toks + 1 }) :
  wpAny (model pw w) A (getMethod (.type "tuple") "__new__" pl) Q E s := by
 unfold getMethod
 refine wpAny_bind ((tp_ga X).here ?_)
 dsimp only
 rw [if_pos canon_tga]
 refine wpAny_bind (cls_open X (tp_opaque X) tp_type tp_fi (tp_hook X) tp_sub mt_new2 (wpAny_pure ?_))
 exact handed_on rfl (wpAny_pure h)
theorem match_new {a b c : Value} (G : Gd (KN w.params) tabs hb) (S : St hb tabs L l T s.heap) (hd : A.depth < recursionLimit)
  (k : ∀ m dd s', Kp s s' → St hb tabs L l ((m, moO dd [a, b, c]) :: T) s'.heap → R (.ok (.ret (.ref m))) s') :
  codeAny (model pw w) A (.call (.ref 110) ⟨[.ref 163, a, b, c], []⟩) R s := by
 refine c_def G S (lk110 _) (by omega) (binds := [(Str.ofString "_cls", .ref 163), (Str.ofString "a", a), (Str.ofString "b", b), (Str.ofString "size", c)]) (body := fnBody (st2 pw 4 4)) (BindsTo.of_eq (by kernel_rfl)) ?_
 intro L' h₁ oL r S'
 refine q_doc ?_
 refine q_ret ?_
 refine m_call ?_
 refine r_builtin G S' boot_tuple ?_
 refine g_tupnew (S'.kin G) ?_
 refine cw_builtin ?_
 refine args_cons ?_
 refine r_local S' m0 ?_
 refine args_cons ?_
 refine r_tuple ?_
 refine args_cons ?_
 refine r_local S' m1 ?_
 refine args_cons ?_
 refine r_local S' m2 ?_
 refine args_cons ?_
 refine r_local S' m3 ?_
 refine args_nil ?_
 refine ⟨rfl, _, _, _, _, _, S', ?_⟩
 intro t h₂ S₂
 refine args_nil ?_
 refine wpAny_call (c_tupnew G S₂ m0 (by simp) ?_)
 intro m dd h₃ S₃
 have S₄ := S₃.sub (T' := (m, moO dd [a, b, c]) :: (L, oL) :: T) (.cons_cons _ (List.sublist_cons_self _ _))
 exact k _ _ _ ⟨rfl, id⟩ (S₄.leave 1 rfl r)
theorem oi_args4 (x a b c : Value) : argsOk "object.__init__" ⟨[x, a, b, c], []⟩ := by unfold argsOk; kernel_rfl
theorem rec164 : recIn (KN w.params) 164 "staticmethod" = some [.ref 110] := by kernel_rfl
theorem c_match {a b c : Value} (G : Gd (KN w.params) tabs hb) (S : St hb tabs L l T s.heap) (hd : A.depth + 1 < recursionLimit)
  (k : ∀ m dd s', Kp s s' → St hb tabs L l ((m, moO dd [a, b, c]) :: T) s'.heap → R (.ok (.ret (.ref m))) s') :
  codeAny (model pw w) A (.call (.ref 163) ⟨[a, b, c], []⟩) R s := by
 have X := S.kin G
 have hC : s.heap.get? 163 = some (o163 w.params) := X 163 _ (by kernel_rfl)
 obtain ⟨hh, g, d, t, os⟩ := s
 refine codeAny_of_tree ?_
 show wpAny _ _ (callAny (.ref 163) _) _ _ _
 refine nd_load hC ?_
 show wpAny _ _ (callAny.viaDunder (.ref 163) _) _ _ _
 unfold callAny.viaDunder
 refine wpAny_bind ((mt_call X).at ?_)
 dsimp only
 rw [tc_bind]
 refine wpAny_bind (wpAny_pure (wpAny_bind (wpAny_pure ?_)))
 refine wpAny_pure (a := Fin.again (.call (.builtin "type.__call__") ⟨.ref 163 :: [a, b, c], []⟩)) (And.intro rfl ?_)
 refine codeAny_call_builtin_at (Code.quiet_builtin _ (by decide +kernel)) entry_typeCall (check_slot tc_kind tc_split (mt_typ X) (tc_args _ _ _) ?_)
 unfold Builtin.«type.__call__»
 refine KFB.if_not rfl ?_
 show wpAny _ _ (mroOf (.ref 163) >>= _) _ _ _
 refine wpAny_bind ((mt_mro X).at ?_)
 refine KFB.if_not rfl ?_
 show wpAny _ _ (Bind.madeBy (.ref 163) >>= _) _ _ _
 refine wpAny_bind ((mt_made X).at ?_)
 show wpAny _ _ (getAttr (.ref 163) "__new__" >>= _) _ _ _
 refine wpAny_bind (cls_bind X mt_cls mt_new (wpAny_call (sm_get X rec164 ?_)))
 refine handed_on rfl ?_
 show wpAny _ _ (holding [Value.ref 110] (call (.ref 110) [.ref 163, a, b, c]) >>= _) _ _ _
 refine wpAny_bind (wpAny_holding (wpAny_call ?_))
 refine match_new G (by exact S) ?_ ?_
 ·show A.depth + _ < _
  exact Nat.lt_of_le_of_lt (Nat.add_le_add_left (Nat.le_of_ble_eq_true (by kernel_rfl)) _) hd
 intro m dd s' hKp S'
 have X' := S'.kin G
 have t1 : Looks (model pw w) s'.heap (typeOf (.ref m)) (.ref 163) := (Looks.ld (S'.obj _ m0)).andThen .now
 have t3 : Looks (model pw w) s'.heap (isInstance (.ref m) (.ref 163)) true := t1.andThen (mt_subm X')
 have t2 : Looks (model pw w) s'.heap (isInstance (.ref m) (.type "object")) true := t1.andThen (mt_subo X')
 have k' := k m dd s' ⟨hKp.os, hKp.gens⟩ S'
 obtain ⟨hh', g', d', t', os'⟩ := s'
 have i1 := mt_init (M := model pw w) X'
 have md := mt_made (M := model pw w) X'
 have b1 : Looks (model pw w) hh' (bindSpecial (.builtin "object.__init__") (.ref m)) (.builtin "object.__init__", [.ref m]) := Looks.of_pure (oi_bind _)
 refine wpAny_bind (t3.at ?_)
 refine KFB.if_not rfl ?_
 refine wpAny_bind (wpAny_holding ?_)
 unfold callSpecial? specialOf
 repeat (first | with_reducible refine wpAny_call ?_ | lk)
 refine codeAny_call_builtin oi_plain entry_oi (@check_slot (model pw w) _ _ _ "object.__init__" "object" "__init__" (.ref m) [a, b, c] [] _ oi_kind oi_split t2 (oi_args4 _ _ _ _) ?_)
 unfold Builtin.«object.__init__»
 show wpAny _ _ (if (![a, b, c].isEmpty || !([] : List (Str × Value)).isEmpty) = true then _ else _) _ _ _
 refine KFB.if_so rfl ?_
 show wpAny _ _ (typeOf (.ref m) >>= _) _ _ _
 refine wpAny_bind (t1.at ?_)
 refine wpAny_bind (i1.at ?_)
 show wpAny _ _ (Bind.madeBy (.ref 163) >>= _) _ _ _
 refine wpAny_bind (md.at ?_)
 refine KFB.if_not (by kernel_rfl) ?_
 refine KFB.if_not (by kernel_rfl) ?_
 refine wpAny_pure ?_
 refine wpAny_pure ?_
 refine KFB.if_not (by kernel_rfl) ?_
 exact wpAny_pure k'
end
end
section
def eqAt (la lb : List Str) (i j : Nat) : Bool := match la[i]?, lb[j]? with
 | some c, some d => decide (c = d)
 | _, _ => false
theorem eqAt_iff {la lb : List Str} {i j : Nat} : eqAt la lb i j = true ↔ ∃ c, la[i]? = some c ∧ lb[j]? = some c := by
 unfold eqAt
 split
 ·rename_i c d e1 e2
  rw [decide_eq_true_eq]
  constructor
  ·rintro rfl; exact ⟨c, e1, e2⟩
  ·rintro ⟨k, h1, h2⟩; rw [e1] at h1; rw [e2] at h2; exact (Option.some.inj h1).trans (Option.some.inj h2).symm
 ·rename_i h
  constructor
  ·intro q; cases q
  ·rintro ⟨c, h1, h2⟩; exact absurd h2 (h c c h1)
def sfx (la lb : List Str) (alo blo : Nat) : Nat → Nat → Nat
 | 0, j => if eqAt la lb 0 j then 1 else 0
 | i + 1, j => if eqAt la lb (i + 1) j then (if alo < i + 1 ∧ blo < j then sfx la lb alo blo i (j - 1) else 0) + 1 else 0
def pv (la lb : List Str) (alo blo i j : Nat) : Nat := if alo < i ∧ blo < j then sfx la lb alo blo (i - 1) (j - 1) else 0
section
variable {la lb : List Str} {alo ahi blo bhi : Nat}
theorem sfx_eq (i j : Nat) : sfx la lb alo blo i j = if eqAt la lb i j then pv la lb alo blo i j + 1 else 0 := by
 cases i with
 | zero => rw [sfx, pv]; simp
 | succ i => rw [sfx, pv]; simp
theorem sfx_pos {i j : Nat} (h : eqAt la lb i j = true) : sfx la lb alo blo i j = pv la lb alo blo i j + 1 := by rw [sfx_eq, if_pos h]
theorem sfx_zero {i j : Nat} (h : eqAt la lb i j = false) : sfx la lb alo blo i j = 0 := by rw [sfx_eq, h]; rfl
theorem sfx_le (i j : Nat) : sfx la lb alo blo i j ≤ i + 1 - alo ∨ i < alo := by
 induction i generalizing j with
 | zero =>
  rw [sfx]
  by_cases h : alo = 0
  ·subst h; left; split <;> omega
  ·right; omega
 | succ i ih =>
  rw [sfx]
  split
  ·split
   ·rename_i h
    rcases ih (j - 1) with q | q
    ·left; omega
    ·left; omega
   ·by_cases q : i + 1 < alo
    ·right; exact q
    ·left; omega
  ·left; omega
theorem sfx_le2 (i j : Nat) : sfx la lb alo blo i j ≤ j + 1 - blo ∨ j < blo := by
 induction i generalizing j with
 | zero =>
  rw [sfx]
  by_cases h : j < blo
  ·right; exact h
  ·left; split <;> omega
 | succ i ih =>
  rw [sfx]
  by_cases q : j < blo
  ·right; exact q
  ·left
   split
   ·split
    ·rename_i h
     rcases ih (j - 1) with q | q <;> omega
    ·omega
   ·omega
theorem sfx_run : ∀ (i j t : Nat), t < sfx la lb alo blo i j → t ≤ i ∧ t ≤ j ∧ eqAt la lb (i - t) (j - t) = true
 | 0, j, t, h => by
  rw [sfx] at h
  split at h
  ·rename_i q
   have : t = 0 := by omega
   subst this; exact ⟨Nat.le_refl _, Nat.zero_le _, q⟩
  ·omega
 | i + 1, j, t, h => by
  rw [sfx] at h
  split at h
  ·rename_i q
   cases t with
   | zero => exact ⟨Nat.zero_le _, Nat.zero_le _, q⟩
   | succ t =>
    split at h
    ·rename_i q2
     have ih := sfx_run i (j - 1) t (by omega)
     refine ⟨by omega, by omega, ?_⟩
     have e1 : i + 1 - (t + 1) = i - t := by omega
     have e2 : j - (t + 1) = j - 1 - t := by omega
     rw [e1, e2]; exact ih.2.2
    ·omega
  ·omega
theorem sfx_stop : ∀ (i j : Nat), 0 < sfx la lb alo blo i j → alo + sfx la lb alo blo i j ≤ i → blo + sfx la lb alo blo i j ≤ j → eqAt la lb (i - sfx la lb alo blo i j) (j - sfx la lb alo blo i j) = false
 | 0, j, h, h1, h2 => by omega
 | i + 1, j, h, h1, h2 => by
  rw [sfx] at h h1 h2 ⊢
  split
  ·rename_i q
   simp only [q, if_true] at h h1 h2
   split
   ·rename_i q2
    rw [if_pos q2] at h1 h2
    by_cases hz : sfx la lb alo blo i (j - 1) = 0
    ·rw [hz, Nat.zero_add]
     rw [sfx_eq] at hz
     split at hz
     ·omega
     ·rename_i q3
      simpa using q3
    ·have ih := sfx_stop i (j - 1) (by omega) (by omega) (by omega)
     have e1 : i + 1 - (sfx la lb alo blo i (j - 1) + 1) = i - sfx la lb alo blo i (j - 1) := by omega
     have e2 : j - (sfx la lb alo blo i (j - 1) + 1) = j - 1 - sfx la lb alo blo i (j - 1) := by omega
     rw [e1, e2]; exact ih
   ·rename_i q2
    rw [if_neg q2] at h1 h2
    exact absurd ⟨by omega, by omega⟩ q2
  ·rename_i q
   simp only [q] at h
   simp at h
end
def stp (la lb : List Str) (alo blo i : Nat) (st : Nat × Nat × Nat) (j : Nat) : Nat × Nat × Nat :=
 if st.2.2 < sfx la lb alo blo i j then (i + 1 - sfx la lb alo blo i j, j + 1 - sfx la lb alo blo i j, sfx la lb alo blo i j) else st
def winp (lb : List Str) (blo bhi : Nat) (c : Str) : List Nat := (places lb c).filter fun j => decide (blo ≤ j) && decide (j < bhi)
def rowOf (la lb : List Str) (blo bhi i : Nat) : List Nat := match la[i]? with
 | some c => winp lb blo bhi c
 | none => []
def rowS (la lb : List Str) (alo blo bhi : Nat) (st : Nat × Nat × Nat) (i : Nat) : Nat × Nat × Nat := (rowOf la lb blo bhi i).foldl (stp la lb alo blo i) st
def flm (la lb : List Str) (alo ahi blo bhi : Nat) : Nat × Nat × Nat := (List.range' alo (ahi - alo)).foldl (rowS la lb alo blo bhi) (alo, blo, 0)
theorem mem_rowOf {la lb : List Str} {blo bhi i j : Nat} : j ∈ rowOf la lb blo bhi i ↔ eqAt la lb i j = true ∧ blo ≤ j ∧ j < bhi := by
 unfold rowOf
 split
 ·rename_i c e
  unfold winp places
  rw [List.mem_filter, List.mem_filter, List.mem_range, eqAt_iff]
  simp only [decide_eq_true_eq, Bool.and_eq_true]
  constructor
  ·rintro ⟨⟨a, b⟩, c', d⟩; exact ⟨⟨c, e, b⟩, c', d⟩
  ·rintro ⟨⟨k, a, b⟩, c', d⟩
   rw [e] at a; cases a
   exact ⟨⟨(List.getElem?_eq_some_iff.mp b).1, b⟩, c', d⟩
 ·rename_i e
  rw [eqAt_iff]
  constructor
  ·intro h; cases h
  ·rintro ⟨⟨c, a, b⟩, -⟩; rw [e] at a; cases a
def fmx {α : Type} (f : α → Nat) (cs : List α) (st : Option α × Nat) : Option α × Nat := cs.foldl (fun st c => if st.2 < f c then (some c, f c) else st) st
def FmI {α : Type} (f : α → Nat) (done : List α) (st : Option α × Nat) : Prop :=
 (∀ c ∈ done, f c ≤ st.2) ∧ (match st.1 with | none => st.2 = 0 | some c => f c = st.2 ∧ 0 < st.2 ∧ ∃ pre post, done = pre ++ c :: post ∧ ∀ d ∈ pre, f d < st.2)
theorem fmx_inv {α : Type} (f : α → Nat) : ∀ (cs done : List α) (st : Option α × Nat), FmI f done st → FmI f (done ++ cs) (fmx f cs st)
 | [], done, st, h => by rw [List.append_nil]; exact h
 | c :: cs, done, st, h => by
  have e : done ++ c :: cs = (done ++ [c]) ++ cs := by simp
  rw [e]
  refine fmx_inv f cs (done ++ [c]) _ ?_
  by_cases q : st.2 < f c
  ·simp only [if_pos q]
   refine ⟨fun d hd => ?_, rfl, by show 0 < f c; omega, done, [], rfl, fun d hd => by have := h.1 d hd; show f d < f c; omega⟩
   rcases List.mem_append.mp hd with z | z
   ·have := h.1 d z; show f d ≤ f c; omega
   ·rw [List.mem_singleton.mp z]; exact Nat.le_refl _
  ·simp only [if_neg q]
   refine ⟨fun d hd => ?_, ?_⟩
   ·rcases List.mem_append.mp hd with z | z
    ·exact h.1 d z
    ·rw [List.mem_singleton.mp z]; omega
   ·have h2 := h.2
    cases hs : st.1 with
    | none => rw [hs] at h2; exact h2
    | some b =>
     rw [hs] at h2
     obtain ⟨a, a', pre, post, hd, hp⟩ := h2
     exact ⟨a, a', pre, post ++ [c], by rw [hd]; simp, hp⟩
def cells (la lb : List Str) (alo ahi blo bhi : Nat) : List (Nat × Nat) := (List.range' alo (ahi - alo)).flatMap fun i => (rowOf la lb blo bhi i).map fun j => (i, j)
theorem mem_cells {la lb : List Str} {alo ahi blo bhi i j : Nat} : (i, j) ∈ cells la lb alo ahi blo bhi ↔ (alo ≤ i ∧ i < ahi) ∧ eqAt la lb i j = true ∧ blo ≤ j ∧ j < bhi := by
 unfold cells
 rw [List.mem_flatMap]
 constructor
 ·rintro ⟨i', h1, h2⟩
  obtain ⟨j', h3, e⟩ := List.mem_map.mp h2
  cases e
  rw [List.mem_range'_1] at h1
  exact ⟨⟨h1.1, by omega⟩, mem_rowOf.mp h3⟩
 ·rintro ⟨⟨a, b⟩, c⟩
  exact ⟨i, List.mem_range'_1.mpr ⟨a, by omega⟩, List.mem_map.mpr ⟨j, mem_rowOf.mpr c, rfl⟩⟩
def blk (la lb : List Str) (alo blo : Nat) (o : Option (Nat × Nat) × Nat) : Nat × Nat × Nat := match o.1 with
 | none => (alo, blo, o.2)
 | some (i, j) => (i + 1 - o.2, j + 1 - o.2, o.2)
theorem flm_fold (la lb : List Str) (alo blo bhi : Nat) : ∀ (is : List Nat) (o : Option (Nat × Nat) × Nat),
  is.foldl (rowS la lb alo blo bhi) (blk la lb alo blo o) = blk la lb alo blo (fmx (fun c => sfx la lb alo blo c.1 c.2) (is.flatMap fun i => (rowOf la lb blo bhi i).map fun j => (i, j)) o)
 | [], o => rfl
 | i :: is, o => by
  rw [List.foldl_cons, List.flatMap_cons]
  unfold fmx
  rw [List.foldl_append]
  have row : ∀ (js : List Nat) (o : Option (Nat × Nat) × Nat), js.foldl (stp la lb alo blo i) (blk la lb alo blo o) = blk la lb alo blo ((js.map fun j => (i, j)).foldl (fun st c => if st.2 < sfx la lb alo blo c.1 c.2 then (some c, sfx la lb alo blo c.1 c.2) else st) o) := by
   intro js
   induction js with
   | nil => intro o; rfl
   | cons j js ih =>
    intro o
    rw [List.foldl_cons, List.map_cons, List.foldl_cons, ← ih]
    congr 1
    have e2 : (blk la lb alo blo o).2.2 = o.2 := by unfold blk; split <;> rfl
    unfold stp
    rw [e2]
    by_cases q : o.2 < sfx la lb alo blo i j
    ·rw [if_pos q, if_pos q]; rfl
    ·rw [if_neg q, if_neg q]
  rw [show rowS la lb alo blo bhi (blk la lb alo blo o) i = (rowOf la lb blo bhi i).foldl (stp la lb alo blo i) (blk la lb alo blo o) from rfl, row]
  exact flm_fold la lb alo blo bhi is _
structure Best (la lb : List Str) (alo ahi blo bhi : Nat) (b : Nat × Nat × Nat) : Prop where
 lo : alo ≤ b.1 ∧ blo ≤ b.2.1
 hi : b.1 + b.2.2 ≤ max alo ahi ∧ b.2.1 + b.2.2 ≤ max blo bhi
 run : ∀ t, t < b.2.2 → eqAt la lb (b.1 + t) (b.2.1 + t) = true
 left : alo < b.1 → blo < b.2.1 → eqAt la lb (b.1 - 1) (b.2.1 - 1) = false
 right : b.1 + b.2.2 < ahi → b.2.1 + b.2.2 < bhi → eqAt la lb (b.1 + b.2.2) (b.2.1 + b.2.2) = false
 most : ∀ i j, alo ≤ i → i < ahi → blo ≤ j → j < bhi → sfx la lb alo blo i j ≤ b.2.2
 none : b.2.2 = 0 → b = (alo, blo, 0)
theorem flm_fmx (la lb : List Str) (alo ahi blo bhi : Nat) : flm la lb alo ahi blo bhi = blk la lb alo blo (fmx (fun c => sfx la lb alo blo c.1 c.2) (cells la lb alo ahi blo bhi) (none, 0)) :=
 flm_fold la lb alo blo bhi _ (none, 0)
theorem flm_best (la lb : List Str) (alo ahi blo bhi : Nat) : Best la lb alo ahi blo bhi (flm la lb alo ahi blo bhi) := by
 rw [flm_fmx]
 have inv := fmx_inv (fun c : Nat × Nat => sfx la lb alo blo c.1 c.2) (cells la lb alo ahi blo bhi) [] (none, 0) ⟨nofun, rfl⟩
 rw [List.nil_append] at inv
 generalize fmx (fun c : Nat × Nat => sfx la lb alo blo c.1 c.2) (cells la lb alo ahi blo bhi) (none, 0) = o at inv
 obtain ⟨o, k⟩ := o
 have most : ∀ i j, alo ≤ i → i < ahi → blo ≤ j → j < bhi → sfx la lb alo blo i j ≤ k := by
  intro i j h1 h2 h3 h4
  cases q : eqAt la lb i j with
  | true => exact inv.1 (i, j) (mem_cells.mpr ⟨⟨h1, h2⟩, q, h3, h4⟩)
  | false => rw [sfx_zero q]; exact Nat.zero_le _
 have h2 := inv.2
 cases o with
 | none =>
  replace h2 : k = 0 := h2
  subst h2
  refine ⟨⟨Nat.le_refl _, Nat.le_refl _⟩, ⟨Nat.le_max_left .., Nat.le_max_left ..⟩, fun t ht => absurd ht (Nat.not_lt_zero _), fun h => absurd h (Nat.lt_irrefl _), fun h1 h2 => ?_, most, fun _ => rfl⟩
  show eqAt la lb (alo + 0) (blo + 0) = false
  replace h1 : alo + 0 < ahi := h1
  replace h2 : blo + 0 < bhi := h2
  cases q : eqAt la lb (alo + 0) (blo + 0) with
  | false => rfl
  | true =>
   have := most (alo + 0) (blo + 0) (by omega) h1 (by omega) h2
   rw [sfx_pos q] at this
   omega
 | some c =>
  obtain ⟨i, j⟩ := c
  obtain ⟨hf, hk, pre, post, hc, hp⟩ := h2
  replace hf : sfx la lb alo blo i j = k := hf
  replace hk : 0 < k := hk
  have hm : (i, j) ∈ cells la lb alo ahi blo bhi := by rw [hc]; exact List.mem_append_right _ (.head _)
  obtain ⟨⟨h1, h2⟩, hq, h3, h4⟩ := mem_cells.mp hm
  have l1 : k ≤ i + 1 - alo := by rcases sfx_le (la := la) (lb := lb) (alo := alo) (blo := blo) i j with q | q <;> omega
  have l2 : k ≤ j + 1 - blo := by rcases sfx_le2 (la := la) (lb := lb) (alo := alo) (blo := blo) i j with q | q <;> omega
  refine ⟨⟨?_, ?_⟩, ⟨?_, ?_⟩, fun t ht => ?_, fun h5 h6 => ?_, fun h5 h6 => ?_, most, fun h => ?_⟩
  ·show alo ≤ i + 1 - k; omega
  ·show blo ≤ j + 1 - k; omega
  ·show i + 1 - k + k ≤ _; omega
  ·show j + 1 - k + k ≤ _; omega
  ·replace ht : t < k := ht
   have := sfx_run (la := la) (lb := lb) (alo := alo) (blo := blo) i j (k - 1 - t) (by omega)
   show eqAt la lb (i + 1 - k + t) (j + 1 - k + t) = true
   rw [show i + 1 - k + t = i - (k - 1 - t) by omega, show j + 1 - k + t = j - (k - 1 - t) by omega]
   exact this.2.2
  ·replace h5 : alo < i + 1 - k := h5
   replace h6 : blo < j + 1 - k := h6
   have := sfx_stop (la := la) (lb := lb) (alo := alo) (blo := blo) i j (by omega) (by omega) (by omega)
   show eqAt la lb (i + 1 - k - 1) (j + 1 - k - 1) = false
   rw [hf] at this
   rw [show i + 1 - k - 1 = i - k by omega, show j + 1 - k - 1 = j - k by omega]
   exact this
  ·replace h5 : i + 1 - k + k < ahi := h5
   replace h6 : j + 1 - k + k < bhi := h6
   show eqAt la lb (i + 1 - k + k) (j + 1 - k + k) = false
   rw [show i + 1 - k + k = i + 1 by omega, show j + 1 - k + k = j + 1 by omega]
   cases q : eqAt la lb (i + 1) (j + 1) with
   | false => rfl
   | true =>
    have := most (i + 1) (j + 1) (by omega) (by omega) (by omega) (by omega)
    rw [sfx_pos q, pv, if_pos ⟨by omega, by omega⟩, Nat.add_sub_cancel, Nat.add_sub_cancel, hf] at this
    omega
  ·replace h : k = 0 := h
   omega
def Dj (la lb : List Str) (alo blo i : Nat) (done : List Nat) (kvs : List (Int × Value)) : Prop :=
 (∀ j ∈ done, ∃ t, valueAt kvs (j : Int) = some (.int (sfx la lb alo blo i j : Nat) t)) ∧ ∀ z : Int, (∀ j ∈ done, z ≠ (j : Int)) → valueAt kvs z = none
theorem Dj.nil {la lb : List Str} {alo blo i : Nat} : Dj la lb alo blo i [] [] := ⟨nofun, fun z _ => rfl⟩
theorem Dj.snoc {la lb : List Str} {alo blo i j : Nat} {done : List Nat} {kvs : List (Int × Value)} {t : Tok} (h : Dj la lb alo blo i done kvs) : Dj la lb alo blo i (done ++ [j]) (stored kvs (j : Int) (.int (sfx la lb alo blo i j : Nat) t)) := by
 refine ⟨fun j' hj => ?_, fun z hz => ?_⟩
 ·rw [valueAt_stored]
  by_cases e : (j : Int) = (j' : Int)
  ·rw [if_pos e]
   have : j = j' := by omega
   subst this
   exact ⟨t, rfl⟩
  ·rw [if_neg e]
   rcases List.mem_append.mp hj with q | q
   ·exact h.1 j' q
   ·exact absurd (by rw [List.mem_singleton.mp q]) e
 ·rw [valueAt_stored]
  rw [if_neg (fun e => hz j (List.mem_append_right _ (.head _)) e.symm)]
  exact h.2 z fun j' hj' => hz j' (List.mem_append_left _ hj')
def Pj (la lb : List Str) (alo blo bhi i : Nat) (kvs : List (Int × Value)) : Prop := (i = alo ∧ kvs = []) ∨ (alo < i ∧ Dj la lb alo blo (i - 1) (rowOf la lb blo bhi (i - 1)) kvs)
theorem Pj.get {la lb : List Str} {alo blo bhi i j : Nat} {kvs : List (Int × Value)} (h : Pj la lb alo blo bhi i kvs) (hj : blo ≤ j) (hj2 : j < bhi) {u : Tok} (P : Value → Prop) (k : ∀ t, P (.int (pv la lb alo blo i j : Nat) t)) : P ((valueAt kvs ((j : Int) - 1)).getD (.int 0 u)) := by
 have hz : pv la lb alo blo i j = 0 → valueAt kvs ((j : Int) - 1) = none → P ((valueAt kvs ((j : Int) - 1)).getD (.int 0 u)) := fun h1 h2 => by
  rw [h2]
  have := k u
  rw [h1] at this; exact this
 rcases h with ⟨rfl, rfl⟩ | ⟨hi, hd⟩
 ·exact hz (if_neg (by omega)) rfl
 ·by_cases q : blo < j
  ·have epv : pv la lb alo blo i j = sfx la lb alo blo (i - 1) (j - 1) := if_pos ⟨hi, q⟩
   have ej : ((j : Int) - 1) = ((j - 1 : Nat) : Int) := by omega
   by_cases hm : j - 1 ∈ rowOf la lb blo bhi (i - 1)
   ·obtain ⟨t, e⟩ := hd.1 _ hm
    rw [ej, e]
    have := k t
    rw [epv] at this; exact this
   ·refine hz ?_ (hd.2 _ fun j' hj' e => hm (by rw [ej] at e; rw [show j - 1 = j' by omega]; exact hj'))
    rw [epv]
    refine sfx_zero ?_
    cases q2 : eqAt la lb (i - 1) (j - 1) with
    | false => rfl
    | true => exact absurd (mem_rowOf.mpr ⟨q2, by omega, by omega⟩) hm
  ·refine hz (if_neg (by omega)) (hd.2 _ fun j' hj' e => ?_)
   have := (mem_rowOf.mp hj').2.1
   omega
theorem places_sorted (lb : List Str) (c : Str) : (places lb c).Pairwise (· < ·) := List.Pairwise.filter _ List.pairwise_lt_range
theorem filter_stop {l : List Nat} {t j blo bhi : Nat} (h : l.Pairwise (· < ·)) (hj : l[t]? = some j) (hb : bhi ≤ j) : (l.take t).filter (fun j => decide (blo ≤ j) && decide (j < bhi)) = l.filter fun j => decide (blo ≤ j) && decide (j < bhi) := by
 conv => rhs; rw [← List.take_append_drop t l]
 rw [List.filter_append]
 have hd : (l.drop t).filter (fun j => decide (blo ≤ j) && decide (j < bhi)) = [] := by
  rw [List.filter_eq_nil_iff]
  intro a ha
  have hp : (l.drop t).Pairwise (· < ·) := h.sublist (List.drop_sublist t l)
  have hd0 : l.drop t = j :: l.drop (t + 1) := by
   have hl := (List.getElem?_eq_some_iff.mp hj)
   rw [List.drop_eq_getElem_cons hl.1, hl.2]
  rw [hd0] at ha hp
  have : j ≤ a := by
   rcases List.mem_cons.mp ha with rfl | q
   ·exact Nat.le_refl _
   ·exact Nat.le_of_lt ((List.pairwise_cons.mp hp).1 a q)
  simp
  omega
 rw [hd, List.append_nil]
end
section
theorem int_is {prog : Program} {w : World} {k : Int} {u : Tok} : (PySem.intKind prog w).is k (.int k u) = true := by simp [PySem.intKind, Value.isInt]
theorem rows_case {lb : List Str} {rows : List JRow} {T : List (Addr × Obj)} {c : Str} {nn : Addr} (P : Value → Prop) (hrows : Rows2 lb rows) (hob : ∀ r ∈ rows, r.ob ∈ T) (hn : (nn, lstO [] 0) ∈ T)
  (k : ∀ ℓ vs n, (ℓ, lstO vs n) ∈ T → NatsAre vs (places lb c) → P (.ref ℓ)) : P ((valueAt (rows.map JRow.kv) c).getD (.ref nn)) := by
 cases h : valueAt (rows.map JRow.kv) c with
 | none =>
  have : places lb c = [] := places_nil_iff.mpr fun q => valueAt_rows_none h (hrows.all c q)
  exact k nn [] 0 hn (by rw [this]; exact .nil)
 | some v =>
  obtain ⟨j, r, hj, rfl, rfl⟩ := valueAt_rows_some h
  have hm := List.mem_of_getElem? hj
  exact k r.a r.vs r.n (hob r hm) (hrows.at_ r hm)
def forBody : Stmt → List Stmt
 | .For _ _ b _ _ => b
 | _ => []
abbrev ev224 (w : World) (L' : Addr) : Env := callEnv (fd224 w.params) L' 224
abbrev nmF (nn dj u d2 : Addr) (va vb : Value) (x : Addr) (alo ahi blo bhi : Nat) (ta tb tc td : Tok) (st : Nat × Nat × Nat) (t1 t2 t3 : Tok) : List (Str × Value) :=
 [(Str.ofString "nothing", .ref nn), (Str.ofString "j2len", .ref dj), (Str.ofString "besti", .int st.1 t1), (Str.ofString "bestj", .int st.2.1 t2), (Str.ofString "bestsize", .int st.2.2 t3), (Str.ofString "isbjunk", .ref u), (Str.ofString "b2j", .ref d2),
  (Str.ofString "b", vb), (Str.ofString "a", va), (Str.ofString "self", .ref x), (Str.ofString "alo", .int alo ta), (Str.ofString "ahi", .int ahi tb), (Str.ofString "blo", .int blo tc), (Str.ofString "bhi", .int bhi td)]
abbrev nmI (dn ug : Addr) (i : Nat) (ti : Tok) (l : List (Str × Value)) : List (Str × Value) := (Str.ofString "newj2len", .ref dn) :: (Str.ofString "j2lenget", .ref ug) :: (Str.ofString "i", .int i ti) :: l
abbrev outerB : List Stmt := forBody (((fnBody (st2 pw 6 6))[7]?).getD default)
abbrev innerB : List Stmt := forBody ((outerB[2]?).getD default)
section
variable {w : World} {A : Around} {E : Value → Shared → Prop} {s : Shared} {hb : Heap} {L' x nn dj u d2 dn ug : Addr} {T : List (Addr × Obj)} {on oj : Obj} {va vb : Value} {la lb : List Str} {alo ahi blo bhi i j : Nat} {ta tb tc td ti tj t1 t2 t3 : Tok} {st : Nat × Nat × Nat} {kvn kvj : List (Int × Value)} {Q : Flow → Shared → Prop}
theorem flm_turn (G : Gd (KN w.params) tabs hb) (hh : A.handled = none)
  (S : St hb tabs L' ((Str.ofString "j", .int j tj) :: nmI dn ug i ti (nmF nn dj u d2 va vb x alo ahi blo bhi ta tb tc td st t1 t2 t3)) ((dn, on) :: T) s.heap) (hug : (ug, bmO "dict.get" dj) ∈ T) (hdj : (dj, oj) ∈ T)
  (hon : on.IsDictOf (PySem.intKind pw w) kvn) (hoj : oj.IsDictOf (PySem.intKind pw w) kvj) (hpj : Pj la lb alo blo bhi i kvj) (hq : eqAt la lb i j = true) (hlen : kvn.length ≤ 1000) (hi : alo ≤ i)
  (hc : j < blo → ∀ s', Kp s s' → St hb tabs L' (nmI dn ug i ti (nmF nn dj u d2 va vb x alo ahi blo bhi ta tb tc td st t1 t2 t3)) ((dn, on) :: T) s'.heap → Q .cont s')
  (hk : bhi ≤ j → ∀ s', Kp s s' → St hb tabs L' (nmI dn ug i ti (nmF nn dj u d2 va vb x alo ahi blo bhi ta tb tc td st t1 t2 t3)) ((dn, on) :: T) s'.heap → Q .brk s')
  (hn : blo ≤ j → j < bhi → ∀ s' on' t1 t2 t3 tk, Kp s s' → St hb tabs L' (nmI dn ug i ti (nmF nn dj u d2 va vb x alo ahi blo bhi ta tb tc td (stp la lb alo blo i st j) t1 t2 t3)) ((dn, on') :: T) s'.heap →
   on'.IsDictOf (PySem.intKind pw w) (stored kvn (j : Int) (.int (sfx la lb alo blo i j : Nat) tk)) → Q .next s') :
  wpAny (model pw w) (A.deeper (ev224 w L')) (execs innerB (ev224 w L')) Q E s := by
 refine q_if ?_
 refine wpAny_isTrue_Compare1 ?_
 refine r_local S m0 ?_
 refine r_local S (.tail _ (.tail _ (.tail _ (.tail _ (.tail _ (.tail _ (.tail _ m9))))))) ?_
 refine lt_int ?_
 refine wpAny_truthy_bool ⟨fun hb' => ?_, fun hb' => ?_⟩
 ·refine q_continue ?_
  have hlt := of_decide_eq_true hb'
  exact hc (by omega) _ ⟨rfl, id⟩ (S.forget (List.sublist_cons_self _ _))
 have h1 := of_decide_eq_false hb'
 refine q_nil ?_
 refine q_if ?_
 refine wpAny_isTrue_Compare1 ?_
 refine r_local S m0 ?_
 refine r_local S (.tail _ (.tail _ (.tail _ (.tail _ (.tail _ (.tail _ (.tail _ (.tail _ m9)))))))) ?_
 refine ge_int ?_
 refine wpAny_truthy_bool ⟨fun hb' => ?_, fun hb' => ?_⟩
 ·refine q_break ?_
  have hlt := of_decide_eq_true hb'
  exact hk (by omega) _ ⟨rfl, id⟩ (S.forget (List.sublist_cons_self _ _))
 have h2 := of_decide_eq_false hb'
 refine q_nil ?_
 have es : (sfx la lb alo blo i j : Int) = (pv la lb alo blo i j : Nat) + 1 := by rw [sfx_pos hq]; rfl
 refine q_two ?_
 refine wpAny_BinOp ?_
 refine r_call ?_
 refine r_local S m2 ?_
 refine cw_bound (id := "dict.get") (d := dj) ?_
 refine args_cons ?_
 refine wpAny_BinOp ?_
 refine r_local S m0 ?_
 refine wpAny_Constant_int ?_
 refine sub_int ?_
 refine args_cons ?_
 refine wpAny_Constant_int ?_
 refine args_nil ?_
 refine ⟨S.obj _ (.tail _ hug), ?_⟩
 refine bm_get2 G S (.tail _ hug) (.tail _ hdj) hoj (k := (j : Int) - 1) int_is ?_
 refine hpj.get (by omega) (by omega) (fun v => wpAny _ _ (eval _ _) (fun w s' => wpAny _ _ (binaryOp _ v w) _ _ s') _ _) fun tp => ?_
 refine wpAny_Constant_int ?_
 refine add_int ?_
 rw [← es]
 refine as_name ?_
 refine r_store S (.new (by kernel_rfl)) ?_
 intro h₂ S₂
 refine as_sub ?_
 refine r_local S₂ m2 ?_
 refine r_local S₂ m1 ?_
 refine r_setitem 0 S₂ rfl hon (k := (j : Int)) int_is ?_ hlen
 intro h₃ on' S₃ hon'
 refine restate (by exact S₃) fun s₄ K₄ S₄ => ?_
 replace K₄ : Kp s s₄ := ⟨K₄.os, K₄.gens⟩
 refine q_if ?_
 refine wpAny_isTrue_Compare1 ?_
 refine r_local S₄ m0 ?_
 refine r_local S₄ m9 ?_
 refine gt_int ?_
 refine wpAny_truthy_bool ⟨fun hb' => ?_, fun hb' => ?_⟩
 ·have hlt := of_decide_eq_true hb'
  have est : stp la lb alo blo i st j = (i + 1 - sfx la lb alo blo i j, j + 1 - sfx la lb alo blo i j, sfx la lb alo blo i j) := if_pos (by omega)
  have l1 : sfx la lb alo blo i j ≤ i + 1 - alo := by rcases sfx_le (la := la) (lb := lb) (alo := alo) (blo := blo) i j with q | q <;> omega
  have l2 : sfx la lb alo blo i j ≤ j + 1 - blo := by rcases sfx_le2 (la := la) (lb := lb) (alo := alo) (blo := blo) i j with q | q <;> omega
  refine q_swap [Str.ofString "besti", Str.ofString "bestj", Str.ofString "bestsize"] ?_
  refine args_cons ?_
  refine wpAny_BinOp ?_
  refine wpAny_BinOp ?_
  refine r_local S₄ m4 ?_
  refine r_local S₄ m0 ?_
  refine sub_int ?_
  refine wpAny_Constant_int ?_
  refine add_int ?_
  refine args_cons ?_
  refine wpAny_BinOp ?_
  refine wpAny_BinOp ?_
  refine r_local S₄ m1 ?_
  refine r_local S₄ m0 ?_
  refine sub_int ?_
  refine wpAny_Constant_int ?_
  refine add_int ?_
  refine args_cons ?_
  refine r_local S₄ m0 ?_
  refine args_nil ?_
  refine ⟨rfl, rfl, hh, _, _, _, _, _, S₄, ?_⟩
  intro h₅ S₅
  refine as_cons ?_
  refine r_store S₅ (.old (.there (.there (.there (.there (.there (.there (.there (.there (.there .here)))))))))) ?_
  intro h₆ S₆
  refine as_cons ?_
  refine r_store S₆ (.old (.there (.there (.there (.there (.there (.there (.there (.there .here))))))))) ?_
  intro h₇ S₇
  refine as_cons ?_
  refine r_store S₇ (.old (.there (.there (.there (.there (.there (.there (.there .here)))))))) ?_
  intro h₈ S₈
  refine as_nil ?_
  refine q_nil ?_
  refine q_nil ?_
  have e1 : ((i : Int) - (sfx la lb alo blo i j : Nat) + 1) = ((stp la lb alo blo i st j).1 : Nat) := by rw [est]; show _ = ((i + 1 - sfx la lb alo blo i j : Nat) : Int); omega
  have e2 : ((j : Int) - (sfx la lb alo blo i j : Nat) + 1) = ((stp la lb alo blo i st j).2.1 : Nat) := by rw [est]; show _ = ((j + 1 - sfx la lb alo blo i j : Nat) : Int); omega
  have e3 : ((sfx la lb alo blo i j : Nat) : Int) = ((stp la lb alo blo i st j).2.2 : Nat) := by rw [est]
  have S₉ := S₈.forget (List.Sublist.cons _ (List.sublist_cons_self _ _))
  rw [e1, e2, e3] at S₉
  exact hn (by omega) (by omega) _ _ _ _ _ _ ⟨K₄.os, K₄.gens⟩ S₉ hon'
 ·have hlt := of_decide_eq_false hb'
  have est : stp la lb alo blo i st j = st := if_neg (by omega)
  refine q_nil ?_
  refine q_nil ?_
  have S₉ := S₄.forget (List.Sublist.cons _ (List.sublist_cons_self _ _))
  rw [← est] at S₉
  exact hn (by omega) (by omega) _ _ _ _ _ _ K₄ S₉ hon'
theorem flm_inner (G : Gd (KN w.params) tabs hb) (hh : A.handled = none)
  (S : St hb tabs L' (nmI dn ug i ti (nmF nn dj u d2 va vb x alo ahi blo bhi ta tb tc td st t1 t2 t3)) ((dn, dict0) :: T) s.heap) (hug : (ug, bmO "dict.get" dj) ∈ T) (hdj : (dj, oj) ∈ T)
  (hoj : oj.IsDictOf (PySem.intKind pw w) kvj) (hpj : Pj la lb alo blo bhi i kvj) {c : Str} (hc : la[i]? = some c) (hi : alo ≤ i) (hlb : lb.length ≤ 100)
  {ℓ : Addr} {vs : List Value} {n : Nat} (hℓ : (ℓ, lstO vs n) ∈ T) (hvs : NatsAre vs (places lb c))
  (k : ∀ s' on' kvn t1 t2 t3, Kp s s' → St hb tabs L' (nmI dn ug i ti (nmF nn dj u d2 va vb x alo ahi blo bhi ta tb tc td (rowS la lb alo blo bhi st i) t1 t2 t3)) ((dn, on') :: T) s'.heap →
   on'.IsDictOf (PySem.intKind pw w) kvn → Dj la lb alo blo i (rowOf la lb blo bhi i) kvn → kvn.length ≤ 100 → wpAny (model pw w) (A.deeper (ev224 w L')) (execs (outerB.drop 3) (ev224 w L')) Q E s')
  (E₀ : Value → Shared → Prop) : wpAny (model pw w) (A.deeper (ev224 w L')) (pyIter (.ref ℓ)) (fun it s₂ =>
   codeAny (model pw w) (A.deeper (ev224 w L')) (.forLoop (.Name (Str.ofString "j") ((fun s => match s with | .For (.Name _ p) _ _ _ _ => p | _ => default) ((outerB[2]?).getD default))) it innerB [] (ev224 w L')) (fun r s' => match r with
    | .ok .next => wpAny (model pw w) (A.deeper (ev224 w L')) (execs (outerB.drop 3) (ev224 w L')) Q E s'
    | .ok f => Q f s'
    | .error e => cameBackBy (model pw w) (A.deeper (ev224 w L')) (ev224 w L') E e s') s₂) E₀ s := by
 have hrow : rowOf la lb blo bhi i = winp lb blo bhi c := by unfold rowOf; rw [hc]
 refine r_iterL S (.tail _ hℓ) ?_
 intro I o Wt fp h₂ IV hw S₂
 refine for_walk (own := [(I, o)]) (Ro := [(ℓ, lstO vs n)]) (IV.walks (A.deeper _) hh) (fun i h hi b hb' => by rw [List.mem_singleton] at hb'; subst hb'; exact IV.ex i h hi) rfl IV.ro S₂ hw
  (fun t l₁ T₁ => ∃ on' kvn t1 t2 t3, l₁ = nmI dn ug i ti (nmF nn dj u d2 va vb x alo ahi blo bhi ta tb tc td ((((places lb c).take t).filter fun j => decide (blo ≤ j) && decide (j < bhi)).foldl (stp la lb alo blo i) st) t1 t2 t3) ∧
   T₁ = (dn, on') :: T ∧ on'.IsDictOf (PySem.intKind pw w) kvn ∧ Dj la lb alo blo i (((places lb c).take t).filter fun j => decide (blo ≤ j) && decide (j < bhi)) kvn ∧ kvn.length ≤ t) ?_ (fun p hp => by rw [List.mem_singleton] at hp; subst hp; exact .tail _ hℓ) ?_ ?_
 ·exact ⟨dict0, [], t1, t2, t3, rfl, rfl, dict0_is, Dj.nil, Nat.le_refl _⟩
 ·rintro E₁ t v l₁ T₁ own₁ s₁ ht hv ⟨on', kvn, t1', t2', t3', rfl, rfl, hon, hdj', hlen⟩ S₃ hRo hKp
  obtain ⟨j, tj, hj, rfl⟩ := hvs.get hv
  have hq : eqAt la lb i j = true := by
   have := List.mem_of_getElem? hj
   unfold places at this
   rw [List.mem_filter] at this
   exact eqAt_iff.mpr ⟨c, hc, of_decide_eq_true this.2⟩
  have hpl := places_len lb c
  have htl : t < (places lb c).length := (List.getElem?_eq_some_iff.mp hj).1
  have htk : (places lb c).take (t + 1) = (places lb c).take t ++ [j] := by rw [List.take_add_one, hj]; rfl
  refine as_name ?_
  refine r_store S₃ (.new (by kernel_rfl)) ?_
  intro h₄ S₄
  refine flm_turn (T := T ++ own₁) G hh (by exact S₄) (List.mem_append_left _ hug) (List.mem_append_left _ hdj) hon hoj hpj hq (by omega) hi ?_ ?_ ?_
  ·intro hlt s' K' S'
   refine ⟨_, _, S', ⟨on', kvn, t1', t2', t3', ?_, rfl, hon, ?_, by omega⟩, ?_, ⟨K'.os.trans hKp.os, fun z => K'.gens (hKp.gens z)⟩⟩
   ·rw [htk, List.filter_append, List.filter_cons, if_neg (by simp; omega), List.filter_nil, List.append_nil]
   ·rw [htk, List.filter_append, List.filter_cons, if_neg (by simp; omega), List.filter_nil, List.append_nil]; exact hdj'
   ·exact fun p hp => by rw [List.mem_singleton] at hp; subst hp; exact .tail _ hℓ
  ·intro hge s' K' S'
   have ef := filter_stop (blo := blo) (places_sorted lb c) hj hge
   rw [hvs.len] at ht
   refine k s' on' kvn t1' t2' t3' ⟨K'.os.trans hKp.os, fun z => K'.gens (hKp.gens z)⟩ ?_ hon ?_ (by omega)
   ·unfold rowS; rw [hrow]; unfold winp; rw [← ef]
    exact S'.sub (.cons_cons _ (List.sublist_append_left _ _))
   ·rw [hrow]; unfold winp; rw [← ef]; exact hdj'
  ·intro h1 h2 s' on2 t1 t2 t3 tk K' S' hon2
   refine ⟨_, _, S', ⟨on2, _, t1, t2, t3, ?_, rfl, hon2, ?_, ?_⟩, ?_, ⟨K'.os.trans hKp.os, fun z => K'.gens (hKp.gens z)⟩⟩
   ·rw [htk, List.filter_append, List.filter_cons, if_pos (by simp; omega), List.filter_nil, List.foldl_append]; rfl
   ·rw [htk, List.filter_append, List.filter_cons, if_pos (by simp; omega), List.filter_nil]; exact hdj'.snoc
   ·exact Nat.le_trans (stored_len _ _ _) (by omega)
   ·exact fun p hp => by rw [List.mem_singleton] at hp; subst hp; exact .tail _ hℓ
 ·rintro s' l' T' hKp S₃ ⟨on', kvn, t1', t2', t3', rfl, rfl, hon, hdj', hlen⟩ hRo
  have hpl := places_len lb c
  rw [hvs.len] at hlen
  rw [hvs.len, List.take_length] at S₃ hdj'
  refine k s' on' kvn t1' t2' t3' ⟨hKp.os, hKp.gens⟩ ?_ hon ?_ (by omega)
  ·unfold rowS; rw [hrow]; exact S₃
  ·rw [hrow]; exact hdj'
end
end
section
theorem eqAt_ne {la lb : List Str} {i j : Nat} {c d : Str} (h : eqAt la lb i j = false) (h1 : la[i]? = some c) (h2 : lb[j]? = some d) : c ≠ d := by
 rintro rfl
 rw [eqAt_iff.mpr ⟨c, h1, h2⟩] at h
 cases h
section
variable {w : World} {A : Around} {E : Value → Shared → Prop} {s : Shared} {hb : Heap} {L L' x nn dj u d2 sj : Addr} {T : List (Addr × Obj)} {l : List (Str × Value)} {oL o2 oj : Obj} {va vb : Value} {la lb : List Str} {Ra Rb : List (Addr × Obj)} {alo ahi blo bhi : Nat} {ta tb tc td t1 t2 t3 : Tok} {st : Nat × Nat × Nat} {led : Bool} {rows : List JRow} {R : Result → Shared → Prop}
theorem flm_tail (G : Gd (KN w.params) tabs hb) (hd : A.depth + 2 < recursionLimit) (S : St hb tabs L' (nmF nn dj u d2 va vb x alo ahi blo bhi ta tb tc td st t1 t2 t3) T s.heap)
  (hsj : (sj, setO led) ∈ T) (hu : (u, bmO "set.__contains__" sj) ∈ T) (B : Best la lb alo ahi blo bhi st)
  (Va : SqV pw w hb tabs Ra va la) (Vb : SqV pw w hb tabs Rb vb lb) (hRa : ∀ p ∈ Ra, p ∈ T) (hRb : ∀ p ∈ Rb, p ∈ T) (ha1 : alo ≤ ahi) (ha2 : ahi ≤ la.length) (hb1 : blo ≤ bhi) (hb2 : bhi ≤ lb.length) {Q : Flow → Shared → Prop}
  (k : ∀ m dd s' t1 t2 t3, Kp s s' → St hb tabs L' (nmF nn dj u d2 va vb x alo ahi blo bhi ta tb tc td st t1 t2 t3) ((m, moO dd [.int st.1 t1, .int st.2.1 t2, .int st.2.2 t3]) :: T) s'.heap → Q (.ret (.ref m)) s') :
  wpAny (model pw w) (A.deeper (ev224 w L')) (execs ((fnBody (st2 pw 6 6)).drop 8) (ev224 w L')) Q E s := by
 have hsa := Va.small
 have hsb := Vb.small
 have hlo := B.lo
 have hhi := B.hi
 rw [Nat.max_eq_right ha1, Nat.max_eq_right hb1] at hhi
 have geta : ∀ i : Nat, i < la.length → ∃ c, la[i]? = some c := fun i h => ⟨la[i], List.getElem?_eq_getElem h⟩
 have getb : ∀ i : Nat, i < lb.length → ∃ c, lb[i]? = some c := fun i h => ⟨lb[i], List.getElem?_eq_getElem h⟩
 refine q_whileNot (fun s' => Kp s s' ∧ St hb tabs L' (nmF nn dj u d2 va vb x alo ahi blo bhi ta tb tc td st t1 t2 t3) T s'.heap) (fun E' => ?_) ?_
 ·refine r_and ?_
  refine wpAny_isTrue_Compare1 ?_
  refine r_local S m2 ?_
  refine r_local S (.tail _ m9) ?_
  refine gt_int ?_
  refine wpAny_truthy_bool ⟨fun hb' => ?_, fun _ => ⟨rfl, ⟨rfl, id⟩, S⟩⟩
  have c1 := of_decide_eq_true hb'
  refine r_and ?_
  refine wpAny_isTrue_Compare1 ?_
  refine r_local S m3 ?_
  refine r_local S (.tail _ (.tail _ (.tail _ m9))) ?_
  refine gt_int ?_
  refine wpAny_truthy_bool ⟨fun hb' => ?_, fun _ => ⟨rfl, ⟨rfl, id⟩, S⟩⟩
  have c2 := of_decide_eq_true hb'
  obtain ⟨ca, hca⟩ := geta (st.1 - 1) (by omega)
  obtain ⟨cb, hcb⟩ := getb (st.2.1 - 1) (by omega)
  have e1 : ((st.1 : Int) - 1) = ((st.1 - 1 : Nat) : Int) := by omega
  have e2 : ((st.2.1 : Int) - 1) = ((st.2.1 - 1 : Nat) : Int) := by omega
  refine r_and ?_
  refine isTrue_not ?_
  refine isTrue_plain ?_
  refine r_call ?_
  refine r_local S m5 ?_
  refine cw_bound (id := "set.__contains__") (d := sj) ?_
  refine args_cons ?_
  refine Subscript_ ?_
  refine r_local S m7 ?_
  refine wpAny_BinOp ?_
  refine r_local S m3 ?_
  refine wpAny_Constant_int ?_
  refine sub_int ?_
  rw [e2]
  refine Vb.item S hRb hcb ?_ (fun _ _ => by with_unfolding_all rfl)
  intro u1 tk1
  refine args_nil ?_
  refine ⟨S.obj _ hu, ?_⟩
  refine bm_set led S hu hsj (knd := PySem.strKind pw w) (k := cb) str_is rfl ?_
  refine wpAny_truthy_bool ⟨fun _ => ?_, nofun⟩
  refine r_and ?_
  refine wpAny_isTrue_Compare1 ?_
  refine Subscript_ ?_
  refine r_local S m8 ?_
  refine wpAny_BinOp ?_
  refine r_local S m2 ?_
  refine wpAny_Constant_int ?_
  refine sub_int ?_
  rw [e1]
  refine Va.item S hRa hca ?_ (fun _ _ => by with_unfolding_all rfl)
  intro u2 tk2
  refine Subscript_ ?_
  refine r_local S m7 ?_
  refine wpAny_BinOp ?_
  refine r_local S m3 ?_
  refine wpAny_Constant_int ?_
  refine sub_int ?_
  rw [e2]
  refine Vb.item S hRb hcb ?_ (fun _ _ => by with_unfolding_all rfl)
  intro u3 tk3
  refine eq_str ?_
  have hne := eqAt_ne (B.left (by omega) (by omega)) hca hcb
  refine wpAny_truthy_bool ⟨fun hb' => absurd (by simpa using hb') hne, fun _ => ⟨rfl, ⟨rfl, id⟩, S⟩⟩
 rintro s₂ ⟨K₂, S₂⟩
 refine q_whileNot (fun s' => Kp s s' ∧ St hb tabs L' (nmF nn dj u d2 va vb x alo ahi blo bhi ta tb tc td st t1 t2 t3) T s'.heap) (fun E' => ?_) ?_
 ·refine r_and ?_
  refine wpAny_isTrue_Compare1 ?_
  refine wpAny_BinOp ?_
  refine r_local S₂ m2 ?_
  refine r_local S₂ m4 ?_
  refine add_int ?_
  refine r_local S₂ (.tail _ (.tail _ m9)) ?_
  refine lt_int ?_
  refine wpAny_truthy_bool ⟨fun hb' => ?_, fun _ => ⟨rfl, ⟨K₂.os, K₂.gens⟩, S₂⟩⟩
  have c1 := of_decide_eq_true hb'
  refine r_and ?_
  refine wpAny_isTrue_Compare1 ?_
  refine wpAny_BinOp ?_
  refine r_local S₂ m3 ?_
  refine r_local S₂ m4 ?_
  refine add_int ?_
  refine r_local S₂ (.tail _ (.tail _ (.tail _ (.tail _ m9)))) ?_
  refine lt_int ?_
  refine wpAny_truthy_bool ⟨fun hb' => ?_, fun _ => ⟨rfl, ⟨K₂.os, K₂.gens⟩, S₂⟩⟩
  have c2 := of_decide_eq_true hb'
  obtain ⟨ca, hca⟩ := geta (st.1 + st.2.2) (by omega)
  obtain ⟨cb, hcb⟩ := getb (st.2.1 + st.2.2) (by omega)
  have e1 : ((st.1 : Int) + (st.2.2 : Int)) = ((st.1 + st.2.2 : Nat) : Int) := by omega
  have e2 : ((st.2.1 : Int) + (st.2.2 : Int)) = ((st.2.1 + st.2.2 : Nat) : Int) := by omega
  refine r_and ?_
  refine isTrue_not ?_
  refine isTrue_plain ?_
  refine r_call ?_
  refine r_local S₂ m5 ?_
  refine cw_bound (id := "set.__contains__") (d := sj) ?_
  refine args_cons ?_
  refine Subscript_ ?_
  refine r_local S₂ m7 ?_
  refine wpAny_BinOp ?_
  refine r_local S₂ m3 ?_
  refine r_local S₂ m4 ?_
  refine add_int ?_
  rw [e2]
  refine Vb.item S₂ hRb hcb ?_ (fun _ _ => by with_unfolding_all rfl)
  intro u1 tk1
  refine args_nil ?_
  refine ⟨S₂.obj _ hu, ?_⟩
  refine bm_set led S₂ hu hsj (knd := PySem.strKind pw w) (k := cb) str_is rfl ?_
  refine wpAny_truthy_bool ⟨fun _ => ?_, nofun⟩
  refine r_and ?_
  refine wpAny_isTrue_Compare1 ?_
  refine Subscript_ ?_
  refine r_local S₂ m8 ?_
  refine wpAny_BinOp ?_
  refine r_local S₂ m2 ?_
  refine r_local S₂ m4 ?_
  refine add_int ?_
  rw [e1]
  refine Va.item S₂ hRa hca ?_ (fun _ _ => by with_unfolding_all rfl)
  intro u2 tk2
  refine Subscript_ ?_
  refine r_local S₂ m7 ?_
  refine wpAny_BinOp ?_
  refine r_local S₂ m3 ?_
  refine r_local S₂ m4 ?_
  refine add_int ?_
  rw [e2]
  refine Vb.item S₂ hRb hcb ?_ (fun _ _ => by with_unfolding_all rfl)
  intro u3 tk3
  refine eq_str ?_
  have hne := eqAt_ne (B.right (by omega) (by omega)) hca hcb
  refine wpAny_truthy_bool ⟨fun hb' => absurd (by simpa using hb') hne, fun _ => ⟨rfl, ⟨K₂.os, K₂.gens⟩, S₂⟩⟩
 rintro s₃ ⟨K₃, S₃⟩
 refine q_whileNot (fun s' => Kp s s' ∧ St hb tabs L' (nmF nn dj u d2 va vb x alo ahi blo bhi ta tb tc td st t1 t2 t3) T s'.heap) (fun E' => ?_) ?_
 ·refine r_and ?_
  refine wpAny_isTrue_Compare1 ?_
  refine r_local S₃ m2 ?_
  refine r_local S₃ (.tail _ m9) ?_
  refine gt_int ?_
  refine wpAny_truthy_bool ⟨fun hb' => ?_, fun _ => ⟨rfl, ⟨K₃.os, K₃.gens⟩, S₃⟩⟩
  have c1 := of_decide_eq_true hb'
  refine r_and ?_
  refine wpAny_isTrue_Compare1 ?_
  refine r_local S₃ m3 ?_
  refine r_local S₃ (.tail _ (.tail _ (.tail _ m9))) ?_
  refine gt_int ?_
  refine wpAny_truthy_bool ⟨fun hb' => ?_, fun _ => ⟨rfl, ⟨K₃.os, K₃.gens⟩, S₃⟩⟩
  have c2 := of_decide_eq_true hb'
  obtain ⟨cb, hcb⟩ := getb (st.2.1 - 1) (by omega)
  have e2 : ((st.2.1 : Int) - 1) = ((st.2.1 - 1 : Nat) : Int) := by omega
  refine r_and ?_
  refine isTrue_plain ?_
  refine r_call ?_
  refine r_local S₃ m5 ?_
  refine cw_bound (id := "set.__contains__") (d := sj) ?_
  refine args_cons ?_
  refine Subscript_ ?_
  refine r_local S₃ m7 ?_
  refine wpAny_BinOp ?_
  refine r_local S₃ m3 ?_
  refine wpAny_Constant_int ?_
  refine sub_int ?_
  rw [e2]
  refine Vb.item S₃ hRb hcb ?_ (fun _ _ => by with_unfolding_all rfl)
  intro u1 tk1
  refine args_nil ?_
  refine ⟨S₃.obj _ hu, ?_⟩
  refine bm_set led S₃ hu hsj (knd := PySem.strKind pw w) (k := cb) str_is rfl ?_
  exact wpAny_truthy_bool ⟨nofun, fun _ => ⟨rfl, ⟨K₃.os, K₃.gens⟩, S₃⟩⟩
 rintro s₄ ⟨K₄, S₄⟩
 refine q_whileNot (fun s' => Kp s s' ∧ St hb tabs L' (nmF nn dj u d2 va vb x alo ahi blo bhi ta tb tc td st t1 t2 t3) T s'.heap) (fun E' => ?_) ?_
 ·refine r_and ?_
  refine wpAny_isTrue_Compare1 ?_
  refine wpAny_BinOp ?_
  refine r_local S₄ m2 ?_
  refine r_local S₄ m4 ?_
  refine add_int ?_
  refine r_local S₄ (.tail _ (.tail _ m9)) ?_
  refine lt_int ?_
  refine wpAny_truthy_bool ⟨fun hb' => ?_, fun _ => ⟨rfl, ⟨K₄.os, K₄.gens⟩, S₄⟩⟩
  have c1 := of_decide_eq_true hb'
  refine r_and ?_
  refine wpAny_isTrue_Compare1 ?_
  refine wpAny_BinOp ?_
  refine r_local S₄ m3 ?_
  refine r_local S₄ m4 ?_
  refine add_int ?_
  refine r_local S₄ (.tail _ (.tail _ (.tail _ (.tail _ m9)))) ?_
  refine lt_int ?_
  refine wpAny_truthy_bool ⟨fun hb' => ?_, fun _ => ⟨rfl, ⟨K₄.os, K₄.gens⟩, S₄⟩⟩
  have c2 := of_decide_eq_true hb'
  obtain ⟨cb, hcb⟩ := getb (st.2.1 + st.2.2) (by omega)
  have e2 : ((st.2.1 : Int) + (st.2.2 : Int)) = ((st.2.1 + st.2.2 : Nat) : Int) := by omega
  refine r_and ?_
  refine isTrue_plain ?_
  refine r_call ?_
  refine r_local S₄ m5 ?_
  refine cw_bound (id := "set.__contains__") (d := sj) ?_
  refine args_cons ?_
  refine Subscript_ ?_
  refine r_local S₄ m7 ?_
  refine wpAny_BinOp ?_
  refine r_local S₄ m3 ?_
  refine r_local S₄ m4 ?_
  refine add_int ?_
  rw [e2]
  refine Vb.item S₄ hRb hcb ?_ (fun _ _ => by with_unfolding_all rfl)
  intro u1 tk1
  refine args_nil ?_
  refine ⟨S₄.obj _ hu, ?_⟩
  refine bm_set led S₄ hu hsj (knd := PySem.strKind pw w) (k := cb) str_is rfl ?_
  exact wpAny_truthy_bool ⟨nofun, fun _ => ⟨rfl, ⟨K₄.os, K₄.gens⟩, S₄⟩⟩
 rintro s₅ ⟨K₅, S₅⟩
 refine q_ret ?_
 refine r_call ?_
 refine r_global G S₅ (v := .ref 163) (by kernel_rfl) ?_
 refine cw_ref G ?_
 refine args_cons ?_
 refine r_local S₅ m2 ?_
 refine args_cons ?_
 refine r_local S₅ m3 ?_
 refine args_cons ?_
 refine r_local S₅ m4 ?_
 refine args_nil ?_
 refine ⟨⟨_, _, _, S₅⟩, ?_⟩
 refine c_match G S₅ (by show A.depth + 1 + 1 < _; omega) ?_
 intro m dd s₆ K₆ S₆
 exact k m dd s₆ _ _ _ ⟨K₆.os.trans K₅.os, fun z => K₆.gens (K₅.gens z)⟩ S₆
end
end
section
section
variable {w : World} {A : Around} {E : Value → Shared → Prop} {s : Shared} {hb : Heap} {L L' x dx nn dj u d2 sj : Addr} {T : List (Addr × Obj)} {l : List (Str × Value)} {oL o2 oj od : Obj} {va vb mb fc sp : Value} {la lb : List Str} {Ra Rb : List (Addr × Obj)} {alo ahi blo bhi i : Nat} {ta tb tc td t1 t2 t3 ti : Tok} {st : Nat × Nat × Nat} {led : Bool} {rows : List JRow} {R : Result → Shared → Prop} {kvj : List (Int × Value)}
theorem flm_row (G : Gd (KN w.params) tabs hb) (hh : A.handled = none) {Q : Flow → Shared → Prop}
  (S : St hb tabs L' ((Str.ofString "i", .int i ti) :: nmF nn dj u d2 va vb x alo ahi blo bhi ta tb tc td st t1 t2 t3) ((dj, oj) :: T) s.heap)
  (hoj : oj.IsDictOf (PySem.intKind pw w) kvj) (hpj : Pj la lb alo blo bhi i kvj) {c : Str} (hc : la[i]? = some c) (hi : alo ≤ i)
  (hd2 : (d2, o2) ∈ T) (ho2 : o2.IsDictOf (PySem.strKind pw w) (rows.map JRow.kv)) (hrows : Rows2 lb rows) (hob : ∀ r ∈ rows, r.ob ∈ T) (hnn : (nn, lstO [] 0) ∈ T)
  (Va : SqV pw w hb tabs Ra va la) (hRa : ∀ p ∈ Ra, p ∈ T) (hlb : lb.length ≤ 100)
  (k : ∀ s' dn on' kvn t1 t2 t3, Kp s s' → St hb tabs L' (nmF nn dn u d2 va vb x alo ahi blo bhi ta tb tc td (rowS la lb alo blo bhi st i) t1 t2 t3) ((dn, on') :: T) s'.heap →
   on'.IsDictOf (PySem.intKind pw w) kvn → Dj la lb alo blo i (rowOf la lb blo bhi i) kvn → Q .next s') :
  wpAny (model pw w) (A.deeper (ev224 w L')) (execs outerB (ev224 w L')) Q E s := by
 refine q_assign ?_
 refine r_dot ?_
 refine r_local S m2 ?_
 refine r_bdict "dict.get" S m0 hoj ?_ dict_get_lookup dict_get_type
 intro ug h₂ S₂
 refine r_store S₂ (.new (by kernel_rfl)) ?_
 intro h₃ S₃
 refine q_assign ?_
 refine r_dict0 S₃ ?_
 intro dn h₄ S₄
 refine r_store S₄ (.new (by kernel_rfl)) ?_
 intro h₅ S₅
 refine q_for ?_
 refine m_call ?_
 refine r_local S₅ m9 ?_
 refine r_dmeth S₅ (.tail _ (.tail _ (.tail _ hd2))) ho2 PySem.F.slot_dict_get PySem.F.type_dict_get ?_
 refine cw_builtin ?_
 refine args_cons ?_
 refine Subscript_ ?_
 refine r_local S₅ (.tail _ (.tail _ m9)) ?_
 refine r_local S₅ m2 ?_
 refine Va.item S₅ (fun p hp => .tail _ (.tail _ (.tail _ (hRa p hp)))) hc ?_ (fun _ _ => by with_unfolding_all rfl)
 intro uc tkc
 refine args_cons ?_
 refine r_local S₅ m3 ?_
 refine args_nil ?_
 refine r_get2 G S₅ (.tail _ (.tail _ (.tail _ hd2))) ho2 (k := c) str_is ?_
 refine rows_case (fun v => wpAny _ _ (pyIter v) _ _ _) hrows hob hnn fun ℓ vs n hℓ hvs => ?_
 refine restate (by exact S₅) fun s₆ K₆ S₆ => ?_
 replace K₆ : Kp s s₆ := ⟨K₆.os, K₆.gens⟩
 refine flm_inner (T := (ug, bmO "dict.get" dj) :: (dj, oj) :: T) G hh S₆ m0 m1 hoj hpj hc hi hlb (.tail _ (.tail _ hℓ)) hvs ?_ _
 intro s₇ on' kvn t1' t2' t3' K₇ S₇ hon hdn hln
 refine q_assign ?_
 refine r_local S₇ m0 ?_
 refine r_store S₇ (.old (.there (.there (.there (.there .here))))) ?_
 intro h₈ S₈
 refine q_nil ?_
 refine k _ dn on' kvn t1' t2' t3' ⟨K₇.os.trans K₆.os, fun z => K₇.gens (K₆.gens z)⟩ ?_ hon hdn
 exact (S₈.forget (.cons _ (.cons _ (.cons _ (List.Sublist.refl _))))).sub (.cons_cons _ (.cons _ (List.sublist_cons_self _ _)))
end
end
section
section
variable {w : World} {A : Around} {E : Value → Shared → Prop} {s : Shared} {hb : Heap} {L L' x dx nn dj u d2 sj : Addr} {T : List (Addr × Obj)} {l : List (Str × Value)} {oL o2 oj od : Obj} {va vb mb fc sp : Value} {la lb : List Str} {Ra Rb : List (Addr × Obj)} {alo ahi blo bhi i : Nat} {ta tb tc td t1 t2 t3 ti : Tok} {st : Nat × Nat × Nat} {led : Bool} {rows : List JRow} {R : Result → Shared → Prop} {kvj : List (Int × Value)}
theorem flm_c (G : Gd (KN w.params) tabs hb) (S : St hb tabs L l T s.heap) (hd : A.depth + 2 < recursionLimit) (hh : A.handled = none) (hx : (x, smO dx) ∈ T) (hdx : (dx, od) ∈ T) (hf : FlObj od (mf va vb mb fc (.ref d2) (.ref sj) sp))
  (hd2 : (d2, o2) ∈ T) (ho2 : o2.IsDictOf (PySem.strKind pw w) (rows.map JRow.kv)) (hrows : Rows2 lb rows) (hob : ∀ r ∈ rows, r.ob ∈ T) (hsj : (sj, setO led) ∈ T)
  (Va : SqV pw w hb tabs Ra va la) (Vb : SqV pw w hb tabs Rb vb lb) (hRa : ∀ p ∈ Ra, p ∈ T) (hRb : ∀ p ∈ Rb, p ∈ T)
  (ha1 : alo ≤ ahi) (ha2 : ahi ≤ la.length) (hb1 : blo ≤ bhi) (hb2 : bhi ≤ lb.length)
  (k : ∀ m dd s' t1 t2 t3, Kp s s' → St hb tabs L l ((m, moO dd [.int (flm la lb alo ahi blo bhi).1 t1, .int (flm la lb alo ahi blo bhi).2.1 t2, .int (flm la lb alo ahi blo bhi).2.2 t3]) :: T) s'.heap → R (.ok (.ret (.ref m))) s') :
  codeAny (model pw w) A (.call (.ref 224) ⟨[.ref x, .int alo ta, .int ahi tb, .int blo tc, .int bhi td], []⟩) R s := by
 have hsa := Va.small
 have hsb := Vb.small
 refine c_def G S (lk224 _) (by omega) (binds := [(Str.ofString "self", .ref x), (Str.ofString "alo", .int alo ta), (Str.ofString "ahi", .int ahi tb), (Str.ofString "blo", .int blo tc), (Str.ofString "bhi", .int bhi td)]) (body := fnBody (st2 pw 6 6)) (kp_binds (S.kin G) (fun S => by kernel_rfl)) ?_
 intro L' h₁ oL r S'
 refine q_doc ?_
 refine q_tuple ?_
 refine r_tuple ?_
 refine args_cons ?_
 refine r_dot ?_
 refine r_local S' m0 ?_
 refine r_attr G S' (.tail _ hx) (.tail _ hdx) hf m1 ?_ (hv := Va.hand)
 refine args_cons ?_
 refine r_dot ?_
 refine r_local S' m0 ?_
 refine r_attr G S' (.tail _ hx) (.tail _ hdx) hf m2 ?_ (hv := Vb.hand)
 refine args_cons ?_
 refine r_dot ?_
 refine r_local S' m0 ?_
 refine r_attr G S' (.tail _ hx) (.tail _ hdx) hf m7 ?_
 refine args_cons ?_
 refine r_dot ?_
 refine r_dot ?_
 refine r_local S' m0 ?_
 refine r_attr G S' (.tail _ hx) (.tail _ hdx) hf m8 ?_
 refine r_bset "set.__contains__" led S' (.tail _ hsj) ?_ set_contains_lookup set_contains_type
 intro u h₂ S₂
 refine args_nil ?_
 refine ⟨rfl, _, _, _, _, _, S₂, ?_⟩
 intro tu h₃ S₃
 refine as_tuple hh S₃ m0 ?_
 intro h₄ S₄
 replace S₄ := S₄.sub (List.sublist_cons_self _ _)
 refine as_each ?_
 refine r_store S₄ (.new (by kernel_rfl)) ?_
 intro h₅ S₅
 refine as_each ?_
 refine r_store S₅ (.new (by kernel_rfl)) ?_
 intro h₆ S₆
 refine as_each ?_
 refine r_store S₆ (.new (by kernel_rfl)) ?_
 intro h₇ S₇
 refine as_each ?_
 refine r_store S₇ (.new (by kernel_rfl)) ?_
 intro h₈ S₈
 refine as_none ?_
 refine restate (by exact S₈) fun s₈ K₈ S₈ => ?_
 replace K₈ : Kp s s₈ := ⟨K₈.os, K₈.gens⟩
 refine q_if ?_
 refine wpAny_isTrue_Compare1 ?_
 refine r_local S₈ m6 ?_
 refine wpAny_Constant_none ?_
 refine is_none ?_
 refine wpAny_truthy_bool ⟨nofun, fun _ => ?_⟩
 refine q_nil ?_
 refine q_if ?_
 refine wpAny_isTrue_Compare1 ?_
 refine r_local S₈ m8 ?_
 refine wpAny_Constant_none ?_
 refine is_none ?_
 refine wpAny_truthy_bool ⟨nofun, fun _ => ?_⟩
 refine q_nil ?_
 refine q_swap [Str.ofString "besti", Str.ofString "bestj", Str.ofString "bestsize"] ?_
 refine args_cons ?_
 refine r_local S₈ m5 ?_
 refine args_cons ?_
 refine r_local S₈ m7 ?_
 refine args_cons ?_
 refine wpAny_Constant_int ?_
 refine args_nil ?_
 refine ⟨rfl, rfl, hh, _, _, _, _, _, S₈, ?_⟩
 intro h₉ S₉
 refine as_cons ?_
 refine r_store S₉ (.new (by kernel_rfl)) ?_
 intro h₁₀ S₁₀
 refine as_cons ?_
 refine r_store S₁₀ (.new (by kernel_rfl)) ?_
 intro h₁₁ S₁₁
 refine as_cons ?_
 refine r_store S₁₁ (.new (by kernel_rfl)) ?_
 intro h₁₂ S₁₂
 refine as_nil ?_
 refine q_assign ?_
 refine r_dict0 S₁₂ ?_
 intro dj h₁₃ S₁₃
 refine r_store S₁₃ (.new (by kernel_rfl)) ?_
 intro h₁₄ S₁₄
 refine q_assign ?_
 refine r_list ?_
 refine args_nil ?_
 refine ⟨rfl, _, _, _, _, _, S₁₄, ?_⟩
 intro nn h₁₅ S₁₅
 refine r_store S₁₅ (.new (by kernel_rfl)) ?_
 intro h₁₆ S₁₆
 refine q_for ?_
 refine r_call ?_
 refine r_builtin G S₁₆ boot_range ?_
 refine cw_type ?_
 refine args_cons ?_
 refine r_local S₁₆ (.tail _ m9) ?_
 refine args_cons ?_
 refine r_local S₁₆ (.tail _ (.tail _ m9)) ?_
 refine args_nil ?_
 refine r_range S₁₆ ?_
 intro rg tg h₁₇ tk₁₇ S₁₇
 refine r_iterR S₁₇ m0 (by omega) (by omega) (by omega) (by omega) ?_
 intro I o Wt fp h₁₈ IV hw S₁₈
 have S₁₉ : St hb tabs L' (nmF nn dj u d2 va vb x alo ahi blo bhi ta tb tc td (alo, blo, 0) ta tc _) (((dj, dict0) :: (nn, lstO [] 0) :: (u, bmO "set.__contains__" sj) :: (L, oL) :: T) ++ [(I, o)]) h₁₈ :=
  (S₁₈.sub (T' := (nn, lstO [] 0) :: (dj, dict0) :: (u, bmO "set.__contains__" sj) :: (L, oL) :: T ++ [(I, o)]) (List.sublist_cons_self _ _)).perm ((List.perm_append_comm (l₁ := [(nn, lstO [] 0)]) (l₂ := [(dj, dict0)])).append_right _)
 have en : ((ahi : Int) - (alo : Int)).toNat = ahi - alo := by omega
 refine for_walk (own := [(I, o)]) (Ro := []) (IV.walks (A.deeper _) hh) (fun i h hi b hb' => by rw [List.mem_singleton] at hb'; subst hb'; exact IV.ex i h hi) rfl IV.ro S₁₉ hw
  (fun t l₁ T₁ => ∃ dj' oj' kvj t1 t2 t3, l₁ = nmF nn dj' u d2 va vb x alo ahi blo bhi ta tb tc td ((List.range' alo t).foldl (rowS la lb alo blo bhi) (alo, blo, 0)) t1 t2 t3 ∧
   T₁ = (dj', oj') :: (nn, lstO [] 0) :: (u, bmO "set.__contains__" sj) :: (L, oL) :: T ∧ oj'.IsDictOf (PySem.intKind pw w) kvj ∧ Pj la lb alo blo bhi (alo + t) kvj) ?_ (fun p hp => (by cases hp)) ?_ ?_
 ·exact ⟨dj, dict0, [], _, _, _, rfl, rfl, dict0_is, .inl ⟨rfl, rfl⟩⟩
 ·rintro E₁ t v l₁ T₁ own₁ s₁ ht ⟨ti, hv⟩ ⟨dj', oj', kvj, t1', t2', t3', rfl, rfl, hoj, hpj⟩ S₂₀ hRo hKp
  have hlt : alo + t < la.length := by omega
  have ev : v = .int ((alo + t : Nat) : Int) ti := by rw [hv, Int.natCast_add]
  clear hv
  subst ev
  refine as_name ?_
  refine r_store S₂₀ (.new (by kernel_rfl)) ?_
  intro h₂₁ S₂₁
  refine flm_row (T := (nn, lstO [] 0) :: (u, bmO "set.__contains__" sj) :: (L, oL) :: (T ++ own₁)) G hh (by exact S₂₁) hoj hpj (List.getElem?_eq_getElem hlt) (by omega)
   (.tail _ (.tail _ (.tail _ (List.mem_append_left _ hd2)))) ho2 hrows (fun r hr => .tail _ (.tail _ (.tail _ (List.mem_append_left _ (hob r hr))))) m0 Va (fun p hp => .tail _ (.tail _ (.tail _ (List.mem_append_left _ (hRa p hp))))) (by omega) ?_
  intro s' dn on' kvn t1 t2 t3 K' S' hon hdn
  refine ⟨_, _, S', ⟨dn, on', kvn, t1, t2, t3, ?_, rfl, hon, .inr ⟨by omega, hdn⟩⟩, (fun p hp => (by cases hp)), ⟨K'.os.trans hKp.os, fun z => K'.gens (hKp.gens z)⟩⟩
  rw [List.range'_concat, List.foldl_append, Nat.one_mul]; rfl
 ·rintro s' l' T' hKp S₂₀ ⟨dj', oj', kvj, t1', t2', t3', rfl, rfl, hoj, hpj⟩ hRo
  rw [en] at S₂₀
  refine flm_tail G hd S₂₀ (.tail _ (.tail _ (.tail _ (.tail _ hsj)))) m2 (flm_best la lb alo ahi blo bhi) Va Vb (fun p hp => .tail _ (.tail _ (.tail _ (.tail _ (hRa p hp))))) (fun p hp => .tail _ (.tail _ (.tail _ (.tail _ (hRb p hp))))) ha1 ha2 hb1 hb2 ?_
  intro m dd s₂ t1 t2 t3 K₂ S₂₁
  have S₂₂ := (S₂₁.leave 4 rfl r).sub (T' := (m, moO dd [.int (flm la lb alo ahi blo bhi).1 t1, .int (flm la lb alo ahi blo bhi).2.1 t2, .int (flm la lb alo ahi blo bhi).2.2 t3]) :: T) (.cons_cons _ (.cons _ (.cons _ (List.sublist_cons_self _ _))))
  exact k m dd s₂ t1 t2 t3 ⟨K₂.os.trans (hKp.os.trans K₈.os), fun z => K₂.gens (hKp.gens (K₈.gens z))⟩ S₂₂
end
end
section
def IsSq (h : Heap) (t : Addr) (items : List Value) : Prop := ∃ o, h.get? t = some o ∧ ∃ n, o.data = .seq items.toArray n
theorem IsSq.at {h h' : Heap} {t : Addr} {items : List Value} (x : IsSq h t items) (e : ∀ o, h.get? t = some o → h'.get? t = some o) : IsSq h' t items := let ⟨o, a, b⟩ := x; ⟨o, e o a, b⟩
section
variable {prog : Program} {w : World} {A : Around} {E : Value → Shared → Prop} {s : Shared} {it t : Addr} {i : Nat} {items : List Value}
theorem sq_next {x : Value} {Q : Option Value → Shared → Prop} (hit : s.heap.IsTupleIter it t i) (ht : IsSq s.heap t items) (hx : items[i]? = some x)
  (hQ : ∀ h', h'.IsTupleIter it t (i + 1) → Heap.SameBut it s.heap h' → Q (some x) { s with heap := h' }) : wpAny (model prog w) A (pyNext (.ref it)) Q E s := by
 obtain ⟨o, ho, hc, hd⟩ := id hit
 obtain ⟨ot, hot, n, hdt⟩ := ht
 have hx' : items.toArray[i]? = some x := by simpa using hx
 unfold pyNext
 refine wpAny_bind (wpAny_attempt (wpAny_callSpecial?_slot (name := Str.ofString "__next__") hit.typeIs F.slot_tuple_iterator_next (wpAny_call_entry F.slot_tuple_iterator_next hit.typeIs F.entry_tuple_iterator_next ?_ (F.args_tuple_iterator_next_1 _))))
 show wpAny _ _ (field (.ref it) 0 >>= _) _ _ s
 refine wpAny_bind (wpAny_field ho hd (x := .ref t) rfl ?_)
 refine KFB.if_not rfl ?_
 show wpAny _ _ (field (.ref it) 1 >>= _) _ _ s
 refine wpAny_bind (wpAny_field ho hd (x := .int i 0) rfl ?_)
 show wpAny _ _ (seqItems? (.ref t) >>= _) _ _ s
 refine wpAny_bind (wpAny_seqItems hot hdt ?_)
 simp only [Int.toNat_natCast, hx']
 refine wpAny_bind (wpAny_setField ho hd (by simp) (wpAny_pure ⟨x, rfl, wpAny_pure (hQ _ ⟨_, Heap.get?_update_self _ ho (Obj.isFreed_of_fields (Obj.data_mapFields hd _)), (Obj.cls_mapFields ..).trans hc, ?_⟩ (Heap.SameBut.update ..))⟩))
 rw [Obj.data_mapFields hd]; simp [rawInt]
theorem sq_end {Q : Option Value → Shared → Prop} (hh : A.handled = none) (hit : s.heap.IsTupleIter it t i) (ht : IsSq s.heap t items) (hx : items[i]? = none)
  (hQ : ∀ h', Heap.ExtBut it s.heap h' → Q none { s with heap := h' }) : wpAny (model prog w) A (pyNext (.ref it)) Q E s := by
 obtain ⟨o, ho, hc, hd⟩ := id hit
 obtain ⟨ot, hot, n, hdt⟩ := ht
 have hx' : items.toArray[i]? = none := by simpa using hx
 unfold pyNext
 refine wpAny_bind (wpAny_attempt (wpAny_callSpecial?_slot (name := Str.ofString "__next__") hit.typeIs F.slot_tuple_iterator_next (wpAny_call_entry F.slot_tuple_iterator_next hit.typeIs F.entry_tuple_iterator_next ?_ (F.args_tuple_iterator_next_1 _))))
 show wpAny _ _ (field (.ref it) 0 >>= _) _ _ s
 refine wpAny_bind (wpAny_field ho hd (x := .ref t) rfl ?_)
 refine KFB.if_not rfl ?_
 show wpAny _ _ (field (.ref it) 1 >>= _) _ _ s
 refine wpAny_bind (wpAny_field ho hd (x := .int i 0) rfl ?_)
 show wpAny _ _ (seqItems? (.ref t) >>= _) _ _ s
 refine wpAny_bind (wpAny_seqItems hot hdt ?_)
 simp only [Int.toNat_natCast, hx']
 refine wpAny_bind (wpAny_rule (wpAny_bind (wpAny_setField ho hd (by simp) ?_)))
 show wpAny _ _ (newExc (.type "StopIteration") [] >>= _) _ _ _
 refine wpAny_bind ?_
 simp only [newExc, newTuple]
 refine wpAny_bind (wpAny_newObj_type ?_ (by size_fits))
 refine wpAny_bind (m := firstArgMember _ _) (wpAny_of_eq (a := Value.none) (by first | rfl | (simp only [firstArgMember]; rfl)) ?_)
 refine wpAny_newObj_type ?_ (by size_fits)
 simp only [raiseNew]
 refine wpAny_bind (wpAny_handled ?_)
 first | rw [show A.in1.handled = none from hh] | rw [hh]
 refine wpAny_bind (wpAny_pure (wpAny_throw ?_))
 refine wpAny_bind (wpAny_isInstance (T := "StopIteration") (b := true) ⟨_, Heap.get?_push_size _ rfl, rfl⟩ isSubtype_stop ?_)
 exact wpAny_pure (hQ _ (((Heap.SameBut.update ..).extBut.push _).push _))
theorem sq_draw (hne : t ≠ it) : ∀ (n i : Nat) (s : Shared) (Q : List Value → Shared → Prop), s.heap.IsTupleIter it t i → IsSq s.heap t items → i + n ≤ items.length →
  (∀ h', h'.IsTupleIter it t (i + n) → Heap.SameBut it s.heap h' → Q ((items.drop i).take n) { s with heap := h' }) → wpAny (model prog w) A (draw (.ref it) n) Q E s
 | 0, i, s, Q, hit, _, _, hQ => wpAny_pure (by simpa using hQ s.heap hit (Heap.SameBut.refl ..))
 | n + 1, i, s, Q, hit, ht, hle, hQ => by
  have hlt : i < items.length := by omega
  refine wpAny_bind (sq_next hit ht (List.getElem?_eq_getElem hlt) fun h₁ hit₁ hs₁ => ?_)
  refine wpAny_bind (wpAny_holding (sq_draw hne n (i + 1) _ _ hit₁ (ht.at fun o e => (hs₁.2 t hne).trans e) (by omega) fun h₂ hit₂ hs₂ => wpAny_pure ?_))
  have := hQ h₂ (by rw [show i + (n + 1) = i + 1 + n by omega]; exact hit₂) (hs₁.trans hs₂)
  rw [List.drop_eq_getElem_cons hlt, List.take_succ_cons] at this
  exact this
end
section
variable {w : World} {A : Around} {E : Value → Shared → Prop} {s : Shared} {hb : Heap} {L m dd : Addr} {l : List (Str × Value)} {T : List (Addr × Obj)} {vs : List Value} {env : Env}
theorem mt_iter (w : World) : findIn (KN w.params) (.ref 163) "__iter__" = some (some (.builtin "tuple.__iter__")) := by kernel_rfl
theorem ti_plain : plainId "tuple.__iter__" = true := by decide +kernel
theorem ti_kind : builtinKind "tuple.__iter__" = some .slot := by decide +kernel
theorem ti_split : splitId "tuple.__iter__" = some ("tuple", "__iter__") := by decide +kernel
theorem ti_bind (self : Value) : bindSpecial (.builtin "tuple.__iter__") self = pure (.builtin "tuple.__iter__", [self]) := F.slot_tuple_iter.bind self
theorem iter_match {Q : Value → Shared → Prop} (G : Gd (KN w.params) tabs hb) (S : St hb tabs L l T s.heap) (hm : (m, moO dd vs) ∈ T)
  (h : Q (.ref s.heap.objs.size) { s with heap := s.heap.push { cls := .type "tuple_iterator", data := .fields #[.ref m, .int 0 0] } }) : wpAny (model pw w) A (pyIter (.ref m)) Q E s := by
 have X := S.kin G
 have t1 : Looks (model pw w) s.heap (typeOf (.ref m)) (.ref 163) := (Looks.ld (S.obj _ hm)).andThen .now
 have t2 : Looks (model pw w) s.heap (isInstance (.ref m) (.type "tuple")) true := t1.andThen (mt_sub X)
 have t3 : Looks (model pw w) s.heap (specialOf (.ref m) "__iter__") (some (.builtin "tuple.__iter__")) := t1.andThen (looks_findIn X (mt_iter w))
 have call : ∀ {Q : Value → Shared → Prop}, Q (.ref s.heap.objs.size) { s with heap := s.heap.push { cls := .type "tuple_iterator", data := .fields #[.ref m, .int 0 0] } } → wpAny (model pw w) A (call (.builtin "tuple.__iter__") [.ref m]) Q E s := fun {Q} h => by
  refine wpAny_call (codeAny_call_builtin ti_plain F.entry_tuple_iter (@check_slot (model pw w) _ _ _ "tuple.__iter__" "tuple" "__iter__" (.ref m) [] [] _ ti_kind ti_split t2 (F.args_tuple_iter_1 _) ?_))
  show wpAny _ _ (do ret (← newFields "tuple_iterator" [.ref m, rawInt 0])) _ _ s
  exact wpAny_bind (wpAny_newObj_type (wpAny_pure h))
 unfold pyIter
 refine wpAny_bind (t3.here ?_)
 show wpAny _ _ (callSpecialIfBoundUnlessNone? (.ref m) "__iter__" _ >>= _) Q E s
 refine wpAny_bind ?_
 simp only [callSpecialIfBoundUnlessNone?, bindSpecialIfBound?]
 refine wpAny_holding (wpAny_bind (wpAny_bind (t3.here ?_)))
 simp only [ti_bind]
 refine wpAny_bind (wpAny_askSetting (wpAny_ite ?_))
 have fin : wpAny (model pw w) A (PySem.call (.builtin "tuple.__iter__") [.ref m] >>= fun v => pure (some v)) (fun v s' => wpAny (model pw w) A (match v with
   | some it => (do match ← specialOf it "__next__" with
    | none => rule "iter.non-iterator"; raiseError "TypeError" s!"iter() returned non-iterator of type '{← PySem.typeNameOf it}'"
    | some _ => pure it)
   | none => (do match ← bindSpecialIfBound? (.ref m) "__getitem__" with
    | none => rule "iter.not-iterable"; raiseError "TypeError" s!"'{← PySem.typeNameOf (.ref m)}' object is not iterable"
    | some _ => rule "iter.getitem-fallback"; newFields "iterator" [(.ref m), ← mkInt 0])) Q E s') E s :=
  wpAny_bind (call (wpAny_pure (wpAny_bind (wpAny_specialOf (T := "tuple_iterator") ⟨_, Heap.get?_push_size _ rfl, rfl⟩ F.slot_tuple_iterator_next.lookup (wpAny_pure h)))))
 split
 ·exact wpAny_bind (wpAny_pure (wpAny_pure (KFB.if_not rfl fin)))
 ·exact wpAny_tryCatch (wpAny_bind (wpAny_pure (wpAny_pure (KFB.if_not rfl fin))))
theorem unpack_match {targets : List (Bool × (Value → Sem Unit))} {Q : Unit → Shared → Prop} (hh : A.handled = none) (G : Gd (KN w.params) tabs hb) (S : St hb tabs L l T s.heap) (hm : (m, moO dd vs) ∈ T)
  (hn : targets.length = vs.length) (hstar : targets.findIdx? (·.1) = none)
  (h : ∀ h', St hb tabs L l T h' → wpAny (model pw w) A (assignInOrder (targets.map (·.2)) vs) Q E { s with heap := h' }) : wpAny (model pw w) A (unpack (.ref m) targets) Q E s := by
 have X := S.kin G
 have t1 : Looks (model pw w) s.heap (typeOf (.ref m)) (.ref 163) := (Looks.ld (S.obj _ hm)).andThen .now
 have t3 : Looks (model pw w) s.heap (specialOf (.ref m) "__iter__") (some (.builtin "tuple.__iter__")) := t1.andThen (looks_findIn X (mt_iter w))
 have hlt : m ≠ s.heap.objs.size := Nat.ne_of_lt (S.lt hm)
 unfold unpack unpackItems
 rw [hn, hstar]
 refine wpAny_bind (wpAny_holding (wpAny_bind ?_))
 unfold notIterableAtAll
 refine wpAny_bind (t3.here ?_)
 refine KFB.if_so rfl ?_
 refine wpAny_pure ?_
 refine KFB.if_not rfl ?_
 refine wpAny_bind (wpAny_holding (iter_match G S hm ?_))
 have hs : IsSq (s.heap.push { cls := .type "tuple_iterator", data := .fields #[.ref m, .int 0 0] }) m vs := ⟨_, Heap.get?_push_of_some _ (S.obj _ hm), _, rfl⟩
 refine wpAny_bind (wpAny_holding (sq_draw hlt vs.length 0 _ _ ⟨_, Heap.get?_push_size _ rfl, rfl, rfl⟩ hs (by omega) fun h₁ hit₁ hs₁ => ?_))
 rw [List.drop_zero, List.take_length]
 rw [if_neg (Nat.lt_irrefl _)]
 have ht₁ : IsSq h₁ m vs := hs.at fun o e => (hs₁.2 m hlt).trans e
 refine wpAny_bind (wpAny_holding (sq_end hh hit₁ ht₁ (by simp) fun h₂ he₂ => ?_))
 refine KFB.if_not rfl ?_
 refine wpAny_pure ?_
 exact h h₂ (S.extBut fun b o hb' e => he₂ b o hb' (hs₁.extBut b o hb' (Heap.get?_push_of_some _ e)))
theorem as_match {elts : List Expr} {x1 : Nat} {tpos : Pos} {Q : Unit → Shared → Prop} (hh : A.handled = none) (G : Gd (KN w.params) tabs hb) (S : St hb tabs L l T s.heap) (hm : (m, moO dd vs) ∈ T)
  (h : ∀ h', St hb tabs L l T h' → wpAny (model pw w) A (assignInOrder ((assignEach elts env).map (·.2)) vs) Q E { s with heap := h' })
  (hsz : (assignEach elts env).length = vs.length := by rfl) (hstar : (assignEach elts env).findIdx? (·.1) = none := by kernel_rfl) :
  wpAny (model pw w) A (assign (.Tuple elts x1 tpos) env (.ref m)) Q E s := by
 rw [arm_assign_Tuple]
 exact wpAny_bind (wpAny_standAt (unpack_match hh G S hm hsz hstar h))
end
end
section
section
variable {w : World} {A : Around} {E : Value → Shared → Prop} {s : Shared} {hb : Heap} {L m dd m' dd' : Addr} {l : List (Str × Value)} {T : List (Addr × Obj)} {vs : List Value} {env : Env}
theorem mt_lt (w : World) : findIn (KN w.params) (.ref 163) "__lt__" = some (some (.builtin "tuple.__lt__")) := by kernel_rfl
theorem tl_plain : plainId "tuple.__lt__" = true := by decide +kernel
theorem tl_kind : builtinKind "tuple.__lt__" = some .slot := by decide +kernel
theorem tl_split : splitId "tuple.__lt__" = some ("tuple", "__lt__") := by decide +kernel
theorem tl_bind (self : Value) : bindSpecial (.builtin "tuple.__lt__") self = pure (.builtin "tuple.__lt__", [self]) := F.slot_tuple_lt.bind self
theorem match_ltcall {a1 a2 a3 b1 b2 b3 : Int} {t1 t2 t3 u1 u2 u3 : Tok} {Q : Value → Shared → Prop} (G : Gd (KN w.params) tabs hb) (S : St hb tabs L l T s.heap) (hm : (m, moO dd [.int a1 t1, .int a2 t2, .int a3 t3]) ∈ T) (hm' : (m', moO dd' [.int b1 u1, .int b2 u2, .int b3 u3]) ∈ T)
  (h : ∀ c tk, Q (.bool c) { s with toks := tk }) : wpAny (model pw w) A (call (.builtin "tuple.__lt__") [.ref m, .ref m']) Q E s := by
 have X := S.kin G
 have t1' : Looks (model pw w) s.heap (typeOf (.ref m)) (.ref 163) := (Looks.ld (S.obj _ hm)).andThen .now
 have t2' : Looks (model pw w) s.heap (isInstance (.ref m) (.type "tuple")) true := t1'.andThen (mt_sub X)
 have t1'' : Looks (model pw w) s.heap (typeOf (.ref m')) (.ref 163) := (Looks.ld (S.obj _ hm')).andThen .now
 have t2'' : Looks (model pw w) s.heap (isInstance (.ref m') (.type "tuple")) true := t1''.andThen (mt_sub X)
 refine wpAny_call (codeAny_call_builtin tl_plain F.entry_tuple_lt (@check_slot (model pw w) _ _ _ "tuple.__lt__" "tuple" "__lt__" (.ref m) [.ref m'] [] _ tl_kind tl_split t2' (F.args_tuple_lt_2 _ _) ?_))
 show wpAny _ _ (isInstance (.ref m') (.type "tuple") >>= _) _ _ s
 refine wpAny_bind (t2''.here ?_)
 refine KFB.if_not rfl ?_
 refine wpAny_bind (wpAny_bind (wpAny_seqItems (S.obj _ hm) rfl (wpAny_pure ?_)))
 refine wpAny_bind (wpAny_bind (wpAny_seqItems (S.obj _ hm') rfl (wpAny_pure ?_)))
 show wpAny _ _ (forIn [(Value.int a1 t1, Value.int b1 u1), (Value.int a2 t2, Value.int b2 u2), (Value.int a3 t3, Value.int b3 u3)] _ _ >>= _) _ _ s
 refine wpAny_bind ?_
 rw [List.forIn_cons]
 refine wpAny_bind (wpAny_bind (wpAny_eqBool_int ?_))
 by_cases e1 : (a1 == b1) = true
 ·rw [e1]
  refine KFB.if_not rfl (wpAny_pure ?_)
  show wpAny _ _ (forIn [(Value.int a2 t2, Value.int b2 u2), (Value.int a3 t3, Value.int b3 u3)] _ _) _ _ s
  rw [List.forIn_cons]
  refine wpAny_bind (wpAny_bind (wpAny_eqBool_int ?_))
  by_cases e2 : (a2 == b2) = true
  ·rw [e2]
   refine KFB.if_not rfl (wpAny_pure ?_)
   show wpAny _ _ (forIn [(Value.int a3 t3, Value.int b3 u3)] _ _) _ _ s
   rw [List.forIn_cons]
   refine wpAny_bind (wpAny_bind (wpAny_eqBool_int ?_))
   by_cases e3 : (a3 == b3) = true
   ·rw [e3]
    refine KFB.if_not rfl (wpAny_pure ?_)
    show wpAny _ _ (forIn [] _ _) _ _ s
    rw [List.forIn_nil]
    exact wpAny_pure (wpAny_pure (h _ _))
   ·refine KFB.if_so (by simpa using e3) ?_
    refine wpAny_bind (wpAny_rule (wpAny_bind ?_))
    exact lt_int (wpAny_bind (wpAny_pure (wpAny_pure (wpAny_pure (wpAny_pure (h _ _))))))
  ·refine KFB.if_so (by simpa using e2) ?_
   refine wpAny_bind (wpAny_rule (wpAny_bind ?_))
   exact lt_int (wpAny_bind (wpAny_pure (wpAny_pure (wpAny_pure (wpAny_pure (h _ _))))))
 ·refine KFB.if_so (by simpa using e1) ?_
  refine wpAny_bind (wpAny_rule (wpAny_bind ?_))
  exact lt_int (wpAny_bind (wpAny_pure (wpAny_pure (wpAny_pure (wpAny_pure (h _ _))))))
theorem match_keylt {a1 a2 a3 b1 b2 b3 : Int} {t1 t2 t3 u1 u2 u3 : Tok} {Q : Bool → Shared → Prop} (hu : A.units < cLine) (G : Gd (KN w.params) tabs hb) (S : St hb tabs L l T s.heap) (hm : (m, moO dd [.int a1 t1, .int a2 t2, .int a3 t3]) ∈ T) (hm' : (m', moO dd' [.int b1 u1, .int b2 u2, .int b3 u3]) ∈ T)
  (h : ∀ c tk, Q c { s with toks := tk }) : wpAny (model pw w) A (keyLt' oneType' (.ref m) (.ref m')) Q E s := by
 have X := S.kin G
 have t1' : Looks (model pw w) s.heap (typeOf (.ref m)) (.ref 163) := (Looks.ld (S.obj _ hm)).andThen .now
 have t3 : Looks (model pw w) s.heap (specialOf (.ref m) "__lt__") (some (.builtin "tuple.__lt__")) := t1'.andThen (looks_findIn X (mt_lt w))
 rw [keyLt'_oneType, oneLt'_eq]
 simp only [if_true]
 refine wpAny_bind (wpAny_cRoomFor hu ?_)
 simp only [callSpecialIfBound?, bindSpecialIfBound?]
 refine wpAny_bind (wpAny_holding (wpAny_bind (wpAny_bind (t3.here ?_))))
 simp only [tl_bind]
 refine wpAny_bind (wpAny_askSetting (wpAny_ite ?_))
 have fin : ∀ {Q' : Option Value → Shared → Prop}, (∀ c tk, Q' (some (.bool c)) { s with toks := tk }) → wpAny (model pw w) A (PySem.call (.builtin "tuple.__lt__") ([.ref m] ++ [.ref m']) >>= fun v => pure (some v)) Q' E s := fun hq =>
  wpAny_bind (match_ltcall G S hm hm' fun c tk => wpAny_pure (hq c tk))
 split
 ·exact wpAny_bind (wpAny_pure (wpAny_pure (fin fun c tk => wpAny_bind (wpAny_truthy_bool (wpAny_pure (h c tk))))))
 ·exact wpAny_tryCatch (wpAny_bind (wpAny_pure (wpAny_pure (fin fun c tk => wpAny_bind (wpAny_truthy_bool (wpAny_pure (h c tk)))))))
end
end
section
def mtot (la lb : List Str) : Nat → Nat → Nat → Nat → Nat → Nat
 | 0, _, _, _, _ => 0
 | f + 1, alo, ahi, blo, bhi => if (flm la lb alo ahi blo bhi).2.2 = 0 then 0 else
   (flm la lb alo ahi blo bhi).2.2 + mtot la lb f alo (flm la lb alo ahi blo bhi).1 blo (flm la lb alo ahi blo bhi).2.1 +
    mtot la lb f ((flm la lb alo ahi blo bhi).1 + (flm la lb alo ahi blo bhi).2.2) ahi ((flm la lb alo ahi blo bhi).2.1 + (flm la lb alo ahi blo bhi).2.2) bhi
section
variable {la lb : List Str}
theorem flm_empty {alo ahi blo bhi : Nat} (h : ahi ≤ alo ∨ bhi ≤ blo) : (flm la lb alo ahi blo bhi).2.2 = 0 := by
 have B := flm_best la lb alo ahi blo bhi
 have h1 := B.lo
 have h2 := B.hi
 rcases h with q | q
 ·have := Nat.max_eq_left q; omega
 ·have := Nat.max_eq_left q; omega
theorem mtot_empty {f alo ahi blo bhi : Nat} (h : ahi ≤ alo ∨ bhi ≤ blo) : mtot la lb f alo ahi blo bhi = 0 := by
 cases f with
 | zero => rfl
 | succ f => rw [mtot, if_pos (flm_empty h)]
theorem mtot_fuel : ∀ (f f' alo ahi blo bhi : Nat), ahi - alo < f → ahi - alo < f' → mtot la lb f alo ahi blo bhi = mtot la lb f' alo ahi blo bhi
 | 0, _, _, _, _, _, h, _ => by omega
 | _, 0, _, _, _, _, _, h => by omega
 | f + 1, f' + 1, alo, ahi, blo, bhi, h, h' => by
  rw [mtot, mtot]
  by_cases hz : (flm la lb alo ahi blo bhi).2.2 = 0
  ·rw [if_pos hz, if_pos hz]
  ·rw [if_neg hz, if_neg hz]
   have B := flm_best la lb alo ahi blo bhi
   have h1 := B.lo
   have h2 := B.hi
   have hlt : alo < ahi := by
    rcases Nat.lt_or_ge alo ahi with q | q
    ·exact q
    ·exact absurd (flm_empty (.inl q)) hz
   have h3 := Nat.max_eq_right (Nat.le_of_lt hlt)
   rw [mtot_fuel f f' alo _ blo _ (by omega) (by omega), mtot_fuel f f' _ ahi _ bhi (by omega) (by omega)]
def mt (la lb : List Str) (q : Nat × Nat × Nat × Nat) : Nat := mtot la lb (la.length + 1) q.1 q.2.1 q.2.2.1 q.2.2.2
def wd (q : Nat × Nat × Nat × Nat) : Nat := q.2.1 - q.1
structure WinOk (la lb : List Str) (q : Nat × Nat × Nat × Nat) : Prop where
 a1 : q.1 ≤ q.2.1
 a2 : q.2.1 ≤ la.length
 b1 : q.2.2.1 ≤ q.2.2.2
 b2 : q.2.2.2 ≤ lb.length
def lftW (q : Nat × Nat × Nat × Nat) (b : Nat × Nat × Nat) : List (Nat × Nat × Nat × Nat) := if q.1 < b.1 ∧ q.2.2.1 < b.2.1 then [(q.1, b.1, q.2.2.1, b.2.1)] else []
def rgtW (q : Nat × Nat × Nat × Nat) (b : Nat × Nat × Nat) : List (Nat × Nat × Nat × Nat) := if b.1 + b.2.2 < q.2.1 ∧ b.2.1 + b.2.2 < q.2.2.2 then [(b.1 + b.2.2, q.2.1, b.2.1 + b.2.2, q.2.2.2)] else []
def sumN (l : List Nat) : Nat := l.foldr (· + ·) 0
theorem sumN_append (l r : List Nat) : sumN (l ++ r) = sumN l + sumN r := by
 induction l with
 | nil => simp [sumN]
 | cons a l ih => show a + sumN (l ++ r) = a + sumN l + sumN r; omega
theorem mt_zero {q : Nat × Nat × Nat × Nat} (h : (flm la lb q.1 q.2.1 q.2.2.1 q.2.2.2).2.2 = 0) : mt la lb q = 0 := by
 unfold mt; rw [mtot, if_pos h]
theorem mt_step {q : Nat × Nat × Nat × Nat} (hq : WinOk la lb q) (h : (flm la lb q.1 q.2.1 q.2.2.1 q.2.2.2).2.2 ≠ 0) :
  mt la lb q = (flm la lb q.1 q.2.1 q.2.2.1 q.2.2.2).2.2 + sumN ((lftW q (flm la lb q.1 q.2.1 q.2.2.1 q.2.2.2)).map (mt la lb)) + sumN ((rgtW q (flm la lb q.1 q.2.1 q.2.2.1 q.2.2.2)).map (mt la lb)) := by
 have B := flm_best la lb q.1 q.2.1 q.2.2.1 q.2.2.2
 obtain ⟨alo, ahi, blo, bhi⟩ := q
 have h1 := B.lo
 have h2 := B.hi
 have h3 := Nat.max_eq_right hq.a1
 have h4 := Nat.max_eq_right hq.b1
 have ha2 := hq.a2
 dsimp only at *
 generalize hb : flm la lb alo ahi blo bhi = b at *
 unfold mt
 rw [mtot, hb, if_neg h]
 have e1 : mtot la lb la.length alo b.1 blo b.2.1 = sumN ((lftW (alo, ahi, blo, bhi) b).map (mt la lb)) := by
  unfold lftW
  split
  ·show _ = mt la lb _ + 0
   unfold mt
   rw [Nat.add_zero]
   exact mtot_fuel _ _ _ _ _ _ (by omega) (by omega)
  ·rename_i hn
   dsimp only at hn
   exact mtot_empty (by omega)
 have e2 : mtot la lb la.length (b.1 + b.2.2) ahi (b.2.1 + b.2.2) bhi = sumN ((rgtW (alo, ahi, blo, bhi) b).map (mt la lb)) := by
  unfold rgtW
  split
  ·show _ = mt la lb _ + 0
   unfold mt
   rw [Nat.add_zero]
   exact mtot_fuel _ _ _ _ _ _ (by omega) (by omega)
  ·rename_i hn
   dsimp only at hn
   exact mtot_empty (by omega)
 rw [e1, e2]; rfl
theorem side_ok {q : Nat × Nat × Nat × Nat} (hq : WinOk la lb q) (h : (flm la lb q.1 q.2.1 q.2.2.1 q.2.2.2).2.2 ≠ 0) :
  (∀ p ∈ lftW q (flm la lb q.1 q.2.1 q.2.2.1 q.2.2.2), WinOk la lb p) ∧ (∀ p ∈ rgtW q (flm la lb q.1 q.2.1 q.2.2.1 q.2.2.2), WinOk la lb p) ∧
  (flm la lb q.1 q.2.1 q.2.2.1 q.2.2.2).2.2 + sumN ((lftW q (flm la lb q.1 q.2.1 q.2.2.1 q.2.2.2)).map wd) + sumN ((rgtW q (flm la lb q.1 q.2.1 q.2.2.1 q.2.2.2)).map wd) ≤ wd q := by
 have B := flm_best la lb q.1 q.2.1 q.2.2.1 q.2.2.2
 obtain ⟨alo, ahi, blo, bhi⟩ := q
 have h1 := B.lo
 have h2 := B.hi
 have h3 := Nat.max_eq_right hq.a1
 have h4 := Nat.max_eq_right hq.b1
 have ha1 := hq.a1
 have ha2 := hq.a2
 have hb1 := hq.b1
 have hb2 := hq.b2
 dsimp only at *
 generalize hb : flm la lb alo ahi blo bhi = b at *
 refine ⟨fun p hp => ?_, fun p hp => ?_, ?_⟩
 ·unfold lftW at hp
  split at hp
  ·rename_i hn
   rw [List.mem_singleton] at hp
   subst hp
   dsimp only at hn
   exact ⟨by dsimp only; omega, by dsimp only; omega, by dsimp only; omega, by dsimp only; omega⟩
  ·cases hp
 ·unfold rgtW at hp
  split at hp
  ·rename_i hn
   rw [List.mem_singleton] at hp
   subst hp
   dsimp only at hn
   exact ⟨by dsimp only; omega, by dsimp only; omega, by dsimp only; omega, by dsimp only; omega⟩
  ·cases hp
 ·have e1 : sumN ((lftW (alo, ahi, blo, bhi) b).map wd) ≤ b.1 - alo := by
   unfold lftW
   split
   ·show wd _ + 0 ≤ _
    unfold wd; dsimp only; omega
   ·exact Nat.zero_le _
  have e2 : sumN ((rgtW (alo, ahi, blo, bhi) b).map wd) ≤ ahi - (b.1 + b.2.2) := by
   unfold rgtW
   split
   ·show wd _ + 0 ≤ _
    unfold wd; dsimp only; omega
   ·exact Nat.zero_le _
  unfold wd at *
  dsimp only
  omega
end
theorem lft_wd {q : Nat × Nat × Nat × Nat} {b : Nat × Nat × Nat} : ∀ p ∈ lftW q b, 1 ≤ wd p := fun p hp => by
 unfold lftW at hp
 split at hp
 ·rw [List.mem_singleton] at hp
  subst hp
  unfold wd; dsimp only; omega
 ·cases hp
theorem rgt_wd {q : Nat × Nat × Nat × Nat} {b : Nat × Nat × Nat} : ∀ p ∈ rgtW q b, 1 ≤ wd p := fun p hp => by
 unfold rgtW at hp
 split at hp
 ·rw [List.mem_singleton] at hp
  subst hp
  unfold wd; dsimp only; omega
 ·cases hp
theorem sumN_ge {α : Type} (f : α → Nat) : ∀ (l : List α), (∀ a ∈ l, 1 ≤ f a) → l.length ≤ sumN (l.map f)
 | [], _ => Nat.le_refl _
 | a :: l, h => by
  have h1 := h a (.head _)
  have h2 := sumN_ge f l fun b hb => h b (.tail _ hb)
  show l.length + 1 ≤ f a + sumN (l.map f)
  omega
theorem sumN_two (l : List (Nat × Nat × Nat × Nat)) : sumN (l.map fun q => 2 * wd q + 1) = 2 * sumN (l.map wd) + l.length := by
 induction l with
 | nil => rfl
 | cons a l ih =>
  show 2 * wd a + 1 + sumN (l.map fun q => 2 * wd q + 1) = 2 * (wd a + sumN (l.map wd)) + (l.length + 1)
  omega
end
section
structure Wn where
 a : Addr
 q : Nat × Nat × Nat × Nat
structure Bk where
 a : Addr
 b : Nat × Nat × Nat
def refsQ (l : List Wn) : List Value := l.map fun e => .ref e.a
def refsB (l : List Bk) : List Value := l.map fun e => .ref e.a
def QOk (X : List (Addr × Obj)) (Qs : List Wn) : Prop := ∀ e ∈ Qs, ∃ t1 t2 t3 t4, (e.a, tupO [.int e.q.1 t1, .int e.q.2.1 t2, .int e.q.2.2.1 t3, .int e.q.2.2.2 t4]) ∈ X
def BOk (X : List (Addr × Obj)) (Bs : List Bk) : Prop := ∀ e ∈ Bs, (∃ dd t1 t2 t3, (e.a, moO dd [.int e.b.1 t1, .int e.b.2.1 t2, .int e.b.2.2 t3]) ∈ X) ∧ 0 < e.b.2.2
theorem QOk.mono {X X' : List (Addr × Obj)} {Qs : List Wn} (h : QOk X Qs) (hs : ∀ p ∈ X, p ∈ X') : QOk X' Qs := fun e he => let ⟨a, b, c, d, m⟩ := h e he; ⟨a, b, c, d, hs _ m⟩
theorem BOk.mono {X X' : List (Addr × Obj)} {Bs : List Bk} (h : BOk X Bs) (hs : ∀ p ∈ X, p ∈ X') : BOk X' Bs := fun e he => let ⟨⟨a, b, c, d, m⟩, z⟩ := h e he; ⟨⟨a, b, c, d, hs _ m⟩, z⟩
abbrev ev231 (w : World) (L' : Addr) : Env := callEnv (fd231 w.params) L' 231
def whileBody : Stmt → List Stmt
 | .While _ b _ _ => b
 | _ => []
abbrev gmbW : List Stmt := whileBody (((fnBody (st2 pw 6 7))[5]?).getD default)
abbrev nmG (mbl q : Addr) (n m : Nat) (t1 t2 : Tok) (x : Addr) : List (Str × Value) := [(Str.ofString "matching_blocks", .ref mbl), (Str.ofString "queue", .ref q), (Str.ofString "la", .int n t1), (Str.ofString "lb", .int m t2), (Str.ofString "self", .ref x)]
section
variable {w : World} {A : Around} {E : Value → Shared → Prop} {s : Shared} {hb : Heap} {L' x dx q mbl d2 sj : Addr} {T X : List (Addr × Obj)} {od o2 : Obj} {va vb mb fc sp : Value} {la lb : List Str} {Ra Rb : List (Addr × Obj)} {led : Bool} {rows : List JRow} {n m nq nb : Nat} {t1 t2 : Tok} {Qs : List Wn} {Bs : List Bk} {e : Wn}
theorem gmb_turn (G : Gd (KN w.params) tabs hb) (hd : A.depth + 3 < recursionLimit) (hh : A.handled = none)
  (hx : (x, smO dx) ∈ T) (hdx : (dx, od) ∈ T) (hf : FlObj od (mf va vb mb fc (.ref d2) (.ref sj) sp))
  (hd2 : (d2, o2) ∈ T) (ho2 : o2.IsDictOf (PySem.strKind pw w) (rows.map JRow.kv)) (hrows : Rows2 lb rows) (hob : ∀ r ∈ rows, r.ob ∈ T) (hsj : (sj, setO led) ∈ T)
  (Va : SqV pw w hb tabs Ra va la) (Vb : SqV pw w hb tabs Rb vb lb) (hRa : ∀ p ∈ Ra, p ∈ T) (hRb : ∀ p ∈ Rb, p ∈ T)
  (S : St hb tabs L' (nmG mbl q n m t1 t2 x) ((q, lstO (refsQ (Qs ++ [e])) nq) :: (mbl, lstO (refsB Bs) nb) :: (X ++ T)) s.heap) (hQ : QOk X (Qs ++ [e])) (hB : BOk X Bs) (he : WinOk la lb e.q) (hlQ : Qs.length ≤ 1000) (hlB : Bs.length ≤ 1000) {Q : Flow → Shared → Prop}
  (k0 : (flm la lb e.q.1 e.q.2.1 e.q.2.2.1 e.q.2.2.2).2.2 = 0 → ∀ s' X' nq', Kp s s' → St hb tabs L' (nmG mbl q n m t1 t2 x) ((q, lstO (refsQ Qs) nq') :: (mbl, lstO (refsB Bs) nb) :: (X' ++ T)) s'.heap → QOk X' Qs → BOk X' Bs → Q .next s')
  (k1 : (flm la lb e.q.1 e.q.2.1 e.q.2.2.1 e.q.2.2.2).2.2 ≠ 0 → ∀ s' X' nq' nb' mm (ls rs : List Wn), Kp s s' → St hb tabs L' (nmG mbl q n m t1 t2 x) ((q, lstO (refsQ (Qs ++ ls ++ rs)) nq') :: (mbl, lstO (refsB (Bs ++ [⟨mm, flm la lb e.q.1 e.q.2.1 e.q.2.2.1 e.q.2.2.2⟩])) nb') :: (X' ++ T)) s'.heap →
   QOk X' (Qs ++ ls ++ rs) → BOk X' (Bs ++ [⟨mm, flm la lb e.q.1 e.q.2.1 e.q.2.2.1 e.q.2.2.2⟩]) → ls.map (·.q) = lftW e.q (flm la lb e.q.1 e.q.2.1 e.q.2.2.1 e.q.2.2.2) → rs.map (·.q) = rgtW e.q (flm la lb e.q.1 e.q.2.1 e.q.2.2.1 e.q.2.2.2) → Q .next s') :
  wpAny (model pw w) (A.deeper (ev231 w L')) (execs gmbW (ev231 w L')) Q E s := by
 have hq0 := hQ e (List.mem_append_right _ (.head _))
 obtain ⟨u1, u2, u3, u4, hqm⟩ := hq0
 have er : refsQ (Qs ++ [e]) = refsQ Qs ++ [.ref e.a] := by simp [refsQ]
 rw [er] at S
 have toT : ∀ {p : Addr × Obj}, p ∈ T → p ∈ X ++ T := fun h => List.mem_append_right _ h
 refine q_tuple ?_
 refine m_call ?_
 refine r_local S m1 ?_
 refine r_lmeth S m0 PySem.F.slot_list_pop PySem.F.type_list_pop ?_
 refine cw_builtin ?_
 refine args_nil ?_
 refine r_pop 0 S rfl (by simp [refsQ]; omega) ?_
 intro h₂ nq' S₂
 refine as_tuple hh S₂ (.tail _ (.tail _ (List.mem_append_left _ hqm))) ?_
 intro h₃ S₃
 refine as_each ?_
 refine r_store S₃ (.new (by kernel_rfl)) ?_
 intro h₄ S₄
 refine as_each ?_
 refine r_store S₄ (.new (by kernel_rfl)) ?_
 intro h₅ S₅
 refine as_each ?_
 refine r_store S₅ (.new (by kernel_rfl)) ?_
 intro h₆ S₆
 refine as_each ?_
 refine r_store S₆ (.new (by kernel_rfl)) ?_
 intro h₇ S₇
 refine as_none ?_
 refine restate (by exact S₇) fun s₇ K₇ S₇ => ?_
 replace K₇ : Kp s s₇ := ⟨K₇.os, K₇.gens⟩
 refine q_two ?_
 refine m_call ?_
 refine r_local S₇ m8 ?_
 refine r_meth (f := 224) G S₇ (.tail _ (.tail _ (toT hx))) (.tail _ (.tail _ (toT hdx))) hf ?_
 refine cw_ref G ?_
 refine args_cons ?_
 refine r_local S₇ m3 ?_
 refine args_cons ?_
 refine r_local S₇ m2 ?_
 refine args_cons ?_
 refine r_local S₇ m1 ?_
 refine args_cons ?_
 refine r_local S₇ m0 ?_
 refine args_nil ?_
 refine ⟨⟨_, _, _, S₇⟩, ?_⟩
 refine flm_c G (by exact S₇) (by show A.depth + 1 + 2 < _; omega) hh (.tail _ (.tail _ (toT hx))) (.tail _ (.tail _ (toT hdx))) hf (.tail _ (.tail _ (toT hd2))) ho2 hrows (fun r hr => .tail _ (.tail _ (toT (hob r hr)))) (.tail _ (.tail _ (toT hsj))) Va Vb (fun p hp => .tail _ (.tail _ (toT (hRa p hp)))) (fun p hp => .tail _ (.tail _ (toT (hRb p hp)))) he.a1 he.a2 he.b1 he.b2 ?_
 intro mm dd s₈ v1 v2 v3 K₈ S₈
 refine as_match hh G S₈ m0 ?_
 intro h₉ S₉
 refine as_each ?_
 refine r_store S₉ (.new (by kernel_rfl)) ?_
 intro h₁₀ S₁₀
 refine as_each ?_
 refine r_store S₁₀ (.new (by kernel_rfl)) ?_
 intro h₁₁ S₁₁
 refine as_each ?_
 refine r_store S₁₁ (.new (by kernel_rfl)) ?_
 intro h₁₂ S₁₂
 refine as_none ?_
 refine as_name ?_
 refine r_store S₁₂ (.new (by kernel_rfl)) ?_
 intro h₁₃ S₁₃
 have B := flm_best la lb e.q.1 e.q.2.1 e.q.2.2.1 e.q.2.2.2
 refine restate (by exact S₁₃) fun s₁₃ K₁₃ S₁₃ => ?_
 replace K₁₃ : Kp s s₁₃ := ⟨K₁₃.os.trans (K₈.os.trans K₇.os), fun z => K₁₃.gens (K₈.gens (K₇.gens z))⟩
 clear S₁₂ S₁₁ S₁₀ S₉ S₈ S₇ S₆ S₅ S₄ S₃ S₂
 generalize flm la lb e.q.1 e.q.2.1 e.q.2.2.1 e.q.2.2.2 = b at *
 have hB0 : QOk X Qs := fun e he => hQ e (List.mem_append_left _ he)
 have blo := B.lo
 refine q_if ?_
 refine isTrue_plain ?_
 refine r_local S₁₃ m1 ?_
 refine truthy_int ⟨fun hk => ?_, fun hk => ?_⟩
 ·have hk : b.2.2 ≠ 0 := fun q => by rw [q] at hk; exact absurd hk (by decide)
  refine q_expr ?_
  refine m_call ?_
  refine r_local S₁₃ m8 ?_
  refine r_lmeth S₁₃ m2 PySem.F.slot_list_append type_list_append ?_
  refine cw_builtin ?_
  refine args_cons ?_
  refine r_local S₁₃ m0 ?_
  refine args_nil ?_
  refine r_append 2 S₁₃ rfl ?_ (by simp [refsB]; omega)
  intro h₁₄ S₁₄
  replace S₁₄ := S₁₄.perm (T' := (q, lstO (refsQ Qs) nq') :: (mbl, lstO (refsB (Bs ++ [⟨mm, b⟩])) (nb + 1)) :: (((mm, moO dd [.int b.1 v1, .int b.2.1 v2, .int b.2.2 v3]) :: X) ++ T)) (by
   have e1 : refsB (Bs ++ [⟨mm, b⟩]) = refsB Bs ++ [.ref mm] := by simp [refsB]
   rw [e1]
   exact (List.perm_append_comm (l₁ := [(mm, moO dd [.int b.1 v1, .int b.2.1 v2, .int b.2.2 v3])]) (l₂ := [(q, lstO (refsQ Qs) nq'), (mbl, lstO (refsB Bs ++ [.ref mm]) (nb + 1))])).append_right (X ++ T))
  have hX : ∀ p ∈ X, p ∈ (mm, moO dd [.int b.1 v1, .int b.2.1 v2, .int b.2.2 v3]) :: X := fun p hp => .tail _ hp
  have hBn : BOk ((mm, moO dd [.int b.1 v1, .int b.2.1 v2, .int b.2.2 v3]) :: X) (Bs ++ [⟨mm, b⟩]) := fun e' he' => by
   rcases List.mem_append.mp he' with z | z
   ·exact (hB.mono hX) e' z
   ·rw [List.mem_singleton] at z
    subst z
    exact ⟨⟨dd, v1, v2, v3, .head _⟩, by show 0 < b.2.2; omega⟩
  have hQn := hB0.mono hX
  generalize hX0 : (mm, moO dd [.int b.1 v1, .int b.2.1 v2, .int b.2.2 v3]) :: X = X₀ at *
  refine restate (by exact S₁₄) fun s₁₄ K₁₄ S₁₄ => ?_
  replace K₁₄ : Kp s s₁₄ := ⟨K₁₄.os.trans K₁₃.os, fun z => K₁₄.gens (K₁₃.gens z)⟩
  refine q_ifP (fun s₂ => ∃ X' nq'' ls, Kp s s₂ ∧ St hb tabs L' ((Str.ofString "x", .ref mm) :: (Str.ofString "k", .int b.2.2 v3) :: (Str.ofString "j", .int b.2.1 v2) :: (Str.ofString "i", .int b.1 v1) :: (Str.ofString "bhi", .int e.q.2.2.2 u4) :: (Str.ofString "blo", .int e.q.2.2.1 u3) :: (Str.ofString "ahi", .int e.q.2.1 u2) :: (Str.ofString "alo", .int e.q.1 u1) :: nmG mbl q n m t1 t2 x)
   ((q, lstO (refsQ (Qs ++ ls)) nq'') :: (mbl, lstO (refsB (Bs ++ [⟨mm, b⟩])) (nb + 1)) :: (X' ++ T)) s₂.heap ∧ (∀ p ∈ X₀, p ∈ X') ∧ QOk X' (Qs ++ ls) ∧ ls.map (·.q) = lftW e.q b) ?_ ?_
  ·have no : ¬ (e.q.1 < b.1 ∧ e.q.2.2.1 < b.2.1) → ∃ X' nq'' ls, Kp s s₁₄ ∧ St hb tabs L' ((Str.ofString "x", .ref mm) :: (Str.ofString "k", .int b.2.2 v3) :: (Str.ofString "j", .int b.2.1 v2) :: (Str.ofString "i", .int b.1 v1) :: (Str.ofString "bhi", .int e.q.2.2.2 u4) :: (Str.ofString "blo", .int e.q.2.2.1 u3) :: (Str.ofString "ahi", .int e.q.2.1 u2) :: (Str.ofString "alo", .int e.q.1 u1) :: nmG mbl q n m t1 t2 x)
     ((q, lstO (refsQ (Qs ++ ls)) nq'') :: (mbl, lstO (refsB (Bs ++ [⟨mm, b⟩])) (nb + 1)) :: (X' ++ T)) s₁₄.heap ∧ (∀ p ∈ X₀, p ∈ X') ∧ QOk X' (Qs ++ ls) ∧ ls.map (·.q) = lftW e.q b := fun hn =>
    ⟨X₀, nq', [], K₁₄, by rw [List.append_nil]; exact S₁₄, fun p hp => hp, by rw [List.append_nil]; exact hQn, by unfold lftW; rw [if_neg hn]; rfl⟩
   refine r_and ?_
   refine wpAny_isTrue_Compare1 ?_
   refine r_local S₁₄ m7 ?_
   refine r_local S₁₄ m3 ?_
   refine lt_int ?_
   refine wpAny_truthy_bool ⟨fun hb' => ?_, fun hb' => ⟨nofun, fun _ => ?_⟩⟩
   ·have c1 := of_decide_eq_true hb'
    refine r_and ?_
    refine wpAny_isTrue_Compare1 ?_
    refine r_local S₁₄ m5 ?_
    refine r_local S₁₄ m2 ?_
    refine lt_int ?_
    refine wpAny_truthy_bool ⟨fun hb' => ?_, fun hb' => ⟨nofun, fun _ => ?_⟩⟩
    ·have c2 := of_decide_eq_true hb'
     refine isTrue_and_nil ⟨fun _ => ?_, nofun⟩
     refine q_expr ?_
     refine m_call ?_
     refine r_local S₁₄ m9 ?_
     refine r_lmeth S₁₄ m0 PySem.F.slot_list_append type_list_append ?_
     refine cw_builtin ?_
     refine args_cons ?_
     refine r_tuple ?_
     refine args_cons ?_
     refine r_local S₁₄ m7 ?_
     refine args_cons ?_
     refine r_local S₁₄ m3 ?_
     refine args_cons ?_
     refine r_local S₁₄ m5 ?_
     refine args_cons ?_
     refine r_local S₁₄ m2 ?_
     refine args_nil ?_
     refine ⟨rfl, _, _, _, _, _, S₁₄, ?_⟩
     intro tt h₁₅ S₁₅
     refine args_nil ?_
     refine r_append 1 S₁₅ rfl ?_ (by simp [refsQ]; omega)
     intro h₁₆ S₁₆
     refine q_nil ?_
     refine ⟨rfl, (tt, tupO [.int e.q.1 u1, .int b.1 v1, .int e.q.2.2.1 u3, .int b.2.1 v2]) :: X₀, nq' + 1, [⟨tt, (e.q.1, b.1, e.q.2.2.1, b.2.1)⟩], ⟨K₁₄.os, K₁₄.gens⟩, ?_, fun p hp => .tail _ hp, ?_, ?_⟩
     ·refine S₁₆.perm ?_
      have e1 : refsQ (Qs ++ [⟨tt, (e.q.1, b.1, e.q.2.2.1, b.2.1)⟩]) = refsQ Qs ++ [.ref tt] := by simp [refsQ]
      rw [e1]
      exact (List.perm_append_comm (l₁ := [(tt, tupO [.int e.q.1 u1, .int b.1 v1, .int e.q.2.2.1 u3, .int b.2.1 v2])]) (l₂ := [(q, lstO (refsQ Qs ++ [.ref tt]) (nq' + 1)), (mbl, lstO (refsB (Bs ++ [⟨mm, b⟩])) (nb + 1))])).append_right (X₀ ++ T)
     ·intro e' he'
      rcases List.mem_append.mp he' with z | z
      ·exact (hQn.mono fun p hp => .tail _ hp) e' z
      ·rw [List.mem_singleton] at z
       subst z
       exact ⟨_, _, _, _, .head _⟩
     ·unfold lftW
      rw [if_pos ⟨by omega, by omega⟩]; rfl
    ·have c2 := of_decide_eq_false hb'
     refine q_nil ?_
     exact ⟨rfl, no (by omega)⟩
   ·have c1 := of_decide_eq_false hb'
    refine q_nil ?_
    exact ⟨rfl, no (by omega)⟩
  ·rintro s₁₅ ⟨X', nq'', ls, K₁₅, S₁₅, hX', hQ', hls⟩
   have hB' := hBn.mono hX'
   have hll : ls.length ≤ 1 := by
    have := congrArg List.length hls
    rw [List.length_map] at this
    rw [this]
    unfold lftW
    split <;> simp
   refine q_ifP (fun s₂ => ∃ X'' nq'' rs, Kp s s₂ ∧ St hb tabs L' ((Str.ofString "x", .ref mm) :: (Str.ofString "k", .int b.2.2 v3) :: (Str.ofString "j", .int b.2.1 v2) :: (Str.ofString "i", .int b.1 v1) :: (Str.ofString "bhi", .int e.q.2.2.2 u4) :: (Str.ofString "blo", .int e.q.2.2.1 u3) :: (Str.ofString "ahi", .int e.q.2.1 u2) :: (Str.ofString "alo", .int e.q.1 u1) :: nmG mbl q n m t1 t2 x)
    ((q, lstO (refsQ (Qs ++ ls ++ rs)) nq'') :: (mbl, lstO (refsB (Bs ++ [⟨mm, b⟩])) (nb + 1)) :: (X'' ++ T)) s₂.heap ∧ (∀ p ∈ X', p ∈ X'') ∧ QOk X'' (Qs ++ ls ++ rs) ∧ rs.map (·.q) = rgtW e.q b) ?_ ?_
   ·have no : ¬ (b.1 + b.2.2 < e.q.2.1 ∧ b.2.1 + b.2.2 < e.q.2.2.2) → ∀ tk, ∃ X'' nq'' rs, Kp s { s₁₅ with toks := tk } ∧ St hb tabs L' ((Str.ofString "x", .ref mm) :: (Str.ofString "k", .int b.2.2 v3) :: (Str.ofString "j", .int b.2.1 v2) :: (Str.ofString "i", .int b.1 v1) :: (Str.ofString "bhi", .int e.q.2.2.2 u4) :: (Str.ofString "blo", .int e.q.2.2.1 u3) :: (Str.ofString "ahi", .int e.q.2.1 u2) :: (Str.ofString "alo", .int e.q.1 u1) :: nmG mbl q n m t1 t2 x)
      ((q, lstO (refsQ (Qs ++ ls ++ rs)) nq'') :: (mbl, lstO (refsB (Bs ++ [⟨mm, b⟩])) (nb + 1)) :: (X'' ++ T)) s₁₅.heap ∧ (∀ p ∈ X', p ∈ X'') ∧ QOk X'' (Qs ++ ls ++ rs) ∧ rs.map (·.q) = rgtW e.q b := fun hn tk =>
     ⟨X', nq'', [], ⟨K₁₅.os, K₁₅.gens⟩, by rw [List.append_nil]; exact S₁₅, fun p hp => hp, by rw [List.append_nil]; exact hQ', by unfold rgtW; rw [if_neg hn]; rfl⟩
    refine r_and ?_
    refine wpAny_isTrue_Compare1 ?_
    refine wpAny_BinOp ?_
    refine r_local S₁₅ m3 ?_
    refine r_local S₁₅ m1 ?_
    refine add_int ?_
    refine r_local S₁₅ m6 ?_
    refine lt_int ?_
    refine wpAny_truthy_bool ⟨fun hb' => ?_, fun hb' => ⟨nofun, fun _ => ?_⟩⟩
    ·have c1 := of_decide_eq_true hb'
     refine r_and ?_
     refine wpAny_isTrue_Compare1 ?_
     refine wpAny_BinOp ?_
     refine r_local S₁₅ m2 ?_
     refine r_local S₁₅ m1 ?_
     refine add_int ?_
     refine r_local S₁₅ m4 ?_
     refine lt_int ?_
     refine wpAny_truthy_bool ⟨fun hb' => ?_, fun hb' => ⟨nofun, fun _ => ?_⟩⟩
     ·have c2 := of_decide_eq_true hb'
      refine isTrue_and_nil ⟨fun _ => ?_, nofun⟩
      have ea : ((b.1 : Int) + (b.2.2 : Int)) = ((b.1 + b.2.2 : Nat) : Int) := by omega
      have eb : ((b.2.1 : Int) + (b.2.2 : Int)) = ((b.2.1 + b.2.2 : Nat) : Int) := by omega
      refine q_expr ?_
      refine m_call ?_
      refine r_local S₁₅ m9 ?_
      refine r_lmeth S₁₅ m0 PySem.F.slot_list_append type_list_append ?_
      refine cw_builtin ?_
      refine args_cons ?_
      refine r_tuple ?_
      refine args_cons ?_
      refine wpAny_BinOp ?_
      refine r_local S₁₅ m3 ?_
      refine r_local S₁₅ m1 ?_
      refine add_int ?_
      rw [ea]
      refine args_cons ?_
      refine r_local S₁₅ m6 ?_
      refine args_cons ?_
      refine wpAny_BinOp ?_
      refine r_local S₁₅ m2 ?_
      refine r_local S₁₅ m1 ?_
      refine add_int ?_
      rw [eb]
      refine args_cons ?_
      refine r_local S₁₅ m4 ?_
      refine args_nil ?_
      refine ⟨rfl, _, _, _, _, _, S₁₅, ?_⟩
      intro tt h₁₆ S₁₆
      obtain ⟨w1, w2, S₁₆⟩ : ∃ w1 w2, St hb tabs L' _ ((tt, tupO [.int (b.1 + b.2.2 : Nat) w1, .int e.q.2.1 u2, .int (b.2.1 + b.2.2 : Nat) w2, .int e.q.2.2.2 u4]) :: (q, lstO (refsQ (Qs ++ ls)) nq'') :: (mbl, lstO (refsB (Bs ++ [⟨mm, b⟩])) (nb + 1)) :: (X' ++ T)) h₁₆ := ⟨_, _, S₁₆⟩
      refine args_nil ?_
      refine r_append 1 S₁₆ rfl ?_ (by simp [refsQ]; omega)
      intro h₁₇ S₁₇
      refine q_nil ?_
      refine ⟨rfl, (tt, tupO [.int (b.1 + b.2.2 : Nat) w1, .int e.q.2.1 u2, .int (b.2.1 + b.2.2 : Nat) w2, .int e.q.2.2.2 u4]) :: X', nq'' + 1, [⟨tt, (b.1 + b.2.2, e.q.2.1, b.2.1 + b.2.2, e.q.2.2.2)⟩], ⟨K₁₅.os, K₁₅.gens⟩, ?_, fun p hp => .tail _ hp, ?_, ?_⟩
      ·refine S₁₇.perm ?_
       have e1 : refsQ (Qs ++ ls ++ [⟨tt, (b.1 + b.2.2, e.q.2.1, b.2.1 + b.2.2, e.q.2.2.2)⟩]) = refsQ (Qs ++ ls) ++ [.ref tt] := by simp [refsQ]
       rw [e1]
       exact (List.perm_append_comm (l₁ := [(tt, tupO [.int (b.1 + b.2.2 : Nat) w1, .int e.q.2.1 u2, .int (b.2.1 + b.2.2 : Nat) w2, .int e.q.2.2.2 u4])]) (l₂ := [(q, lstO (refsQ (Qs ++ ls) ++ [.ref tt]) (nq'' + 1)), (mbl, lstO (refsB (Bs ++ [⟨mm, b⟩])) (nb + 1))])).append_right (X' ++ T)
      ·intro e' he'
       rcases List.mem_append.mp he' with z | z
       ·exact (hQ'.mono fun p hp => .tail _ hp) e' z
       ·rw [List.mem_singleton] at z
        subst z
        exact ⟨_, _, _, _, .head _⟩
      ·unfold rgtW
       rw [if_pos ⟨by omega, by omega⟩]; rfl
     ·have c2 := of_decide_eq_false hb'
      refine q_nil ?_
      exact ⟨rfl, no (by omega) _⟩
    ·have c1 := of_decide_eq_false hb'
     refine q_nil ?_
     exact ⟨rfl, no (by omega) _⟩
   ·rintro s₁₆ ⟨X'', nq3, rs, K₁₆, S₁₆, hX'', hQ'', hrs⟩
    refine q_nil ?_
    refine q_nil ?_
    refine k1 hk s₁₆ X'' nq3 (nb + 1) mm ls rs K₁₆ ?_ hQ'' (hB'.mono hX'') hls hrs
    exact S₁₆.forget (.cons _ (.cons _ (.cons _ (.cons _ (.cons _ (.cons _ (.cons _ (.cons _ (List.Sublist.refl _)))))))))
 ·have hk : b.2.2 = 0 := by simpa using hk
  refine q_nil ?_
  refine q_nil ?_
  refine k0 hk s₁₃ ((mm, moO dd [.int b.1 v1, .int b.2.1 v2, .int b.2.2 v3]) :: X) nq' K₁₃ ?_ (hB0.mono fun p hp => .tail _ hp) (hB.mono fun p hp => .tail _ hp)
  refine (S₁₃.forget (.cons _ (.cons _ (.cons _ (.cons _ (.cons _ (.cons _ (.cons _ (.cons _ (List.Sublist.refl _)))))))))).perm ?_
  exact (List.perm_append_comm (l₁ := [(mm, moO dd [.int b.1 v1, .int b.2.1 v2, .int b.2.2 v3])]) (l₂ := [(q, lstO (refsQ Qs) nq'), (mbl, lstO (refsB Bs) nb)])).append_right (X ++ T)
end
end
section
def sumB (Bs : List Bk) : Nat := sumN (Bs.map fun e => e.b.2.2)
def qs (Qs : List Wn) : List (Nat × Nat × Nat × Nat) := Qs.map (·.q)
section
variable {w : World} {A : Around} {E : Value → Shared → Prop} {s : Shared} {hb : Heap} {L' x dx q mbl d2 sj : Addr} {T X : List (Addr × Obj)} {od o2 : Obj} {va vb mb fc sp : Value} {la lb : List Str} {Ra Rb : List (Addr × Obj)} {led : Bool} {rows : List JRow} {n m nq nb M : Nat} {t1 t2 : Tok} {Qs : List Wn} {Bs : List Bk} {e : Wn}
theorem gmb_while (G : Gd (KN w.params) tabs hb) (hd : A.depth + 3 < recursionLimit) (hh : A.handled = none)
    (hx : (x, smO dx) ∈ T) (hdx : (dx, od) ∈ T) (hf : FlObj od (mf va vb mb fc (.ref d2) (.ref sj) sp))
    (hd2 : (d2, o2) ∈ T) (ho2 : o2.IsDictOf (PySem.strKind pw w) (rows.map JRow.kv)) (hrows : Rows2 lb rows) (hob : ∀ r ∈ rows, r.ob ∈ T) (hsj : (sj, setO led) ∈ T)
    (Va : SqV pw w hb tabs Ra va la) (Vb : SqV pw w hb tabs Rb vb lb) (hRa : ∀ p ∈ Ra, p ∈ T) (hRb : ∀ p ∈ Rb, p ∈ T)
    (S : St hb tabs L' (nmG mbl q n m t1 t2 x) ((q, lstO (refsQ [e]) nq) :: (mbl, lstO (refsB []) nb) :: (X ++ T)) s.heap) (hQ : QOk X [e]) (he : WinOk la lb e.q) {Q : Flow → Shared → Prop}
    (k : ∀ s' X' Bs' nq' nb', Kp s s' → St hb tabs L' (nmG mbl q n m t1 t2 x) ((q, lstO [] nq') :: (mbl, lstO (refsB Bs') nb') :: (X' ++ T)) s'.heap → BOk X' Bs' → sumB Bs' = mt la lb e.q → Bs'.length ≤ la.length →
      wpAny (model pw w) (A.deeper (ev231 w L')) (execs ((fnBody (st2 pw 6 7)).drop 6) (ev231 w L')) Q E s') :
    wpAny (model pw w) (A.deeper (ev231 w L')) (execs ((fnBody (st2 pw 6 7)).drop 5) (ev231 w L')) Q E s := by
  have hsa := Va.small
  refine q_while (fun s' => ∃ X' Bs' nq' nb', Kp s s' ∧ St hb tabs L' (nmG mbl q n m t1 t2 x) ((q, lstO [] nq') :: (mbl, lstO (refsB Bs') nb') :: (X' ++ T)) s'.heap ∧ BOk X' Bs' ∧ sumB Bs' = mt la lb e.q ∧ Bs'.length ≤ la.length)
    (fun N s' => ∃ Qs Bs X nq nb, N = sumN ((qs Qs).map fun q => 2 * wd q + 1) ∧ Kp s s' ∧ St hb tabs L' (nmG mbl q n m t1 t2 x) ((q, lstO (refsQ Qs) nq) :: (mbl, lstO (refsB Bs) nb) :: (X ++ T)) s'.heap ∧ QOk X Qs ∧ BOk X Bs ∧ (∀ p ∈ qs Qs, WinOk la lb p) ∧
      sumB Bs + sumN ((qs Qs).map (mt la lb)) = mt la lb e.q ∧ sumB Bs + sumN ((qs Qs).map wd) ≤ la.length ∧ ((∀ p ∈ qs Qs, 1 ≤ wd p) ∨ Qs.length ≤ 1))
    _ ⟨[e], [], X, nq, nb, rfl, ⟨rfl, id⟩, S, hQ, fun e he => (by cases he), fun p hp => ?_, ?_, ?_, .inr (Nat.le_refl _)⟩ ?_ ?_
  · rw [show p = e.q by simpa [qs] using hp]; exact he
  · show 0 + (mt la lb e.q + 0) = _; omega
  · show 0 + (wd e.q + 0) ≤ _
    have := he.a2
    unfold wd; omega
  · rintro E' N s' ⟨Qs, Bs, X, nq, nb, rfl, hKp, S, hQ, hB, hW, hM, hL, hlen⟩
    have hBl : Bs.length ≤ sumB Bs := sumN_ge (fun e : Bk => e.b.2.2) Bs fun b hb' => (hB b hb').2
    have hQl : Qs.length ≤ 61 := by
      rcases hlen with q | q
      · have := sumN_ge wd (qs Qs) q
        have e2 : (qs Qs).length = Qs.length := by simp [qs]
        omega
      · omega
    refine isTrue_plain ?_
    refine r_local S m1 ?_
    refine r_truthL S m0 (by simp [refsQ]; omega) fun tk => ⟨fun hb' => ?_, fun hb' => ?_⟩
    · have hne : Qs ≠ [] := fun q => by rw [q] at hb'; exact absurd hb' (by decide)
      obtain ⟨Qs', e', rfl⟩ : ∃ Qs' e', Qs = Qs' ++ [e'] := ⟨Qs.dropLast, Qs.getLast hne, (List.dropLast_concat_getLast hne).symm⟩
      have eq : qs (Qs' ++ [e']) = qs Qs' ++ [e'.q] := by simp [qs]
      rw [eq] at hW hM hL hlen
      have hWe := hW e'.q (List.mem_append_right _ (.head _))
      rw [List.map_append, sumN_append] at hM hL
      have e1 : sumN ([e'.q].map (mt la lb)) = mt la lb e'.q := rfl
      have e2 : sumN ([e'.q].map wd) = wd e'.q := rfl
      rw [e1] at hM
      rw [e2] at hL
      simp only [List.length_append, List.length_singleton] at hQl
      refine gmb_turn (X := X) G hd hh hx hdx hf hd2 ho2 hrows hob hsj Va Vb hRa hRb (by exact S) hQ hB hWe (by omega) (by omega) ?_ ?_
      · intro hz s₂ X' nq' K₂ S₂ hQ₂ hB₂
        refine ⟨_, ?_, Qs', Bs, X', nq', nb, rfl, ⟨K₂.os.trans hKp.os, fun z => K₂.gens (hKp.gens z)⟩, S₂, hQ₂, hB₂, fun p hp => hW p (List.mem_append_left _ hp), ?_, by omega, ?_⟩
        · rw [eq, List.map_append, sumN_append]
          show _ < _ + (2 * wd e'.q + 1 + 0)
          omega
        · rw [mt_zero hz] at hM; omega
        · rcases hlen with q | q
          · exact .inl fun p hp => q p (List.mem_append_left _ hp)
          · right
            have : Qs' = [] := by simpa using q
            rw [this]; simp
      · intro hz s₂ X' nq' nb' mm ls rs K₂ S₂ hQ₂ hB₂ hls hrs
        obtain ⟨hs1, hs2, hs3⟩ := side_ok hWe hz
        have hst := mt_step hWe hz
        have eq2 : qs (Qs' ++ ls ++ rs) = qs Qs' ++ lftW e'.q (flm la lb e'.q.1 e'.q.2.1 e'.q.2.2.1 e'.q.2.2.2) ++ rgtW e'.q (flm la lb e'.q.1 e'.q.2.1 e'.q.2.2.1 e'.q.2.2.2) := by
          rw [← hls, ← hrs]; simp [qs]
        have hsB : sumB (Bs ++ [⟨mm, flm la lb e'.q.1 e'.q.2.1 e'.q.2.2.1 e'.q.2.2.2⟩]) = sumB Bs + (flm la lb e'.q.1 e'.q.2.1 e'.q.2.2.1 e'.q.2.2.2).2.2 := by
          unfold sumB; rw [List.map_append, sumN_append]; rfl
        refine ⟨_, ?_, Qs' ++ ls ++ rs, _, X', nq', nb', rfl, ⟨K₂.os.trans hKp.os, fun z => K₂.gens (hKp.gens z)⟩, S₂, hQ₂, hB₂, fun p hp => ?_, ?_, ?_, ?_⟩
        · have hl1 : ls.length ≤ 1 := by
            have := congrArg List.length hls
            rw [List.length_map] at this
            rw [this]; unfold lftW; split <;> simp
          have hr1 : rs.length ≤ 1 := by
            have := congrArg List.length hrs
            rw [List.length_map] at this
            rw [this]; unfold rgtW; split <;> simp
          rw [eq, sumN_two, sumN_two, eq2, List.map_append, List.map_append, List.map_append, sumN_append, sumN_append, sumN_append, e2]
          have hl2 := congrArg List.length hls
          have hr2 := congrArg List.length hrs
          rw [List.length_map] at hl2 hr2
          simp only [List.length_append, List.length_singleton]
          omega
        · rw [eq2] at hp
          rcases List.mem_append.mp hp with z | z
          · rcases List.mem_append.mp z with z | z
            · exact hW p (List.mem_append_left _ z)
            · exact hs1 p z
          · exact hs2 p z
        · rw [hsB, eq2, List.map_append, List.map_append, sumN_append, sumN_append]; omega
        · rw [hsB, eq2, List.map_append, List.map_append, sumN_append, sumN_append]; omega
        · left
          intro p hp
          rw [eq2] at hp
          rcases List.mem_append.mp hp with z | z
          · rcases List.mem_append.mp z with z | z
            · rcases hlen with q | q
              · exact q p (List.mem_append_left _ z)
              · rw [List.length_append] at q
                have : Qs' = [] := by simpa using q
                rw [this] at z; cases z
            · exact lft_wd p z
          · exact rgt_wd p z
    · have hne : Qs = [] := by
        cases Qs with
        | nil => rfl
        | cons a l => exact absurd hb' (by simp [refsQ])
      subst hne
      refine ⟨X, Bs, nq, nb, ⟨hKp.os, hKp.gens⟩, S, hB, by have e0 : sumN ((qs []).map (mt la lb)) = 0 := rfl
                                                           omega, by omega⟩
  · rintro s' ⟨X', Bs', nq', nb', K', S', hB', hM, hl⟩
    exact k s' X' Bs' nq' nb' K' S' hB' hM hl
end
end
section
section
variable {w : World} {A : Around} {E : Value → Shared → Prop} {s : Shared} {hb : Heap} {L m dd t : Addr} {l : List (Str × Value)} {T : List (Addr × Obj)} {vs : List Value} {env : Env} {R : Result → Shared → Prop}
theorem mt_len (w : World) : findIn (KN w.params) (.ref 163) "__len__" = some (some (.builtin "tuple.__len__")) := by kernel_rfl
theorem mt_getitem (w : World) : findIn (KN w.params) (.ref 163) "__getitem__" = some (some (.builtin "tuple.__getitem__")) := by kernel_rfl
theorem tn_plain : plainId "tuple.__len__" = true := by decide +kernel
theorem tn_kind : builtinKind "tuple.__len__" = some .slot := by decide +kernel
theorem tn_split : splitId "tuple.__len__" = some ("tuple", "__len__") := by decide +kernel
theorem tg_plain : plainId "tuple.__getitem__" = true := by decide +kernel
theorem tg_kind : builtinKind "tuple.__getitem__" = some .slot := by decide +kernel
theorem tg_split : splitId "tuple.__getitem__" = some ("tuple", "__getitem__") := by decide +kernel
theorem mt_make : findCls (KN w.params) (.ref 163) (.type "type") (Str.ofString "_make") = some (.get (.builtin "classmethod.__get__") (.ref 119) .none (.ref 163)) := by kernel_rfl
theorem rec119 : recIn (KN w.params) 119 "classmethod" = some [.ref 117, .bool false] := by kernel_rfl
theorem r_make {Q : Value → Shared → Prop} (G : Gd (KN w.params) tabs hb) (S : St hb tabs L l T s.heap) (h : ∀ u h', St hb tabs L l ((u, methodObj (.ref 117) (.ref 163)) :: T) h' → Q (.ref u) { s with heap := h', toks := s.toks + 1 }) :
  wpAny (model pw w) A (getAttr (.ref 163) (Str.ofString "_make") true) Q E s := by
 have X := S.kin G
 refine cls_bind X mt_cls mt_make (wpAny_call (cm_get (s := { s with toks := s.toks + 1 }) X rec119 ?_))
 exact handed_on rfl (h _ _ (S.push _))
theorem len_match {Q : Value → Shared → Prop} (G : Gd (KN w.params) tabs hb) (S : St hb tabs L l T s.heap) (hm : (m, moO dd vs) ∈ T) (hz : vs.length ≤ 1000) (h : ∀ t tk, Q (.int vs.length t) { s with toks := tk }) :
  wpAny (model pw w) A (call (.builtin "len") [.ref m]) Q E s := by
 have X := S.kin G
 have t1 : Looks (model pw w) s.heap (typeOf (.ref m)) (.ref 163) := (Looks.ld (S.obj _ hm)).andThen .now
 have t2 : Looks (model pw w) s.heap (isInstance (.ref m) (.type "tuple")) true := t1.andThen (mt_sub X)
 have t3 : Looks (model pw w) s.heap (specialOf (.ref m) "__len__") (some (.builtin "tuple.__len__")) := t1.andThen (looks_findIn X (mt_len w))
 refine Calls.call_function_entry kind_len plain_len entry_len (args_len1 _) ?_
 unfold Builtin.«len»
 refine wpAny_bind (m := oneArg "len" _) (wpAny_pure ?_)
 refine wpAny_bind (m := callSpecial? (.ref m) (Str.ofString "__len__")) ?_
 simp only [callSpecial?]
 refine wpAny_bind (t3.here (wpAny_holding ?_))
 rw [PySem.F.slot_tuple_len.bind]
 refine wpAny_bind (wpAny_pure ?_)
 refine wpAny_bind (wpAny_call (codeAny_call_builtin tn_plain PySem.F.entry_tuple_len (@check_slot (model pw w) _ _ _ "tuple.__len__" "tuple" "__len__" (.ref m) [] [] _ tn_kind tn_split t2 (PySem.F.args_tuple_len_1 _) ?_)))
 show wpAny _ _ (Builtin.Tuple.tupleItemsOf (.ref m) >>= _) _ _ s
 refine wpAny_bind (wpAny_bind (wpAny_seqItems (S.obj _ hm) rfl (wpAny_pure ?_)))
 refine wpAny_bind (wpAny_mkInt (wpAny_pure ?_))
 refine wpAny_pure ?_
 refine wpAny_bind (wpAny_holding (wpAny_pure ?_))
 refine wpAny_bind (wpAny_letGo ?_)
 have e : ((vs.toArray.size : Nat) : Int) = (vs.length : Int) := by rw [List.size_toArray]
 refine wpAny_ite_split (fun hab => absurd hab (by omega)) (fun _ => ?_)
 refine wpAny_ite_split (fun hab => absurd hab (by rw [e]; omega)) (fun _ => ?_)
 rw [e]
 exact wpAny_bind (wpAny_mkInt (wpAny_pure ⟨_, rfl, h _ _⟩))
theorem make_c {a b c : Value} (G : Gd (KN w.params) tabs hb) (S : St hb tabs L l T s.heap) (hd : A.depth < recursionLimit) (ht : (t, tupO [a, b, c]) ∈ T)
  (k : ∀ m dd s', Kp s s' → St hb tabs L l ((m, moO dd [a, b, c]) :: T) s'.heap → R (.ok (.ret (.ref m))) s') :
  codeAny (model pw w) A (.call (.ref 117) ⟨[.ref 163, .ref t], []⟩) R s := by
 refine c_def G S (lk117 _) (by omega) (binds := [(Str.ofString "cls", .ref 163), (Str.ofString "iterable", .ref t)]) (body := fnBody (st2 pw 4 5)) (BindsTo.of_eq (by kernel_rfl)) ?_
 intro L' h₁ oL r S'
 refine q_doc ?_
 refine q_assign ?_
 refine m_call ?_
 refine r_builtin G S' boot_tuple ?_
 refine g_tupnew (S'.kin G) ?_
 refine cw_builtin ?_
 refine args_cons ?_
 refine r_local S' m0 ?_
 refine args_cons ?_
 refine r_local S' m1 ?_
 refine args_nil ?_
 refine wpAny_call (c_tupnew G S' (.tail _ ht) (by simp) ?_)
 intro m dd h₃ S₃
 refine r_store S₃ (.new (by kernel_rfl)) ?_
 intro h₄ S₄
 refine q_if ?_
 refine wpAny_isTrue_Compare1 ?_
 refine r_call ?_
 refine r_builtin G S₄ boot_len ?_
 refine cw_builtin ?_
 refine args_cons ?_
 refine r_local S₄ m0 ?_
 refine args_nil ?_
 refine len_match G S₄ m0 (by simp) ?_
 intro t₁ tk₁
 refine wpAny_Constant_int ?_
 refine ne_int ?_
 refine wpAny_truthy_bool ⟨nofun, fun _ => ?_⟩
 refine q_nil ?_
 refine q_ret ?_
 refine r_local S₄ m0 ?_
 exact k _ _ _ ⟨rfl, id⟩ (S₄.leave 1 rfl r)
end
end
section
def NOk (X : List (Addr × Obj)) (Ns : List Bk) : Prop := ∀ e ∈ Ns, ∃ t1 t2 t3, (e.a, tupO [.int e.b.1 t1, .int e.b.2.1 t2, .int e.b.2.2 t3]) ∈ X
def MOk (X : List (Addr × Obj)) (Ms : List Bk) : Prop := ∀ e ∈ Ms, ∃ dd t1 t2 t3, (e.a, moO dd [.int e.b.1 t1, .int e.b.2.1 t2, .int e.b.2.2 t3]) ∈ X
theorem NOk.mono {X X' : List (Addr × Obj)} {Qs : List Bk} (h : NOk X Qs) (hs : ∀ p ∈ X, p ∈ X') : NOk X' Qs := fun e he => let ⟨a, b, c, m⟩ := h e he; ⟨a, b, c, hs _ m⟩
theorem MOk.mono {X X' : List (Addr × Obj)} {Qs : List Bk} (h : MOk X Qs) (hs : ∀ p ∈ X, p ∈ X') : MOk X' Qs := fun e he => let ⟨a, b, c, d, m⟩ := h e he; ⟨a, b, c, d, hs _ m⟩
theorem BOk.toM {X : List (Addr × Obj)} {Bs : List Bk} (h : BOk X Bs) : MOk X Bs := fun e he => (h e he).1
theorem sumB_snoc (l : List Bk) (e : Bk) : sumB (l ++ [e]) = sumB l + e.b.2.2 := by unfold sumB; rw [List.map_append, sumN_append]; rfl
theorem refsB_snoc (l : List Bk) (e : Bk) : refsB (l ++ [e]) = refsB l ++ [.ref e.a] := by simp [refsB]
theorem refsB_len (l : List Bk) : (refsB l).length = l.length := by simp [refsB]
abbrev nmM (na : Addr) (b : Nat × Nat × Nat) (ti tj tk : Tok) (l : List (Str × Value)) : List (Str × Value) := (Str.ofString "non_adjacent", .ref na) :: (Str.ofString "k1", .int b.2.2 tk) :: (Str.ofString "j1", .int b.2.1 tj) :: (Str.ofString "i1", .int b.1 ti) :: l
abbrev mergeB : List Stmt := forBody (((fnBody (st2 pw 6 7))[9]?).getD default)
section
variable {w : World} {A : Around} {E : Value → Shared → Prop} {s : Shared} {hb : Heap} {L' x dx q mbl na : Addr} {T X : List (Addr × Obj)} {la lb : List Str} {n m nn : Nat} {t1 t2 ti tj tk : Tok} {Ns : List Bk} {b : Nat × Nat × Nat} {e : Bk}
theorem merge_turn (G : Gd (KN w.params) tabs hb) (hh : A.handled = none)
  (S : St hb tabs L' (nmM na b ti tj tk (nmG mbl q n m t1 t2 x)) ((na, lstO (refsB Ns) nn) :: (X ++ T)) s.heap) (hN : NOk X Ns) (he : MOk T [e]) (hl : Ns.length ≤ 1000) {Q : Flow → Shared → Prop}
  (k : ∀ s' X' nn' Ns' b' ti tj tk, Kp s s' → St hb tabs L' (nmM na b' ti tj tk (nmG mbl q n m t1 t2 x)) ((na, lstO (refsB Ns') nn') :: (X' ++ T)) s'.heap → NOk X' Ns' → sumB Ns' + b'.2.2 = sumB Ns + b.2.2 + e.b.2.2 → Ns'.length ≤ Ns.length + 1 → Q .next s')
  {tgt : Expr} (htg : tgt = (match ((fnBody (st2 pw 6 7))[9]?).getD default with | .For t _ _ _ _ => t | _ => default)) :
  wpAny (model pw w) (A.deeper (ev231 w L')) (assign tgt (ev231 w L') (.ref e.a)) (fun _ s₂ => wpAny (model pw w) (A.deeper (ev231 w L')) (execs mergeB (ev231 w L')) Q E s₂) E s := by
 obtain ⟨dd, u1, u2, u3, hem⟩ := he e (.head _)
 subst htg
 refine as_match hh G S (.tail _ (List.mem_append_right _ hem)) ?_
 intro h₂ S₂
 refine as_each ?_
 refine r_store S₂ (.new (by kernel_rfl)) ?_
 intro h₃ S₃
 refine as_each ?_
 refine r_store S₃ (.new (by kernel_rfl)) ?_
 intro h₄ S₄
 refine as_each ?_
 refine r_store S₄ (.new (by kernel_rfl)) ?_
 intro h₅ S₅
 refine as_none ?_
 refine restate (by exact S₅) fun s₅ K₅ S₅ => ?_
 replace K₅ : Kp s s₅ := ⟨K₅.os, K₅.gens⟩
 have els : ∀ (s₆ : Shared) {Q' : Flow → Shared → Prop} {E' : Value → Shared → Prop}, Kp s s₆ → St hb tabs L' ((Str.ofString "k2", .int e.b.2.2 u3) :: (Str.ofString "j2", .int e.b.2.1 u2) :: (Str.ofString "i2", .int e.b.1 u1) :: nmM na b ti tj tk (nmG mbl q n m t1 t2 x)) ((na, lstO (refsB Ns) nn) :: (X ++ T)) s₆.heap →
   (∀ s', (∃ X' nn' Ns' b' ti tj tk, Kp s s' ∧ St hb tabs L' (nmM na b' ti tj tk (nmG mbl q n m t1 t2 x)) ((na, lstO (refsB Ns') nn') :: (X' ++ T)) s'.heap ∧ NOk X' Ns' ∧ sumB Ns' + b'.2.2 = sumB Ns + b.2.2 + e.b.2.2 ∧ Ns'.length ≤ Ns.length + 1) → Q' .next s') →
   wpAny (model pw w) (A.deeper (ev231 w L')) (execs ((fun s => match s with | .If _ _ o _ => o | _ => []) ((mergeB[0]?).getD default)) (ev231 w L')) Q' E' s₆ := by
  intro s₆ Q' E' K₆ S₆ hq
  refine q_ifP (fun s₇ => ∃ X' nn' Ns', Kp s s₇ ∧ St hb tabs L' ((Str.ofString "k2", .int e.b.2.2 u3) :: (Str.ofString "j2", .int e.b.2.1 u2) :: (Str.ofString "i2", .int e.b.1 u1) :: nmM na b ti tj tk (nmG mbl q n m t1 t2 x)) ((na, lstO (refsB Ns') nn') :: (X' ++ T)) s₇.heap ∧ NOk X' Ns' ∧ sumB Ns' = sumB Ns + b.2.2 ∧ Ns'.length ≤ Ns.length + 1) ?_ ?_
  ·refine isTrue_plain ?_
   refine r_local S₆ m4 ?_
   refine truthy_int ⟨fun hk => ?_, fun hk => ?_⟩
   ·refine q_expr ?_
    refine m_call ?_
    refine r_local S₆ m3 ?_
    refine r_lmeth S₆ m0 PySem.F.slot_list_append type_list_append ?_
    refine cw_builtin ?_
    refine args_cons ?_
    refine r_tuple ?_
    refine args_cons ?_
    refine r_local S₆ m6 ?_
    refine args_cons ?_
    refine r_local S₆ m5 ?_
    refine args_cons ?_
    refine r_local S₆ m4 ?_
    refine args_nil ?_
    refine ⟨rfl, _, _, _, _, _, S₆, ?_⟩
    intro tt h₇ S₇
    refine args_nil ?_
    refine r_append 1 S₇ rfl ?_ (by rw [refsB_len]; omega)
    intro h₈ S₈
    refine q_nil ?_
    refine ⟨rfl, (tt, tupO [.int b.1 ti, .int b.2.1 tj, .int b.2.2 tk]) :: X, nn + 1, Ns ++ [⟨tt, b⟩], ⟨K₆.os, K₆.gens⟩, ?_, ?_, sumB_snoc _ _, by simp⟩
    ·rw [refsB_snoc]
     refine S₈.perm ?_
     exact (List.perm_append_comm (l₁ := [(tt, tupO [.int b.1 ti, .int b.2.1 tj, .int b.2.2 tk])]) (l₂ := [(na, lstO (refsB Ns ++ [Value.ref tt]) (nn + 1))])).append_right (X ++ T)
    ·intro e' he'
     rcases List.mem_append.mp he' with z | z
     ·exact (hN.mono fun p hp => .tail _ hp) e' z
     ·rw [List.mem_singleton] at z
      subst z
      exact ⟨_, _, _, .head _⟩
   ·have hk0 : b.2.2 = 0 := by simpa using hk
    refine q_nil ?_
    exact ⟨rfl, X, nn, Ns, K₆, S₆, hN, by omega, by omega⟩
  ·rintro s₇ ⟨X', nn', Ns', K₇, S₇, hN', hs', hl'⟩
   refine q_swap [Str.ofString "i1", Str.ofString "j1", Str.ofString "k1"] ?_
   refine args_cons ?_
   refine r_local S₇ m2 ?_
   refine args_cons ?_
   refine r_local S₇ m1 ?_
   refine args_cons ?_
   refine r_local S₇ m0 ?_
   refine args_nil ?_
   refine ⟨rfl, rfl, hh, _, _, _, _, _, S₇, ?_⟩
   intro h₈ S₈
   refine as_cons ?_
   refine r_store S₈ (.old (.there (.there (.there (.there .here))))) ?_
   intro h₉ S₉
   refine as_cons ?_
   refine r_store S₉ (.old (.there (.there (.there (.there (.there .here)))))) ?_
   intro h₁₀ S₁₀
   refine as_cons ?_
   refine r_store S₁₀ (.old (.there (.there (.there (.there (.there (.there .here))))))) ?_
   intro h₁₁ S₁₁
   refine as_nil ?_
   refine q_nil ?_
   exact hq _ ⟨X', nn', Ns', e.b, u1, u2, u3, ⟨K₇.os, K₇.gens⟩, S₁₁.forget (.cons _ (.cons _ (.cons _ (List.Sublist.refl _)))), hN', by omega, hl'⟩
 refine q_if ?_
 refine r_and ?_
 refine wpAny_isTrue_Compare1 ?_
 refine wpAny_BinOp ?_
 refine r_local S₅ m6 ?_
 refine r_local S₅ m4 ?_
 refine add_int ?_
 refine r_local S₅ m2 ?_
 refine eq_int ?_
 refine wpAny_truthy_bool ⟨fun hb' => ?_, fun hb' => ⟨nofun, fun _ => ?_⟩⟩
 ·refine r_and ?_
  refine wpAny_isTrue_Compare1 ?_
  refine wpAny_BinOp ?_
  refine r_local S₅ m5 ?_
  refine r_local S₅ m4 ?_
  refine add_int ?_
  refine r_local S₅ m1 ?_
  refine eq_int ?_
  refine wpAny_truthy_bool ⟨fun hb' => ?_, fun hb' => ⟨nofun, fun _ => ?_⟩⟩
  ·refine isTrue_and_nil ⟨fun _ => ?_, nofun⟩
   refine q_aug ?_
   refine r_load S₅ m4 ?_
   refine r_local S₅ m0 ?_
   refine iadd_int ?_
   refine r_store S₅ (.old (.there (.there (.there (.there .here))))) ?_
   intro h₆ S₆
   refine q_nil ?_
   refine q_nil ?_
   have S₇ := S₆.forget (.cons _ (.cons _ (.cons _ (List.Sublist.refl _))))
   rw [← Int.natCast_add] at S₇
   exact k _ X nn Ns (b.1, b.2.1, b.2.2 + e.b.2.2) ti tj _ ⟨K₅.os, K₅.gens⟩ S₇ hN (by show sumB Ns + (b.2.2 + e.b.2.2) = _; omega) (by omega)
  ·refine els _ ⟨K₅.os, K₅.gens⟩ S₅ ?_
   rintro s' ⟨X', nn', Ns', b', ti', tj', tk', K', S', hN', hs', hl'⟩
   refine q_nil ?_
   exact k s' X' nn' Ns' b' ti' tj' tk' K' S' hN' hs' hl'
 ·refine els _ ⟨K₅.os, K₅.gens⟩ S₅ ?_
  rintro s' ⟨X', nn', Ns', b', ti', tj', tk', K', S', hN', hs', hl'⟩
  refine q_nil ?_
  exact k s' X' nn' Ns' b' ti' tj' tk' K' S' hN' hs' hl'
end
end
section
theorem range_getD {α : Type} (l : List α) (d : α) : (List.range l.length).map (fun i => l.getD i d) = l := by
 apply List.ext_getElem?
 intro i
 rw [List.getElem?_map]
 by_cases h : i < l.length
 ·rw [List.getElem?_range h]; simp [h]
 ·rw [List.getElem?_eq_none (by rw [List.length_range]; omega), List.getElem?_eq_none (by omega)]; rfl
theorem perm_of {α : Type} {l : List α} {d : α} {p : Array Nat} (hp : Pm l.length p) : (p.toList.map fun i => l.getD i d).Perm l := by
 have h := (Array.perm_iff_toList_perm.mp hp).map (fun i => l.getD i d)
 rw [List.toList_toArray, range_getD] at h
 exact h
theorem perm_refs {α : Type} (f : α → Value) {l : List α} {d : α} {v : Value} {p : Array Nat} (hp : Pm l.length p) : (p.toList.map fun i => (l.map f).getD i v) = (p.toList.map fun i => l.getD i d).map f := by
 rw [List.map_map]
 apply List.map_congr_left
 intro i hi
 have hlt : i < l.length := by
  have := (Array.perm_iff_toList_perm.mp hp).mem_iff.mp hi
  simpa using this
 simp [hlt]
theorem sumN_perm {l r : List Nat} (h : l.Perm r) : sumN l = sumN r := by
 induction h with
 | nil => rfl
 | cons a _ ih => show a + sumN _ = a + sumN _; rw [ih]
 | swap a b l => show b + (a + sumN l) = a + (b + sumN l); omega
 | trans _ _ ih1 ih2 => rw [ih1, ih2]
section
variable {w : World} {A : Around} {E : Value → Shared → Prop} {s : Shared} {hb : Heap} {L' x dx q mbl na u : Addr} {T X : List (Addr × Obj)} {la lb : List Str} {nb nn : Nat} {Bs Ns : List Bk} {oq : Obj} {l : List (Str × Value)}
theorem gmb_sort (G : Gd (KN w.params) tabs hb) (hu : A.units + 1 < cLine) (S : St hb tabs L' l ((q, oq) :: (mbl, lstO (refsB Bs) nb) :: T) s.heap) (hB : MOk T Bs) (h64 : Bs.length < 64) {Q : Value → Shared → Prop}
  (k : ∀ s' Bs' nb', Kp s s' → Bs'.Perm Bs → St hb tabs L' l ((q, oq) :: (mbl, lstO (refsB Bs') nb') :: T) s'.heap → Q .none s') : wpAny (model pw w) A (call (.builtin "list.sort") [.ref mbl]) Q E s := by
 by_cases h2 : 2 ≤ Bs.length
 ·refine r_sort (pre := [(q, oq)]) (post := T) (Tt := .ref 163) (H := False) (rk := fun _ => 0) S (by rw [refsB_len]; exact h2) (by rw [refsB_len]; exact h64) ?_ rfl (by kernel_rfl) ?_ ?_
  ·intro v hv
   obtain ⟨e, he, rfl⟩ := List.mem_map.mp hv
   obtain ⟨dd, t1, t2, t3, hm⟩ := hB e he
   exact ⟨e.a, _, rfl, List.mem_append_right _ hm, rfl⟩
  ·intro s' e1 K' S' i j hi hj C hC
   rw [refsB_len] at hi hj
   have gi : (refsB Bs).getD i .none = .ref (Bs[i]).a := by simp [refsB, hi]
   have gj : (refsB Bs).getD j .none = .ref (Bs[j]).a := by simp [refsB, hj]
   obtain ⟨dd, t1, t2, t3, hm⟩ := hB Bs[i] (List.getElem_mem hi)
   obtain ⟨dd', u1, u2, u3, hm'⟩ := hB Bs[j] (List.getElem_mem hj)
   rw [gi, gj]
   exact match_keylt hu G S' (List.mem_append_right _ (.tail _ hm)) (List.mem_append_right _ (.tail _ hm')) fun c tk => hC c tk fun h => h.elim
  ·intro s' n' p K' hp hs S'
   rw [refsB_len] at hp
   have e := perm_refs (fun e : Bk => Value.ref e.a) (d := ⟨0, (0, 0, 0)⟩) (v := Value.none) hp
   refine k s' _ n' K' (perm_of (d := ⟨0, (0, 0, 0)⟩) hp) ?_
   have e2 : (p.toList.map fun i => (refsB Bs).getD i .none) = refsB (p.toList.map fun i => Bs.getD i ⟨0, (0, 0, 0)⟩) := e
   rw [← e2]; exact S'
 ·refine r_sortShort 1 S rfl (by rw [refsB_len]; omega) fun h' n' S' => ?_
  exact k _ Bs n' ⟨rfl, id⟩ (List.Perm.refl _) S'
theorem gmb_map (G : Gd (KN w.params) tabs hb) (hd : A.depth < recursionLimit) (hh : A.handled = none) (S : St hb tabs L' l T s.heap) (hna : (na, lstO (refsB Ns) nn) ∈ T) (hN : NOk T Ns) (hl : Ns.length ≤ 1000) (hu : (u, methodObj (.ref 117) (.ref 163)) ∈ T) {Q : Value → Shared → Prop}
  (k : ∀ s' X lst Ms nb, Kp s s' → St hb tabs L' l ((lst, lstO (refsB Ms) nb) :: (X ++ T)) s'.heap → MOk X Ms → sumB Ms = sumB Ns → Ms.length = Ns.length → Q (.ref lst) s') :
  wpAny (model pw w) A (call (.type "map") [.ref u, .ref na]) (fun v s₁ => wpAny (model pw w) A (call (.type "list") [v]) Q E s₁) E s := by
 refine r_map S hna ?_
 intro mp t it h₂ S₂
 have S₃ : St hb tabs L' l (((mp, mapO t (.ref u)) :: (t, tupO [.ref it]) :: T) ++ [(it, litO na 0)]) h₂ := S₂.perm (by
  exact (List.Perm.cons _ (List.Perm.cons _ (List.perm_append_comm (l₁ := [(it, litO na 0)]) (l₂ := T)))))
 have hne : mp ≠ it := fun e => by
  have := (List.nodup_cons.mp S₂.nd).2
  rw [e] at this
  simp at this
 refine restate (by exact S₃) fun s₃ K₃ S₃ => ?_
 replace K₃ : Kp s s₃ := ⟨K₃.os, K₃.gens⟩
 refine r_listMap (n := Ns.length) (J := fun i acc T₁ => ∃ X Ms o, T₁ = X ++ (((mp, mapO t (.ref u)) :: (t, tupO [.ref it]) :: T) ++ [(it, o)]) ∧ LitAt o na i ∧ acc = refsB Ms ∧ MOk X Ms ∧ sumB Ms = sumB (Ns.take i) ∧ Ms.length = i)
  (Je := fun acc T₁ => ∃ X Ms, T₁ = X ++ ((mp, mapO t (.ref u)) :: (t, tupO [.ref it]) :: T) ∧ acc = refsB Ms ∧ MOk X Ms ∧ sumB Ms = sumB Ns ∧ Ms.length = Ns.length) S₃ (.head _) hl ⟨[], [], litO na 0, rfl, ⟨rfl, rfl⟩, rfl, (fun e he => (by cases he)), rfl, rfl⟩ ?_ ?_ ?_
 ·rintro D i acc T₁ c s₁ E' hi hacc ⟨X, Ms, o, rfl, ho, rfl, hM, hs, hlen⟩ S₄ K₄
  have hx : (refsB Ns)[i]? = some (.ref (Ns[i]).a) := by simp [refsB, hi]
  obtain ⟨v1, v2, v3, hem⟩ := hN Ns[i] (List.getElem_mem hi)
  rw [← List.append_assoc, ← List.cons_append] at S₄
  have hin : ∀ p ∈ T, p ∈ ((D, lstO (refsB Ms) c) :: (X ++ ((mp, mapO t (.ref u)) :: (t, tupO [.ref it]) :: T))) ++ [(it, o)] := fun p hp => List.mem_append_left _ (.tail _ (List.mem_append_right _ (.tail _ (.tail _ hp))))
  refine map_next (mp := mp) (t := t) (f := .ref u) (d := na) (vs := refsB Ns) (n := nn) ((D, lstO (refsB Ms) c) :: (X ++ ((mp, mapO t (.ref u)) :: (t, tupO [.ref it]) :: T))).length S₄ (List.mem_append_left _ (.tail _ (List.mem_append_right _ (.head _)))) (List.mem_append_left _ (.tail _ (List.mem_append_right _ (.tail _ (.head _))))) (List.getElem?_concat_length ..) ho (hin _ hna) hx hne ?_
  intro h₅ o' E₂ ho' S₅
  rw [List.set_append_right _ _ (Nat.le_refl _), Nat.sub_self] at S₅
  replace S₅ : St hb tabs L' l (((D, lstO (refsB Ms) c) :: (X ++ ((mp, mapO t (.ref u)) :: (t, tupO [.ref it]) :: T))) ++ [(it, o')]) h₅ := S₅
  rw [List.cons_append, List.append_assoc] at S₅
  have hT5 : ∀ p ∈ T, p ∈ (D, lstO (refsB Ms) c) :: (X ++ (((mp, mapO t (.ref u)) :: (t, tupO [.ref it]) :: T) ++ [(it, o')])) := fun p hp => .tail _ (List.mem_append_right _ (List.mem_append_left _ (.tail _ (.tail _ hp))))
  refine wpAny_call (method_call (S₅.obj _ (hT5 _ hu)) ?_)
  refine make_c G S₅ hd (hT5 _ hem) ?_
  intro mm dd s₆ K₆ S₆
  refine ⟨.ref mm, ((mm, moO dd [.int (Ns[i]).b.1 v1, .int (Ns[i]).b.2.1 v2, .int (Ns[i]).b.2.2 v3]) :: X) ++ (((mp, mapO t (.ref u)) :: (t, tupO [.ref it]) :: T) ++ [(it, o')]), rfl, ⟨K₆.os.trans K₄.os, fun z => K₆.gens (K₄.gens z)⟩, ?_, ⟨_, Ms ++ [⟨mm, (Ns[i]).b⟩], o', rfl, ho', (refsB_snoc Ms ⟨mm, (Ns[i]).b⟩).symm, ?_, ?_, ?_⟩⟩
  ·exact S₆.perm (List.Perm.swap ..)
  ·intro e he
   rcases List.mem_append.mp he with z | z
   ·exact (hM.mono fun p hp => .tail _ hp) e z
   ·rw [List.mem_singleton] at z
    subst z
    exact ⟨_, _, _, _, .head _⟩
  ·rw [sumB_snoc, List.take_add_one, List.getElem?_eq_getElem hi, hs]
   show _ = sumB (Ns.take i ++ [Ns[i]])
   rw [sumB_snoc]
  ·rw [List.length_append, hlen]; rfl
 ·rintro D acc T₁ c s₁ E' hacc ⟨X, Ms, o, rfl, ho, rfl, hM, hs, hlen⟩ S₄ K₄
  rw [← List.append_assoc, ← List.cons_append] at S₄
  refine map_end (mp := mp) (t := t) (f := .ref u) (d := na) (vs := refsB Ns) (n := nn) 0 hh S₄ (.tail _ (List.mem_append_right _ (.head _))) (.tail _ (List.mem_append_right _ (.tail _ (.head _)))) (by rw [refsB_len]; exact ho) (.tail _ (List.mem_append_right _ (.tail _ (.tail _ hna)))) ?_
  intro h₅ S₅
  rw [List.take_length] at hs
  exact ⟨rfl, ⟨K₄.os, K₄.gens⟩, _, S₅, X, Ms, rfl, rfl, hM, hs, hlen⟩
 ·rintro s' D acc T' c K' S' ⟨X, Ms, rfl, rfl, hM, hs, hlen⟩
  refine k s' X D Ms c ⟨K'.os.trans K₃.os, fun z => K'.gens (K₃.gens z)⟩ ?_ hM hs hlen
  exact S'.sub (.cons_cons _ ((List.Sublist.refl X).append (.cons _ (List.sublist_cons_self _ _))))
end
end
section
section
variable {w : World} {A : Around} {E : Value → Shared → Prop} {s : Shared} {hb : Heap} {L L' x dx d2 sj : Addr} {T X : List (Addr × Obj)} {l : List (Str × Value)} {od o2 : Obj} {va vb fc sp : Value} {la lb : List Str} {Ra Rb : List (Addr × Obj)} {led : Bool} {rows : List JRow} {R : Result → Shared → Prop} {lst : Addr}
def mall (la lb : List Str) : Nat := mt la lb (0, la.length, 0, lb.length)
theorem mall_le (la lb : List Str) : mall la lb ≤ la.length := by
 have : ∀ f alo ahi blo bhi, mtot la lb f alo ahi blo bhi ≤ ahi - alo := by
  intro f
  induction f with
  | zero => intro _ _ _ _; exact Nat.zero_le _
  | succ f ih =>
   intro alo ahi blo bhi
   rw [mtot]
   split
   ·exact Nat.zero_le _
   ·rename_i hz
    have B := flm_best la lb alo ahi blo bhi
    have h1 := B.lo
    have h2 := B.hi
    have hlt : alo < ahi := by
     rcases Nat.lt_or_ge alo ahi with q | q
     ·exact q
     ·exact absurd (flm_empty (.inl q)) hz
    have h3 := Nat.max_eq_right (Nat.le_of_lt hlt)
    have a := ih alo (flm la lb alo ahi blo bhi).1 blo (flm la lb alo ahi blo bhi).2.1
    have b := ih ((flm la lb alo ahi blo bhi).1 + (flm la lb alo ahi blo bhi).2.2) ahi ((flm la lb alo ahi blo bhi).2.1 + (flm la lb alo ahi blo bhi).2.2) bhi
    omega
 exact this _ _ _ _ _
theorem gmb_cached (G : Gd (KN w.params) tabs hb) (S : St hb tabs L l T s.heap) (hd : A.depth < recursionLimit) (hx : (x, smO dx) ∈ T) (hdx : (dx, od) ∈ T) (hf : FlObj od (mf va vb (.ref lst) fc (.ref d2) (.ref sj) sp))
  (k : ∀ s', Kp s s' → St hb tabs L l T s'.heap → R (.ok (.ret (.ref lst))) s') :
  codeAny (model pw w) A (.call (.ref 231) ⟨[.ref x], []⟩) R s := by
 refine c_def G S (lk231 _) (by omega) (binds := [(Str.ofString "self", .ref x)]) (body := fnBody (st2 pw 6 7)) (BindsTo.of_eq (by kernel_rfl)) ?_
 intro L' h₁ oL r S'
 refine q_doc ?_
 refine q_if ?_
 refine wpAny_isTrue_Compare1 ?_
 refine r_dot ?_
 refine r_local S' m0 ?_
 refine r_attr G S' (.tail _ hx) (.tail _ hdx) hf m4 ?_
 refine wpAny_Constant_none ?_
 refine isnot_none_ne (by intro x; cases x) ?_
 refine wpAny_truthy_bool ⟨fun _ => ?_, nofun⟩
 refine q_ret ?_
 refine r_dot ?_
 refine r_local S' m0 ?_
 refine r_attr G S' (.tail _ hx) (.tail _ hdx) hf m4 ?_
 exact k _ ⟨rfl, id⟩ (S'.leave 0 rfl r)
theorem gmb_c (G : Gd (KN w.params) tabs hb) (S : St hb tabs L l ((x, smO dx) :: (dx, od) :: T) s.heap) (hd : A.depth + 4 < recursionLimit) (hu : A.units + 20 < cLine) (hh : A.handled = none) (hf : FlObj od (mf va vb .none fc (.ref d2) (.ref sj) sp))
  (hd2 : (d2, o2) ∈ T) (ho2 : o2.IsDictOf (PySem.strKind pw w) (rows.map JRow.kv)) (hrows : Rows2 lb rows) (hob : ∀ r ∈ rows, r.ob ∈ T) (hsj : (sj, setO led) ∈ T)
  (Va : SqV pw w hb tabs Ra va la) (Vb : SqV pw w hb tabs Rb vb lb) (hRa : ∀ p ∈ Ra, p ∈ T) (hRb : ∀ p ∈ Rb, p ∈ T)
  (k : ∀ s' od' X lst Ms nb, Kp s s' → St hb tabs L l ((x, smO dx) :: (dx, od') :: ((lst, lstO (refsB Ms) nb) :: X ++ T)) s'.heap → FlObj od' (mf va vb (.ref lst) fc (.ref d2) (.ref sj) sp) → MOk X Ms → sumB Ms = mall la lb → Ms.length ≤ 100 → R (.ok (.ret (.ref lst))) s') :
  codeAny (model pw w) A (.call (.ref 231) ⟨[.ref x], []⟩) R s := by
 have hsa := Va.small
 have hsb := Vb.small
 refine c_def G S (lk231 _) (by omega) (binds := [(Str.ofString "self", .ref x)]) (body := fnBody (st2 pw 6 7)) (BindsTo.of_eq (by kernel_rfl)) ?_
 intro L' h₁ oL r S'
 refine q_doc ?_
 refine q_if ?_
 refine wpAny_isTrue_Compare1 ?_
 refine r_dot ?_
 refine r_local S' m0 ?_
 refine r_attr G S' m1 m2 hf m4 ?_
 refine wpAny_Constant_none ?_
 refine isNot_none ?_
 refine wpAny_truthy_bool ⟨nofun, fun _ => ?_⟩
 refine q_nil ?_
 refine q_swap [Str.ofString "la", Str.ofString "lb"] ?_
 refine args_cons ?_
 refine r_call ?_
 refine r_builtin G S' boot_len ?_
 refine cw_builtin ?_
 refine args_cons ?_
 refine r_dot ?_
 refine r_local S' m0 ?_
 refine r_attr G S' m1 m2 hf m1 ?_ (hv := Va.hand)
 refine args_nil ?_
 refine Va.len S' (fun p hp => .tail _ (.tail _ (.tail _ (hRa p hp)))) ?_
 intro t₁ tk₁
 refine args_cons ?_
 refine r_call ?_
 refine r_builtin G S' boot_len ?_
 refine cw_builtin ?_
 refine args_cons ?_
 refine r_dot ?_
 refine r_local S' m0 ?_
 refine r_attr G S' m1 m2 hf m2 ?_ (hv := Vb.hand)
 refine args_nil ?_
 refine Vb.len S' (fun p hp => .tail _ (.tail _ (.tail _ (hRb p hp)))) ?_
 intro t₂ tk₂
 refine args_nil ?_
 refine ⟨rfl, rfl, hh, _, _, _, _, _, S', ?_⟩
 intro h₂ S₂
 refine as_cons ?_
 refine r_store S₂ (.new (by kernel_rfl)) ?_
 intro h₃ S₃
 refine as_cons ?_
 refine r_store S₃ (.new (by kernel_rfl)) ?_
 intro h₄ S₄
 refine as_nil ?_
 refine restate (by exact S₄) fun s₄ K₄ S₄ => ?_
 replace K₄ : Kp s s₄ := ⟨K₄.os, K₄.gens⟩
 refine q_assign ?_
 refine r_list ?_
 refine args_cons ?_
 refine r_tuple ?_
 refine args_cons ?_
 refine wpAny_Constant_int ?_
 refine args_cons ?_
 refine r_local S₄ m0 ?_
 refine args_cons ?_
 refine wpAny_Constant_int ?_
 refine args_cons ?_
 refine r_local S₄ m1 ?_
 refine args_nil ?_
 refine ⟨rfl, _, _, _, _, _, S₄, ?_⟩
 intro t0 h₅ S₅
 obtain ⟨w1, w2, S₅⟩ : ∃ w1 w2, St hb tabs L' _ ((t0, tupO [.int 0 w1, .int la.length t₁, .int 0 w2, .int lb.length t₂]) :: (L, oL) :: (x, smO dx) :: (dx, od) :: T) h₅ := ⟨_, _, S₅⟩
 refine args_nil ?_
 refine ⟨rfl, _, _, _, _, _, S₅, ?_⟩
 intro q h₆ S₆
 refine r_store S₆ (.new (by kernel_rfl)) ?_
 intro h₇ S₇
 refine q_assign ?_
 refine r_list ?_
 refine args_nil ?_
 refine ⟨rfl, _, _, _, _, _, S₇, ?_⟩
 intro mbl h₈ S₈
 refine r_store S₈ (.new (by kernel_rfl)) ?_
 intro h₉ S₉
 refine restate (by exact S₉) fun s₉ K₉ S₉ => ?_
 replace K₉ : Kp s s₉ := ⟨K₉.os.trans K₄.os, fun z => K₉.gens (K₄.gens z)⟩
 have S₁₀ : St hb tabs L' (nmG mbl q la.length lb.length t₁ t₂ x) ((q, lstO (refsQ [⟨t0, (0, la.length, 0, lb.length)⟩]) 0) :: (mbl, lstO (refsB []) 0) :: ([(t0, tupO [.int 0 w1, .int la.length t₁, .int 0 w2, .int lb.length t₂])] ++ ((L, oL) :: (x, smO dx) :: (dx, od) :: T))) s₉.heap :=
  S₉.perm ((List.perm_append_comm (l₁ := [(mbl, lstO [] 0)]) (l₂ := [(q, lstO [.ref t0] 0)])).append_right _)
 refine gmb_while (T := (L, oL) :: (x, smO dx) :: (dx, od) :: T) G (by omega) hh m1 m2 hf (.tail _ (.tail _ (.tail _ hd2))) ho2 hrows (fun r hr => .tail _ (.tail _ (.tail _ (hob r hr)))) (.tail _ (.tail _ (.tail _ hsj))) Va Vb (fun p hp => .tail _ (.tail _ (.tail _ (hRa p hp)))) (fun p hp => .tail _ (.tail _ (.tail _ (hRb p hp)))) S₁₀ ?_ ⟨Nat.zero_le _, Nat.le_refl _, Nat.zero_le _, Nat.le_refl _⟩ ?_
 ·intro e he
  rw [List.mem_singleton] at he
  subst he
  exact ⟨_, _, _, _, .head _⟩
 intro s₁₁ X₁ Bs nq nb K₁₁ S₁₁ hB hsum hlen
 replace K₁₁ : Kp s s₁₁ := ⟨K₁₁.os.trans K₉.os, fun z => K₁₁.gens (K₉.gens z)⟩
 refine q_expr ?_
 refine m_call ?_
 refine r_local S₁₁ m0 ?_
 refine r_lmeth S₁₁ m1 PySem.F.slot_list_sort PySem.F.type_list_sort ?_
 refine cw_builtin ?_
 refine args_nil ?_
 refine gmb_sort G (by show A.units + 3 + 1 < _; omega) S₁₁ (hB.toM.mono fun p hp => List.mem_append_left _ hp) (by omega) ?_
 intro s₁₂ Bs' nb' K₁₂ hperm S₁₂
 replace K₁₂ : Kp s s₁₂ := ⟨K₁₂.os.trans K₁₁.os, fun z => K₁₂.gens (K₁₁.gens z)⟩
 have hsum' : sumB Bs' = mall la lb := by
  rw [← show mt la lb (0, la.length, 0, lb.length) = mall la lb from rfl, ← hsum]
  exact sumN_perm (hperm.map _)
 have hB' : MOk X₁ Bs' := fun e he => hB.toM e (hperm.mem_iff.mp he)
 have hlen' : Bs'.length ≤ 60 := by rw [hperm.length_eq]; omega
 refine q_three ?_
 refine wpAny_Constant_int ?_
 refine as_name ?_
 refine r_store S₁₂ (.new (by kernel_rfl)) ?_
 intro h₁₃ S₁₃
 refine as_name ?_
 refine r_store S₁₃ (.new (by kernel_rfl)) ?_
 intro h₁₄ S₁₄
 refine as_name ?_
 refine r_store S₁₄ (.new (by kernel_rfl)) ?_
 intro h₁₅ S₁₅
 refine q_assign ?_
 refine r_list ?_
 refine args_nil ?_
 refine ⟨rfl, _, _, _, _, _, S₁₅, ?_⟩
 intro na h₁₆ S₁₆
 refine r_store S₁₆ (.new (by kernel_rfl)) ?_
 intro h₁₇ S₁₇
 rw [← Int.natCast_zero] at S₁₇
 refine restate (by exact S₁₇) fun s₁₇ K₁₇ S₁₇ => ?_
 replace K₁₇ : Kp s s₁₇ := ⟨K₁₇.os.trans K₁₂.os, fun z => K₁₇.gens (K₁₂.gens z)⟩
 refine q_for ?_
 refine r_local S₁₇ m4 ?_
 refine r_iterLO S₁₇ m2 ?_
 intro I o Wt fp h₁₈ IV hown hw S₁₈
 refine for_walkO (own := [(I, o)]) (Ro := [(mbl, lstO (refsB Bs') nb')]) (IV.walks (A.deeper _) hh) (fun i s v Q E h1 h2 => hown _ _ _ _ i s v Q E h1 h2) (fun i h hi b hb' => by rw [List.mem_singleton] at hb'; subst hb'; exact IV.ex i h hi) rfl IV.ro S₁₈ hw
  (fun t l₁ T₁ => ∃ b ti tj tk Ns X nn, l₁ = nmM na b ti tj tk (nmG mbl q la.length lb.length t₁ t₂ x) ∧ T₁ = (na, lstO (refsB Ns) nn) :: (X ++ ((q, lstO [] nq) :: (mbl, lstO (refsB Bs') nb') :: (X₁ ++ ((L, oL) :: (x, smO dx) :: (dx, od) :: T)))) ∧
   NOk X Ns ∧ sumB Ns + b.2.2 = sumB (Bs'.take t) ∧ Ns.length ≤ t) ?_ (fun p hp => by rw [List.mem_singleton] at hp; subst hp; exact m2) ?_ ?_
 ·exact ⟨(0, 0, 0), _, _, _, [], [], 0, rfl, rfl, (fun e he => (by cases he)), rfl, Nat.le_refl _⟩
 ·rintro E₁ t v l₁ T₁ own₁ s₁ ht hv ⟨b, ti, tj, tk, Ns, X, nn, rfl, rfl, hN, hs, hl⟩ S₁₉ hRo hKp
  rw [refsB_len] at ht
  have hv' : v = .ref (Bs'[t]).a := by
   have : (refsB Bs')[t]? = some (.ref (Bs'[t]).a) := by simp [refsB, ht]
   rw [this] at hv; exact (Option.some.inj hv).symm
  clear hv
  subst hv'
  refine merge_turn (b := b) (ti := ti) (tj := tj) (tk := tk) (nn := nn) (n := la.length) (m := lb.length) (t1 := t₁) (t2 := t₂) (na := na) (q := q) (mbl := mbl) (x := x) (X := X) (Ns := Ns) (e := Bs'[t]) (T := ((q, lstO [] nq) :: (mbl, lstO (refsB Bs') nb') :: (X₁ ++ ((L, oL) :: (x, smO dx) :: (dx, od) :: T))) ++ own₁) G hh ?st hN ?he (by omega) ?_ rfl
  case st =>
   rw [← List.append_assoc]; exact S₁₉
  case he =>
   intro e he
   rw [List.mem_singleton] at he
   subst he
   obtain ⟨dd, u1, u2, u3, hm⟩ := hB' Bs'[t] (List.getElem_mem ht)
   exact ⟨dd, u1, u2, u3, List.mem_append_left _ (.tail _ (.tail _ (List.mem_append_left _ hm)))⟩
  intro s' X' nn' Ns' b' ti' tj' tk' K' S' hN' hs' hl'
  refine ⟨_, (na, lstO (refsB Ns') nn') :: (X' ++ ((q, lstO [] nq) :: (mbl, lstO (refsB Bs') nb') :: (X₁ ++ ((L, oL) :: (x, smO dx) :: (dx, od) :: T)))), ?_, ⟨b', ti', tj', tk', Ns', X', nn', rfl, rfl, hN', ?_, by omega⟩, ?_, ⟨K'.os.trans hKp.os, fun z => K'.gens (hKp.gens z)⟩⟩
  ·rw [List.cons_append, List.append_assoc]; exact S'
  ·rw [List.take_add_one, List.getElem?_eq_getElem ht]
   show _ = sumB (Bs'.take t ++ [Bs'[t]])
   rw [sumB_snoc]; omega
  ·intro p hp
   rw [List.mem_singleton] at hp; subst hp
   exact .tail _ (List.mem_append_right _ m1)
 ·rintro s' l' T' hKp S₁₉ ⟨b, ti, tj, tk, Ns, X, nn, rfl, rfl, hN, hs, hl⟩ hRo
  replace hKp : Kp s s' := ⟨hKp.os.trans K₁₇.os, fun z => hKp.gens (K₁₇.gens z)⟩
  rw [refsB_len] at hs hl
  rw [List.take_length, hsum'] at hs
  refine q_ifP (fun s₂ => ∃ Ns X nn, Kp s s₂ ∧ St hb tabs L' (nmM na b ti tj tk (nmG mbl q la.length lb.length t₁ t₂ x)) ((na, lstO (refsB Ns) nn) :: (X ++ ((q, lstO [] nq) :: (mbl, lstO (refsB Bs') nb') :: (X₁ ++ ((L, oL) :: (x, smO dx) :: (dx, od) :: T))))) s₂.heap ∧
   NOk X Ns ∧ sumB Ns = mall la lb ∧ Ns.length ≤ 61) ?_ ?_
  ·refine isTrue_plain ?_
   refine r_local S₁₉ m1 ?_
   refine truthy_int ⟨fun hk => ?_, fun hk => ?_⟩
   ·refine q_expr ?_
    refine m_call ?_
    refine r_local S₁₉ m0 ?_
    refine r_lmeth S₁₉ m0 PySem.F.slot_list_append type_list_append ?_
    refine cw_builtin ?_
    refine args_cons ?_
    refine r_tuple ?_
    refine args_cons ?_
    refine r_local S₁₉ m3 ?_
    refine args_cons ?_
    refine r_local S₁₉ m2 ?_
    refine args_cons ?_
    refine r_local S₁₉ m1 ?_
    refine args_nil ?_
    refine ⟨rfl, _, _, _, _, _, S₁₉, ?_⟩
    intro tt h₂₀ S₂₀
    refine args_nil ?_
    refine r_append 1 S₂₀ rfl ?_ (by rw [refsB_len]; omega)
    intro h₂₁ S₂₁
    refine q_nil ?_
    refine ⟨rfl, Ns ++ [⟨tt, b⟩], (tt, tupO [.int b.1 ti, .int b.2.1 tj, .int b.2.2 tk]) :: X, nn + 1, ⟨hKp.os, hKp.gens⟩, ?_, ?_, by rw [sumB_snoc]; exact hs, by simp; omega⟩
    ·rw [refsB_snoc]
     refine S₂₁.perm ?_
     exact (List.perm_append_comm (l₁ := [(tt, tupO [.int b.1 ti, .int b.2.1 tj, .int b.2.2 tk])]) (l₂ := [(na, lstO (refsB Ns ++ [Value.ref tt]) (nn + 1))])).append_right _
    ·intro e' he'
     rcases List.mem_append.mp he' with z | z
     ·exact (hN.mono fun p hp => .tail _ hp) e' z
     ·rw [List.mem_singleton] at z
      subst z
      exact ⟨_, _, _, .head _⟩
   ·have hk0 : b.2.2 = 0 := by simpa using hk
    refine q_nil ?_
    exact ⟨rfl, Ns, X, nn, hKp, S₁₉, hN, by omega, by omega⟩
  ·rintro s₂ ⟨Ns, X, nn, K₂, S₂, hN, hs, hl⟩
   refine q_expr ?_
   refine m_call ?_
   refine r_local S₂ m0 ?_
   refine r_lmeth S₂ m0 PySem.F.slot_list_append type_list_append ?_
   refine cw_builtin ?_
   refine args_cons ?_
   refine r_tuple ?_
   refine args_cons ?_
   refine r_local S₂ m6 ?_
   refine args_cons ?_
   refine r_local S₂ m7 ?_
   refine args_cons ?_
   refine wpAny_Constant_int ?_
   refine args_nil ?_
   refine ⟨rfl, _, _, _, _, _, S₂, ?_⟩
   intro tt h₂₀ S₂₀
   rw [← Int.natCast_zero] at S₂₀
   obtain ⟨w3, S₂₀⟩ : ∃ w3, St hb tabs L' _ ((tt, tupO [.int la.length t₁, .int lb.length t₂, .int ((0 : Nat) : Int) w3]) :: (na, lstO (refsB Ns) nn) :: (X ++ ((q, lstO [] nq) :: (mbl, lstO (refsB Bs') nb') :: (X₁ ++ ((L, oL) :: (x, smO dx) :: (dx, od) :: T))))) h₂₀ := ⟨_, S₂₀⟩
   refine args_nil ?_
   refine r_append 1 S₂₀ rfl ?_ (by rw [refsB_len]; omega)
   intro h₂₁ S₂₁
   have hN3 : NOk ((tt, tupO [.int la.length t₁, .int lb.length t₂, .int ((0 : Nat) : Int) w3]) :: X) (Ns ++ [⟨tt, (la.length, lb.length, 0)⟩]) := by
    intro e' he'
    rcases List.mem_append.mp he' with z | z
    ·exact (hN.mono fun p hp => .tail _ hp) e' z
    ·rw [List.mem_singleton] at z
     subst z
     exact ⟨_, _, _, .head _⟩
   have hs3 : sumB (Ns ++ [⟨tt, (la.length, lb.length, 0)⟩]) = mall la lb := by rw [sumB_snoc]; exact hs
   have e3 : refsB (Ns ++ [⟨tt, (la.length, lb.length, 0)⟩]) = refsB Ns ++ [Value.ref tt] := refsB_snoc _ _
   have hl3 : (Ns ++ [(⟨tt, (la.length, lb.length, 0)⟩ : Bk)]).length ≤ 62 := by simp; omega
   replace S₂₁ := S₂₁.perm (T' := (na, lstO (refsB Ns ++ [Value.ref tt]) (nn + 1)) :: ((((tt, tupO [.int la.length t₁, .int lb.length t₂, .int ((0 : Nat) : Int) w3]) :: X)) ++ ((q, lstO [] nq) :: (mbl, lstO (refsB Bs') nb') :: (X₁ ++ ((L, oL) :: (x, smO dx) :: (dx, od) :: T))))) (by
    exact (List.perm_append_comm (l₁ := [(tt, tupO [.int la.length t₁, .int lb.length t₂, .int ((0 : Nat) : Int) w3])]) (l₂ := [(na, lstO (refsB Ns ++ [Value.ref tt]) (nn + 1))])).append_right _)
   rw [← e3] at S₂₁
   generalize (tt, tupO [.int la.length t₁, .int lb.length t₂, .int ((0 : Nat) : Int) w3]) :: X = X' at *
   generalize Ns ++ [(⟨tt, (la.length, lb.length, 0)⟩ : Bk)] = Ns' at *
   refine restate (by exact S₂₁) fun s₂₁ K₂₁ S₂₁ => ?_
   replace K₂₁ : Kp s s₂₁ := ⟨K₂₁.os.trans K₂.os, fun z => K₂₁.gens (K₂.gens z)⟩
   refine q_setattr ?_
   refine r_call ?_
   refine r_builtin G S₂₁ boot_list ?_
   refine cw_type ?_
   refine args_cons ?_
   refine r_call ?_
   refine r_builtin G S₂₁ boot_map ?_
   refine cw_type ?_
   refine args_cons ?_
   refine r_dot ?_
   refine r_global G S₂₁ (v := .ref 163) (by kernel_rfl) ?_
   refine r_make G S₂₁ ?_
   intro u h₂₂ S₂₂
   refine args_cons ?_
   refine r_local S₂₂ m0 ?_
   refine args_nil ?_
   refine restate (by exact S₂₂) fun s₂₂ K₂₂ S₂₂ => ?_
   replace K₂₂ : Kp s s₂₂ := ⟨K₂₂.os.trans K₂₁.os, fun z => K₂₂.gens (K₂₁.gens z)⟩
   refine wpAny_mono (E := _) ?_ (fun v s' h => args_nil h) (fun _ _ h => h)
   refine gmb_map (A := A.deeper (ev231 w L')) (Ns := Ns') (nn := nn + 1) G (by show A.depth + 1 < recursionLimit; omega) hh S₂₂ (.tail _ (.head _)) (hN3.mono fun p hp => .tail _ (.tail _ (List.mem_append_left _ hp))) (by omega) (.head _) ?_
   intro s₂₃ X₂ lst Ms nb2 K₂₃ S₂₃ hM hMs hMl
   replace K₂₃ : Kp s s₂₃ := ⟨K₂₃.os.trans K₂₂.os, fun z => K₂₃.gens (K₂₂.gens z)⟩
   have S₂₄ := S₂₃.perm (T' := (x, smO dx) :: (dx, od) :: ((L, oL) :: (lst, lstO (refsB Ms) nb2) :: ((X₂ ++ ((u, methodObj (.ref 117) (.ref 163)) :: (na, lstO (refsB Ns') (nn + 1)) :: (X' ++ ((q, lstO [] nq) :: (mbl, lstO (refsB Bs') nb') :: X₁)))) ++ T))) (by
    have e : ((lst, lstO (refsB Ms) nb2) :: (X₂ ++ (u, methodObj (.ref 117) (.ref 163)) :: (na, lstO (refsB Ns') (nn + 1)) :: (X' ++ ((q, lstO [] nq) :: (mbl, lstO (refsB Bs') nb') :: (X₁ ++ ((L, oL) :: (x, smO dx) :: (dx, od) :: T)))))) =
      ((lst, lstO (refsB Ms) nb2) :: (X₂ ++ (u, methodObj (.ref 117) (.ref 163)) :: (na, lstO (refsB Ns') (nn + 1)) :: (X' ++ ((q, lstO [] nq) :: (mbl, lstO (refsB Bs') nb') :: X₁)))) ++ ([(L, oL), (x, smO dx), (dx, od)] ++ T) := by
     simp only [List.append_assoc, List.cons_append, List.nil_append]
    rw [e]
    have e2 : ((x, smO dx) :: (dx, od) :: ((L, oL) :: (lst, lstO (refsB Ms) nb2) :: ((X₂ ++ ((u, methodObj (.ref 117) (.ref 163)) :: (na, lstO (refsB Ns') (nn + 1)) :: (X' ++ ((q, lstO [] nq) :: (mbl, lstO (refsB Bs') nb') :: X₁)))) ++ T))) =
      ([(x, smO dx), (dx, od), (L, oL)] ++ ((lst, lstO (refsB Ms) nb2) :: (X₂ ++ (u, methodObj (.ref 117) (.ref 163)) :: (na, lstO (refsB Ns') (nn + 1)) :: (X' ++ ((q, lstO [] nq) :: (mbl, lstO (refsB Bs') nb') :: X₁))))) ++ T := by
     simp only [List.append_assoc, List.cons_append, List.nil_append]
    rw [e2, ← List.append_assoc]
    refine List.Perm.append_right T ?_
    refine List.perm_append_comm.trans (List.Perm.append_right _ ?_)
    exact (List.perm_append_comm (l₁ := [(L, oL)]) (l₂ := [(x, smO dx), (dx, od)])))
   refine r_local S₂₄ m8 ?_
   refine r_setattr (fl' := mf va vb (.ref lst) fc (.ref d2) (.ref sj) sp) 1 G S₂₄ m0 rfl hf (.there (by kernel_rfl) (.there (by kernel_rfl) (.there (by kernel_rfl) (.there (by kernel_rfl) .here)))) ?_
   intro h₂₅ od' S₂₅ hf'
   refine q_ret ?_
   refine r_dot ?_
   refine r_local S₂₅ m8 ?_
   refine r_attr G S₂₅ m0 m1 hf' m4 ?_
   refine k _ od' (X₂ ++ ((u, methodObj (.ref 117) (.ref 163)) :: (na, lstO (refsB Ns') (nn + 1)) :: (X' ++ ((q, lstO [] nq) :: (mbl, lstO (refsB Bs') nb') :: X₁)))) lst Ms nb2 ⟨K₂₃.os, K₂₃.gens⟩ (S₂₅.leave 2 rfl r) hf' ?_ (by omega) (by omega)
   intro e he
   obtain ⟨dd, a, b, c, m⟩ := hM e he
   exact ⟨dd, a, b, c, List.mem_append_left _ m⟩
end
end
section
def BM (hb : Heap) : Prop := ∃ mg bm ob, BMod hb mainGlobals mg bm ob
section
variable {hb h h' : Heap} {tabs : List Addr} {L P : Addr} {l : List (Str × Value)} {T : List (Addr × Obj)} {wr : List Addr}
theorem St.tabGrown (S : St hb tabs L l T h) (hk : ∀ b o, b ≠ P → h.get? b = some o → h'.get? b = some o) (hP : P ∈ tabs)
  (ht : ∃ ps more, hb.get? P = some (tableObj ps) ∧ h'.get? P = some (tableObj (ps ++ more)) ∧ TriplesOk (ps ++ more).toList) : St hb tabs L l T h' := by
 have hlt := S.tabLt hP
 obtain ⟨oL, e, r⟩ := S.fm
 refine ⟨⟨oL, hk _ _ (Nat.ne_of_gt (Nat.lt_of_lt_of_le hlt S.lnew)) e, r⟩, S.lnew, fun b o e hn => hk b o (fun q => hn (q ▸ hP)) (S.keep b o e hn), fun t htt => ?_, fun p hp => hk _ _ (Nat.ne_of_gt (Nat.lt_of_lt_of_le hlt (S.new p hp))) (S.obj p hp), S.new, S.nd⟩
 by_cases q : t = P
 ·rw [q]; exact ht
 ·obtain ⟨ps, more, e1, e2, e3⟩ := S.tab t htt
  exact ⟨ps, more, e1, hk _ _ q e2, e3⟩
theorem St.off (S : St hb tabs L l T h) (hw : ∀ b ∈ wr, hb.objs.size ≤ b ∧ b ∉ L :: T.map (·.1)) (hk : ∀ b o, b ∉ wr → h.get? b = some o → h'.get? b = some o) : St hb tabs L l T h' := by
 obtain ⟨oL, e, r⟩ := S.fm
 have hold : ∀ b o, hb.get? b = some o → b ∉ wr := fun b o e q => absurd (Heap.lt_size e) (Nat.not_lt.mpr (hw b q).1)
 refine ⟨⟨oL, hk _ _ (fun q => (hw _ q).2 (.head _)) e, r⟩, S.lnew, fun b o e hn => hk b o (hold b o e) (S.keep b o e hn), fun t ht => ?_, fun p hp => hk _ _ (fun q => (hw _ q).2 (.tail _ (List.mem_map.mpr ⟨p, hp, rfl⟩))) (S.obj p hp), S.new, S.nd⟩
 obtain ⟨ps, more, e1, e2, e3⟩ := S.tab t ht
 exact ⟨ps, more, e1, hk _ _ (hold _ _ e1) e2, e3⟩
end
section
variable {prog : Program} {w : World} {A : Around} {E : Value → Shared → Prop} {s : Shared} {K : Frag} {hb : Heap} {tabs : List Addr} {L c P : Addr} {l : List (Str × Value)} {T : List (Addr × Obj)} {env : Env} {oc : Obj} {vsc : Array Value}
theorem St.notTab (S : St hb tabs L l T s.heap) {b : Addr} {o : Obj} (e : hb.get? b = some o) (hc : o.cls ≠ .none) : b ∉ tabs := fun q => by
 obtain ⟨ps, more, e1, _⟩ := S.tab b q
 rw [e] at e1
 cases e1
 exact hc rfl
theorem r_bfor {Q : Addr → Shared → Prop} {r : Addr} (G : Gd K tabs hb) (B : BM hb) (S : St hb tabs L l T s.heap) (hg : env.globals = mainGlobals) (h : Q builtinsNs s) : wpAny (model prog w) A (builtinsFor env.globals r) Q E s := by
 obtain ⟨mg, bm, ob, M⟩ := B
 rw [hg]
 exact wpAny_builtinsFor (S.oldNs M.ns G.n1) M.name M.ne (S.old M.obj (S.notTab M.obj (by rw [M.cls]; exact nofun))) M.cls M.dict M.data h
def CodeSh (vs : Array Value) (P : Addr) : Prop :=
 ∃ file tf flags tg inF text tt, vs.getD 18 .none = .str file tf ∧ vs.getD 7 .none = .int flags tg ∧ vs.getD 9 .none = .bool inF ∧ vs.getD 10 .none = .int text tt ∧ vs.getD 11 .none = .ref P ∧ vs[11]? = some (.ref P)
theorem r_gcode {Q : Value → Shared → Prop} {pos : Pos} {qualname : Str} {scope : Scope} (G : Gd K tabs hb) (S : St hb tabs L l T s.heap) (hcode : env.code = .ref c) (hK : K.lookup c = some oc) (hcls : oc.cls = .type "code") (hd : oc.data = .fields vsc) (hsh : CodeSh vsc P) (hP : P ∈ tabs)
  (h : ∀ code h' tk, St hb tabs L l T h' → (∀ b o, b ≠ P → s.heap.get? b = some o → h'.get? b = some o) → s.heap.objs.size ≤ h'.objs.size → Q code { s with heap := h', toks := tk }) :
  wpAny (model prog w) A (genexprCode env pos qualname scope) Q E s := by
 obtain ⟨ps, more, e1, e2, e3⟩ := S.tab P hP
 obtain ⟨file, tf, flags, tg, inF, text, tt, h18, h7, h9, h10, h11, h11'⟩ := hsh
 have ho := S.kin G c oc hK
 have hne : c ≠ P := fun q => by
  rw [q, e2] at ho
  cases ho
  cases hcls
 have hok : s.heap.IsCode c P (ps ++ more) := ⟨oc, vsc, file, tf, flags, tg, inF, text, tt, _, ho, hd, h11, h18, h7, h9, h10, e2, rfl, e3, hne⟩
 cases hnf : codeAmong pos (ps ++ more).toList with
 | some cv =>
  unfold genexprCode codeAt
  rw [hcode, if_neg (show ¬ ((Value.ref c == Value.none) = true) from Bool.false_ne_true)]
  refine wpAny_bind (wpAny_fieldsOf ho hd ?_)
  rw [h11]
  refine wpAny_bind (wpAny_fieldsOf e2 rfl ?_)
  rw [hnf]
  exact wpAny_pure (h cv s.heap s.toks S (fun _ _ _ e => e) (Nat.le_refl _))
 | none =>
  refine wpAny_genexprCodeX hcode hok ⟨⟨oc, vsc, ho, hcls, hd, h11'⟩, e2⟩ hnf fun c' h' tk hx hge hlt hok' _ htab' _ => ?_
  refine h _ h' tk (S.tabGrown (P := P) (fun b o hb' e => hx b o hb' e) hP ⟨ps, more ++ #[rawInt pos.line, rawInt pos.col, .ref c'], e1, ?_, ?_⟩) (fun b o hb' e => hx b o hb' e) (Nat.le_trans hge (Nat.le_of_lt hlt))
  ·rw [← Array.append_assoc]; exact htab'.2
  ·rw [← Array.append_assoc, Array.toList_append]
   exact TriplesOk_snoc _ _ _ _ e3
end
section
variable {prog : Program} {w : World} {A : Around} {E : Value → Shared → Prop} {s : Shared} {K : Frag} {hb : Heap} {tabs : List Addr} {c P : Addr} {env : Env} {oc : Obj} {vsc : Array Value}
theorem passing_all (n : Nat) : passing (fun _ => true) n 0 = List.range n := by
 unfold passing; rw [List.drop_zero]; exact List.filter_eq_self.mpr fun _ _ => rfl
theorem r_sumgen {elt iter : Expr} {x : Str} {px : Pos} {scope : Scope} {cl : List (Str × Addr)} {pos : Pos} {Q : Value → Shared → Prop}
  (G : Gd K tabs hb) (B : BM hb) (hh : A.handled = none) (hroom : A.depth < recursionLimit) (hcode : env.code = .ref c) (hK : K.lookup c = some oc) (hcls : oc.cls = .type "code") (hd : oc.data = .fields vsc) (hsh : CodeSh vsc P) (hP : P ∈ tabs) (hg : env.globals = mainGlobals)
  (h : wpAny (model prog w) A (eval iter env) (fun xv s₁ => ∃ L l T d vs n, ∃ val : Nat → Int, xv = .ref d ∧ St hb tabs L l T s₁.heap ∧ (d, lstO vs n) ∈ T ∧
   (∀ (A' : Around) E' i v C code bi (s₂ : Shared) m₂, A'.handled = none → vs[i]? = some v → K.In s₂.heap → (∀ p ∈ T, s₂.heap.get? p.1 = some p.2) → s₂.heap.Ns C m₂ → m₂ x = some v →
    wpAny (model prog w) A' (eval elt (genEnv scope cl C code bi env)) (fun y s₃ => (∃ t, y = .int (val i) t) ∧ Keeps s₂ s₃) E' s₂) ∧
   (∀ s' t', Kp s₁ s' → St hb tabs L l T s'.heap → Q (.int (preSum val vs.length) t') s')) E s)
  (hco : scope.isCoroutine = false) (hclos : closureFor scope env = pure cl) (hcell : ∀ y ∈ scope.names, y.2 ≠ .cell) (h0 : scope.names.lookup (".0" : Str) = some NameKind.local)
  (hx : scope.names.lookup x = some .local) (hkind : scope.kind = .function) (hs : ∀ x, genFold iter env x = pure x) :
  wpAny (model prog w) A (eval (.GeneratorExp elt [⟨.Name x px, iter, [], 0⟩] scope pos) env) (fun v s₁ => wpAny (model prog w) A (call (.builtin "sum") [v]) Q E s₁) E s := by
 refine wpAny_GeneratorExp_walksQ hh hco hclos hcell h0 hx hkind hroom (wpAny_mono h (fun xv s₁ z => ?_) fun _ _ e => e) hs
 obtain ⟨L, l, T, d, vs, n, val, rfl, S, hm, hel, hQ⟩ := z
 have hl : s₁.heap.IsList d vs.toArray := ⟨_, S.obj _ hm, rfl, n, rfl⟩
 have hlt : d < s₁.heap.objs.size := S.lt hm
 have S₁ := S.push { cls := .type "list_iterator", data := .fields #[.ref d, .int 0 0] }
 refine wpAny_pyIter_list hl ⟨St.lim (s := { s₁ with heap := s₁.heap.push { cls := .type "list_iterator", data := .fields #[.ref d, .int 0 0] } }) S₁ G, ?_⟩
 refine r_gcode (s := { s₁ with heap := s₁.heap.push { cls := .type "list_iterator", data := .fields #[.ref d, .int 0 0] } }) G S₁ hcode hK hcls hd hsh hP fun code h₃ tk₃ S₃ hk₃ hsz₃ => ?_
 refine r_bfor (s := { s₁ with heap := h₃, toks := tk₃ }) G B S₃ hg ?_
 have hIlt : s₁.heap.objs.size < h₃.objs.size := S₃.lt (.head _)
 have hdlt : d < h₃.objs.size := Nat.lt_trans hlt hIlt
 have hI : hb.objs.size ≤ s₁.heap.objs.size := S₃.new _ (.head _)
 have ndI := (List.nodup_cons.mp (List.nodup_cons.mp S₃.nd).2).1
 have hLI : L ≠ s₁.heap.objs.size := fun q => (List.nodup_cons.mp S₃.nd).1 (by rw [q]; exact .head _)
 have hTI : ∀ p ∈ T, p.1 ≠ s₁.heap.objs.size := fun p hp q => ndI (List.mem_map.mpr ⟨p, hp, q⟩)
 refine ⟨s₁.heap.objs.size, [s₁.heap.objs.size, d], [s₁.heap.objs.size], vs.toArray.size, _, _, fun _ => true, fun i v => ∃ t, v = .int (val i) t, rfl,
  (fun A' hA => Walks.list hA _ _ (Nat.ne_of_lt hlt) vs.toArray), ⟨⟨_, S₃.obj _ (.head _), rfl, rfl⟩, ⟨_, S₃.obj _ (.tail _ hm), rfl, n, rfl⟩⟩, ?_, St.lim (s := { s₁ with heap := h₃, toks := tk₃ }) S₃ G, ?_, ?_, ?_⟩
 ·intro b hb'
  rcases List.mem_cons.mp hb' with rfl | hb'
  ·exact hIlt
  ·rw [List.mem_singleton] at hb'; subst hb'; exact hdlt
 ·intro q
  rw [List.mem_singleton] at q
  obtain ⟨_, hn, _⟩ := G.lim
  exact Nat.lt_irrefl _ (Nat.lt_of_lt_of_le (q ▸ hn.lt) hI)
 ·intro href hhref
  refine ⟨fun A' E' i v s₂ m₂ hA hPi hn hm' hk => ?_, fun A' E' i v s₂ m₂ hA hPi hpz hn hm' hk => ?_⟩
  ·rw [List.forIn_nil]
   exact wpAny_pure ⟨rfl, _, _, rfl, fun _ _ e => e⟩
  ·refine hel A' E' i v _ code _ s₂ m₂ hA (by simpa using hPi) (fun a o e => ?_) (fun p hp => ?_) hn hm'
   ·have e1 := S₃.kin (s := { s₁ with heap := h₃, toks := tk₃ }) G a o e
    have : a < hb.objs.size := Heap.lt_size (G.k a o e)
    exact hk a (List.mem_range.mpr (Heap.lt_size e1)) (fun q => by rw [List.mem_singleton] at q; exact Nat.lt_irrefl _ (Nat.lt_of_lt_of_le (q ▸ this) hI)) o (hhref a o e1)
   ·have e1 := S₃.obj p (.tail _ hp)
    exact hk p.1 (List.mem_range.mpr (Heap.lt_size e1)) (fun q => by rw [List.mem_singleton] at q; exact hTI p hp q) _ (hhref _ _ e1)
 ·intro a h₅ tk gs hgb hag hsz₅ hk₅ W hat
  have W1 := W.in4_1
  have S₅ : St hb tabs L l T h₅ := (S₃.sub (List.sublist_cons_self _ _)).off (wr := []) (fun b q => by cases q) (fun b o _ e => hk₅ b o e)
  refine call_sum_walkAnyS (W1.self 0 _ _ _ hat ⟨a, _, _, _, _, _, _, val, rfl, W1, hat, ?_, ?_, fun s' t' hmv => ?_⟩)
  ·intro b hb'
   show b < h₅.objs.size
   rw [hsz₅]
   rcases List.mem_cons.mp hb' with rfl | hb'
   ·exact Nat.lt_succ_self _
   ·rcases List.mem_cons.mp hb' with rfl | hb'
    ·exact Nat.lt_succ_of_lt hag
    ·exact Nat.lt_succ_of_lt (Nat.lt_trans (List.mem_range.mp hb') hag)
  ·rintro j v ⟨i, hi, t, rfl⟩
   rw [passing_all, List.getElem?_eq_some_iff] at hi
   obtain ⟨hj, e⟩ := hi
   rw [List.getElem_range] at e
   subst e
   exact ⟨t, rfl⟩
  ·rw [passing_all, List.length_range, List.size_toArray]
   refine hQ s' t' ⟨hmv.os, fun z => (AllBare.push z hgb).moved hmv.gens⟩ (S₅.off (wr := [h₃.objs.size, s₁.heap.objs.size]) (fun b hb' => ?_) (fun b o hb' e => hmv.heap b o hb' e))
   rcases List.mem_cons.mp hb' with rfl | hb'
   ·refine ⟨Nat.le_trans hI (Nat.le_of_lt hIlt), fun q => ?_⟩
    rcases List.mem_cons.mp q with q | q
    ·have := S₃.fm.lt; exact Nat.lt_irrefl _ (q ▸ this)
    ·obtain ⟨p, hp, e⟩ := List.mem_map.mp q
     have := S₃.lt (p := p) (.tail _ hp)
     exact Nat.lt_irrefl _ (e ▸ this)
   ·rw [List.mem_singleton] at hb'
    subst hb'
    refine ⟨hI, fun q => ?_⟩
    rcases List.mem_cons.mp q with q | q
    ·exact hLI q.symm
    ·obtain ⟨p, hp, e⟩ := List.mem_map.mp q
     exact hTI p hp e
end
end
section
section
variable {w : World} {A : Around} {E : Value → Shared → Prop} {s : Shared} {hb : Heap} {L : Addr} {l : List (Str × Value)} {T : List (Addr × Obj)} {R : Result → Shared → Prop}
theorem calc_ratioT (G : Gd (KN w.params) tabs hb) (S : St hb tabs L l T s.heap) (hd : A.depth < recursionLimit) {m n : Int} {t u : Tok} (m0 : 0 ≤ m) (m1 : m ≤ 1000) (n0 : 0 ≤ n) (n1 : n ≤ 1000)
  (k : ∀ h' tk t', s.toks ≤ t' → t' < tk → St hb tabs L l T h' → R (.ok (.ret (.float (share m n) t'))) { s with heap := h', toks := tk }) :
  codeAny (model pw w) A (.call (.ref 173) ⟨[.int m t, .int n u], []⟩) R s := by
 refine c_def G S (lk173 _) hd (binds := [(Str.ofString "matches", .int m t), (Str.ofString "length", .int n u)]) (body := fnBody (st1 pw 5)) (BindsTo.of_eq (by kernel_rfl)) ?_
 intro L' h₁ oL r S'
 refine q_if ?_
 refine isTrue_plain ?_
 refine r_local S' (.tail _ (.head _)) ?_
 refine truthy_int ⟨fun hb => ?_, fun hb => ?_⟩
 ·have hn : n ≠ 0 := by simpa using hb
  have hO : ¬ PySem.Flt.Over n := fun q => by
   have := small_fits n0 n1
   unfold PySem.Flt.Over at q
   omega
  refine q_ret ?_
  refine wpAny_BinOp ?_
  refine wpAny_BinOp ?_
  refine AutoFloatOps.wpAny_Constant_float ?_
  refine r_local S' (.head _) ?_
  refine mul_fi_fits (small_fits m0 m1) ?_
  refine r_local S' (.tail _ (.head _)) ?_
  refine AutoFloatOps.truediv_fi_2 (PySem.Flt.fin_of_fits hO) (fun x => hn ((PySem.Flt.isZero_ofInt n).mp x)) ?_
  have e : share m n = Float64.div (Float64.mul 4611686018427387904 (Float64.ofInt m)) (Float64.ofInt n) := if_neg hn
  refine e ▸ k _ _ _ ?_ ?_ (S'.leave 0 rfl r)
  ·simp only [List.length_cons, List.length_nil]; omega
  ·simp only [List.length_cons, List.length_nil]; omega
 ·have hn : n = 0 := by simpa using hb
  refine q_nil ?_
  refine q_ret ?_
  refine AutoFloatOps.wpAny_Constant_float ?_
  have e : share m n = 4607182418800017408 := if_pos hn
  refine e ▸ k _ _ _ ?_ ?_ (S'.leave 0 rfl r)
  ·simp only [List.length_cons, List.length_nil]; omega
  ·simp only [List.length_cons, List.length_nil]; omega
end
end
section
theorem boot_sum : bootBuiltins (Str.ofString "sum") = some (.builtin "sum") := by decide +kernel
theorem sumI (l : List Bk) : (l.map fun e => (e.b.2.2 : Int)).sum = (sumB l : Int) := by
 induction l with
 | nil => rfl
 | cons e l ih =>
  rw [List.map_cons, List.sum_cons, ih]
  show _ = ((e.b.2.2 + sumB l : Nat) : Int)
  omega
theorem mt_deque {M : Model} {h : Heap} {w : World} (X : (KN w.params).In h) : Looks M h (isSubtype (.ref 163) (.type "collections.deque")) false := looks_mroIn X (by kernel_rfl)
theorem mt_last {w : World} {A : Around} {E : Value → Shared → Prop} {s : Shared} {m dd : Addr} {a b c : Value} {t : Tok} {Q : Value → Shared → Prop} {value slice : Expr} (X : (KN w.params).In s.heap) (hm : s.heap.get? m = some (moO dd [a, b, c])) (h : Q c s)
  (hs : subscripted slice false (.ref m) (.int (-1) t) = operate [.ref m, .int (-1) t] (getItem (.ref m) (.int (-1) t)) := by with_unfolding_all rfl) : wpAny (model pw w) A (subscriptTail value slice (.ref m) (.int (-1) t)) Q E s := by
 have t1 : Looks (model pw w) s.heap (typeOf (.ref m)) (.ref 163) := (Looks.ld hm).andThen .now
 have t2 : Looks (model pw w) s.heap (isInstance (.ref m) (.type "tuple")) true := t1.andThen (mt_sub X)
 have t3 : Looks (model pw w) s.heap (specialOf (.ref m) "__getitem__") (some (.builtin "tuple.__getitem__")) := t1.andThen (looks_findIn X (mt_getitem w))
 have hg : wpAny (model pw w) A (getItem (.ref m) (.int (-1) t)) Q E s := by
  unfold getItem
  try with_reducible refine wpAny_holding ?_
  first | refine wpAny_bind (wpAny_pure ?_) | skip
  refine wpAny_bind (m := sequenceKey _ _ _) ?_
  unfold sequenceKey
  refine wpAny_bind (t1.here ?_)
  show wpAny _ _ (seqItemTypes.anyM (fun n => isSubtype (.ref 163) (.type n)) >>= _) _ _ s
  refine wpAny_bind ?_
  show wpAny _ _ (isSubtype (.ref 163) (.type "collections.deque") >>= _) _ _ s
  refine wpAny_bind ((mt_deque X).here ?_)
  refine wpAny_pure ?_
  refine wpAny_pure ?_
  refine wpAny_bind (m := callSpecial? (.ref m) (Str.ofString "__getitem__") _ _) ?_
  simp only [callSpecial?]
  refine wpAny_bind (t3.here (wpAny_holding ?_))
  rw [PySem.F.slot_tuple_getitem.bind]
  refine wpAny_bind (wpAny_pure ?_)
  refine wpAny_bind (wpAny_call (codeAny_call_builtin tg_plain PySem.F.entry_tuple_getitem (@check_slot (model pw w) _ _ _ "tuple.__getitem__" "tuple" "__getitem__" (.ref m) [.int (-1) t] [] _ tg_kind tg_split t2 (PySem.F.args_tuple_getitem_2 _ _) ?_)))
  show wpAny _ _ (Builtin.Tuple.tupleItemsOf (.ref m) >>= _) _ _ s
  refine wpAny_bind (wpAny_bind (wpAny_seqItems hm rfl (wpAny_pure ?_)))
  refine wpAny_bind (wpAny_typeOf (typeIs_int s _ _) ?_)
  rw [if_neg (by decide)]
  refine wpAny_bind (wpAny_specialOf (T := "int") (typeIs_int s _ _) int_index ?_)
  rw [if_neg (by simp)]
  refine wpAny_bind (wpAny_of_eq (a := (-1 : Int)) rfl ?_)
  rw [if_neg (by decide)]
  refine wpAny_pure (wpAny_pure ?_)
  exact wpAny_pure h
 unfold subscriptTail
 refine wpAny_bind ?_
 unfold getitemInPython
 refine wpAny_bind (t3.here ?_)
 refine wpAny_pure ?_
 refine wpAny_bind ?_
 rw [hs]
 exact wpAny_operating (wpAny_mono hg (fun r s₃ h₃ => wpAny_bind (wpAny_letTemporaryGo (wpAny_pure h₃))) fun _ _ x => x)
section
variable {w : World} {A : Around} {E : Value → Shared → Prop} {s : Shared} {hb : Heap} {L x dx d2 sj : Addr} {T : List (Addr × Obj)} {l : List (Str × Value)} {va vb fc sp : Value} {la lb : List Str} {Ra Rb : List (Addr × Obj)} {R : Result → Shared → Prop}
theorem restateT {α : Type} {M : Model} {A : Around} {E : Value → Shared → Prop} {s : Shared} {hb : Heap} {tabs : List Addr} {L : Addr} {l : List (Str × Value)} {T : List (Addr × Obj)} {t : Sem α} {Q : α → Shared → Prop} (S : St hb tabs L l T s.heap) (h : ∀ s', Kp s s' → s.toks ≤ s'.toks → St hb tabs L l T s'.heap → wpAny M A t Q E s') : wpAny M A t Q E s := h s Kp.refl (Nat.le_refl _) S
theorem ratio_any {P : List (Addr × Obj) → Obj → Addr → Prop} (G : Gd (KN w.params) tabs hb) (B : BM hb) (S : St hb tabs L l T s.heap) (hd : A.depth + 2 < recursionLimit) (hh : A.handled = none) (hx : (x, smO dx) ∈ T) {od : Obj} {mb : Value} (hdx : (dx, od) ∈ T) (hf : FlObj od (mf va vb mb fc (.ref d2) (.ref sj) sp))
  (Va : SqV pw w hb tabs Ra va la) (Vb : SqV pw w hb tabs Rb vb lb)
  (hcall : ∀ (A' : Around) s₁ L' l' oL (R' : Result → Shared → Prop), A'.depth = A.depth + 1 → A'.units ≤ A.units + 10 → A'.handled = none → St hb tabs L' l' ((L, oL) :: T) s₁.heap →
   (∀ s' T' lst od', Kp s₁ s' → St hb tabs L' l' ((L, oL) :: T') s'.heap → P T' od' lst → R' (.ok (.ret (.ref lst))) s') → codeAny (model pw w) A' (.call (.ref 231) ⟨[.ref x], []⟩) R' s₁)
  (hP : ∀ T' od' lst, P T' od' lst → ∃ Ms nb, (x, smO dx) ∈ T' ∧ (dx, od') ∈ T' ∧ FlObj od' (mf va vb (.ref lst) fc (.ref d2) (.ref sj) sp) ∧ (lst, lstO (refsB Ms) nb) ∈ T' ∧ MOk T' Ms ∧ sumB Ms = mall la lb ∧ Ms.length ≤ 100 ∧ (∀ p ∈ Ra, p ∈ T') ∧ ∀ p ∈ Rb, p ∈ T')
  (k : ∀ s' T' od' lst t, s.toks ≤ t → t < s'.toks → Kp s s' → St hb tabs L l T' s'.heap → P T' od' lst → R (.ok (.ret (.float (share (mall la lb) (la.length + lb.length)) t))) s') :
  codeAny (model pw w) A (.call (.ref 253) ⟨[.ref x], []⟩) R s := by
 refine c_def G S (lk253 _) (by omega) (binds := [(Str.ofString "self", .ref x)]) (body := fnBody (st2 pw 6 10)) (BindsTo.of_eq (by kernel_rfl)) ?_
 intro L' h₁ oL r S'
 refine q_doc ?_
 refine q_assign ?_
 refine wpAny_with_toks (n := s.toks) (by simp only [List.length_cons, List.length_nil]; omega) ?_
 refine r_call ?_
 refine r_builtin G S' boot_sum ?_
 refine cw_builtin ?_
 refine args_cons ?_
 refine wpAny_mono (E := _) ?_ (fun v s' h => args_nil h) (fun _ _ h => h)
 refine r_sumgen (cl := []) G B hh (by show A.depth + 1 < _; omega) (c := 252) rfl (oc := o252 w.params) (by kernel_rfl) rfl rfl ⟨_, _, _, _, _, _, _, rfl, rfl, rfl, rfl, rfl, rfl⟩ (.head _) rfl ?_ rfl rfl (by decide) rfl rfl rfl (fun _ => rfl)
 refine m_call ?_
 refine r_local S' m0 ?_
 refine r_meth (f := 231) G S' (.tail _ hx) (.tail _ hdx) hf ?_
 refine cw_ref G ?_
 refine args_nil ?_
 refine ⟨⟨_, _, _, S'⟩, ?_⟩
 refine hcall _ _ L' _ oL _ rfl (by show A.units + 3 ≤ _; omega) hh (by exact S') ?_
 intro s₂ T' lst od' K₂ S₂ hPT
 obtain ⟨Ms, nb, hx', hdx', hf', hl', hM, hsum, hlen, hRa, hRb⟩ := hP _ _ _ hPT
 refine ⟨L', _, (L, oL) :: T', lst, refsB Ms, nb, fun i => (Ms.map fun e => (e.b.2.2 : Int)).getD i 0, rfl, S₂, .tail _ hl', ?_, ?_⟩
 ·intro A' E' i v C code bi s₃ m₂ hA' hi X hT hn hm
  refine Subscript_ ?_
  refine wpAny_Name (wpAny_loadName_local rfl rfl hn hm ?_) rfl
  refine wpAny_UnaryOp ?_
  refine wpAny_Constant_int ?_
  refine neg_int ?_
  have hv : ∃ e, Ms[i]? = some e ∧ v = .ref e.a := by
   rw [refsB, List.getElem?_map] at hi
   obtain ⟨e, h1, h2⟩ := Option.map_eq_some_iff.mp hi
   exact ⟨e, h1, h2.symm⟩
  obtain ⟨e, he, rfl⟩ := hv
  obtain ⟨dd, u1, u2, u3, hme⟩ := hM e (List.mem_of_getElem? he)
  refine mt_last X (hT _ (.tail _ hme)) ⟨⟨u3, ?_⟩, _, _, rfl, fun _ _ e => e⟩
  simp [he]
 intro s₃ t₃ K₃ S₃
 rw [preSum_getD, refsB_len, show Ms.length = (Ms.map fun e => (e.b.2.2 : Int)).length from (List.length_map ..).symm, List.take_length, sumI, hsum] at *
 replace K₃ : Kp s s₃ := ⟨K₃.os.trans K₂.os, fun z => K₃.gens (K₂.gens z)⟩
 intro hk₃
 refine r_store S₃ (.new (by kernel_rfl)) ?_
 intro h₄ S₄
 refine restateT (by exact S₄) fun s₄ K₄ hk₄ S₄ => ?_
 replace K₄ : Kp s s₄ := ⟨K₄.os.trans K₃.os, fun z => K₄.gens (K₃.gens z)⟩
 refine q_ret ?_
 refine r_call ?_
 refine r_global G S₄ (v := .ref 173) (by kernel_rfl) ?_
 refine cw_ref G ?_
 refine wpAny_with_toks (n := s.toks) (by simp only at hk₄; omega) ?_
 refine args_cons ?_
 refine r_local S₄ m0 ?_
 refine args_cons ?_
 refine wpAny_BinOp ?_
 refine r_call ?_
 refine r_builtin G S₄ boot_len ?_
 refine cw_builtin ?_
 refine args_cons ?_
 refine r_dot ?_
 refine r_local S₄ m1 ?_
 refine r_attr G S₄ (.tail _ hx') (.tail _ hdx') hf' m1 ?_ (hv := Va.hand)
 refine args_nil ?_
 refine Va.len S₄ (fun p hp => .tail _ (hRa p hp)) ?_
 intro t₅ tk₅
 refine r_call ?_
 refine r_builtin G S₄ boot_len ?_
 refine cw_builtin ?_
 refine args_cons ?_
 refine r_dot ?_
 refine r_local S₄ m1 ?_
 refine r_attr G S₄ (.tail _ hx') (.tail _ hdx') hf' m2 ?_ (hv := Vb.hand)
 refine args_nil ?_
 refine Vb.len S₄ (fun p hp => .tail _ (hRb p hp)) ?_
 intro t₆ tk₆
 refine add_int ?_
 refine args_nil ?_
 intro hk₅
 refine ⟨⟨_, _, _, S₄⟩, ?_⟩
 have ha := Va.small
 have hb' := Vb.small
 have hm := mall_le la lb
 refine calc_ratioT (A := A.deeper (callEnv (fd253 w.params) L' 253)) (m := (mall la lb : Int)) (n := (la.length : Int) + (lb.length : Int)) G (by exact S₄) (by show A.depth + 1 < _; omega) (by omega) (by omega) (by omega) (by omega) ?_
 intro h₇ tk₇ t₇ ht1 ht2 S₇
 exact k _ T' od' lst _ (Nat.le_trans hk₅ ht1) ht2 ⟨K₄.os, K₄.gens⟩ (S₇.leave 0 rfl r) hPT
end
end
section
section
variable {w : World} {A : Around} {E : Value → Shared → Prop} {s : Shared} {hb : Heap} {L x dx d2 sj : Addr} {T : List (Addr × Obj)} {l : List (Str × Value)} {va vb fc sp mb : Value} {la lb : List Str} {Ra Rb : List (Addr × Obj)} {R : Result → Shared → Prop} {od o2 : Obj} {rows : List JRow} {led : Bool}
def MbOk (T : List (Addr × Obj)) (mb : Value) (la lb : List Str) : Prop := mb = .none ∨ ∃ lst Ms nb, mb = .ref lst ∧ (lst, lstO (refsB Ms) nb) ∈ T ∧ MOk T Ms ∧ sumB Ms = mall la lb ∧ Ms.length ≤ 100
theorem MbOk.mono {T T' : List (Addr × Obj)} {mb : Value} (h : MbOk T mb la lb) (hs : ∀ p ∈ T, p ∈ T') : MbOk T' mb la lb := by
 rcases h with h | ⟨lst, Ms, nb, a, b, c, d⟩
 ·exact .inl h
 ·exact .inr ⟨lst, Ms, nb, a, hs _ b, c.mono hs, d⟩
theorem ratio_sm {T₀ : List (Addr × Obj)} (hT₀ : ∀ p ∈ T₀, p ∈ T) {r : Addr × Obj} (G : Gd (KN w.params) tabs hb) (B : BM hb) (S : St hb tabs L l ((x, smO dx) :: (dx, od) :: r :: T) s.heap) (hd : A.depth + 6 < recursionLimit) (hu : A.units + 40 < cLine) (hh : A.handled = none) (hf : FlObj od (mf va vb mb fc (.ref d2) (.ref sj) sp)) (hmb : MbOk T₀ mb la lb)
  (hd2 : (d2, o2) ∈ T) (ho2 : o2.IsDictOf (PySem.strKind pw w) (rows.map JRow.kv)) (hrows : Rows2 lb rows) (hob : ∀ r ∈ rows, r.ob ∈ T) (hsj : (sj, setO led) ∈ T)
  (Va : SqV pw w hb tabs Ra va la) (Vb : SqV pw w hb tabs Rb vb lb) (hRa : ∀ p ∈ Ra, p ∈ T) (hRb : ∀ p ∈ Rb, p ∈ T)
  (k : ∀ s' od' X mb' t, s.toks ≤ t → t < s'.toks → Kp s s' → St hb tabs L l ((x, smO dx) :: (dx, od') :: r :: (X ++ T)) s'.heap → FlObj od' (mf va vb mb' fc (.ref d2) (.ref sj) sp) → MbOk (X ++ T₀) mb' la lb → R (.ok (.ret (.float (share (mall la lb) (la.length + lb.length)) t))) s') :
  codeAny (model pw w) A (.call (.ref 253) ⟨[.ref x], []⟩) R s := by
 refine ratio_any (Ra := Ra) (Rb := Rb) (P := fun T' od' lst => ∃ X Ms nb, T' = (x, smO dx) :: (dx, od') :: r :: (X ++ T) ∧ FlObj od' (mf va vb (.ref lst) fc (.ref d2) (.ref sj) sp) ∧ (lst, lstO (refsB Ms) nb) ∈ X ++ T₀ ∧ MOk (X ++ T₀) Ms ∧ sumB Ms = mall la lb ∧ Ms.length ≤ 100) G B S (by omega) hh m0 m1 hf Va Vb ?_ ?_ ?_
 ·intro A' s₁ L' l' oL R' hd' hu' hh' S₁ k'
  have S₂ := S₁.perm (T' := (x, smO dx) :: (dx, od) :: ((L, oL) :: r :: T)) ((List.perm_append_comm (l₁ := [(L, oL)]) (l₂ := [(x, smO dx), (dx, od)])).append_right (r :: T))
  rcases hmb with rfl | ⟨lst, Ms, nb, rfl, h1, h2, h3, h4⟩
  ·refine gmb_c G S₂ (by omega) (by omega) hh' hf (.tail _ (.tail _ hd2)) ho2 hrows (fun r hr => .tail _ (.tail _ (hob r hr))) (.tail _ (.tail _ hsj)) Va Vb (fun p hp => .tail _ (.tail _ (hRa p hp))) (fun p hp => .tail _ (.tail _ (hRb p hp))) ?_
   intro s' od' X lst Ms nb K S₃ hf' hM hs hl
   have S₄ := S₃.perm (T' := (L, oL) :: ((x, smO dx) :: (dx, od') :: r :: (((lst, lstO (refsB Ms) nb) :: X) ++ T))) (by
    have e : (x, smO dx) :: (dx, od') :: ((lst, lstO (refsB Ms) nb) :: X ++ ((L, oL) :: r :: T)) = ((x, smO dx) :: (dx, od') :: (lst, lstO (refsB Ms) nb) :: X) ++ ((L, oL) :: r :: T) := by simp
    rw [e]
    exact List.perm_middle.trans (List.Perm.cons _ (List.Perm.cons _ (List.Perm.cons _ List.perm_middle))))
   exact k' s' _ lst od' K S₄ ⟨(lst, lstO (refsB Ms) nb) :: X, Ms, nb, rfl, hf', .head _, hM.mono fun p hp => .tail _ (List.mem_append_left _ hp), hs, hl⟩
  ·refine gmb_cached (va := va) (vb := vb) (fc := fc) (d2 := d2) (sj := sj) (sp := sp) (lst := lst) G S₂ (by omega) m0 m1 hf ?_
   intro s' K S₃
   have S₄ := S₃.perm (T' := (L, oL) :: ((x, smO dx) :: (dx, od) :: r :: ([] ++ T))) (by
    rw [List.nil_append]
    exact (List.perm_append_comm (l₁ := [(x, smO dx), (dx, od)]) (l₂ := [(L, oL)])).append_right (r :: T))
   exact k' s' _ lst od K S₄ ⟨[], Ms, nb, rfl, hf, h1, h2, h3, h4⟩
 ·rintro T' od' lst ⟨X, Ms, nb, rfl, hf', h1, h2, h3, h4⟩
  have up : ∀ p, p ∈ X ++ T₀ → p ∈ X ++ T := fun p hp => by
   rcases List.mem_append.mp hp with q | q
   ·exact List.mem_append_left _ q
   ·exact List.mem_append_right _ (hT₀ _ q)
  replace h1 := up _ h1
  replace h2 := h2.mono up
  exact ⟨Ms, nb, m0, m1, hf', .tail _ (.tail _ (.tail _ h1)), h2.mono fun p hp => .tail _ (.tail _ (.tail _ hp)), h3, h4, fun p hp => .tail _ (.tail _ (.tail _ (List.mem_append_right _ (hRa p hp)))), fun p hp => .tail _ (.tail _ (.tail _ (List.mem_append_right _ (hRb p hp))))⟩
 ·rintro s' T' od' lst t ht1 ht2 K S' ⟨X, Ms, nb, rfl, hf', h1, h2, h3, h4⟩
  exact k s' od' X (.ref lst) t ht1 ht2 K S' hf' (.inr ⟨lst, Ms, nb, rfl, h1, h2, h3, h4⟩)
end
end
section
abbrev strV (p : Str × Tok) : Value := .str p.1 p.2
structure Sc where
 a : Addr
 f : UInt64
 ft : Tok
 x : Str × Tok
def refsS (l : List Sc) : List Value := l.map fun e => .ref e.a
def SOk (T : List (Addr × Obj)) (l : List Sc) : Prop := ∀ e ∈ l, (e.a, tupO [.float e.f e.ft, strV e.x]) ∈ T
theorem SOk.mono {T T' : List (Addr × Obj)} {l : List Sc} (h : SOk T l) (hs : ∀ p ∈ T, p ∈ T') : SOk T' l := fun e he => hs _ (h e he)
theorem refsS_snoc (l : List Sc) (e : Sc) : refsS (l ++ [e]) = refsS l ++ [.ref e.a] := by simp [refsS]
theorem refsS_len (l : List Sc) : (refsS l).length = l.length := by simp [refsS]
structure CutV (w : World) (cut : Value) (g : UInt64 → Bool) : Prop where
 ge : ∀ {A : Around} {E : Value → Shared → Prop} {s : Shared} {f : UInt64} {t : Tok} {Q : Value → Shared → Prop}, Q (.bool (g f)) s → wpAny (model pw w) A (compareOp .GtE (.float f t) cut) Q E s
 lo : ∀ {A : Around} {E : Value → Shared → Prop} {s : Shared} {t : Tok} {Q : Value → Shared → Prop}, Q (.bool true) s → wpAny (model pw w) A (compareOp .LtE (.float 0 t) cut) Q E s
 hi : ∀ {A : Around} {E : Value → Shared → Prop} {s : Shared} {t : Tok} {Q : Value → Shared → Prop}, Q (.bool true) s → wpAny (model pw w) A (compareOp .LtE cut (.float 4607182418800017408 t)) Q E s
def scr (x wd : Str) : UInt64 := share (mall (letters x) (letters wd)) ((letters x).length + (letters wd).length)
def kept (g : UInt64 → Bool) (x wd : Str) : Bool :=
 g (share (min (letters x).length (letters wd).length) ((letters x).length + (letters wd).length)) && (g (share (qp (letters wd) (letters x)) ((letters x).length + (letters wd).length)) && g (scr x wd))
theorem pswap {α : Type} {t a b r : α} {Z : List α} : (t :: a :: b :: r :: Z).Perm (r :: a :: b :: t :: Z) :=
 ((List.perm_append_comm (l₁ := [t, a, b]) (l₂ := [r])).append_right Z).trans ((List.Perm.cons r (List.perm_append_comm (l₁ := [t]) (l₂ := [a, b]))).append_right Z)
theorem pback {α : Type} {a b r : α} {Z : List α} : (a :: b :: r :: Z).Perm (r :: a :: b :: Z) := (List.perm_append_comm (l₁ := [a, b]) (l₂ := [r])).append_right Z
section
variable {w : World} {A : Around} {E : Value → Shared → Prop} {s : Shared} {hb : Heap} {L L' x dx d2 sj sm res pd : Addr} {T X own : List (Addr × Obj)} {l : List (Str × Value)} {fc sp mb cut nv : Value} {R : Result → Shared → Prop} {od o2 : Obj} {rows : List JRow} {led : Bool} {wd p xv : Str × Tok} {Es : List Sc} {nr : Nat} {g : UInt64 → Bool}
abbrev nmC (sm res pd : Addr) (wd : Str × Tok) (nv cut : Value) : List (Str × Value) := [(Str.ofString "s", .ref sm), (Str.ofString "result", .ref res), (Str.ofString "word", strV wd), (Str.ofString "possibilities", .ref pd), (Str.ofString "n", nv), (Str.ofString "cutoff", cut)]
abbrev ev286 (w : World) (L' : Addr) : Env := callEnv (fd286 w.params) L' 286
abbrev gcmB : List Stmt := forBody (((fnBody (st1 pw 10))[6]?).getD default)
theorem gcm_turn (G : Gd (KN w.params) tabs hb) (B : BM hb) (hd : A.depth + 12 < recursionLimit) (hu : A.units + 80 < cLine) (hh : A.handled = none) (C : CutV w cut g)
  (S : St hb tabs L' (nmC sm res pd wd nv cut) ((res, lstO (refsS Es) nr) :: (sm, smO dx) :: (dx, od) :: (X ++ T ++ own)) s.heap) (hlen : Es.length ≤ 60)
  (hf : FlObj od (mf (strV p) (strV wd) mb fc (.ref d2) (.ref sj) sp)) (hmb : MbOk (X ++ T) mb (letters p.1) (letters wd.1)) (hfc : Fc w (X ++ T) fc (letters wd.1))
  (hd2 : (d2, o2) ∈ T) (ho2 : o2.IsDictOf (PySem.strKind pw w) (rows.map JRow.kv)) (hrows : Rows2 (letters wd.1) rows) (hob : ∀ r ∈ rows, r.ob ∈ T) (hsj : (sj, setO led) ∈ T)
  (hp0 : p.2 ≠ 0) (hx0 : xv.2 ≠ 0) (hpx : xv.2 = p.2 → xv.1 = p.1) (hps : p.1.cps.size ≤ 60) (hxs : xv.1.cps.size ≤ 60) (hws : wd.1.cps.size ≤ 60) {Q : Flow → Shared → Prop}
  (k : ∀ s' od' mb' fc' p' X' Es' nr', Kp s s' → St hb tabs L' (nmC sm res pd wd nv cut) ((res, lstO (refsS Es') nr') :: (sm, smO dx) :: (dx, od') :: (X' ++ X ++ T ++ own)) s'.heap →
   FlObj od' (mf (strV p') (strV wd) mb' fc' (.ref d2) (.ref sj) sp) → MbOk (X' ++ X ++ T) mb' (letters p'.1) (letters wd.1) → Fc w (X' ++ X ++ T) fc' (letters wd.1) → (p' = p ∨ p' = xv) →
   (kept g xv.1 wd.1 = false ∧ Es' = Es ∨ kept g xv.1 wd.1 = true ∧ ∃ a t, Es' = Es ++ [⟨a, scr xv.1 wd.1, t, xv⟩] ∧ (a, tupO [.float (scr xv.1 wd.1) t, strV xv]) ∈ X' ∧ s.toks ≤ t ∧ t < s'.toks) → s.toks ≤ s'.toks → Q .next s')
  {tgt : Expr} (htg : tgt = (match ((fnBody (st1 pw 10))[6]?).getD default with | .For t _ _ _ _ => t | _ => default)) :
  wpAny (model pw w) (A.deeper (ev286 w L')) (assign tgt (ev286 w L') (strV xv)) (fun _ s₂ => wpAny (model pw w) (A.deeper (ev286 w L')) (execs gcmB (ev286 w L')) Q E s₂) E s := by
 subst htg
 have Vx := sq_str (prog := pw) (w := w) (hb := hb) (tabs := tabs) xv.1 xv.2 hxs
 have Vp := fun h => sq_str (prog := pw) (w := w) (hb := hb) (tabs := tabs) p.1 p.2 h
 have Vw := sq_str (prog := pw) (w := w) (hb := hb) (tabs := tabs) wd.1 wd.2 hws
 refine as_name ?_
 refine r_store S (.new (by kernel_rfl)) ?_
 intro h₁ S₁
 refine restateT (by exact S₁) fun s₁ K₁ hk₁ S₁ => ?_
 replace K₁ : Kp s s₁ := ⟨K₁.os, K₁.gens⟩
 have rest : ∀ (s₂ : Shared) od₂ mb₂ p₂ {E' : Value → Shared → Prop}, s.toks ≤ s₂.toks → Kp s s₂ → St hb tabs L' ((Str.ofString "x", strV xv) :: nmC sm res pd wd nv cut) ((sm, smO dx) :: (dx, od₂) :: (res, lstO (refsS Es) nr) :: (X ++ T ++ own)) s₂.heap →
   FlObj od₂ (mf (strV p₂) (strV wd) mb₂ fc (.ref d2) (.ref sj) sp) → MbOk (X ++ T) mb₂ (letters p₂.1) (letters wd.1) → (p₂ = p ∨ p₂ = xv) → p₂.1 = xv.1 →
   wpAny (model pw w) (A.deeper (ev286 w L')) (execs (gcmB.drop 1) (ev286 w L')) Q E' s₂ := by
  intro s₂ od₂ mb₂ p₂ E' hk₂ K₂ S₂ hf₂ hmb₂ hp₂ he₂
  obtain ⟨y, ty⟩ := p₂
  dsimp only at he₂ hmb₂
  subst he₂
  have Va := sq_str (prog := pw) (w := w) (hb := hb) (tabs := tabs) xv.1 ty hxs
  have hsa := Va.small
  have hsb := Vw.small
  refine q_ifP (fun s₅ => ∃ od' mb' fc' X' Es' nr', Kp s s₅ ∧ St hb tabs L' ((Str.ofString "x", strV xv) :: nmC sm res pd wd nv cut) ((res, lstO (refsS Es') nr') :: (sm, smO dx) :: (dx, od') :: (X' ++ X ++ T ++ own)) s₅.heap ∧
   FlObj od' (mf (strV (xv.1, ty)) (strV wd) mb' fc' (.ref d2) (.ref sj) sp) ∧ MbOk (X' ++ X ++ T) mb' (letters xv.1) (letters wd.1) ∧ Fc w (X' ++ X ++ T) fc' (letters wd.1) ∧
   (kept g xv.1 wd.1 = false ∧ Es' = Es ∨ kept g xv.1 wd.1 = true ∧ ∃ a t, Es' = Es ++ [⟨a, scr xv.1 wd.1, t, xv⟩] ∧ (a, tupO [.float (scr xv.1 wd.1) t, strV xv]) ∈ X' ∧ s.toks ≤ t ∧ t < s₅.toks) ∧ s.toks ≤ s₅.toks) ?_ ?_
  ·refine wpAny_with_toks (n := s.toks) hk₂ ?_
   refine r_and ?_
   refine wpAny_isTrue_Compare1 ?_
   refine m_call ?_
   refine r_local S₂ m1 ?_
   refine r_meth (f := 267) G S₂ m0 m1 hf₂ ?_
   refine cw_ref G ?_
   refine args_nil ?_
   refine ⟨⟨_, _, _, S₂⟩, ?_⟩
   refine real_quick G S₂ (by show A.depth + 1 + 1 < _; omega) hh m0 m1 hf₂ m1 m2 Va Vw (fun p hp => by cases hp) (fun p hp => by cases hp) ?_
   intro h₃ tk₃ t₃ S₃
   refine r_local S₃ m6 ?_
   refine C.ge ?_
   refine restate (by exact S₃) fun s₃ K₃ S₃ => ?_
   replace K₃ : Kp s s₃ := ⟨K₃.os.trans K₂.os, fun z => K₃.gens (K₂.gens z)⟩
   refine wpAny_truthy_bool ⟨fun g1 => ?_, fun g1 => ?_⟩
   ·refine r_and ?_
    refine wpAny_isTrue_Compare1 ?_
    refine m_call ?_
    refine r_local S₃ m1 ?_
    refine r_meth (f := 260) G S₃ m0 m1 hf₂ ?_
    refine cw_ref G ?_
    refine args_nil ?_
    refine ⟨⟨_, _, _, S₃⟩, ?_⟩
    refine quick_ratio (T₀ := X ++ T) (fun p hp => .tail _ (List.mem_append_left _ hp)) G S₃ (by show A.depth + 1 + 1 < _; omega) hh hf₂ hfc Va Vw (fun p hp => by cases hp) (fun p hp => by cases hp) ?_
    intro s₄ t₄ od₄ X₄ fc₄ K₄ S₄ hf₄ hfc₄
    replace K₄ : Kp s s₄ := ⟨K₄.os.trans K₃.os, fun z => K₄.gens (K₃.gens z)⟩
    replace S₄ := S₄.perm (T' := (sm, smO dx) :: (dx, od₄) :: (res, lstO (refsS Es) nr) :: (X₄ ++ X ++ T ++ own)) (by rw [show X₄ ++ X ++ T ++ own = X₄ ++ (X ++ T ++ own) by simp]; exact List.Perm.cons _ (List.Perm.cons _ List.perm_middle))
    have hfc₄' : Fc w (X₄ ++ X ++ T) fc₄ (letters wd.1) := by rw [List.append_assoc]; exact hfc₄
    refine r_local S₄ m6 ?_
    refine C.ge ?_
    refine wpAny_truthy_bool ⟨fun g2 => ?_, fun g2 => ?_⟩
    ·refine r_and ?_
     refine wpAny_isTrue_Compare1 ?_
     refine m_call ?_
     refine r_local S₄ m1 ?_
     refine r_meth (f := 253) G S₄ m0 m1 hf₄ ?_
     refine cw_ref G ?_
     refine args_nil ?_
     refine ⟨⟨_, _, _, S₄⟩, ?_⟩
     have hin : ∀ p, p ∈ T → p ∈ X₄ ++ X ++ T ++ own := fun p hp => List.mem_append_left _ (List.mem_append_right _ hp)
     have hmb₄ : MbOk (X₄ ++ X ++ T) mb₂ (letters xv.1) (letters wd.1) := hmb₂.mono fun p hp => by rw [List.append_assoc]; exact List.mem_append_right _ hp
     refine ratio_sm (T₀ := X₄ ++ X ++ T) (fun p hp => List.mem_append_left _ hp) G B S₄ (by show A.depth + 1 + 6 < _; omega) (by show A.units + 3 + 40 < _; omega) hh hf₄ hmb₄ (hin _ hd2) ho2 hrows (fun r hr => hin _ (hob r hr)) (hin _ hsj) Va Vw (fun p hp => by cases hp) (fun p hp => by cases hp) ?_
     intro s₅ od₅ X₅ mb₅ t₅ _ _ K₅ S₅ hf₅ hmb₅
     replace K₅ : Kp s s₅ := ⟨K₅.os.trans K₄.os, fun z => K₅.gens (K₄.gens z)⟩
     have hfc₅ : Fc w (X₅ ++ (X₄ ++ X ++ T)) fc₄ (letters wd.1) := hfc₄'.mono fun p hp => List.mem_append_right _ hp
     rw [show X₅ ++ (X₄ ++ X ++ T) = X₅ ++ X₄ ++ X ++ T by simp] at hmb₅ hfc₅
     rw [show X₅ ++ (X₄ ++ X ++ T ++ own) = X₅ ++ X₄ ++ X ++ T ++ own by simp] at S₅
     refine r_local S₅ m6 ?_
     refine C.ge ?_
     refine wpAny_truthy_bool ⟨fun g3 => ?_, fun g3 => ?_⟩
     ·refine isTrue_and_nil fun hk₅ => ⟨fun _ => ?_, nofun⟩
      have hk : kept g xv.1 wd.1 = true := by
       unfold kept scr
       rw [g1, g2, g3]; rfl
      refine q_expr ?_
      refine m_call ?_
      refine r_local S₅ m2 ?_
      refine r_lmeth S₅ m2 PySem.F.slot_list_append type_list_append ?_
      refine cw_builtin ?_
      refine args_cons ?_
      refine r_tuple ?_
      refine args_cons ?_
      refine m_call ?_
      refine r_local S₅ m1 ?_
      refine r_meth (f := 253) G S₅ m0 m1 hf₅ ?_
      refine cw_ref G ?_
      refine args_nil ?_
      refine ⟨⟨_, _, _, S₅⟩, ?_⟩
      have hin₅ : ∀ p, p ∈ T → p ∈ X₅ ++ X₄ ++ X ++ T ++ own := fun p hp => List.mem_append_left _ (List.mem_append_right _ hp)
      refine ratio_sm (T₀ := X₅ ++ X₄ ++ X ++ T) (fun p hp => List.mem_append_left _ hp) G B S₅ (by show A.depth + 1 + 6 < _; omega) (by show A.units + 3 + 40 < _; omega) hh hf₅ hmb₅ (hin₅ _ hd2) ho2 hrows (fun r hr => hin₅ _ (hob r hr)) (hin₅ _ hsj) Va Vw (fun p hp => by cases hp) (fun p hp => by cases hp) ?_
      intro s₆ od₆ X₆ mb₆ t₆ ht1 ht2 K₆ S₆ hf₆ hmb₆
      replace K₆ : Kp s s₆ := ⟨K₆.os.trans K₅.os, fun z => K₆.gens (K₅.gens z)⟩
      have hfc₆ : Fc w (X₆ ++ (X₅ ++ X₄ ++ X ++ T)) fc₄ (letters wd.1) := hfc₅.mono fun p hp => List.mem_append_right _ hp
      refine args_cons ?_
      refine r_local S₆ m0 ?_
      refine args_nil ?_
      refine ⟨rfl, _, _, _, _, _, S₆, ?_⟩
      intro tt h₇ S₇
      refine args_nil ?_
      refine r_append 3 S₇ rfl ?_ (by rw [refsS_len]; omega)
      intro h₈ S₈
      refine q_nil ?_
      refine ⟨rfl, od₆, mb₆, fc₄, (tt, tupO [.float (scr xv.1 wd.1) t₆, strV xv]) :: (X₆ ++ X₅ ++ X₄), Es ++ [⟨tt, scr xv.1 wd.1, t₆, xv⟩], nr + 1, ⟨K₆.os, K₆.gens⟩, ?_, hf₆, ?_, ?_, .inr ⟨hk, tt, t₆, rfl, .head _, Nat.le_trans hk₅ ht1, ht2⟩, Nat.le_trans hk₅ (Nat.le_trans ht1 (Nat.le_of_lt ht2))⟩
      ·rw [refsS_snoc]
       have e : X₆ ++ (X₅ ++ X₄ ++ X ++ T ++ own) = X₆ ++ X₅ ++ X₄ ++ X ++ T ++ own := by simp
       rw [e] at S₈
       exact S₈.perm pswap
      ·rw [show (tt, tupO [.float (scr xv.1 wd.1) t₆, strV xv]) :: (X₆ ++ X₅ ++ X₄) ++ X ++ T = (tt, tupO [.float (scr xv.1 wd.1) t₆, strV xv]) :: (X₆ ++ (X₅ ++ X₄ ++ X ++ T)) by simp]
       exact hmb₆.mono fun p hp => .tail _ hp
      ·rw [show (tt, tupO [.float (scr xv.1 wd.1) t₆, strV xv]) :: (X₆ ++ X₅ ++ X₄) ++ X ++ T = (tt, tupO [.float (scr xv.1 wd.1) t₆, strV xv]) :: (X₆ ++ (X₅ ++ X₄ ++ X ++ T)) by simp]
       exact hfc₆.mono fun p hp => .tail _ hp
     ·refine fun hkk => ⟨nofun, fun _ => q_nil ?_⟩
      exact ⟨rfl, od₅, mb₅, fc₄, X₅ ++ X₄, Es, nr, K₅, S₅.perm pback, hf₅, hmb₅, hfc₅, .inl ⟨by unfold kept scr; rw [g3]; simp, rfl⟩, hkk⟩
    ·refine fun hkk => ⟨nofun, fun _ => q_nil ?_⟩
     exact ⟨rfl, od₄, mb₂, fc₄, X₄, Es, nr, ⟨K₄.os, K₄.gens⟩, S₄.perm pback, hf₄, hmb₂.mono (fun p hp => by rw [List.append_assoc]; exact List.mem_append_right _ hp), hfc₄', .inl ⟨by unfold kept; rw [g2]; simp, rfl⟩, hkk⟩
   ·refine fun hkk => ⟨nofun, fun _ => q_nil ?_⟩
    exact ⟨rfl, od₂, mb₂, fc, [], Es, nr, ⟨K₃.os, K₃.gens⟩, S₃.perm pback, hf₂, hmb₂, hfc, .inl ⟨by
     unfold kept
     rw [g1]; simp, rfl⟩, hkk⟩
  ·rintro s₅ ⟨od', mb', fc', X', Es', nr', K₅, S₅, hf₅, hmb₅, hfc₅, hE, hk₅⟩
   refine q_nil ?_
   exact k s₅ od' mb' fc' (xv.1, ty) X' Es' nr' K₅ (S₅.forget (.cons _ (List.Sublist.refl _))) hf₅ hmb₅ hfc₅ hp₂ hE hk₅
 refine q_expr ?_
 refine wpAny_with_toks (n := s.toks) (by simp only at hk₁; omega) ?_
 refine m_call ?_
 refine r_local S₁ m1 ?_
 refine r_meth (f := 202) G S₁ m1 m2 hf ?_
 refine cw_ref G ?_
 refine args_cons ?_
 refine r_local S₁ m0 ?_
 refine args_nil ?_
 refine ⟨⟨_, _, _, S₁⟩, ?_⟩
 have S₂ := S₁.perm (T' := (sm, smO dx) :: (dx, od) :: ((res, lstO (refsS Es) nr) :: (X ++ T ++ own))) ((List.perm_append_comm (l₁ := [(res, lstO (refsS Es) nr)]) (l₂ := [(sm, smO dx), (dx, od)])).append_right (X ++ T ++ own))
 refine set_seq1 (C := xv.1 = p.1) (av := strV p) (fl1 := mf (strV xv) (strV wd) mb fc (.ref d2) (.ref sj) sp) (fl2 := mf (strV xv) (strV wd) .none fc (.ref d2) (.ref sj) sp) (fl3 := mf (strV xv) (strV wd) .none fc (.ref d2) (.ref sj) sp) G S₂ (by show A.depth + 1 < _; omega) hf m1 rfl (isTold_str (hb := hb) hx0 hp0 hpx)
  (.there (by kernel_rfl) .here) (.there (by kernel_rfl) (.there (by kernel_rfl) (.there (by kernel_rfl) (.there (by kernel_rfl) .here)))) (.there (by kernel_rfl) (.there (by kernel_rfl) (.there (by kernel_rfl) (.there (by kernel_rfl) (.there (by kernel_rfl) .here))))) rfl rfl rfl ?_ ?_
 ·intro hc h₃ tk₃ S₃
  exact fun hk => rest _ od mb p hk ⟨K₁.os, K₁.gens⟩ S₃ hf hmb (.inl rfl) hc.symm
 ·intro h₃ tk₃ od₃ S₃ hf₃
  exact fun hk => rest _ od₃ .none xv hk ⟨K₁.os, K₁.gens⟩ S₃ hf₃ (.inl rfl) (.inr rfl) rfl
end
end
section
section
variable {prog : Program} {w : World} {A : Around} {E : Value → Shared → Prop} {s : Shared} {R : Result → Shared → Prop} {K : Frag} {hb : Heap} {tabs : List Addr} {L : Addr} {l l' : List (Str × Value)} {T : List (Addr × Obj)} {env : Env} {x : Str} {v : Value} {pos : Pos}
theorem e_local {Q : Value → Shared → Prop} (S : St hb tabs env.locals l T s.heap) (hv : (x, v) ∈ l) (h : Q v s)
  (hk : env.scope.kind = .function := by rfl) (hl : env.kindOf x = some .local := by rfl) (hd : (x == ("__debug__" : Str)) = false := by kernel_rfl) :
  wpAny (model prog w) A (eval (.Name x pos) env) Q E s := by
 obtain ⟨m, a, b, _⟩ := S.fm.ns
 exact wpAny_Name (wpAny_loadName_local hk hl a (b _ hv) h) hd
theorem e_store {Q : Unit → Shared → Prop} (S : St hb tabs env.locals l T s.heap) (st : Stored l x v l') (h : ∀ h', St hb tabs env.locals l' T h' → Q () { s with heap := h', toks := s.toks + 1 })
  (hk : env.scope.kind = .function := by rfl) (hl : env.kindOf x = some .local := by rfl) :
  wpAny (model prog w) A (storeName env x v) Q E s := by
 obtain ⟨m, a, b, c⟩ := S.fm.ns
 exact wpAny_storeName_local hl a (fun h' hn hs => h h' (S.setNs (st.fm hn b c) hs)) (by rw [hk]; rfl)
theorem compLoop_own {elt target iter : Expr} {scope : Scope} {it acc : Value} (I : Nat → Shared → Prop)
  (turn : ∀ n s, I n s → wpAny (model prog w) A (pyNext it) (fun r s₁ => match r with
   | none => R (.ok .next) s₁
   | some v => wpAny (model prog w) A (letOwnedTupleGo target it v) (fun _ s₁' => wpAny (model prog w) A (assign target env v) (fun _ s₂ => wpAny (model prog w) A (eval elt env) (fun x s₃ =>
     wpAny (model prog w) A (call (.builtin "list.append") [acc, x]) (fun _ s₄ => ∃ m, m < n ∧ I m s₄) (notedBy (model prog w) A env fun e s' => R (.error e) s') s₃)
     (notedBy (model prog w) A env fun e s' => R (.error e) s') s₂) (notedBy (model prog w) A env fun e s' => R (.error e) s') s₁') (notedBy (model prog w) A env fun e s' => R (.error e) s') s₁) (notedBy (model prog w) A env fun e s' => R (.error e) s') s)
  (n : Nat) (h : I n s) :
  codeAny (model prog w) A (.compLoop (.ListComp elt [⟨target, iter, [], 0⟩] scope pos) 0 it acc env) R s := by
 refine codeAny_loop rfl I (fun n s hI => ?_) n h
 show wpAny _ _ ((compTurn (.ListComp elt [⟨target, iter, [], 0⟩] scope pos) 0 it acc env).onRaise (fun x => do noteFrame x env; theTreesLotGoes x)) _ _ s
 refine wpAny_noted ?_
 rw [compTurn_list1]
 refine wpAny_bind (wpAny_standAt (wpAny_bind (wpAny_mono (turn n s hI) (fun r s₁ h₁ => ?_) fun _ _ h' => h')))
 cases r with
 | none => exact wpAny_pure h₁
 | some v =>
  refine wpAny_bind (wpAny_mono h₁ (fun _ s₁' h₁' => ?_) fun _ _ h' => h')
  exact wpAny_bind (wpAny_mono h₁' (fun _ s₂ h₂ => wpAny_bind (wpAny_bind (wpAny_mono h₂ (fun x s₃ h₃ => wpAny_bind (wpAny_mono h₃
   (fun _ s₄ h₄ => wpAny_pure (wpAny_pure ⟨rfl, h₄⟩)) fun _ _ h' => h')) fun _ _ h' => h'))) fun _ _ h' => h')
theorem r_listcomp {elt target iter : Expr} {scope : Scope} {Q : Value → Shared → Prop} (hh : A.handled = none)
  (h : wpAny (model prog w) A (eval iter env) (fun xv s₁ => ∃ L l T d vs n, ∃ J : Nat → List Value → List (Addr × Obj) → Prop, xv = .ref d ∧ St hb tabs L l T s₁.heap ∧ (d, lstO vs n) ∈ T ∧ vs.length ≤ 1000 ∧ J 0 [] [] ∧
   (∀ C D oL E' i v acc c X own s₂, vs[i]? = some v → acc.length = i → J i acc X → FrObj oL l → Kp s₁ s₂ → St hb tabs C [] ((D, lstO acc c) :: (X ++ ((L, oL) :: T)) ++ own) s₂.heap →
    wpAny (model prog w) A (assign target (compEnv scope C env) v) (fun _ s₃ => wpAny (model prog w) A (eval elt (compEnv scope C env)) (fun y s₄ => ∃ X' l', Kp s₁ s₄ ∧ St hb tabs C l' ((D, lstO acc c) :: (X' ++ ((L, oL) :: T)) ++ own) s₄.heap ∧ J (i + 1) (acc ++ [y]) X') E' s₃) E' s₂) ∧
   (∀ s' D acc c X, Kp s₁ s' → St hb tabs L l ((D, lstO acc c) :: (X ++ T)) s'.heap → acc.length = vs.length → J vs.length acc X → Q (.ref D) s')) E s)
  (htgt : (∃ y p, target = .Name y p) ∨ ∃ es k p, target = .Tuple es k p)
  (hfree : ∀ x ∈ scope.names, x.2 ≠ .free) (hcell : ∀ y ∈ scope.names, y.2 ≠ .cell) (hkind : scope.kind = .function) (hnames : ∀ x ∈ scope.names, x.2 = .local → scope.names.lookup x.1 = some .local)
  (hs : ∀ x, foldedSetIterable iter env x = pure x := by intro _; rfl) :
  wpAny (model prog w) A (eval (.ListComp elt [⟨target, iter, [], 0⟩] scope pos) env) Q E s := by
 refine wpAny_ListComp hfree hkind hnames (wpAny_mono h (fun xv s₁ z => ?_) fun _ _ e => e) hs
 obtain ⟨L, l, T, d, vs, n, J, rfl, S, hm, hlen, hJ0, step, fin⟩ := z
 refine r_iterLO S hm fun I o Wt fp h₂ IV hown hw S₂ => ?_
 refine wpAny_newObj_type (hd := by size_fits) ?_
 have S₃ := S₂.push (lstO [] 0)
 refine wpAny_newFunctionEnv hcell (by intro y hy; simp at hy) (fun h₃ hn₃ hs₃ => ?_) hkind
 generalize hD : h₂.objs.size = D at S₃
 generalize hC : (h₂.push (lstO [] 0)).objs.size = C
 obtain ⟨oL, r, S₄⟩ := S₃.enter (L' := C) (l' := []) (h' := h₃) hC.symm (Fm.of_ns (by rw [← hC]; exact hn₃) (fun p hp => by cases hp) List.nodup_nil) (fun b o e => hs₃.extBut b o (Nat.ne_of_lt (Heap.lt_size e)) (Heap.get?_push_of_some _ e))
 have W := IV.walks A hh
 have how0 : ([(I, o)] : List (Addr × Obj)).map (·.1) = [I] := rfl
 have hw₃ : Wt 0 h₃ := W.frame _ _ _ hw fun b hb' ob e => hs₃.extBut b ob (Nat.ne_of_lt (Heap.lt_size (Heap.get?_push_of_some _ e))) (Heap.get?_push_of_some _ (Heap.get?_push_of_some _ e))
 have S₅ : St hb tabs C [] ((D, lstO [] 0) :: ([] ++ ((L, oL) :: T)) ++ [(I, o)]) h₃ := S₄.perm (by
  rw [List.nil_append]
  exact ((List.perm_append_comm (l₁ := [(L, oL)]) (l₂ := [(D, lstO [] 0)])).append_right (T ++ [(I, o)])))
 have loop : ∀ s₂ : Shared, s₂ = { s₁ with heap := h₃, toks := s₁.toks + ([] : List (Str × Value)).length } →
   codeAny (model prog w) A (.compLoop (.ListComp elt [⟨target, iter, [], 0⟩] scope pos) 0 (.ref I) (.ref D) (compEnv scope C env))
    (fun r s' => ∃ m, s'.heap.Ns C m ∧ ∀ h', Heap.SameBut C s'.heap h' →
     match r with | .ok _ => Q (.ref D) { s' with heap := h' } | .error x => wpAny (model prog w) A (passOn "comprehension.variables-let-go" x (compEnv scope C env)) Q E { s' with heap := h' }) s₂ := by
  rintro s₂ rfl
  refine compLoop_own (fun k s' => ∃ i acc c X own l', own.map (·.1) = [I] ∧ St hb tabs C l' ((D, lstO acc c) :: (X ++ ((L, oL) :: T)) ++ own) s'.heap ∧ Wt i s'.heap ∧ J i acc X ∧ acc.length = i ∧ Kp s₁ s' ∧ i ≤ vs.length ∧ k = vs.length - i) ?_ vs.length ⟨0, [], 0, [], [(I, o)], [], rfl, S₅, hw₃, hJ0, rfl, ⟨rfl, id⟩, Nat.zero_le _, rfl⟩
  rintro k s' ⟨i, acc, c, X, own, l', how, S', hw', hJ, hacc, hKp, hi, rfl⟩
  by_cases hlt : i < vs.length
  ·refine W.item i _ _ _ hlt hw' fun v h₄ tk₄ hP hw₄ hk₄ => ?_
   obtain ⟨own₂, e₂, S₆⟩ := S'.moved (h' := h₄) (fun b ob hb' e => hk₄ b ob (how ▸ hb') e) (fun b hb' => by rw [how, List.mem_singleton] at hb'; subst hb'; exact IV.ex _ _ hw₄)
   have go : ∀ {E' : Value → Shared → Prop}, wpAny (model prog w) A (assign target (compEnv scope C env) v) (fun _ s₂ => wpAny (model prog w) A (eval elt (compEnv scope C env)) (fun x s₃ =>
     wpAny (model prog w) A (call (.builtin "list.append") [.ref D, x]) (fun _ s₄ => ∃ m, m < vs.length - i ∧ ∃ i acc c X own l', own.map (·.1) = [I] ∧ St hb tabs C l' ((D, lstO acc c) :: (X ++ ((L, oL) :: T)) ++ own) s₄.heap ∧ Wt i s₄.heap ∧ J i acc X ∧ acc.length = i ∧ Kp s₁ s₄ ∧ i ≤ vs.length ∧ m = vs.length - i) E' s₃)
     E' s₂) E' { s' with heap := h₄, toks := tk₄ } := by
    intro E'
    refine wpAny_mono (step C D oL _ i v acc c X own₂ { s' with heap := h₄, toks := tk₄ } hP hacc hJ r ⟨hKp.os, hKp.gens⟩ (S₆.forget (List.nil_sublist _))) (fun _ s₆ h₆ => wpAny_mono h₆ (fun y s₇ h₇ => ?_) fun _ _ e => e) fun _ _ e => e
    obtain ⟨X', l'', K₇, S₇, hJ₇⟩ := h₇
    refine r_append 0 S₇ rfl ?_ (by omega)
    intro h₈ S₈
    refine ⟨vs.length - (i + 1), by omega, i + 1, acc ++ [y], c + 1, X', own₂, l'', e₂.trans how, S₈, W.frame _ _ _ hw₄ fun b hb' ob e => ?_, hJ₇, by simp [hacc], ⟨K₇.os, K₇.gens⟩, hlt, rfl⟩
    by_cases q : b ∈ [I]
    ·have : b ∈ own₂.map (·.1) := by rw [e₂, how]; exact q
     obtain ⟨p, hp, rfl⟩ := List.mem_map.mp this
     have e1 : h₄.get? p.1 = some p.2 := S₆.obj p (List.mem_append_right _ hp)
     have e2 := S₈.obj p (List.mem_append_right ((D, lstO (acc ++ [y]) (c + 1)) :: (X' ++ ((L, oL) :: T))) hp)
     rw [e1] at e
     rw [← e]; exact e2
    ·rcases IV.ro b hb' q with ⟨o', ho'⟩ | ⟨o', ho', hnt⟩
     ·rw [List.mem_singleton] at ho'
      have hbm : (b, o') ∈ T := by rw [ho']; exact hm
      have e1 : h₄.get? b = some o' := S₆.obj (b, o') (List.mem_append_left _ (.tail _ (List.mem_append_right _ (.tail _ hbm))))
      rw [e1] at e
      rw [← e]; exact S₈.obj (b, o') (List.mem_append_left own₂ (List.Mem.tail (D, lstO (acc ++ [y]) (c + 1)) (List.mem_append_right X' (.tail _ hbm))))
     ·have e1 : h₄.get? b = some o' := S₆.keep _ _ ho' hnt
      rw [e1] at e
      rw [← e]; exact S₈.keep _ _ ho' hnt
   rcases htgt with ⟨y, p, rfl⟩ | ⟨es, k, p, rfl⟩
   ·exact wpAny_of_eq (a := ()) rfl go
   ·exact hown _ _ _ _ _ _ _ _ _ hw₄ go
  ·have hin : i = vs.length := by omega
   subst hin
   refine W.done _ _ _ hw' fun h₄ tk₄ hk₄ => ?_
   have S₆ := S'.drop (h' := h₄) fun b ob hb' e => hk₄ b ob (how ▸ hb') e
   obtain ⟨m, hm', _, _⟩ := S₆.fm.ns
   refine ⟨m, hm', fun h' hs' => ?_⟩
   have S₇ := S₆.perm (T' := (L, oL) :: (D, lstO acc c) :: (X ++ T)) (by
    exact List.perm_middle (l₁ := (D, lstO acc c) :: X))
   have S₈ := S₇.leave 0 rfl r
   have S₉ : St hb tabs L l ((D, lstO acc c) :: (X ++ T)) h' := S₈.off (wr := [C]) (fun b hb' => by
    rw [List.mem_singleton] at hb'; subst hb'
    exact ⟨S₇.lnew, (List.nodup_cons.mp S₇.nd).1⟩) (fun b ob hb' e => hs'.extBut b ob (fun q => hb' (by rw [q]; exact .head _)) e)
   exact fin _ D acc c X ⟨hKp.os, hKp.gens⟩ S₉ hacc hJ
 subst hC
 subst hD
 exact codeAny_compStart_list (loop _ rfl) (W.self 0 _ _ _ hw₃ (loop _ rfl))
end
end
section
section
variable {prog : Program} {w : World} {A : Around} {s : Shared} {hb : Heap} {tabs : List Addr} {L : Addr} {l : List (Str × Value)} {T own Ro : List (Addr × Obj)} {env : Env} {target : Expr} {body : List Stmt} {I : Addr} {fp wr : List Addr} {n : Nat} {P : Nat → Value → Prop} {Wt : Nat → Heap → Prop}
theorem for_walkT {R : Result → Shared → Prop} (W : Walks prog w A I fp wr n P Wt) (hex : ∀ i h, Wt i h → ∀ b ∈ wr, ∃ o, h.get? b = some o) (how : own.map (·.1) = wr)
  (hro : ∀ b ∈ fp, b ∉ wr → (∃ o, (b, o) ∈ Ro) ∨ ∃ o, hb.get? b = some o ∧ b ∉ tabs) (S : St hb tabs L l (T ++ own) s.heap) (hst : Wt 0 s.heap)
  (J : Nat → Tok → List (Str × Value) → List (Addr × Obj) → Prop) (hmono : ∀ i tk tk' l T, tk ≤ tk' → J i tk l T → J i tk' l T) (h0 : J 0 s.toks l T) (hR0 : ∀ p ∈ Ro, p ∈ T)
  (step : ∀ E i v l₁ T₁ own₁ s₁, i < n → P i v → J i s₁.toks l₁ T₁ → St hb tabs L l₁ (T₁ ++ own₁) s₁.heap → (∀ p ∈ Ro, p ∈ T₁) → Kp s s₁ →
   wpAny (model prog w) A (assign target env v) (fun _ s₂ => wpAny (model prog w) A (execs body env) (fun f s₃ => match f with
    | .next | .cont => ∃ l₂ T₂, St hb tabs L l₂ (T₂ ++ own₁) s₃.heap ∧ J (i + 1) s₃.toks l₂ T₂ ∧ (∀ p ∈ Ro, p ∈ T₂) ∧ Kp s s₃
    | .brk => R (.ok .next) s₃
    | .ret v => R (.ok (.ret v)) s₃) E s₂) E s₁)
  (hR : ∀ s' l' T', Kp s s' → St hb tabs L l' T' s'.heap → J n s'.toks l' T' → (∀ p ∈ Ro, p ∈ T') → R (.ok .next) s')
  (ht : ∀ v, letOwnedTupleGo target (.ref I) v = pure () := by intro _; rfl) :
  codeAny (model prog w) A (.forLoop target (.ref I) body [] env) R s := by
 refine codeAny_forLoop (fun k s' => ∃ i l₁ T₁ own₁, own₁.map (·.1) = wr ∧ St hb tabs L l₁ (T₁ ++ own₁) s'.heap ∧ Wt i s'.heap ∧ J i s'.toks l₁ T₁ ∧ (∀ p ∈ Ro, p ∈ T₁) ∧ Kp s s' ∧ i ≤ n ∧ k = n - i) ?_ n ⟨0, l, T, own, how, S, hst, h0, hR0, Kp.refl, Nat.zero_le _, rfl⟩ ht
 rintro k s' ⟨i, l₁, T₁, own₁, how₁, S₁, hst₁, hJ, hRo, hKp, hi, rfl⟩
 by_cases hlt : i < n
 ·refine wpAny_with_toks (Nat.le_refl s'.toks) ?_
  refine W.item i _ _ _ hlt hst₁ fun v h₁ tk₁ hP hst₂ hk₁ htk => ?_
  obtain ⟨own₂, e₂, S₂⟩ := S₁.moved (h' := h₁) (fun b o hb' e => hk₁ b o (how₁ ▸ hb') e) (fun b hb' => hex _ _ hst₂ b (how₁ ▸ hb'))
  refine wpAny_mono (step _ i v l₁ T₁ own₂ { s' with heap := h₁, toks := tk₁ } hlt hP (hmono _ _ _ _ _ htk hJ) S₂ hRo hKp.with) (fun _ s₂ h₂ => wpAny_mono h₂ (fun f s₃ h₃ => ?_) fun _ _ e => e) fun _ _ e => e
  have fin : (∃ l₂ T₂, St hb tabs L l₂ (T₂ ++ own₂) s₃.heap ∧ J (i + 1) s₃.toks l₂ T₂ ∧ (∀ p ∈ Ro, p ∈ T₂) ∧ Kp s s₃) → ∃ m, m < n - i ∧ ∃ i l₁ T₁ own₁, own₁.map (·.1) = wr ∧ St hb tabs L l₁ (T₁ ++ own₁) s₃.heap ∧ Wt i s₃.heap ∧ J i s₃.toks l₁ T₁ ∧ (∀ p ∈ Ro, p ∈ T₁) ∧ Kp s s₃ ∧ i ≤ n ∧ m = n - i := by
   rintro ⟨l₂, T₂, S₃, hJ₃, hRo₃, hKp₃⟩
   refine ⟨n - (i + 1), by omega, i + 1, l₂, T₂, own₂, e₂.trans how₁, S₃, W.frame _ _ _ hst₂ fun b hb' o e => ?_, hJ₃, hRo₃, hKp₃, hlt, rfl⟩
   by_cases q : b ∈ wr
   ·have : b ∈ own₂.map (·.1) := by rw [e₂, how₁]; exact q
    obtain ⟨p, hp, rfl⟩ := List.mem_map.mp this
    have e1 := S₂.obj p (List.mem_append_right _ hp)
    have e2 := S₃.obj p (List.mem_append_right _ hp)
    have e1' : h₁.get? p.1 = some p.2 := e1
    rw [e1'] at e
    rw [← e]; exact e2
   ·rcases hro b hb' q with ⟨o', ho'⟩ | ⟨o', ho', hnt⟩
    ·have e1 : h₁.get? b = some o' := S₂.obj _ (List.mem_append_left _ (hRo _ ho'))
     rw [e1] at e
     rw [← e]; exact S₃.obj _ (List.mem_append_left _ (hRo₃ _ ho'))
    ·have e1 : h₁.get? b = some o' := S₂.keep _ _ ho' hnt
     rw [e1] at e
     rw [← e]; exact S₃.keep _ _ ho' hnt
  cases f with
  | next => exact fin h₃
  | cont => exact fin h₃
  | brk => exact h₃
  | ret v => exact h₃
 ·have hin : i = n := by omega
  subst hin
  refine wpAny_with_toks (Nat.le_refl s'.toks) ?_
  refine W.done _ _ _ hst₁ fun h₁ tk₁ hk₁ htk => wpAny_execs_nil ?_
  exact hR _ l₁ T₁ hKp.with (S₁.drop fun b o hb' e => hk₁ b o (how₁ ▸ hb') e) (hmono _ _ _ _ _ htk hJ) hRo
end
end
section
def RkOk (rk : UInt64 → Str → Nat) (Es : List Sc) : Prop := ∀ e ∈ Es, ∀ e' ∈ Es,
 ((Float64.cmp e.f e'.f == some Ordering.eq && e.x.1 == e'.x.1) = true ↔ rk e.f e.x.1 = rk e'.f e'.x.1) ∧
 ((Float64.cmp e.f e'.f == some Ordering.eq) = false → ((Float64.cmp e.f e'.f == some Ordering.lt) = true ↔ rk e.f e.x.1 < rk e'.f e'.x.1)) ∧
 ((Float64.cmp e.f e'.f == some Ordering.eq) = true → (e.x.1.cps.toList < e'.x.1.cps.toList ↔ rk e.f e.x.1 < rk e'.f e'.x.1)) ∧
 ((Float64.cmp e.f e'.f == some Ordering.eq) = false → ((Float64.cmp e.f e'.f == some Ordering.gt) = true ↔ rk e'.f e'.x.1 < rk e.f e.x.1)) ∧
 ((Float64.cmp e.f e'.f == some Ordering.eq) = true → (e'.x.1.cps.toList < e.x.1.cps.toList ↔ rk e'.f e'.x.1 < rk e.f e.x.1))
def TkOk (Es : List Sc) : Prop := ∀ e ∈ Es, e.ft ≠ 0 ∧ ∀ e' ∈ Es, e.ft = e'.ft → e.f = e'.f
abbrev rkS (rk : UInt64 → Str → Nat) (e : Sc) : Nat := rk e.f e.x.1
def NLC (w : World) (hb : Heap) : Prop := ∀ {A : Around} {s : Shared} {L : Addr} {l : List (Str × Value)} {T : List (Addr × Obj)} {R : Result → Shared → Prop} {res : Addr} {Es : List Sc} {nr n : Nat} {tn : Tok} {rk : UInt64 → Str → Nat},
 St hb tabs L l T s.heap → A.depth + 20 < recursionLimit → A.units + 100 < cLine → A.handled = none → (res, lstO (refsS Es) nr) ∈ T → SOk T Es → TkOk Es → (∀ e ∈ Es, e.x.1.cps.size ≤ 60) → Es.length ≤ 60 → 0 < n → n ≤ 60 → RkOk rk Es →
 (∀ (s' : Shared) (X : List (Addr × Obj)) (r : Addr) (nr' : Nat) (P : List Sc), Kp s s' → St hb tabs L l ((r, lstO (refsS (P.take n)) nr') :: (X ++ T)) s'.heap → P.Perm Es → P.Pairwise (fun a b => rkS rk b ≤ rkS rk a) → R (.ok (.ret (.ref r))) s') →
 codeAny (model pw w) A (.call (.ref 280) ⟨[.int n tn, .ref res], []⟩) R s
section
variable {w : World} {A : Around} {E : Value → Shared → Prop} {s : Shared} {hb : Heap} {L pd : Addr} {T : List (Addr × Obj)} {l : List (Str × Value)} {cut : Value} {R : Result → Shared → Prop} {wd : Str × Tok} {rw : List (Str × Tok)} {nd n : Nat} {tn : Tok} {g : UInt64 → Bool} {args : Args}
theorem gcm_c (G : Gd (KN w.params) tabs hb) (B : BM hb) (N : NLC w hb) (S : St hb tabs L l T s.heap) (hd : A.depth + 40 < recursionLimit) (hu : A.units + 200 < cLine) (hh : A.handled = none) (C : CutV w cut g) (hpd : (pd, lstO (rw.map strV) nd) ∈ T)
  (hbind : BindsTo s (fd286 w.params) args [(Str.ofString "word", strV wd), (Str.ofString "possibilities", .ref pd), (Str.ofString "n", .int n tn), (Str.ofString "cutoff", cut)])
  (hn : 0 < n) (hn60 : n ≤ 60) (hrl : rw.length ≤ 60) (hws : wd.1.cps.size ≤ 60) (hrs : ∀ p ∈ rw, p.1.cps.size ≤ 60) (hw0 : wd.2 ≠ 0) (hwe : wd.1 ≠ Str.ofString "") (hwt : wd.2 = 540 → wd.1 = Str.ofString "")
  (htk : ∀ p ∈ (Str.ofString "", 539) :: rw, p.2 ≠ 0 ∧ ∀ q ∈ (Str.ofString "", 539) :: rw, p.2 = q.2 → p.1 = q.1)
  {rk : UInt64 → Str → Nat} (hrk : ∀ Es : List Sc, (∀ e ∈ Es, e.x ∈ rw ∧ e.f = scr e.x.1 wd.1) → RkOk rk Es)
  (k : ∀ (s' : Shared) (X : List (Addr × Obj)) (r : Addr) (nr : Nat) (P : List (Str × Tok)), Kp s s' → St hb tabs L l ((r, lstO ((P.take n).map strV) nr) :: (X ++ T)) s'.heap → P.Perm (rw.filter fun x => kept g x.1 wd.1) → P.Pairwise (fun a b => rk (scr b.1 wd.1) b.1 ≤ rk (scr a.1 wd.1) a.1) → R (.ok (.ret (.ref r))) s') :
  codeAny (model pw w) A (.call (.ref 286) args) R s := by
 refine c_def G S (lk286 _) (by omega) (body := fnBody (st1 pw 10)) hbind ?_
 intro L' h₁ oL r S'
 refine q_doc ?_
 refine q_if ?_
 refine isTrue_not ?_
 refine wpAny_isTrue_Compare1 ?_
 refine r_local S' m2 ?_
 refine wpAny_Constant_int ?_
 refine gt_int ?_
 refine wpAny_truthy_bool ⟨fun q => absurd q (by simp; omega), fun q => ?_⟩
 refine q_nil ?_
 refine q_if ?_
 refine isTrue_not ?_
 refine isTrue_chain ?_
 refine wpAny_Constant_float ?_
 refine test_link ?_
 refine r_local S' m3 ?_
 refine C.lo ?_
 refine wpAny_truthy_bool ?_
 rw [if_pos rfl]
 refine test_last ?_
 refine wpAny_Constant_float ?_
 refine C.hi ?_
 refine wpAny_truthy_bool ⟨nofun, fun _ => ?_⟩
 refine q_nil ?_
 refine q_assign ?_
 refine r_list ?_
 refine args_nil ?_
 refine ⟨rfl, _, _, _, _, _, S', ?_⟩
 intro res h₂ S₂
 refine r_store S₂ (.new (by kernel_rfl)) ?_
 intro h₃ S₃
 refine q_assign ?_
 refine r_call ?_
 refine r_global G S₃ (v := .ref 270) (by kernel_rfl) ?_
 refine cw_ref G ?_
 refine args_nil ?_
 refine ⟨⟨_, _, _, S₃⟩, ?_⟩
 refine c_make (C := 270) (fI := 188) G (by exact S₃) ?_
 intro sm dx h₄ S₄
 have Ve := sq_str (prog := pw) (w := w) (hb := hb) (tabs := tabs) (Str.ofString "") 540 (by decide)
 refine sm_init (va := .str (Str.ofString "") 539) (vb := .str (Str.ofString "") 540) G (by exact S₄) (by simp only [depth_under_make, depth_deeper]; omega) hh Ve (fun p hp => by cases hp) (isTold_none (hb := hb)) (isTold_none (hb := hb)) ?_ ?_
 ·refine BindsTo.of_defaults (o := o181 w.params) rfl (St.kin (by exact S₄) G 181 _ (by kernel_rfl)) rfl rfl rfl
 intro s₅ od₅ j₅ sj₅ sp₅ o₅ rows₅ led₅ led₅' K₅ S₅ hf₅ ho₅ hr₅
 refine ⟨rfl, ?_⟩
 replace K₅ : Kp s s₅ := ⟨K₅.os, K₅.gens⟩
 refine r_store S₅ (.new (by kernel_rfl)) ?_
 intro h₆ S₆
 refine q_expr ?_
 refine wpAny_with_toks (n := 1) (by simp only; omega) ?_
 refine m_call ?_
 refine r_local S₆ m0 ?_
 refine r_meth (f := 209) G S₆ m0 m1 hf₅ ?_
 refine cw_ref G ?_
 refine args_cons ?_
 refine r_local S₆ m2 ?_
 refine args_nil ?_
 refine ⟨⟨_, _, _, S₆⟩, ?_⟩
 have Vw := sq_str (prog := pw) (w := w) (hb := hb) (tabs := tabs) wd.1 wd.2 hws
 refine set_seq2 (C := wd.1 = Str.ofString "") (bv := .str (Str.ofString "") 540) (f1 := mf (.str (Str.ofString "") 539) (strV wd) .none .none (.ref j₅) (.ref sj₅) (.ref sp₅)) (f2 := mf (.str (Str.ofString "") 539) (strV wd) .none .none (.ref j₅) (.ref sj₅) (.ref sp₅)) (f3 := mf (.str (Str.ofString "") 539) (strV wd) .none .none (.ref j₅) (.ref sj₅) (.ref sp₅))
  (f4 := mf (.str (Str.ofString "") 539) (strV wd) .none .none (.ref j₅) (.ref sj₅) (.ref sp₅)) (fl1 := fun v => mf (.str (Str.ofString "") 539) (strV wd) .none .none v (.ref sj₅) (.ref sp₅)) (fl2 := fun v u => mf (.str (Str.ofString "") 539) (strV wd) .none .none v u (.ref sp₅)) (fl3 := fun v u z => mf (.str (Str.ofString "") 539) (strV wd) .none .none v u z)
  G (by exact S₆) (by show A.depth + 1 + 1 < _; omega) hh hf₅ m2 rfl Vw (fun p hp => by cases hp) (isTold_str (hb := hb) hw0 (by decide) hwt) (.there (by kernel_rfl) (.there (by kernel_rfl) .here)) (.there (by kernel_rfl) (.there (by kernel_rfl) (.there (by kernel_rfl) (.there (by kernel_rfl) .here)))) (.there (by kernel_rfl) (.there (by kernel_rfl) (.there (by kernel_rfl) (.there (by kernel_rfl) (.there (by kernel_rfl) .here))))) (.there (by kernel_rfl) (.there (by kernel_rfl) (.there (by kernel_rfl) (.there (by kernel_rfl) (.there (by kernel_rfl) (.there (by kernel_rfl) .here)))))) rfl rfl rfl rfl m2 (by kernel_rfl)
  (fun _ => (.there (by kernel_rfl) (.there (by kernel_rfl) (.there (by kernel_rfl) (.there (by kernel_rfl) (.there (by kernel_rfl) (.there (by kernel_rfl) (.there (by kernel_rfl) .here)))))))) (fun _ _ => (.there (by kernel_rfl) (.there (by kernel_rfl) (.there (by kernel_rfl) (.there (by kernel_rfl) (.there (by kernel_rfl) (.there (by kernel_rfl) (.there (by kernel_rfl) (.there (by kernel_rfl) .here))))))))) (fun _ _ _ => (.there (by kernel_rfl) (.there (by kernel_rfl) (.there (by kernel_rfl) (.there (by kernel_rfl) (.there (by kernel_rfl) (.there (by kernel_rfl) (.there (by kernel_rfl) (.there (by kernel_rfl) (.there (by kernel_rfl) .here)))))))))) (fun _ _ => m0) (fun _ _ _ => m3) (fun _ _ _ => ⟨rfl, rfl, rfl⟩) (fun hc => absurd hc hwe) ?_
 intro s₇ od₇ d2 sj sp o2 rows led led' K₇ S₇ hf₇ ho2 hrows ht₇
 replace K₇ : Kp s s₇ := ⟨K₇.os.trans K₅.os, fun z => K₇.gens (K₅.gens z)⟩
 obtain ⟨Y, hY⟩ : ∃ Y, Y = (sp, setO led') :: (sj, setO led) :: (d2, o2) :: (rows.map JRow.ob ++ ((sp₅, setO led₅') :: (sj₅, setO led₅) :: (j₅, o₅) :: rows₅.map JRow.ob)) := ⟨_, rfl⟩
 have S₈ : St hb tabs L' (nmC sm res pd wd (.int n tn) cut) ((res, lstO (refsS []) 0) :: (sm, smO dx) :: (dx, od₇) :: ([] ++ (Y ++ ((L, oL) :: T)))) s₇.heap := by
  refine (S₇.perm ?_)
  rw [hY, List.nil_append]
  have e : (sm, smO dx) :: (dx, od₇) :: (sp, setO led') :: (sj, setO led) :: (d2, o2) :: (rows.map JRow.ob ++ ((sp₅, setO led₅') :: (sj₅, setO led₅) :: (j₅, o₅) :: (rows₅.map JRow.ob ++ ((res, lstO [] 0) :: (L, oL) :: T)))) =
   ((sm, smO dx) :: (dx, od₇) :: ((sp, setO led') :: (sj, setO led) :: (d2, o2) :: (rows.map JRow.ob ++ ((sp₅, setO led₅') :: (sj₅, setO led₅) :: (j₅, o₅) :: rows₅.map JRow.ob)))) ++ ((res, lstO [] 0) :: (L, oL) :: T) := by simp
  rw [e]
  exact List.perm_middle
 have hd2 : (d2, o2) ∈ Y ++ ((L, oL) :: T) := List.mem_append_left _ (by rw [hY]; exact m2)
 have hsj : (sj, setO led) ∈ Y ++ ((L, oL) :: T) := List.mem_append_left _ (by rw [hY]; exact m1)
 have hob : ∀ r ∈ rows, r.ob ∈ Y ++ ((L, oL) :: T) := fun r hr => List.mem_append_left _ (by rw [hY]; exact .tail _ (.tail _ (.tail _ (List.mem_append_left _ (List.mem_map.mpr ⟨r, hr, rfl⟩)))))
 have hTin : ∀ p ∈ T, p ∈ Y ++ ((L, oL) :: T) := fun p hp => List.mem_append_right _ (.tail _ hp)
 generalize hT₂ : Y ++ ((L, oL) :: T) = T₂ at S₈ hd2 hsj hob hTin
 refine q_for ?_
 refine r_local S₈ m3 ?_
 refine r_iterLO S₈ (.tail _ (.tail _ (.tail _ (hTin _ hpd)))) ?_
 intro I o Wt fp h₉ IV hown hw S₉
 have hrwl : (rw.map strV).length = rw.length := List.length_map ..
 refine for_walkT (own := [(I, o)]) (Ro := [(pd, lstO (rw.map strV) nd)]) (IV.walks (A.deeper _) hh) (fun i h hi b hb' => by rw [List.mem_singleton] at hb'; subst hb'; exact IV.ex i h hi) rfl IV.ro S₉ hw
  (fun i tk l₁ T₁ => ∃ od p mb fc X Es nr, l₁ = nmC sm res pd wd (.int n tn) cut ∧ T₁ = (res, lstO (refsS Es) nr) :: (sm, smO dx) :: (dx, od) :: (X ++ T₂) ∧ FlObj od (mf (strV p) (strV wd) mb fc (.ref d2) (.ref sj) (.ref sp)) ∧ MbOk (X ++ T₂) mb (letters p.1) (letters wd.1) ∧
   Fc w (X ++ T₂) fc (letters wd.1) ∧ p ∈ (Str.ofString "", 539) :: rw ∧ SOk X Es ∧ Es.map (fun e => (e.f, e.x)) = (((rw.take i).filter fun x => kept g x.1 wd.1).map fun x => (scr x.1 wd.1, x)) ∧ TkOk Es ∧ (∀ e ∈ Es, e.ft < tk) ∧ 1 ≤ tk) ?hmono ?_ (fun p hp => by rw [List.mem_singleton] at hp; subst hp; exact .tail _ (.tail _ (.tail _ (hTin _ hpd)))) ?_ ?_
 case hmono =>
  rintro i tk tk' l T htk ⟨od, p, mb, fc, X, Es, nr, h1, h2, hf, hmb, hfc, hp, hS, hE, hT, hTb, hT1⟩
  exact ⟨od, p, mb, fc, X, Es, nr, h1, h2, hf, hmb, hfc, hp, hS, hE, hT, fun e he => Nat.lt_of_lt_of_le (hTb e he) htk, Nat.le_trans hT1 htk⟩
 ·exact ⟨od₇, (Str.ofString "", 539), .none, .none, [], [], 0, rfl, rfl, hf₇, .inl rfl, .inl rfl, .head _, (fun e he => by cases he), rfl, (fun e he => by cases he), (fun e he => by cases he), ht₇⟩
 ·rintro E₁ i v l₁ T₁ own₁ s₁ hi hv ⟨od, p, mb, fc, X, Es, nr, rfl, rfl, hf, hmb, hfc, hp, hS, hE, hT, hTb, hT1⟩ S₁₀ hRo hKp
  rw [hrwl] at hi
  have hv' : v = strV rw[i] := by
   have : (rw.map strV)[i]? = some (strV rw[i]) := by simp [hi]
   rw [this] at hv; exact (Option.some.inj hv).symm
  clear hv
  subst hv'
  have hxm : rw[i] ∈ rw := List.getElem_mem hi
  have hel : Es.length ≤ 60 := by
   have := congrArg List.length hE
   rw [List.length_map, List.length_map] at this
   rw [this]
   exact Nat.le_trans (List.length_filter_le _ _) (Nat.le_trans (by rw [List.length_take]; exact Nat.min_le_right _ _) hrl)
  refine gcm_turn (T := T₂) (own := own₁) (X := X) G B (by omega) (by omega) hh C (by exact S₁₀) hel hf hmb hfc hd2 ho2 hrows hob hsj (htk p hp).1 (htk _ (.tail _ hxm)).1 (fun q => (htk _ (.tail _ hxm)).2 p hp q) ?_ (hrs _ hxm) hws ?_ rfl
  ·rcases List.mem_cons.mp hp with rfl | q
   ·decide
   ·exact hrs _ q
  intro s' od' mb' fc' p' X' Es' nr' K' S' hf' hmb' hfc' hp' hE' hk'
  refine ⟨_, (res, lstO (refsS Es') nr') :: (sm, smO dx) :: (dx, od') :: (X' ++ X ++ T₂), (by exact S'), ⟨od', p', mb', fc', X' ++ X, Es', nr', rfl, rfl, hf', hmb', hfc', ?_, ?_, ?_, ?_, ?_, Nat.le_trans hT1 hk'⟩, ?_, ⟨K'.os.trans hKp.os, fun z => K'.gens (hKp.gens z)⟩⟩
  ·rcases hp' with rfl | rfl
   ·exact hp
   ·exact .tail _ hxm
  ·rcases hE' with ⟨_, rfl⟩ | ⟨_, a, t, rfl, hm, ht1, ht2⟩
   ·exact hS.mono fun p hp => List.mem_append_right _ hp
   ·intro e he
    rcases List.mem_append.mp he with q | q
    ·exact (hS.mono fun p hp => List.mem_append_right X' hp) e q
    ·rw [List.mem_singleton] at q; subst q
     exact List.mem_append_left _ hm
  ·rw [List.take_add_one, List.getElem?_eq_getElem hi, Option.toList_some, List.filter_append, List.map_append]
   rcases hE' with ⟨hk, rfl⟩ | ⟨hk, a, t, rfl, hm, ht1, ht2⟩
   ·rw [List.filter_cons_of_neg (by simp [hk]), List.filter_nil, List.map_nil, List.append_nil]; exact hE
   ·rw [List.map_append, hE, List.filter_cons_of_pos (by simp [hk])]; rfl
  ·rcases hE' with ⟨_, rfl⟩ | ⟨_, a, t, rfl, hm, ht1, ht2⟩
   ·exact hT
   ·intro e he
    rcases List.mem_append.mp he with q | q
    ·refine ⟨(hT e q).1, fun e' he' h => ?_⟩
     rcases List.mem_append.mp he' with q' | q'
     ·exact (hT e q).2 e' q' h
     ·rw [List.mem_singleton] at q'; subst q'
      exact absurd h (Nat.ne_of_lt (Nat.lt_of_lt_of_le (hTb e q) ht1))
    ·rw [List.mem_singleton] at q; subst q
     refine ⟨Nat.ne_of_gt (Nat.lt_of_lt_of_le hT1 ht1), fun e' he' h => ?_⟩
     rcases List.mem_append.mp he' with q' | q'
     ·exact absurd h.symm (Nat.ne_of_lt (Nat.lt_of_lt_of_le (hTb e' q') ht1))
     ·rw [List.mem_singleton] at q'; subst q'; rfl
  ·rcases hE' with ⟨_, rfl⟩ | ⟨_, a, t, rfl, hm, ht1, ht2⟩
   ·exact fun e he => Nat.lt_of_lt_of_le (hTb e he) hk'
   ·intro e he
    rcases List.mem_append.mp he with q | q
    ·exact Nat.lt_of_lt_of_le (hTb e q) hk'
    ·rw [List.mem_singleton] at q; subst q; exact ht2
  ·intro p hp
   rw [List.mem_singleton] at hp; subst hp
   exact .tail _ (.tail _ (.tail _ (List.mem_append_right _ (hTin _ hpd))))
 ·rintro s' l' T' hKp S₁₀ ⟨od, p, mb, fc, X, Es, nr, rfl, rfl, hf, hmb, hfc, hp, hS, hE, hT, hTb, hT1⟩ hRo
  rw [hrwl, List.take_length] at hE
  replace hKp : Kp s s' := ⟨hKp.os.trans K₇.os, fun z => hKp.gens (K₇.gens z)⟩
  refine q_assign ?_
  refine r_call ?_
  refine r_global G S₁₀ (v := .ref 280) (by kernel_rfl) ?_
  refine cw_ref G ?_
  refine args_cons ?_
  refine r_local S₁₀ m4 ?_
  refine args_cons ?_
  refine r_local S₁₀ m1 ?_
  refine args_nil ?_
  refine ⟨⟨_, _, _, S₁₀⟩, ?_⟩
  have hel : Es.length ≤ 60 := by
   have := congrArg List.length hE
   rw [List.length_map, List.length_map] at this
   rw [this]
   exact Nat.le_trans (List.length_filter_le _ _) hrl
  have hEs : ∀ e ∈ Es, e.x ∈ rw ∧ e.f = scr e.x.1 wd.1 := by
   intro e he
   have : (e.f, e.x) ∈ Es.map (fun e => (e.f, e.x)) := List.mem_map.mpr ⟨e, he, rfl⟩
   rw [hE] at this
   obtain ⟨y, hy, hye⟩ := List.mem_map.mp this
   have h1 := congrArg Prod.fst hye
   have h2 := congrArg Prod.snd hye
   dsimp only at h1 h2
   subst h2
   exact ⟨(List.mem_filter.mp hy).1, h1.symm⟩
  refine N (rk := rk) S₁₀ (by show A.depth + 1 + 20 < _; omega) (by show A.units + 3 + 100 < _; omega) hh m0 (hS.mono fun p hp => .tail _ (.tail _ (.tail _ (List.mem_append_left _ hp)))) hT (fun e he => hrs _ (hEs e he).1) hel hn hn60 (hrk Es hEs) ?_
  intro s₁₁ X₁ r₁ nr₁ P K₁₁ S₁₁ hperm hpw
  replace K₁₁ : Kp s s₁₁ := ⟨K₁₁.os.trans hKp.os, fun z => K₁₁.gens (hKp.gens z)⟩
  refine r_store S₁₁ (.old (.there .here)) ?_
  intro h₁₂ S₁₂
  refine restate (by exact S₁₂) fun s₁₂ K₁₂ S₁₂ => ?_
  replace K₁₂ : Kp s s₁₂ := ⟨K₁₂.os.trans K₁₁.os, fun z => K₁₂.gens (K₁₁.gens z)⟩
  refine q_ret ?_
  have hPE : ∀ e ∈ P.take n, e ∈ Es := fun e he => hperm.mem_iff.mp (List.mem_of_mem_take he)
  refine r_listcomp (hb := hb) (tabs := tabs) hh ?_ (.inr ⟨_, _, _, rfl⟩) (by decide) (by decide) rfl (by decide)
  refine r_local S₁₂ m1 ?_
  refine ⟨L', _, _, r₁, refsS (P.take n), nr₁, fun i acc X => X = [] ∧ acc = ((P.take n).take i).map fun e => strV e.x, rfl, S₁₂, m0, ?_, ⟨rfl, rfl⟩, ?_, ?_⟩
  ·rw [refsS_len, List.length_take]
   exact Nat.le_trans (Nat.min_le_left _ _) (by omega)
  ·rintro C' D oL' E' i v acc c X' own s₂ hi hacc ⟨rfl, hJ⟩ hr₂ K₂ S₂
   have hv : ∃ e, (P.take n)[i]? = some e ∧ v = .ref e.a := by
    rw [refsS, List.getElem?_map] at hi
    obtain ⟨e, h1, h2⟩ := Option.map_eq_some_iff.mp hi
    exact ⟨e, h1, h2.symm⟩
   obtain ⟨e, he, rfl⟩ := hv
   have heE := hPE e (List.mem_of_getElem? he)
   have hm := hS e heE
   refine as_tuple hh S₂ (List.mem_append_left _ (.tail _ (.tail _ (.tail _ (List.mem_append_right _ (.tail _ (.tail _ (.tail _ (List.mem_append_left _ hm)))))))) ) ?_
   intro h₃ S₃
   refine as_each ?_
   refine e_store (env := compEnv _ C' _) (by exact S₃) (.new (by kernel_rfl)) ?_
   intro h₄ S₄
   refine as_each ?_
   refine e_store (env := compEnv _ C' _) (by exact S₄) (.new (by kernel_rfl)) ?_
   intro h₅ S₅
   refine as_none ?_
   refine e_local (env := compEnv _ C' _) (by exact S₅) m0 ?_
   refine ⟨[], _, ⟨K₂.os, K₂.gens⟩, (by exact S₅), rfl, ?_⟩
   rw [List.take_add_one, he, hJ]
   simp
  ·rintro s₃ D acc c X' K₃ S₃ hl₃ ⟨rfl, rfl⟩
   replace K₃ : Kp s s₃ := ⟨K₃.os.trans K₁₂.os, fun z => K₃.gens (K₁₂.gens z)⟩
   subst hT₂
   have e1 : (((P.take n).take (refsS (P.take n)).length).map fun e => strV e.x) = ((P.map fun e => e.x).take n).map strV := by
    rw [refsS_len, List.take_length, List.map_take, List.map_take, List.map_map]; rfl
   rw [e1] at S₃
   have S₄ := S₃.perm (T' := (L, oL) :: (D, lstO (((P.map fun e => e.x).take n).map strV) c) :: ((((r₁, lstO (refsS (P.take n)) nr₁) :: (X₁ ++ ((res, lstO (refsS Es) nr) :: (sm, smO dx) :: (dx, od) :: (X ++ Y)))) ++ T))) (by
    have e : (D, lstO (((P.map fun e => e.x).take n).map strV) c) :: ([] ++ ((r₁, lstO (refsS (P.take n)) nr₁) :: (X₁ ++ ((res, lstO (refsS Es) nr) :: (sm, smO dx) :: (dx, od) :: (X ++ (Y ++ ((L, oL) :: T))))))) =
     ((D, lstO (((P.map fun e => e.x).take n).map strV) c) :: (((r₁, lstO (refsS (P.take n)) nr₁) :: (X₁ ++ ((res, lstO (refsS Es) nr) :: (sm, smO dx) :: (dx, od) :: (X ++ Y)))))) ++ ((L, oL) :: T) := by simp
    rw [e]
    exact List.perm_middle)
   have S₅ := S₄.leave 0 rfl r
   refine k s₃ ((r₁, lstO (refsS (P.take n)) nr₁) :: (X₁ ++ ((res, lstO (refsS Es) nr) :: (sm, smO dx) :: (dx, od) :: (X ++ Y)))) D c (P.map Sc.x) K₃ (by exact S₅) ?_ ?_
   ·have h1 : (Es.map fun e => e.x) = rw.filter fun x => kept g x.1 wd.1 := by
     have := congrArg (List.map Prod.snd) hE
     rw [List.map_map, List.map_map] at this
     have e2 : (Prod.snd ∘ fun x : Str × Tok => (scr x.1 wd.1, x)) = id := rfl
     rw [e2, List.map_id] at this
     exact this
    rw [← h1]
    exact hperm.map _
   ·rw [List.pairwise_map]
    refine hpw.imp_of_mem ?_
    intro a b ha hb' h
    have h1 := (hEs a (hperm.mem_iff.mp ha)).2
    have h2 := (hEs b (hperm.mem_iff.mp hb')).2
    rw [← h1, ← h2]
    exact h
end
end
section
section
variable {prog : Program} {w : World} {A : Around} {E : Value → Shared → Prop} {s : Shared} {K : Frag} {hb : Heap} {tabs : List Addr} {L a b : Addr} {l : List (Str × Value)} {T : List (Addr × Obj)}
theorem eqb_float {f g : UInt64} {t u : Tok} {Q : Bool → Shared → Prop} (NB : NoneBooked s.heap) (ht : t ≠ 0) (hu : u ≠ 0) (he : t = u → f = g) (hs : (Float64.cmp f f == some Ordering.eq) = true) (h : Q (Float64.cmp f g == some Ordering.eq) s) :
  wpAny (model prog w) A (eqBool (.float f t) (.float g u)) Q E s := by
 have one : f = g → Q true s := fun e => by subst e; rw [hs] at h; exact h
 unfold eqBool
 show wpAny _ _ (if (Value.float f t == Value.float g u) = true then _ else _) Q E s
 by_cases hab : (Value.float f t == Value.float g u) = true
 ·rw [if_pos hab]
  have e : f = g := by have := eq_of_beq hab; injection this
  exact wpAny_bind (wpAny_rule (wpAny_pure (one e)))
 ·rw [if_neg hab]
  have rest : wpAny (model prog w) A (richCompare .Eq (.float f t) (.float g u) >>= truthOfDropped) Q E s :=
   wpAny_bind (AutoFloatOps.eq_0 (wpAny_truthy_bool h))
  show wpAny _ _ (isSame.created (f == g && !Float64.isNaN f) t u >>= fun b => if b = true then pure true else (richCompare .Eq (.float f t) (.float g u) >>= truthOfDropped)) Q E s
  refine wpAny_bind ?_
  unfold isSame.created
  have h0 : (t == 0 || u == 0) = false := by
   rw [Bool.or_eq_false_iff]
   exact ⟨beq_eq_false_iff_ne.mpr ht, beq_eq_false_iff_ne.mpr hu⟩
  refine KFB.if_not h0 ?_
  by_cases htu : t = u
  ·refine KFB.if_so (beq_iff_eq.mpr htu) (wpAny_pure ?_)
   exact wpAny_pure (one (he htu))
  ·refine KFB.if_not (beq_eq_false_iff_ne.mpr htu) ?_
   by_cases hfg : (f == g && !Float64.isNaN f) = true
   ·have efg : f = g := by
     have := (Bool.and_eq_true_iff.mp hfg).1
     exact eq_of_beq this
    refine KFB.if_not (by rw [hfg]; rfl) ?_
    refine wpAny_bind (wpAny_sharingNotTold_none NB ?_)
    refine KFB.if_not rfl ?_
    refine wpAny_bind (wpAny_sharingNotTold_none NB ?_)
    refine KFB.if_not rfl ?_
    refine wpAny_bind (wpAny_rule ?_)
    refine wpAny_bind (wpAny_askSetting ?_)
    refine wpAny_pure ?_
    split
    ·exact wpAny_pure (one efg)
    ·exact rest
   ·refine KFB.if_so (by rw [Bool.eq_false_iff.mpr hfg]; rfl) (wpAny_pure ?_)
    exact rest
theorem pair_ltcall {x1 x2 y1 y2 : Value} {Q : Value → Shared → Prop} (ha : s.heap.get? a = some (tupO [x1, x2])) (hb' : s.heap.get? b = some (tupO [y1, y2]))
  (h : wpAny (model prog w) A.in1 (eqBool x1 y1) (fun e1 s1 => (e1 = true → wpAny (model prog w) A.in1 (eqBool x2 y2) (fun e2 s2 => (e2 = true → Q (.bool false) s2) ∧ (e2 = false → wpAny (model prog w) A.in1 (compareOp .Lt x2 y2) Q E s2)) E s1) ∧
   (e1 = false → wpAny (model prog w) A.in1 (compareOp .Lt x1 y1) Q E s1)) E s) :
  wpAny (model prog w) A (call (.builtin "tuple.__lt__") [.ref a, .ref b]) Q E s := by
 have hTa : s.TypeIs (.ref a) "tuple" := ⟨_, ha, rfl⟩
 have hTb : s.TypeIs (.ref b) "tuple" := ⟨_, hb', rfl⟩
 refine wpAny_call_entry F.slot_tuple_lt hTa F.entry_tuple_lt ?_ (F.args_tuple_lt_2 _ _)
 show wpAny _ _ (isInstance (.ref b) (.type "tuple") >>= _) _ _ s
 refine wpAny_bind (wpAny_isInstance hTb isSubtype_tuple_tuple ?_)
 refine KFB.if_not rfl ?_
 refine wpAny_bind (wpAny_bind (wpAny_seqItems ha rfl (wpAny_pure ?_)))
 refine wpAny_bind (wpAny_bind (wpAny_seqItems hb' rfl (wpAny_pure ?_)))
 show wpAny _ _ (forIn [(x1, y1), (x2, y2)] _ _ >>= _) _ _ s
 refine wpAny_bind ?_
 rw [List.forIn_cons]
 refine wpAny_bind (wpAny_bind (wpAny_mono h (fun e1 s1 z => ?_) fun _ _ z => z))
 cases e1 with
 | true =>
  refine KFB.if_not rfl (wpAny_pure ?_)
  show wpAny _ _ (forIn [(x2, y2)] _ _) _ _ s1
  rw [List.forIn_cons]
  refine wpAny_bind (wpAny_bind (wpAny_mono (z.1 rfl) (fun e2 s2 z => ?_) fun _ _ z => z))
  cases e2 with
  | true =>
   refine KFB.if_not rfl (wpAny_pure ?_)
   show wpAny _ _ (forIn [] _ _) _ _ s2
   rw [List.forIn_nil]
   exact wpAny_pure (wpAny_pure ⟨_, rfl, z.1 rfl⟩)
  | false =>
   refine KFB.if_so rfl ?_
   refine wpAny_bind (wpAny_rule (wpAny_bind ?_))
   exact wpAny_mono (z.2 rfl) (fun v s' q => wpAny_bind (wpAny_pure (wpAny_pure (wpAny_pure (wpAny_pure ⟨_, rfl, q⟩))))) fun _ _ q => q
 | false =>
  refine KFB.if_so rfl ?_
  refine wpAny_bind (wpAny_rule (wpAny_bind ?_))
  exact wpAny_mono (z.2 rfl) (fun v s' q => wpAny_bind (wpAny_pure (wpAny_pure (wpAny_pure (wpAny_pure ⟨_, rfl, q⟩))))) fun _ _ q => q
theorem pair_gtcall {x1 x2 y1 y2 : Value} {Q : Value → Shared → Prop} (ha : s.heap.get? a = some (tupO [x1, x2])) (hb' : s.heap.get? b = some (tupO [y1, y2]))
  (h : wpAny (model prog w) A.in1 (eqBool x1 y1) (fun e1 s1 => (e1 = true → wpAny (model prog w) A.in1 (eqBool x2 y2) (fun e2 s2 => (e2 = true → Q (.bool false) s2) ∧ (e2 = false → wpAny (model prog w) A.in1 (compareOp .Gt x2 y2) Q E s2)) E s1) ∧
   (e1 = false → wpAny (model prog w) A.in1 (compareOp .Gt x1 y1) Q E s1)) E s) :
  wpAny (model prog w) A (call (.builtin "tuple.__gt__") [.ref a, .ref b]) Q E s := by
 have hTa : s.TypeIs (.ref a) "tuple" := ⟨_, ha, rfl⟩
 have hTb : s.TypeIs (.ref b) "tuple" := ⟨_, hb', rfl⟩
 refine wpAny_call_entry F.slot_tuple_gt hTa F.entry_tuple_gt ?_ (F.args_tuple_gt_2 _ _)
 show wpAny _ _ (isInstance (.ref b) (.type "tuple") >>= _) _ _ s
 refine wpAny_bind (wpAny_isInstance hTb isSubtype_tuple_tuple ?_)
 refine KFB.if_not rfl ?_
 refine wpAny_bind (wpAny_bind (wpAny_seqItems ha rfl (wpAny_pure ?_)))
 refine wpAny_bind (wpAny_bind (wpAny_seqItems hb' rfl (wpAny_pure ?_)))
 show wpAny _ _ (forIn [(x1, y1), (x2, y2)] _ _ >>= _) _ _ s
 refine wpAny_bind ?_
 rw [List.forIn_cons]
 refine wpAny_bind (wpAny_bind (wpAny_mono h (fun e1 s1 z => ?_) fun _ _ z => z))
 cases e1 with
 | true =>
  refine KFB.if_not rfl (wpAny_pure ?_)
  show wpAny _ _ (forIn [(x2, y2)] _ _) _ _ s1
  rw [List.forIn_cons]
  refine wpAny_bind (wpAny_bind (wpAny_mono (z.1 rfl) (fun e2 s2 z => ?_) fun _ _ z => z))
  cases e2 with
  | true =>
   refine KFB.if_not rfl (wpAny_pure ?_)
   show wpAny _ _ (forIn [] _ _) _ _ s2
   rw [List.forIn_nil]
   exact wpAny_pure (wpAny_pure ⟨_, rfl, z.1 rfl⟩)
  | false =>
   refine KFB.if_so rfl ?_
   refine wpAny_bind (wpAny_rule (wpAny_bind ?_))
   exact wpAny_mono (z.2 rfl) (fun v s' q => wpAny_bind (wpAny_pure (wpAny_pure (wpAny_pure (wpAny_pure ⟨_, rfl, q⟩))))) fun _ _ q => q
 | false =>
  refine KFB.if_so rfl ?_
  refine wpAny_bind (wpAny_rule (wpAny_bind ?_))
  exact wpAny_mono (z.2 rfl) (fun v s' q => wpAny_bind (wpAny_pure (wpAny_pure (wpAny_pure (wpAny_pure ⟨_, rfl, q⟩))))) fun _ _ q => q
theorem pair_lt {x1 x2 y1 y2 : Value} {Q : Value → Shared → Prop} (hu : A.units < cLine) (ha : s.heap.get? a = some (tupO [x1, x2])) (hb' : s.heap.get? b = some (tupO [y1, y2]))
  (h : wpAny (model prog w) A.in1 (eqBool x1 y1) (fun e1 s1 => (e1 = true → wpAny (model prog w) A.in1 (eqBool x2 y2) (fun e2 s2 => (e2 = true → Q (.bool false) s2) ∧ (e2 = false → wpAny (model prog w) A.in1 (compareOp .Lt x2 y2) (fun v s' => v ≠ .notImplemented ∧ Q v s') E s2)) E s1) ∧
   (e1 = false → wpAny (model prog w) A.in1 (compareOp .Lt x1 y1) (fun v s' => v ≠ .notImplemented ∧ Q v s') E s1)) E s) :
  wpAny (model prog w) A (compareOp .Lt (.ref a) (.ref b)) Q E s := by
 show wpAny (model prog w) A (richCompare .Lt (.ref a) (.ref b)) Q E s
 refine wpAny_richCompare_same_room (op := .Lt) ⟨_, ha, rfl⟩ ⟨_, hb', rfl⟩ F.slot_tuple_lt (pair_ltcall ha hb' ?_) hu
 refine wpAny_mono h (fun e1 s1 z => ⟨fun he => wpAny_mono (z.1 he) (fun e2 s2 z2 => ⟨fun he2 => ⟨nofun, z2.1 he2⟩, fun he2 => z2.2 he2⟩) fun _ _ q => q, fun he => z.2 he⟩) fun _ _ q => q
theorem pair_gt {x1 x2 y1 y2 : Value} {Q : Value → Shared → Prop} (hu : A.units < cLine) (ha : s.heap.get? a = some (tupO [x1, x2])) (hb' : s.heap.get? b = some (tupO [y1, y2]))
  (h : wpAny (model prog w) A.in1 (eqBool x1 y1) (fun e1 s1 => (e1 = true → wpAny (model prog w) A.in1 (eqBool x2 y2) (fun e2 s2 => (e2 = true → Q (.bool false) s2) ∧ (e2 = false → wpAny (model prog w) A.in1 (compareOp .Gt x2 y2) (fun v s' => v ≠ .notImplemented ∧ Q v s') E s2)) E s1) ∧
   (e1 = false → wpAny (model prog w) A.in1 (compareOp .Gt x1 y1) (fun v s' => v ≠ .notImplemented ∧ Q v s') E s1)) E s) :
  wpAny (model prog w) A (compareOp .Gt (.ref a) (.ref b)) Q E s := by
 show wpAny (model prog w) A (richCompare .Gt (.ref a) (.ref b)) Q E s
 refine wpAny_richCompare_same_room (op := .Gt) ⟨_, ha, rfl⟩ ⟨_, hb', rfl⟩ F.slot_tuple_gt (pair_gtcall ha hb' ?_) hu
 refine wpAny_mono h (fun e1 s1 z => ⟨fun he => wpAny_mono (z.1 he) (fun e2 s2 z2 => ⟨fun he2 => ⟨nofun, z2.1 he2⟩, fun he2 => z2.2 he2⟩) fun _ _ q => q, fun he => z.2 he⟩) fun _ _ q => q
end
section
variable {w : World} {A : Around} {E : Value → Shared → Prop} {s : Shared} {hb : Heap} {L : Addr} {l : List (Str × Value)} {T : List (Addr × Obj)} {Es : List Sc} {rk : UInt64 → Str → Nat}
theorem sc_lt {e e' : Sc} {Q : Value → Shared → Prop} (hu : A.units < cLine) (NB : NoneBooked s.heap) (hT : TkOk Es) (hR : RkOk rk Es) (he : e ∈ Es) (he' : e' ∈ Es) (ha : s.heap.get? e.a = some (tupO [.float e.f e.ft, strV e.x])) (hb' : s.heap.get? e'.a = some (tupO [.float e'.f e'.ft, strV e'.x]))
  (h : Q (.bool (decide (rkS rk e < rkS rk e'))) s) : wpAny (model pw w) A (compareOp .Lt (.ref e.a) (.ref e'.a)) Q E s := by
 have hself : (Float64.cmp e.f e.f == some Ordering.eq) = true := (Bool.and_eq_true_iff.mp ((hR e he e he).1.mpr rfl)).1
 obtain ⟨r1, r2, r3, r4, r5⟩ := hR e he e' he'
 refine pair_lt hu ha hb' ?_
 refine eqb_float NB (hT e he).1 (hT e' he').1 (fun q => (hT e he).2 e' he' q) hself ?_
 refine ⟨fun q => ?_, fun q => ?_⟩
 ·refine eqBool_str ⟨fun q2 => ?_, fun q2 => ?_⟩
  ·have : rkS rk e = rkS rk e' := r1.mp (by rw [q, q2]; rfl)
   rw [show decide (rkS rk e < rkS rk e') = false from decide_eq_false (by omega)] at h
   exact h
  ·refine lt_str ⟨nofun, ?_⟩
   have := r3 q
   rw [show decide (e.x.1.cps.toList < e'.x.1.cps.toList) = decide (rkS rk e < rkS rk e') from decide_eq_decide.mpr this]
   exact h
 ·refine AutoFloatOps.lt_0 ⟨nofun, ?_⟩
  have := r2 q
  rw [show (Float64.cmp e.f e'.f == some Ordering.lt) = decide (rkS rk e < rkS rk e') from by
   by_cases z : rkS rk e < rkS rk e'
   ·rw [decide_eq_true z]; exact this.mpr z
   ·rw [decide_eq_false z]; exact Bool.eq_false_iff.mpr fun q => z (this.mp q)]
  exact h
theorem sc_gt {e e' : Sc} {Q : Value → Shared → Prop} (hu : A.units < cLine) (NB : NoneBooked s.heap) (hT : TkOk Es) (hR : RkOk rk Es) (he : e ∈ Es) (he' : e' ∈ Es) (ha : s.heap.get? e.a = some (tupO [.float e.f e.ft, strV e.x])) (hb' : s.heap.get? e'.a = some (tupO [.float e'.f e'.ft, strV e'.x]))
  (h : Q (.bool (decide (rkS rk e' < rkS rk e))) s) : wpAny (model pw w) A (compareOp .Gt (.ref e.a) (.ref e'.a)) Q E s := by
 have hself : (Float64.cmp e.f e.f == some Ordering.eq) = true := (Bool.and_eq_true_iff.mp ((hR e he e he).1.mpr rfl)).1
 obtain ⟨r1, r2, r3, r4, r5⟩ := hR e he e' he'
 refine pair_gt hu ha hb' ?_
 refine eqb_float NB (hT e he).1 (hT e' he').1 (fun q => (hT e he).2 e' he' q) hself ?_
 refine ⟨fun q => ?_, fun q => ?_⟩
 ·refine eqBool_str ⟨fun q2 => ?_, fun q2 => ?_⟩
  ·have : rkS rk e = rkS rk e' := r1.mp (by rw [q, q2]; rfl)
   rw [show decide (rkS rk e' < rkS rk e) = false from decide_eq_false (by omega)] at h
   exact h
  ·refine PySem.P.gt_str ⟨nofun, ?_⟩
   have e1 : decide (e'.x.1.cps.toList < e.x.1.cps.toList) = decide (rkS rk e' < rkS rk e) := decide_eq_decide.mpr (r5 q)
   rw [e1]
   exact h
 ·refine AutoFloatOps.gt_0 ⟨nofun, ?_⟩
  have := r4 q
  rw [show (Float64.cmp e.f e'.f == some Ordering.gt) = decide (rkS rk e' < rkS rk e) from by
   by_cases z : rkS rk e' < rkS rk e
   ·rw [decide_eq_true z]; exact this.mpr z
   ·rw [decide_eq_false z]; exact Bool.eq_false_iff.mpr fun q => z (this.mp q)]
  exact h
end
end
section
section
variable {prog : Program} {w : World} {A : Around} {E : Value → Shared → Prop} {s : Shared} {a b : Addr}
theorem pair_eqcall {x1 x2 y1 y2 : Value} {Q : Value → Shared → Prop} (ha : s.heap.get? a = some (tupO [x1, x2])) (hb' : s.heap.get? b = some (tupO [y1, y2]))
  (h : wpAny (model prog w) A.in1 (eqBool x1 y1) (fun e1 s1 => (e1 = true → wpAny (model prog w) A.in1 (eqBool x2 y2) (fun e2 s2 => Q (.bool e2) s2) E s1) ∧ (e1 = false → Q (.bool false) s1)) E s) :
  wpAny (model prog w) A (call (.builtin "tuple.__eq__") [.ref a, .ref b]) Q E s := by
 have hTa : s.TypeIs (.ref a) "tuple" := ⟨_, ha, rfl⟩
 have hTb : s.TypeIs (.ref b) "tuple" := ⟨_, hb', rfl⟩
 refine wpAny_call_entry F.slot_tuple_eq hTa F.entry_tuple_eq ?_ (F.args_tuple_eq_2 _ _)
 show wpAny _ _ (isInstance (.ref b) (.type "tuple") >>= _) _ _ s
 refine wpAny_bind (wpAny_isInstance hTb isSubtype_tuple_tuple ?_)
 refine KFB.if_not rfl ?_
 refine wpAny_bind (wpAny_bind (wpAny_seqItems ha rfl (wpAny_pure ?_)))
 refine wpAny_bind (wpAny_bind (wpAny_seqItems hb' rfl (wpAny_pure ?_)))
 show wpAny _ _ (forIn [(x1, y1), (x2, y2)] _ _ >>= _) _ _ s
 refine wpAny_bind ?_
 rw [List.forIn_cons]
 refine wpAny_bind (wpAny_bind (wpAny_mono h (fun e1 s1 z => ?_) fun _ _ z => z))
 cases e1 with
 | true =>
  refine KFB.if_not rfl (wpAny_pure ?_)
  show wpAny _ _ (forIn [(x2, y2)] _ _) _ _ s1
  rw [List.forIn_cons]
  refine wpAny_bind (wpAny_bind (wpAny_mono (z.1 rfl) (fun e2 s2 z => ?_) fun _ _ z => z))
  cases e2 with
  | true =>
   refine KFB.if_not rfl (wpAny_pure ?_)
   show wpAny _ _ (forIn [] _ _) _ _ s2
   rw [List.forIn_nil]
   exact wpAny_pure (wpAny_pure ⟨_, rfl, z⟩)
  | false =>
   refine KFB.if_so rfl ?_
   exact wpAny_bind (wpAny_pure (wpAny_pure (wpAny_pure (wpAny_pure ⟨_, rfl, z⟩))))
 | false =>
  refine KFB.if_so rfl ?_
  exact wpAny_bind (wpAny_pure (wpAny_pure (wpAny_pure (wpAny_pure ⟨_, rfl, z.2 rfl⟩))))
end
section
variable {w : World} {A : Around} {E : Value → Shared → Prop} {s : Shared} {Es : List Sc} {rk : UInt64 → Str → Nat}
theorem sc_eqb {e e' : Sc} {Q : Bool → Shared → Prop} (hu : A.units < cLine) (NB : NoneBooked s.heap) (hT : TkOk Es) (hR : RkOk rk Es) (he : e ∈ Es) (he' : e' ∈ Es) (ha : s.heap.get? e.a = some (tupO [.float e.f e.ft, strV e.x])) (hb' : s.heap.get? e'.a = some (tupO [.float e'.f e'.ft, strV e'.x]))
  (h : Q (decide (rkS rk e = rkS rk e')) s) : wpAny (model pw w) A (eqBool (.ref e.a) (.ref e'.a)) Q E s := by
 have hself : (Float64.cmp e.f e.f == some Ordering.eq) = true := (Bool.and_eq_true_iff.mp ((hR e he e he).1.mpr rfl)).1
 obtain ⟨r1, -⟩ := hR e he e' he'
 unfold eqBool
 try with_reducible refine wpAny_holding ?_
 show wpAny _ _ (if (Value.ref e.a == Value.ref e'.a) = true then _ else _) Q E s
 by_cases hab : (Value.ref e.a == Value.ref e'.a) = true
 ·rw [if_pos hab]
  have ea : e.a = e'.a := by have := eq_of_beq hab; injection this
  rw [ea, hb'] at ha
  have e1 := congrArg Obj.data (Option.some.inj ha)
  injection e1 with e1 _
  have e2 : [Value.float e'.f e'.ft, strV e'.x] = [Value.float e.f e.ft, strV e.x] := by
   have := congrArg Array.toList e1
   simpa using this
  injection e2 with h1 h2
  injection h2 with h2 _
  injection h1 with f1 _
  injection h2 with x1 _
  have : rkS rk e = rkS rk e' := by unfold rkS; rw [f1, x1]
  rw [decide_eq_true this] at h
  exact wpAny_bind (wpAny_rule (wpAny_pure h))
 ·rw [if_neg hab]
  refine wpAny_bind (wpAny_richCompare_same_room (op := .Eq) ⟨_, ha, rfl⟩ ⟨_, hb', rfl⟩ F.slot_tuple_eq (pair_eqcall ha hb' ?_) hu)
  refine eqb_float NB (hT e he).1 (hT e' he').1 (fun q => (hT e he).2 e' he' q) hself ?_
  refine ⟨fun q => eqBool_str ⟨nofun, wpAny_truthy_bool ?_⟩, fun q => ⟨nofun, wpAny_truthy_bool ?_⟩⟩
  ·rw [show (e.x.1 == e'.x.1) = decide (rkS rk e = rkS rk e') from by
    rw [q, Bool.true_and] at r1
    by_cases z : rkS rk e = rkS rk e'
    ·rw [decide_eq_true z]; exact r1.mpr z
    ·rw [decide_eq_false z]; exact Bool.eq_false_iff.mpr fun q => z (r1.mp q)]
   exact h
  ·have z : ¬ rkS rk e = rkS rk e' := fun z => by
    have := r1.mpr z
    rw [q] at this; cases this
   rw [decide_eq_false z] at h
   exact h
end
end
section
def par (i : Nat) : Nat := (i - 1) / 2
inductive Desc (t : Nat) : Nat → Prop
 | refl : Desc t t
 | child {p c : Nat} : Desc t p → 1 ≤ c → par c = p → Desc t c
theorem par_lt {i : Nat} (h : 1 ≤ i) : par i < i := by unfold par; omega
theorem par_cases {c p : Nat} (h : 1 ≤ c) (e : par c = p) : c = 2 * p + 1 ∨ c = 2 * p + 2 := by unfold par at e; omega
theorem Desc.ge {t p : Nat} (h : Desc t p) : t ≤ p := by
 induction h with
 | refl => exact Nat.le_refl _
 | child h h1 e ih => have := par_lt h1; omega
theorem Desc.up {t p : Nat} (h : Desc t p) (hn : p ≠ t) : Desc t (par p) ∧ 1 ≤ p := by
 cases h with
 | refl => exact absurd rfl hn
 | child h h1 e => exact ⟨by rw [e]; exact h, h1⟩
def HeapFrom (K : Nat → Int) (m t : Nat) : Prop := ∀ i, 1 ≤ i → i < m → t ≤ par i → K (par i) ≤ K i
def DownI (K : Nat → Int) (m t pos : Nat) : Prop := Desc t pos ∧ pos < m ∧ (∀ i, 1 ≤ i → i < m → t ≤ par i → par i ≠ pos → i ≠ pos → K (par i) ≤ K i) ∧ (pos ≠ t → ∀ c, 1 ≤ c → c < m → par c = pos → K (par pos) ≤ K c)
def UpI (K : Nat → Int) (m t pos : Nat) : Prop := Desc t pos ∧ pos < m ∧ (∀ i, 1 ≤ i → i < m → t ≤ par i → i ≠ pos → K (par i) ≤ K i) ∧ (pos ≠ t → ∀ c, 1 ≤ c → c < m → par c = pos → K (par pos) ≤ K c)
def swapK (K : Nat → Int) (a b : Nat) : Nat → Int := fun i => if i = a then K b else if i = b then K a else K i
theorem down_start {K : Nat → Int} {m t : Nat} (h : HeapFrom K m (t + 1)) (ht : t < m) : DownI K m t t := by
 refine ⟨.refl, ht, fun i h1 hm hp hn _ => h i h1 hm ?_, fun q => absurd rfl q⟩
 omega
theorem down_up {K : Nat → Int} {m t pos : Nat} (h : DownI K m t pos) (hm : m ≤ 2 * pos + 1) : UpI K m t pos := by
 obtain ⟨h1, h2, h3, h4⟩ := h
 refine ⟨h1, h2, fun i i1 im hp hn => h3 i i1 im hp (fun e => ?_) hn, h4⟩
 rcases par_cases i1 e with q | q <;> omega
theorem down_step {K : Nat → Int} {m t pos c : Nat} (h : DownI K m t pos) (hc1 : 1 ≤ c) (hc : par c = pos) (hm : c < m) (hmin : ∀ s, 1 ≤ s → s < m → par s = pos → K c ≤ K s) : DownI (swapK K c pos) m t c := by
 obtain ⟨h1, h2, h3, h4⟩ := h
 have hlt := par_lt hc1
 have hcp : c ≠ pos := by omega
 refine ⟨.child h1 hc1 hc, hm, fun i i1 im hp hn1 hn2 => ?_, fun _ s s1 sm hs => ?_⟩
 ·unfold swapK
  have hil := par_lt i1
  rw [if_neg hn1, if_neg hn2]
  by_cases e1 : par i = pos
  ·rw [if_pos e1]
   by_cases e2 : i = pos
   ·omega
   ·rw [if_neg e2]; exact hmin i i1 im e1
  ·rw [if_neg e1]
   by_cases e2 : i = pos
   ·rw [if_pos e2]
    subst e2
    have : i ≠ t := fun e => by have := h1.ge; subst e; omega
    exact h4 this c hc1 hm hc
   ·rw [if_neg e2]
    exact h3 i i1 im hp e1 e2
 ·unfold swapK
  have hsl := par_lt s1
  have e1 : s ≠ c := by omega
  have e2 : s ≠ pos := by omega
  rw [if_neg e1, if_neg e2, hc, if_neg (Ne.symm hcp), if_pos rfl]
  have := h3 s s1 sm (by rw [hs]; have := h1.ge; omega) (by rw [hs]; exact hcp) e2
  rw [hs] at this
  exact this
theorem up_step {K : Nat → Int} {m t pos : Nat} (h : UpI K m t pos) (hn : pos ≠ t) (hx : K pos < K (par pos)) : UpI (swapK K (par pos) pos) m t (par pos) := by
 obtain ⟨h1, h2, h3, h4⟩ := h
 obtain ⟨hd, hp1⟩ := h1.up hn
 have hlt := par_lt hp1
 have hne : par pos ≠ pos := by omega
 refine ⟨hd, by omega, fun i i1 im hp hni => ?_, fun hnt c c1 cm hc => ?_⟩
 ·unfold swapK
  have hil := par_lt i1
  rw [if_neg hni]
  by_cases e2 : i = pos
  ·subst e2
   rw [if_pos rfl, if_pos rfl]
   omega
  ·rw [if_neg e2]
   by_cases e1 : par i = par pos
   ·rw [if_pos e1]
    have := h3 i i1 im hp e2
    rw [e1] at this
    omega
   ·rw [if_neg e1]
    by_cases e3 : par i = pos
    ·rw [if_pos e3]
     exact h4 hn i i1 im e3
    ·rw [if_neg e3]
     exact h3 i i1 im hp e2
 ·obtain ⟨hd2, hpp1⟩ := hd.up hnt
  have hlt2 := par_lt hpp1
  have hup := h3 (par pos) hpp1 (by omega) hd2.ge hne
  unfold swapK
  have hcl := par_lt c1
  have f1 : par (par pos) ≠ par pos := by omega
  have f2 : par (par pos) ≠ pos := by omega
  rw [if_neg f1, if_neg f2]
  have g1 : c ≠ par pos := by omega
  rw [if_neg g1]
  by_cases e2 : c = pos
  ·rw [if_pos e2]; exact hup
  ·rw [if_neg e2]
   have := h3 c c1 cm (by rw [hc]; exact hd.ge) e2
   rw [hc] at this
   omega
theorem up_done {K : Nat → Int} {m t pos : Nat} (h : UpI K m t pos) (he : pos = t ∨ K (par pos) ≤ K pos) : HeapFrom K m t := by
 obtain ⟨h1, h2, h3, h4⟩ := h
 intro i i1 im hp
 by_cases e : i = pos
 ·subst e
  rcases he with q | q
  ·have := par_lt i1; omega
  ·exact q
 ·exact h3 i i1 im hp e
theorem heap_min {K : Nat → Int} {m : Nat} (h : HeapFrom K m 0) : ∀ i, i < m → K 0 ≤ K i := by
 intro i
 induction i using Nat.strongRecOn with
 | _ i ih =>
  intro hi
  by_cases e : i = 0
  ·subst e; exact Int.le_refl _
  ·have hl := par_lt (i := i) (by omega)
   have := ih (par i) hl (by omega)
   have := h i (by omega) hi (Nat.zero_le _)
   omega
end
section
theorem hq_plain : plainId "_heapq.heapify.sift" = true := by decide +kernel
theorem hq_entry : entryFor table "_heapq.heapify.sift" = some Builtin.«_heapq.heapify.sift» := entryFor_of_tree (by kernel_rfl)
section
variable {prog : Program} {w : World} {A : Around} {E : Value → Shared → Prop} {s : Shared} {hb : Heap} {tabs : List Addr} {L a : Addr} {l : List (Str × Value)} {T : List (Addr × Obj)} {vs : List Value} {c pos top : Nat} {after : Int} {res : Value} {R : Result → Shared → Prop}
abbrev siftC (a : Addr) (down : Bool) (pos top : Nat) (res : Value) (after : Int) : Code := .builtin "_heapq.heapify.sift" ⟨[.ref a, .bool false, .bool down, rawInt pos, rawInt top, res, rawInt after], []⟩
theorem sift_leaf (S : St hb tabs L l ((a, lstO vs c) :: T) s.heap) (hl : vs.length / 2 ≤ pos) (h : codeAny (model prog w) A (siftC a false pos top res after) R s) : codeAny (model prog w) A (siftC a true pos top res after) R s := by
 refine codeAny_builtin hq_entry ?_
 rw [Around.under_plainId hq_plain _]
 show wpAny _ A.in1 ((seqItems? (.ref a) >>= _) >>= _) _ _ s
 refine wpAny_bind (wpAny_bind (wpAny_seqItems (S.obj _ m0) rfl (wpAny_pure ?_)))
 show wpAny _ _ (if pos < vs.toArray.size / 2 then _ else _) _ _ s
 rw [if_neg (by rw [List.size_toArray]; omega)]
 exact wpAny_pure ⟨plainId_quiet hq_plain _, h⟩
def swapL (vs : List Value) (i j : Nat) : List Value := (vs.set i (vs.getD j .none)).set j (vs.getD i .none)
theorem swap_obj {i j : Nat} : ∃ c1, Obj.mapSeq (fun xs => (xs.setIfInBounds i (vs.getD j .none)).setIfInBounds j (vs.getD i .none)) (lstO vs c) = lstO (swapL vs i j) c1 := by
 have e : (vs.toArray.setIfInBounds i (vs.getD j .none)).setIfInBounds j (vs.getD i .none) = (swapL vs i j).toArray := by simp [swapL]
 have h : ∃ c1, Obj.mapSeq (fun xs => (xs.setIfInBounds i (vs.getD j .none)).setIfInBounds j (vs.getD i .none)) (lstO vs c) = { lstO vs c with data := .seq ((vs.toArray.setIfInBounds i (vs.getD j .none)).setIfInBounds j (vs.getD i .none)) c1 } := ⟨_, rfl⟩
 rw [e] at h
 exact h
theorem sift_down {key : Value → Int} (S : St hb tabs L l ((a, lstO vs c) :: T) s.heap) (hz : vs.length ≤ 1000) (hl : pos < vs.length / 2)
  (hless : ∀ x ∈ vs, ∀ y ∈ vs, ∀ {E : Value → Shared → Prop} {Q : Value → Shared → Prop}, Q (.bool (decide (key x < key y))) s → wpAny (model prog w) A.in1 (richCompare .Lt x y) Q E s)
  (k : ∀ ch h' c', 1 ≤ ch → par ch = pos → ch < vs.length → (∀ i, 1 ≤ i → i < vs.length → par i = pos → key (vs.getD ch .none) ≤ key (vs.getD i .none)) → St hb tabs L l ((a, lstO (swapL vs ch pos) c') :: T) h' → codeAny (model prog w) A (siftC a true ch top res after) R { s with heap := h' }) :
  codeAny (model prog w) A (siftC a true pos top res after) R s := by
 have get : ∀ i, i < vs.length → vs.toArray[i]? = some (vs.getD i .none) := fun i hi => by simp [hi]
 have mem : ∀ i, i < vs.length → vs.getD i .none ∈ vs := fun i hi => by simp [hi]
 refine codeAny_builtin hq_entry ?_
 rw [Around.under_plainId hq_plain _]
 show wpAny _ A.in1 ((seqItems? (.ref a) >>= _) >>= _) _ _ s
 refine wpAny_bind (wpAny_bind (wpAny_seqItems (S.obj _ m0) rfl (wpAny_pure ?_)))
 show wpAny _ _ (if pos < vs.toArray.size / 2 then _ else _) _ _ s
 rw [if_pos (by rw [List.size_toArray]; omega)]
 show wpAny _ _ (if 2 * pos + 1 + 1 < vs.toArray.size then _ else _) _ _ s
 have hp1 : par (2 * pos + 1) = pos := by unfold par; omega
 have hp2 : par (2 * pos + 1 + 1) = pos := by unfold par; omega
 have hpos : pos < vs.length := by omega
 have hl1 : 2 * pos + 1 < vs.length := by omega
 by_cases h2 : 2 * pos + 1 + 1 < vs.length
 ·rw [if_pos (by rw [List.size_toArray]; exact h2)]
  refine wpAny_bind (wpAny_of_eq (a := vs.getD (2 * pos + 1) .none) (by show (match vs.toArray[(2 * pos + 1)]? with | some v => pure v | none => _) = _; rw [get _ hl1]) ?_)
  refine wpAny_bind (wpAny_of_eq (a := vs.getD (2 * pos + 1 + 1) .none) (by show (match vs.toArray[(2 * pos + 1 + 1)]? with | some v => pure v | none => _) = _; rw [get _ h2]) ?_)
  show wpAny _ _ (if false = true then _ else _) _ _ s
  rw [if_neg (by decide)]
  refine wpAny_bind ?_
  show wpAny _ _ (holding [vs.getD (2 * pos + 1) .none, vs.getD (2 * pos + 1 + 1) .none] (richCompare .Lt (vs.getD (2 * pos + 1) .none) (vs.getD (2 * pos + 1 + 1) .none) >>= truthOfDropped) >>= _) _ _ s
  refine wpAny_bind (wpAny_holding (wpAny_bind (hless _ (mem _ hl1) _ (mem _ h2) ?_)))
  refine wpAny_truthy_bool ?_
  show wpAny _ _ ((seqItems? (.ref a) >>= _) >>= _) _ _ s
  refine wpAny_bind (wpAny_bind (wpAny_seqItems (S.obj _ m0) rfl (wpAny_pure ?_)))
  rw [if_neg (by simp)]
  refine wpAny_pure ?_
  by_cases hlt : key (vs.getD (2 * pos + 1) .none) < key (vs.getD (2 * pos + 1 + 1) .none)
  ·rw [decide_eq_true hlt]
   show wpAny _ _ (if (!true) = true then _ else _) _ _ s
   rw [if_neg (by decide)]
   refine wpAny_bind ?_
   show wpAny _ _ ((seqItems? (.ref a) >>= _) >>= _) _ _ s
   refine wpAny_bind (wpAny_bind (wpAny_seqItems (S.obj _ m0) rfl (wpAny_pure ?_)))
   refine wpAny_bind (wpAny_of_eq (a := vs.getD (2 * pos + 1) .none) (by show (match vs.toArray[(2 * pos + 1)]? with | some v => pure v | none => _) = _; rw [get _ hl1]) ?_)
   refine wpAny_bind (wpAny_of_eq (a := vs.getD (pos) .none) (by show (match vs.toArray[(pos)]? with | some v => pure v | none => _) = _; rw [get _ hpos]) ?_)
   obtain ⟨c1, hc1⟩ : ∃ c1, Obj.mapSeq (fun xs => (xs.setIfInBounds (2 * pos + 1) (vs.getD (pos) .none)).setIfInBounds (pos) (vs.getD (2 * pos + 1) .none)) (lstO vs c) = lstO (swapL vs (2 * pos + 1) (pos)) c1 := swap_obj
   refine wpAny_updateSeq (S.obj _ m0) rfl ?_ (by rw [sizeLine_eq, List.size_toArray]; omega) (by rw [sizeLine_eq]; simp; omega)
   have S' := S.change (o' := lstO (swapL vs (2 * pos + 1) (pos)) c1) 0 rfl (Heap.SameBut.update s.heap a (Obj.mapSeq fun xs => (xs.setIfInBounds (2 * pos + 1) (vs.getD (pos) .none)).setIfInBounds (pos) (vs.getD (2 * pos + 1) .none))) (by rw [Heap.get?_update_self _ (S.obj _ m0) (by rw [hc1]; rfl), hc1])
   refine wpAny_pure ⟨plainId_quiet hq_plain _, k (2 * pos + 1) _ _ (by omega) hp1 hl1 (fun i i1 im hi => ?_) S'⟩
   rcases par_cases i1 hi with q | q
   ·rw [q]; exact Int.le_refl _
   ·rw [q]; exact Int.le_of_lt hlt
  ·rw [decide_eq_false hlt]
   show wpAny _ _ (if (!false) = true then _ else _) _ _ s
   rw [if_pos (by decide)]
   refine wpAny_bind ?_
   show wpAny _ _ ((seqItems? (.ref a) >>= _) >>= _) _ _ s
   refine wpAny_bind (wpAny_bind (wpAny_seqItems (S.obj _ m0) rfl (wpAny_pure ?_)))
   refine wpAny_bind (wpAny_of_eq (a := vs.getD (2 * pos + 1 + 1) .none) (by show (match vs.toArray[(2 * pos + 1 + 1)]? with | some v => pure v | none => _) = _; rw [get _ h2]) ?_)
   refine wpAny_bind (wpAny_of_eq (a := vs.getD (pos) .none) (by show (match vs.toArray[(pos)]? with | some v => pure v | none => _) = _; rw [get _ hpos]) ?_)
   obtain ⟨c1, hc1⟩ : ∃ c1, Obj.mapSeq (fun xs => (xs.setIfInBounds (2 * pos + 1 + 1) (vs.getD (pos) .none)).setIfInBounds (pos) (vs.getD (2 * pos + 1 + 1) .none)) (lstO vs c) = lstO (swapL vs (2 * pos + 1 + 1) (pos)) c1 := swap_obj
   refine wpAny_updateSeq (S.obj _ m0) rfl ?_ (by rw [sizeLine_eq, List.size_toArray]; omega) (by rw [sizeLine_eq]; simp; omega)
   have S' := S.change (o' := lstO (swapL vs (2 * pos + 1 + 1) (pos)) c1) 0 rfl (Heap.SameBut.update s.heap a (Obj.mapSeq fun xs => (xs.setIfInBounds (2 * pos + 1 + 1) (vs.getD (pos) .none)).setIfInBounds (pos) (vs.getD (2 * pos + 1 + 1) .none))) (by rw [Heap.get?_update_self _ (S.obj _ m0) (by rw [hc1]; rfl), hc1])
   refine wpAny_pure ⟨plainId_quiet hq_plain _, k (2 * pos + 1 + 1) _ _ (by omega) hp2 h2 (fun i i1 im hi => ?_) S'⟩
   rcases par_cases i1 hi with q | q
   ·rw [q]; exact Int.not_lt.mp hlt
   ·rw [q]; exact Int.le_refl _
 ·rw [if_neg (by rw [List.size_toArray]; exact h2)]
  refine wpAny_bind ?_
  show wpAny _ _ ((seqItems? (.ref a) >>= _) >>= _) _ _ s
  refine wpAny_bind (wpAny_bind (wpAny_seqItems (S.obj _ m0) rfl (wpAny_pure ?_)))
  refine wpAny_bind (wpAny_of_eq (a := vs.getD (2 * pos + 1) .none) (by show (match vs.toArray[(2 * pos + 1)]? with | some v => pure v | none => _) = _; rw [get _ hl1]) ?_)
  refine wpAny_bind (wpAny_of_eq (a := vs.getD (pos) .none) (by show (match vs.toArray[(pos)]? with | some v => pure v | none => _) = _; rw [get _ hpos]) ?_)
  obtain ⟨c1, hc1⟩ : ∃ c1, Obj.mapSeq (fun xs => (xs.setIfInBounds (2 * pos + 1) (vs.getD (pos) .none)).setIfInBounds (pos) (vs.getD (2 * pos + 1) .none)) (lstO vs c) = lstO (swapL vs (2 * pos + 1) (pos)) c1 := swap_obj
  refine wpAny_updateSeq (S.obj _ m0) rfl ?_ (by rw [sizeLine_eq, List.size_toArray]; omega) (by rw [sizeLine_eq]; simp; omega)
  have S' := S.change (o' := lstO (swapL vs (2 * pos + 1) (pos)) c1) 0 rfl (Heap.SameBut.update s.heap a (Obj.mapSeq fun xs => (xs.setIfInBounds (2 * pos + 1) (vs.getD (pos) .none)).setIfInBounds (pos) (vs.getD (2 * pos + 1) .none))) (by rw [Heap.get?_update_self _ (S.obj _ m0) (by rw [hc1]; rfl), hc1])
  refine wpAny_pure ⟨plainId_quiet hq_plain _, k (2 * pos + 1) _ _ (by omega) hp1 hl1 (fun i i1 im hi => ?_) S'⟩
  rcases par_cases i1 hi with q | q
  ·rw [q]; exact Int.le_refl _
  ·omega
def EndK (prog : Program) (w : World) (A : Around) (a : Addr) (res : Value) (after : Int) (R : Result → Shared → Prop) (s : Shared) : Prop :=
 (after < 0 → R (.ok (.ret res)) s) ∧ ∀ n : Nat, after = n → codeAny (model prog w) A (siftC a true n n res ((n : Int) - 1)) R s
theorem sift_rest (S : St hb tabs L l ((a, lstO vs c) :: T) s.heap) (hl : pos ≤ top) (h : EndK prog w A a res after R s) : codeAny (model prog w) A (siftC a false pos top res after) R s := by
 refine codeAny_builtin hq_entry ?_
 rw [Around.under_plainId hq_plain _]
 show wpAny _ A.in1 ((seqItems? (.ref a) >>= _) >>= _) _ _ s
 refine wpAny_bind (wpAny_bind (wpAny_seqItems (S.obj _ m0) rfl (wpAny_pure ?_)))
 show wpAny _ _ (if pos > top then _ else _) _ _ s
 rw [if_neg (by omega)]
 show wpAny _ _ (if after < 0 then _ else _) _ _ s
 by_cases ha : after < 0
 ·rw [if_pos ha]
  exact wpAny_pure (h.1 ha)
 ·rw [if_neg ha]
  obtain ⟨n, hn⟩ : ∃ n : Nat, after = n := ⟨after.toNat, by omega⟩
  subst hn
  exact wpAny_pure ⟨plainId_quiet hq_plain _, h.2 n rfl⟩
theorem sift_up {key : Value → Int} (S : St hb tabs L l ((a, lstO vs c) :: T) s.heap) (hz : vs.length ≤ 1000) (hl : top < pos) (hpos : pos < vs.length)
  (hless : ∀ x ∈ vs, ∀ y ∈ vs, ∀ {E : Value → Shared → Prop} {Q : Value → Shared → Prop}, Q (.bool (decide (key x < key y))) s → wpAny (model prog w) A.in1 (richCompare .Lt x y) Q E s)
  (k1 : ∀ h' c', key (vs.getD pos .none) < key (vs.getD (par pos) .none) → St hb tabs L l ((a, lstO (swapL vs (par pos) pos) c') :: T) h' → codeAny (model prog w) A (siftC a false (par pos) top res after) R { s with heap := h' })
  (k2 : key (vs.getD (par pos) .none) ≤ key (vs.getD pos .none) → EndK prog w A a res after R s) :
  codeAny (model prog w) A (siftC a false pos top res after) R s := by
 have get : ∀ i, i < vs.length → vs.toArray[i]? = some (vs.getD i .none) := fun i hi => by simp [hi]
 have mem : ∀ i, i < vs.length → vs.getD i .none ∈ vs := fun i hi => by simp [hi]
 have hpar : par pos < vs.length := by have := par_lt (i := pos) (by omega); omega
 refine codeAny_builtin hq_entry ?_
 rw [Around.under_plainId hq_plain _]
 show wpAny _ A.in1 ((seqItems? (.ref a) >>= _) >>= _) _ _ s
 refine wpAny_bind (wpAny_bind (wpAny_seqItems (S.obj _ m0) rfl (wpAny_pure ?_)))
 show wpAny _ _ (if pos > top then _ else _) _ _ s
 rw [if_pos hl]
 refine wpAny_bind (wpAny_of_eq (a := vs.getD (pos) .none) (by show (match vs.toArray[(pos)]? with | some v => pure v | none => _) = _; rw [get _ hpos]) ?_)
 refine wpAny_bind (wpAny_of_eq (a := vs.getD (par pos) .none) (by show (match vs.toArray[(par pos)]? with | some v => pure v | none => _) = _; rw [get _ hpar]) ?_)
 show wpAny _ _ (if false = true then _ else _) _ _ s
 rw [if_neg (by decide)]
 refine wpAny_bind ?_
 show wpAny _ _ (holding [vs.getD (pos) .none, vs.getD (par pos) .none] (richCompare .Lt (vs.getD (pos) .none) (vs.getD (par pos) .none) >>= truthOfDropped) >>= _) _ _ s
 refine wpAny_bind (wpAny_holding (wpAny_bind (hless _ (mem _ hpos) _ (mem _ hpar) ?_)))
 refine wpAny_truthy_bool ?_
 show wpAny _ _ ((seqItems? (.ref a) >>= _) >>= _) _ _ s
 refine wpAny_bind (wpAny_bind (wpAny_seqItems (S.obj _ m0) rfl (wpAny_pure ?_)))
 rw [if_neg (by simp)]
 refine wpAny_pure ?_
 by_cases hlt : key (vs.getD pos .none) < key (vs.getD (par pos) .none)
 ·rw [decide_eq_true hlt]
  show wpAny _ _ (if true = true then _ else _) _ _ s
  rw [if_pos rfl]
  refine wpAny_bind ?_
  show wpAny _ _ ((seqItems? (.ref a) >>= _) >>= _) _ _ s
  refine wpAny_bind (wpAny_bind (wpAny_seqItems (S.obj _ m0) rfl (wpAny_pure ?_)))
  refine wpAny_bind (wpAny_of_eq (a := vs.getD (par pos) .none) (by show (match vs.toArray[(par pos)]? with | some v => pure v | none => _) = _; rw [get _ hpar]) ?_)
  refine wpAny_bind (wpAny_of_eq (a := vs.getD (pos) .none) (by show (match vs.toArray[(pos)]? with | some v => pure v | none => _) = _; rw [get _ hpos]) ?_)
  obtain ⟨c1, hc1⟩ : ∃ c1, Obj.mapSeq (fun xs => (xs.setIfInBounds (par pos) (vs.getD (pos) .none)).setIfInBounds (pos) (vs.getD (par pos) .none)) (lstO vs c) = lstO (swapL vs (par pos) (pos)) c1 := swap_obj
  refine wpAny_updateSeq (S.obj _ m0) rfl ?_ (by rw [sizeLine_eq, List.size_toArray]; omega) (by rw [sizeLine_eq]; simp; omega)
  have S' := S.change (o' := lstO (swapL vs (par pos) (pos)) c1) 0 rfl (Heap.SameBut.update s.heap a (Obj.mapSeq fun xs => (xs.setIfInBounds (par pos) (vs.getD (pos) .none)).setIfInBounds (pos) (vs.getD (par pos) .none))) (by rw [Heap.get?_update_self _ (S.obj _ m0) (by rw [hc1]; rfl), hc1])
  exact wpAny_pure ⟨plainId_quiet hq_plain _, k1 _ _ hlt S'⟩
 ·rw [decide_eq_false hlt]
  show wpAny _ _ (if false = true then _ else _) _ _ s
  rw [if_neg (by decide)]
  have h := k2 (Int.not_lt.mp hlt)
  show wpAny _ _ (if after < 0 then _ else _) _ _ s
  by_cases ha : after < 0
  ·rw [if_pos ha]
   exact wpAny_pure (h.1 ha)
  ·rw [if_neg ha]
   obtain ⟨n, hn⟩ : ∃ n : Nat, after = n := ⟨after.toNat, by omega⟩
   subst hn
   exact wpAny_pure ⟨plainId_quiet hq_plain _, h.2 n rfl⟩
end
end
section
abbrev keyAt (key : Value → Int) (vs : List Value) : Nat → Int := fun i => key (vs.getD i .none)
theorem swapL_perm {vs : List Value} {i j : Nat} (hi : i < vs.length) (hj : j < vs.length) : (swapL vs i j).Perm vs := by
 have e1 : vs.getD i .none = vs[i] := by simp [hi]
 have e2 : vs.getD j .none = vs[j] := by simp [hj]
 unfold swapL
 rw [e1, e2]
 exact List.set_set_perm hi hj
theorem swapL_key (key : Value → Int) {vs : List Value} {i j : Nat} (hi : i < vs.length) (hj : j < vs.length) (hij : i ≠ j) : keyAt key (swapL vs i j) = swapK (keyAt key vs) i j := by
 funext k
 unfold swapK keyAt swapL
 by_cases e1 : k = i
 ·subst e1
  rw [if_pos rfl]
  congr 1
  simp [List.getElem?_set, hi, Ne.symm hij]
 ·rw [if_neg e1]
  by_cases e2 : k = j
  ·subst e2
   rw [if_pos rfl]
   congr 1
   simp [List.getElem?_set, hj]
  ·rw [if_neg e2]
   congr 1
   simp [List.getElem?_set, Ne.symm e1, Ne.symm e2]
section
variable {prog : Program} {w : World} {A : Around} {s : Shared} {hb : Heap} {tabs : List Addr} {L a : Addr} {l : List (Str × Value)} {T : List (Addr × Obj)} {vs0 : List Value} {top : Nat} {after : Int} {res : Value} {R : Result → Shared → Prop} {key : Value → Int}
def LessAll (prog : Program) (w : World) (A : Around) (hb : Heap) (tabs : List Addr) (L a : Addr) (l : List (Str × Value)) (T : List (Addr × Obj)) (vs0 : List Value) (key : Value → Int) (s : Shared) : Prop :=
 ∀ s' c' vs', Kp s s' → St hb tabs L l ((a, lstO vs' c') :: T) s'.heap → ∀ x ∈ vs0, ∀ y ∈ vs0, ∀ {E : Value → Shared → Prop} {Q : Value → Shared → Prop}, Q (.bool (decide (key x < key y))) s' → wpAny (model prog w) A.in1 (richCompare .Lt x y) Q E s'
theorem up_all (hless : LessAll prog w A hb tabs L a l T vs0 key s) (hz : vs0.length ≤ 1000)
  (hfin : ∀ s' vs' c', Kp s s' → vs'.Perm vs0 → HeapFrom (keyAt key vs') vs0.length top → St hb tabs L l ((a, lstO vs' c') :: T) s'.heap → EndK prog w A a res after R s') :
  ∀ pos vs c s₁, Kp s s₁ → vs.Perm vs0 → UpI (keyAt key vs) vs0.length top pos → St hb tabs L l ((a, lstO vs c) :: T) s₁.heap → codeAny (model prog w) A (siftC a false pos top res after) R s₁ := by
 intro pos
 induction pos using Nat.strongRecOn with
 | _ pos ih =>
  intro vs c s₁ K hp hU S
  have hlen := hp.length_eq
  by_cases hn : pos = top
  ·exact sift_rest S (by omega) (hfin s₁ vs c K hp (up_done hU (.inl hn)) S)
  ·have hge := hU.1.ge
   have hlt : pos < vs.length := by rw [hlen]; exact hU.2.1
   obtain ⟨hd, hp1⟩ := hU.1.up hn
   have hpl := par_lt hp1
   refine sift_up S (by omega) (by omega) hlt (fun x hx y hy => hless s₁ c vs K S x (hp.mem_iff.mp hx) y (hp.mem_iff.mp hy)) ?_ ?_
   ·intro h' c' hx S'
    refine ih (par pos) hpl (swapL vs (par pos) pos) c' _ ⟨K.os, K.gens⟩ ((swapL_perm (by omega) hlt).trans hp) ?_ S'
    rw [swapL_key key (by omega) hlt (by omega)]
    exact up_step hU hn hx
   ·intro hx
    exact hfin s₁ vs c K hp (up_done hU (.inr hx)) S
theorem down_all (hless : LessAll prog w A hb tabs L a l T vs0 key s) (hz : vs0.length ≤ 1000)
  (hfin : ∀ s' vs' c', Kp s s' → vs'.Perm vs0 → HeapFrom (keyAt key vs') vs0.length top → St hb tabs L l ((a, lstO vs' c') :: T) s'.heap → EndK prog w A a res after R s') :
  ∀ k pos vs c s₁, vs0.length - pos = k → Kp s s₁ → vs.Perm vs0 → DownI (keyAt key vs) vs0.length top pos → St hb tabs L l ((a, lstO vs c) :: T) s₁.heap → codeAny (model prog w) A (siftC a true pos top res after) R s₁ := by
 intro k
 induction k using Nat.strongRecOn with
 | _ k ih =>
  intro pos vs c s₁ hk K hp hD S
  have hlen := hp.length_eq
  have hlt : pos < vs.length := by rw [hlen]; exact hD.2.1
  by_cases hl : pos < vs.length / 2
  ·refine sift_down S (by omega) hl (fun x hx y hy => hless s₁ c vs K S x (hp.mem_iff.mp hx) y (hp.mem_iff.mp hy)) ?_
   intro ch h' c' h1 hpc hch hmin S'
   have hcl := par_lt h1
   refine ih (vs0.length - ch) (by omega) ch (swapL vs ch pos) c' _ rfl ⟨K.os, K.gens⟩ ((swapL_perm hch hlt).trans hp) ?_ S'
   rw [swapL_key key hch hlt (by omega)]
   exact down_step hD h1 hpc (by omega) (fun i i1 im hi => hmin i i1 (by omega) hi)
  ·exact sift_leaf S (by omega) (up_all hless hz hfin pos vs c s₁ K hp (down_up hD (by omega)) S)
theorem heapify_all (hless : LessAll prog w A hb tabs L a l T vs0 key s) (hz : vs0.length ≤ 1000)
  (hR : ∀ s' vs' c', Kp s s' → vs'.Perm vs0 → HeapFrom (keyAt key vs') vs0.length 0 → St hb tabs L l ((a, lstO vs' c') :: T) s'.heap → R (.ok (.ret res)) s') :
  ∀ n vs c s₁, n < vs0.length → Kp s s₁ → vs.Perm vs0 → HeapFrom (keyAt key vs) vs0.length (n + 1) → St hb tabs L l ((a, lstO vs c) :: T) s₁.heap → codeAny (model prog w) A (siftC a true n n res ((n : Int) - 1)) R s₁ := by
 intro n
 induction n with
 | zero =>
  intro vs c s₁ hn K hp hH S
  refine down_all hless hz (fun s' vs' c' K' hp' hH' S' => ⟨fun _ => hR s' vs' c' K' hp' hH' S', fun m hm => by omega⟩) _ 0 vs c s₁ rfl K hp (down_start hH hn) S
 | succ n ih =>
  intro vs c s₁ hn K hp hH S
  refine down_all hless hz (fun s' vs' c' K' hp' hH' S' => ⟨fun h => by omega, fun m hm => ?_⟩) _ (n + 1) vs c s₁ rfl K hp (down_start hH hn) S
  have : m = n := by omega
  subst this
  exact ih vs' c' s' (by omega) K' hp' hH' S'
end
end
section
theorem hy_kind : builtinKind "_heapq.heapify" = none := by decide +kernel
theorem hy_plain : plainId "_heapq.heapify" = true := by decide +kernel
theorem hy_entry : entryFor table "_heapq.heapify" = some Builtin.«_heapq.heapify» := entryFor_of_tree (by kernel_rfl)
theorem hy_args (a : Value) : argsOk "_heapq.heapify" ⟨[a], []⟩ := by unfold argsOk; kernel_rfl
theorem hr_kind : builtinKind "_heapq.heapreplace" = none := by decide +kernel
theorem hr_plain : plainId "_heapq.heapreplace" = true := by decide +kernel
theorem hr_entry : entryFor table "_heapq.heapreplace" = some Builtin.«_heapq.heapreplace» := entryFor_of_tree (by kernel_rfl)
theorem hr_args (a b : Value) : argsOk "_heapq.heapreplace" ⟨[a, b], []⟩ := by unfold argsOk; kernel_rfl
theorem sub_list' : isSubtype (.type "list") (.type "list") = pure true := by rw [isSubtype_type]; kernel_rfl
section
variable {prog : Program} {w : World} {A : Around} {E : Value → Shared → Prop} {s : Shared} {hb : Heap} {tabs : List Addr} {L a : Addr} {l : List (Str × Value)} {T : List (Addr × Obj)} {vs : List Value} {c : Nat} {key : Value → Int}
theorem r_heapify {Q : Value → Shared → Prop} (S : St hb tabs L l ((a, lstO vs c) :: T) s.heap) (hz : vs.length ≤ 1000) (hless : LessAll prog w A hb tabs L a l T vs key s)
  (k : ∀ s' vs' c', Kp s s' → vs'.Perm vs → HeapFrom (keyAt key vs') vs.length 0 → St hb tabs L l ((a, lstO vs' c') :: T) s'.heap → Q .none s') : wpAny (model prog w) A (call (.builtin "_heapq.heapify") [.ref a]) Q E s := by
 have hT : s.TypeIs (.ref a) "list" := ⟨_, S.obj _ m0, rfl⟩
 refine call_function_tree hy_kind hy_plain hy_entry (hy_args _) ?_
 show wpAny _ _ (((pure (Value.ref a)) >>= _) >>= _) _ _ s
 refine wpAny_bind (wpAny_bind (wpAny_pure ?_))
 refine wpAny_bind ?_
 show wpAny _ _ (isInstance (.ref a) (.type "list") >>= _) _ _ s
 refine wpAny_bind (wpAny_isInstance hT sub_list' ?_)
 refine wpAny_pure ?_
 refine wpAny_pure ?_
 show wpAny _ _ ((seqItems? (.ref a) >>= _) >>= _) _ _ s
 refine wpAny_bind (wpAny_bind (wpAny_seqItems (S.obj _ m0) rfl (wpAny_pure ?_)))
 show wpAny _ _ (if vs.toArray.size > 2500 then _ else _) _ _ s
 rw [if_neg (by rw [List.size_toArray]; omega)]
 show wpAny _ _ (if vs.toArray.size < 2 then _ else _) _ _ s
 by_cases h2 : vs.length < 2
 ·rw [if_pos (by rw [List.size_toArray]; exact h2)]
  refine wpAny_pure (k s vs c Kp.refl (List.Perm.refl _) (fun i i1 im _ => by omega) S)
 ·rw [if_neg (by rw [List.size_toArray]; exact h2)]
  have e1 : ((vs.toArray.size / 2 : Nat) : Int) - 2 = ((vs.length / 2 - 1 : Nat) : Int) - 1 := by rw [List.size_toArray]; omega
  rw [e1]
  refine wpAny_pure ⟨plainId_quiet hq_plain _, ?_⟩
  refine heapify_all (key := key) hless hz (fun s' vs' c' K' hp' hH' S' => k s' vs' c' K' hp' hH' S') (vs.length / 2 - 1) vs c s (by omega) Kp.refl (List.Perm.refl _) (fun i i1 im hp => ?_) S
  unfold par at hp
  omega
theorem r_heapreplace {item first : Value} {rest : List Value} {Q : Value → Shared → Prop} (S : St hb tabs L l ((a, lstO (first :: rest) c) :: T) s.heap) (hz : (first :: rest).length ≤ 1000) (hless : LessAll prog w A hb tabs L a l T (item :: rest) key s) (hH : HeapFrom (keyAt key (first :: rest)) (first :: rest).length 0)
  (k : ∀ s' vs' c', Kp s s' → vs'.Perm (item :: rest) → HeapFrom (keyAt key vs') (item :: rest).length 0 → St hb tabs L l ((a, lstO vs' c') :: T) s'.heap → Q first s') : wpAny (model prog w) A (call (.builtin "_heapq.heapreplace") [.ref a, item]) Q E s := by
 have hT : s.TypeIs (.ref a) "list" := ⟨_, S.obj _ m0, rfl⟩
 refine call_function_tree hr_kind hr_plain hr_entry (hr_args _ _) ?_
 show wpAny _ _ (((isInstance (.ref a) (.type "list") >>= _) >>= _) >>= _) _ _ s
 refine wpAny_bind (wpAny_bind (wpAny_bind (wpAny_isInstance hT sub_list' ?_)))
 refine wpAny_pure (wpAny_pure ?_)
 show wpAny _ _ ((seqItems? (.ref a) >>= _) >>= _) _ _ s
 refine wpAny_bind (wpAny_bind (wpAny_seqItems (S.obj _ m0) rfl (wpAny_pure ?_)))
 show wpAny _ _ (updateSeq a (·.setIfInBounds 0 item) >>= _) _ _ s
 refine wpAny_bind ?_
 obtain ⟨c1, hc1⟩ : ∃ c1, Obj.mapSeq (·.setIfInBounds 0 item) (lstO (first :: rest) c) = lstO (item :: rest) c1 := by
  have e : (first :: rest).toArray.setIfInBounds 0 item = (item :: rest).toArray := by simp
  have h : ∃ c1, Obj.mapSeq (·.setIfInBounds 0 item) (lstO (first :: rest) c) = { lstO (first :: rest) c with data := .seq ((first :: rest).toArray.setIfInBounds 0 item) c1 } := ⟨_, rfl⟩
  rw [e] at h
  exact h
 refine wpAny_updateSeq (S.obj _ m0) rfl ?_ (by rw [sizeLine_eq, List.size_toArray]; omega) (by rw [sizeLine_eq]; simp at hz ⊢; omega)
 have S' := S.change (o' := lstO (item :: rest) c1) 0 rfl (Heap.SameBut.update s.heap a (Obj.mapSeq (·.setIfInBounds 0 item))) (by rw [Heap.get?_update_self _ (S.obj _ m0) (by rw [hc1]; rfl), hc1])
 refine wpAny_pure ⟨plainId_quiet hq_plain _, ?_⟩
 refine heapify_all (key := key) (vs0 := item :: rest) (s := s) hless (by simpa using hz) (fun s' vs' c' K' hp' hH' S'' => k s' vs' c' K' hp' hH' S'') 0 (item :: rest) c1 _ (by simp) ⟨rfl, id⟩ (List.Perm.refl _) (fun i i1 im hp => ?_) S'
 have h := hH i i1 (by simpa using im) (Nat.zero_le _)
 have e1 : ∀ j, 1 ≤ j → (first :: rest).getD j Value.none = (item :: rest).getD j Value.none := by
  intro j hj
  cases j with
  | zero => omega
  | succ j => rfl
 unfold keyAt at h ⊢
 rw [e1 i i1, e1 (par i) (by omega)] at h
 exact h
end
end
section
structure HI where
 a : Addr
 e : Sc
 ord : Int
 ot : Tok
def keyH (rk : UInt64 → Str → Nat) (i : HI) : Int := (rkS rk i.e : Int) * 1000 + i.ord
section
variable {w : World} {A : Around} {E : Value → Shared → Prop} {s : Shared} {Es : List Sc} {rk : UInt64 → Str → Nat}
theorem hi_lt {x y : HI} {Q : Value → Shared → Prop} (hu : A.units + 2 < cLine) (NB : NoneBooked s.heap) (hT : TkOk Es) (hR : RkOk rk Es) (he : x.e ∈ Es) (he' : y.e ∈ Es) (ha : s.heap.get? x.e.a = some (tupO [.float x.e.f x.e.ft, strV x.e.x])) (hb' : s.heap.get? y.e.a = some (tupO [.float y.e.f y.e.ft, strV y.e.x]))
  (hx : s.heap.get? x.a = some (tupO [.ref x.e.a, .int x.ord x.ot])) (hy : s.heap.get? y.a = some (tupO [.ref y.e.a, .int y.ord y.ot]))
  (ox : -400 ≤ x.ord ∧ x.ord ≤ 400) (oy : -400 ≤ y.ord ∧ y.ord ≤ 400)
  (h : Q (.bool (decide (keyH rk x < keyH rk y))) s) : wpAny (model pw w) A (compareOp .Lt (.ref x.a) (.ref y.a)) Q E s := by
 refine pair_lt (by omega) hx hy ?_
 refine sc_eqb (by show A.units + 1 < cLine; omega) NB hT hR he he' ha hb' ?_
 unfold keyH at h
 refine ⟨fun q => ?_, fun q => ?_⟩
 ·have hq := of_decide_eq_true q
  refine wpAny_eqBool_int ⟨fun q2 => ?_, fun q2 => ?_⟩
  ·have e1 : x.ord = y.ord := eq_of_beq q2
   rw [show decide ((rkS rk x.e : Int) * 1000 + x.ord < (rkS rk y.e : Int) * 1000 + y.ord) = false from decide_eq_false (by omega)] at h
   exact h
  ·refine P.lt_int ⟨nofun, ?_⟩
   rw [show decide (x.ord < y.ord) = decide ((rkS rk x.e : Int) * 1000 + x.ord < (rkS rk y.e : Int) * 1000 + y.ord) from decide_eq_decide.mpr (by omega)]
   exact h
 ·have hq := of_decide_eq_false q
  refine sc_lt (by show A.units + 1 < cLine; omega) NB hT hR he he' ha hb' ⟨nofun, ?_⟩
  rw [show decide (rkS rk x.e < rkS rk y.e) = decide ((rkS rk x.e : Int) * 1000 + x.ord < (rkS rk y.e : Int) * 1000 + y.ord) from decide_eq_decide.mpr (by omega)]
  exact h
end
end
section
theorem top_split {rk : UInt64 → PySem.Str → Nat} {Hs outs Es : List Sc} (hp : (Hs ++ outs).Perm Es) (hs : Hs.Pairwise (fun a b => rkS rk b ≤ rkS rk a)) (ho : ∀ o ∈ outs, ∀ h ∈ Hs, rkS rk o ≤ rkS rk h) :
  ∃ P : List Sc, P.Perm Es ∧ P.Pairwise (fun a b => rkS rk b ≤ rkS rk a) ∧ P.take Hs.length = Hs := by
 refine ⟨Hs ++ outs.mergeSort (fun a b => decide (rkS rk b ≤ rkS rk a)), ?_, ?_, ?_⟩
 ·exact ((List.mergeSort_perm outs _).append_left Hs).trans hp
 ·refine List.pairwise_append.mpr ⟨hs, ?_, fun a ha b hb => ?_⟩
  ·have := List.pairwise_mergeSort (le := fun a b : Sc => decide (rkS rk b ≤ rkS rk a)) (fun a b c h1 h2 => by simp at *; omega) (fun a b => by simp; omega) outs
   exact this.imp fun h => by simpa using h
  ·exact ho b ((List.mergeSort_perm outs _).mem_iff.mp hb) a ha
 ·simp
end
section
theorem mx_plain : plainId "max.loop" = true := by decide +kernel
theorem mx_entry : entryFor table "max.loop" = some Builtin.«max.loop» := entryFor_of_tree (by kernel_rfl)
section
variable {prog : Program} {w : World} {A : Around} {E : Value → Shared → Prop} {s : Shared} {hb : Heap} {tabs : List Addr} {L d I best : Addr} {l : List (Str × Value)} {T : List (Addr × Obj)} {vs : List Value} {i n : Nat} {o : Obj} {dflt : Value} {R : Result → Shared → Prop} {rkv : Value → Nat}
theorem lit_next {x : Value} {Q : Option Value → Shared → Prop} (ii : Nat) (S : St hb tabs L l T s.heap) (hit : T[ii]? = some (I, o)) (ho : LitAt o d i) (hd : (d, lstO vs n) ∈ T) (hx : vs[i]? = some x)
  (h : ∀ h' o', LitAt o' d (i + 1) → St hb tabs L l (T.set ii (I, o')) h' → Q (some x) { s with heap := h' }) : wpAny (model prog w) A (pyNext (.ref I)) Q E s := by
 refine wpAny_pyNext_list_item (items := vs.toArray) ⟨_, S.obj _ (List.mem_of_getElem? hit), ho.1, ho.2⟩ ⟨_, S.obj _ hd, rfl, n, rfl⟩ (by simpa using hx) fun h' hit' hs' => ?_
 obtain ⟨o', ho', hc', hd'⟩ := hit'
 exact h h' o' ⟨hc', hd'⟩ (S.change ii hit hs' ho')
theorem lit_end {Q : Option Value → Shared → Prop} (hh : A.handled = none) (S : St hb tabs L l (T ++ [(I, o)]) s.heap) (ho : LitAt o d vs.length) (hd : (d, lstO vs n) ∈ T)
  (h : ∀ h', St hb tabs L l T h' → Q none { s with heap := h' }) : wpAny (model prog w) A (pyNext (.ref I)) Q E s := by
 refine wpAny_pyNext_list_end (items := vs.toArray) hh ⟨_, S.obj (I, o) (List.mem_append_right _ (.head _)), ho.1, ho.2⟩ ⟨_, S.obj _ (List.mem_append_left _ hd), rfl, n, rfl⟩ (by simp) fun h' he => ?_
 exact h h' (S.drop (own := [(I, o)]) fun b x hb' e => he b x (fun q => hb' (by rw [q]; exact .head _)) e)
theorem max_loop (hh : A.handled = none) (hne : 0 < vs.length) (hz : vs.length ≤ 1000) (hd : (d, lstO vs n) ∈ T)
  (hgt : ∀ (s' : Shared) (T' : List (Addr × Obj)), Kp s s' → St hb tabs L l T' s'.heap → (∀ p ∈ T, p ∈ T') → ∀ x ∈ vs, ∀ y ∈ vs, ∀ {E : Value → Shared → Prop} {Q : Value → Shared → Prop}, Q (.bool (decide (rkv y < rkv x))) s' → wpAny (model prog w) A.in1 (richCompare .Gt x y) Q E s')
  (hR : ∀ s' m c, Kp s s' → m ∈ vs → (∀ x ∈ vs, rkv x ≤ rkv m) → St hb tabs L l ((best, lstO [] c) :: T) s'.heap → R (.ok (.ret m)) s') :
  ∀ (k i : Nat) (cur : List Value) (c : Nat) (o : Obj) (s₁ : Shared), vs.length - i = k → i ≤ vs.length → LitAt o d i → St hb tabs L l ((best, lstO cur c) :: (I, o) :: T) s₁.heap → Kp s s₁ →
   (i = 0 ∧ cur = [] ∨ 0 < i ∧ ∃ m, cur = [m, m] ∧ m ∈ vs ∧ ∀ x ∈ vs.take i, rkv x ≤ rkv m) →
   codeAny (model prog w) A (.builtin "max.loop" ⟨[.ref I, .none, .ref best], [(Str.ofString "default", dflt)]⟩) R s₁ := by
 intro k
 induction k with
 | zero =>
  intro i cur c o s₁ hk hi ho S K hcur
  have : i = vs.length := by omega
  subst this
  refine codeAny_builtin mx_entry ?_
  rw [Around.under_plainId mx_plain _]
  show wpAny _ A.in1 (seqItems? (.ref best) >>= _) _ _ s₁
  refine wpAny_bind (wpAny_seqItems (S.obj _ m0) rfl ?_)
  show wpAny _ A.in1 (tryCatch (pyNext (.ref I)) _ >>= _) _ _ s₁
  refine wpAny_bind (wpAny_tryCatch ?_)
  refine lit_end (T := (best, lstO cur c) :: T) hh (S.perm (by exact List.Perm.cons _ (List.perm_append_comm (l₁ := [(I, o)]) (l₂ := T)))) ho (.tail _ hd) fun h' S' => ?_
  rcases hcur with ⟨h0, _⟩ | ⟨_, m, rfl, hm, hmax⟩
  ·omega
  ·rw [List.take_length] at hmax
   show wpAny _ _ (updateSeq best (fun _ => #[]) >>= _) _ _ _
   obtain ⟨c1, hc1⟩ : ∃ c1, Obj.mapSeq (fun _ => (#[] : Array Value)) (lstO [m, m] c) = lstO [] c1 := ⟨_, rfl⟩
   refine wpAny_bind (wpAny_updateSeq (S'.obj _ m0) rfl ?_)
   have S₂ := S'.change (o' := lstO [] c1) 0 rfl (Heap.SameBut.update _ best (Obj.mapSeq fun _ => (#[] : Array Value))) (by rw [Heap.get?_update_self _ (S'.obj _ m0) rfl, ← hc1])
   refine wpAny_bind (wpAny_letGo ?_)
   exact wpAny_pure (hR _ m c1 ⟨K.os, K.gens⟩ hm hmax S₂)
 | succ k ih =>
  intro i cur c o s₁ hk hi ho S K hcur
  have hlt : i < vs.length := by omega
  refine codeAny_builtin mx_entry ?_
  rw [Around.under_plainId mx_plain _]
  show wpAny _ A.in1 (seqItems? (.ref best) >>= _) _ _ s₁
  refine wpAny_bind (wpAny_seqItems (S.obj _ m0) rfl ?_)
  show wpAny _ A.in1 (tryCatch (pyNext (.ref I)) _ >>= _) _ _ s₁
  refine wpAny_bind (wpAny_tryCatch ?_)
  refine lit_next (x := vs[i]) 1 S rfl ho (.tail _ (.tail _ hd)) (by simp [hlt]) fun h' o' ho' S' => ?_
  have hx : vs[i] ∈ vs := List.getElem_mem hlt
  have hcl : cur.length ≤ 2 := by
   rcases hcur with ⟨_, rfl⟩ | ⟨_, m, rfl, _⟩ <;> simp
  have upd : ∀ (m : Value) {E : Value → Shared → Prop} {Q : Unit → Shared → Prop} (s' : Shared), St hb tabs L l ((best, lstO cur c) :: (I, o') :: T) s'.heap → (∀ h'' c'', St hb tabs L l ((best, lstO [m, m] c'') :: (I, o') :: T) h'' → Q () { s' with heap := h'' }) → wpAny (model prog w) A.in1 (updateSeq best fun _ => #[m, m]) Q E s' := by
   intro m E Q s' Sx hq
   obtain ⟨c1, hc1⟩ : ∃ c1, Obj.mapSeq (fun _ => (#[m, m] : Array Value)) (lstO cur c) = lstO [m, m] c1 := ⟨_, rfl⟩
   refine wpAny_updateSeq (Sx.obj _ m0) rfl (hq _ c1 (Sx.change 0 rfl (Heap.SameBut.update _ best (Obj.mapSeq fun _ => (#[m, m] : Array Value))) (by rw [Heap.get?_update_self _ (Sx.obj _ m0) rfl, ← hc1]))) (by rw [sizeLine_eq, List.size_toArray]; omega)
  rcases hcur with ⟨rfl, rfl⟩ | ⟨h0, m, rfl, hm, hmax⟩
  ·show wpAny _ _ (updateSeq best (fun _ => #[vs[0], vs[0]]) >>= _) _ _ _
   refine wpAny_bind (upd _ _ S' fun h'' c'' S'' => ?_)
   refine wpAny_pure ⟨plainId_quiet mx_plain _, ih 1 _ _ o' _ (by omega) (by omega) ho' S'' ⟨K.os, K.gens⟩ (.inr ⟨by omega, vs[0], rfl, hx, fun x hx' => ?_⟩)⟩
   rw [List.take_one, List.head?_eq_getElem?, List.getElem?_eq_getElem hlt] at hx'
   simp at hx'
   rw [hx']
   exact Nat.le_refl _
  ·have hmax' : ∀ m', rkv m ≤ rkv m' → rkv vs[i] ≤ rkv m' → ∀ x ∈ vs.take (i + 1), rkv x ≤ rkv m' := by
    intro m' h1 h2 x hx'
    rw [List.take_add_one, List.getElem?_eq_getElem hlt] at hx'
    rcases List.mem_append.mp hx' with q | q
    ·exact Nat.le_trans (hmax x q) h1
    ·simp at q
     rw [q]; exact h2
   show wpAny _ _ (tryCatch (holding [vs[i], vs[i]] (richCompare .Gt vs[i] m >>= fun answer => holding [answer] (truthy answer) >>= fun yes => letGo [answer] >>= fun _ => pure yes)) _ >>= _) _ _ _
   refine wpAny_bind (wpAny_tryCatch (wpAny_holding (wpAny_bind ?_)))
   refine hgt { s₁ with heap := h' } ((best, lstO [m, m] c) :: (I, o') :: T) ⟨K.os, K.gens⟩ (by exact S') (fun p hp => .tail _ (.tail _ hp)) vs[i] hx m hm ?_
   refine wpAny_bind (wpAny_holding (wpAny_truthy_bool ?_))
   refine wpAny_bind (wpAny_letGo ?_)
   refine wpAny_pure ?_
   by_cases hb' : rkv m < rkv vs[i]
   ·rw [decide_eq_true hb']
    refine KFB.if_so rfl ?_
    show wpAny _ _ (updateSeq best (fun _ => #[vs[i], vs[i]]) >>= _) _ _ _
    refine wpAny_bind (upd _ _ S' fun h'' c'' S'' => ?_)
    refine wpAny_bind (wpAny_letGo ?_)
    exact wpAny_pure ⟨plainId_quiet mx_plain _, ih (i + 1) _ _ o' _ (by omega) (by omega) ho' S'' ⟨K.os, K.gens⟩ (.inr ⟨by omega, vs[i], rfl, hx, hmax' _ (Nat.le_of_lt hb') (Nat.le_refl _)⟩)⟩
   ·rw [decide_eq_false hb']
    refine KFB.if_not rfl ?_
    refine wpAny_bind (wpAny_letGo ?_)
    exact wpAny_pure ⟨plainId_quiet mx_plain _, ih (i + 1) _ _ o' _ (by omega) (by omega) ho' S' ⟨K.os, K.gens⟩ (.inr ⟨by omega, m, rfl, hm, hmax' _ (Nat.le_refl _) (by omega)⟩)⟩
end
end
section
theorem mx_args (a u v : Value) : argsOk "max" ⟨[a], [(Str.ofString "default", u), (Str.ofString "key", v)]⟩ := by unfold argsOk; kernel_rfl
section
variable {prog : Program} {w : World} {A : Around} {E : Value → Shared → Prop} {s : Shared} {hb : Heap} {tabs : List Addr} {L d I : Addr} {l : List (Str × Value)} {T : List (Addr × Obj)} {vs : List Value} {n : Nat} {o : Obj} {dflt : Value} {rkv : Value → Nat}
theorem r_max {Q : Value → Shared → Prop} (hh : A.handled = none) (S : St hb tabs L l ((I, o) :: T) s.heap) (ho : LitAt o d 0) (hd : (d, lstO vs n) ∈ T) (hz : vs.length ≤ 1000)
  (hgt : ∀ (s' : Shared) (T' : List (Addr × Obj)), Kp s s' → St hb tabs L l T' s'.heap → (∀ p ∈ T, p ∈ T') → ∀ x ∈ vs, ∀ y ∈ vs, ∀ {E : Value → Shared → Prop} {Q : Value → Shared → Prop}, Q (.bool (decide (rkv y < rkv x))) s' → wpAny (model prog w) A.in1 (richCompare .Gt x y) Q E s')
  (k0 : vs = [] → ∀ s', Kp s s' → St hb tabs L l T s'.heap → Q dflt s')
  (k : ∀ s' m, Kp s s' → m ∈ vs → (∀ x ∈ vs, rkv x ≤ rkv m) → St hb tabs L l T s'.heap → Q m s') : wpAny (model prog w) A (call (.builtin "max") [.ref I] [(Str.ofString "default", dflt), (Str.ofString "key", .none)]) Q E s := by
 have hname : (toString "max" ++ toString ".loop" : String) = "max.loop" := by decide
 refine kmk_tree PySem.F.kind_max PySem.F.plain_max PySem.F.entry_max (mx_args _ _ _) ?_
 show wpAny _ A.in1 (Builtin.Builtins.bindParams "max" ["key", "default"] 0 ⟨[], [(Str.ofString "default", dflt), (Str.ofString "key", .none)]⟩ >>= _) _ _ s
 refine wpAny_bind (wpAny_of_eq (show Builtin.Builtins.bindParams "max" ["key", "default"] 0 ⟨[], [(Str.ofString "default", dflt), (Str.ofString "key", .none)]⟩ = pure [some .none, some dflt] from rfl) ?_)
 refine wpAny_bind (wpAny_pure ?_)
 refine wpAny_bind (wpAny_pyIter_listiter (l := d) (i := 0) ⟨_, S.obj _ m0, ho.1, ho.2⟩ ?_)
 refine wpAny_bind (wpAny_newList ?_ (Nat.zero_le _))
 rw [hname]
 have S₁ := S.push (lstO [] 0)
 refine wpAny_pure ⟨plainId_quiet mx_plain _, ?_⟩
 by_cases he : vs = []
 ·subst he
  refine codeAny_builtin mx_entry ?_
  rw [Around.under_plainId mx_plain _]
  show wpAny _ A.in1 (seqItems? (.ref s.heap.objs.size) >>= _) _ _ _
  refine wpAny_bind (wpAny_seqItems (S₁.obj _ m0) rfl ?_)
  show wpAny _ A.in1 (tryCatch (pyNext (.ref I)) _ >>= _) _ _ _
  refine wpAny_bind (wpAny_tryCatch ?_)
  refine lit_end (vs := []) (T := (s.heap.objs.size, lstO [] 0) :: T) hh (S₁.perm (by exact List.Perm.cons _ (List.perm_append_comm (l₁ := [(I, o)]) (l₂ := T)))) ho (.tail _ hd) fun h' S' => ?_
  exact wpAny_bind (wpAny_rule (wpAny_pure (k0 rfl _ ⟨rfl, id⟩ (S'.sub (List.sublist_cons_self _ _)))))
 ·have hpos : 0 < vs.length := List.length_pos_iff.mpr he
  refine max_loop (s := s) (rkv := rkv) hh hpos hz hd hgt (fun s' m c K hm hmax S' => k s' m K hm hmax (S'.sub (List.sublist_cons_self _ _))) _ 0 [] 0 o _ rfl (Nat.zero_le _) ho (by exact S₁) ⟨rfl, id⟩ (.inl ⟨rfl, rfl⟩)
end
end
section
namespace OB
theorem mro : mroOf (.type "object") = pure [.type "object"] := by rw [mroOf_type]; kernel_rfl
theorem lookup_new : typeLookup (.type "object") "__new__" = pure (some (.builtin "object.__new__")) := by rw [typeLookup_type, builtinLookup_eq_fast]; kernel_rfl
theorem called : TypeCalled "object" "object.__new__" "object.__init__" :=
 ⟨by decide +kernel, by decide +kernel, ⟨_, _, mro⟩, madeBy_type mro lookup_new (by decide +kernel), by decide +kernel, by rw [isSubtype_type]; kernel_rfl, PySem.F.slot_object_init⟩
theorem typeCall : checkTypeCall "object" ⟨[], []⟩ = pure () := by kernel_rfl
theorem newCall : checkBuiltinCall "object.__new__" ⟨[.type "object"], []⟩ = pure () := by kernel_rfl
theorem entry_new : entryFor table "object.__new__" = some Builtin.«object.__new__» := entryFor_of_tree (by kernel_rfl)
theorem plain_new : plainId "object.__new__" = true := by decide +kernel
theorem made_here : Bind.madeHere "object.__new__" (.type "object") = pure () := by
 have sb : Bind.staticBase (.type "object") = pure (.type "object") := by
  unfold Bind.staticBase
  simp only [mro, pure_bind, List.forIn_cons, called.made, Option.isSome_some, if_true]
 unfold Bind.madeHere
 simp only [sb, pure_bind, called.made, Option.map_some, bne_self_eq_false, Bool.false_eq_true, if_false]
end OB
section
variable {prog : Program} {w : World} {A : Around} {E : Value → Shared → Prop} {s : Shared} {hb : Heap} {tabs : List Addr} {L d : Addr} {l : List (Str × Value)} {T : List (Addr × Obj)} {vs : List Value} {n : Nat}
theorem r_iterB {Q : Value → Shared → Prop} (S : St hb tabs L l T s.heap) (hd : (d, lstO vs n) ∈ T) (h : ∀ I h', St hb tabs L l ((I, litO d 0) :: T) h' → Q (.ref I) { s with heap := h' }) :
  wpAny (model prog w) A (call (.builtin "iter") [.ref d]) Q E s := by
 refine call_function_entry (by decide +kernel) (by decide +kernel) kdk_entry_iter (kdk_args_iter _) ?_
 unfold Builtin.«iter»
 refine wpAny_bind (m := someArgs "iter" 1 2 _) (wpAny_of_eq (a := [Value.ref d]) (by first | rfl | kernel_rfl!) ?_)
 show wpAny _ _ (pyIter (.ref d) >>= _) _ _ _
 refine wpAny_bind (wpAny_pyIter_list (items := vs.toArray) ⟨_, S.obj _ hd, rfl, n, rfl⟩ ?_)
 exact wpAny_pure ⟨_, rfl, h _ _ (S.push (litO d 0))⟩
theorem code_object_new {Q₁ : Value → Shared → Prop} (h : Q₁ (.ref s.heap.objs.size) { s with heap := s.heap.push { cls := .type "object", data := .plain } }) :
  codeAny (model prog w) A (.call (.builtin "object.__new__") ⟨[.type "object"], []⟩) (wants Q₁ E) s := by
 refine codeAny_of_tree ?_
 show wpAny _ A.in1 (do checkBuiltinCall "object.__new__" ⟨[.type "object"], []⟩; again (.builtin "object.__new__" ⟨[.type "object"], []⟩)) _ _ s
 refine wpAny_bind (wpAny_of_eq OB.newCall (wpAny_pure ⟨plainId_quiet OB.plain_new _, codeAny_builtin OB.entry_new ?_⟩))
 rw [Around.under_plainId OB.plain_new _]
 unfold Builtin.«object.__new__»
 show wpAny _ _ (isType (.type "object") >>= _) _ _ s
 refine wpAny_bind (wpAny_of_eq (a := true) rfl ?_)
 refine KFB.if_not rfl ?_
 show wpAny _ _ (if ((Manifest.find? "object").elim false _) = true then _ else _) _ _ s
 refine KFB.if_not (by decide +kernel) ?_
 refine wpAny_bind (wpAny_of_eq OB.made_here ?_)
 show wpAny _ _ (if typeHasDict (Value.type "object") = true then _ else _) _ _ s
 refine KFB.if_not (by decide +kernel) ?_
 refine wpAny_bind (wpAny_pure ?_)
 show wpAny _ _ (newObj (Value.type "object") Data.plain none >>= _) _ _ s
 refine wpAny_bind (wpAny_newObj_type ?_ (by size_fits))
 show wpAny _ _ (if diesByItsTypesDel "object" = true then _ else _) _ _ _
 refine KFB.if_not (by decide +kernel) ?_
 exact wpAny_pure h
theorem r_object {Q : Value → Shared → Prop} (S : St hb tabs L l T s.heap) (h : ∀ u h', St hb tabs L l ((u, (⟨.type "object", none, .plain, #[]⟩ : Obj)) :: T) h' → Q (.ref u) { s with heap := h' }) :
  wpAny (model prog w) A (call (.type "object") []) Q E s := by
 refine callType_codes (Q₁ := fun obj s₁ => obj = .ref s.heap.objs.size ∧ s₁ = { s with heap := s.heap.push { cls := .type "object", data := .plain } }) OB.called OB.typeCall PySem.F.entry_object_init (code_object_new ⟨rfl, rfl⟩) fun obj s₁ h₁ => ?_
 obtain ⟨rfl, rfl⟩ := h₁
 have S₁ := S.push (⟨.type "object", none, .plain, #[]⟩ : Obj)
 refine ⟨⟨_, S₁.obj _ m0, rfl⟩, PySem.F.args_object_init_1 _, ?_⟩
 exact wpAny_pure ⟨rfl, h _ _ S₁⟩
end
end
section
section
variable {prog : Program} {w : World} {A : Around} {s : Shared} {K : Frag} {hb : Heap} {tabs : List Addr} {L fa : Addr} {l lb : List (Str × Value)} {T : List (Addr × Obj)} {fd : FuncData} {cn : Str} {cv : Value}
theorem c_defC {R : Result → Shared → Prop} {oc : Value} {od : Option Addr} {osl : Array (Option Value)} {args : Args} {binds : List (Str × Value)} {body : List Stmt}
  (G : Gd K tabs hb) (S : St hb tabs L l T s.heap) (ho : K.lookup fa = some ⟨oc, od, .func fd, osl⟩) (hroom : A.depth < recursionLimit)
  (hbind : BindsTo s fd args binds)
  (h : ∀ L' s₁ oL ob, FrObj oL l → ob.data = .cell (some cv) → Kp s s₁ → St hb tabs L' lb ((L' + 1, ob) :: (L, oL) :: T) s₁.heap →
   wpAny (model prog w) (A.deeper (callEnvC fd L' fa)) (execs body (callEnvC fd L' fa)) (fun f s' => R (.ok (.ret (match f with | .ret v => v | _ => .none))) s')
    (fun e s' => wpAny (model prog w) (A.deeper (callEnvC fd L' fa)) (leaving (callEnvC fd L' fa) e) (fun _ s'' => R (.error e) s'') (fun e' s'' => R (.error e') s'') s') s₁)
  (hcs : ∀ L' : Addr, cellsFrom (L' + 1) fd.scope.names [] = [(cn, L' + 1)])
  (hbL : ∀ L' : Addr, ∀ p ∈ lb, bindL (callEnvC fd L' fa).kindOf binds (fun _ => none) p.1 = some p.2) (hbC : ∀ L' : Addr, bindC (callEnvC fd L' fa).kindOf binds (fun _ => none) cn = some cv)
  (hkind : ∀ x ∈ binds, fd.scope.names.lookup x.1 = some .local ∨ (fd.scope.names.lookup x.1 = some .cell ∧ x.1 = cn)) (hnd : (lb.map (·.1)).Nodup)
  (hclo : fd.closure = [] := by kernel_rfl)
  (hft : fa ∉ tabs := by decide)
  (hcd : ∀ hh : Heap, K.In hh → hh.CodeRec fd.code fd.qualname := by intro hh kk; exact codeRec_of kk (by kernel_rfl))
  (hct : (match fd.code with | .ref c => tabs.contains c | _ => false) = false := by kernel_rfl)
  (hbody : fd.body = .stmts body := by kernel_rfl)
  (hco : fd.scope.isCoroutine = false := by kernel_rfl) (hgen : fd.scope.isGenerator = false := by kernel_rfl) (hk : fd.scope.kind = .function := by kernel_rfl) :
  codeAny (model prog w) A (.call (.ref fa) args) R s := by
 have hcr : s.heap.CodeRec fd.code fd.qualname := by
  obtain ⟨c, o, vs, t, e1, e2, e3, e4⟩ := hcd hb G.k
  refine ⟨c, o, vs, t, e1, S.old e2 (fun q => ?_), e3, e4⟩
  rw [e1] at hct
  have hct' : tabs.contains c = false := hct
  rw [List.contains_iff_mem.mpr q] at hct'
  cases hct'
 refine codeAny_call_function hroom (S.old (G.k _ _ ho) hft) rfl hco hgen hbody hcr ?_
 rw [hclo]
 refine hbind _ _ _ _ (wpAny_newFunctionEnv_cells hk (fun x hx => ?_) fun env he s' x => ?_)
 ·rcases hkind x hx with q | ⟨q, e⟩
  ·exact .inl q
  ·refine .inr ⟨q, ?_⟩
   rw [hcs, e]
   simp [List.lookup]
 subst he
 refine ⟨(S.lim G).keeps x.toInCall.keep, codeAny_func ?_⟩
 have hcell := x.cell cn (s.heap.objs.size + 1) (by
  show (cellsFrom (s.heap.objs.size + 1) fd.scope.names []).lookup cn = _
  rw [hcs]; simp [List.lookup])
 obtain ⟨ob, hob, hobd⟩ := hcell
 have e2 : bindC (newEnv fd.scope s.heap.objs.size fd.globals (cellsFrom (s.heap.objs.size + 1) fd.scope.names []) (fd.qualname ++ ".<locals>.") (some fa) fd.code none fd.builtins).kindOf binds (fun _ => none) cn = some cv := hbC _
 rw [e2] at hobd
 have hfm : Fm s'.heap s.heap.objs.size lb := Fm.of_ns x.toInCall.ns (fun p hp => hbL s.heap.objs.size p hp) hnd
 obtain ⟨oL, r, S'⟩ := S.enter (L' := s.heap.objs.size) rfl hfm x.toInCall.keep
 obtain ⟨hh, tk, hsame⟩ := x.toInCall.same
 have K' : Kp s s' := by rw [hsame]; exact ⟨rfl, id⟩
 refine h s.heap.objs.size s' oL ob r hobd K' ⟨S'.fm, S'.lnew, S'.keep, S'.tab, fun p hp => ?_, fun p hp => ?_, ?_⟩
 ·rcases List.mem_cons.mp hp with rfl | hp
  ·exact hob
  ·exact S'.obj p hp
 ·rcases List.mem_cons.mp hp with rfl | hp
  ·exact Nat.le_trans S'.lnew (Nat.le_succ _)
  ·exact S'.new p hp
 ·have nd := List.nodup_cons.mp S'.nd
  have hL : L < s.heap.objs.size := S.fm.lt
  refine List.nodup_cons.mpr ⟨fun q => ?_, List.nodup_cons.mpr ⟨fun q => ?_, nd.2⟩⟩
  ·rcases List.mem_cons.mp q with q | q
   ·exact Nat.lt_irrefl _ (Nat.lt_of_lt_of_eq (Nat.lt_succ_self _) q.symm)
   ·exact nd.1 q
  ·rcases List.mem_cons.mp q with q | q
   ·exact Nat.lt_irrefl _ (Nat.lt_trans (Nat.lt_of_lt_of_eq (Nat.lt_succ_self _) q) hL)
   ·obtain ⟨p, hp, e⟩ := List.mem_map.mp q
    have hpl := S.lt hp
    exact Nat.lt_irrefl _ (Nat.lt_trans (Nat.lt_of_lt_of_eq (Nat.lt_succ_self _) e.symm) hpl)
end
section
variable {prog : Program} {w : World} {A : Around} {E : Value → Shared → Prop} {s : Shared} {K : Frag} {hb : Heap} {tabs : List Addr} {L : Addr} {l : List (Str × Value)} {T : List (Addr × Obj)} {env : Env} {x : Str} {v : Value} {pos : Pos}
theorem e_global {Q : Value → Shared → Prop} (G : Gd K tabs hb) (S : St hb tabs L l T s.heap) (e : nsIn K mainGlobals x = some (some v)) (h : Q v s)
  (hk : env.scope.kind = .function := by kernel_rfl) (hl : env.kindOf x = some .globalImplicit := by kernel_rfl) (hg : env.globals = mainGlobals := by kernel_rfl)
  (hd : (x == ("__debug__" : Str)) = false := by kernel_rfl) : wpAny (model prog w) A (eval (.Name x pos) env) Q E s := by
 obtain ⟨mg, a⟩ := G.mg
 refine Name_function_global hk hl (loadGlobal_global (mg := mg) ?_ (mg_of G.k a e) h) hd
 rw [hg]; exact S.oldNs a G.n1
theorem e_builtin {Q : Value → Shared → Prop} (G : Gd K tabs hb) (S : St hb tabs L l T s.heap) (hv : bootBuiltins x = some v) (h : Q v s)
  (e : nsIn K mainGlobals x = some none := by kernel_rfl)
  (hk : env.scope.kind = .function := by kernel_rfl) (hl : env.kindOf x = some .globalImplicit := by kernel_rfl) (hg : env.globals = mainGlobals := by kernel_rfl)
  (hbi : env.builtins = builtinsNs := by kernel_rfl) (hn : (x == ("__name__" : Str)) = false := by kernel_rfl)
  (hd : (x == ("__debug__" : Str)) = false := by kernel_rfl) : wpAny (model prog w) A (eval (.Name x pos) env) Q E s := by
 obtain ⟨mg, a⟩ := G.mg
 obtain ⟨mb, b, c⟩ := G.bl
 refine Name_function_global hk hl (loadGlobal_builtin (mg := mg) (mb := mb) ?_ (mg_none_of G.k a e) ?_ ((c x (beq_eq_false_iff_ne.mp hn)).trans hv) h) hd
 ·rw [hg]; exact S.oldNs a G.n1
 ·rw [hbi]; exact S.oldNs b G.n2
theorem e_cell {Q : Value → Shared → Prop} {c : Addr} {ob : Obj} (S : St hb tabs L l T s.heap) (hm : (c, ob) ∈ T) (hob : ob.data = .cell (some v)) (h : Q v s)
  (hk : env.scope.kind = .function := by kernel_rfl) (hl : env.kindOf x = some .cell := by kernel_rfl) (hc : env.cells.lookup x = some c := by rfl)
  (hd : (x == ("__debug__" : Str)) = false := by kernel_rfl) : wpAny (model prog w) A (eval (.Name x pos) env) Q E s :=
 wpAny_Name (wpAny_loadName_cell hk hl hc ⟨ob, S.obj _ hm, hob⟩ h) hd
end
end
section
theorem boot_iter' : bootBuiltins (Str.ofString "iter") = some (.builtin "iter") := by kernel_rfl
theorem boot_object' : bootBuiltins (Str.ofString "object") = some (.type "object") := by kernel_rfl
theorem boot_max' : bootBuiltins (Str.ofString "max") = some (.builtin "max") := by kernel_rfl
section
variable {prog : Program} {w : World} {A : Around} {E : Value → Shared → Prop} {s : Shared} {env : Env}
theorem r_callKw {Q : Value → Shared → Prop} {f : Expr} {args : List Expr} {kws : List Keyword} {pos : Pos} (h : wpAny (model prog w) A (eval f env) (fun fv s₁ => wpAny (model prog w) A (callWith pos fv [] (backTo pos (starEach args env)) (backToKw pos (keywordEach kws env))) Q E s₁) E s)
  (he : eval (.Call f args kws pos) env = (do
   let fv ← eval f env
   callWith pos fv [] (backTo pos (starEach args env)) (backToKw pos (keywordEach kws env))) := by rfl) :
  wpAny (model prog w) A (eval (.Call f args kws pos) env) Q E s := by
 rw [he]
 exact wpAny_bind h
end
section
variable {w : World} {A : Around} {E : Value → Shared → Prop} {s : Shared} {hb : Heap} {L res : Addr} {T : List (Addr × Obj)} {l : List (Str × Value)} {R : Result → Shared → Prop} {Es : List Sc} {nr n : Nat} {tn : Tok} {rk : UInt64 → Str → Nat}
abbrev ev280 (w : World) (L' : Addr) : Env := callEnvC (fd280 w.params) L' 280
theorem is_one {prog : Program} {w : World} {A : Around} {E : Value → Shared → Prop} {s : Shared} {u : Addr} {Q : Value → Shared → Prop} (h : Q (.bool true) s) : wpAny (model prog w) A (compareOp .Is (.ref u) (.ref u)) Q E s := by
 show wpAny _ _ (do return .bool (← isSame (.ref u) (.ref u))) Q E s
 refine wpAny_bind ?_
 show wpAny _ _ (if (u == u) = true then pure true else _) _ _ s
 rw [if_pos (by simp)]
 exact wpAny_pure (wpAny_pure h)
theorem is_two {prog : Program} {w : World} {A : Around} {E : Value → Shared → Prop} {s : Shared} {a u : Addr} {vs : List Value} {Q : Value → Shared → Prop} (hne : a ≠ u) (ha : s.heap.get? a = some (tupO vs)) (hu : s.heap.get? u = some (⟨.type "object", none, .plain, #[]⟩ : Obj)) (h : Q (.bool false) s) : wpAny (model prog w) A (compareOp .Is (.ref a) (.ref u)) Q E s := by
 show wpAny _ _ (do return .bool (← isSame (.ref a) (.ref u))) Q E s
 refine wpAny_bind ?_
 show wpAny _ _ (if (a == u) = true then pure true else _) _ _ s
 rw [if_neg (by simpa using hne)]
 refine wpAny_bind (wpAny_load ha (wpAny_bind (wpAny_load hu ?_)))
 exact wpAny_pure (wpAny_pure h)
theorem best_first {e : Sc} {Es : List Sc} {rk : UInt64 → Str → Nat} (he : e ∈ Es) (hmax : ∀ e' ∈ Es, rkS rk e' ≤ rkS rk e) : ∃ P : List Sc, (e :: P).Perm Es ∧ (e :: P).Pairwise (fun a b => rkS rk b ≤ rkS rk a) := by
 obtain ⟨l1, l2, rfl⟩ := List.append_of_mem he
 refine ⟨(l1 ++ l2).mergeSort (fun a b => decide (rkS rk b ≤ rkS rk a)), ?_, ?_⟩
 ·exact (List.Perm.cons e (List.mergeSort_perm _ _)).trans List.perm_middle.symm
 ·refine List.pairwise_cons.mpr ⟨fun b hb => hmax b ?_, ?_⟩
  ·have := (List.mergeSort_perm (l1 ++ l2) _).mem_iff.mp hb
   rcases List.mem_append.mp this with q | q
   ·exact List.mem_append_left _ q
   ·exact List.mem_append_right _ (.tail _ q)
  ·have := List.pairwise_mergeSort (le := fun a b : Sc => decide (rkS rk b ≤ rkS rk a)) (fun a b c h1 h2 => by simp at *; omega) (fun a b => by simp; omega) (l1 ++ l2)
   exact this.imp fun h => by simpa using h
theorem sc_gtS {e e' : Sc} {l' : List (Str × Value)} {L' : Addr} {T' : List (Addr × Obj)} {Q : Value → Shared → Prop} (G : Gd (KN w.params) tabs hb) (hu : A.units < cLine) (S : St hb tabs L' l' T' s.heap) (hS : SOk T' Es) (hT : TkOk Es) (hR : RkOk rk Es) (he : e ∈ Es) (he' : e' ∈ Es)
  (h : Q (.bool (decide (rkS rk e' < rkS rk e))) s) : wpAny (model pw w) A (compareOp .Gt (.ref e.a) (.ref e'.a)) Q E s :=
 sc_gt hu (S.nb G) hT hR he he' (S.obj _ (hS e he)) (S.obj _ (hS e' he')) h
theorem nl_one (G : Gd (KN w.params) tabs hb) (S : St hb tabs L l T s.heap) (hd : A.depth + 20 < recursionLimit) (hu : A.units + 100 < cLine) (hh : A.handled = none) (hm : (res, lstO (refsS Es) nr) ∈ T) (hS : SOk T Es) (hT : TkOk Es) (hl : Es.length ≤ 60) (hR : RkOk rk Es)
  (rkv : Value → Nat) (hrkv : ∀ e ∈ Es, rkv (.ref e.a) = rkS rk e)
  (k : ∀ (s' : Shared) (X : List (Addr × Obj)) (r : Addr) (nr' : Nat) (P : List Sc), Kp s s' → St hb tabs L l ((r, lstO (refsS (P.take 1)) nr') :: (X ++ T)) s'.heap → P.Perm Es → P.Pairwise (fun a b => rkS rk b ≤ rkS rk a) → R (.ok (.ret (.ref r))) s') :
  codeAny (model pw w) A (.call (.ref 280) ⟨[.int 1 tn, .ref res], []⟩) R s := by
 refine c_defC (lb := [(Str.ofString "n", .int 1 tn), (Str.ofString "iterable", .ref res)]) (cn := Str.ofString "key") (cv := .none) G S (lk280 _) (by omega) (binds := [(Str.ofString "n", .int 1 tn), (Str.ofString "iterable", .ref res), (Str.ofString "key", .none)]) (body := fnBody (st1 pw 8))
  (BindsTo.of_defaults (o := o275 w.params) rfl (S.kin G 275 _ (by kernel_rfl)) rfl rfl rfl) ?_ (fun L' => by kernel_rfl) (fun L' p hp => by rcases List.mem_cons.mp hp with rfl | hp; rfl; rw [List.mem_singleton] at hp; subst hp; rfl) (fun L' => rfl)
  (fun y hy => by rcases List.mem_cons.mp hy with rfl | hy; exact .inl (by kernel_rfl); rcases List.mem_cons.mp hy with rfl | hy; exact .inl (by kernel_rfl); rw [List.mem_singleton] at hy; subst hy; exact .inr ⟨by kernel_rfl, rfl⟩) (nodup_of (by kernel_rfl))
 intro L' s₁ oL ob r hob K₁ S'
 refine q_if ?_
 refine wpAny_isTrue_Compare1 ?_
 refine e_local (env := callEnvC (fd280 w.params) L' 280) S' m0 ?_
 refine wpAny_Constant_int ?_
 refine P.eq_int ?_
 refine wpAny_truthy_bool ⟨fun _ => ?_, nofun⟩
 refine q_assign ?_
 refine r_call ?_
 refine e_builtin G S' boot_iter' ?_
 refine cw_builtin ?_
 refine args_cons ?_
 refine e_local (env := callEnvC (fd280 w.params) L' 280) S' m1 ?_
 refine args_nil ?_
 refine r_iterB S' (.tail _ (.tail _ hm)) ?_
 intro I h₂ S₂
 refine e_store (env := callEnvC (fd280 w.params) L' 280) (by exact S₂) (.new (by kernel_rfl)) ?_
 intro h₃ S₃
 refine q_assign ?_
 refine r_call ?_
 refine e_builtin G S₃ boot_object' ?_
 refine cw_type ?_
 refine args_nil ?_
 refine r_object S₃ ?_
 intro u h₄ S₄
 refine e_store (env := callEnvC (fd280 w.params) L' 280) (by exact S₄) (.new (by kernel_rfl)) ?_
 intro h₅ S₅
 refine restate (by exact S₅) fun s₅ K₅ S₅ => ?_
 replace K₅ : Kp s s₅ := ⟨K₅.os.trans K₁.os, fun z => K₅.gens (K₁.gens z)⟩
 refine q_assign ?_
 refine r_callKw ?_
 refine e_builtin G S₅ boot_max' ?_
 refine callWith_kw ?_
 refine args_cons ?_
 refine e_local (env := callEnvC (fd280 w.params) L' 280) S₅ m1 ?_
 refine args_nil ?_
 refine kws_cons ?_
 refine e_local (env := callEnvC (fd280 w.params) L' 280) S₅ m0 ?_
 refine kws_cons ?_
 refine e_cell S₅ (.tail _ (.tail _ (.head _))) hob ?_
 refine kws_nil ?_
 have hI : (res, lstO (refsS Es) nr) ∈ (u, (⟨.type "object", none, .plain, #[]⟩ : Obj)) :: (L' + 1, ob) :: (L, oL) :: T := .tail _ (.tail _ (.tail _ hm))
 have S₆ := S₅.perm (T' := (I, litO res 0) :: (u, (⟨.type "object", none, .plain, #[]⟩ : Obj)) :: (L' + 1, ob) :: (L, oL) :: T) (List.Perm.swap _ _ _)
 have fin : ∀ (s' : Shared) (v : Value) {E' : Value → Shared → Prop} {Q' : Flow → Shared → Prop}, (∀ v s', R (.ok (.ret v)) s' → Q' (.ret v) s') → Kp s s' → St hb tabs L' [(Str.ofString "sentinel", .ref u), (Str.ofString "it", .ref I), (Str.ofString "n", .int 1 tn), (Str.ofString "iterable", .ref res)] ((u, (⟨.type "object", none, .plain, #[]⟩ : Obj)) :: (L' + 1, ob) :: (L, oL) :: T) s'.heap →
   (Es = [] ∧ v = .ref u ∨ ∃ e ∈ Es, v = .ref e.a ∧ ∀ e' ∈ Es, rkS rk e' ≤ rkS rk e) →
   wpAny (model pw w) (A.deeper (callEnvC (fd280 w.params) L' 280)) (storeName (callEnvC (fd280 w.params) L' 280) (Str.ofString "result") v) (fun _ s₂ => wpAny (model pw w) (A.deeper (callEnvC (fd280 w.params) L' 280)) (execs ((match (((fnBody (st1 pw 8))[0]?).getD default : Stmt) with | Stmt.If _ b _ _ => b | _ => []).drop 3) (callEnvC (fd280 w.params) L' 280)) Q' E' s₂) E' s' := by
  intro s' v E' Q' hq K' S' hv
  have nd := (List.nodup_cons.mp (List.nodup_cons.mp S'.nd).2).1
  refine e_store (env := callEnvC (fd280 w.params) L' 280) (by exact S') (.new (by kernel_rfl)) ?_
  intro h₇ S₇
  refine restate (by exact S₇) fun s₇ K₇ S₇ => ?_
  replace K₇ : Kp s s₇ := ⟨K₇.os.trans K'.os, fun z => K₇.gens (K'.gens z)⟩
  refine q_ret ?_
  refine IfExp_ ?_
  refine wpAny_isTrue_Compare1 ?_
  refine e_local (env := callEnvC (fd280 w.params) L' 280) S₇ m0 ?_
  refine e_local (env := callEnvC (fd280 w.params) L' 280) S₇ m1 ?_
  rcases hv with ⟨rfl, rfl⟩ | ⟨e, he, rfl, hmax⟩
  ·refine is_one ?_
   refine wpAny_truthy_bool ?_
   rw [if_pos rfl]
   refine r_list ?_
   refine args_nil ?_
   refine ⟨rfl, _, _, _, _, _, S₇, ?_⟩
   intro d' h₈ S₈
   refine hq _ _ ?_
   have S₉ := S₈.perm (T' := (L, oL) :: (d', lstO [] 0) :: ([(u, (⟨.type "object", none, .plain, #[]⟩ : Obj)), (L' + 1, ob)] ++ T)) (by
    exact List.perm_middle (l₁ := [(d', lstO [] 0), (u, (⟨.type "object", none, .plain, #[]⟩ : Obj)), (L' + 1, ob)]))
   exact k _ [(u, (⟨.type "object", none, .plain, #[]⟩ : Obj)), (L' + 1, ob)] d' 0 [] ⟨K₇.os, K₇.gens⟩ (by exact S₉.leave 0 rfl r) (List.Perm.refl _) List.Pairwise.nil
  ·have hne : e.a ≠ u := fun q => nd (by
    exact List.mem_map.mpr ⟨(e.a, tupO [.float e.f e.ft, strV e.x]), .tail _ (.tail _ (hS e he)), q⟩)
   refine is_two hne (S₇.obj _ (.tail _ (.tail _ (.tail _ (hS e he))))) (S₇.obj _ m0) ?_
   refine wpAny_truthy_bool ?_
   rw [if_neg (by decide)]
   refine r_list ?_
   refine args_cons ?_
   refine e_local (env := callEnvC (fd280 w.params) L' 280) S₇ m0 ?_
   refine args_nil ?_
   refine ⟨rfl, _, _, _, _, _, S₇, ?_⟩
   intro d' h₈ S₈
   refine hq _ _ ?_
   obtain ⟨P, hp, hpw⟩ := best_first he hmax
   have S₉ := S₈.perm (T' := (L, oL) :: (d', lstO [.ref e.a] 0) :: ([(u, (⟨.type "object", none, .plain, #[]⟩ : Obj)), (L' + 1, ob)] ++ T)) (by
    exact List.perm_middle (l₁ := [(d', lstO [.ref e.a] 0), (u, (⟨.type "object", none, .plain, #[]⟩ : Obj)), (L' + 1, ob)]))
   exact k _ [(u, (⟨.type "object", none, .plain, #[]⟩ : Obj)), (L' + 1, ob)] d' 0 (e :: P) ⟨K₇.os, K₇.gens⟩ (by exact S₉.leave 0 rfl r) hp hpw
 refine r_max (A := A.deeper (callEnvC (fd280 w.params) L' 280)) (rkv := rkv) (vs := refsS Es) (d := res) hh S₆ ⟨rfl, rfl⟩ hI (by rw [refsS_len]; omega) ?_ ?_ ?_
 ·intro s' T' K' S' hin x hx y hy E Q hq
  obtain ⟨e, he, rfl⟩ := List.mem_map.mp hx
  obtain ⟨e', he', rfl⟩ := List.mem_map.mp hy
  rw [hrkv e he, hrkv e' he'] at hq
  exact sc_gtS G (by show A.units + 3 + 1 < cLine; omega) S' (hS.mono fun p hp => hin _ (.tail _ (.tail _ (.tail _ hp)))) hT hR he he' hq
 ·intro he s' K' S'
  have hE : Es = [] := by simpa [refsS] using he
  exact fin s' _ (fun v s' h => h) ⟨K'.os.trans K₅.os, fun z => K'.gens (K₅.gens z)⟩ S' (.inl ⟨hE, rfl⟩)
 ·intro s' m K' hm' hmax S'
  obtain ⟨e, he, rfl⟩ := List.mem_map.mp hm'
  refine fin s' _ (fun v s' h => h) ⟨K'.os.trans K₅.os, fun z => K'.gens (K₅.gens z)⟩ S' (.inr ⟨e, he, rfl, fun e' he' => ?_⟩)
  have := hmax (.ref e'.a) (List.mem_map.mpr ⟨e', he', rfl⟩)
  rw [hrkv e he, hrkv e' he'] at this
  exact this
end
end
section
section
variable {prog : Program} {w : World} {A : Around} {E : Value → Shared → Prop} {s : Shared} {env : Env}
theorem q_try {body orelse : List Stmt} {h₀ : ExceptHandler} {hs : List ExceptHandler} {rest : List Stmt} {pos : Pos} {Q : Flow → Shared → Prop}
  (h : ∀ {E' : Value → Shared → Prop}, wpAny (model prog w) A (execs body env) (fun f s₁ => f = .next ∧ wpAny (model prog w) A (execs orelse env) (fun f s₂ => match f with | .next => wpAny (model prog w) A (execs rest env) Q E s₂ | f => Q f s₂) E s₁) E' s) :
  wpAny (model prog w) A (execs (.Try body (h₀ :: hs) orelse [] pos :: rest) env) Q E s := by
 refine wpAny_execs_cons (wpAny_Try_except (wpAny_mono h (fun f s₁ z => ?_) fun _ _ z => z))
 obtain ⟨rfl, z⟩ := z
 exact z
end
section
variable {w : World} {A : Around} {E : Value → Shared → Prop} {s : Shared} {hb : Heap} {L res : Addr} {T : List (Addr × Obj)} {l : List (Str × Value)} {R : Result → Shared → Prop} {Es : List Sc} {nr n : Nat} {tn : Tok} {rk : UInt64 → Str → Nat}
theorem nl_more (G : Gd (KN w.params) tabs hb) (S : St hb tabs L l T s.heap) (hd : A.depth + 20 < recursionLimit) (hu : A.units + 100 < cLine) (hh : A.handled = none) (hm : (res, lstO (refsS Es) nr) ∈ T) (hl : Es.length ≤ 60) (hn1 : n ≠ 1)
  (kbig : Es.length ≤ n → ∀ (L' : Addr) (s₁ : Shared) (oL ob : Obj) (ts : Tok) {Q : Flow → Shared → Prop} {E' : Value → Shared → Prop}, (∀ v s', R (.ok (.ret v)) s' → Q (.ret v) s') → FrObj oL l → ob.data = .cell (some .none) → Kp s s₁ →
   St hb tabs L' [(Str.ofString "size", .int Es.length ts), (Str.ofString "n", .int n tn), (Str.ofString "iterable", .ref res)] ((L' + 1, ob) :: (L, oL) :: T) s₁.heap →
   wpAny (model pw w) (A.deeper (ev280 w L')) (execs ((match ((match (((fnBody (st1 pw 8))[1]?).getD default : Stmt) with | Stmt.Try _ _ o _ _ => o | _ => [])[0]?).getD default with | Stmt.If _ b _ _ => b | _ => [])) (ev280 w L')) Q E' s₁)
  (kheap : n < Es.length → ∀ (L' : Addr) (s₁ : Shared) (oL ob : Obj) (ts : Tok), FrObj oL l → ob.data = .cell (some .none) → Kp s s₁ →
   St hb tabs L' [(Str.ofString "size", .int Es.length ts), (Str.ofString "n", .int n tn), (Str.ofString "iterable", .ref res)] ((L' + 1, ob) :: (L, oL) :: T) s₁.heap →
   wpAny (model pw w) (A.deeper (ev280 w L')) (execs ((fnBody (st1 pw 8)).drop 2) (ev280 w L')) (fun f s' => R (.ok (.ret (match f with | .ret v => v | _ => .none))) s')
    (fun e s' => wpAny (model pw w) (A.deeper (ev280 w L')) (leaving (ev280 w L') e) (fun _ s'' => R (.error e) s'') (fun e' s'' => R (.error e') s'') s') s₁) :
  codeAny (model pw w) A (.call (.ref 280) ⟨[.int n tn, .ref res], []⟩) R s := by
 refine c_defC (lb := [(Str.ofString "n", .int n tn), (Str.ofString "iterable", .ref res)]) (cn := Str.ofString "key") (cv := .none) G S (lk280 _) (by omega) (binds := [(Str.ofString "n", .int n tn), (Str.ofString "iterable", .ref res), (Str.ofString "key", .none)]) (body := fnBody (st1 pw 8))
  (BindsTo.of_defaults (o := o275 w.params) rfl (S.kin G 275 _ (by kernel_rfl)) rfl rfl rfl) ?_ (fun L' => by kernel_rfl) (fun L' p hp => by rcases List.mem_cons.mp hp with rfl | hp; rfl; rw [List.mem_singleton] at hp; subst hp; rfl) (fun L' => rfl)
  (fun y hy => by rcases List.mem_cons.mp hy with rfl | hy; exact .inl (by kernel_rfl); rcases List.mem_cons.mp hy with rfl | hy; exact .inl (by kernel_rfl); rw [List.mem_singleton] at hy; subst hy; exact .inr ⟨by kernel_rfl, rfl⟩) (nodup_of (by kernel_rfl))
 intro L' s₁ oL ob r hob K₁ S'
 refine q_if ?_
 refine wpAny_isTrue_Compare1 ?_
 refine e_local (env := callEnvC (fd280 w.params) L' 280) S' m0 ?_
 refine wpAny_Constant_int ?_
 refine P.eq_int ?_
 refine wpAny_truthy_bool ⟨fun q => absurd (eq_of_beq q) (by omega), fun _ => ?_⟩
 refine q_nil ?_
 refine q_try ?_
 intro E'
 refine q_assign ?_
 refine r_call ?_
 refine e_builtin G S' boot_len ?_
 refine cw_builtin ?_
 refine args_cons ?_
 refine e_local (env := callEnvC (fd280 w.params) L' 280) S' m1 ?_
 refine args_nil ?_
 refine PyProof.Rows.len_list (items := (refsS Es).toArray) ⟨_, S'.obj _ (.tail _ (.tail _ hm)), rfl, nr, rfl⟩ (by rw [List.size_toArray, refsS_len]; omega) ?_
 rw [List.size_toArray, refsS_len]
 refine e_store (env := callEnvC (fd280 w.params) L' 280) (by exact S') (.new (by kernel_rfl)) ?_
 intro h₂ S₂
 refine restate (by exact S₂) fun s₂ K₂ S₂ => ?_
 replace K₂ : Kp s s₂ := ⟨K₂.os.trans K₁.os, fun z => K₂.gens (K₁.gens z)⟩
 refine q_nil ⟨rfl, ?_⟩
 refine q_if ?_
 refine wpAny_isTrue_Compare1 ?_
 refine e_local (env := callEnvC (fd280 w.params) L' 280) S₂ m1 ?_
 refine e_local (env := callEnvC (fd280 w.params) L' 280) S₂ m0 ?_
 refine P.ge_int ?_
 refine wpAny_truthy_bool ⟨fun q => ?_, fun q => ?_⟩
 ·have hge : Es.length ≤ n := by have := of_decide_eq_true q; omega
  exact kbig hge L' s₂ oL ob _ (fun v s' h => h) r hob K₂ S₂
 ·have hlt : n < Es.length := by have := of_decide_eq_false q; omega
  have h := kheap hlt L' s₂ oL ob _ r hob K₂ S₂
  refine q_nil ?_
  refine q_nil ?_
  exact h
end
end
section
open PySem.Spec
theorem rev_out {rkv : Value → Nat} {vs : List Value} {p : Array Nat} (hp : Pm vs.length p) (hs : SortedTo' (fun i => rkv (vs.reverse.getD i .none)) p vs.length) :
  (p.toList.map fun i => vs.reverse.getD i .none).reverse.Perm vs ∧ (p.toList.map fun i => vs.reverse.getD i .none).reverse.Pairwise (fun a b => rkv b ≤ rkv a) := by
 refine ⟨(List.reverse_perm _).trans ((perm_of (l := vs.reverse) (by rw [List.length_reverse]; exact hp)).trans (List.reverse_perm _)), ?_⟩
 rw [List.pairwise_reverse, List.pairwise_iff_getElem]
 intro i j hi hj hij
 rw [List.length_map, Array.length_toList] at hi hj
 have h := hs i j (by omega) (by rw [← hp.size]; exact hj)
 unfold Rk at h
 rw [List.getElem_map, List.getElem_map, Array.getElem_toList, Array.getElem_toList]
 have e1 : p.getD i 0 = p[i] := by simp [Array.getD, hi]
 have e2 : p.getD j 0 = p[j] := by simp [Array.getD, hj]
 rw [e1, e2] at h
 exact h
section
variable {prog : Program} {w : World} {A : Around} {E : Value → Shared → Prop} {s : Shared} {hb : Heap} {tabs : List Addr} {L d : Addr} {l : List (Str × Value)} {T : List (Addr × Obj)} {vs : List Value} {n : Nat} {κ : SortKind}
theorem sortRev_any {Q : PySem.Fin → Shared → Prop} (rkv : Value → Nat) (S : St hb tabs L l ((d, lstO vs n) :: T) s.heap) (h64 : vs.length < 64)
  (hkind : 2 ≤ vs.length → ∀ (s' : Shared) T' {Q : SortKind → Shared → Prop} {E : Value → Shared → Prop}, St hb tabs L l T' s'.heap → (∀ p ∈ T, p ∈ T') → Q κ s' → wpAny (model prog w) A (keyKind' vs.toArray) Q E s')
  (hlt : ∀ (s' : Shared) T', Kp s s' → St hb tabs L l T' s'.heap → (∀ p ∈ T, p ∈ T') → ∀ x ∈ vs, ∀ y ∈ vs, ∀ C : Bool → Shared → Prop, C (decide (rkv x < rkv y)) s' →
   wpAny (model prog w) A (keyLt' κ x y) C (fun _ _ => False) s')
  (k : ∀ s' n' vs', Kp s s' → vs'.Perm vs → vs'.Pairwise (fun a b => rkv b ≤ rkv a) → St hb tabs L l ((d, lstO vs' n') :: T) s'.heap → Q (.done (.ret .none)) s') :
  wpAny (model prog w) A (sortRev d) Q E s := by
 by_cases h2 : 2 ≤ vs.length
 ·refine sortRev_wp (H := True) (rk := fun i => rkv (vs.reverse.getD i .none)) S h2 h64 (hkind h2) (fun s' T' K' S' hin i j hi hj C hC => ?_) fun s' n' p K' hpm hso S' => ?_
  ·have mem : ∀ i, i < vs.length → vs.reverse.getD i .none ∈ vs := fun i hi => by
    have hi' : i < vs.reverse.length := by rw [List.length_reverse]; exact hi
    have e : vs.reverse.getD i .none = vs.reverse[i] := by rw [List.getD_eq_getElem?_getD, List.getElem?_eq_getElem hi']; rfl
    rw [e]
    exact List.mem_reverse.mp (List.getElem_mem hi')
   exact hlt s' T' K' S' hin _ (mem i hi) _ (mem j hj) C (hC _ s'.toks fun _ => rfl)
  ·obtain ⟨a, b⟩ := rev_out hpm (hso trivial)
   exact k s' n' _ K' a b S'
 ·refine sortRev_short S (by omega) fun h' n' S' => ?_
  refine k { s with heap := h' } n' vs ⟨rfl, id⟩ (List.Perm.refl _) ?_ S'
  match vs, h2 with
  | [], _ => exact List.Pairwise.nil
  | [a], _ => exact List.pairwise_singleton _ _
  | _ :: _ :: _, h => exact absurd (by simp) h
theorem r_sortedAny {kw : List (Str × Value)} {Q : Value → Shared → Prop} (rkv : Value → Nat) (S : St hb tabs L l T s.heap) (hd : (d, lstO vs n) ∈ T) (h64 : vs.length < 64)
  (ha1 : argsOk "sorted" ⟨[.ref d], kw⟩) (ha2 : ∀ x, argsOk "list.sort" ⟨[.ref x], kw⟩) (ht : ∀ x, Builtin.«list.sort» ⟨[.ref x], kw⟩ = sortRev x)
  (hkind : 2 ≤ vs.length → ∀ (s' : Shared) T' {Q : SortKind → Shared → Prop} {E : Value → Shared → Prop}, St hb tabs L l T' s'.heap → (∀ p ∈ T, p ∈ T') → Q κ s' → wpAny (model prog w) A.in1.in1 (keyKind' vs.toArray) Q E s')
  (hlt : ∀ (s' : Shared) T', Kp s s' → St hb tabs L l T' s'.heap → (∀ p ∈ T, p ∈ T') → ∀ x ∈ vs, ∀ y ∈ vs, ∀ C : Bool → Shared → Prop, C (decide (rkv x < rkv y)) s' →
   wpAny (model prog w) A.in1.in1 (keyLt' κ x y) C (fun _ _ => False) s')
  (k : ∀ s' D n' vs' X, Kp s s' → vs'.Perm vs → vs'.Pairwise (fun a b => rkv b ≤ rkv a) → St hb tabs L l ((D, lstO vs' n') :: (X ++ T)) s'.heap → Q (.ref D) s') :
  wpAny (model prog w) A (call (.builtin "sorted") [.ref d] kw) Q E s := by
 refine r_sortedRev S hd (by omega) ha1 ha2 ht fun D tmp c h' S' => ?_
 refine sortRev_any (κ := κ) rkv (s := { s with heap := h' }) S' h64 (fun h2 s' T' {Q E} S'' hin hq => hkind h2 s' T' S'' (fun p hp => hin p (.tail _ hp)) hq) (fun s' T' K' S'' hin => hlt s' T' ⟨K'.os, K'.gens⟩ S'' fun p hp => hin p (.tail _ hp)) fun s' n' vs' K' hp hw S'' => ?_
 exact ⟨_, rfl, k s' D n' vs' [(tmp, lstO vs c)] ⟨K'.os, K'.gens⟩ hp hw S''⟩
theorem Subscript_SliceL {env : Env} {value : Expr} {lower upper : Option Expr} {p pos : Pos} {Q : Value → Shared → Prop}
  (h : wpAny (model prog w) A (eval value env) (fun o s₁ => wpAny (model prog w) A (eval (.Slice lower upper none p) env) (fun i s₂ => s₂.TypeIs o "list" ∧ wpAny (model prog w) A (getItem o i) Q E s₂) E s₁) E s) :
  wpAny (model prog w) A (eval (.Subscript value (.Slice lower upper none p) pos) env) Q E s := by
 rw [eval_Subscript]
 refine wpAny_bind (wpAny_mono h (fun o s₁ h₁ => wpAny_bind (wpAny_holding (wpAny_mono h₁ (fun i s₂ h₂ => wpAny_bind (wpAny_standAt ?_)) fun _ _ x => x)))
  fun _ _ x => x)
 have fin : wpAny (model prog w) A (operate [i, o] (getItem o i)) (fun r s₃ => wpAny (model prog w) A (letTemporaryGo value o r >>= fun _ => pure r) Q E s₃) E s₂ :=
  wpAny_operating (wpAny_mono h₂.2 (fun r s₃ h₃ => wpAny_bind (wpAny_letTemporaryGo (wpAny_pure h₃))) fun _ _ x => x)
 refine wpAny_bind ?_
 rw [getitemInPython_of_ne h₂.1.not_modules]
 refine wpAny_bind (wpAny_specialOf h₂.1 list_getitem_lookup ?_)
 first
  | exact wpAny_pure (wpAny_bind fin)
  | exact wpAny_bind (wpAny_pure (wpAny_bind fin))
  | exact wpAny_bind fin
theorem slice_upto {Q : Value → Shared → Prop} {env : Env} {value e : Expr} {p pos : Pos}
  (h : wpAny (model prog w) A (eval value env) (fun o s₁ => wpAny (model prog w) A (eval e env) (fun vu s₂ => ∃ L l T d vs n b tb, o = .ref d ∧ vu = .int ((b : Nat) : Int) tb ∧ St hb tabs L l T s₂.heap ∧ (d, lstO vs n) ∈ T ∧ vs.length ≤ 1000 ∧
   ∀ D X h', St hb tabs L l ((D, lstO (vs.take b) 0) :: (X ++ T)) h' → Q (.ref D) { s₂ with heap := h' }) E s₁) E s) :
  wpAny (model prog w) A (eval (.Subscript value (.Slice none (some e) none p) pos) env) Q E s := by
 refine Subscript_SliceL (wpAny_mono h (fun o s₁ h₁ => ?_) fun _ _ e => e)
 refine wpAny_Slice ?_
 rw [evalPart_none]
 refine wpAny_pure ?_
 rw [evalPart_some]
 refine wpAny_mono h₁ (fun vu s₂ h₂ => ?_) fun _ _ e => e
 obtain ⟨L, l, T, d, vs, n, b, tb, rfl, rfl, S, hm, hz, hQ⟩ := h₂
 refine wpAny_pure ?_
 have hl : s₂.heap.IsList d vs.toArray := ⟨_, S.obj _ hm, rfl, n, rfl⟩
 have S₁ := (S.push { cls := .type "slice", data := .fields #[.none, .int ((b : Nat) : Int) tb, .none] }).push { cls := .type "list", data := .seq (slicePick vs.toArray none (some ((b : Nat) : Int)) none) }
 rw [slicePick_upto' _ _] at S₁
 refine ⟨(hl.push _).typeIs, wpAny_getItem_list_slice (hl.push _) (Heap.IsSliceOf.new ..) .none (.int _ _) .none (by simp) ?_ (by rw [sizeLine_eq, List.size_toArray]; omega)⟩
 rw [slicePick_upto' _ _]
 exact hQ _ [(_, _)] _ S₁
end
end
section
open PySem.Spec
theorem oneLt_float {prog : Program} {w : World} {A : Around} {E : Value → Shared → Prop} {s : Shared} {a b : UInt64} {t u : Tok} {Q : Bool → Shared → Prop} (h : Q (Float64.cmp a b == some Ordering.lt) s) : wpAny (model prog w) A (oneLt' true (.float a t) (.float b u)) Q E s := by
 rw [oneLt'_eq]
 simp only [if_true]
 refine wpAny_bind (wpAny_cRoomFor_byValue rfl ?_)
 refine wpAny_bind (wpAny_callSpecialIfBound?_slot (AutoFloatOps.typeIs_float s a t) F.slot_float_lt (call_gives F.slot_float_lt (AutoFloatOps.typeIs_float s a t) F.entry_float_lt (F.args_float_lt_2 _ _) (AutoFloatG5.float___lt___float_float_0 a t b u) ?_))
 exact wpAny_truthy_bool h
theorem sc_tups {h : Heap} : ∀ {Es : List Sc}, (∀ e ∈ Es, h.get? e.a = some (tupO [.float e.f e.ft, strV e.x])) → KatTups h (refsS Es) (Es.map fun e => .float e.f e.ft)
 | [], _ => .nil
 | e :: r, hS => .cons (hS e (.head _)) rfl rfl rfl (sc_tups fun e' he' => hS e' (.tail _ he'))
section
variable {w : World} {A : Around} {E : Value → Shared → Prop} {s : Shared} {Es : List Sc} {rk : UInt64 → Str → Nat}
theorem sc_klt {e e' : Sc} {Q : Bool → Shared → Prop} (NB : NoneBooked s.heap) (hT : TkOk Es) (hR : RkOk rk Es) (he : e ∈ Es) (he' : e' ∈ Es) (ha : s.heap.get? e.a = some (tupO [.float e.f e.ft, strV e.x])) (hb' : s.heap.get? e'.a = some (tupO [.float e'.f e'.ft, strV e'.x]))
  (h : Q (decide (rkS rk e < rkS rk e')) s) : wpAny (model pw w) A (keyLt' (tuples' true) (.ref e.a) (.ref e'.a)) Q E s := by
 have hself : (Float64.cmp e.f e.f == some Ordering.eq) = true := (Bool.and_eq_true_iff.mp ((hR e he e he).1.mpr rfl)).1
 obtain ⟨r1, r2, r3, r4, r5⟩ := hR e he e' he'
 refine kat_lt ha rfl hb' rfl ?_
 refine kat_cons ?_
 refine eqb_float NB (hT e he).1 (hT e' he').1 (fun q => (hT e he).2 e' he' q) hself ?_
 refine kat_go (fun q => ?_) (fun q => ?_)
 ·refine kat_yes (kat_cons (eqBool_str (kat_go (fun q2 => ?_) (fun q2 => ?_))))
  ·have : rkS rk e = rkS rk e' := r1.mp (by rw [q, q2]; rfl)
   rw [show decide (rkS rk e < rkS rk e') = false from decide_eq_false (by omega)] at h
   exact kat_yes (kat_nil h)
  ·refine kat_no (kat_one _ _ (lt_str ?_))
   have := r3 q
   rw [show decide (rkS rk e < rkS rk e') = decide (e.x.1.cps.toList < e'.x.1.cps.toList) from decide_eq_decide.mpr this.symm] at h
   exact h
 ·refine kat_no (oneLt_float ?_)
  have := r2 q
  rw [show (Float64.cmp e.f e'.f == some Ordering.lt) = decide (rkS rk e < rkS rk e') from by
   by_cases z : rkS rk e < rkS rk e'
   ·rw [decide_eq_true z]; exact this.mpr z
   ·rw [decide_eq_false z]; exact Bool.eq_false_iff.mpr fun q => z (this.mp q)]
  exact h
end
theorem boot_sorted' : bootBuiltins (Str.ofString "sorted") = some (.builtin "sorted") := by kernel_rfl
theorem perm_sc : ∀ {vs : List Value} {Es : List Sc}, vs.Perm (refsS Es) → ∃ P : List Sc, vs = refsS P ∧ P.Perm Es := by
 intro vs Es h
 generalize hr : refsS Es = l at h
 induction h generalizing Es with
 | nil =>
  have : Es = [] := by simpa [refsS] using hr
  subst this
  exact ⟨[], rfl, List.Perm.refl _⟩
 | cons x h ih =>
  match Es, hr with
  | e :: r, hr =>
   have h1 := List.cons.inj hr
   obtain ⟨P, hP, hp⟩ := ih h1.2
   exact ⟨e :: P, by rw [← h1.1, hP]; rfl, hp.cons e⟩
 | swap x y l =>
  match Es, hr with
  | e :: e' :: r, hr =>
   have h1 : Value.ref e.a = x ∧ Value.ref e'.a = y ∧ refsS r = l := by simpa [refsS] using hr
   obtain ⟨a, b, c⟩ := h1
   exact ⟨e' :: e :: r, by rw [← a, ← b, ← c]; rfl, List.Perm.swap _ _ _⟩
 | trans h1 h2 ih1 ih2 =>
  obtain ⟨P2, hP2, hp2⟩ := ih2 hr
  obtain ⟨P1, hP1, hp1⟩ := ih1 hP2.symm
  exact ⟨P1, hP1, hp1.trans hp2⟩
theorem pw_sc {rk : UInt64 → Str → Nat} {rkv : Value → Nat} {P : List Sc} (hr : ∀ e ∈ P, rkv (.ref e.a) = rkS rk e) (h : (refsS P).Pairwise fun a b => rkv b ≤ rkv a) : P.Pairwise fun a b => rkS rk b ≤ rkS rk a := by
 unfold refsS at h
 rw [List.pairwise_map] at h
 refine List.Pairwise.imp_of_mem ?_ h
 intro a b ha hb h
 rw [hr a ha, hr b hb] at h
 exact h
section
variable {w : World} {A : Around} {E : Value → Shared → Prop} {s : Shared} {hb : Heap} {L L' res : Addr} {T : List (Addr × Obj)} {l : List (Str × Value)} {Es : List Sc} {nr n : Nat} {tn ts : Tok} {rk : UInt64 → Str → Nat} {oL ob : Obj}
theorem nl_big (G : Gd (KN w.params) tabs hb) (hu : A.units + 100 < cLine) (hm : (res, lstO (refsS Es) nr) ∈ T) (hS : SOk T Es) (hT : TkOk Es) (hl : Es.length ≤ 60) (hR : RkOk rk Es)
  (rkv : Value → Nat) (hrkv : ∀ e ∈ Es, rkv (.ref e.a) = rkS rk e) (hob : ob.data = .cell (some .none)) {Q : Flow → Shared → Prop}
  (S : St hb tabs L' [(Str.ofString "size", .int Es.length ts), (Str.ofString "n", .int n tn), (Str.ofString "iterable", .ref res)] ((L' + 1, ob) :: (L, oL) :: T) s.heap)
  (k : ∀ (s' : Shared) (X : List (Addr × Obj)) (r : Addr) (P : List Sc), Kp s s' → P.Perm Es → P.Pairwise (fun a b => rkS rk b ≤ rkS rk a) →
   St hb tabs L' [(Str.ofString "size", .int Es.length ts), (Str.ofString "n", .int n tn), (Str.ofString "iterable", .ref res)] ((r, lstO (refsS (P.take n)) 0) :: (X ++ ((L' + 1, ob) :: (L, oL) :: T))) s'.heap → Q (.ret (.ref r)) s') :
  wpAny (model pw w) (A.deeper (ev280 w L')) (execs ((match ((match (((fnBody (st1 pw 8))[1]?).getD default : Stmt) with | Stmt.Try _ _ o _ _ => o | _ => [])[0]?).getD default with | Stmt.If _ b _ _ => b | _ => [])) (ev280 w L')) Q E s := by
 refine q_ret ?_
 refine slice_upto (hb := hb) (tabs := tabs) ?_
 refine r_callKw ?_
 refine e_builtin G S boot_sorted' ?_
 refine callWith_kw ?_
 refine args_cons ?_
 refine e_local (env := callEnvC (fd280 w.params) L' 280) S m2 ?_
 refine args_nil ?_
 refine kws_cons ?_
 refine e_cell S (.head _) hob ?_
 refine kws_cons ?_
 refine wpAny_Constant_bool ?_
 refine kws_nil ?_
 have hin : ∀ T', (∀ p ∈ (L' + 1, ob) :: (L, oL) :: T, p ∈ T') → SOk T' Es := fun T' h => hS.mono fun p hp => h _ (.tail _ (.tail _ hp))
 refine r_sortedAny (κ := tuples' true) rkv S (.tail _ (.tail _ hm)) (by rw [refsS_len]; omega) (ksk_s2 _ _ _) (fun x => ksk_l2 _ _ _) (fun x => list_sort_keyrev x) ?_ ?_ ?_
 ·intro h2 s' T' Q' E' S' hT' hq
  have hS' := hin T' hT'
  exact kat_kind (T := .type "float") (sc_tups fun e he => S'.obj _ (hS' e he)) (by rw [List.length_map]; rw [refsS_len] at h2; omega) (fun v hv => by
   obtain ⟨e, -, rfl⟩ := List.mem_map.mp hv
   exact .now) rfl hq
 ·intro s' T' K' S' hT' x hx y hy C hC
  obtain ⟨e, he, rfl⟩ := List.mem_map.mp hx
  obtain ⟨e', he', rfl⟩ := List.mem_map.mp hy
  have hS' := hin T' hT'
  rw [hrkv e he, hrkv e' he'] at hC
  exact sc_klt (S'.nb G) hT hR he he' (S'.obj _ (hS' e he)) (S'.obj _ (hS' e' he')) hC
 ·intro s' D n' vs' X K' hp hw S'
  obtain ⟨P, rfl, hP⟩ := perm_sc hp
  refine e_local (env := callEnvC (fd280 w.params) L' 280) S' m1 ?_
  refine ⟨_, _, _, D, refsS P, n', n, tn, rfl, rfl, S', .head _, by rw [refsS_len, hP.length_eq]; omega, ?_⟩
  intro D₂ X₂ h' S₂
  have e1 : (refsS P).take n = refsS (P.take n) := by unfold refsS; rw [List.map_take]
  rw [e1] at S₂
  refine k { s' with heap := h' } (X₂ ++ ((D, lstO (refsS P) n') :: X)) D₂ P ⟨K'.os, K'.gens⟩ hP (pw_sc (fun e he => hrkv e (hP.mem_iff.mp he)) hw) ?_
  rw [List.append_assoc]
  exact S₂
end
end
section
abbrev rg3O (a b c : Int) (t u v : Tok) : Obj := { cls := .type "range", dict := none, data := .fields #[.int a t, .int b u, .int c v], slots := #[] }
abbrev rgiO (x left c : Int) : Obj := { cls := .type "range_iterator", dict := none, data := .fields #[rawInt x, rawInt left, rawInt c], slots := #[] }
abbrev zipO (f0 : Value) (TI TO : Addr) : Obj := { cls := .type "zip", dict := none, data := .fields #[f0, .bool false, .bool false, .ref TI, .ref TO], slots := #[] }
theorem meets_zip_rl (r it d : Addr) (b c : Int) (t u v : Tok) (i : Nat) (hsm : Builtin.Range.small 0 b c = true) (oi : Obj) (hoi : LitAt oi d i) :
  Meets (Builtin.«zip.__new__» ⟨[.type "zip", .ref r, .ref it], []⟩) (fun _ R s => s.heap.get? r = some (rg3O 0 b c t u v) ∧ s.heap.get? it = some oi ∧
   R (.ok (.ret (.ref (((s.heap.push (rgiO 0 (Builtin.Range.rangeSize 0 b c) c)).push (tupO [.ref s.heap.objs.size, .ref it])).push (tupO [.none, .none])).objs.size)))
    { s with heap := (((s.heap.push (rgiO 0 (Builtin.Range.rangeSize 0 b c) c)).push (tupO [.ref s.heap.objs.size, .ref it])).push (tupO [.none, .none])).push (zipO .none (s.heap.push (rgiO 0 (Builtin.Range.rangeSize 0 b c) c)).objs.size ((s.heap.push (rgiO 0 (Builtin.Range.rangeSize 0 b c) c)).push (tupO [.ref s.heap.objs.size, .ref it])).objs.size) }) :=
 .of_wp fun prog w A R s h => by
  obtain ⟨hp, g, dr, tk, os⟩ := s; obtain ⟨hr, hi, h⟩ := h
  have hR : IsRange (Shared.heap ⟨hp, g, dr, tk, os⟩) r 0 b c t u v := hr
  have hI : Heap.IsListIter (Shared.heap ⟨hp.push (rgiO 0 (Builtin.Range.rangeSize 0 b c) c), g, dr, tk, os⟩) it d i := ⟨oi, Heap.get?_push_of_some _ hi, hoi.1, hoi.2⟩
  have hsub := sub_zip
  wp_walk using wpAny_pyIter_range hR hsm, wpAny_pyIter_listiter hI
  exact ⟨_, rfl, h⟩
section
variable {prog : Program} {w : World} {A : Around} {E : Value → Shared → Prop} {s : Shared} {hb : Heap} {tabs : List Addr} {L d r it : Addr} {l : List (Str × Value)} {T : List (Addr × Obj)} {vs : List Value} {b c : Int} {t u v : Tok} {i : Nat} {oi : Obj}
theorem r_range3 {a : Int} {Q : Value → Shared → Prop} (S : St hb tabs L l T s.heap) (hc : c ≠ 0) (hp : Builtin.divisionGoesByPylong (b - a) c = false) (h : ∀ r h', St hb tabs L l ((r, rg3O a b c t u v) :: T) h' → Q (.ref r) { s with heap := h' }) :
  wpAny (model prog w) A (call (.type "range") [.int a t, .int b u, .int c v]) Q E s :=
 call_range_3 hc (h _ _ (S.push _)) (.inl hp)
theorem zp_new {Q : Value → Shared → Prop} (S : St hb tabs L l T s.heap) (hr : (r, rg3O 0 b c t u v) ∈ T) (hi : (it, oi) ∈ T) (hoi : LitAt oi d i) (hsm : Builtin.Range.small 0 b c = true)
  (h : ∀ z TI TO ri h', St hb tabs L l ((z, zipO .none TI TO) :: (TO, tupO [.none, .none]) :: (TI, tupO [.ref ri, .ref it]) :: (ri, rgiO 0 (Builtin.Range.rangeSize 0 b c) c) :: T) h' → Q (.ref z) { s with heap := h' }) :
  wpAny (model prog w) A (call (.type "zip") [.ref r, .ref it]) Q E s := by
 have S' := (((S.push (rgiO 0 (Builtin.Range.rangeSize 0 b c) c)).push (tupO [.ref s.heap.objs.size, .ref it])).push (tupO [.none, .none])).push (zipO .none (s.heap.push (rgiO 0 (Builtin.Range.rangeSize 0 b c) c)).objs.size ((s.heap.push (rgiO 0 (Builtin.Range.rangeSize 0 b c) c)).push (tupO [.ref s.heap.objs.size, .ref it])).objs.size)
 refine callType_new F.called_zip (by decide) (F.typeCall_zip_2 _ _) (F.newCall_zip_2 _ _) (fun obj => F.args_object_init_3 obj _ _) F.entry_zip_new (meets_zip_rl r it d b c t u v i hsm oi hoi) ⟨S.obj _ hr, S.obj _ hi, ⟨_, S'.obj _ m0, rfl⟩, h _ _ _ _ _ S'⟩
theorem nextOf_range {x left : Int} {Q : Value → Shared → Prop} (hit : s.heap.get? it = some (rgiO x left c)) (hleft : 0 < left)
  (hQ : ∀ h', h'.get? it = some (rgiO (x + c) (left - 1) c) → Heap.SameBut it s.heap h' → Q (.int x s.toks) { s with heap := h', toks := s.toks + 1 }) :
  wpAny (model prog w) A (Builtin.SmallTypes.nextOf (.ref it)) Q E s := by
 have hT : s.TypeIs (.ref it) "range_iterator" := ⟨_, hit, rfl⟩
 unfold Builtin.SmallTypes.nextOf
 refine wpAny_bind (wpAny_callSpecial?_slot (name := Str.ofString "__next__") hT F.slot_range_iterator_next
  (call_meets F.slot_range_iterator_next hT F.entry_range_iterator_next (F.args_range_iterator_next_1 _) (AutoRange.range_iterator___next___range_iterator_1 it x left c (by omega)) ⟨hit, ?_⟩))
 exact wpAny_pure (hQ _ (Heap.get?_update_self _ (Heap.get?_update_self _ hit rfl) rfl) ((Heap.SameBut.update ..).trans (Heap.SameBut.update ..)))
theorem zp_next {z TI TO ri : Addr} {a₀ b₀ xv : Value} {x left : Int} {n : Nat} {Q : Option Value → Shared → Prop}
  (S : St hb tabs L l ((z, zipO .none TI TO) :: (TO, tupO [a₀, b₀]) :: (TI, tupO [.ref ri, .ref it]) :: (ri, rgiO x left c) :: (it, oi) :: T) s.heap) (hoi : LitAt oi d i) (hd : (d, lstO vs n) ∈ T) (hx : vs[i]? = some xv) (hleft : 0 < left)
  (h : ∀ P oi' h', LitAt oi' d (i + 1) → St hb tabs L l ((P, tupO [.int x s.toks, xv]) :: (z, zipO (rawInt P) TI TO) :: (TO, tupO [.int x s.toks, xv]) :: (TI, tupO [.ref ri, .ref it]) :: (ri, rgiO (x + c) (left - 1) c) :: (it, oi') :: T) h' → Q (some (.ref P)) { s with heap := h', toks := s.toks + 1 }) :
  wpAny (model prog w) A (pyNext (.ref z)) Q E s := by
 have hz := S.obj _ m0
 have hT : s.TypeIs (.ref z) "zip" := ⟨_, hz, rfl⟩
 unfold pyNext
 refine wpAny_bind (wpAny_attempt (wpAny_callSpecial?_slot (name := Str.ofString "__next__") hT F.slot_zip_next
  (wpAny_call_entry F.slot_zip_next hT F.entry_zip_next ?_ (F.args_zip_next_1 _))))
 show wpAny _ _ (field (.ref z) 2 >>= _) _ _ _
 refine wpAny_bind (wpAny_field hz rfl (x := .bool false) rfl ?_)
 show wpAny _ _ (field (.ref z) 3 >>= _) _ _ _
 refine wpAny_bind (wpAny_field hz rfl (x := .ref TI) rfl ?_)
 refine wpAny_bind (wpAny_seqItems (S.obj _ m2) rfl ?_)
 show wpAny _ _ (Builtin.SmallTypes.ownedTupleIsFree (.ref z) >>= _) _ _ _
 refine wpAny_bind ?_
 unfold Builtin.SmallTypes.ownedTupleIsFree
 refine wpAny_bind (wpAny_field hz rfl (x := .none) rfl (wpAny_pure ?_))
 simp only [if_true]
 refine wpAny_bind (wpAny_rule ?_)
 refine wpAny_bind (wpAny_field hz rfl (x := .ref TO) rfl ?_)
 refine wpAny_bind (wpAny_setField_rec hz (by simp) fun h₁ hz₁ hs₁ => ?_)
 have S₁ := S.change (o' := zipO .ellipsis TI TO) 0 rfl hs₁ hz₁
 refine wpAny_bind ?_
 show wpAny _ _ (forIn [(Value.ref ri, 0), (Value.ref it, 1)] _ _) _ _ _
 rw [List.forIn_cons]
 refine wpAny_bind (wpAny_bind (wpAny_onRaise ?_))
 show wpAny _ _ (Builtin.SmallTypes.nextOf (.ref ri) >>= _) _ _ _
 refine wpAny_bind (nextOf_range (c := c) (S₁.obj _ m3) hleft fun h₂ hr₂ hs₂ => wpAny_pure ?_)
 have S₂ := S₁.change (o' := rgiO (x + c) (left - 1) c) 3 rfl hs₂ hr₂
 refine wpAny_bind (wpAny_seqItems (S₂.obj _ m1) rfl ?_)
 refine wpAny_bind (wpAny_updateSeq_pair (S₂.obj _ m1) fun h₃ hT₃ hs₃ => ?_)
 have S₃ := S₂.change (o' := tupO [.int x s.toks, b₀]) 1 rfl hs₃ hT₃
 refine wpAny_bind (wpAny_letGo (wpAny_pure ?_))
 show wpAny _ _ (forIn [(Value.ref it, 1)] _ _) _ _ _
 rw [List.forIn_cons]
 refine wpAny_bind (wpAny_bind (wpAny_onRaise ?_))
 show wpAny _ _ (Builtin.SmallTypes.nextOf (.ref it) >>= _) _ _ _
 refine wpAny_bind (wpAny_nextOf_list_item (items := vs.toArray) ⟨oi, S₃.obj _ m4, hoi.1, hoi.2⟩ ⟨_, S₃.obj _ (.tail _ (.tail _ (.tail _ (.tail _ (.tail _ hd))))), rfl, n, rfl⟩ (by simpa using hx) fun h₄ hi₄ hs₄ => wpAny_pure ?_)
 obtain ⟨oi', ho', hc', hd'⟩ := hi₄
 have S₄ := S₃.change (o' := oi') 4 rfl hs₄ ho'
 refine wpAny_bind (wpAny_seqItems (S₄.obj _ m1) rfl ?_)
 refine wpAny_bind (wpAny_updateSeq_pair (S₄.obj _ m1) fun h₅ hT₅ hs₅ => ?_)
 have S₅ := S₄.change (o' := tupO [.int x s.toks, xv]) 1 rfl hs₅ hT₅
 refine wpAny_bind (wpAny_letGo (wpAny_pure ?_))
 show wpAny _ _ (forIn [] _ _) _ _ _
 rw [List.forIn_nil]
 refine wpAny_pure ?_
 refine wpAny_bind (wpAny_seqItems (S₅.obj _ m1) rfl ?_)
 refine wpAny_bind (wpAny_newTuple ?_)
 have S₆ := S₅.push (tupO [.int x s.toks, xv])
 show wpAny _ _ (Builtin.SmallTypes.ownedTupleHandOut (.ref z) (.ref h₅.objs.size) >>= _) _ _ _
 refine wpAny_bind ?_
 unfold Builtin.SmallTypes.ownedTupleHandOut
 refine wpAny_bind (wpAny_setField_rec (S₆.obj _ m1) (by simp) fun h₇ hz₇ hs₇ => ?_)
 have S₇ := S₆.change (o' := zipO (rawInt h₅.objs.size) TI TO) 1 rfl hs₇ hz₇
 refine wpAny_setField_rec (S₇.obj _ m1) (by simp) fun h₈ hz₈ hs₈ => ?_
 have S₈ := S₇.change (o' := zipO (rawInt h₅.objs.size) TI TO) 1 rfl hs₈ hz₈
 exact wpAny_pure ⟨_, rfl, wpAny_pure (h _ oi' h₈ ⟨hc', hd'⟩ S₈)⟩
theorem zp_go {z TI TO P : Addr} {elts : List Expr} {k : Nat} {pos : Pos} {Q : Unit → Shared → Prop} (j : Nat) (S : St hb tabs L l T s.heap) (hz : T[j]? = some (z, zipO (rawInt P) TI TO))
  (h : ∀ h', St hb tabs L l (T.set j (z, zipO .none TI TO)) h' → Q () { s with heap := h' }) : wpAny (model prog w) A (letOwnedTupleGo (.Tuple elts k pos) (.ref z) (.ref P)) Q E s := by
 refine wpAny_letOwnedTupleGo_zip (S.obj _ (List.mem_of_getElem? hz)) fun h' hz' hs' => h h' (S.change j hz hs' hz')
theorem zp_end {z TI TO ri : Addr} {a₀ b₀ : Value} {x left : Int} {Q : Option Value → Shared → Prop} (hh : A.handled = none)
  (S : St hb tabs L l ((z, zipO .none TI TO) :: (TO, tupO [a₀, b₀]) :: (TI, tupO [.ref ri, .ref it]) :: (ri, rgiO x left c) :: T) s.heap) (hleft : left ≤ 0)
  (h : ∀ h', St hb tabs L l T h' → Q none { s with heap := h' }) : wpAny (model prog w) A (pyNext (.ref z)) Q E s := by
 have hz := S.obj _ m0
 have hT : s.TypeIs (.ref z) "zip" := ⟨_, hz, rfl⟩
 unfold pyNext
 refine wpAny_bind (wpAny_attempt (wpAny_callSpecial?_slot (name := Str.ofString "__next__") hT F.slot_zip_next
  (wpAny_call_entry F.slot_zip_next hT F.entry_zip_next ?_ (F.args_zip_next_1 _))))
 show wpAny _ _ (field (.ref z) 2 >>= _) _ _ _
 refine wpAny_bind (wpAny_field hz rfl (x := .bool false) rfl ?_)
 show wpAny _ _ (field (.ref z) 3 >>= _) _ _ _
 refine wpAny_bind (wpAny_field hz rfl (x := .ref TI) rfl ?_)
 refine wpAny_bind (wpAny_seqItems (S.obj _ m2) rfl ?_)
 show wpAny _ _ (Builtin.SmallTypes.ownedTupleIsFree (.ref z) >>= _) _ _ _
 refine wpAny_bind ?_
 unfold Builtin.SmallTypes.ownedTupleIsFree
 refine wpAny_bind (wpAny_field hz rfl (x := .none) rfl (wpAny_pure ?_))
 simp only [if_true]
 refine wpAny_bind (wpAny_rule ?_)
 refine wpAny_bind (wpAny_field hz rfl (x := .ref TO) rfl ?_)
 refine wpAny_bind (wpAny_setField_rec hz (by simp) fun h₁ hz₁ hs₁ => ?_)
 have S₁ := S.change (o' := zipO .ellipsis TI TO) 0 rfl hs₁ hz₁
 refine wpAny_bind ?_
 show wpAny _ _ (forIn [(Value.ref ri, 0), (Value.ref it, 1)] _ _) _ _ _
 rw [List.forIn_cons]
 refine wpAny_bind (wpAny_bind (wpAny_onRaise ?_))
 show wpAny _ _ (Builtin.SmallTypes.nextOf (.ref ri) >>= _) _ _ _
 refine wpAny_bind ?_
 unfold Builtin.SmallTypes.nextOf
 have hri := S₁.obj _ m3
 have hTr : Shared.TypeIs { s with heap := h₁ } (.ref ri) "range_iterator" := ⟨_, hri, rfl⟩
 refine wpAny_bind (wpAny_callSpecial?_slot (name := Str.ofString "__next__") hTr F.slot_range_iterator_next
  (wpAny_call_entry F.slot_range_iterator_next hTr F.entry_range_iterator_next ?_ (F.args_range_iterator_next_1 _)))
 show wpAny _ _ (field (.ref ri) 0 >>= _) _ _ _
 refine wpAny_bind (wpAny_field hri rfl (x := rawInt x) rfl ?_)
 show wpAny _ _ (field (.ref ri) 1 >>= _) _ _ _
 refine wpAny_bind (wpAny_field hri rfl (x := rawInt left) rfl ?_)
 show wpAny _ _ (field (.ref ri) 2 >>= _) _ _ _
 refine wpAny_bind (wpAny_field hri rfl (x := rawInt c) rfl ?_)
 show wpAny _ _ (if left ≤ 0 then _ else _) _ _ _
 rw [if_pos hleft]
 refine wpAny_bind (wpAny_rule ?_)
 refine wpAny_bind ?_
 show wpAny _ _ (newExc (.type "StopIteration") [] >>= _) _ _ _
 refine wpAny_bind ?_
 simp only [newExc, newTuple]
 refine wpAny_bind (wpAny_newObj_type ?_ (by size_fits))
 refine wpAny_bind (m := firstArgMember _ _) (wpAny_of_eq (a := Value.none) (by first | rfl | (simp only [firstArgMember]; rfl)) ?_)
 refine wpAny_newObj_type ?_ (by size_fits)
 simp only [raiseNew]
 refine wpAny_bind (wpAny_handled ?_)
 first | rw [show A.in1.handled = none from hh] | rw [show A.in1.in1.handled = none from hh] | rw [hh]
 refine wpAny_bind (wpAny_pure (wpAny_throw ?_))
 have S₂ := (S₁.push { cls := .type "tuple", data := .seq #[] }).push { cls := .type "StopIteration", data := .fields (#[Value.ref h₁.objs.size, Value.none, Value.none, Value.none, Value.bool false, Value.none] ++ ownMembersOf (Value.type "StopIteration") []) }
 refine wpAny_setField_rec (S₂.obj _ m2) (by simp) fun h₂ hz₂ hs₂ => ?_
 have S₃ := S₂.change (o' := zipO .none TI TO) 2 rfl hs₂ hz₂
 refine wpAny_bind (wpAny_isInstance (T := "StopIteration") (b := true) ⟨_, S₃.obj _ m0, rfl⟩ isSubtype_stop ?_)
 exact wpAny_pure (h _ (S₃.sub (.cons _ (.cons _ (.cons _ (.cons _ (.cons _ (.cons _ (List.Sublist.refl _)))))))))
end
end
section
def ZkOk (X : List (Addr × Obj)) (vs : List Value) (ps : List (Addr × Tok)) : Prop := ∀ j p, ps[j]? = some p → (p.1, tupO [vs.getD j .none, .int (-(j : Int)) p.2]) ∈ X
def zrefs (ps : List (Addr × Tok)) : List Value := ps.map fun p => .ref p.1
section
variable {prog : Program} {w : World} {A : Around} {E : Value → Shared → Prop} {s : Shared} {hb : Heap} {tabs : List Addr} {env : Env} {pos : Pos}
end
end
section
open PySem.Spec
theorem perm_map_inv {α β : Type} (f : α → β) : ∀ {vs : List β} {Es : List α}, vs.Perm (Es.map f) → ∃ P : List α, vs = P.map f ∧ P.Perm Es := by
 intro vs Es h
 generalize hr : Es.map f = l at h
 induction h generalizing Es with
 | nil =>
  have : Es = [] := by simpa using hr
  subst this
  exact ⟨[], rfl, List.Perm.refl _⟩
 | cons x h ih =>
  match Es, hr with
  | e :: r, hr =>
   have h1 := List.cons.inj hr
   obtain ⟨P, hP, hp⟩ := ih h1.2
   exact ⟨e :: P, by rw [← h1.1, hP]; rfl, hp.cons e⟩
 | swap x y l =>
  match Es, hr with
  | e :: e' :: r, hr =>
   have h1 : f e = x ∧ f e' = y ∧ r.map f = l := by simpa using hr
   obtain ⟨a, b, c⟩ := h1
   exact ⟨e' :: e :: r, by rw [← a, ← b, ← c]; rfl, List.Perm.swap _ _ _⟩
 | trans h1 h2 ih1 ih2 =>
  obtain ⟨P2, hP2, hp2⟩ := ih2 hr
  obtain ⟨P1, hP1, hp1⟩ := ih1 hP2.symm
  exact ⟨P1, hP1, hp1.trans hp2⟩
def refsH (Hs : List HI) : List Value := Hs.map fun h => .ref h.a
def HOk (T : List (Addr × Obj)) (Hs : List HI) : Prop := ∀ h ∈ Hs, (h.a, tupO [.ref h.e.a, .int h.ord h.ot]) ∈ T
theorem refsH_len (l : List HI) : (refsH l).length = l.length := by simp [refsH]
def OrdOk (Hs : List HI) : Prop := ∀ h ∈ Hs, -60 ≤ h.ord ∧ h.ord ≤ 0
def keyOf (rk : UInt64 → Str → Nat) (Hs : List HI) : Value → Int
 | .ref a => ((Hs.find? fun h => h.a == a).map (keyH rk)).getD 0
 | _ => 0
theorem sc_same {hp : Heap} {e e' : Sc} (h : hp.get? e.a = some (tupO [.float e.f e.ft, strV e.x])) (h' : hp.get? e'.a = some (tupO [.float e'.f e'.ft, strV e'.x])) (ha : e.a = e'.a) : e.f = e'.f ∧ e.x.1 = e'.x.1 := by
 rw [ha, h'] at h
 have e1 := congrArg Obj.data (Option.some.inj h)
 injection e1 with e1 _
 have e2 : [Value.float e'.f e'.ft, strV e'.x] = [Value.float e.f e.ft, strV e.x] := by
  have := congrArg Array.toList e1
  simpa using this
 injection e2 with h1 h2
 injection h2 with h2 _
 injection h1 with f1 _
 injection h2 with x1 _
 exact ⟨f1.symm, x1.symm⟩
theorem keyOf_at {rk : UInt64 → Str → Nat} {Hs : List HI} {Es : List Sc} {hp : Heap} (hH : ∀ h ∈ Hs, hp.get? h.a = some (tupO [.ref h.e.a, .int h.ord h.ot])) (hE : ∀ e ∈ Es, hp.get? e.a = some (tupO [.float e.f e.ft, strV e.x])) (hHE : ∀ h ∈ Hs, h.e ∈ Es) {h : HI} (hm : h ∈ Hs) :
  keyOf rk Hs (.ref h.a) = keyH rk h := by
 show ((Hs.find? fun h' => h'.a == h.a).map (keyH rk)).getD 0 = keyH rk h
 cases hf : Hs.find? fun h' => h'.a == h.a with
 | none => exact absurd (List.find?_eq_none.mp hf h hm) (by simp)
 | some h' =>
  have ha : h'.a = h.a := by simpa using List.find?_some hf
  have hm' := List.mem_of_find?_eq_some hf
  have o1 := hH h' hm'
  rw [ha, hH h hm] at o1
  have e1 := congrArg Obj.data (Option.some.inj o1)
  injection e1 with e1 _
  have e2 : [Value.ref h.e.a, .int h.ord h.ot] = [Value.ref h'.e.a, .int h'.ord h'.ot] := by
   have := congrArg Array.toList e1
   simpa using this
  injection e2 with h1 h2
  injection h2 with h2 _
  injection h1 with a1
  injection h2 with x1 _
  obtain ⟨s1, s2⟩ := sc_same (hE _ (hHE _ hm')) (hE _ (hHE _ hm)) a1.symm
  show keyH rk h' = keyH rk h
  unfold keyH rkS
  rw [s1, s2, x1]
theorem HeapFrom.congr {K K' : Nat → Int} {n t : Nat} (h : HeapFrom K n t) (e : ∀ i, i < n → K i = K' i) : HeapFrom K' n t := by
 intro i i1 im ht
 rw [← e i im, ← e (par i) (by unfold par; omega)]
 exact h i i1 im ht
def keysH (rk : UInt64 → Str → Nat) (Hs : List HI) (i : Nat) : Int := ((Hs[i]?).map (keyH rk)).getD 0
theorem keyAt_keysH {rk : UInt64 → Str → Nat} {key : Value → Int} {Hs : List HI} (hk : ∀ h ∈ Hs, key (.ref h.a) = keyH rk h) {i : Nat} (hi : i < Hs.length) : keyAt key (refsH Hs) i = keysH rk Hs i := by
 unfold keyAt keysH refsH
 have e : (Hs.map fun h => Value.ref h.a).getD i .none = .ref Hs[i].a := by
  rw [List.getD_eq_getElem?_getD, List.getElem?_map, List.getElem?_eq_getElem hi]; rfl
 rw [e, hk _ (List.getElem_mem hi), List.getElem?_eq_getElem hi]
 rfl
theorem rk_of_key {rk : UInt64 → Str → Nat} {h h' : HI} (o : -60 ≤ h.ord ∧ h.ord ≤ 0) (o' : -60 ≤ h'.ord ∧ h'.ord ≤ 0) (hk : keyH rk h ≤ keyH rk h') : rkS rk h.e ≤ rkS rk h'.e := by
 unfold keyH at hk
 omega
section
variable {prog : Program} {w : World} {A : Around} {E : Value → Shared → Prop} {s : Shared} {env : Env} {pos : Pos}
theorem r_sub {value e : Expr} {T id : String} {Q : Value → Shared → Prop} (hl : typeLookup (.type T) "__getitem__" = pure (some (.builtin id)))
  (h : wpAny (model prog w) A (eval value env) (fun o s₁ => wpAny (model prog w) A (eval e env) (fun i s₂ => s₂.TypeIs o T ∧ wpAny (model prog w) A (getItem o i) Q E s₂) E s₁) E s)
  (hs : ∀ o i, subscripted e false o i = operate [o, i] (getItem o i) := by intro _ _; rfl) : wpAny (model prog w) A (eval (.Subscript value e pos) env) Q E s := by
 rw [eval_Subscript]
 refine wpAny_bind (wpAny_mono h (fun o s₁ h₁ => wpAny_bind (wpAny_holding (wpAny_mono h₁ (fun i s₂ h₂ => wpAny_bind (wpAny_standAt ?_)) fun _ _ x => x)))
  fun _ _ x => x)
 have fin : wpAny (model prog w) A (subscripted e false o i) (fun r s₃ => wpAny (model prog w) A (letTemporaryGo value o r >>= fun _ => pure r) Q E s₃) E s₂ := by
  rw [hs]
  exact wpAny_operating (wpAny_mono h₂.2 (fun r s₃ h₃ => wpAny_bind (wpAny_letTemporaryGo (wpAny_pure h₃))) fun _ _ x => x)
 refine wpAny_bind ?_
 rw [getitemInPython_of_ne h₂.1.not_modules]
 refine wpAny_bind (wpAny_specialOf h₂.1 hl ?_)
 first
  | exact wpAny_pure (wpAny_bind fin)
  | exact wpAny_bind (wpAny_pure (wpAny_bind fin))
  | exact wpAny_bind fin
variable {hb : Heap} {tabs : List Addr} {L d I : Addr} {l : List (Str × Value)} {T : List (Addr × Obj)} {vs : List Value} {n : Nat} {o : Obj} {target : Expr} {body : List Stmt}
theorem gi_list {k : Nat} {t : Tok} {x : Value} {Q : Value → Shared → Prop} (S : St hb tabs L l T s.heap) (hm : (d, lstO vs n) ∈ T) (hz : vs.length ≤ 1000) (hx : vs[k]? = some x) (h : Q x s) : wpAny (model prog w) A (getItem (.ref d) (.int (k : Int) t)) Q E s := by
 have hk : k < vs.length := (List.getElem?_eq_some_iff.mp hx).1
 exact wpAny_getItem_list (items := vs.toArray) ⟨_, S.obj _ hm, rfl, n, rfl⟩ (by omega) (by omega) (by simpa using hx) h
theorem gi_tuple {k : Nat} {t : Tok} {x : Value} {Q : Value → Shared → Prop} (S : St hb tabs L l T s.heap) (hm : (d, tupO vs) ∈ T) (hz : vs.length ≤ 1000) (hx : vs[k]? = some x) (h : Q x s) : wpAny (model prog w) A (getItem (.ref d) (.int (k : Int) t)) Q E s := by
 have hk : k < vs.length := (List.getElem?_eq_some_iff.mp hx).1
 have ho := S.obj _ hm
 have hT : s.TypeIs (.ref d) "tuple" := ⟨_, ho, rfl⟩
 have hseq : seqIndex? (k : Int) vs.toArray.size = some k := by rw [seqIndex_of (by omega) (by rw [List.size_toArray]; omega)]; rfl
 unfold getItem
 try with_reducible refine wpAny_holding ?_
 first | refine wpAny_bind (wpAny_pure ?_) | skip
 refine wpAny_bind (wpAny_sequenceKey hT (by decide) ?_)
 exact wpAny_bind (wpAny_callSpecial?_slot (name := Str.ofString "__getitem__") hT F.slot_tuple_getitem
  (call_meets F.slot_tuple_getitem hT F.entry_tuple_getitem (F.args_tuple_getitem_2 _ _) (MeetsSeq.tuple_getitem_at d vs.toArray 0 k t k x (by omega) (by omega) hseq (by simpa using hx)) ⟨ho, wpAny_pure h⟩))
theorem tuple_getitem_lookup' : typeLookup (.type "tuple") "__getitem__" = pure (some (.builtin "tuple.__getitem__")) := F.slot_tuple_getitem.lookup
theorem for_lit {R : Result → Shared → Prop} {i₀ : Nat} (hh : A.handled = none) (J : Nat → List (Str × Value) → List (Addr × Obj) → Prop) (S : St hb tabs L l ((I, o) :: T) s.heap) (ho : LitAt o d i₀) (hi₀ : i₀ ≤ vs.length) (h0 : J i₀ l T) (hd : (d, lstO vs n) ∈ T)
  (step : ∀ E i v l₁ T₁ o₁ s₁, i₀ ≤ i → vs[i]? = some v → J i l₁ T₁ → (d, lstO vs n) ∈ T₁ → St hb tabs L l₁ ((I, o₁) :: T₁) s₁.heap → Kp s s₁ →
   wpAny (model prog w) A (assign target env v) (fun _ s₂ => wpAny (model prog w) A (execs body env) (fun f s₃ => match f with
    | .next | .cont => ∃ l₂ T₂, St hb tabs L l₂ ((I, o₁) :: T₂) s₃.heap ∧ J (i + 1) l₂ T₂ ∧ (d, lstO vs n) ∈ T₂ ∧ Kp s s₃
    | .brk => R (.ok .next) s₃
    | .ret v => R (.ok (.ret v)) s₃) E s₂) E s₁)
  (hR : ∀ s' l' T', Kp s s' → St hb tabs L l' T' s'.heap → J vs.length l' T' → R (.ok .next) s')
  (ht : ∀ v, letOwnedTupleGo target (.ref I) v = pure () := by intro _; rfl) :
  codeAny (model prog w) A (.forLoop target (.ref I) body [] env) R s := by
 refine codeAny_forLoop (fun k s' => ∃ i l₁ T₁ o₁, i₀ ≤ i ∧ St hb tabs L l₁ ((I, o₁) :: T₁) s'.heap ∧ LitAt o₁ d i ∧ J i l₁ T₁ ∧ (d, lstO vs n) ∈ T₁ ∧ Kp s s' ∧ i ≤ vs.length ∧ k = vs.length - i) ?_ (vs.length - i₀) ⟨i₀, l, T, o, Nat.le_refl _, S, ho, h0, hd, Kp.refl, hi₀, rfl⟩ ht
 rintro k s' ⟨i, l₁, T₁, o₁, hi₁, S₁, ho₁, hJ, hd₁, hKp, hi, rfl⟩
 by_cases hlt : i < vs.length
 ·have hx : vs[i]? = some vs[i] := List.getElem?_eq_getElem hlt
  refine lit_next 0 S₁ rfl ho₁ (.tail _ hd₁) hx fun h₂ o₂ ho₂ S₂ => ?_
  refine wpAny_mono (step _ i vs[i] l₁ T₁ o₂ { s' with heap := h₂ } hi₁ hx hJ hd₁ (by exact S₂) hKp.with) (fun _ s₂ z₂ => wpAny_mono z₂ (fun f s₃ z₃ => ?_) fun _ _ e => e) fun _ _ e => e
  have fin : (∃ l₂ T₂, St hb tabs L l₂ ((I, o₂) :: T₂) s₃.heap ∧ J (i + 1) l₂ T₂ ∧ (d, lstO vs n) ∈ T₂ ∧ Kp s s₃) → ∃ m, m < vs.length - i ∧ ∃ i l₁ T₁ o₁, i₀ ≤ i ∧ St hb tabs L l₁ ((I, o₁) :: T₁) s₃.heap ∧ LitAt o₁ d i ∧ J i l₁ T₁ ∧ (d, lstO vs n) ∈ T₁ ∧ Kp s s₃ ∧ i ≤ vs.length ∧ m = vs.length - i := by
   rintro ⟨l₂, T₂, S₃, hJ₃, hd₃, hKp₃⟩
   exact ⟨vs.length - (i + 1), by omega, i + 1, l₂, T₂, o₂, by omega, S₃, ho₂, hJ₃, hd₃, hKp₃, hlt, rfl⟩
  cases f with
  | next => exact fin z₃
  | cont => exact fin z₃
  | brk => exact z₃
  | ret v => exact z₃
 ·have hin : i = vs.length := by omega
  subst hin
  refine lit_end hh S₁.last ho₁ hd₁ fun h₂ S₂ => wpAny_execs_nil ?_
  exact hR _ l₁ T₁ hKp.with S₂ hJ
end
end
section
open PySem.Spec
section
variable {M : Model} {A : Around} {E : Value → Shared → Prop} {s : Shared} {env : Env}
theorem evalArgs_kw0 {f : Value} {keywords : List (Option Str × Sem Value)} {Q : Args → Shared → Prop} (hall : keywords.all (·.1.isSome) = true)
  (h : wpAny M A (evalAll (keywords.map (·.2))) (fun kvs s₂ => Q ⟨[], (keywords.filterMap (·.1)).zip kvs⟩ s₂) E s) :
  wpAny M A (evalArgs f true [] keywords) Q E s := by
 unfold evalArgs
 show wpAny M A (spliced [] >>= _) Q E s
 refine wpAny_bind (wpAny_pure (wpAny_bind (wpAny_pure ?_)))
 refine wpAny_holding ?_
 rw [if_pos hall]
 refine wpAny_bind (wpAny_mono h (fun kvs s₂ h₂ => ?_) fun _ _ x => x)
 exact wpAny_bind (wpAny_pure (wpAny_pure h₂))
theorem cw_kw0 {pos : Pos} {id : String} {first : List Value} {kws : List Keyword} {Q : Value → Shared → Prop}
  (h : wpAny M A (evalAll ((backToKw pos (keywordEach kws env)).map (·.2))) (fun kvs s₂ => wpAny M A (call (.builtin id) (first ++ []) (((backToKw pos (keywordEach kws env)).filterMap (·.1)).zip kvs)) Q E s₂) E s)
  (hall : (backToKw pos (keywordEach kws env)).all (·.1.isSome) = true := by rfl)
  (hkw : (backToKw pos (keywordEach kws env)).any (·.1.isNone) = false := by rfl) :
  wpAny M A (callWith pos (.builtin id) first (backTo pos (starEach [] env)) (backToKw pos (keywordEach kws env))) Q E s :=
 callWith_builtin_kwB rfl hkw (evalArgs_kw0 hall h)
end
theorem lsr_args (x : Addr) : argsOk "list.sort" ⟨[.ref x], [(Str.ofString "reverse", .bool true)]⟩ := by unfold argsOk; kernel_rfl
theorem boot_zip' : bootBuiltins (Str.ofString "zip") = some (.type "zip") := by kernel_rfl
theorem rng_facts : ∀ n : Fin 61, Builtin.Range.small 0 (-((n.val : Nat) : Int)) (-1) = true ∧ Builtin.Range.rangeSize 0 (-((n.val : Nat) : Int)) (-1) = ((n.val : Nat) : Int) := by decide +kernel
theorem hi_tups {h : Heap} : ∀ {Hs : List HI}, (∀ e ∈ Hs, h.get? e.a = some (tupO [.ref e.e.a, .int e.ord e.ot])) → KatTups h (refsH Hs) (Hs.map fun e => .ref e.e.a)
 | [], _ => .nil
 | e :: r, hS => .cons (hS e (.head _)) rfl rfl rfl (hi_tups fun e' he' => hS e' (.tail _ he'))
section
variable {w : World} {A : Around} {E : Value → Shared → Prop} {s : Shared} {Es : List Sc} {rk : UInt64 → Str → Nat}
theorem hi_klt {x y : HI} {Q : Bool → Shared → Prop} (hu : A.units + 4 < cLine) (NB : NoneBooked s.heap) (hT : TkOk Es) (hR : RkOk rk Es) (he : x.e ∈ Es) (he' : y.e ∈ Es) (ha : s.heap.get? x.e.a = some (tupO [.float x.e.f x.e.ft, strV x.e.x])) (hb' : s.heap.get? y.e.a = some (tupO [.float y.e.f y.e.ft, strV y.e.x]))
  (hx : s.heap.get? x.a = some (tupO [.ref x.e.a, .int x.ord x.ot])) (hy : s.heap.get? y.a = some (tupO [.ref y.e.a, .int y.ord y.ot])) (ox : -60 ≤ x.ord ∧ x.ord ≤ 0) (oy : -60 ≤ y.ord ∧ y.ord ≤ 0)
  (h : Q (decide (keyH rk x < keyH rk y)) s) : wpAny (model pw w) A (keyLt' (tuples' false) (.ref x.a) (.ref y.a)) Q E s := by
 refine kat_lt hx rfl hy rfl ?_
 refine kat_cons ?_
 refine sc_eqb (by omega) NB hT hR he he' ha hb' ?_
 unfold keyH at h
 refine kat_go (fun q => ?_) (fun q => ?_)
 ·have hq := of_decide_eq_true q
  refine kat_yes (kat_cons (wpAny_eqBool_int (kat_go (fun q2 => ?_) (fun q2 => ?_))))
  ·have e1 : x.ord = y.ord := eq_of_beq q2
   rw [show decide ((rkS rk x.e : Int) * 1000 + x.ord < (rkS rk y.e : Int) * 1000 + y.ord) = false from decide_eq_false (by omega)] at h
   exact kat_yes (kat_nil h)
  ·refine kat_no (kat_one _ _ (P.lt_int ?_))
   rw [show decide ((rkS rk x.e : Int) * 1000 + x.ord < (rkS rk y.e : Int) * 1000 + y.ord) = decide (x.ord < y.ord) from decide_eq_decide.mpr (by omega)] at h
   exact h
 ·have hq := of_decide_eq_false q
  refine kat_no (kat_one _ _ (sc_lt (by omega) NB hT hR he he' ha hb' ?_))
  rw [show decide ((rkS rk x.e : Int) * 1000 + x.ord < (rkS rk y.e : Int) * 1000 + y.ord) = decide (rkS rk x.e < rkS rk y.e) from decide_eq_decide.mpr (by omega)] at h
  exact h
end
section
variable {w : World} {A : Around} {E : Value → Shared → Prop} {s : Shared} {hb : Heap} {L L' res : Addr} {T : List (Addr × Obj)} {l : List (Str × Value)} {Es : List Sc} {nr n : Nat} {tn ts : Tok} {rk : UInt64 → Str → Nat} {oL ob : Obj}
theorem hi_less {a : Addr} {Hs : List HI} {T' : List (Addr × Obj)} {l' : List (Str × Value)} {key : Value → Int} (G : Gd (KN w.params) tabs hb) (hu : A.units + 10 < cLine) (hS : SOk T' Es) (hT : TkOk Es) (hR : RkOk rk Es) (hHE : ∀ h ∈ Hs, h.e ∈ Es) (hH : HOk T' Hs) (hO : OrdOk Hs)
  (hk : ∀ h ∈ Hs, key (.ref h.a) = keyH rk h) : LessAll pw w A hb tabs L' a l' T' (refsH Hs) key s := by
 intro s' c' vs' K' S' x hx y hy E Q hq
 obtain ⟨h₁, m1, rfl⟩ := List.mem_map.mp hx
 obtain ⟨h₂, m2, rfl⟩ := List.mem_map.mp hy
 have o1 := hO _ m1
 have o2 := hO _ m2
 rw [hk _ m1, hk _ m2] at hq
 exact hi_lt (by show A.units + 1 + 2 < cLine; omega) (S'.nb G) hT hR (hHE _ m1) (hHE _ m2) (S'.obj _ (.tail _ (hS _ (hHE _ m1)))) (S'.obj _ (.tail _ (hS _ (hHE _ m2)))) (S'.obj _ (.tail _ (hH _ m1))) (S'.obj _ (.tail _ (hH _ m2))) (by omega) (by omega) hq
abbrev nlB : List Stmt := match ((fnBody (st1 pw 8))[2]?).getD default with | Stmt.If _ b _ _ => b | _ => []
structure HeapJ (rk : UInt64 → Str → Nat) (Es : List Sc) (n i : Nat) (Hs : List HI) (outs : List Sc) (ord : Int) : Prop where
 len : Hs.length = n
 sub : ∀ h ∈ Hs, h.e ∈ Es
 ords : OrdOk Hs
 perm : (Hs.map (·.e) ++ outs).Perm (Es.take i)
 heap : HeapFrom (keysH rk Hs) n 0
 below : ∀ o ∈ outs, ∀ h ∈ Hs, rkS rk o ≤ rkS rk h.e
 o0 : ord ≤ 0
 o1 : -(i : Int) ≤ ord
theorem HeapJ.least {n i : Nat} {Hs : List HI} {outs : List Sc} {ord : Int} {h₀ : HI} {r : List HI} (J : HeapJ rk Es n i (h₀ :: r) outs ord) : ∀ h ∈ h₀ :: r, rkS rk h₀.e ≤ rkS rk h.e := by
 intro h hm
 obtain ⟨j, hj, e⟩ := List.mem_iff_getElem.mp hm
 have hl := J.len
 have := heap_min J.heap j (by omega)
 unfold keysH at this
 rw [List.getElem?_eq_getElem hj, e] at this
 exact rk_of_key (J.ords _ (.head _)) (J.ords _ hm) (by simpa using this)
theorem HeapJ.skip {n i : Nat} {h₀ : HI} {r : List HI} {outs : List Sc} {ord : Int} {e : Sc} (J : HeapJ rk Es n i (h₀ :: r) outs ord) (he : Es[i]? = some e) (hle : rkS rk e ≤ rkS rk h₀.e) : HeapJ rk Es n (i + 1) (h₀ :: r) (e :: outs) ord where
 len := J.len
 sub := J.sub
 ords := J.ords
 perm := by
  rw [List.take_add_one, he]
  exact List.perm_middle.trans ((List.Perm.cons e J.perm).trans (List.perm_append_comm (l₁ := [e])))
 heap := J.heap
 below := fun o ho h hm => by
  rcases List.mem_cons.mp ho with rfl | ho
  ·exact Nat.le_trans hle (J.least (Hs := []) h hm)
  ·exact J.below o ho h hm
 o0 := J.o0
 o1 := by have := J.o1; omega
theorem HeapJ.swap {n i : Nat} {h₀ : HI} {r Hs' : List HI} {outs : List Sc} {ord : Int} {e : Sc} {new : HI} (J : HeapJ rk Es n i (h₀ :: r) outs ord) (he : Es[i]? = some e) (hlt : rkS rk h₀.e < rkS rk e) (hi : i < 60) (hne : new.e = e) (hno : new.ord = ord)
  (hp : Hs'.Perm (new :: r)) (hH : HeapFrom (keysH rk Hs') n 0) : HeapJ rk Es n (i + 1) Hs' (h₀.e :: outs) (ord - 1) := by
 have h0 := J.o0
 have h1 := J.o1
 refine ⟨by rw [hp.length_eq]; exact J.len, fun h hm => ?_, fun h hm => ?_, ?_, hH, fun o ho h hm => ?_, by omega, by omega⟩
 ·rcases List.mem_cons.mp (hp.mem_iff.mp hm) with rfl | q
  ·rw [hne]; exact List.mem_of_getElem? he
  ·exact J.sub h (.tail _ q)
 ·rcases List.mem_cons.mp (hp.mem_iff.mp hm) with rfl | q
  ·rw [hno]; omega
  ·exact J.ords h (.tail _ q)
 ·rw [List.take_add_one, he]
  have e1 : (Hs'.map (·.e)).Perm (e :: r.map (·.e)) := by
   have := hp.map (·.e)
   rw [List.map_cons, hne] at this
   exact this
  refine (e1.append_right _).trans ?_
  refine List.Perm.trans ?_ (List.perm_append_comm (l₁ := [e]))
  refine List.Perm.cons e ?_
  refine List.Perm.trans List.perm_middle ?_
  exact J.perm
 ·have hl : rkS rk h₀.e ≤ rkS rk h.e := by
   rcases List.mem_cons.mp (hp.mem_iff.mp hm) with rfl | q
   ·rw [hne]; omega
   ·exact J.least (Hs := []) h (.tail _ q)
  rcases List.mem_cons.mp ho with rfl | ho
  ·exact hl
  ·exact Nat.le_trans (J.below o ho h₀ (.head _)) hl
end
end
section
section
variable {hb h : Heap} {tabs : List Addr} {L C : Addr} {l l' : List (Str × Value)} {T : List (Addr × Obj)}
theorem St.turn {oL : Obj} (S : St hb tabs C l' ((L, oL) :: T) h) (r : FrObj oL l) : ∃ oC, FrObj oC l' ∧ St hb tabs L l ((C, oC) :: T) h := by
 obtain ⟨oC, e, rC⟩ := S.fm
 have nd := List.nodup_cons.mp S.nd
 have nd2 := List.nodup_cons.mp nd.2
 refine ⟨oC, rC, ⟨oL, S.obj _ (.head _), r⟩, S.new _ (.head _), S.keep, S.tab, fun p hp => ?_, fun p hp => ?_, ?_⟩
 ·rcases List.mem_cons.mp hp with rfl | hp
  ·exact e
  ·exact S.obj _ (.tail _ hp)
 ·rcases List.mem_cons.mp hp with rfl | hp
  ·exact S.lnew
  ·exact S.new _ (.tail _ hp)
 ·exact (List.Perm.swap _ _ _).nodup_iff.mp S.nd
end
section
variable {prog : Program} {w : World} {A : Around} {E : Value → Shared → Prop} {s : Shared} {hb : Heap} {tabs : List Addr} {env : Env} {pos spos py : Pos} {y : Str} {l l' : List (Str × Value)} {T : List (Addr × Obj)}
theorem comp_stored {C : Addr} {oL : Obj} {lC : List (Str × Value)} {D : Addr} {Q : Shared → Prop} (S : St hb tabs C lC ((env.locals, oL) :: T) s.heap) (r : FrObj oL l) (hst : Stored l y (.ref D) l')
  (h : ∀ h' tk, St hb tabs env.locals l' T h' → Q { s with heap := h', toks := tk }) (hk : env.scope.kind = .function) (hl : env.kindOf y = some .local) :
  wpAny (model prog w) A (assign (.Name y py) env (.ref D)) (fun _ s'' => ∃ m, s''.heap.Ns C m ∧ ∀ h', Heap.SameBut C s''.heap h' → Q { s'' with heap := h' }) E s := by
 obtain ⟨oC, rC, S₁⟩ := S.turn r
 refine wpAny_assign_Name (e_store S₁ hst (fun h₂ S₂ => ?_) hk hl)
 have fC : Fm h₂ C lC := ⟨oC, S₂.obj _ (.head _), rC⟩
 obtain ⟨m, hm, _, _⟩ := fC.ns
 refine ⟨m, hm, fun h' hs' => h h' _ ?_⟩
 have nd := List.nodup_cons.mp S₂.nd
 have nd2 := List.nodup_cons.mp nd.2
 refine (S₂.sub (List.sublist_cons_self _ _)).off (wr := [C]) (fun b hb' => ?_) (fun b ob hb' e => hs'.extBut b ob (fun q => hb' (by rw [q]; exact .head _)) e)
 rw [List.mem_singleton] at hb'; subst hb'
 refine ⟨S₂.new _ (.head _), fun q => ?_⟩
 rcases List.mem_cons.mp q with q | q
 ·exact nd.1 (by rw [← q]; exact .head _)
 ·exact nd2.1 q
end
section
variable {prog : Program} {w : World} {A : Around} {E : Value → Shared → Prop} {s : Shared} {R : Result → Shared → Prop} {hb : Heap} {tabs : List Addr} {env : Env} {pos spos py : Pos} {y : Str}
theorem q_compZip {l' : Addr → List (Str × Value)} {elt target iter : Expr} {scope : Scope} {rest : List Stmt} {Q : Flow → Shared → Prop} (hh : A.handled = none)
  (h : wpAny (model prog w) A (eval iter env) (fun xv s₁ => ∃ l T z TI TO ri it oi d vs nn a₀ b₀, ∃ n : Nat, xv = .ref z ∧
   St hb tabs env.locals l ((z, zipO .none TI TO) :: (TO, tupO [a₀, b₀]) :: (TI, tupO [.ref ri, .ref it]) :: (ri, rgiO 0 (n : Int) (-1)) :: (it, oi) :: T) s₁.heap ∧ (∀ D, Stored l y (.ref D) (l' D)) ∧ LitAt oi d 0 ∧ (d, lstO vs nn) ∈ T ∧ n ≤ vs.length ∧ vs.length ≤ 1000 ∧
   (∀ s' D c X oi' ps, Kp s₁ s' → St hb tabs env.locals (l' D) ((D, lstO (zrefs ps) c) :: (it, oi') :: (X ++ T)) s'.heap → ps.length = n → ZkOk X vs ps → LitAt oi' d n → wpAny (model prog w) A (execs rest env) Q E s')) E s)
  (turn : ∀ (C : Addr) Tt (s₂ : Shared) P (i : Nat) v tk (E' : Value → Shared → Prop), St hb tabs C [] Tt s₂.heap → (P, tupO [.int (-(i : Int)) tk, v]) ∈ Tt →
   wpAny (model prog w) A (assign target (compEnv scope C env) (.ref P)) (fun _ s₃ => wpAny (model prog w) A (eval elt (compEnv scope C env)) (fun y s₄ => ∃ a l', y = .ref a ∧ Kp s₂ s₄ ∧ St hb tabs C l' ((a, tupO [v, .int (-(i : Int)) tk]) :: Tt) s₄.heap) E' s₃) E' s₂)
  (hyk : env.scope.kind = .function) (hyl : env.kindOf y = some .local)
  (htgt : ∃ es k p, target = .Tuple es k p)
  (hfree : ∀ x ∈ scope.names, x.2 ≠ .free) (hcell : ∀ y ∈ scope.names, y.2 ≠ .cell) (hkind : scope.kind = .function) (hnames : ∀ x ∈ scope.names, x.2 = .local → scope.names.lookup x.1 = some .local)
  (hsw : swapsWith (.ListComp elt [⟨target, iter, [], 0⟩] scope pos) (some (.Name y py)) spos.line env = pure true := by rfl) (hs : ∀ x, foldedSetIterable iter env x = pure x := by intro _; rfl) :
  wpAny (model prog w) A (execs (.Assign [.Name y py] (.ListComp elt [⟨target, iter, [], 0⟩] scope pos) spos :: rest) env) Q E s := by
 refine wpAny_execs_cons ?_
 rw [exec_Assign_Name_used _ _ _ _ hsw]
 refine wpAny_bind (wpAny_standAt (wpAny_bind ?_))
 show wpAny _ A (do let _ ← comprehension (.ListComp elt [⟨target, iter, [], 0⟩] scope pos) scope env _ (newList []) false (eval iter env) (some (assign (.Name y py) env))) _ _ s
 refine wpAny_bind (wpAny_mono (wpAny_comprehension_use (Q := fun _ s' => wpAny (model prog w) A (execs rest env) Q E s') rfl hs hfree hkind hnames (wpAny_mono h (fun xv s₁ z => ?_) fun _ _ e => e))
  (fun _ s' hq => wpAny_pure (wpAny_pure hq)) fun _ _ e => e)
 obtain ⟨l, T, z, TI, TO, ri, it, oi, d, vs, nn, a₀, b₀, n, rfl, S, hst, hoi, hm, hn, hlen, fin⟩ := z
 refine wpAny_pyIter_zip (S.obj _ m0) ?_
 refine wpAny_newObj_type (hd := by size_fits) ?_
 have S₃ := S.push (lstO [] 0)
 refine wpAny_newFunctionEnv hcell (by intro y hy; simp at hy) (fun h₃ hn₃ hs₃ => ?_) hkind
 generalize hD : s₁.heap.objs.size = D at S₃
 generalize hC : (s₁.heap.push (lstO [] 0)).objs.size = C
 generalize hL : env.locals = L at S₃
 obtain ⟨oL, r, S₄⟩ := S₃.enter (L' := C) (l' := []) (h' := h₃) hC.symm (Fm.of_ns (by rw [← hC]; exact hn₃) (fun p hp => by cases hp) List.nodup_nil) (fun b o e => hs₃.extBut b o (Nat.ne_of_lt (Heap.lt_size e)) (Heap.get?_push_of_some _ e))
 have S₅ : St hb tabs C [] ((z, zipO .none TI TO) :: (TO, tupO [a₀, b₀]) :: (TI, tupO [.ref ri, .ref it]) :: (ri, rgiO (-((0 : Nat) : Int)) ((n : Int) - ((0 : Nat) : Int)) (-1)) :: (it, oi) :: (D, lstO (zrefs []) 0) :: (L, oL) :: ([] ++ T)) h₃ := by
  have e : rgiO (-((0 : Nat) : Int)) ((n : Int) - ((0 : Nat) : Int)) (-1) = rgiO 0 (n : Int) (-1) := by simp
  rw [e]
  exact S₄.perm (by
   exact ((List.perm_append_comm (l₁ := [(L, oL), (D, lstO [] 0)]) (l₂ := [(z, zipO .none TI TO), (TO, tupO [a₀, b₀]), (TI, tupO [.ref ri, .ref it]), (ri, rgiO 0 (n : Int) (-1)), (it, oi)])).append_right T).trans
    ((List.Perm.append_left [(z, zipO .none TI TO), (TO, tupO [a₀, b₀]), (TI, tupO [.ref ri, .ref it]), (ri, rgiO 0 (n : Int) (-1)), (it, oi)] (List.Perm.swap _ _ _)).append_right T))
 have loop : ∀ s₂ : Shared, s₂ = { s₁ with heap := h₃, toks := s₁.toks + ([] : List (Str × Value)).length } →
   codeAny (model prog w) A (.compLoop (.ListComp elt [⟨target, iter, [], 0⟩] scope pos) 0 (.ref z) (.ref D) (compEnv scope C env))
    (fun r s' => match r with
     | .ok _ => wpAny (model prog w) A (assign (.Name y py) env (.ref D)) (fun _ s'' => ∃ m, s''.heap.Ns C m ∧ ∀ h', Heap.SameBut C s''.heap h' → wpAny (model prog w) A (execs rest env) Q E { s'' with heap := h' }) E s'
     | .error x => ∃ m, s'.heap.Ns C m ∧ ∀ h', Heap.SameBut C s'.heap h' → wpAny (model prog w) A (passOn "comprehension.variables-let-go" x (compEnv scope C env)) (fun (_ : Value) s' => wpAny (model prog w) A (execs rest env) Q E s') E { s' with heap := h' }) s₂ := by
  rintro s₂ rfl
  refine compLoop_own (fun k s' => ∃ i ps c X a b oi' l', St hb tabs C l' ((z, zipO .none TI TO) :: (TO, tupO [a, b]) :: (TI, tupO [.ref ri, .ref it]) :: (ri, rgiO (-((i : Nat) : Int)) ((n : Int) - ((i : Nat) : Int)) (-1)) :: (it, oi') :: (D, lstO (zrefs ps) c) :: (L, oL) :: (X ++ T)) s'.heap ∧ ZkOk X vs ps ∧ ps.length = i ∧ LitAt oi' d i ∧ Kp s₁ s' ∧ i ≤ n ∧ k = n - i) ?_ n
   ⟨0, [], 0, [], a₀, b₀, oi, [], S₅, (fun j p e => by simp at e), rfl, hoi, ⟨rfl, id⟩, Nat.zero_le _, rfl⟩
  rintro k s' ⟨i, ps, c, X, a, b, oi', l', S', hZ, hps, hoi', hKp, hi, rfl⟩
  have hd' : (d, lstO vs nn) ∈ (D, lstO (zrefs ps) c) :: (L, oL) :: (X ++ T) := .tail _ (.tail _ (List.mem_append_right _ hm))
  by_cases hlt : i < n
  ·have hx : vs[i]? = some (vs.getD i .none) := by
    have : i < vs.length := by omega
    simp [this]
   refine zp_next S' hoi' hd' hx (by omega) fun P oi₂ h₄ ho₂ S₆ => ?_
   obtain ⟨es, kk, pp, rfl⟩ := htgt
   refine zp_go 1 S₆ rfl fun h₅ S₇ => ?_
   refine wpAny_mono (turn C _ _ P i (vs.getD i .none) s'.toks _ ((by exact S₇.forget (List.nil_sublist _)) : St hb tabs C [] _ (Shared.heap { s' with heap := h₅, toks := s'.toks + 1 })) (.head _)) (fun _ s₆ z₆ => wpAny_mono z₆ (fun y s₇ z₇ => ?_) fun _ _ e => e) fun _ _ e => e
   obtain ⟨ad, l'', rfl, K₈, S₈⟩ := z₇
   refine r_append 7 S₈ rfl ?_ (by simp [zrefs]; omega)
   intro h₉ S₉
   have e1 : (-((i : Nat) : Int)) + (-1) = -(((i + 1 : Nat)) : Int) := by omega
   have e2 : ((n : Int) - ((i : Nat) : Int)) - 1 = (n : Int) - ((i + 1 : Nat) : Int) := by omega
   have e3 : zrefs ps ++ [Value.ref ad] = zrefs (ps ++ [(ad, s'.toks)]) := by simp [zrefs]
   rw [e1, e2] at S₉
   refine ⟨n - (i + 1), by omega, i + 1, ps ++ [(ad, s'.toks)], c + 1, (ad, tupO [vs.getD i .none, .int (-(i : Int)) s'.toks]) :: (P, tupO [.int (-(i : Int)) s'.toks, vs.getD i .none]) :: X, .int (-(i : Int)) s'.toks, vs.getD i .none, oi₂, l'', S₉.perm ?_, ?_, by simp [hps], ho₂, ⟨K₈.os.trans hKp.os, fun z => K₈.gens (hKp.gens z)⟩, hlt, rfl⟩
   ·rw [← e3]
    exact ((List.perm_append_comm (l₁ := [_, _]) (l₂ := [_, _, _, _, _, _, _])).append_right (X ++ T))
   ·intro j p hj
    rcases Nat.lt_or_ge j ps.length with q | q
    ·rw [List.getElem?_append_left q] at hj
     exact .tail _ (.tail _ (hZ j p hj))
    ·rw [List.getElem?_append_right q] at hj
     have : j = ps.length := by
      have := (List.getElem?_eq_some_iff.mp hj).1
      simp at this; omega
     subst this
     simp at hj
     subst hj
     rw [hps]
     exact .head _
  ·have hin : i = n := by omega
   subst hin
   refine zp_end hh (T := (it, oi') :: (D, lstO (zrefs ps) c) :: (L, oL) :: (X ++ T)) S' (by omega) fun h₄ S₆ => ?_
   have S₇ := S₆.perm (T' := (L, oL) :: (D, lstO (zrefs ps) c) :: (it, oi') :: (X ++ T)) (by
    exact (List.perm_append_comm (l₁ := [(it, oi'), (D, lstO (zrefs ps) c)]) (l₂ := [(L, oL)])).append_right (X ++ T) |>.trans (List.Perm.cons _ (List.Perm.swap _ _ _)))
   subst hL
   exact comp_stored (s := { s' with heap := h₄ }) (by exact S₇) r (hst D) (fun h' tk S₈ => fin _ D c X oi' ps ⟨hKp.os, hKp.gens⟩ (by exact S₈) hps hZ hoi') hyk hyl
 subst hC
 subst hD
 have hz₃ : IsZip h₃ z TI TO .none := S₅.obj _ m0
 exact codeAny_compStart_list (loop _ rfl) (wpAny_pyIter_zip hz₃ (loop _ rfl))
theorem q_listcomp {l' : Addr → List (Str × Value)} {elt target iter : Expr} {scope : Scope} {rest : List Stmt} {Q : Flow → Shared → Prop} (hh : A.handled = none)
  (h : wpAny (model prog w) A (eval iter env) (fun xv s₁ => ∃ l T d vs n, ∃ J : Nat → List Value → List (Addr × Obj) → Prop, xv = .ref d ∧ St hb tabs env.locals l T s₁.heap ∧ (∀ D, Stored l y (.ref D) (l' D)) ∧ (d, lstO vs n) ∈ T ∧ vs.length ≤ 1000 ∧ J 0 [] [] ∧
   (∀ C D oL E' i v acc c X own s₂, vs[i]? = some v → acc.length = i → J i acc X → FrObj oL l → Kp s₁ s₂ → St hb tabs C [] ((D, lstO acc c) :: (X ++ ((env.locals, oL) :: T)) ++ own) s₂.heap →
    wpAny (model prog w) A (assign target (compEnv scope C env) v) (fun _ s₃ => wpAny (model prog w) A (eval elt (compEnv scope C env)) (fun y s₄ => ∃ X' l'', Kp s₁ s₄ ∧ St hb tabs C l'' ((D, lstO acc c) :: (X' ++ ((env.locals, oL) :: T)) ++ own) s₄.heap ∧ J (i + 1) (acc ++ [y]) X') E' s₃) E' s₂) ∧
   (∀ s' D acc c X, Kp s₁ s' → St hb tabs env.locals (l' D) ((D, lstO acc c) :: (X ++ T)) s'.heap → acc.length = vs.length → J vs.length acc X → wpAny (model prog w) A (execs rest env) Q E s')) E s)
  (hyk : env.scope.kind = .function) (hyl : env.kindOf y = some .local)
  (htgt : (∃ y p, target = .Name y p) ∨ ∃ es k p, target = .Tuple es k p)
  (hfree : ∀ x ∈ scope.names, x.2 ≠ .free) (hcell : ∀ y ∈ scope.names, y.2 ≠ .cell) (hkind : scope.kind = .function) (hnames : ∀ x ∈ scope.names, x.2 = .local → scope.names.lookup x.1 = some .local)
  (hsw : swapsWith (.ListComp elt [⟨target, iter, [], 0⟩] scope pos) (some (.Name y py)) spos.line env = pure true := by rfl) (hs : ∀ x, foldedSetIterable iter env x = pure x := by intro _; rfl) :
  wpAny (model prog w) A (execs (.Assign [.Name y py] (.ListComp elt [⟨target, iter, [], 0⟩] scope pos) spos :: rest) env) Q E s := by
 refine wpAny_execs_cons ?_
 rw [exec_Assign_Name_used _ _ _ _ hsw]
 refine wpAny_bind (wpAny_standAt (wpAny_bind ?_))
 show wpAny _ A (do let _ ← comprehension (.ListComp elt [⟨target, iter, [], 0⟩] scope pos) scope env _ (newList []) false (eval iter env) (some (assign (.Name y py) env))) _ _ s
 refine wpAny_bind (wpAny_mono (wpAny_comprehension_use (Q := fun _ s' => wpAny (model prog w) A (execs rest env) Q E s') rfl hs hfree hkind hnames (wpAny_mono h (fun xv s₁ z => ?_) fun _ _ e => e))
  (fun _ s' hq => wpAny_pure (wpAny_pure hq)) fun _ _ e => e)
 obtain ⟨l, T, d, vs, n, J, rfl, S, hst, hm, hlen, hJ0, step, fin⟩ := z
 refine r_iterLO S hm fun I o Wt fp h₂ IV hown hw S₂ => ?_
 refine wpAny_newObj_type (hd := by size_fits) ?_
 have S₃ := S₂.push (lstO [] 0)
 refine wpAny_newFunctionEnv hcell (by intro y hy; simp at hy) (fun h₃ hn₃ hs₃ => ?_) hkind
 generalize hD : h₂.objs.size = D at S₃
 generalize hC : (h₂.push (lstO [] 0)).objs.size = C
 generalize hL : env.locals = L at S₃ step
 obtain ⟨oL, r, S₄⟩ := S₃.enter (L' := C) (l' := []) (h' := h₃) hC.symm (Fm.of_ns (by rw [← hC]; exact hn₃) (fun p hp => by cases hp) List.nodup_nil) (fun b o e => hs₃.extBut b o (Nat.ne_of_lt (Heap.lt_size e)) (Heap.get?_push_of_some _ e))
 have W := IV.walks A hh
 have how0 : ([(I, o)] : List (Addr × Obj)).map (·.1) = [I] := rfl
 have hw₃ : Wt 0 h₃ := W.frame _ _ _ hw fun b hb' ob e => hs₃.extBut b ob (Nat.ne_of_lt (Heap.lt_size (Heap.get?_push_of_some _ e))) (Heap.get?_push_of_some _ (Heap.get?_push_of_some _ e))
 have S₅ : St hb tabs C [] ((D, lstO [] 0) :: ([] ++ ((L, oL) :: T)) ++ [(I, o)]) h₃ := S₄.perm (by
  rw [List.nil_append]
  exact ((List.perm_append_comm (l₁ := [(L, oL)]) (l₂ := [(D, lstO [] 0)])).append_right (T ++ [(I, o)])))
 have loop : ∀ s₂ : Shared, s₂ = { s₁ with heap := h₃, toks := s₁.toks + ([] : List (Str × Value)).length } →
   codeAny (model prog w) A (.compLoop (.ListComp elt [⟨target, iter, [], 0⟩] scope pos) 0 (.ref I) (.ref D) (compEnv scope C env))
    (fun r s' => match r with
     | .ok _ => wpAny (model prog w) A (assign (.Name y py) env (.ref D)) (fun _ s'' => ∃ m, s''.heap.Ns C m ∧ ∀ h', Heap.SameBut C s''.heap h' → wpAny (model prog w) A (execs rest env) Q E { s'' with heap := h' }) E s'
     | .error x => ∃ m, s'.heap.Ns C m ∧ ∀ h', Heap.SameBut C s'.heap h' → wpAny (model prog w) A (passOn "comprehension.variables-let-go" x (compEnv scope C env)) (fun (_ : Value) s' => wpAny (model prog w) A (execs rest env) Q E s') E { s' with heap := h' }) s₂ := by
  rintro s₂ rfl
  refine compLoop_own (fun k s' => ∃ i acc c X own l'', own.map (·.1) = [I] ∧ St hb tabs C l'' ((D, lstO acc c) :: (X ++ ((L, oL) :: T)) ++ own) s'.heap ∧ Wt i s'.heap ∧ J i acc X ∧ acc.length = i ∧ Kp s₁ s' ∧ i ≤ vs.length ∧ k = vs.length - i) ?_ vs.length ⟨0, [], 0, [], [(I, o)], [], rfl, S₅, hw₃, hJ0, rfl, ⟨rfl, id⟩, Nat.zero_le _, rfl⟩
  rintro k s' ⟨i, acc, c, X, own, lc, how, S', hw', hJ, hacc, hKp, hi, rfl⟩
  by_cases hlt : i < vs.length
  ·refine W.item i _ _ _ hlt hw' fun v h₄ tk₄ hP hw₄ hk₄ => ?_
   obtain ⟨own₂, e₂, S₆⟩ := S'.moved (h' := h₄) (fun b ob hb' e => hk₄ b ob (how ▸ hb') e) (fun b hb' => by rw [how, List.mem_singleton] at hb'; subst hb'; exact IV.ex _ _ hw₄)
   have go : ∀ {E' : Value → Shared → Prop}, wpAny (model prog w) A (assign target (compEnv scope C env) v) (fun _ s₂ => wpAny (model prog w) A (eval elt (compEnv scope C env)) (fun x s₃ =>
     wpAny (model prog w) A (call (.builtin "list.append") [.ref D, x]) (fun _ s₄ => ∃ m, m < vs.length - i ∧ ∃ i acc c X own l'', own.map (·.1) = [I] ∧ St hb tabs C l'' ((D, lstO acc c) :: (X ++ ((L, oL) :: T)) ++ own) s₄.heap ∧ Wt i s₄.heap ∧ J i acc X ∧ acc.length = i ∧ Kp s₁ s₄ ∧ i ≤ vs.length ∧ m = vs.length - i) E' s₃)
     E' s₂) E' { s' with heap := h₄, toks := tk₄ } := by
    intro E'
    refine wpAny_mono (step C D oL _ i v acc c X own₂ { s' with heap := h₄, toks := tk₄ } hP hacc hJ r ⟨hKp.os, hKp.gens⟩ (S₆.forget (List.nil_sublist _))) (fun _ s₆ h₆ => wpAny_mono h₆ (fun y s₇ h₇ => ?_) fun _ _ e => e) fun _ _ e => e
    obtain ⟨X', lc', K₇, S₇, hJ₇⟩ := h₇
    refine r_append 0 S₇ rfl ?_ (by omega)
    intro h₈ S₈
    refine ⟨vs.length - (i + 1), by omega, i + 1, acc ++ [y], c + 1, X', own₂, lc', e₂.trans how, S₈, W.frame _ _ _ hw₄ fun b hb' ob e => ?_, hJ₇, by simp [hacc], ⟨K₇.os, K₇.gens⟩, hlt, rfl⟩
    by_cases q : b ∈ [I]
    ·have : b ∈ own₂.map (·.1) := by rw [e₂, how]; exact q
     obtain ⟨p, hp, rfl⟩ := List.mem_map.mp this
     have e1 : h₄.get? p.1 = some p.2 := S₆.obj p (List.mem_append_right _ hp)
     have e2 := S₈.obj p (List.mem_append_right ((D, lstO (acc ++ [y]) (c + 1)) :: (X' ++ ((L, oL) :: T))) hp)
     rw [e1] at e
     rw [← e]; exact e2
    ·rcases IV.ro b hb' q with ⟨o', ho'⟩ | ⟨o', ho', hnt⟩
     ·rw [List.mem_singleton] at ho'
      have hbm : (b, o') ∈ T := by rw [ho']; exact hm
      have e1 : h₄.get? b = some o' := S₆.obj (b, o') (List.mem_append_left _ (.tail _ (List.mem_append_right _ (.tail _ hbm))))
      rw [e1] at e
      rw [← e]; exact S₈.obj (b, o') (List.mem_append_left own₂ (List.Mem.tail (D, lstO (acc ++ [y]) (c + 1)) (List.mem_append_right X' (.tail _ hbm))))
     ·have e1 : h₄.get? b = some o' := S₆.keep _ _ ho' hnt
      rw [e1] at e
      rw [← e]; exact S₈.keep _ _ ho' hnt
   rcases htgt with ⟨y, p, rfl⟩ | ⟨es, k, p, rfl⟩
   ·exact wpAny_of_eq (a := ()) rfl go
   ·exact hown _ _ _ _ _ _ _ _ _ hw₄ go
  ·have hin : i = vs.length := by omega
   subst hin
   refine W.done _ _ _ hw' fun h₄ tk₄ hk₄ => ?_
   have S₆ := S'.drop (h' := h₄) fun b ob hb' e => hk₄ b ob (how ▸ hb') e
   have S₇ := S₆.perm (T' := (L, oL) :: (D, lstO acc c) :: (X ++ T)) (by
    exact List.perm_middle (l₁ := (D, lstO acc c) :: X))
   subst hL
   exact comp_stored (s := { s' with heap := h₄, toks := tk₄ }) (by exact S₇) r (hst D) (fun h' tk S₈ => fin _ D acc c X ⟨hKp.os, hKp.gens⟩ (by exact S₈) hacc hJ) hyk hyl
 subst hC
 subst hD
 exact codeAny_compStart_list (loop _ rfl) (W.self 0 _ _ _ hw₃ (loop _ rfl))
end
end
section
open PySem.Spec
def mkH : List (Addr × Tok) → List Sc → Nat → List HI
 | p :: ps, e :: es, j => ⟨p.1, e, -(j : Int), p.2⟩ :: mkH ps es (j + 1)
 | _, _, _ => []
theorem mkH_refs : ∀ (ps : List (Addr × Tok)) (es : List Sc) (j : Nat), ps.length ≤ es.length → refsH (mkH ps es j) = zrefs ps
 | [], _, _, _ => by unfold mkH; rfl
 | p :: ps, [], _, h => by simp at h
 | p :: ps, e :: es, j, h => by
  have := mkH_refs ps es (j + 1) (by simpa using h)
  show Value.ref p.1 :: refsH (mkH ps es (j + 1)) = .ref p.1 :: zrefs ps
  rw [this]
theorem mkH_es : ∀ (ps : List (Addr × Tok)) (es : List Sc) (j : Nat), ps.length ≤ es.length → (mkH ps es j).map (·.e) = es.take ps.length
 | [], _, _, _ => by unfold mkH; rfl
 | p :: ps, [], _, h => by simp at h
 | p :: ps, e :: es, j, h => by
  have := mkH_es ps es (j + 1) (by simpa using h)
  show e :: (mkH ps es (j + 1)).map (·.e) = e :: es.take ps.length
  rw [this]
theorem mkH_ord : ∀ (ps : List (Addr × Tok)) (es : List Sc) (j : Nat), ∀ h ∈ mkH ps es j, -((j : Int) + ps.length) ≤ h.ord ∧ h.ord ≤ 0
 | [], _, _, h, hm => by unfold mkH at hm; cases hm
 | p :: ps, [], _, h, hm => by unfold mkH at hm; cases hm
 | p :: ps, e :: es, j, h, hm => by
  rcases List.mem_cons.mp hm with rfl | hm
  ·constructor
   ·show -((j : Int) + (p :: ps).length) ≤ -(j : Int)
    simp only [List.length_cons]; omega
   ·show -(j : Int) ≤ 0
    omega
  ·have := mkH_ord ps es (j + 1) h hm
   simp only [List.length_cons]
   omega
theorem mkH_ok {X : List (Addr × Obj)} : ∀ (ps : List (Addr × Tok)) (es : List Sc) (j : Nat), (∀ k p, ps[k]? = some p → (p.1, tupO [(refsS es).getD k .none, .int (-(((j + k : Nat)) : Int)) p.2]) ∈ X) → HOk X (mkH ps es j)
 | [], _, _, _ => fun h hm => by unfold mkH at hm; cases hm
 | p :: ps, [], _, _ => fun h hm => by unfold mkH at hm; cases hm
 | p :: ps, e :: es, j, hX => fun h hm => by
  rcases List.mem_cons.mp hm with rfl | hm
  ·exact hX 0 p rfl
  ·refine mkH_ok ps es (j + 1) (fun k q hq => ?_) h hm
   have := hX (k + 1) q (by simpa using hq)
   have e1 : j + (k + 1) = j + 1 + k := by omega
   rw [e1] at this
   exact this
section
variable {w : World} {A : Around} {E : Value → Shared → Prop} {s : Shared} {hb : Heap} {L L' res : Addr} {T : List (Addr × Obj)} {l : List (Str × Value)} {Es : List Sc} {nr n : Nat} {tn ts : Tok} {rk : UInt64 → Str → Nat} {oL ob : Obj}
abbrev nmH (L' res I D : Addr) (n sz : Nat) (tn ts : Tok) : List (Str × Value) := [(Str.ofString "result", .ref D), (Str.ofString "it", .ref I), (Str.ofString "size", .int sz ts), (Str.ofString "n", .int n tn), (Str.ofString "iterable", .ref res)]
theorem nl_heapA (G : Gd (KN w.params) tabs hb) (hd : A.depth + 10 < recursionLimit) (hu : A.units + 100 < cLine) (hh : A.handled = none) (hm : (res, lstO (refsS Es) nr) ∈ T) (hS : SOk T Es) (hT : TkOk Es) (hl : Es.length ≤ 60) (hR : RkOk rk Es)
  (hn0 : 0 < n) (hn : n < Es.length) (hob : ob.data = .cell (some .none)) {Q : Flow → Shared → Prop}
  (S : St hb tabs L' [(Str.ofString "size", .int Es.length ts), (Str.ofString "n", .int n tn), (Str.ofString "iterable", .ref res)] ((L' + 1, ob) :: (L, oL) :: T) s.heap)
  (k : ∀ (s' : Shared) (X : List (Addr × Obj)) (I D : Addr) (oi : Obj) (c : Nat) (Hs : List HI) {Q' : Flow → Shared → Prop}, (∀ f s', (match f with | .next => False | f => Q f s') → Q' f s') → Kp s s' → LitAt oi res n → HOk X Hs → HeapJ rk Es n n Hs [] (-(n : Int)) →
   St hb tabs L' (nmH L' res I D n Es.length tn ts) ((D, lstO (refsH Hs) c) :: (I, oi) :: (X ++ ((L' + 1, ob) :: (L, oL) :: T))) s'.heap →
   wpAny (model pw w) (A.deeper (ev280 w L')) (execs (nlB.drop 4) (ev280 w L')) Q' E s') :
  wpAny (model pw w) (A.deeper (ev280 w L')) (execs ((fnBody (st1 pw 8)).drop 2) (ev280 w L')) Q E s := by
 refine q_if ?_
 refine wpAny_isTrue_Compare1 ?_
 refine e_cell S (.head _) hob ?_
 refine wpAny_Constant_none ?_
 refine is_none ?_
 refine wpAny_truthy_bool ⟨fun _ => ?_, nofun⟩
 refine q_assign ?_
 refine r_call ?_
 refine e_builtin G S boot_iter' ?_
 refine cw_builtin ?_
 refine args_cons ?_
 refine e_local (env := callEnvC (fd280 w.params) L' 280) S m2 ?_
 refine args_nil ?_
 refine r_iterB S (.tail _ (.tail _ hm)) ?_
 intro I h₁ S₁
 refine e_store (env := callEnvC (fd280 w.params) L' 280) (by exact S₁) (.new (by kernel_rfl)) ?_
 intro h₂ S₂
 have hrf := rng_facts ⟨n, by omega⟩
 refine q_compZip (l' := fun D => nmH L' res I D n Es.length tn ts) (hb := hb) (tabs := tabs) hh ?_ ?turn rfl rfl ⟨_, _, _, rfl⟩ (by decide) (by decide) rfl (by decide)
 case turn =>
  intro C Tt s₃ P i v tk E' S₃ hP
  refine as_tuple hh S₃ hP ?_
  intro h₄ S₄
  refine as_each ?_
  refine e_store (env := compEnv _ C _) (by exact S₄) (.new (by kernel_rfl)) ?_
  intro h₅ S₅
  refine as_each ?_
  refine e_store (env := compEnv _ C _) (by exact S₅) (.new (by kernel_rfl)) ?_
  intro h₆ S₆
  refine as_none ?_
  refine r_tuple ?_
  refine args_cons ?_
  refine e_local (env := compEnv _ C _) (by exact S₆) m0 ?_
  refine args_cons ?_
  refine e_local (env := compEnv _ C _) (by exact S₆) m1 ?_
  refine args_nil ?_
  refine ⟨rfl, _, _, _, _, _, S₆, ?_⟩
  intro a h₇ S₇
  exact ⟨a, _, rfl, ⟨rfl, id⟩, S₇⟩
 refine r_call ?_
 refine e_builtin G S₂ boot_zip' ?_
 refine cw_type ?_
 refine args_cons ?_
 refine r_call ?_
 refine e_builtin G S₂ boot_range ?_
 refine cw_type ?_
 refine args_cons ?_
 refine wpAny_Constant_int ?_
 refine args_cons ?_
 refine UnaryOp_ ?_
 refine e_local (env := callEnvC (fd280 w.params) L' 280) (by exact S₂) m2 ?_
 refine P.neg_int ?_
 refine args_cons ?_
 refine UnaryOp_ ?_
 refine wpAny_Constant_int ?_
 refine P.neg_int ?_
 refine args_nil ?_
 refine r_range3 S₂ (by decide) (PyProof.noPylong_small (by decide)) ?_
 intro r h₃ S₃
 refine args_cons ?_
 refine e_local (env := callEnvC (fd280 w.params) L' 280) (by exact S₃) m0 ?_
 refine args_nil ?_
 refine zp_new (d := res) (i := 0) S₃ m0 m1 ⟨rfl, rfl⟩ hrf.1 ?_
 intro z TI TO ri h₄ S₄
 rw [hrf.2] at S₄
 obtain ⟨ro, S₅⟩ : ∃ ro : Obj, St hb tabs L' [(Str.ofString "it", .ref I), (Str.ofString "size", .int Es.length ts), (Str.ofString "n", .int n tn), (Str.ofString "iterable", .ref res)] ((z, zipO .none TI TO) :: (TO, tupO [.none, .none]) :: (TI, tupO [.ref ri, .ref I]) :: (ri, rgiO 0 (n : Int) (-1)) :: (I, litO res 0) :: ((r, ro) :: (L' + 1, ob) :: (L, oL) :: T)) h₄ :=
  ⟨_, S₄.perm (List.Perm.cons _ (List.Perm.cons _ (List.Perm.cons _ (List.Perm.cons _ (List.Perm.swap _ _ _)))))⟩
 refine ⟨_, _, z, TI, TO, ri, I, litO res 0, res, refsS Es, nr, .none, .none, n, rfl, S₅, (fun D => .new (by kernel_rfl)), ⟨rfl, rfl⟩, (.tail _ (.tail _ (.tail _ hm))), by rw [refsS_len]; omega, by rw [refsS_len]; omega, ?_⟩
 intro s₆ D c X oi' ps K₆ S₆ hps hZ hoi'
 replace K₆ : Kp s s₆ := ⟨K₆.os, K₆.gens⟩
 have hpl : ps.length ≤ Es.length := by omega
 have hHr := mkH_refs ps Es 0 hpl
 have hHe := mkH_es ps Es 0 hpl
 have hHo := mkH_ord ps Es 0
 have hHk : HOk X (mkH ps Es 0) := mkH_ok ps Es 0 fun k p hp => by
  rw [Nat.zero_add]
  exact hZ k p hp
 rw [← hHr] at S₆
 generalize mkH ps Es 0 = Hs at S₆ hHr hHe hHo hHk
 have hHl : Hs.length = n := by
  have := congrArg List.length hHr
  rw [refsH_len] at this
  simpa [zrefs, hps] using this
 have hHE : ∀ h ∈ Hs, h.e ∈ Es := fun h hm => by
  have : h.e ∈ Hs.map (·.e) := List.mem_map.mpr ⟨h, hm, rfl⟩
  rw [hHe] at this
  exact List.mem_of_mem_take this
 have hO : OrdOk Hs := fun h hm => by
  have := hHo h hm
  omega
 refine q_if ?_
 refine isTrue_not ?_
 refine isTrue_plain ?_
 refine e_local (env := callEnvC (fd280 w.params) L' 280) (by exact S₆) m0 ?_
 refine r_truthL S₆ m0 (by rw [refsH_len]; omega) fun tk => ⟨fun hb' => ?_, fun hb' => ?_⟩
 ·exfalso
  have e1 : refsH Hs = [] := by simpa using hb'
  have : (refsH Hs).length = 0 := by rw [e1]; rfl
  rw [refsH_len] at this
  omega
 refine q_nil ?_
 refine q_expr ?_
 refine r_call ?_
 refine e_global G (by exact S₆) (v := .builtin "_heapq.heapify") (by kernel_rfl) ?_
 refine cw_builtin ?_
 refine args_cons ?_
 refine e_local (env := callEnvC (fd280 w.params) L' 280) (by exact S₆) m0 ?_
 refine args_nil ?_
 have hSX : SOk ((I, oi') :: (X ++ ((r, ro) :: (L' + 1, ob) :: (L, oL) :: T))) Es := hS.mono fun p hp => .tail _ (List.mem_append_right _ (.tail _ (.tail _ (.tail _ hp))))
 have hHX : HOk ((I, oi') :: (X ++ ((r, ro) :: (L' + 1, ob) :: (L, oL) :: T))) Hs := fun h hm => .tail _ (List.mem_append_left _ (hHk h hm))
 have hkey : ∀ h ∈ Hs, keyOf rk Hs (.ref h.a) = keyH rk h := fun h hm => keyOf_at (fun h hm => S₆.obj _ (.tail _ (hHX h hm))) (fun e he => S₆.obj _ (.tail _ (hSX e he))) hHE hm
 refine r_heapify (key := keyOf rk Hs) (by exact S₆) (by rw [refsH_len]; omega) (hi_less G (by show A.units + 3 + 10 < cLine; omega) hSX hT hR hHE hHX hO hkey) ?_
 intro s₇ vs' c' K₇ hp₇ hh₇ S₇
 obtain ⟨Hs', rfl, hp'⟩ := perm_map_inv _ hp₇
 have hkey' : ∀ h ∈ Hs', keyOf rk Hs (.ref h.a) = keyH rk h := fun h hm => hkey h (hp'.mem_iff.mp hm)
 rw [refsH_len] at hh₇
 have hl' : Hs'.length = n := by rw [hp'.length_eq]; exact hHl
 refine k s₇ (X ++ [(r, ro)]) I D oi' c' Hs' (fun f s' z => by cases f <;> first | exact z | exact z.elim) ⟨K₇.os.trans K₆.os, fun z => K₇.gens (K₆.gens z)⟩ hoi' (fun h hm => List.mem_append_left _ (hHk h (hp'.mem_iff.mp hm))) ⟨hl', fun h hm => hHE h (hp'.mem_iff.mp hm), fun h hm => hO h (hp'.mem_iff.mp hm), ?_, ?_, (fun o ho => by cases ho), by omega, by omega⟩ ?_
 ·rw [List.append_nil, ← hps, ← hHe]
  exact hp'.map _
 ·rw [← hHl]
  exact hh₇.congr fun i hi => keyAt_keysH hkey' (by omega)
 ·rw [List.append_assoc]
  exact S₇
end
end
section
open PySem.Spec
section
variable {prog : Program} {w : World} {A : Around} {E : Value → Shared → Prop} {s : Shared} {hb : Heap} {tabs : List Addr} {L d : Addr} {l : List (Str × Value)} {T : List (Addr × Obj)} {vs : List Value} {n : Nat} {env : Env}
theorem gi_list0 {t : Tok} {x : Value} {Q : Value → Shared → Prop} (S : St hb tabs L l T s.heap) (hm : (d, lstO (x :: vs) n) ∈ T) (hz : vs.length ≤ 900) (h : Q x s) : wpAny (model prog w) A (getItem (.ref d) (.int 0 t)) Q E s :=
 gi_list (k := 0) S hm (by simp; omega) rfl h
theorem gi_tuple0 {t : Tok} {x : Value} {Q : Value → Shared → Prop} (S : St hb tabs L l T s.heap) (hm : (d, tupO (x :: vs)) ∈ T) (hz : vs.length ≤ 900) (h : Q x s) : wpAny (model prog w) A (getItem (.ref d) (.int 0 t)) Q E s :=
 gi_tuple (k := 0) S hm (by simp; omega) rfl h
theorem e_load {x : Str} {v : Value} {Q : Value → Shared → Prop} (S : St hb tabs env.locals l T s.heap) (hv : (x, v) ∈ l) (h : Q v s)
  (hk : env.scope.kind = .function := by rfl) (hl : env.kindOf x = some .local := by rfl) : wpAny (model prog w) A (loadName env x) Q E s := by
 obtain ⟨m, a, b, _⟩ := S.fm.ns
 exact wpAny_loadName_local hk hl a (b _ hv) h
theorem q_exprAny {e : Expr} {pos : Pos} {rest : List Stmt} {Q : Flow → Shared → Prop} (h : wpAny (model prog w) A (eval e env) (fun _ s' => wpAny (model prog w) A (execs rest env) Q E s') E s)
  (hi : interactive env = false := by rfl) (hs : swapsWith e none pos.line env = pure false := by rfl) : wpAny (model prog w) A (execs (.Expr e pos :: rest) env) Q E s :=
 wpAny_execs_cons (wpAny_Expr_any h hi hs)
end
section
variable {w : World} {A : Around} {E : Value → Shared → Prop} {s : Shared} {hb : Heap} {L L' res I D : Addr} {T T₂ X : List (Addr × Obj)} {l : List (Str × Value)} {Es : List Sc} {nr n i c : Nat} {tn ts : Tok} {rk : UInt64 → Str → Nat} {Hs : List HI} {oi : Obj} {outs : List Sc} {ord : Int} {to : Tok} {h₀ : HI} {r : List HI}
abbrev nmH2 (L' res I D : Addr) (n sz : Nat) (tn ts : Tok) (tp : Addr) (ord : Int) (to : Tok) : List (Str × Value) := (Str.ofString "_heapreplace", .builtin "_heapq.heapreplace") :: (Str.ofString "order", .int ord to) :: (Str.ofString "top", .ref tp) :: nmH L' res I D n sz tn ts
theorem heap_turn (G : Gd (KN w.params) tabs hb) (hu : A.units + 100 < cLine) (hh : A.handled = none) (hS : SOk T₂ Es) (hT : TkOk Es) (hR : RkOk rk Es) (hi : i < 60) {e : Sc} (he : Es[i]? = some e) (hl : Es.length ≤ 60) (hnl : n ≤ 60)
  (J : HeapJ rk Es n i (h₀ :: r) outs ord) (hH : HOk X (h₀ :: r)) {oi' : Obj} (S : St hb tabs L' (nmH2 L' res I D n Es.length tn ts h₀.e.a ord to) ((I, oi') :: (D, lstO (refsH (h₀ :: r)) c) :: (X ++ T₂)) s.heap) {Q : Flow → Shared → Prop}
  (k : ∀ s' X' c' h' r' outs' ord' to', Kp s s' → HeapJ rk Es n (i + 1) (h' :: r') outs' ord' → HOk (X' ++ X) (h' :: r') → St hb tabs L' (nmH2 L' res I D n Es.length tn ts h'.e.a ord' to') ((I, oi') :: (D, lstO (refsH (h' :: r')) c') :: (X' ++ X ++ T₂)) s'.heap → Q .next s')
  {tgt : Expr} (htg : tgt = (match (nlB[7]?).getD default with | .For t _ _ _ _ => t | _ => default)) :
  wpAny (model pw w) (A.deeper (ev280 w L')) (assign tgt (ev280 w L') (.ref e.a)) (fun _ s₂ => wpAny (model pw w) (A.deeper (ev280 w L')) (execs (forBody ((nlB[7]?).getD default)) (ev280 w L')) Q E s₂) E s := by
 subst htg
 have heE : e ∈ Es := List.mem_of_getElem? he
 have hrl : r.length + 1 = n := J.len
 refine as_name ?_
 refine e_store (env := callEnvC (fd280 w.params) L' 280) S (.new (by kernel_rfl)) ?_
 intro h₁ S₁
 have hSX : SOk ((I, oi') :: (X ++ T₂)) Es := hS.mono fun p hp => .tail _ (List.mem_append_right _ hp)
 have hHX : HOk ((I, oi') :: (X ++ T₂)) (h₀ :: r) := fun h hm => .tail _ (List.mem_append_left _ (hH h hm))
 have hSY : ∀ e ∈ Es, (e.a, tupO [.float e.f e.ft, strV e.x]) ∈ (I, oi') :: (D, lstO (refsH (h₀ :: r)) c) :: (X ++ T₂) := fun e he => .tail _ (.tail _ (List.mem_append_right _ (hS e he)))
 refine q_if ?_
 refine wpAny_isTrue_Compare1 ?_
 refine e_local (env := callEnvC (fd280 w.params) L' 280) (by exact S₁) m3 ?_
 refine e_local (env := callEnvC (fd280 w.params) L' 280) (by exact S₁) m0 ?_
 have h0E := J.sub h₀ (.head _)
 refine sc_lt (by show A.units + 3 < cLine; omega) (S₁.nb G) hT hR h0E heE (S₁.obj _ (hSY _ h0E)) (S₁.obj _ (hSY _ heE)) ?_
 refine wpAny_truthy_bool ⟨fun q => ?_, fun q => ?_⟩
 ·have hlt := of_decide_eq_true q
  refine q_exprAny ?_
  refine r_call ?_
  refine e_local (env := callEnvC (fd280 w.params) L' 280) (by exact S₁) m1 ?_
  refine cw_builtin ?_
  refine args_cons ?_
  refine e_local (env := callEnvC (fd280 w.params) L' 280) (by exact S₁) m4 ?_
  refine args_cons ?_
  refine r_tuple ?_
  refine args_cons ?_
  refine e_local (env := callEnvC (fd280 w.params) L' 280) (by exact S₁) m0 ?_
  refine args_cons ?_
  refine e_local (env := callEnvC (fd280 w.params) L' 280) (by exact S₁) m2 ?_
  refine args_nil ?_
  refine ⟨rfl, _, _, _, _, _, S₁, ?_⟩
  intro na h₂ S₂
  refine args_nil ?_
  have S₃ := S₂.perm (T' := (D, lstO (refsH (h₀ :: r)) c) :: (na, tupO [.ref e.a, .int ord to]) :: (I, oi') :: (X ++ T₂)) (List.perm_append_comm (l₁ := [(na, tupO [.ref e.a, .int ord to]), (I, oi')]) (l₂ := [(D, lstO (refsH (h₀ :: r)) c)]) |>.append_right (X ++ T₂))
  generalize hnew : (⟨na, e, ord, to⟩ : HI) = new
  have hne : new.e = e := by rw [← hnew]
  have hna : new.a = na := by rw [← hnew]
  have hno : new.ord = ord := by rw [← hnew]
  have hnt : new.ot = to := by rw [← hnew]
  have hHE : ∀ h ∈ new :: h₀ :: r, h.e ∈ Es := fun h hm => by
   rcases List.mem_cons.mp hm with rfl | hm
   ·rw [hne]; exact heE
   ·exact J.sub h hm
  have o0 := J.o0
  have o1 := J.o1
  have hO : OrdOk (new :: h₀ :: r) := fun h hm => by
   rcases List.mem_cons.mp hm with rfl | hm
   ·rw [hno]; omega
   ·exact J.ords h hm
  have hSX' : SOk ((na, tupO [.ref e.a, .int ord to]) :: (I, oi') :: (X ++ T₂)) Es := hSX.mono fun p hp => .tail _ hp
  have hHX' : HOk ((na, tupO [.ref e.a, .int ord to]) :: (I, oi') :: (X ++ T₂)) (new :: h₀ :: r) := fun h hm => by
   rcases List.mem_cons.mp hm with rfl | hm
   ·rw [hne, hna, hno, hnt]; exact .head _
   ·exact .tail _ (hHX h hm)
  have hkey : ∀ h ∈ new :: h₀ :: r, keyOf rk (new :: h₀ :: r) (.ref h.a) = keyH rk h := fun h hm => keyOf_at (fun h hm => S₃.obj _ (.tail _ (hHX' h hm))) (fun e he => S₃.obj _ (.tail _ (hSX' e he))) hHE hm
  have hsub : ∀ h ∈ new :: r, h ∈ new :: h₀ :: r := fun h hm => by
   rcases List.mem_cons.mp hm with rfl | hm
   ·exact .head _
   ·exact .tail _ (.tail _ hm)
  have eN : refsH (new :: r) = .ref na :: refsH r := by rw [← hna]; rfl
  refine r_heapreplace (first := .ref h₀.a) (rest := refsH r) (key := keyOf rk (new :: h₀ :: r)) (by exact S₃) (by simp [refsH]; omega) (by
   rw [← eN]
   exact hi_less G (by show A.units + 3 + 10 < cLine; omega) hSX' hT hR (fun h hm => hHE h (hsub h hm)) (fun h hm => hHX' h (hsub h hm)) (fun h hm => hO h (hsub h hm)) (fun h hm => hkey h (hsub h hm))) (by
   have e1 : (Value.ref h₀.a :: refsH r) = refsH (h₀ :: r) := rfl
   rw [e1, refsH_len, show (h₀ :: r).length = n from J.len]
   exact J.heap.congr fun j hj => (keyAt_keysH (fun h hm => hkey h (.tail _ hm)) (by rw [show (h₀ :: r).length = n from J.len]; exact hj)).symm) ?_
  intro s₄ vs' c' K₄ hp₄ hh₄ S₄
  rw [← eN] at hp₄ hh₄
  obtain ⟨Hs', rfl, hp'⟩ := perm_map_inv _ hp₄
  have hl' : Hs'.length = n := by rw [hp'.length_eq]; exact J.len
  have hkey' : ∀ h ∈ Hs', keyOf rk (new :: h₀ :: r) (.ref h.a) = keyH rk h := fun h hm => hkey h (hsub h (hp'.mem_iff.mp hm))
  rw [refsH_len, show (new :: r).length = n from J.len] at hh₄
  have hheap : HeapFrom (keysH rk Hs') n 0 := hh₄.congr fun j hj => keyAt_keysH hkey' (by omega)
  have J' := J.swap he hlt hi hne hno hp' hheap
  have hHX'' : HOk ((na, tupO [.ref e.a, .int ord to]) :: (I, oi') :: (X ++ T₂)) Hs' := fun h hm => hHX' h (hsub h (hp'.mem_iff.mp hm))
  have hHk : HOk ((na, tupO [.ref e.a, .int ord to]) :: X) Hs' := fun h hm => by
   rcases List.mem_cons.mp (hp'.mem_iff.mp hm) with rfl | hm
   ·rw [hne, hna, hno, hnt]; exact .head _
   ·exact .tail _ (hH h (.tail _ hm))
  match Hs', hl', J', hHX'', hHk, S₄ with
  | [], hl', _, _, _, _ => simp at hl'; omega
  | h' :: r', hl', J', hHX'', hHk, S₄ =>
  refine q_tuple ?_
  refine r_sub list_getitem_lookup ?_
  refine e_local (env := callEnvC (fd280 w.params) L' 280) (by exact S₄) m4 ?_
  refine wpAny_Constant_int ?_
  refine ⟨⟨_, S₄.obj _ m0, rfl⟩, ?_⟩
  refine gi_list0 (x := .ref h'.a) (vs := refsH r') (by exact S₄) m0 (by rw [refsH_len]; simp at hl'; omega) ?_
  refine as_tuple hh (by exact S₄) (.tail _ (hHX'' h' (.head _))) ?_
  intro h₅ S₅
  refine as_each ?_
  refine e_store (env := callEnvC (fd280 w.params) L' 280) (by exact S₅) (.old (.there (.there (.there .here)))) ?_
  intro h₆ S₆
  refine as_each ?_
  refine e_store (env := callEnvC (fd280 w.params) L' 280) (by exact S₆) (.new (by kernel_rfl)) ?_
  intro h₇ S₇
  refine as_none ?_
  refine q_aug ?_
  refine e_load (env := callEnvC (fd280 w.params) L' 280) (by exact S₇) m3 ?_
  refine wpAny_Constant_int ?_
  refine PySem.P.isub_int ?_
  refine e_store (env := callEnvC (fd280 w.params) L' 280) (by exact S₇) (.old (.there (.there (.there .here)))) ?_
  intro h₈ S₈
  refine q_nil ?_
  refine q_nil ?_
  have S₉ := S₈.forget (l' := nmH2 L' res I D n Es.length tn ts h'.e.a (ord - 1) _) (.cons _ (.cons _ (List.Sublist.refl _)))
  have S₁₀ := S₉.perm (T' := (I, oi') :: (D, lstO (refsH (h' :: r')) c') :: ((na, tupO [.ref e.a, .int ord to]) :: X ++ T₂)) (List.perm_append_comm (l₁ := [(D, lstO (refsH (h' :: r')) c'), (na, tupO [.ref e.a, .int ord to])]) (l₂ := [(I, oi')]) |>.append_right (X ++ T₂))
  exact k _ [(na, tupO [.ref e.a, .int ord to])] c' h' r' _ (ord - 1) _ ⟨K₄.os, K₄.gens⟩ J' hHk (by exact S₁₀)
 ·have hle : rkS rk e ≤ rkS rk h₀.e := by have := of_decide_eq_false q; omega
  refine q_nil ?_
  refine q_nil ?_
  have S₂ := S₁.forget (l' := nmH2 L' res I D n Es.length tn ts h₀.e.a ord to) (List.sublist_cons_self _ _)
  exact k _ [] c h₀ r (e :: outs) ord to ⟨rfl, id⟩ (J.skip he hle) hH (by exact S₂)
end
end
section
open PySem.Spec
section
variable {w : World} {A : Around} {E : Value → Shared → Prop} {s : Shared} {hb : Heap} {L L' res I D : Addr} {T T₂ X : List (Addr × Obj)} {l : List (Str × Value)} {Es : List Sc} {nr n c : Nat} {tn ts : Tok} {rk : UInt64 → Str → Nat} {Hs : List HI} {oi : Obj}
theorem nl_heapB (G : Gd (KN w.params) tabs hb) (hu : A.units + 100 < cLine) (hh : A.handled = none) (hm : (res, lstO (refsS Es) nr) ∈ T₂) (hS : SOk T₂ Es) (hT : TkOk Es) (hR : RkOk rk Es) (hl : Es.length ≤ 60) (hn0 : 0 < n) (hn : n < Es.length)
  (hoi : LitAt oi res n) (J : HeapJ rk Es n n Hs [] (-(n : Int))) (hH : HOk X Hs) (S : St hb tabs L' (nmH L' res I D n Es.length tn ts) ((D, lstO (refsH Hs) c) :: (I, oi) :: (X ++ T₂)) s.heap) {Q : Flow → Shared → Prop}
  (k : ∀ (s' : Shared) (Y : List (Addr × Obj)) (r : Addr) (nr' : Nat) (P : List Sc) (l' : List (Str × Value)), Kp s s' → P.Perm Es → P.Pairwise (fun a b => rkS rk b ≤ rkS rk a) → St hb tabs L' l' ((r, lstO (refsS (P.take n)) nr') :: (Y ++ T₂)) s'.heap → Q (.ret (.ref r)) s') :
  wpAny (model pw w) (A.deeper (ev280 w L')) (execs (nlB.drop 4) (ev280 w L')) Q E s := by
 match Hs, J, hH, S with
 | [], J, _, _ => have := J.len; simp at this; omega
 | h₀ :: r, J, hH, S =>
 have hrl : r.length + 1 = n := J.len
 have hHX : HOk ((D, lstO (refsH (h₀ :: r)) c) :: (I, oi) :: (X ++ T₂)) (h₀ :: r) := fun h hm => .tail _ (.tail _ (List.mem_append_left _ (hH h hm)))
 refine q_assign ?_
 refine r_sub tuple_getitem_lookup' ?_
 refine r_sub list_getitem_lookup ?_
 refine e_local (env := callEnvC (fd280 w.params) L' 280) S m0 ?_
 refine wpAny_Constant_int ?_
 refine ⟨⟨_, S.obj _ m0, rfl⟩, ?_⟩
 refine gi_list0 (x := .ref h₀.a) (vs := refsH r) (by exact S) m0 (by rw [refsH_len]; omega) ?_
 refine wpAny_Constant_int ?_
 refine ⟨⟨_, S.obj _ (hHX h₀ (.head _)), rfl⟩, ?_⟩
 refine gi_tuple0 (by exact S) (hHX h₀ (.head _)) (by simp) ?_
 refine e_store (env := callEnvC (fd280 w.params) L' 280) (by exact S) (.new (by kernel_rfl)) ?_
 intro h₁ S₁
 refine q_assign ?_
 refine UnaryOp_ ?_
 refine e_local (env := callEnvC (fd280 w.params) L' 280) (by exact S₁) m4 ?_
 refine P.neg_int ?_
 refine e_store (env := callEnvC (fd280 w.params) L' 280) (by exact S₁) (.new (by kernel_rfl)) ?_
 intro h₂ S₂
 refine q_assign ?_
 refine e_global G (by exact S₂) (v := .builtin "_heapq.heapreplace") (by kernel_rfl) ?_
 refine e_store (env := callEnvC (fd280 w.params) L' 280) (by exact S₂) (.new (by kernel_rfl)) ?_
 intro h₃ S₃
 refine q_for ?_
 refine e_local (env := callEnvC (fd280 w.params) L' 280) (by exact S₃) m4 ?_
 obtain ⟨tok, S₄⟩ : ∃ tok, St hb tabs L' (nmH2 L' res I D n Es.length tn ts h₀.e.a (-(n : Int)) tok) ((I, oi) :: (D, lstO (refsH (h₀ :: r)) c) :: (X ++ T₂)) h₃ := ⟨_, S₃.perm (List.Perm.swap _ _ _)⟩
 refine restate (by exact S₄) fun s₄ K₄ S₄ => ?_
 refine wpAny_pyIter_listiter (l := res) (i := n) ⟨_, S₄.obj _ m0, hoi.1, hoi.2⟩ ?_
 refine for_lit (d := res) (vs := refsS Es) (n := nr) (i₀ := n) (l := nmH2 L' res I D n Es.length tn ts h₀.e.a (-(n : Int)) tok) (T := (D, lstO (refsH (h₀ :: r)) c) :: (X ++ T₂)) hh
  (fun i l₁ T₁ => ∃ h' r' outs ord to c X, HeapJ rk Es n i (h' :: r') outs ord ∧ l₁ = nmH2 L' res I D n Es.length tn ts h'.e.a ord to ∧ T₁ = (D, lstO (refsH (h' :: r')) c) :: (X ++ T₂) ∧ HOk X (h' :: r')) S₄ hoi (by rw [refsS_len]; omega) ⟨h₀, r, [], _, tok, c, X, J, rfl, rfl, hH⟩ (.tail _ (List.mem_append_right _ hm)) ?_ ?_
 ·rintro E₁ i v l₁ T₁ o₁ s₁ hi₀ hv ⟨h', r', outs, ord, to, c', X', J', rfl, rfl, hH'⟩ hd₁ S₅ K₅
  have hv' : ∃ e, Es[i]? = some e ∧ v = .ref e.a := by
   rw [refsS, List.getElem?_map] at hv
   obtain ⟨e, h1, h2⟩ := Option.map_eq_some_iff.mp hv
   exact ⟨e, h1, h2.symm⟩
  obtain ⟨e, he, rfl⟩ := hv'
  have hi60 : i < 60 := by
   have := (List.getElem?_eq_some_iff.mp he).1
   omega
  refine heap_turn (T₂ := T₂) (X := X') G hu hh hS hT hR hi60 he hl (by omega) J' hH' (by exact S₅) ?_ rfl
  intro s' X₂ c₂ h₂' r₂ outs₂ ord₂ to₂ K₂ J₂ hH₂ S₂'
  exact ⟨_, _, S₂', ⟨h₂', r₂, outs₂, ord₂, to₂, c₂, X₂ ++ X', J₂, rfl, rfl, hH₂⟩, .tail _ (List.mem_append_right _ hm), K₅.trans K₂⟩
 ·rintro s₅ l₅ T₅ K₅ S₅ ⟨h', r', outs, ord, to, c', X', J', rfl, rfl, hH'⟩
  replace K₅ : Kp s s₅ := ⟨K₅.os.trans K₄.os, fun z => K₅.gens (K₄.gens z)⟩
  rw [refsS_len] at J'
  have hrl' : r'.length + 1 = n := J'.len
  have hSX : SOk (X' ++ T₂) Es := hS.mono fun p hp => List.mem_append_right _ hp
  have hHX' : HOk (X' ++ T₂) (h' :: r') := fun h hm => List.mem_append_left _ (hH' h hm)
  refine q_expr ?_
  refine methodCall_KW ?_
  refine e_local (env := callEnvC (fd280 w.params) L' 280) (by exact S₅) m3 ?_
  refine r_lmeth (by exact S₅) m0 PySem.F.slot_list_sort PySem.F.type_list_sort ?_
  refine cw_kw0 ?_
  refine kws_cons ?_
  refine wpAny_Constant_bool ?_
  refine kws_nil ?_
  refine wpAny_call_entry_kw PySem.F.slot_list_sort ⟨_, S₅.obj _ m0, rfl⟩ PySem.F.entry_list_sort ?body (lsr_args D)
  show wpAny (model pw w) (A.deeper (ev280 w L')).in1 (sortRev D) _ _ _
  have hkey : ∀ h ∈ h' :: r', keyOf rk (h' :: r') (.ref h.a) = keyH rk h := fun h hm => keyOf_at (fun h hm => S₅.obj _ (.tail _ (hHX' h hm))) (fun e he => S₅.obj _ (.tail _ (hSX e he))) J'.sub hm
  have hpos : ∀ h ∈ h' :: r', 0 ≤ keyH rk h + 60 := fun h hm => by
   have := J'.ords h hm
   unfold keyH; omega
  refine sortRev_any (κ := tuples' false) (T := X' ++ T₂) (fun v => (keyOf rk (h' :: r') v + 60).toNat) (by exact S₅) (by rw [refsH_len]; simp; omega) ?_ ?_ ?_
  ·intro h2 s' T' Q' E' S' hin hq
   refine kat_kind (T := .type "tuple") (hi_tups fun h hm => S'.obj _ (hin _ (hHX' h hm))) (by simp) (fun v hv => ?_) rfl hq
   obtain ⟨h, hm, rfl⟩ := List.mem_map.mp hv
   exact (Looks.ld (S'.obj _ (hin _ (hSX _ (J'.sub h hm))))).andThen .now
  ·intro s' T' K' S' hin x hx y hy C hC
   obtain ⟨h₁, m1, rfl⟩ := List.mem_map.mp hx
   obtain ⟨h₂, m2, rfl⟩ := List.mem_map.mp hy
   have p1 := hpos _ m1
   have p2 := hpos _ m2
   rw [hkey _ m1, hkey _ m2] at hC
   refine hi_klt (Es := Es) (rk := rk) (by show A.units + 3 + 1 + 4 < cLine; omega) (S'.nb G) hT hR (J'.sub _ m1) (J'.sub _ m2) (S'.obj _ (hin _ (hSX _ (J'.sub _ m1)))) (S'.obj _ (hin _ (hSX _ (J'.sub _ m2)))) (S'.obj _ (hin _ (hHX' _ m1))) (S'.obj _ (hin _ (hHX' _ m2))) (J'.ords _ m1) (J'.ords _ m2) ?_
   rw [show decide (keyH rk h₁ < keyH rk h₂) = decide ((keyH rk h₁ + 60).toNat < (keyH rk h₂ + 60).toNat) from decide_eq_decide.mpr (by omega)]
   exact hC
  ·intro s₆ c₆ vs' K₆ hp₆ hw₆ S₆
   obtain ⟨Hf, rfl, hpf⟩ := perm_map_inv _ hp₆
   replace K₆ : Kp s s₆ := K₅.trans K₆
   have hsub : ∀ h ∈ Hf, h ∈ h' :: r' := fun h hm => hpf.mem_iff.mp hm
   have hfall : (Hf.map (·.e)).Pairwise fun a b => rkS rk b ≤ rkS rk a := by
    rw [List.pairwise_map] at hw₆ ⊢
    refine List.Pairwise.imp_of_mem ?_ hw₆
    intro a b ha hb h
    rw [hkey a (hsub a ha), hkey b (hsub b hb)] at h
    have p1 := hpos _ (hsub a ha)
    have p2 := hpos _ (hsub b hb)
    exact rk_of_key (J'.ords _ (hsub b hb)) (J'.ords _ (hsub a ha)) (by omega)
   have hpe : (Hf.map (·.e) ++ outs).Perm Es := by
    have := J'.perm
    rw [List.take_length] at this
    exact ((hpf.map (·.e)).append_right outs).trans this
   obtain ⟨P, hP, hPw, hPt⟩ := top_split hpe hfall (fun o ho e he => by
    obtain ⟨h, hm, rfl⟩ := List.mem_map.mp he
    exact J'.below o ho h (hsub h hm))
   have hfl : Hf.length = n := by rw [hpf.length_eq]; exact J'.len
   rw [List.length_map, hfl] at hPt
   refine ⟨_, rfl, ?_⟩
   refine q_ret ?_
   refine r_listcomp (hb := hb) (tabs := tabs) hh ?_ (.inr ⟨_, _, _, rfl⟩) (by decide) (by decide) rfl (by decide)
   refine e_local (env := callEnvC (fd280 w.params) L' 280) (by exact S₆) m3 ?_
   refine ⟨L', _, _, D, refsH Hf, c₆, fun i acc X => X = [] ∧ acc = (refsS (P.take n)).take i, rfl, by exact S₆, m0, ?_, ⟨rfl, rfl⟩, ?_, ?_⟩
   ·rw [refsH_len]; omega
   ·rintro C' D' oL' E' i v acc c X'' own s₂ hi hacc ⟨rfl, hJ⟩ hr₂ K₂ S₂
    have hv : ∃ h, Hf[i]? = some h ∧ v = .ref h.a := by
     rw [refsH, List.getElem?_map] at hi
     obtain ⟨h, h1, h2⟩ := Option.map_eq_some_iff.mp hi
     exact ⟨h, h1, h2.symm⟩
    obtain ⟨h, he, rfl⟩ := hv
    have hm := hHX' h (hsub h (List.mem_of_getElem? he))
    refine as_tuple hh S₂ (List.mem_append_left _ (.tail _ (.tail _ (.tail _ hm)))) ?_
    intro h₃ S₃
    refine as_each ?_
    refine e_store (env := compEnv _ C' _) (by exact S₃) (.new (by kernel_rfl)) ?_
    intro h₄ S₄
    refine as_each ?_
    refine e_store (env := compEnv _ C' _) (by exact S₄) (.new (by kernel_rfl)) ?_
    intro h₅ S₅
    refine as_none ?_
    refine e_local (env := compEnv _ C' _) (by exact S₅) m1 ?_
    refine ⟨[], _, ⟨K₂.os, K₂.gens⟩, (by exact S₅), rfl, ?_⟩
    have e2 : (refsS (P.take n))[i]? = some (.ref h.e.a) := by
     rw [hPt]
     unfold refsS
     rw [List.getElem?_map, List.getElem?_map, he]; rfl
    rw [List.take_add_one, e2, hJ]
    simp
   ·rintro s₇ D' acc c₇ X'' K₇ S₇ hl₇ ⟨rfl, rfl⟩
    have e3 : (refsS (P.take n)).take (refsH Hf).length = refsS (P.take n) := by
     rw [List.take_of_length_le]
     rw [refsS_len, refsH_len, List.length_take, hfl]
     omega
    rw [e3] at S₇
    exact k s₇ ((D, lstO (refsH Hf) c₆) :: X') D' c₇ P _ (K₆.trans K₇) hP hPw (by exact S₇)
end
end
section
open PySem.Spec
def rkvOf (rk : UInt64 → Str → Nat) (Es : List Sc) : Value → Nat
 | .ref a => ((Es.find? fun e => e.a == a).map (rkS rk)).getD 0
 | _ => 0
theorem rkvOf_at {rk : UInt64 → Str → Nat} {Es : List Sc} {hp : Heap} (hE : ∀ e ∈ Es, hp.get? e.a = some (tupO [.float e.f e.ft, strV e.x])) {e : Sc} (hm : e ∈ Es) : rkvOf rk Es (.ref e.a) = rkS rk e := by
 show ((Es.find? fun e' => e'.a == e.a).map (rkS rk)).getD 0 = rkS rk e
 cases hf : Es.find? fun e' => e'.a == e.a with
 | none => exact absurd (List.find?_eq_none.mp hf e hm) (by simp)
 | some e' =>
  have ha : e'.a = e.a := by simpa using List.find?_some hf
  obtain ⟨s1, s2⟩ := sc_same (hE _ (List.mem_of_find?_eq_some hf)) (hE _ hm) ha
  show rkS rk e' = rkS rk e
  unfold rkS
  rw [s1, s2]
theorem nl_c {w : World} {hb : Heap} (G : Gd (KN w.params) tabs hb) : NLC w hb := by
 intro A s L l T R res Es nr n tn rk S hd hu hh hm hS hT hws hl hn0 hn60 hR k
 have hrkv : ∀ e ∈ Es, rkvOf rk Es (.ref e.a) = rkS rk e := fun e he => rkvOf_at (fun e he => S.obj _ (hS e he)) he
 by_cases h1 : n = 1
 ·subst h1
  exact nl_one G S hd hu hh hm hS hT hl hR (rkvOf rk Es) hrkv k
 ·refine nl_more G S hd hu hh hm hl h1 ?_ ?_
  ·intro hge L' s₁ oL ob ts Q E' hq r hob K₁ S₁
   refine nl_big G hu hm hS hT hl hR (rkvOf rk Es) hrkv hob S₁ ?_
   intro s₂ X d P K₂ hP hw S₂
   refine hq _ _ ?_
   have S₃ := S₂.perm (T' := (L, oL) :: (d, lstO (refsS (P.take n)) 0) :: ((X ++ [(L' + 1, ob)]) ++ T)) (by
    have e : (d, lstO (refsS (P.take n)) 0) :: (X ++ ((L' + 1, ob) :: (L, oL) :: T)) = ((d, lstO (refsS (P.take n)) 0) :: (X ++ [(L' + 1, ob)])) ++ ((L, oL) :: T) := by simp
    rw [e]
    exact List.perm_middle)
   exact k s₂ (X ++ [(L' + 1, ob)]) d 0 P (K₁.trans K₂) (by exact S₃.leave 0 rfl r) hP hw
  ·intro hlt L' s₁ oL ob ts r hob K₁ S₁
   refine nl_heapA G (by omega) hu hh hm hS hT hl hR hn0 hlt hob S₁ ?_
   intro s₂ X I D oi c Hs Q' hq K₂ hoi hH J S₂
   refine nl_heapB G hu hh (.tail _ (.tail _ hm)) (hS.mono fun p hp => .tail _ (.tail _ hp)) hT hR hl hn0 hlt hoi J hH S₂ ?_
   intro s₃ Y d nr' P l' K₃ hP hw S₃
   refine hq _ _ ?_
   have S₄ := S₃.perm (T' := (L, oL) :: (d, lstO (refsS (P.take n)) nr') :: ((Y ++ [(L' + 1, ob)]) ++ T)) (by
    have e : (d, lstO (refsS (P.take n)) nr') :: (Y ++ ((L' + 1, ob) :: (L, oL) :: T)) = ((d, lstO (refsS (P.take n)) nr') :: (Y ++ [(L' + 1, ob)])) ++ ((L, oL) :: T) := by simp
    rw [e]
    exact List.perm_middle)
   exact k s₃ (Y ++ [(L' + 1, ob)]) d nr' P ((K₁.trans K₂).trans K₃) (by exact S₄.leave 0 rfl r) hP hw
end
section
open PySem.Spec PySem.SeqAt
section
variable {prog : Program} {w : World} {A : Around} {E : Value → Shared → Prop} {s : Shared} {hb : Heap} {tabs : List Addr} {L a d : Addr} {l : List (Str × Value)} {T : List (Addr × Obj)} {vs us : List Value} {n k : Nat} {env : Env}
theorem St.isList (S : St hb tabs L l T s.heap) (hm : (d, lstO vs n) ∈ T) : s.heap.IsList d vs.toArray := ⟨_, S.obj _ hm, rfl, n, rfl⟩
theorem r_addL {Q : Value → Shared → Prop} (S : St hb tabs L l T s.heap) (h1 : (a, lstO vs n) ∈ T) (h2 : (d, lstO us k) ∈ T) (hz : vs.length + us.length ≤ 1000) (h : ∀ D h', St hb tabs L l ((D, lstO (vs ++ us) 0) :: T) h' → Q (.ref D) { s with heap := h' }) :
  wpAny (model prog w) A (binaryOp .Add (.ref a) (.ref d)) Q E s := by
 have ho := S.obj _ h1
 have ho2 := S.obj _ h2
 have e : vs.toArray ++ us.toArray = (vs ++ us).toArray := by simp
 refine concat_meets ⟨_, ho, rfl⟩ ⟨_, ho2, rfl⟩ noFill_list_add seq_list_add PySem.F.slot_list_add PySem.F.entry_list_add (PySem.F.args_list_add_2 _ _) (list_addW a d vs.toArray us.toArray n k none none #[] #[] (by rw [sizeLine_eq, List.size_toArray, List.size_toArray]; omega)) ⟨ho, ho2, ?_⟩
 rw [e]
 exact h _ _ (S.push (lstO (vs ++ us) 0))
theorem r_mulL {x : Int} {u : Tok} {Q : Value → Shared → Prop} (S : St hb tabs L l T s.heap) (h1 : (a, lstO vs n) ∈ T) (hne : vs ≠ []) (hlo : 0 ≤ x) (hhi : x ≤ 100) (hz : vs.length ≤ 1000) (h : ∀ D h', St hb tabs L l ((D, lstO (List.replicate x.toNat vs).flatten 0) :: T) h' → Q (.ref D) { s with heap := h' }) :
  wpAny (model prog w) A (binaryOp .Mult (.ref a) (.int x u)) Q E s := by
 have hl := S.obj _ h1
 have hsz : vs.length * x.toNat ≤ 100000 := by
  have : x.toNat ≤ 100 := by omega
  exact Nat.le_trans (Nat.mul_le_mul hz this) (by decide)
 have e : (List.foldl (fun x1 x2 => x1 ++ x2) (#[] : Array Value) (List.replicate (if vs.toArray.isEmpty = true then 0 else x.toNat) vs.toArray)) = (List.replicate x.toNat vs).flatten.toArray := listMul_foldl_if vs.toArray x.toNat
 refine wpAny_binaryOp_repeat_ref (T := "list") (U := "int") (by decide) ⟨_, hl, rfl⟩ (fun s' => typeIs_int s' x u) noFill_list_mul PySem.F.fills_int_mul PySem.F.slot_int_rmul repeat_list PySem.F.slot_int_index.lookup
  (call_meets PySem.F.slot_int_rmul (typeIs_int s x u) PySem.F.entry_int_rmul (PySem.F.args_int_rmul_2 _ _) (int___rmul___int_list x u a vs.toArray n)
   ⟨hl, rfl, ⟨_, hl, rfl⟩, call_meets PySem.F.slot_list_mul ⟨_, hl, rfl⟩ PySem.F.entry_list_mul (PySem.F.args_list_mul_2 _ _)
    (AutoListH.list___mul___list_int_3 a vs.toArray n x u (by simp [Builtin.List.listFitsIndex]; omega) (by rw [List.size_toArray]; omega) (by simp [Builtin.List.listTooLong, sizeLine]; omega))
    ⟨hl, ?_⟩⟩)
 rw [e]
 exact h _ _ (S.push (lstO (List.replicate x.toNat vs).flatten 0))
theorem r_listOf {o : Obj} {c : String} {Q : Value → Shared → Prop} (S : St hb tabs L l T s.heap) (hT : c = "list" ∨ c = "tuple") (ho : s.heap.get? a = some o) (hc : o.cls = .type c) (hd : o.data = .seq vs.toArray n) (hz : vs.length ≤ 1000)
  (h : ∀ D c' h', St hb tabs L l ((D, lstO vs c') :: T) h' → Q (.ref D) { s with heap := h' }) : wpAny (model prog w) A (call (.type "list") [.ref a]) Q E s := by
 refine call_list_seq a hT ho hc hd (fun h' c' hk hn => ?_) (by rw [sizeLine_eq, List.size_toArray]; omega)
 have S' := S.adds (own := [(s.heap.objs.size, lstO vs c')]) hk (fun p hp => by rw [List.mem_singleton] at hp; subst hp; exact hn) (fun p hp => by rw [List.mem_singleton] at hp; subst hp; exact Nat.le_refl _) (by simp)
 exact h _ c' h' S'.front
theorem r_insert {x : Int} {u : Tok} {v : Value} {Q : Value → Shared → Prop} (i : Nat) (S : St hb tabs L l T s.heap) (hi : T[i]? = some (d, lstO vs n)) (h0 : 0 ≤ x) (h1 : x ≤ vs.length) (hz : vs.length ≤ 1000)
  (h : ∀ h' c, St hb tabs L l (T.set i (d, lstO (vs.take x.toNat ++ v :: vs.drop x.toNat) c)) h' → Q .none { s with heap := h' }) :
  wpAny (model prog w) A (call (.builtin "list.insert") [.ref d, .int x u, v]) Q E s := by
 have ho := S.obj _ (List.mem_of_getElem? hi)
 refine call_meets PySem.F.slot_list_insert ⟨_, ho, rfl⟩ PySem.F.entry_list_insert (PySem.F.args_list_insert_3 _ _ _) (AutoSeq1.list_insert_list_int_val_1 d vs.toArray n x u v (by simp [Builtin.List.listFitsIndex]; omega) (by rw [sizeLine_eq, List.size_toArray]; omega)) ⟨ho, ?_⟩
 have hs := Heap.SameBut.update s.heap d (Obj.mapSeq fun xs => have k := if x < 0 then (x + (xs.size : Int)).toNat else min x.toNat xs.size; (xs.extract 0 k).push v ++ xs.extract k)
 obtain ⟨c, e⟩ : ∃ c, (Obj.mapSeq (fun xs => have k := if x < 0 then (x + (xs.size : Int)).toNat else min x.toNat xs.size; (xs.extract 0 k).push v ++ xs.extract k) (lstO vs n)) = lstO (vs.take x.toNat ++ v :: vs.drop x.toNat) c := by
  have hk : (if x < 0 then (x + (vs.toArray.size : Int)).toNat else min x.toNat vs.toArray.size) = x.toNat := by
   rw [if_neg (by omega), List.size_toArray]; omega
  have e1 : (vs.toArray.extract 0 (if x < 0 then (x + (vs.toArray.size : Int)).toNat else min x.toNat vs.toArray.size)).push v ++ vs.toArray.extract (if x < 0 then (x + (vs.toArray.size : Int)).toNat else min x.toNat vs.toArray.size) = (vs.take x.toNat ++ v :: vs.drop x.toNat).toArray := by
   rw [hk]
   apply Array.toList_inj.mp
   simp [List.take_of_length_le]
  have h0 : ∃ c, (Obj.mapSeq (fun xs => have k := if x < 0 then (x + (xs.size : Int)).toNat else min x.toNat xs.size; (xs.extract 0 k).push v ++ xs.extract k) (lstO vs n)) =
   { lstO vs n with data := .seq ((vs.toArray.extract 0 (if x < 0 then (x + (vs.toArray.size : Int)).toNat else min x.toNat vs.toArray.size)).push v ++ vs.toArray.extract (if x < 0 then (x + (vs.toArray.size : Int)).toNat else min x.toNat vs.toArray.size)) c } := ⟨_, rfl⟩
  rw [e1] at h0
  exact h0
 exact h _ c (S.change i hi hs (by rw [Heap.get?_update_self _ ho (by rw [e]; rfl), e]))
theorem slice_uptoI {Q : Value → Shared → Prop} {value e : Expr} {p pos : Pos}
  (h : wpAny (model prog w) A (eval value env) (fun o s₁ => wpAny (model prog w) A (eval e env) (fun vu s₂ => ∃ L l T d b tb, ∃ vs : List Value, o = .ref d ∧ vu = .int ((b : Nat) : Int) tb ∧ St hb tabs L l T s₂.heap ∧ s₂.heap.IsList d vs.toArray ∧ vs.length ≤ 1000 ∧
   ∀ D X h', St hb tabs L l ((D, lstO (vs.take b) 0) :: (X ++ T)) h' → Q (.ref D) { s₂ with heap := h' }) E s₁) E s) :
  wpAny (model prog w) A (eval (.Subscript value (.Slice none (some e) none p) pos) env) Q E s := by
 refine Subscript_SliceL (wpAny_mono h (fun o s₁ h₁ => ?_) fun _ _ e => e)
 refine wpAny_Slice ?_
 rw [evalPart_none]
 refine wpAny_pure ?_
 rw [evalPart_some]
 refine wpAny_mono h₁ (fun vu s₂ h₂ => ?_) fun _ _ e => e
 obtain ⟨L, l, T, d, b, tb, vs, rfl, rfl, S, hl, hz, hQ⟩ := h₂
 refine wpAny_pure ?_
 have S₁ := (S.push { cls := .type "slice", data := .fields #[.none, .int ((b : Nat) : Int) tb, .none] }).push { cls := .type "list", data := .seq (slicePick vs.toArray none (some ((b : Nat) : Int)) none) }
 rw [slicePick_upto' _ _] at S₁
 refine ⟨(hl.push _).typeIs, wpAny_getItem_list_slice (hl.push _) (Heap.IsSliceOf.new ..) .none (.int _ _) .none (by simp) ?_ (by rw [sizeLine_eq, List.size_toArray]; omega)⟩
 rw [slicePick_upto' _ _]
 exact hQ _ [(_, _)] _ S₁
theorem r_enumL {Q : Value → Shared → Prop} (S : St hb tabs L l T s.heap) (hm : (d, lstO vs n) ∈ T)
  (h : ∀ I J o o' Wt Mid fp h', ItU prog w hb tabs [(d, lstO vs n)] I [I, J] vs.length (fun i vals => ∃ t x, vs[i]? = some x ∧ vals = #[.int i t, x]) Wt Mid fp → Wt 0 h' → St hb tabs L l (T ++ [(I, o), (J, o')]) h' → Q (.ref I) { s with heap := h' }) :
  wpAny (model prog w) A (call (.type "enumerate") [.ref d]) Q E s := by
 refine call_enumerate_list (S.isList hm) fun h' he hi hz hk => ?_
 obtain ⟨oe, hoe⟩ := enum_new he
 obtain ⟨oi, hoi, -⟩ := id hi
 have hlt := S.lt hm
 have S' : St hb tabs L l (T ++ [(s.heap.objs.size + 1, oe), (s.heap.objs.size, oi)]) h' := S.adds hk (fun p hp => by
  rcases List.mem_cons.mp hp with rfl | hp
  ·exact hoe
  ·rcases List.mem_cons.mp hp with rfl | hp
   ·exact hoi
   ·cases hp) (fun p hp => by
  rcases List.mem_cons.mp hp with rfl | hp
  ·exact Nat.le_succ _
  ·rcases List.mem_cons.mp hp with rfl | hp
   ·exact Nat.le_refl _
   ·cases hp) (by simp)
 have hl' : h'.IsList d vs.toArray := ⟨_, S'.obj _ (List.mem_append_left _ hm), rfl, n, rfl⟩
 have hle : d ≠ s.heap.objs.size + 1 := Nat.ne_of_lt (Nat.lt_succ_of_lt hlt)
 have hli : d ≠ s.heap.objs.size := Nat.ne_of_lt hlt
 refine h _ _ _ _ (fun i h => (∃ old, IsEnum h (s.heap.objs.size + 1) s.heap.objs.size i old) ∧ h.IsListIter s.heap.objs.size d i ∧ h.IsList d vs.toArray) (fun i T h => (∃ x, IsEnumOut h (s.heap.objs.size + 1) s.heap.objs.size ((i : Int) + 1) x T) ∧ h.IsListIter s.heap.objs.size d (i + 1) ∧ h.IsList d vs.toArray ∧ T ≠ s.heap.objs.size + 1 ∧ T ≠ s.heap.objs.size) [s.heap.objs.size + 1, s.heap.objs.size, d] _ ⟨fun A hA => ?_, ?_, ?_⟩ ⟨⟨_, he⟩, hi, hl'⟩ S'
 ·have W := toU (WalksT.enumerate (prog := prog) (w := w) hA (s.heap.objs.size + 1) s.heap.objs.size d (Nat.succ_ne_self _) hle hli vs.toArray)
  rw [List.size_toArray] at W
  exact walksU_mono W fun i v ⟨t, x, e1, e2⟩ => ⟨t, x, by simpa using e1, e2⟩
 ·rintro i h ⟨⟨old, q⟩, ⟨o, e, _⟩, _⟩ b hb'
  rcases List.mem_cons.mp hb' with rfl | hb'
  ·exact enum_new q
  ·rw [List.mem_singleton] at hb'; subst hb'
   exact ⟨o, e⟩
 ·intro b hb' hn
  rcases List.mem_cons.mp hb' with rfl | hb'
  ·exact absurd (.head _) hn
  ·rcases List.mem_cons.mp hb' with rfl | hb'
   ·exact absurd (.tail _ (.head _)) hn
   ·rw [List.mem_singleton] at hb'; subst hb'
    exact .inl ⟨_, .head _⟩
theorem eqAt_str {A : Around} {s : Shared} (x y : Str) (t u : Tok) : EqAt A s (.str x t) (.str y u) (x == y) := fun prog w E Q hq => eqBool_str hq
theorem all_strs (xs ys : List (Str × Tok)) (hl : xs.length = ys.length) : ((List.range xs.length).all fun j => (xs.map (·.1))[j]? == (ys.map (·.1))[j]?) = decide (xs.map (·.1) = ys.map (·.1)) := by
 by_cases h : xs.map (·.1) = ys.map (·.1)
 ·rw [decide_eq_true h, h]
  simp
 ·rw [decide_eq_false h]
  rw [List.all_eq_false]
  refine Classical.byContradiction fun hc => h ?_
  apply List.ext_getElem?
  intro j
  by_cases hj : j < xs.length
  ·refine Classical.byContradiction fun hne => hc ⟨j, List.mem_range.mpr hj, ?_⟩
   intro q
   exact hne (eq_of_beq q)
  ·rw [List.getElem?_eq_none (by simp; omega), List.getElem?_eq_none (by simp; omega)]
section
variable {xs ys : List (Str × Tok)}
theorem strs_at (hl : xs.length = ys.length) : ∀ j (h1 : j < (xs.map strV).toArray.size) (h2 : j < (ys.map strV).toArray.size), EqAt A.in1 s (xs.map strV).toArray[j] (ys.map strV).toArray[j] ((xs.map (·.1))[j]? == (ys.map (·.1))[j]?) := by
 intro j h1 h2
 have h1' : j < xs.length := by simpa using h1
 have h2' : j < ys.length := by simpa using h2
 have e1 : (xs.map strV).toArray[j] = strV xs[j] := by simp
 have e2 : (ys.map strV).toArray[j] = strV ys[j] := by simp
 have e3 : ((xs.map (·.1))[j]? == (ys.map (·.1))[j]?) = (xs[j].1 == ys[j].1) := by
  rw [List.getElem?_map, List.getElem?_map, List.getElem?_eq_getElem h1', List.getElem?_eq_getElem h2']
  rfl
 rw [e1, e2, e3]
 exact eqAt_str _ _ _ _
theorem rc_strs (hl1 : s.heap.IsList a (xs.map strV).toArray) (hl2 : s.heap.IsList d (ys.map strV).toArray) (hu : A.units < cLine) : RcAt A s (.ref a) (.ref d) (decide (xs.map (·.1) = ys.map (·.1))) := by
 by_cases hl : xs.length = ys.length
 ·have := RcAt.lists (e := fun j => (xs.map (·.1))[j]? == (ys.map (·.1))[j]?) hl1 hl2 (by simpa using hl) hu (strs_at hl)
  rw [List.size_toArray, List.length_map, all_strs xs ys hl] at this
  exact this
 ·have := RcAt.lists_lengths (A := A) (s := s) hl1 hl2 (by simpa using hl) hu
  rw [decide_eq_false (fun q => hl (by simpa using congrArg List.length q))]
  exact this
theorem r_neStrs {Q : Value → Shared → Prop} (hl1 : s.heap.IsList a (xs.map strV).toArray) (hl2 : s.heap.IsList d (ys.map strV).toArray) (hu : A.units < cLine) (h : Q (.bool (!decide (xs.map (·.1) = ys.map (·.1)))) s) : wpAny (model prog w) A (compareOp .NotEq (.ref a) (.ref d)) Q E s := by
 by_cases hl : xs.length = ys.length
 ·have := RcNeAt.lists (e := fun j => (xs.map (·.1))[j]? == (ys.map (·.1))[j]?) hl1 hl2 (by simpa using hl) hu (strs_at hl)
  rw [List.size_toArray, List.length_map, all_strs xs ys hl] at this
  exact this prog w E Q h
 ·have := RcNeAt.lists_lengths (A := A) (s := s) hl1 hl2 (by simpa using hl) hu
  rw [decide_eq_false (fun q => hl (by simpa using congrArg List.length q))] at h
  exact this prog w E Q h
theorem r_countStr {x : Str} {t : Tok} {Q : Value → Shared → Prop} (S : St hb tabs L l T s.heap) (hm : (d, lstO (xs.map strV) n) ∈ T) (h : Q (.int ((xs.countP fun p => p.1 == x : Nat) : Int) s.toks) { s with toks := s.toks + 1 }) :
  wpAny (model prog w) A (call (.builtin "list.count") [.ref d, .str x t]) Q E s := by
 have ho := S.obj _ hm
 refine call_meets PySem.F.slot_list_count ⟨_, ho, rfl⟩ PySem.F.entry_list_count (PySem.F.args_list_count_2 _ _) (list_countAt d (xs.map strV).toArray n none #[] (.str x t) (fun v => match v with | .str y _ => y == x | _ => false)) ⟨ho, ?_, ?_⟩
 ·intro y hy
  obtain ⟨p, hp, rfl⟩ : ∃ p ∈ xs, strV p = y := by simpa using hy
  exact eqAt_str _ _ _ _
 ·have e : (xs.map strV).toArray.toList.countP (fun v => match v with | .str y _ => y == x | _ => false) = xs.countP fun p => p.1 == x := by
   show (xs.map strV).countP _ = _
   rw [List.countP_map]
   rfl
  rw [e]
  exact h
end
end
end
section
open PySem.Spec PySem.SeqAt PySem.Builtin.Str
def WRD : Str := Str.ofString "abcdefghi"
def cutW (k : Nat) : Str := ⟨(WRD.cps.toList.take k).toArray⟩
def fromW (k : Nat) : Str := ⟨(WRD.cps.toList.drop k).toArray⟩
def zW (p : Nat) : Str := ⟨(WRD.cps.toList.take p ++ 122 :: WRD.cps.toList.drop (p + 1)).toArray⟩
theorem cut_facts : ∀ k : Fin 9, ((strSliceIndices none (some ((k.val : Nat) : Int)) 1 9).length == 9) = false ∧ ((strSliceIndices none (some ((k.val : Nat) : Int)) 1 9).filterMap (WRD.cps[·]?)).toArray = (cutW k.val).cps := by decide +kernel
theorem from_facts : ∀ k : Fin 9, ((strSliceIndices (some ((k.val : Nat) + 1 : Int)) none 1 9).length == 9) = false ∧ ((strSliceIndices (some ((k.val : Nat) + 1 : Int)) none 1 9).filterMap (WRD.cps[·]?)).toArray = (fromW (k.val + 1)).cps := by decide +kernel
theorem made_cut {k : Nat} (hk : k < 9) (t u : Tok) : sliceMade WRD t none (some ((k : Int), u)) none = .str (cutW k) := by
 have h := cut_facts ⟨k, hk⟩
 unfold sliceMade slicePicked
 have e1 : WRD.length = 9 := by decide +kernel
 simp only [Option.map_some, Option.map_none, Option.getD_none, e1]
 rw [h.1, h.2]
 rfl
theorem made_from {k : Nat} (hk : k < 9) (t u : Tok) : sliceMade WRD t (some ((k : Int) + 1, u)) none none = .str (fromW (k + 1)) := by
 have h := from_facts ⟨k, hk⟩
 unfold sliceMade slicePicked
 have e1 : WRD.length = 9 := by decide +kernel
 simp only [Option.map_some, Option.map_none, Option.getD_none, e1]
 rw [h.1, h.2]
 rfl
theorem cut_len : ∀ k : Fin 10, (cutW k.val).length = k.val ∧ (fromW k.val).length = 9 - k.val := by decide +kernel
section
variable {prog : Program} {w : World} {A : Around} {E : Value → Shared → Prop} {s : Shared} {hb : Heap} {tabs : List Addr} {env : Env} {p pos : Pos} {value e : Expr} {Q : Value → Shared → Prop}
theorem r_cut (h : wpAny (model prog w) A (eval value env) (fun o s₁ => wpAny (model prog w) A (eval e env) (fun vu s₂ => ∃ t L l T tk, ∃ k : Nat, o = .str WRD t ∧ vu = .int (k : Int) tk ∧ k < 9 ∧ St hb tabs L l T s₂.heap ∧
   ∀ (s' : Shared) (t' : Nat), Kp s₂ s' → s₂.toks ≤ t' → t' < s'.toks → St hb tabs L l T s'.heap → Q (.str (cutW k) t') s') E s₁) E s) (ht : ∀ o r, letTemporaryGo value o r = pure () := by intro _ _; rfl) :
  wpAny (model prog w) A (eval (.Subscript value (.Slice none (some e) none p) pos) env) Q E s := by
 refine wpAny_Subscript_str_slice (wpAny_mono h (fun o s₁ h₁ => ?_) fun _ _ e => e) ht
 rw [evalPart_none]
 refine wpAny_pure ?_
 rw [evalPart_some]
 refine wpAny_mono h₁ (fun vu s₂ h₂ => ?_) fun _ _ e => e
 obtain ⟨t, L, l, T, tk, k, rfl, rfl, hk, S, hQ⟩ := h₂
 refine ⟨WRD, t, none, some ((k : Int), tk), rfl, rfl, rfl, ?_⟩
 rw [made_cut hk]
 have hl := (cut_len ⟨k, by omega⟩).1
 dsimp only at hl
 refine ⟨by rw [hl, sizeLine_eq]; omega, ?_⟩
 exact hQ _ _ ⟨rfl, id⟩ (Nat.le_refl _) (Nat.lt_succ_self _) ((S.push _).sub (List.sublist_cons_self _ _))
theorem r_from (h : wpAny (model prog w) A (eval value env) (fun o s₁ => wpAny (model prog w) A (eval e env) (fun vl s₂ => ∃ t L l T tk, ∃ k : Nat, o = .str WRD t ∧ vl = .int ((k : Int) + 1) tk ∧ k < 9 ∧ St hb tabs L l T s₂.heap ∧
   ∀ (s' : Shared) (t' : Nat), Kp s₂ s' → s₂.toks ≤ t' → t' < s'.toks → St hb tabs L l T s'.heap → Q (.str (fromW (k + 1)) t') s') E s₁) E s) (ht : ∀ o r, letTemporaryGo value o r = pure () := by intro _ _; rfl) :
  wpAny (model prog w) A (eval (.Subscript value (.Slice (some e) none none p) pos) env) Q E s := by
 refine wpAny_Subscript_str_slice (wpAny_mono h (fun o s₁ h₁ => ?_) fun _ _ e => e) ht
 rw [evalPart_some]
 refine wpAny_mono h₁ (fun vl s₂ h₂ => ?_) fun _ _ e => e
 rw [evalPart_none]
 refine wpAny_pure ?_
 obtain ⟨t, L, l, T, tk, k, rfl, rfl, hk, S, hQ⟩ := h₂
 refine ⟨WRD, t, some ((k : Int) + 1, tk), none, rfl, rfl, rfl, ?_⟩
 rw [made_from hk]
 have hl := (cut_len ⟨k + 1, by omega⟩).2
 dsimp only at hl
 refine ⟨by rw [hl, sizeLine_eq]; omega, ?_⟩
 exact hQ _ _ ⟨rfl, id⟩ (Nat.le_refl _) (Nat.lt_succ_self _) ((S.push _).sub (List.sublist_cons_self _ _))
theorem r_zW {x : Nat} (hp : x < 9) {t1 t2 : Nat} {Q : Value → Shared → Prop} {L : Addr} {l : List (Str × Value)} {T : List (Addr × Obj)} (S : St hb tabs L l T s.heap) (h : ∀ (s' : Shared) (t : Nat), Kp s s' → (t = t2 ∨ s.toks ≤ t ∧ t < s'.toks) → s.toks ≤ s'.toks → St hb tabs L l T s'.heap → Q (.str ⟨(WRD.cps.toList.take x ++ [122]).toArray⟩ t) s') :
  wpAny (model prog w) A (binaryOp .Add (.str (cutW x) t1) (.str (Str.ofString "z") t2)) Q E s := by
 have hz : (Str.ofString "z").length = 1 := by decide +kernel
 have hl := (cut_len ⟨x, by omega⟩).1
 dsimp only at hl
 refine PySem.P.add_str ?_
 by_cases h0 : x = 0
 ·subst h0
  rw [if_pos (by rw [hl]; rfl)]
  have e : (Str.ofString "z") = ⟨(WRD.cps.toList.take 0 ++ [122]).toArray⟩ := by decide +kernel
  show Q (.str (Str.ofString "z") t2) s
  rw [e]
  exact h s t2 Kp.refl (.inl rfl) (Nat.le_refl _) S
 ·rw [if_neg (by rw [hl]; simpa using h0), if_neg (by rw [hz]; decide)]
  have e : (cutW x ++ Str.ofString "z") = ⟨(WRD.cps.toList.take x ++ [122]).toArray⟩ := by
   have : ∀ k : Fin 9, (cutW k.val ++ Str.ofString "z") = ⟨(WRD.cps.toList.take k.val ++ [122]).toArray⟩ := by decide +kernel
   exact this ⟨x, hp⟩
  rw [e]
  refine ⟨?_, h _ _ ⟨rfl, id⟩ (.inr ⟨Nat.le_refl _, Nat.lt_succ_self _⟩) (Nat.le_succ _) S⟩
  have : ∀ k : Fin 9, (Str.mk (WRD.cps.toList.take k.val ++ [122]).toArray).length ≤ 10 := by decide +kernel
  have := this ⟨x, hp⟩
  dsimp only at this
  rw [sizeLine_eq]; omega
theorem r_zW2 {x : Nat} (hp : x < 9) {t1 t2 : Nat} {Q : Value → Shared → Prop} {L : Addr} {l : List (Str × Value)} {T : List (Addr × Obj)} (S : St hb tabs L l T s.heap) (h : ∀ (s' : Shared) (t : Nat), Kp s s' → (t = t1 ∨ s.toks ≤ t ∧ t < s'.toks) → s.toks ≤ s'.toks → St hb tabs L l T s'.heap → Q (.str (zW x) t) s') :
  wpAny (model prog w) A (binaryOp .Add (.str ⟨(WRD.cps.toList.take x ++ [122]).toArray⟩ t1) (.str (fromW (x + 1)) t2)) Q E s := by
 have hl := (cut_len ⟨x + 1, by omega⟩).2
 dsimp only at hl
 have h1 : ((Str.mk (WRD.cps.toList.take x ++ [122]).toArray).length == 0) = false := by
  have : ∀ k : Fin 9, ((Str.mk (WRD.cps.toList.take k.val ++ [122]).toArray).length == 0) = false := by decide +kernel
  exact this ⟨x, hp⟩
 have e : ((Str.mk (WRD.cps.toList.take x ++ [122]).toArray) ++ fromW (x + 1)) = zW x := by
  have : ∀ k : Fin 9, ((Str.mk (WRD.cps.toList.take k.val ++ [122]).toArray) ++ fromW (k.val + 1)) = zW k.val := by decide +kernel
  exact this ⟨x, hp⟩
 refine PySem.P.add_str ?_
 rw [if_neg (by rw [h1]; decide)]
 by_cases h8 : x = 8
 ·subst h8
  rw [if_pos (by rw [hl]; rfl)]
  have e2 : (Str.mk (WRD.cps.toList.take 8 ++ [122]).toArray) = zW 8 := by decide +kernel
  show Q (.str _ t1) s
  rw [e2]
  exact h s t1 Kp.refl (.inl rfl) (Nat.le_refl _) S
 ·rw [if_neg (by rw [hl]; simp; omega), e]
  refine ⟨?_, h _ _ ⟨rfl, id⟩ (.inr ⟨Nat.le_refl _, Nat.lt_succ_self _⟩) (Nat.le_succ _) S⟩
  have : ∀ k : Fin 9, (zW k.val).length ≤ 10 := by decide +kernel
  have := this ⟨x, hp⟩
  dsimp only at this
  rw [sizeLine_eq]; omega
end
end
section
open PySem.Spec
structure Nr where
 a : Addr
 x : Str × Tok
 b : Nat
 bt : Tok
 c : Nat
 ct : Tok
abbrev Nr.vs (e : Nr) : List Value := [strV e.x, .int (e.b : Int) e.bt, .int (e.c : Int) e.ct]
def refsN (ns : List Nr) : List Value := ns.map fun e => .ref e.a
def NrOk (T : List (Addr × Obj)) (ns : List Nr) : Prop := ∀ e ∈ ns, (e.a, tupO e.vs) ∈ T
theorem refsN_len (l : List Nr) : (refsN l).length = l.length := by simp [refsN]
def nearOf (i : Nat) : Str × Nat × Nat := (cutW (7 - i), 14 - 2 * i, 16 - i)
def near3 (p : Nat) : List (Str × Nat × Nat) := [(WRD, 18, 18), (cutW 8, 16, 17), (zW p, 16, 18)]
def nearL (p : Nat) : List (Str × Nat × Nat) := near3 p ++ (List.range 7).map nearOf
abbrev Nr.k (e : Nr) : Str × Nat × Nat := (e.x.1, e.b, e.c)
abbrev Nr.t (e : Nr) : Nat := e.x.2
structure NTk (t0 t1 : Nat) (ns : List Nr) : Prop where
 tok : ∀ e ∈ ns, (e.t = 741 ∧ e.x.1 = WRD) ∨ (t0 ≤ e.t ∧ e.t < t1)
 inj : ns.Pairwise fun a b => a.t < b.t
theorem cast2 {P : Int → Int → Prop} {a b a' b' : Int} (h : P a b) (e1 : a = a') (e2 : b = b') : P a' b' := by subst e1; subst e2; exact h
section
variable {w : World} {A : Around} {E : Value → Shared → Prop} {s : Shared} {hb : Heap} {L : Addr} {T : List (Addr × Obj)} {l : List (Str × Value)} {R : Result → Shared → Prop} {x : Nat} {tp : Tok}
theorem near_c (G : Gd (KN w.params) tabs hb) (S : St hb tabs L l T s.heap) (hd : A.depth + 10 < recursionLimit) (hh : A.handled = none) (hx : x < 9) (htk : 776 ≤ s.toks)
  (k : ∀ (s' : Shared) (X : List (Addr × Obj)) (r : Addr) (nr : Nat) (ns : List Nr), Kp s s' → St hb tabs L l ((r, lstO (refsN ns) nr) :: (X ++ T)) s'.heap → NrOk X ns → ns.map Nr.k = nearL x → NTk s.toks s'.toks ns → R (.ok (.ret (.ref r))) s') :
  codeAny (model pw w) A (.call (.ref 294) ⟨[.int (x : Int) tp], []⟩) R s := by
 refine c_def G S (lk294 _) (by omega) (binds := [(Str.ofString "place", .int (x : Int) tp)]) (body := fnBody (st1 pw 14)) (BindsTo.of_eq (by kernel_rfl)) ?_
 intro L' h₁ oL r S₁
 have htk0 : s.toks ≤ (s.toks + [(Str.ofString "place", Value.int (x : Int) tp)].length) := Nat.le_add_right _ _
 refine restateT (by exact S₁) fun s₁ K₁ hk₁ S₁ => ?_
 replace K₁ : Kp s s₁ := ⟨K₁.os, K₁.gens⟩
 replace hk₁ : s.toks ≤ s₁.toks := Nat.le_trans htk0 hk₁
 refine q_assign ?_
 refine wpAny_with_toks hk₁ ?_
 refine r_list ?_
 refine args_cons ?_
 refine r_tuple ?_
 refine args_cons ?_
 refine r_global G S₁ (v := .str WRD 741) (by kernel_rfl) ?_
 refine args_cons ?_
 refine wpAny_Constant_int ?_
 refine args_cons ?_
 refine wpAny_Constant_int ?_
 refine args_nil ?_
 refine ⟨rfl, _, _, _, _, _, S₁, ?_⟩
 intro a1 h₂ S₂
 refine args_cons ?_
 refine r_tuple ?_
 refine args_cons ?_
 refine r_cut (hb := hb) (tabs := tabs) ?_
 refine r_global G S₂ (v := .str WRD 741) (by kernel_rfl) ?_
 refine wpAny_Constant_int ?_
 refine ⟨741, _, _, _, _, 8, rfl, rfl, by decide, S₂, ?_⟩
 intro s₃ t2 K₃ hl₃ hu₃ S₃
 replace K₃ : Kp s s₃ := ⟨K₃.os.trans K₁.os, fun z => K₃.gens (K₁.gens z)⟩
 replace hl₃ : s₁.toks ≤ t2 := by simp only at hl₃; omega
 refine args_cons ?_
 refine wpAny_Constant_int ?_
 refine args_cons ?_
 refine wpAny_Constant_int ?_
 refine args_nil ?_
 refine ⟨rfl, _, _, _, _, _, S₃, ?_⟩
 intro a2 h₄ S₄
 refine args_cons ?_
 refine r_tuple ?_
 refine args_cons ?_
 refine wpAny_BinOp ?_
 refine wpAny_BinOp ?_
 refine r_cut (hb := hb) (tabs := tabs) ?_
 refine r_global G S₄ (v := .str WRD 741) (by kernel_rfl) ?_
 refine r_local S₄ m0 ?_
 refine ⟨741, _, _, _, _, x, rfl, rfl, hx, S₄, ?_⟩
 intro s₅ t3 K₅ hl₅ hu₅ S₅
 replace K₅ : Kp s s₅ := ⟨K₅.os.trans K₃.os, fun z => K₅.gens (K₃.gens z)⟩
 replace hl₅ : s₃.toks ≤ t3 := by simp only at hl₅; omega
 refine wpAny_Constant_str ?_
 refine r_zW hx (by exact S₅) ?_
 intro s₆ t4 K₆ ht₆ hu₆ S₆
 replace K₆ : Kp s s₆ := ⟨K₆.os.trans K₅.os, fun z => K₆.gens (K₅.gens z)⟩
 have ht4 : s₅.toks ≤ t4 ∧ t4 < s₆.toks := by
  simp only at hu₆
  rcases ht₆ with rfl | ⟨h1, h2⟩
  ·exact ⟨Nat.le_refl _, hu₆⟩
  ·simp only at h1
   exact ⟨by omega, h2⟩
 refine r_from (hb := hb) (tabs := tabs) ?_
 refine r_global G S₆ (v := .str WRD 741) (by kernel_rfl) ?_
 refine wpAny_BinOp ?_
 refine r_local S₆ m0 ?_
 refine wpAny_Constant_int ?_
 refine P.add_int ?_
 refine ⟨741, _, _, _, _, x, rfl, rfl, hx, S₆, ?_⟩
 intro s₇ t5 K₇ hl₇ hu₇ S₇
 replace K₇ : Kp s s₇ := ⟨K₇.os.trans K₆.os, fun z => K₇.gens (K₆.gens z)⟩
 replace hl₇ : s₆.toks ≤ t5 := by simp only at hl₇; omega
 refine r_zW2 hx (by exact S₇) ?_
 intro s₈ t6 K₈ ht₈ hu₈ S₈
 replace K₈ : Kp s s₈ := ⟨K₈.os.trans K₇.os, fun z => K₈.gens (K₇.gens z)⟩
 have ht6 : s₅.toks ≤ t6 ∧ t6 < s₈.toks := by
  rcases ht₈ with rfl | ⟨h1, h2⟩
  ·exact ⟨ht4.1, by omega⟩
  ·exact ⟨by omega, h2⟩
 refine args_cons ?_
 refine wpAny_Constant_int ?_
 refine args_cons ?_
 refine wpAny_Constant_int ?_
 refine args_nil ?_
 refine ⟨rfl, _, _, _, _, _, S₈, ?_⟩
 intro a3 h₉ S₉
 refine args_nil ?_
 refine ⟨rfl, _, _, _, _, _, S₉, ?_⟩
 intro fo h₁₀ S₁₀ htk₁₀
 have htk₁₁ : s₈.toks ≤ s₈.toks + 1 + 1 := by omega
 refine r_store S₁₀ (.new (by kernel_rfl)) ?_
 intro h₁₁ S₁₁
 refine restateT (by exact S₁₁) fun s₁₂ K₁₂ hk₁₂ S₁₂ => ?_
 replace K₁₂ : Kp s s₁₂ := ⟨K₁₂.os.trans K₈.os, fun z => K₁₂.gens (K₈.gens z)⟩
 have hk₁₂' : s₈.toks ≤ s₁₂.toks := by simp only at hk₁₂; omega
 obtain ⟨ns, hns⟩ : ∃ ns : List Nr, ns = [⟨a1, (WRD, 741), 18, s₁.toks, 18, s₁.toks + 1⟩, ⟨a2, (cutW 8, t2), 16, s₃.toks, 17, s₃.toks + 1⟩, ⟨a3, (zW x, t6), 16, s₈.toks, 18, s₈.toks + 1⟩] := ⟨_, rfl⟩
 have hN : NTk s.toks s₁₂.toks ns := by
  rw [hns]
  refine ⟨fun e he => ?_, ?_⟩
  ·rcases List.mem_cons.mp he with rfl | he
   ·exact .inl ⟨rfl, rfl⟩
   ·rcases List.mem_cons.mp he with rfl | he
    ·exact .inr ⟨by show s.toks ≤ t2; omega, by show t2 < s₁₂.toks; omega⟩
    ·rw [List.mem_singleton] at he; subst he
     exact .inr ⟨by show s.toks ≤ t6; omega, by show t6 < s₁₂.toks; omega⟩
  ·refine List.pairwise_cons.mpr ⟨fun e he => ?_, List.pairwise_cons.mpr ⟨fun e he => ?_, List.pairwise_singleton _ _⟩⟩
   ·rcases List.mem_cons.mp he with rfl | he
    ·show 741 < t2; omega
    ·rw [List.mem_singleton] at he; subst he
     show 741 < t6; omega
   ·rw [List.mem_singleton] at he; subst he
    show t2 < t6; omega
 have S₁₃ : St hb tabs L' [(Str.ofString "found", .ref fo), (Str.ofString "place", .int (x : Int) tp)] ((fo, lstO (refsN ns) 0) :: ((a3, tupO [strV (zW x, t6), .int 16 s₈.toks, .int 18 (s₈.toks + 1)]) :: (a2, tupO [strV (cutW 8, t2), .int 16 s₃.toks, .int 17 (s₃.toks + 1)]) :: (a1, tupO [strV (WRD, 741), .int 18 s₁.toks, .int 18 (s₁.toks + 1)]) :: (L, oL) :: T)) s₁₂.heap := by
  rw [hns]; exact S₁₂
 have hNr : NrOk [(a3, tupO [strV (zW x, t6), .int 16 s₈.toks, .int 18 (s₈.toks + 1)]), (a2, tupO [strV (cutW 8, t2), .int 16 s₃.toks, .int 17 (s₃.toks + 1)]), (a1, tupO [strV (WRD, 741), .int 18 s₁.toks, .int 18 (s₁.toks + 1)])] ns := by
  rw [hns]
  intro e he
  rcases List.mem_cons.mp he with rfl | he
  ·exact .tail _ (.tail _ (.head _))
  ·rcases List.mem_cons.mp he with rfl | he
   ·exact .tail _ (.head _)
   ·rw [List.mem_singleton] at he; subst he
    exact .head _
 have hnk : ns.map Nr.k = near3 x := by rw [hns]; rfl
 have S₁₄ : St hb tabs L' [(Str.ofString "found", .ref fo), (Str.ofString "place", .int (x : Int) tp)] ((fo, lstO (refsN ns) 0) :: ([(a3, tupO [strV (zW x, t6), .int 16 s₈.toks, .int 18 (s₈.toks + 1)]), (a2, tupO [strV (cutW 8, t2), .int 16 s₃.toks, .int 17 (s₃.toks + 1)]), (a1, tupO [strV (WRD, 741), .int 18 s₁.toks, .int 18 (s₁.toks + 1)])] ++ ((L, oL) :: T))) s₁₂.heap := S₁₃
 generalize [(a3, tupO [strV (zW x, t6), .int 16 s₈.toks, .int 18 (s₈.toks + 1)]), (a2, tupO [strV (cutW 8, t2), .int 16 s₃.toks, .int 17 (s₃.toks + 1)]), (a1, tupO [strV (WRD, 741), .int 18 s₁.toks, .int 18 (s₁.toks + 1)])] = X₀ at S₁₄ hNr
 clear S₁₃ S₁₂ S₁₁ S₁₀ S₉ S₈ S₇ S₆ S₅ S₄ S₃ S₂ S₁
 clear hns
 refine q_for ?_
 refine wpAny_with_toks (Nat.le_refl s₁₂.toks) ?_
 refine r_call ?_
 refine r_builtin G S₁₄ boot_range ?_
 refine cw_type ?_
 refine args_cons ?_
 refine wpAny_Constant_int ?_
 refine args_cons ?_
 refine wpAny_Constant_int ?_
 refine args_nil ?_
 refine r_range (by exact S₁₄) ?_
 intro rg tg h₁₅ tk₁₅ S₁₅ htk₁₅
 refine r_iterR S₁₅ m0 (by decide) (by decide) (by decide) (by decide) ?_
 intro I o Wt fp h₁₆ IV hw S₁₆
 have S₁₇ : St hb tabs L' [(Str.ofString "found", .ref fo), (Str.ofString "place", .int (x : Int) tp)] (((fo, lstO (refsN ns) 0) :: (X₀ ++ ((L, oL) :: T))) ++ [(I, o)]) h₁₆ := S₁₆.sub (List.sublist_cons_self _ _)
 refine for_walkT (own := [(I, o)]) (Ro := []) (IV.walks (A.deeper _) hh) (fun i h hi b hb' => by rw [List.mem_singleton] at hb'; subst hb'; exact IV.ex i h hi) rfl IV.ro S₁₇ hw
  (fun i tk l₁ T₁ => ∃ ns X c, l₁ = [(Str.ofString "found", .ref fo), (Str.ofString "place", .int (x : Int) tp)] ∧ T₁ = (fo, lstO (refsN ns) c) :: (X ++ ((L, oL) :: T)) ∧ NrOk X ns ∧ ns.map Nr.k = near3 x ++ (List.range i).map nearOf ∧ NTk s.toks tk ns ∧ 776 ≤ tk ∧ s.toks ≤ tk) ?hmono ?_ (fun p hp => (by cases hp)) ?_ ?_
 case hmono =>
  rintro i tk tk' l T htk ⟨ns, X, c, h1, h2, h3, h4, h5, h6, h7⟩
  refine ⟨ns, X, c, h1, h2, h3, h4, ⟨fun e he => ?_, h5.inj⟩, Nat.le_trans h6 htk, Nat.le_trans h7 htk⟩
  rcases h5.tok e he with q | q
  ·exact .inl q
  ·exact .inr ⟨q.1, Nat.lt_of_lt_of_le q.2 htk⟩
 ·refine ⟨ns, X₀, 0, rfl, rfl, hNr, by simp [hnk], ⟨fun e he => ?_, hN.inj⟩, ?_, ?_⟩
  ·rcases hN.tok e he with q | q
   ·exact .inl q
   ·exact .inr ⟨q.1, Nat.lt_of_lt_of_le q.2 htk₁₅⟩
  ·show 776 ≤ tk₁₅; simp only at htk₁₅; omega
  ·show s.toks ≤ tk₁₅; simp only at htk₁₅; omega
 ·rintro E₁ i v l₁ T₁ own₁ s₁ hi ⟨ti, hv⟩ ⟨ns, X, c, rfl, rfl, hX, hk, hT, h776, hst⟩ S₂ hRo hKp
  replace hi : i < 7 := hi
  replace h776 : 776 ≤ s₁.toks := h776
  replace hst : s.toks ≤ s₁.toks := hst
  have hlen : ns.length = 3 + i := by
   have := congrArg List.length hk
   simp [near3] at this
   omega
  subst hv
  refine as_name ?_
  refine r_store S₂ (.new (by kernel_rfl)) ?_
  intro h₃ S₃
  refine q_expr ?_
  refine m_call ?_
  refine r_local S₃ m1 ?_
  refine r_lmeth S₃ m0 PySem.F.slot_list_append type_list_append ?_
  refine cw_builtin ?_
  refine args_cons ?_
  refine r_tuple ?_
  refine args_cons ?_
  refine r_cut (hb := hb) (tabs := tabs) ?_
  refine r_global G S₃ (v := .str WRD 741) (by kernel_rfl) ?_
  refine wpAny_BinOp ?_
  refine wpAny_Constant_int ?_
  refine r_local S₃ m0 ?_
  refine P.sub_int ?_
  refine ⟨741, _, _, _, _, 7 - i, rfl, by congr 1; omega, by omega, S₃, ?_⟩
  intro s₄ t4 K₄ hl₄ hu₄ S₄
  replace hl₄ : s₁.toks ≤ t4 := by simp only at hl₄; omega
  replace K₄ : Kp s₁ s₄ := ⟨K₄.os, K₄.gens⟩
  refine args_cons ?_
  refine wpAny_BinOp ?_
  refine wpAny_Constant_int ?_
  refine wpAny_BinOp ?_
  refine wpAny_Constant_int ?_
  refine r_local S₄ m0 ?_
  refine P.mul_int ?_ (IntMulOk.of_left (intBits_le_64 (by decide) (by decide)))
  refine P.sub_int ?_
  refine args_cons ?_
  refine wpAny_BinOp ?_
  refine wpAny_Constant_int ?_
  refine r_local S₄ m0 ?_
  refine P.sub_int ?_
  refine args_nil ?_
  refine ⟨rfl, _, _, _, _, _, S₄, ?_⟩
  intro an h₅ S₅
  refine args_nil ?_
  obtain ⟨ta, tb, S₆⟩ : ∃ ta tb, St hb tabs L' ((Str.ofString "less", .int (2 + (i : Int)) ti) :: [(Str.ofString "found", .ref fo), (Str.ofString "place", .int (x : Int) tp)]) ((an, tupO [.str (cutW (7 - i)) t4, .int ((14 - 2 * i : Nat) : Int) ta, .int ((16 - i : Nat) : Int) tb]) :: ((fo, lstO (refsN ns) c) :: (X ++ ((L, oL) :: T)) ++ own₁)) h₅ :=
   ⟨_, _, cast2 (P := fun u v => St hb tabs L' ((Str.ofString "less", .int (2 + (i : Int)) ti) :: [(Str.ofString "found", .ref fo), (Str.ofString "place", .int (x : Int) tp)]) ((an, tupO [.str (cutW (7 - i)) t4, .int u _, .int v _]) :: ((fo, lstO (refsN ns) c) :: (X ++ ((L, oL) :: T)) ++ own₁)) h₅) S₅ (by omega) (by omega)⟩
  have hu₄' : s₄.toks ≤ s₄.toks + 1 + 1 + 1 + 1 + 1 + 1 := by omega
  refine r_append 1 S₆ rfl ?_ (by rw [refsN_len]; omega)
  intro h₇ S₇
  have e3 : refsN ns ++ [.ref an] = refsN (ns ++ [⟨an, (cutW (7 - i), t4), 14 - 2 * i, ta, 16 - i, tb⟩]) := by simp [refsN]
  have S₈ : St hb tabs L' [(Str.ofString "found", .ref fo), (Str.ofString "place", .int (x : Int) tp)] (((fo, lstO (refsN (ns ++ [⟨an, (cutW (7 - i), t4), 14 - 2 * i, ta, 16 - i, tb⟩])) (c + 1)) :: (((an, tupO [.str (cutW (7 - i)) t4, .int ((14 - 2 * i : Nat) : Int) ta, .int ((16 - i : Nat) : Int) tb]) :: X) ++ ((L, oL) :: T))) ++ own₁) h₇ := by
   rw [← e3]
   exact ((S₇.forget (List.sublist_cons_self _ _)).perm (List.Perm.swap _ _ _))
  refine restateT (by exact S₈) fun s₉ K₉ hk₉ S₉ => ?_
  replace K₉ : Kp s₁ s₉ := ⟨K₉.os.trans K₄.os, fun z => K₉.gens (K₄.gens z)⟩
  have hu₉ : s₄.toks ≤ s₉.toks := by simp only at hk₉; omega
  refine q_nil ?_
  refine ⟨_, _, S₉, ⟨ns ++ [⟨an, (cutW (7 - i), t4), 14 - 2 * i, ta, 16 - i, tb⟩], (an, tupO [.str (cutW (7 - i)) t4, .int ((14 - 2 * i : Nat) : Int) ta, .int ((16 - i : Nat) : Int) tb]) :: X, c + 1, rfl, rfl, ?_, ?_, ⟨?_, ?_⟩, ?_, ?_⟩, (fun p hp => (by cases hp)), ?_⟩
  ·intro e he
   rcases List.mem_append.mp he with q | q
   ·exact .tail _ (hX e q)
   ·rw [List.mem_singleton] at q; subst q
    exact .head _
  ·rw [List.map_append, hk, List.range_succ, List.map_append, List.append_assoc]
   rfl
  ·intro e he
   rcases List.mem_append.mp he with q | q
   ·rcases hT.tok e q with q | q
    ·exact .inl q
    ·exact .inr ⟨q.1, by have := q.2; omega⟩
   ·rw [List.mem_singleton] at q; subst q
    exact .inr ⟨by show s.toks ≤ t4; omega, by show t4 < s₉.toks; omega⟩
  ·rw [List.pairwise_append]
   refine ⟨hT.inj, List.pairwise_singleton _ _, fun a ha b hb => ?_⟩
   rw [List.mem_singleton] at hb; subst hb
   show a.t < t4
   rcases hT.tok a ha with q | q
   ·have h1 : a.t = 741 := q.1
    have h2 : 741 < t4 := by omega
    rw [h1]; exact h2
   ·exact Nat.lt_of_lt_of_le q.2 hl₄
  ·show 776 ≤ s₉.toks; omega
  ·show s.toks ≤ s₉.toks; omega
  ·exact ⟨K₉.os.trans hKp.os, fun z => K₉.gens (hKp.gens z)⟩
 ·rintro s' l' T' hKp S₂ ⟨ns, X, c, rfl, rfl, hX, hk, hT, h776, hst⟩ hRo
  refine q_ret ?_
  refine r_local S₂ m0 ?_
  have S₃ := (S₂.perm (T' := (L, oL) :: (fo, lstO (refsN ns) c) :: (X ++ T)) (List.perm_middle (l₁ := (fo, lstO (refsN ns) c) :: X))).leave 0 rfl r
  exact k s' X fo c ns ⟨hKp.os.trans K₁₂.os, fun z => hKp.gens (K₁₂.gens z)⟩ (by exact S₃) hX hk hT
end
end
section
open PySem.Spec
structure Scr (hb : Heap) (sc : Addr) (scv : List Value) : Prop where
 obj : ∃ o n, hb.get? sc = some o ∧ o.cls = .type "list" ∧ o.data = .seq scv.toArray n
 nt : sc ∉ tabs
 isInts : ∀ v ∈ scv, ∃ i t, v = .int i t
 small : scv.length ≤ 63
theorem Scr.isList {hb : Heap} {sc : Addr} {scv : List Value} (H : Scr hb sc scv) {L : Addr} {l : List (Str × Value)} {T : List (Addr × Obj)} {h : Heap} (S : St hb tabs L l T h) : h.IsList sc scv.toArray := by
 obtain ⟨o, n, a, b, c⟩ := H.obj
 exact ⟨o, S.old a H.nt, b, n, c⟩
theorem r_int {M : Model} {A : Around} {E : Value → Shared → Prop} {s : Shared} {env : Env} {hb : Heap} {tabs : List Addr} {L : Addr} {l : List (Str × Value)} {T : List (Addr × Obj)} {i : Int} {k : Nat} {pos : Pos} {Q : Value → Shared → Prop} (S : St hb tabs L l T s.heap)
  (h : ∀ (s' : Shared) (t : Tok), Kp s s' → s.toks ≤ s'.toks → St hb tabs L l T s'.heap → Q (.int i t) s') : wpAny M A (eval (.Constant (.int i) k pos) env) Q E s :=
 wpAny_Constant_int (h _ _ ⟨rfl, id⟩ (Nat.le_succ _) S)
theorem ints8 (a b c d e f g h : Int) (t1 t2 t3 t4 t5 t6 t7 t8 : Tok) : ∀ v ∈ [Value.int a t1, .int b t2, .int c t3, .int d t4, .int e t5, .int f t6, .int g t7, .int h t8], ∃ i t, v = Value.int i t := by
 intro v hv
 simp at hv
 rcases hv with rfl | rfl | rfl | rfl | rfl | rfl | rfl | rfl <;> exact ⟨_, _, rfl⟩
section
variable {w : World} {A : Around} {E : Value → Shared → Prop} {s : Shared} {hb : Heap} {L sc wds : Addr} {T : List (Addr × Obj)} {l : List (Str × Value)} {R : Result → Shared → Prop} {scv : List Value} {ws : List (Str × Tok)} {nw : Nat}
theorem laid_c (G : Gd (KN w.params) tabs hb) (S : St hb tabs L l T s.heap) (hd : A.depth + 10 < recursionLimit) (hu : A.units + 100 < cLine) (hh : A.handled = none) (H : Scr hb sc scv) (hw : (wds, lstO (ws.map strV) nw) ∈ T) (hl : ws.length ≤ 60)
  (k : ∀ (s' : Shared) (X : List (Addr × Obj)) (r : Addr) (nr : Nat) (row : List (Str × Tok)), Kp s s' → St hb tabs L l ((r, lstO (row.map strV) nr) :: (X ++ T)) s'.heap → row.Perm ws → R (.ok (.ret (.ref r))) s') :
  codeAny (model pw w) A (.call (.ref 301) ⟨[.ref sc, .ref wds], []⟩) R s := by
 refine c_def G S (lk301 _) (by omega) (binds := [(Str.ofString "script", .ref sc), (Str.ofString "words", .ref wds)]) (body := fnBody (st1 pw 15)) (BindsTo.of_eq (by kernel_rfl)) ?_
 intro L' h₁ oL r S₁
 refine q_assign ?_
 refine r_list ?_
 refine args_nil ?_
 refine ⟨rfl, _, _, _, _, _, S₁, ?_⟩
 intro fo h₂ S₂
 refine r_store S₂ (.new (by kernel_rfl)) ?_
 intro h₃ S₃
 refine restate (by exact S₃) fun s₃ K₃ S₃ => ?_
 replace K₃ : Kp s s₃ := ⟨K₃.os, K₃.gens⟩
 refine q_assign ?_
 refine wpAny_BinOp ?_
 refine r_call ?_
 refine r_builtin G S₃ (v := .type "list") (by kernel_rfl) ?_
 refine cw_type ?_
 refine args_cons ?_
 refine slice_uptoI (hb := hb) (tabs := tabs) ?_
 refine r_local S₃ m1 ?_
 refine wpAny_Constant_int ?_
 refine ⟨_, _, _, sc, 8, _, scv, rfl, rfl, S₃, H.isList S₃, by have := H.small; omega, ?_⟩
 intro D₄ X₄ h₄ S₄
 refine args_nil ?_
 refine r_listOf (vs := scv.take 8) (n := 0) S₄ (.inl rfl) (S₄.obj _ m0) rfl rfl (by rw [List.length_take]; omega) ?_
 intro D₅ c₅ h₅ S₅
 refine restate (by exact S₅) fun s₅ K₅ S₅ => ?_
 replace K₅ : Kp s s₅ := ⟨K₅.os.trans K₃.os, fun z => K₅.gens (K₃.gens z)⟩
 refine r_list ?_
 refine args_cons ?_
 refine r_int S₅ ?_
 intro u0 t0 Ku0 _ Su0
 refine args_cons ?_
 refine r_int Su0 ?_
 intro u1 t1 Ku1 _ Su1
 refine args_cons ?_
 refine r_int Su1 ?_
 intro u2 t2 Ku2 _ Su2
 refine args_cons ?_
 refine r_int Su2 ?_
 intro u3 t3 Ku3 _ Su3
 refine args_cons ?_
 refine r_int Su3 ?_
 intro u4 t4 Ku4 _ Su4
 refine args_cons ?_
 refine r_int Su4 ?_
 intro u5 t5 Ku5 _ Su5
 refine args_cons ?_
 refine r_int Su5 ?_
 intro u6 t6 Ku6 _ Su6
 refine args_cons ?_
 refine r_int Su6 ?_
 intro u7 t7 Ku7 _ Su7
 have Ku : Kp s u7 := K₅.trans (Ku0.trans (Ku1.trans (Ku2.trans (Ku3.trans (Ku4.trans (Ku5.trans (Ku6.trans Ku7)))))))
 refine args_nil ?_
 refine ⟨rfl, _, _, _, _, _, Su7, ?_⟩
 intro D₆ h₆ S₆
 obtain ⟨ks, S₆, hkl, hki⟩ : ∃ ks : List Value, St hb tabs L' [(Str.ofString "found", .ref fo), (Str.ofString "script", .ref sc), (Str.ofString "words", .ref wds)] ((D₆, lstO ks 0) :: (D₅, lstO (scv.take 8) c₅) :: (D₄, lstO (scv.take 8) 0) :: (X₄ ++ ((fo, lstO [] 0) :: (L, oL) :: T))) h₆ ∧ ks.length = 8 ∧ (∀ v ∈ ks, ∃ i t, v = .int i t) := by
  refine ⟨_, S₆, rfl, ?_⟩
  exact ints8 _ _ _ _ _ _ _ _ _ _ _ _ _ _ _ _
 have htl : (scv.take 8).length ≤ 8 := by rw [List.length_take]; omega
 refine r_addL (by exact S₆) m1 m0 (by omega) ?_
 intro nb h₇ S₇
 refine r_store S₇ (.new (by kernel_rfl)) ?_
 intro h₈ S₈
 have S₈' := (S₈.sub (List.Sublist.cons_cons _ (.cons _ (.cons _ (.cons _ (List.sublist_append_right X₄ _)))))).perm (List.Perm.swap _ _ _)
 obtain ⟨nvs, hnl, hni, S₉⟩ : ∃ (nvs : List Value), (0 < nvs.length ∧ nvs.length ≤ 16) ∧ (∀ v ∈ nvs, ∃ i t, v = .int i t) ∧ St hb tabs L' [(Str.ofString "numbers", .ref nb), (Str.ofString "found", .ref fo), (Str.ofString "script", .ref sc), (Str.ofString "words", .ref wds)] ((fo, lstO ([] : List Value) 0) :: (nb, lstO nvs 0) :: (L, oL) :: T) h₈ := by
  refine ⟨scv.take 8 ++ ks, ?_, ?_, S₈'⟩
  ·rw [List.length_append, hkl]; omega
  ·intro v hv
   rcases List.mem_append.mp hv with q | q
   ·exact H.isInts v (List.mem_of_mem_take q)
   ·exact hki v q
 clear S₈'
 clear S₈ S₇ S₆ S₅ S₄ S₃ S₂ S₁
 refine restate (by exact S₉) fun s₉ K₉ S₉ => ?_
 replace K₉ : Kp s s₉ := ⟨K₉.os.trans Ku.os, fun z => K₉.gens (Ku.gens z)⟩
 have hwm : (wds, lstO (ws.map strV) nw) ∈ (fo, lstO ([] : List Value) 0) :: (nb, lstO nvs 0) :: (L, oL) :: T := .tail _ (.tail _ (.tail _ hw))
 refine q_for ?_
 refine r_call ?_
 refine r_builtin G S₉ boot_enumerate ?_
 refine cw_type ?_
 refine args_cons ?_
 refine r_local S₉ m3 ?_
 refine args_nil ?_
 refine r_enumL S₉ hwm ?_
 intro I J o o' Wt Mid fp h₁₀ IU hW S₁₀
 have hwsl : (ws.map strV).length = ws.length := List.length_map ..
 refine (IU.walks (A.deeper _) hh).self 0 _ _ _ ?_ ?_
 ·exact hW
 refine for_walkU (own := [(I, o), (J, o')]) (Ro := [(wds, lstO (ws.map strV) nw)]) hh (IU.walks (A.deeper _) hh) IU.ex rfl IU.ro S₁₀ hW
  (fun i l₁ T₁ => l₁ = [(Str.ofString "numbers", .ref nb), (Str.ofString "found", .ref fo), (Str.ofString "script", .ref sc), (Str.ofString "words", .ref wds)] ∧
   ∃ (row : List (Str × Tok)) (c : Nat), T₁ = (fo, lstO (row.map strV) c) :: (nb, lstO nvs 0) :: (L, oL) :: T ∧ row.Perm (ws.take i))
  ⟨rfl, [], 0, rfl, by simp⟩ (fun p hp => by rw [List.mem_singleton] at hp; subst hp; exact hwm) ?_ (by kernel_rfl) ?_ ?_
 ·rintro i vals ⟨t, y, -, rfl⟩
  rfl
 ·rintro E₁ i vals l₁ T₁ own₁ s₁ hi ⟨t, y, hy, rfl⟩ ⟨rfl, row, c, rfl, hrow⟩ S₂ hRo hKp
  rw [hwsl] at hi
  have hrl : row.length = i := by
   rw [hrow.length_eq, List.length_take]; omega
  have hy' : y = strV ws[i] := by
   have : (ws.map strV)[i]? = some (strV ws[i]) := by simp [hi]
   rw [this] at hy; exact (Option.some.inj hy).symm
  subst hy'
  refine as_each ?_
  refine r_store S₂ (.new (by kernel_rfl)) ?_
  intro h₃ S₃
  refine as_each ?_
  refine r_store S₃ (.new (by kernel_rfl)) ?_
  intro h₄ S₄
  refine as_none ?_
  refine restate (by exact S₄) fun s₄ K₄ S₄ => ?_
  replace K₄ : Kp s₁ s₄ := ⟨K₄.os, K₄.gens⟩
  refine q_assign ?_
  refine wpAny_BinOp ?_
  refine r_sub list_getitem_lookup ?_
  refine r_local S₄ m2 ?_
  refine wpAny_BinOp ?_
  refine r_local S₄ m1 ?_
  refine r_call ?_
  refine r_builtin G S₄ boot_len ?_
  refine cw_builtin ?_
  refine args_cons ?_
  refine r_local S₄ m2 ?_
  refine args_nil ?_
  refine PyProof.Rows.len_list (items := nvs.toArray) (S₄.isList m1) (by rw [List.size_toArray]; omega) ?_
  rw [List.size_toArray]
  refine mod_int' (by omega) ?_
  have hidx : i % nvs.length < nvs.length := Nat.mod_lt _ hnl.1
  obtain ⟨iv, it, hiv⟩ := hni nvs[i % nvs.length] (List.getElem_mem hidx)
  have e1 : ((i : Int)).fmod (nvs.length : Int) = ((i % nvs.length : Nat) : Int) := by
   rw [Int.fmod_eq_emod_of_nonneg _ (by omega)]; exact (Int.natCast_emod _ _).symm
  rw [e1]
  refine ⟨⟨_, S₄.obj _ m1, rfl⟩, ?_⟩
  refine gi_list (x := .int iv it) (by exact S₄) m1 (by omega) (by rw [List.getElem?_eq_getElem hidx, hiv]) ?_
  refine r_local (by exact S₄) m1 ?_
  refine P.add_int ?_
  refine r_store (by exact S₄) (.new (by kernel_rfl)) ?_
  intro h₅ S₅
  refine restate (by exact S₅) fun s₅ K₅ S₅ => ?_
  replace K₅ : Kp s₁ s₅ := ⟨K₅.os.trans K₄.os, fun z => K₅.gens (K₄.gens z)⟩
  refine q_expr ?_
  refine m_call ?_
  refine r_local S₅ m4 ?_
  refine r_lmeth S₅ m0 PySem.F.slot_list_insert PySem.F.type_list_insert ?_
  refine cw_builtin ?_
  refine args_cons ?_
  refine wpAny_BinOp ?_
  refine r_local S₅ m0 ?_
  refine wpAny_BinOp ?_
  refine r_call ?_
  refine r_builtin G S₅ boot_len ?_
  refine cw_builtin ?_
  refine args_cons ?_
  refine r_local S₅ m4 ?_
  refine args_nil ?_
  refine PyProof.Rows.len_list (items := (row.map strV).toArray) (S₅.isList m0) (by rw [List.size_toArray, List.length_map]; omega) ?_
  rw [List.size_toArray, List.length_map]
  refine wpAny_Constant_int ?_
  refine P.add_int ?_
  refine mod_int' (by omega) ?_
  obtain ⟨x, hx⟩ : ∃ x, x = (iv + (i : Int)).fmod ((row.length : Int) + 1) := ⟨_, rfl⟩
  have hx2 : x = (iv + (i : Int)) % ((row.length : Int) + 1) := by rw [hx]; exact Int.fmod_eq_emod_of_nonneg _ (by omega)
  have hx0 : 0 ≤ x := by rw [hx2]; exact Int.emod_nonneg _ (by omega)
  have hx1 : x < (row.length : Int) + 1 := by rw [hx2]; exact Int.emod_lt_of_pos _ (by omega)
  rw [← hx]
  refine args_cons ?_
  refine r_local (by exact S₅) m1 ?_
  refine args_nil ?_
  refine r_insert 0 (by exact S₅) rfl hx0 (by rw [List.length_map]; omega) (by rw [List.length_map]; omega) ?_
  intro h₆ c₆ S₆
  refine q_nil ?_
  have e2 : (row.map strV).take x.toNat ++ strV ws[i] :: (row.map strV).drop x.toNat = (row.take x.toNat ++ ws[i] :: row.drop x.toNat).map strV := by simp [List.map_take, List.map_drop]
  have S₇ : St hb tabs L' [(Str.ofString "numbers", .ref nb), (Str.ofString "found", .ref fo), (Str.ofString "script", .ref sc), (Str.ofString "words", .ref wds)] (((fo, lstO ((row.take x.toNat ++ ws[i] :: row.drop x.toNat).map strV) c₆) :: (nb, lstO nvs 0) :: (L, oL) :: T) ++ own₁) h₆ := by
   rw [← e2]
   exact S₆.forget (.cons _ (.cons _ (.cons _ (List.Sublist.refl _))))
  refine ⟨_, _, S₇, ⟨rfl, _, c₆, rfl, ?_⟩, (fun p hp => by rw [List.mem_singleton] at hp; subst hp; exact .tail _ (.tail _ (.tail _ hw))), ⟨K₅.os.trans hKp.os, fun z => K₅.gens (hKp.gens z)⟩⟩
  rw [List.take_add_one, List.getElem?_eq_getElem hi]
  refine List.perm_middle.trans ?_
  rw [List.take_append_drop]
  exact (List.Perm.cons _ hrow).trans (List.perm_append_comm (l₁ := [ws[i]]))
 ·rintro s' l' T' hKp S₂ ⟨rfl, row, c, rfl, hrow⟩ hRo
  rw [hwsl, List.take_length] at hrow
  refine q_ret ?_
  refine r_local S₂ m1 ?_
  have S₃ := (S₂.perm (T' := (L, oL) :: (fo, lstO (row.map strV) c) :: ([(nb, lstO nvs 0)] ++ T)) (List.perm_append_comm (l₁ := [(fo, lstO (row.map strV) c), (nb, lstO nvs 0)]) (l₂ := [(L, oL)]) |>.append_right T)).leave 0 rfl r
  exact k s' [(nb, lstO nvs 0)] fo c row ⟨hKp.os.trans K₉.os, fun z => hKp.gens (K₉.gens z)⟩ (by exact S₃) hrow
end
end
section
def strangersR : List Str := [Str.ofString "ZZZZZZZZZ", Str.ofString "JKLMNOPQR", Str.ofString "ABC", Str.ofString ""]
def UU (p : Nat) : List Str := (nearL p).map (·.1) ++ strangersR
def rkU (p : Nat) (x : Str) : Nat := 20 - (UU p).idxOf x
def one64 : UInt64 := 4607182418800017408
def shF (b c : Nat) : UInt64 := Float64.div (Float64.mul one64 (Float64.ofInt b)) (Float64.ofInt c)
def geF (c f : UInt64) : Bool := Float64.cmp f c == some Ordering.gt || Float64.cmp f c == some Ordering.eq
def scs : List UInt64 := [shF 18 18, shF 16 17, shF 16 18, shF 14 16, shF 12 15, shF 10 14, shF 8 13, shF 6 12, shF 4 11, shF 2 10, 0, 0, 0, 0]
theorem near_len (p : Nat) : (nearL p).length = 10 := rfl
theorem scr_tab : ∀ p : Fin 9, ((UU p.val).map fun x => scr x WRD) = scs := by decide +kernel
theorem UU_nodup : ∀ p : Fin 9, (UU p.val).Nodup := by decide +kernel
def rkB (p : Nat) : Bool := (List.range 14).all fun i => (List.range 14).all fun j =>
 let f := scs.getD i 0
 let f' := scs.getD j 0
 let x := (UU p).getD i WRD
 let x' := (UU p).getD j WRD
 let eq := Float64.cmp f f' == some Ordering.eq
 ((eq && x == x') == (i == j)) &&
 (eq || ((Float64.cmp f f' == some Ordering.lt) == decide (j < i))) &&
 (!eq || (decide (x.cps.toList < x'.cps.toList) == decide (j < i))) &&
 (eq || ((Float64.cmp f f' == some Ordering.gt) == decide (i < j))) &&
 (!eq || (decide (x'.cps.toList < x.cps.toList) == decide (i < j)))
theorem rkB_all : ∀ p : Fin 9, rkB p.val = true := by decide +kernel
def geI (f : UInt64) : Bool := Float64.cmpInt f 0 == some Ordering.gt || Float64.cmpInt f 0 == some Ordering.eq
theorem kept_one : ∀ p : Fin 9, ((UU p.val).filter fun x => kept (geF one64) x WRD) = (UU p.val).take 1 := by decide +kernel
theorem kept_at : ∀ p : Fin 9, ∀ a : Fin 10, ((UU p.val).filter fun x => kept (geF (scs.getD a.val 0)) x WRD) = (UU p.val).take (a.val + 1) := by decide +kernel
theorem kept_zero : ∀ p : Fin 9, ((UU p.val).filter fun x => kept geI x WRD) = UU p.val := by decide +kernel
theorem rkU_inj : ∀ p : Fin 9, ((UU p.val).all fun a => (UU p.val).all fun b => rkU p.val a != rkU p.val b || a == b) = true := by decide +kernel
theorem rkU_fall : ∀ p : Fin 9, ∀ m : Fin 3, (List.replicate m.val WRD ++ UU p.val).Pairwise fun a b => rkU p.val b ≤ rkU p.val a := by decide +kernel
theorem strg_perm : ([Str.ofString "ABC", Str.ofString "", Str.ofString "ZZZZZZZZZ", Str.ofString "JKLMNOPQR"] : List Str).Perm strangersR := by decide +kernel
theorem UU_size : ∀ p : Fin 9, ((UU p.val).all fun x => decide (x.cps.size ≤ 9)) = true := by decide +kernel
theorem cut_ok : ((one64 :: scs.take 10).all fun c => (Float64.cmp 0 c == some Ordering.lt || Float64.cmp 0 c == some Ordering.eq) && (Float64.cmp c 4607182418800017408 == some Ordering.lt || Float64.cmp c 4607182418800017408 == some Ordering.eq)) = true := by decide +kernel
theorem cut_zero : (Float64.cmpInt 0 0 == some Ordering.lt || Float64.cmpInt 0 0 == some Ordering.eq) = true ∧ (Float64.cmpInt 4607182418800017408 0 == some Ordering.gt || Float64.cmpInt 4607182418800017408 0 == some Ordering.eq) = true := by decide +kernel
theorem quick_at : ∀ p : Fin 9, ((nearL p.val).map fun e => share (qp (letters WRD) (letters e.1)) ((letters e.1).length + (letters WRD).length)) = (nearL p.val).map fun e => shF e.2.1 e.2.2 := by decide +kernel
theorem real_at : ∀ p : Fin 9, ((nearL p.val).all fun e => !(Float64.cmp (share (min (letters e.1).length (letters WRD).length) ((letters e.1).length + (letters WRD).length)) (shF e.2.1 e.2.2) == some Ordering.lt)) = true := by decide +kernel
end
section
abbrev setD (es : Array (Int × Value)) (ep : Nat) (t : SetTable) : Obj := { cls := .type "set", dict := none, data := .set es ep t }
def addPure (es : Array (Int × Value)) (t : SetTable) (x : Value) (h : Int) : Option (Array (Int × Value) × SetTable) :=
 match (t.place.size != es.size || decide (t.fill > t.mask)) || t.gaveWay with
 | true => none
 | false =>
 match t.probe (fun i => (es[i]?.map (·.1)).getD 0) h (t.probeStart h) with
 | some (.empty j none) =>
  match (t.put j).1.tooFull with
  | false => some (SetTable.insertAt es (t.put j).2 (h, x), (t.put j).1)
  | true =>
   match (t.put j).1.relaid ((SetTable.insertAt es (t.put j).2 (h, x)).map (·.1)) (SetTable.grown (es.size + 1)) with
   | some (t2, order) =>
    match ((t.put j).1.place.size != (SetTable.insertAt es (t.put j).2 (h, x)).size || decide ((t.put j).1.fill > (t.put j).1.mask)) || decide (SetTable.sizeAbove (SetTable.grown (es.size + 1)) > 4096) || ((order.filterMap ((SetTable.insertAt es (t.put j).2 (h, x))[·]?)).size != (SetTable.insertAt es (t.put j).2 (h, x)).size) with
    | true => none
    | false => some (order.filterMap ((SetTable.insertAt es (t.put j).2 (h, x))[·]?), t2)
   | none => none
 | _ => none
theorem insertAt_size {α : Type} (xs : Array α) (p : Nat) (x : α) : (SetTable.insertAt xs p x).size ≤ xs.size + 1 := by
 unfold SetTable.insertAt
 simp only [Array.size_append, Array.size_push, Array.size_extract]
 omega
section
variable {prog : Program} {w : World} {A : Around} {E : Value → Shared → Prop} {s : Shared} {a : Addr} {es es' : Array (Int × Value)} {ep : Nat} {t t' : SetTable} {f : UInt64} {tk : Tok} {h : Int}
theorem wp_setState {Q : (Array (Int × Value) × Nat × SetTable) → Shared → Prop} (ho : s.heap.get? a = some (setD es ep t)) (hc : (t.place.size != es.size || decide (t.fill > t.mask)) = false) (hq : Q (es, ep, t) s) : wpAny (model prog w) A (setState a) Q E s := by
 unfold setState
 refine wpAny_bind (wpAny_load ho ?_)
 dsimp only
 rw [hc]
 simp only [Bool.false_eq_true, ↓reduceIte]
 exact wpAny_pure hq
theorem set_add_float {Q : Bool → Shared → Prop} (ho : s.heap.get? a = some (setD es ep t)) (hp : addPure es t (.float f tk) h = some (es', t')) (hf : (Float64.hash? f).isSome = true) (hz : es.size ≤ 100)
  (hQ : ∀ h' ep', Heap.SameBut a s.heap h' → h'.get? a = some (setD es' ep' t') → Q true { s with heap := h' }) : wpAny (model prog w) A (setAddHashed a (.float f tk) h) Q E s := by
 unfold addPure at hp
 cases hc : (t.place.size != es.size || decide (t.fill > t.mask)) || t.gaveWay with
 | true => rw [hc] at hp; cases hp
 | false =>
  rw [hc] at hp
  obtain ⟨hc1, hc2⟩ := Bool.or_eq_false_iff.mp hc
  cases hr : t.probe (fun i => (es[i]?.map (·.1)).getD 0) h (t.probeStart h) with
  | none => rw [hr] at hp; cases hp
  | some m =>
   rw [hr] at hp
   match m, hr with
   | .candidate j i n, hr => cases hp
   | .empty j (some d), hr => cases hp
   | .empty j none, hr =>
    dsimp only at hp
    unfold setAddHashed setAddHashedIn
    refine wpAny_holding (wpAny_bind (wp_setState ho hc1 ?_))
    dsimp only
    have hb : byScan (.float f tk) es = false := by simp [byScan, Value.scannable]
    rw [hb]
    simp only [Bool.false_eq_true, ↓reduceIte]
    refine wpAny_bind ?_
    unfold setSearch setSearchFrom
    refine wpAny_bind (wp_setState ho hc1 ?_)
    dsimp only
    rw [hc2]
    simp only [Bool.false_eq_true, ↓reduceIte]
    split
    rotate_left 1
    ·rename_i hmet
     exact absurd (hmet _ hr) id
    rename_i met hmet
    have hme : some met = some (SetTable.Met.empty j none) := hmet.symm.trans hr
    obtain rfl := Option.some.inj hme
    dsimp only
    refine wpAny_pure ?_
    dsimp only
    refine wpAny_bind (wp_setState ho hc1 ?_)
    dsimp only
    have hsz := insertAt_size es (t.put j).2 (h, Value.float f tk)
    have e1 := PySem.putSet_of (SetTable.insertAt es (t.put j).2 (h, Value.float f tk)) (t.put j).1 (o := setD es ep t) rfl
    have ho1 : (s.heap.update a (Obj.putSet (SetTable.insertAt es (t.put j).2 (h, Value.float f tk)) (t.put j).1)).get? a = some (setD (SetTable.insertAt es (t.put j).2 (h, Value.float f tk)) (ep + 1) (t.put j).1) := by
     rw [Heap.get?_update_self _ ho (by rw [e1]; rfl), e1]
    have hs1 := Heap.SameBut.update s.heap a (Obj.putSet (SetTable.insertAt es (t.put j).2 (h, Value.float f tk)) (t.put j).1)
    have tail : wpAny (model prog w) A (do
      storeSet a (SetTable.insertAt es (t.put j).2 (h, Value.float f tk)) (t.put j).1
      if (!false && (t.put j).1.tooFull) = true then do
       setRelay a (SetTable.grown (es.size + 1))
       pure true
      else pure true) Q E s := by
     refine wpAny_bind (PySem.wpAny_storeSet_of ho rfl ?_ (by rw [sizeLine_eq]; omega))
     cases hful : (t.put j).1.tooFull with
     | false =>
      rw [hful] at hp
      rw [if_neg (by simp)]
      cases hp
      exact wpAny_pure (hQ _ _ hs1 ho1)
     | true =>
      rw [hful] at hp
      rw [if_pos (by simp)]
      cases hrl : (t.put j).1.relaid ((SetTable.insertAt es (t.put j).2 (h, Value.float f tk)).map (·.1)) (SetTable.grown (es.size + 1)) with
      | none => rw [hrl] at hp; cases hp
      | some q =>
       obtain ⟨t2, order⟩ := q
       rw [hrl] at hp
       dsimp only at hp
       cases hc3 : ((t.put j).1.place.size != (SetTable.insertAt es (t.put j).2 (h, Value.float f tk)).size || decide ((t.put j).1.fill > (t.put j).1.mask)) || decide (SetTable.sizeAbove (SetTable.grown (es.size + 1)) > 4096) || ((order.filterMap ((SetTable.insertAt es (t.put j).2 (h, Value.float f tk))[·]?)).size != (SetTable.insertAt es (t.put j).2 (h, Value.float f tk)).size) with
       | true => rw [hc3] at hp; cases hp
       | false =>
        rw [hc3] at hp
        cases hp
        obtain ⟨hc4, hc5⟩ := Bool.or_eq_false_iff.mp hc3
        obtain ⟨hc6, hc7⟩ := Bool.or_eq_false_iff.mp hc4
        refine wpAny_bind ?_
        unfold setRelay
        refine wpAny_bind (wp_setState ho1 hc6 ?_)
        dsimp only
        have h8 := of_decide_eq_false hc7
        rw [if_neg (by rw [sizeLine_eq]; omega)]
        refine wpAny_bind ?_
        rw [hrl]
        have hsz2 : (order.filterMap ((SetTable.insertAt es (t.put j).2 (h, Value.float f tk))[·]?)).size = (SetTable.insertAt es (t.put j).2 (h, Value.float f tk)).size := by simpa using hc5
        show wpAny _ _ (if ((order.filterMap ((SetTable.insertAt es (t.put j).2 (h, Value.float f tk))[·]?)).size != (SetTable.insertAt es (t.put j).2 (h, Value.float f tk)).size) = true then _ else _) _ _ _
        rw [if_neg (by rw [hc5]; decide)]
        refine wpAny_pure ?_
        refine PySem.wpAny_storeSet_of ho1 rfl ?_ (by rw [hsz2, sizeLine_eq]; omega)
        have e2 := PySem.putSet_of (order.filterMap ((SetTable.insertAt es (t.put j).2 (h, Value.float f tk))[·]?)) t' (o := setD (SetTable.insertAt es (t.put j).2 (h, Value.float f tk)) (ep + 1) (t.put j).1) rfl
        refine wpAny_pure (hQ _ (ep + 1 + 1) (hs1.trans (Heap.SameBut.update _ a _)) ?_)
        rw [Heap.get?_update_self _ ho1 (by rw [e2]; rfl), e2]
    split
    ·refine wpAny_bind ?_
     show wpAny _ _ (pure (Float64.hash? f).isSome) _ _ _
     rw [hf]
     refine wpAny_pure ?_
     simp only [↓reduceIte]
     exact tail
    ·exact tail
end
end
section
def hF (f : UInt64) : Int := (Float64.hash? f).getD 0
def foldAdd : List (UInt64 × Tok) → Array (Int × Value) → SetTable → Option (Array (Int × Value) × SetTable)
 | [], es, tb => match tb.fits es.size with
  | true => some (es, tb)
  | false => none
 | p :: r, es, tb => match Nat.ble es.size 100 with
  | false => none
  | true => match addPure es tb (.float p.1 p.2) (hF p.1) with
   | some st => foldAdd r st.1 st.2
   | none => none
theorem fold10 (led : Bool) (t0 t1 t2 t3 t4 t5 t6 t7 t8 t9 : Tok) : (foldAdd [(shF 18 18, t0), (shF 16 17, t1), (shF 16 18, t2), (shF 14 16, t3), (shF 12 15, t4), (shF 10 14, t5), (shF 8 13, t6), (shF 6 12, t7), (shF 4 11, t8), (shF 2 10, t9)] #[] (.fresh 0 0 led)).map (fun st => st.1.size) = some 10 := by
 cases led <;> kernel_rfl
theorem hash_ok : ((scs.take 10).all fun f => (Float64.hash? f).isSome && decide (-(2 ^ 63 : Int) ≤ hF f) && decide (hF f < 2 ^ 63) && (hF f != -1)) = true := by decide +kernel
section
variable {prog : Program} {w : World} {A : Around} {E : Value → Shared → Prop} {s : Shared} {f : UInt64} {t : Tok}
theorem gives_float_hash {h : Int} (hf : Float64.hash? f = some h) : Gives (Builtin.«float.__hash__» ⟨[.float f t], []⟩) (.int h) := by
 refine .of_wp fun M A E s Q hq => ?_
 obtain ⟨hp, g, d, tk, os⟩ := s
 unfold Builtin.«float.__hash__»
 wp_walk
 rw [hf]
 wp_walk
 exact ⟨_, rfl, hq⟩
theorem wpAny_pyHash_float {Q : Int → Shared → Prop} (hs : (Float64.hash? f).isSome = true) (h0 : -(2 ^ 63 : Int) ≤ hF f) (h1 : hF f < 2 ^ 63) (h2 : (hF f != -1) = true) (h : Q (hF f) { s with toks := s.toks + 1 }) :
  wpAny (model prog w) A (pyHash (.float f t)) Q E s := by
 have hf : Float64.hash? f = some (hF f) := by
  unfold hF
  cases hh : Float64.hash? f with
  | none => rw [hh] at hs; cases hs
  | some x => rfl
 unfold pyHash
 have hv : [Value.float f t].any Value.onHeap = false := rfl
 refine wpAny_bind ?_
 rw [cRoomFor, if_neg (by rw [hv]; exact Bool.false_ne_true)]; refine wpAny_pure ?_
 refine wpAny_bind (wpAny_specialOf (AutoFloatOps.typeIs_float s f t) F.slot_float_hash.lookup ?_)
 show wpAny _ _ (if (some (Value.builtin "float.__hash__") == some Value.none) = true then _ else _) Q E s
 rw [if_neg (by rw [beq_builtin_none]; exact Bool.false_ne_true)]
 refine wpAny_bind (wpAny_specialOf (AutoFloatOps.typeIs_float s f t) F.slot_float_hash.lookup ?_)
 show wpAny _ _ (callSpecialIfBoundUnlessNone? (.float f t) "__hash__" _ >>= _) Q E s
 refine wpAny_bind (wpAny_callSpecialIfBoundUnlessNone?_slot (AutoFloatOps.typeIs_float s f t) F.slot_float_hash
  (call_gives F.slot_float_hash (AutoFloatOps.typeIs_float s f t) F.entry_float_hash (F.args_float_hash_1 _) (gives_float_hash hf) ?_))
 show wpAny _ _ (if (decide (-(2 : Int) ^ 63 ≤ hF f) && decide (hF f < 2 ^ 63)) = true then _ else _) Q E _
 rw [if_pos (by rw [decide_eq_true h0, decide_eq_true h1]; rfl)]
 have h3 : (hF f == -1) = false := by simpa using h2
 show wpAny _ _ (pure (if (hF f == -1) = true then -2 else hF f)) Q E _
 rw [h3]
 exact wpAny_pure h
end
end
section
abbrev fltV (p : UInt64 × Tok) : Value := .float p.1 p.2
section
variable {prog : Program} {w : World} {A : Around} {E : Value → Shared → Prop} {s : Shared} {hb : Heap} {tabs : List Addr} {L d I D : Addr} {l : List (Str × Value)} {T : List (Addr × Obj)} {n : Nat} {ps : List (UInt64 × Tok)}
def HashOk (ps : List (UInt64 × Tok)) : Prop := ∀ p ∈ ps, (Float64.hash? p.1).isSome = true ∧ -(2 ^ 63 : Int) ≤ hF p.1 ∧ hF p.1 < 2 ^ 63 ∧ (hF p.1 != -1) = true
theorem set_loop {R : Result → Shared → Prop} {es' : Array (Int × Value)} {tb' : SetTable} (hh : A.handled = none) (hok : HashOk ps) (hd : (d, lstO (ps.map fltV) n) ∈ T)
  (hR : ∀ s' ep', Kp s s' → St hb tabs L l ((D, setD es' ep' tb') :: T) s'.heap → tb'.fits es'.size = true → R (.ok (.ret .none)) s') :
  ∀ (k i : Nat) (es : Array (Int × Value)) (ep : Nat) (tb : SetTable) (o : Obj) (s₁ : Shared), ps.length - i = k → i ≤ ps.length → foldAdd (ps.drop i) es tb = some (es', tb') → Kp s s₁ → LitAt o d i → St hb tabs L l ((D, setD es ep tb) :: (I, o) :: T) s₁.heap →
   codeAny (model prog w) A (.builtin "set.update.loop" ⟨[.ref D, .ref I], []⟩) R s₁ := by
 intro k
 induction k with
 | zero =>
  intro i es ep tb o s₁ hk hi hf K ho S
  have hin : i = ps.length := by omega
  subst hin
  rw [List.drop_length] at hf
  unfold foldAdd at hf
  cases hft : tb.fits es.size with
  | false => rw [hft] at hf; cases hf
  | true =>
   rw [hft] at hf
   cases hf
   refine codeAny_builtin PyProof.Rows.F.entry_set_update_loop ?_
   rw [Around.under_plainId PyProof.Rows.F.plain_set_update_loop _]
   show wpAny _ A.in1 (pyNext (.ref I) >>= _) _ _ s₁
   have ho' : LitAt o d (ps.map fltV).length := by rw [List.length_map]; exact ho
   refine wpAny_bind (lit_end (vs := ps.map fltV) (T := (D, setD es' ep tb') :: T) hh (S.perm (List.Perm.cons _ (List.perm_append_comm (l₁ := [(I, o)]) (l₂ := T)))) ho' (.tail _ hd) fun h' S' => ?_)
   show wpAny _ A.in1 (ret Value.none) _ _ _
   exact wpAny_pure (hR _ ep ⟨K.os, K.gens⟩ S' hft)
 | succ k ih =>
  intro i es ep tb o s₁ hk hi hf K ho S
  have hlt : i < ps.length := by omega
  rw [List.drop_eq_getElem_cons hlt] at hf
  unfold foldAdd at hf
  cases hbl : Nat.ble es.size 100 with
  | false => rw [hbl] at hf; cases hf
  | true =>
   rw [hbl] at hf
   dsimp only at hf
   cases had : addPure es tb (.float ps[i].1 ps[i].2) (hF ps[i].1) with
   | none => rw [had] at hf; cases hf
   | some st =>
    obtain ⟨es1, tb1⟩ := st
    rw [had] at hf
    dsimp only at hf
    have hz : es.size ≤ 100 := Nat.le_of_ble_eq_true hbl
    refine codeAny_builtin PyProof.Rows.F.entry_set_update_loop ?_
    rw [Around.under_plainId PyProof.Rows.F.plain_set_update_loop _]
    show wpAny _ A.in1 (pyNext (.ref I) >>= _) _ _ s₁
    have hx : (ps.map fltV)[i]? = some (fltV ps[i]) := by simp [hlt]
    refine wpAny_bind (lit_next 1 S rfl ho (.tail _ (.tail _ hd)) hx fun h₂ o₂ ho₂ S₂ => ?_)
    obtain ⟨k1, k2, k3, k4⟩ := hok ps[i] (List.getElem_mem hlt)
    show wpAny _ A.in1 (holding [fltV ps[i]] (setAdd D (.float ps[i].1 ps[i].2)) >>= _) _ _ _
    refine wpAny_bind (wpAny_holding ?_)
    unfold setAdd
    refine wpAny_holding ?_
    refine wpAny_bind (wpAny_pyHash_float k1 k2 k3 k4 ?_)
    refine set_add_float (S₂.obj _ m0) had k1 hz fun h₃ ep₃ hs₃ ho₃ => ?_
    have S₃ := S₂.change (o' := setD es1 ep₃ tb1) 0 rfl hs₃ ho₃
    refine wpAny_pure ⟨plainId_quiet PyProof.Rows.F.plain_set_update_loop _, ?_⟩
    exact ih (i + 1) es1 ep₃ tb1 o₂ _ (by omega) hlt hf ⟨K.os, K.gens⟩ ho₂ S₃
theorem r_setF {Q : Value → Shared → Prop} {m : Nat} (hh : A.handled = none) (S : St hb tabs L l T s.heap) (hm : (d, lstO (ps.map fltV) n) ∈ T) (hok : HashOk ps)
  (hf : ∀ led, (foldAdd ps #[] (.fresh 0 0 led)).map (fun st => st.1.size) = some m)
  (h : ∀ (s' : Shared) D es ep tb, Kp s s' → es.size = m → tb.fits es.size = true → St hb tabs L l ((D, setD es ep tb) :: T) s'.heap → Q (.ref D) s') :
  wpAny (model prog w) A (call (.type "set") [.ref d]) Q E s := by
 obtain ⟨c, tl, hmro⟩ := PySem.F.called_set.mro
 have hmade := PySem.F.called_set.made
 have hsub := PySem.F.called_set.sub
 refine wpAny_call (codeAny_of_tree ?_)
 show wpAny _ _ (callAny (.type "set") _) _ _ _
 refine wpAny_pure ⟨Code.quiet_builtin _ (by decide +kernel), codeAny_builtin PySem.F.entry_type_call ?_⟩
 rw [Around.under_plain (weight_type_call_type "set" [.ref d] []) rfl]
 have h1 := PySem.F.called_set.notType
 have h2 := PySem.F.called_set.canCreate
 have hct := PySem.F.typeCall_set_1 (.ref d)
 repeat (any_goals (first | assumption | wp_step))
 refine codeAny_mono (PySem.code_set_new_1 (.ref d) (E := E) (Q₁ := fun obj s₁ => ∃ led : Bool, obj = .ref s.heap.objs.size ∧ s₁ = { s with heap := s.heap.push { cls := .type "set", dict := none, data := .set #[] 0 (.fresh 0 0 led) } }) fun led => ⟨led, rfl, rfl⟩) fun r s₁ hr => ?_
 cases r with
 | error e => exact hr
 | ok fl =>
  cases fl with
  | ret obj =>
   obtain ⟨led, rfl, rfl⟩ := hr
   have S₁ := S.push (setD #[] 0 (.fresh 0 0 led))
   have hS : (s.heap.push { cls := .type "set", dict := none, data := .set #[] 0 (.fresh 0 0 led) }).get? s.heap.objs.size = some { cls := .type "set", dict := none, data := .set #[] 0 (.fresh 0 0 led) } := Heap.get?_push_size _ rfl
   have hT : Shared.TypeIs { s with heap := s.heap.push { cls := .type "set", dict := none, data := .set #[] 0 (.fresh 0 0 led) } } (.ref s.heap.objs.size) "set" := ⟨_, hS, rfl⟩
   have hli := PySem.F.called_set.init.lookup
   have hbi := PySem.F.called_set.init.bind (.ref s.heap.objs.size)
   repeat (any_goals (first | assumption | wp_step))
   refine codeAny_mono (codeAny_call_builtin (R := wants (fun r s₂ => r = .none ∧ Q (.ref s.heap.objs.size) s₂) E) PySem.F.called_set.init.plain PySem.F.entry_set_init (PySem.check_set_init_1 hT ?_)) fun r₂ s₂ hr₂ => ?_
   ·have hl1 : (s.heap.push { cls := .type "set", dict := none, data := .set #[] 0 (.fresh 0 0 led) }).IsList d (ps.map fltV).toArray := ⟨_, S₁.obj _ (.tail (s.heap.objs.size, setD #[] 0 (.fresh 0 0 led)) hm), rfl, n, rfl⟩
    have hol' := S₁.obj _ (.tail (s.heap.objs.size, setD #[] 0 (.fresh 0 0 led)) hm)
    have hsls := PySem.F.sub_list_set
    have hslf := PySem.F.sub_list_frozenset
    have hne : (Value.type "list" == Value.type "dict") = false := by decide
    unfold Builtin.«set.__init__» noKeywords Builtin.Frozenset.updateFrom
    generalize hPI : pyIter = PI
    wp_walk
    subst hPI
    refine wpAny_pyIter_list hl1 ?_
    refine wpAny_bind (wpAny_runValue ?_)
    have S₂ := (S₁.push (litO d 0)).perm (List.Perm.swap _ _ _)
    obtain ⟨es', tb', hfo, hsz⟩ : ∃ es' tb', foldAdd ps #[] (.fresh 0 0 led) = some (es', tb') ∧ es'.size = m := by
     have := hf led
     cases hfo : foldAdd ps #[] (.fresh 0 0 led) with
     | none => rw [hfo] at this; cases this
     | some st => rw [hfo] at this; exact ⟨st.1, st.2, rfl, Option.some.inj this⟩
    refine set_loop (s := s) (by simp [hh]) hok hm ?_ ps.length 0 #[] 0 (.fresh 0 0 led) (litO d 0) _ rfl (Nat.zero_le _) (by rw [List.drop_zero]; exact hfo) ⟨rfl, id⟩ ⟨rfl, rfl⟩ (by exact S₂)
    intro s' ep' K' S' hft
    show wpAny _ _ _ _ _ _
    refine wpAny_pure ?_
    show wpAny _ _ (ret Value.none) _ _ _
    exact wpAny_pure ⟨rfl, h s' _ es' ep' tb' K' hsz hft S'⟩
   ·cases r₂ with
    | error e => exact hr₂
    | ok fl₂ =>
     cases fl₂ with
     | ret r =>
      obtain ⟨rfl, hq⟩ := hr₂
      repeat (any_goals (first | assumption | wp_step))
     | _ => exact hr₂.elim
  | _ => exact hr.elim
end
end
section
open PySem.Spec
theorem uniq_sorted {α : Type} (f : α → Nat) : ∀ {l₁ l₂ : List α}, l₁.Perm l₂ → l₁.Pairwise (fun a b => f b ≤ f a) → l₂.Pairwise (fun a b => f b ≤ f a) → (∀ a ∈ l₁, ∀ b ∈ l₁, f a = f b → a = b) → l₁ = l₂
 | [], l₂, hp, _, _, _ => by have := hp.length_eq; cases l₂ with | nil => rfl | cons b r => simp at this
 | a :: r, [], hp, _, _, _ => by have := hp.length_eq; simp at this
 | a :: r, b :: q, hp, h1, h2, hi => by
  obtain ⟨a1, a2⟩ := List.pairwise_cons.mp h1
  obtain ⟨b1, b2⟩ := List.pairwise_cons.mp h2
  have hb : b ∈ a :: r := hp.mem_iff.mpr (.head _)
  have ha : a ∈ b :: q := hp.mem_iff.mp (.head _)
  have e1 : f b ≤ f a := by
   rcases List.mem_cons.mp hb with rfl | q
   ·exact Nat.le_refl _
   ·exact a1 b q
  have e2 : f a ≤ f b := by
   rcases List.mem_cons.mp ha with rfl | q
   ·exact Nat.le_refl _
   ·exact b1 a q
  have e : a = b := hi a (.head _) b hb (Nat.le_antisymm e2 e1)
  subst e
  rw [uniq_sorted f hp.cons_inv a2 b2 fun x hx y hy => hi x (.tail _ hx) y (.tail _ hy)]
section
variable {prog : Program} {w : World} {A : Around} {E : Value → Shared → Prop} {s : Shared} {hb : Heap} {tabs : List Addr} {L d : Addr} {l : List (Str × Value)} {T : List (Addr × Obj)} {vs : List Value} {n : Nat}
theorem collect_tup {o : Obj} {Q : List Value → Shared → Prop} (ho : s.heap.get? d = some o) (hc : o.cls = .type "tuple") (hd : o.data = .seq vs.toArray n)
  (h : Q vs { s with heap := (s.heap.push (seqObj "list" #[] 0)).update s.heap.objs.size (Obj.mapSeq (· ++ vs.toArray)) }) (hsz : vs.length ≤ sizeLine) :
  wpAny (model prog w) A (collect (.ref d)) Q E s := by
 unfold collect
 refine wpAny_bind (wpAny_runValue (codeAny_builtin entry_proto_collect' ?_))
 show wpAny _ _ (do again (.builtin "list.__iadd__" ⟨[← newList [], .ref d], []⟩)) _ _ s
 refine wpAny_bind (wpAny_newList (wpAny_pure ⟨Code.quiet_builtin _ (by decide +kernel), codeAny_builtin entry_list_iadd' ?_⟩))
 show wpAny _ _ (Builtin.List.listExtendWith (.ref s.heap.objs.size) (.ref d) (.ref s.heap.objs.size)) _ _ { s with heap := s.heap.push (seqObj "list" #[] 0) }
 unfold Builtin.List.listExtendWith
 have ho' : (s.heap.push (seqObj "list" #[] 0)).get? d = some o := Heap.get?_push_of_some _ ho
 refine wpAny_bind (wpAny_typeOf (T := "tuple") ⟨o, ho', hc⟩ ?_)
 have ht : (Value.type "tuple" == Value.type "tuple") = true := by rfl
 rw [if_pos (by rw [ht]; simp)]
 refine wpAny_bind (listItems_at ho' hd ?_)
 refine wpAny_bind (listItems_at (xs := #[]) (n := 0) (Heap.get?_push_size _ rfl) rfl ?_)
 rw [if_neg (by simp)]
 refine wpAny_bind (listUpdate_at (xs := #[]) (n := 0) (Heap.get?_push_size _ rfl) rfl ?_ (Nat.zero_le _) (by show (#[] ++ vs.toArray).size ≤ sizeLine + 1; simp only [Array.size_append, List.size_toArray, List.length_nil]; omega))
 refine wpAny_pure ?_
 show wpAny (model prog w) A (do
   let o ← load s.heap.objs.size
   match o.data with
   | .seq xs _ => pure xs.toList
   | _ => unsupported "internal:collect") Q E { s with heap := (s.heap.push (seqObj "list" #[] 0)).update s.heap.objs.size (Obj.mapSeq (· ++ vs.toArray)) }
 refine wpAny_bind (wpAny_load (get?_update_seq (Heap.get?_push_size _ rfl) _) ?_)
 show wpAny _ _ (pure ((#[] : Array Value) ++ vs.toArray).toList) Q E _
 rw [show ((#[] : Array Value) ++ vs.toArray).toList = vs by simp]
 exact wpAny_pure h
theorem r_sortedTup {κ : SortKind} {kw : List (Str × Value)} {o : Obj} {Q : Value → Shared → Prop} (rkv : Value → Nat) (S : St hb tabs L l T s.heap) (ho : s.heap.get? d = some o) (hc : o.cls = .type "tuple") (hdd : o.data = .seq vs.toArray n) (h64 : vs.length < 64)
  (ha1 : argsOk "sorted" ⟨[.ref d], kw⟩) (ha2 : ∀ x, argsOk "list.sort" ⟨[.ref x], kw⟩) (ht : ∀ x, Builtin.«list.sort» ⟨[.ref x], kw⟩ = sortRev x)
  (hkind : 2 ≤ vs.length → ∀ (s' : Shared) T' {Q : SortKind → Shared → Prop} {E : Value → Shared → Prop}, St hb tabs L l T' s'.heap → (∀ p ∈ T, p ∈ T') → Q κ s' → wpAny (model prog w) A.in1.in1 (keyKind' vs.toArray) Q E s')
  (hlt : ∀ (s' : Shared) T', Kp s s' → St hb tabs L l T' s'.heap → (∀ p ∈ T, p ∈ T') → ∀ x ∈ vs, ∀ y ∈ vs, ∀ C : Bool → Shared → Prop, C (decide (rkv x < rkv y)) s' →
   wpAny (model prog w) A.in1.in1 (keyLt' κ x y) C (fun _ _ => False) s')
  (k : ∀ s' D n' vs' X, Kp s s' → vs'.Perm vs → vs'.Pairwise (fun a b => rkv b ≤ rkv a) → St hb tabs L l ((D, lstO vs' n') :: (X ++ T)) s'.heap → Q (.ref D) s') :
  wpAny (model prog w) A (call (.builtin "sorted") [.ref d] kw) Q E s := by
 refine call_function_entry_kw kind_sorted plain_sorted entry_sorted ha1 ?_
 unfold Builtin.«sorted»
 refine wpAny_bind (m := checkCount "sorted" 1 1 _) (wpAny_pure ?_)
 refine wpAny_bind (collect_tup (vs := vs) ho hc hdd ?_ (by rw [sizeLine_eq]; omega))
 have S₁ := S.push (lstO [] 0)
 obtain ⟨c1, hc1⟩ : ∃ c, Obj.mapSeq (· ++ vs.toArray) (lstO [] 0) = lstO vs c := by
  have hx : ∃ c1, Obj.mapSeq (· ++ vs.toArray) (lstO [] 0) = { lstO [] 0 with data := .seq ((#[] : Array Value) ++ vs.toArray) c1 } := ⟨_, rfl⟩
  rw [Array.empty_append] at hx
  exact hx
 have S₂ := S₁.change (o' := lstO vs c1) 0 rfl (Heap.SameBut.update _ s.heap.objs.size (Obj.mapSeq (· ++ vs.toArray))) (by rw [Heap.get?_update_self _ (S₁.obj _ m0) (by rw [hc1]; rfl), hc1])
 refine wpAny_bind (wpAny_newList ?_ (by rw [sizeLine_eq]; omega))
 have S₃ := S₂.push (lstO vs 0)
 refine wpAny_bind (wpAny_holding (wpAny_call_entry_kw slot_list_sort ⟨_, S₃.obj _ m0, rfl⟩ entry_list_sort ?body (ha2 _)))
 case body =>
  rw [ht]
  refine wpAny_mono (sortRev_any (κ := κ) (s := { s with heap := _ }) (Q := fun fin s' => ∃ v, fin = .done (.ret v) ∧ Q (.ref _) s') rkv (by exact S₃) h64 (fun h2 s' T' {Q E} S'' hin hq => hkind h2 s' T' S'' (fun p hp => hin p (.tail _ hp)) hq) (fun s' T' K' S'' hin => hlt s' T' ⟨K'.os, K'.gens⟩ S'' fun p hp => hin p (.tail _ hp)) fun s' n' vs' K' hp hw S'' => ⟨_, rfl, k s' _ n' vs' [_] ⟨K'.os, K'.gens⟩ hp hw (by exact S'')⟩) (fun fin s' z => ?_) fun _ _ x => x
  obtain ⟨v, rfl, q⟩ := z
  exact ⟨_, rfl, wpAny_pure ⟨_, rfl, q⟩⟩
theorem srt_args (a v : Value) : argsOk "sorted" ⟨[a], [(Str.ofString "reverse", v)]⟩ := by unfold argsOk; kernel_rfl
theorem flt_klt {f g : UInt64} {t u : Tok} {Q : Bool → Shared → Prop} (h : Q (Float64.cmp f g == some Ordering.lt) s) : wpAny (model prog w) A (keyLt' oneType' (.float f t) (.float g u)) Q E s := by
 rw [keyLt'_oneType]
 exact oneLt_float h
theorem r_sortedF {ps : List (UInt64 × Tok)} {Q : Value → Shared → Prop} (rkF : UInt64 → Nat) (S : St hb tabs L l T s.heap) (hd : (d, lstO (ps.map fltV) n) ∈ T) (h64 : ps.length < 64)
  (hrk : ∀ p ∈ ps, ∀ q ∈ ps, (Float64.cmp p.1 q.1 == some Ordering.lt) = decide (rkF p.1 < rkF q.1)) (hfall : ps.Pairwise fun a b => rkF b.1 < rkF a.1)
  (k : ∀ s' D n' X, Kp s s' → St hb tabs L l ((D, lstO (ps.map fltV) n') :: (X ++ T)) s'.heap → Q (.ref D) s') :
  wpAny (model prog w) A (call (.builtin "sorted") [.ref d] [(Str.ofString "reverse", .bool true)]) Q E s := by
 refine r_sortedAny (κ := oneType') (fun v => match v with | .float f _ => rkF f | _ => 0) S hd (by rw [List.length_map]; exact h64) (srt_args _ _) (fun x => lsr_args x) (fun x => list_sort_rev x) ?_ ?_ ?_
 ·intro h2 s' T' Q' E' S' hin hq
  refine kas_kind (T := .type "float") h2 (fun v hv => ?_) rfl rfl hq
  obtain ⟨p, -, rfl⟩ := List.mem_map.mp hv
  exact .now
 ·intro s' T' K' S' hin x hx y hy C hC
  obtain ⟨p, hp, rfl⟩ := List.mem_map.mp hx
  obtain ⟨q, hq, rfl⟩ := List.mem_map.mp hy
  refine flt_klt ?_
  rw [hrk p hp q hq]
  exact hC
 ·intro s' D n' vs' X K' hp hw S'
  obtain ⟨P, rfl, hP⟩ := perm_map_inv _ hp
  have e : P = ps := by
   refine uniq_sorted (fun p => rkF p.1) hP ?_ (hfall.imp fun h => Nat.le_of_lt h) ?_
   ·rw [List.pairwise_map] at hw; exact hw
   ·intro a ha b hb hab
    have ha' := hP.mem_iff.mp ha
    have hb' := hP.mem_iff.mp hb
    refine Classical.byContradiction fun hne => ?_
    obtain ⟨i, hi, e1⟩ := List.mem_iff_getElem.mp ha'
    obtain ⟨j, hj, e2⟩ := List.mem_iff_getElem.mp hb'
    rcases Nat.lt_trichotomy i j with q | q | q
    ·have := List.pairwise_iff_getElem.mp hfall i j hi hj q
     rw [e1, e2] at this
     have : rkF b.1 < rkF a.1 := this
     have hab' : rkF a.1 = rkF b.1 := hab
     omega
    ·subst q; exact hne (e1.symm.trans e2)
    ·have := List.pairwise_iff_getElem.mp hfall j i hj hi q
     rw [e1, e2] at this
     have : rkF a.1 < rkF b.1 := this
     have hab' : rkF a.1 = rkF b.1 := hab
     omega
  subst e
  exact k s' D n' X K' S'
theorem r_sortedS {o : Obj} {ws : List (Str × Tok)} {Q : Value → Shared → Prop} (rkW : Str → Nat) (S : St hb tabs L l T s.heap) (ho : s.heap.get? d = some o) (hc : o.cls = .type "tuple") (hdd : o.data = .seq (ws.map strV).toArray n) (h64 : ws.length < 64)
  (hrk : ∀ p ∈ ws, ∀ q ∈ ws, decide (p.1.cps.toList < q.1.cps.toList) = decide (rkW p.1 < rkW q.1))
  (k : ∀ s' D n' (P : List (Str × Tok)) X, Kp s s' → P.Perm ws → P.Pairwise (fun a b => rkW b.1 ≤ rkW a.1) → St hb tabs L l ((D, lstO (P.map strV) n') :: (X ++ T)) s'.heap → Q (.ref D) s') :
  wpAny (model prog w) A (call (.builtin "sorted") [.ref d] [(Str.ofString "reverse", .bool true)]) Q E s := by
 refine r_sortedTup (κ := oneType') (fun v => match v with | .str f _ => rkW f | _ => 0) S ho hc hdd (by rw [List.length_map]; exact h64) (srt_args _ _) (fun x => lsr_args x) (fun x => list_sort_rev x) ?_ ?_ ?_
 ·intro h2 s' T' Q' E' S' hin hq
  refine kas_kind (T := .type "str") h2 (fun v hv => ?_) rfl rfl hq
  obtain ⟨p, -, rfl⟩ := List.mem_map.mp hv
  exact .now
 ·intro s' T' K' S' hin x hx y hy C hC
  obtain ⟨p, hp, rfl⟩ := List.mem_map.mp hx
  obtain ⟨q, hq, rfl⟩ := List.mem_map.mp hy
  refine kas_lt_str ?_
  rw [hrk p hp q hq]
  exact hC
 ·intro s' D n' vs' X K' hp hw S'
  obtain ⟨P, rfl, hP⟩ := perm_map_inv _ hp
  rw [List.pairwise_map] at hw
  exact k s' D n' P X K' hP hw S'
end
end
section
open PySem.Spec
theorem ints3 (a b c : Int) (t1 t2 t3 : Tok) : ∀ v ∈ [Value.int a t1, .int b t2, .int c t3], ∃ i t, v = Value.int i t := by
 intro v hv
 simp at hv
 rcases hv with rfl | rfl | rfl <;> exact ⟨_, _, rfl⟩
theorem fmod_small (i : Int) {m : Nat} (hm : 0 < m) : ∃ x : Nat, x < m ∧ i.fmod (m : Int) = (x : Int) := by
 refine ⟨(i.fmod m).toNat, ?_, ?_⟩
 all_goals
  have h2 : i.fmod (m : Int) = i % (m : Int) := Int.fmod_eq_emod_of_nonneg _ (by omega)
  have h0 : 0 ≤ i % (m : Int) := Int.emod_nonneg _ (by omega)
  have h1 : i % (m : Int) < m := Int.emod_lt_of_pos _ (by omega)
  rw [h2]
  omega
theorem mod_nat {prog : Program} {w : World} {A : Around} {E : Value → Shared → Prop} {s : Shared} {a c : Int} {t u : Tok} {m : Nat} {Q : Value → Shared → Prop} (hm : 0 < m) (hc : c = (m : Int))
  (h : ∀ x : Nat, x < m → Q (.int (x : Int) s.toks) { s with toks := s.toks + 1 }) : wpAny (model prog w) A (binaryOp .Mod (.int a t) (.int c u)) Q E s := by
 subst hc
 obtain ⟨x, hx, e⟩ := fmod_small a hm
 refine mod_int' (by omega) ?_
 rw [e]
 exact h x hx
section
variable {w : World} {A : Around} {E : Value → Shared → Prop} {s : Shared} {hb : Heap} {L' sc : Addr} {T : List (Addr × Obj)} {scv : List Value}
abbrev lawB : List Stmt := fnBody (st1 pw 16)
abbrev ev306 (w : World) (L' : Addr) : Env := callEnv (fd306 w.params) L' 306
theorem law_a (G : Gd (KN w.params) tabs hb) (hd : A.depth + 60 < recursionLimit) (hh : A.handled = none) (H : Scr hb sc scv) (htk : 776 ≤ s.toks) (S : St hb tabs L' [(Str.ofString "script", .ref sc)] T s.heap) {Q : Flow → Shared → Prop}
  (k : ∀ (s' : Shared) (X : List (Addr × Obj)) (nb nr : Addr) (nvs : List Value) (nn nc : Nat) (x many : Nat) (tm : Tok) (t0 : Nat) (ns : List Nr), Kp s s' → 3 ≤ nvs.length → nvs.length ≤ 6 → (∀ v ∈ nvs, ∃ i t, v = .int i t) → x < 9 → 1 ≤ many → many ≤ 12 → ns.map Nr.k = nearL x → 776 ≤ t0 → NTk t0 s'.toks ns → NrOk X ns →
   (nr, lstO (refsN ns) nc) ∈ X → (nb, lstO nvs nn) ∈ X →
   St hb tabs L' [(Str.ofString "near", .ref nr), (Str.ofString "many", .int (many : Int) tm), (Str.ofString "numbers", .ref nb), (Str.ofString "script", .ref sc)] (X ++ T) s'.heap → wpAny (model pw w) (A.deeper (ev306 w L')) (execs (lawB.drop 2) (ev306 w L')) Q E s') :
  wpAny (model pw w) (A.deeper (ev306 w L')) (execs lawB (ev306 w L')) Q E s := by
 refine q_assign ?_
 refine wpAny_BinOp ?_
 refine r_call ?_
 refine r_builtin G S (v := .type "list") (by kernel_rfl) ?_
 refine cw_type ?_
 refine args_cons ?_
 refine slice_uptoI (hb := hb) (tabs := tabs) ?_
 refine r_local S m0 ?_
 refine wpAny_Constant_int ?_
 refine ⟨_, _, _, sc, 3, _, scv, rfl, rfl, S, H.isList S, by have := H.small; omega, ?_⟩
 intro D₁ X₁ h₁ S₁
 refine args_nil ?_
 refine r_listOf (vs := scv.take 3) (n := 0) S₁ (.inl rfl) (S₁.obj _ m0) rfl rfl (by rw [List.length_take]; omega) ?_
 intro D₂ c₂ h₂ S₂
 have htk₂ : s.toks ≤ s.toks + 1 := Nat.le_succ _
 refine restateT (by exact S₂) fun s₂ K₂ hk₂ S₂ => ?_
 replace K₂ : Kp s s₂ := ⟨K₂.os, K₂.gens⟩
 replace hk₂ : s.toks ≤ s₂.toks := Nat.le_trans htk₂ hk₂
 refine r_list ?_
 refine args_cons ?_
 refine r_int S₂ ?_
 intro u0 t0 Ku0 hu0 Su0
 refine args_cons ?_
 refine r_int Su0 ?_
 intro u1 t1 Ku1 hu1 Su1
 refine args_cons ?_
 refine r_int Su1 ?_
 intro u2 t2 Ku2 hu2 Su2
 refine args_nil ?_
 refine ⟨rfl, _, _, _, _, _, Su2, ?_⟩
 intro D₃ h₃ S₃
 have htl : (scv.take 3).length ≤ 3 := by rw [List.length_take]; omega
 refine r_addL S₃ m1 m0 (by simp only [List.length_cons, List.length_nil]; omega) ?_
 intro nb h₄ S₄
 refine r_store S₄ (.new (by kernel_rfl)) ?_
 intro h₅ S₅
 refine restateT (by exact S₅) fun s₅ K₅ hk₅ S₅ => ?_
 replace K₅ : Kp s s₅ := ⟨K₅.os.trans (K₂.trans (Ku0.trans (Ku1.trans Ku2))).os, fun z => K₅.gens ((K₂.trans (Ku0.trans (Ku1.trans Ku2))).gens z)⟩
 have hk₅' : s.toks ≤ s₅.toks := by simp only at hk₅; omega
 obtain ⟨nvs, X₅, hn3, hn6, hni, S₆⟩ : ∃ (nvs : List Value) (X₅ : List (Addr × Obj)), 3 ≤ nvs.length ∧ nvs.length ≤ 6 ∧ (∀ v ∈ nvs, ∃ i t, v = .int i t) ∧ St hb tabs L' [(Str.ofString "numbers", .ref nb), (Str.ofString "script", .ref sc)] ((nb, lstO nvs 0) :: (X₅ ++ T)) s₅.heap := by
  refine ⟨scv.take 3 ++ [.int 7 t0, .int 3 t1, .int 5 t2], (D₃, _) :: (D₂, _) :: (D₁, _) :: X₁, ?_, ?_, ?_, S₅⟩
  ·rw [List.length_append]; simp only [List.length_cons, List.length_nil]; omega
  ·rw [List.length_append]; simp only [List.length_cons, List.length_nil]; omega
  ·intro v hv
   rcases List.mem_append.mp hv with q | q
   ·exact H.isInts v (List.mem_of_mem_take q)
   ·exact ints3 _ _ _ _ _ _ v q
 clear S₅ S₄ S₃ Su2 Su1 Su0 S₂ S₁
 obtain ⟨i0, ti0, e0⟩ := hni nvs[0] (List.getElem_mem (by omega))
 obtain ⟨i1, ti1, e1⟩ := hni nvs[1] (List.getElem_mem (by omega))
 refine q_swap [Str.ofString "near", Str.ofString "many"] ?_
 refine args_cons ?_
 refine wpAny_with_toks (Nat.le_refl s₅.toks) ?_
 refine r_call ?_
 refine r_global G S₆ (v := .ref 294) (by kernel_rfl) ?_
 refine cw_ref G ?_
 refine args_cons ?_
 refine wpAny_BinOp ?_
 refine r_sub list_getitem_lookup ?_
 refine r_local S₆ m0 ?_
 refine wpAny_Constant_int ?_
 refine ⟨⟨_, S₆.obj _ m0, rfl⟩, ?_⟩
 refine gi_list (k := 0) (x := .int i0 ti0) (by exact S₆) m0 (by omega) (by rw [List.getElem?_eq_getElem (by omega), e0]) ?_
 refine wpAny_Constant_int ?_
 refine mod_nat (m := 9) (by decide) rfl ?_
 intro x hx
 refine args_nil ?_
 refine ⟨⟨_, _, _, S₆⟩, ?_⟩
 have hk6 : s₅.toks ≤ s₅.toks + 1 + 1 + 1 := by omega
 refine near_c G (by exact S₆) (by show A.depth + 1 + 10 < _; omega) hh hx (by simp only; omega) ?_
 intro s₇ X₇ nr nc ns K₇ S₇ hN hk hT
 intro htk₇
 replace hT : NTk s₅.toks s₇.toks ns := ⟨fun e he => by
  rcases hT.tok e he with q | q
  ·exact .inl q
  ·exact .inr ⟨by have := q.1; simp only at this; omega, q.2⟩, hT.inj⟩
 replace K₇ : Kp s s₇ := ⟨K₇.os.trans K₅.os, fun z => K₇.gens (K₅.gens z)⟩
 refine args_cons ?_
 refine wpAny_BinOp ?_
 refine wpAny_Constant_int ?_
 refine wpAny_BinOp ?_
 refine r_sub list_getitem_lookup ?_
 have hnbm : (nb, lstO nvs 0) ∈ (nr, lstO (refsN ns) nc) :: (X₇ ++ ((nb, lstO nvs 0) :: (X₅ ++ T))) := .tail _ (List.mem_append_right _ (.head _))
 refine r_local (by exact S₇) m0 ?_
 refine wpAny_Constant_int ?_
 refine ⟨⟨_, S₇.obj _ hnbm, rfl⟩, ?_⟩
 refine gi_list (k := 1) (x := .int i1 ti1) (by exact S₇) hnbm (by omega) (by rw [List.getElem?_eq_getElem (by omega), e1]) ?_
 refine wpAny_Constant_int ?_
 refine mod_nat (m := 12) (by decide) rfl ?_
 intro y hy
 refine P.add_int ?_
 refine args_nil ?_
 refine ⟨rfl, rfl, hh, _, _, _, _, _, S₇, ?_⟩
 intro h₈ S₈
 refine as_cons ?_
 refine r_store S₈ (.new (by kernel_rfl)) ?_
 intro h₉ S₉
 refine as_cons ?_
 refine r_store S₉ (.new (by kernel_rfl)) ?_
 intro h₁₀ S₁₀
 refine as_nil ?_
 refine restateT (by exact S₁₀) fun s₁₁ K₁₁ hk₁₁ S₁₁ => ?_
 replace K₁₁ : Kp s s₁₁ := ⟨K₁₁.os.trans K₇.os, fun z => K₁₁.gens (K₇.gens z)⟩
 replace hk₁₁ : s₇.toks ≤ s₁₁.toks := by simp only at hk₁₁; omega
 obtain ⟨tm, S₁₂⟩ : ∃ tm, St hb tabs L' [(Str.ofString "near", .ref nr), (Str.ofString "many", .int ((1 + y : Nat) : Int) tm), (Str.ofString "numbers", .ref nb), (Str.ofString "script", .ref sc)] (((nr, lstO (refsN ns) nc) :: (X₇ ++ ((nb, lstO nvs 0) :: X₅))) ++ T) s₁₁.heap := by
  rw [Int.natCast_add]
  refine ⟨_, S₁₁.perm ?_⟩
  rw [List.cons_append, List.append_assoc, List.cons_append]
 refine k s₁₁ _ nb nr nvs 0 nc x (1 + y) tm s₅.toks ns K₁₁ hn3 hn6 hni hx (by omega) (by omega) hk (by omega) ⟨fun e he => ?_, hT.inj⟩ (fun e he => .tail _ (List.mem_append_left _ (hN e he))) (.head _) (.tail _ (List.mem_append_right _ (.head _))) S₁₂
 rcases hT.tok e he with q | q
 ·exact .inl q
 ·exact .inr ⟨q.1, Nat.lt_of_lt_of_le q.2 hk₁₁⟩
end
end
section
open PySem.Spec
def strg : List (Str × Tok) := [(Str.ofString "ABC", 743), (Str.ofString "", 744), (Str.ofString "ZZZZZZZZZ", 745), (Str.ofString "JKLMNOPQR", 746)]
theorem int_fits : ∀ b : Fin 20, Float64.isInf (Float64.ofInt ((b.val : Nat) : Int)) = false ∧ (b.val = 0 ∨ Float64.isZero (Float64.ofInt ((b.val : Nat) : Int)) = false) := by decide +kernel
abbrev wsOf (ns : List Nr) : List (Str × Tok) := ns.map (·.x)
theorem near_bc : ∀ p : Fin 9, ((nearL p.val).all fun e => decide (e.2.1 < 20) && decide (0 < e.2.2) && decide (e.2.2 < 20)) = true := by decide +kernel
section
variable {w : World} {A : Around} {E : Value → Shared → Prop} {s : Shared} {hb : Heap} {L' sc nb nr : Addr} {T : List (Addr × Obj)} {scv nvs : List Value} {x many nn nc : Nat} {tm : Tok} {ns : List Nr}
abbrev nm4 (nr nb sc : Addr) (many : Nat) (tm : Tok) : List (Str × Value) := [(Str.ofString "near", .ref nr), (Str.ofString "many", .int (many : Int) tm), (Str.ofString "numbers", .ref nb), (Str.ofString "script", .ref sc)]
theorem law_b (G : Gd (KN w.params) tabs hb) (hh : A.handled = none) (hNk : ns.map Nr.k = nearL x) (hN : NrOk T ns) (hnr : (nr, lstO (refsN ns) nc) ∈ T) (S : St hb tabs L' (nm4 nr nb sc many tm) T s.heap) {Q : Flow → Shared → Prop}
  (k : ∀ (s' : Shared) (wd : Addr) (c : Nat), Kp s s' → St hb tabs L' ((Str.ofString "words", .ref wd) :: nm4 nr nb sc many tm) ((wd, lstO ((wsOf ns).map strV) c) :: T) s'.heap → wpAny (model pw w) (A.deeper (ev306 w L')) (execs (lawB.drop 3) (ev306 w L')) Q E s') :
  wpAny (model pw w) (A.deeper (ev306 w L')) (execs (lawB.drop 2) (ev306 w L')) Q E s := by
 have hnl : ns.length = 10 := by
  have := congrArg List.length hNk
  rw [List.length_map, near_len] at this
  exact this
 refine q_listcomp (hb := hb) (tabs := tabs) (l' := fun D => (Str.ofString "words", .ref D) :: nm4 nr nb sc many tm) hh ?_ rfl rfl (.inl ⟨_, _, rfl⟩) (by decide) (by decide) rfl (by decide)
 refine r_local S m0 ?_
 refine ⟨_, T, nr, refsN ns, nc, fun i acc X => X = [] ∧ acc = ((wsOf ns).take i).map strV, rfl, S, (fun D => .new (by kernel_rfl)), hnr, by rw [refsN_len]; omega, ⟨rfl, rfl⟩, ?_, ?_⟩
 ·rintro C D oL E' i v acc c X own s₂ hi hacc ⟨rfl, hJ⟩ hr₂ K₂ S₂
  have hv : ∃ e, ns[i]? = some e ∧ v = .ref e.a := by
   rw [refsN, List.getElem?_map] at hi
   obtain ⟨e, h1, h2⟩ := Option.map_eq_some_iff.mp hi
   exact ⟨e, h1, h2.symm⟩
  obtain ⟨e, he, rfl⟩ := hv
  have hm := hN e (List.mem_of_getElem? he)
  refine as_name ?_
  refine e_store (env := compEnv _ C _) (by exact S₂) (.new (by kernel_rfl)) ?_
  intro h₃ S₃
  refine r_sub tuple_getitem_lookup' ?_
  refine e_local (env := compEnv _ C _) (by exact S₃) m0 ?_
  refine wpAny_Constant_int ?_
  have hm' : (e.a, tupO e.vs) ∈ (D, lstO acc c) :: ([] ++ ((L', oL) :: T)) ++ own := List.mem_append_left _ (.tail _ (.tail _ hm))
  refine ⟨⟨_, S₃.obj _ hm', rfl⟩, ?_⟩
  refine gi_tuple0 (by exact S₃) hm' (by simp) ?_
  refine ⟨[], _, ⟨K₂.os, K₂.gens⟩, (by exact S₃), rfl, ?_⟩
  have e2 : (wsOf ns)[i]? = some e.x := by rw [List.getElem?_map, he]; rfl
  rw [List.take_add_one, e2, hJ]
  simp
 ·rintro s₃ D acc c X K₃ S₃ hl₃ ⟨rfl, rfl⟩
  have e1 : ((wsOf ns).take (refsN ns).length).map strV = (wsOf ns).map strV := by
   rw [List.take_of_length_le (by rw [refsN_len, List.length_map]; exact Nat.le_refl _)]
  rw [e1] at S₃
  exact k s₃ D c K₃ (by exact S₃)
abbrev nm7 (du ro tw wd nr nb sc : Addr) (many : Nat) (tm : Tok) : List (Str × Value) := (Str.ofString "due", .ref du) :: (Str.ofString "row", .ref ro) :: (Str.ofString "twice", .ref tw) :: (Str.ofString "words", .ref wd) :: nm4 nr nb sc many tm
theorem law_c1 (G : Gd (KN w.params) tabs hb) (hd : A.depth + 60 < recursionLimit) (hu : A.units + 1000 < cLine) (hh : A.handled = none) (H : Scr hb sc scv) (hnl : ns.length = 10) {h₀ : Nr} {nt : List Nr} (hns : ns = h₀ :: nt) {wd : Addr} {c : Nat} (hwd : (wd, lstO ((wsOf ns).map strV) c) ∈ T)
  (S : St hb tabs L' ((Str.ofString "words", .ref wd) :: nm4 nr nb sc many tm) T s.heap) {Q : Flow → Shared → Prop}
  (k : ∀ (s' : Shared) (X : List (Addr × Obj)) (tw ro du : Addr) (m c1 c2 c3 : Nat) (row : List (Str × Tok)), Kp s s' → m < 3 → row.Perm (wsOf ns ++ List.replicate m h₀.x ++ strg) →
   (tw, lstO ((List.replicate m h₀.x).map strV) c1) ∈ X → (ro, lstO (row.map strV) c2) ∈ X → (du, lstO ((List.replicate m h₀.x ++ wsOf ns).map strV) c3) ∈ X →
   St hb tabs L' (nm7 du ro tw wd nr nb sc many tm) (X ++ T) s'.heap → wpAny (model pw w) (A.deeper (ev306 w L')) (execs (lawB.drop 6) (ev306 w L')) Q E s') :
  wpAny (model pw w) (A.deeper (ev306 w L')) (execs (lawB.drop 3) (ev306 w L')) Q E s := by
 have hwl : ((wsOf ns).map strV).length = 10 := by rw [List.length_map, List.length_map, hnl]
 have hw1 : ((wsOf ns).map strV).take 1 = [strV h₀.x] := by rw [hns]; rfl
 refine q_assign ?_
 refine wpAny_BinOp ?_
 refine slice_upto (hb := hb) (tabs := tabs) ?_
 refine r_local S m0 ?_
 refine wpAny_Constant_int ?_
 refine ⟨_, _, _, wd, _, c, 1, _, rfl, rfl, S, hwd, by omega, ?_⟩
 intro D₁ X₁ h₁ S₁
 rw [hw1] at S₁
 refine wpAny_BinOp ?_
 refine r_call ?_
 refine r_builtin G S₁ boot_len ?_
 refine cw_builtin ?_
 refine args_cons ?_
 refine r_local S₁ m4 ?_
 refine args_nil ?_
 refine PyProof.Rows.len_list (items := scv.toArray) (H.isList S₁) (by have := H.small; rw [List.size_toArray]; omega) ?_
 refine wpAny_Constant_int ?_
 refine mod_nat (m := 3) (by decide) rfl ?_
 intro m hm
 refine r_mulL S₁ m0 (by simp) (by omega) (by omega) (by simp) ?_
 intro tw h₂ S₂
 have e1 : (List.replicate ((m : Int)).toNat [strV h₀.x]).flatten = (List.replicate m h₀.x).map strV := by
  rw [Int.toNat_natCast, List.map_replicate, lm_rep_flat_one]
 rw [e1] at S₂
 refine r_store S₂ (.new (by kernel_rfl)) ?_
 intro h₃ S₃
 refine restate (by exact S₃) fun s₃ K₃ S₃ => ?_
 replace K₃ : Kp s s₃ := ⟨K₃.os, K₃.gens⟩
 have hwd₃ : (wd, lstO ((wsOf ns).map strV) c) ∈ (tw, lstO ((List.replicate m h₀.x).map strV) 0) :: (D₁, lstO [strV h₀.x] 0) :: (X₁ ++ T) := .tail _ (.tail _ (List.mem_append_right _ hwd))
 have hml : ((List.replicate m h₀.x).map strV).length = m := by rw [List.length_map, List.length_replicate]
 refine q_assign ?_
 refine r_call ?_
 refine r_global G S₃ (v := .ref 301) (by kernel_rfl) ?_
 refine cw_ref G ?_
 refine args_cons ?_
 refine r_local S₃ m5 ?_
 refine args_cons ?_
 refine wpAny_BinOp ?_
 refine wpAny_BinOp ?_
 refine r_local S₃ m1 ?_
 refine r_local S₃ m0 ?_
 refine r_addL S₃ hwd₃ m0 (by omega) ?_
 intro D₄ h₄ S₄
 refine r_call ?_
 refine r_builtin G S₄ (v := .type "list") (by kernel_rfl) ?_
 refine cw_type ?_
 refine args_cons ?_
 refine r_global G S₄ (v := .ref 287) (by kernel_rfl) ?_
 refine args_nil ?_
 refine r_listOf (vs := strg.map strV) (n := 0) (o := o287 w.params) S₄ (.inr rfl) (S₄.kin G 287 _ (by kernel_rfl)) rfl rfl (by decide) ?_
 intro D₅ c₅ h₅ S₅
 refine r_addL S₅ m1 m0 (by rw [List.length_append, hwl, hml]; simp [strg]; omega) ?_
 intro D₆ h₆ S₆
 refine args_nil ?_
 refine ⟨⟨_, _, _, S₆⟩, ?_⟩
 have e2 : ((wsOf ns).map strV ++ (List.replicate m h₀.x).map strV) ++ strg.map strV = (wsOf ns ++ List.replicate m h₀.x ++ strg).map strV := by simp
 rw [e2] at S₆
 refine laid_c (ws := wsOf ns ++ List.replicate m h₀.x ++ strg) (nw := 0) G (by exact S₆) (by show A.depth + 1 + 10 < _; omega) (by show A.units + 3 + 100 < cLine; omega) hh H m0 (by simp [strg]; omega) ?_
 intro s₇ X₇ ro c₇ row K₇ S₇ hrow
 replace K₇ : Kp s s₇ := ⟨K₇.os.trans K₃.os, fun z => K₇.gens (K₃.gens z)⟩
 refine r_store (by exact S₇) (.new (by kernel_rfl)) ?_
 intro h₈ S₈
 refine restate (by exact S₈) fun s₈ K₈ S₈ => ?_
 replace K₈ : Kp s s₈ := ⟨K₈.os.trans K₇.os, fun z => K₈.gens (K₇.gens z)⟩
 have mtw : (tw, lstO ((List.replicate m h₀.x).map strV) 0) ∈ (ro, lstO (row.map strV) c₇) :: (X₇ ++ ((D₆, lstO ((wsOf ns ++ List.replicate m h₀.x ++ strg).map strV) 0) :: (D₅, lstO (strg.map strV) c₅) :: (D₄, lstO ((wsOf ns).map strV ++ (List.replicate m h₀.x).map strV) 0) :: (tw, lstO ((List.replicate m h₀.x).map strV) 0) :: (D₁, lstO [strV h₀.x] 0) :: (X₁ ++ T))) :=
  .tail _ (List.mem_append_right _ (.tail _ (.tail _ (.tail _ (.head _)))))
 have mwd : (wd, lstO ((wsOf ns).map strV) c) ∈ (ro, lstO (row.map strV) c₇) :: (X₇ ++ ((D₆, lstO ((wsOf ns ++ List.replicate m h₀.x ++ strg).map strV) 0) :: (D₅, lstO (strg.map strV) c₅) :: (D₄, lstO ((wsOf ns).map strV ++ (List.replicate m h₀.x).map strV) 0) :: (tw, lstO ((List.replicate m h₀.x).map strV) 0) :: (D₁, lstO [strV h₀.x] 0) :: (X₁ ++ T))) :=
  .tail _ (List.mem_append_right _ (.tail _ (.tail _ (.tail _ hwd₃))))
 refine q_assign ?_
 refine wpAny_BinOp ?_
 refine r_local S₈ m1 ?_
 refine r_local S₈ m2 ?_
 refine r_addL (by exact S₈) mtw mwd (by omega) ?_
 intro du h₉ S₉
 refine r_store S₉ (.new (by kernel_rfl)) ?_
 intro h₁₀ S₁₀
 refine restate (by exact S₁₀) fun s₁₀ K₁₀ S₁₀ => ?_
 replace K₁₀ : Kp s s₁₀ := ⟨K₁₀.os.trans K₈.os, fun z => K₁₀.gens (K₈.gens z)⟩
 have e3 : (List.replicate m h₀.x).map strV ++ (wsOf ns).map strV = (List.replicate m h₀.x ++ wsOf ns).map strV := by simp
 rw [e3] at S₁₀
 have S₁₁ : St hb tabs L' (nm7 du ro tw wd nr nb sc many tm) (((du, lstO ((List.replicate m h₀.x ++ wsOf ns).map strV) 0) :: (ro, lstO (row.map strV) c₇) :: (X₇ ++ ((D₆, lstO ((wsOf ns ++ List.replicate m h₀.x ++ strg).map strV) 0) :: (D₅, lstO (strg.map strV) c₅) :: (D₄, lstO ((wsOf ns).map strV ++ (List.replicate m h₀.x).map strV) 0) :: (tw, lstO ((List.replicate m h₀.x).map strV) 0) :: (D₁, lstO [strV h₀.x] 0) :: X₁))) ++ T) s₁₀.heap := by
  simpa using S₁₀
 exact k s₁₀ _ tw ro du m 0 c₇ 0 row K₁₀ hm hrow (.tail _ (.tail _ (List.mem_append_right _ (.tail _ (.tail _ (.tail _ (.head _))))))) (.tail _ (.head _)) (.head _) S₁₁
end
end
section
open PySem.Spec
section
variable {w : World} {A : Around} {E : Value → Shared → Prop} {s : Shared} {hb : Heap} {L' sc nb nr du ro tw wd : Addr} {T : List (Addr × Obj)} {scv nvs : List Value} {x many nn nc : Nat} {tm : Tok} {ns : List Nr}
abbrev nm8 (sh du ro tw wd nr nb sc : Addr) (many : Nat) (tm : Tok) : List (Str × Value) := (Str.ofString "shares", .ref sh) :: nm7 du ro tw wd nr nb sc many tm
theorem law_c2 (G : Gd (KN w.params) tabs hb) (hh : A.handled = none) (hx : x < 9) (hNk : ns.map Nr.k = nearL x) (hN : NrOk T ns) (hnr : (nr, lstO (refsN ns) nc) ∈ T) (S : St hb tabs L' (nm7 du ro tw wd nr nb sc many tm) T s.heap) {Q : Flow → Shared → Prop}
  (k : ∀ (s' : Shared) (sh : Addr) (c : Nat) (ps : List (UInt64 × Tok)), Kp s s' → ps.map (·.1) = scs.take 10 → St hb tabs L' (nm8 sh du ro tw wd nr nb sc many tm) ((sh, lstO (ps.map fltV) c) :: T) s'.heap → wpAny (model pw w) (A.deeper (ev306 w L')) (execs (lawB.drop 7) (ev306 w L')) Q E s') :
  wpAny (model pw w) (A.deeper (ev306 w L')) (execs (lawB.drop 6) (ev306 w L')) Q E s := by
 have hnl : ns.length = 10 := by
  have := congrArg List.length hNk
  rw [List.length_map, near_len] at this
  exact this
 have hbc : ∀ e ∈ ns, e.b < 20 ∧ 0 < e.c ∧ e.c < 20 := fun e he => by
  have h1 := near_bc ⟨x, hx⟩
  dsimp only at h1
  rw [← hNk] at h1
  have h2 := List.all_eq_true.mp h1 e.k (List.mem_map.mpr ⟨e, he, rfl⟩)
  simpa [and_assoc] using h2
 have hsc : ns.map (fun e => shF e.b e.c) = scs.take 10 := by
  have : ns.map (fun e => shF e.b e.c) = (ns.map Nr.k).map (fun e => shF e.2.1 e.2.2) := by rw [List.map_map]; rfl
  rw [this, hNk]
  rfl
 refine q_listcomp (hb := hb) (tabs := tabs) (l' := fun D => nm8 D du ro tw wd nr nb sc many tm) hh ?_ rfl rfl (.inr ⟨_, _, _, rfl⟩) (by decide) (by decide) rfl (by decide)
 refine r_local S m4 ?_
 refine ⟨_, T, nr, refsN ns, nc, fun i acc X => X = [] ∧ ∃ ps : List (UInt64 × Tok), acc = ps.map fltV ∧ ps.map (·.1) = (ns.take i).map fun e => shF e.b e.c, rfl, S, (fun D => .new (by kernel_rfl)), hnr, by rw [refsN_len]; omega, ⟨rfl, [], rfl, rfl⟩, ?_, ?_⟩
 ·rintro C D oL E' i v acc c X own s₂ hi hacc ⟨rfl, ps, rfl, hJ⟩ hr₂ K₂ S₂
  have hv : ∃ e, ns[i]? = some e ∧ v = .ref e.a := by
   rw [refsN, List.getElem?_map] at hi
   obtain ⟨e, h1, h2⟩ := Option.map_eq_some_iff.mp hi
   exact ⟨e, h1, h2.symm⟩
  obtain ⟨e, he, rfl⟩ := hv
  have hem := List.mem_of_getElem? he
  have hm := hN e hem
  obtain ⟨b1, b2, b3⟩ := hbc e hem
  have f1 := (int_fits ⟨e.b, b1⟩).1
  have f2 := (int_fits ⟨e.c, b3⟩).1
  have f3 := (int_fits ⟨e.c, b3⟩).2.resolve_left (by simp; omega)
  dsimp only at f1 f2 f3
  refine as_tuple hh S₂ (List.mem_append_left _ (.tail _ (.tail _ hm))) ?_
  intro h₃ S₃
  refine as_each ?_
  refine e_store (env := compEnv _ C _) (by exact S₃) (.new (by kernel_rfl)) ?_
  intro h₄ S₄
  refine as_each ?_
  refine e_store (env := compEnv _ C _) (by exact S₄) (.new (by kernel_rfl)) ?_
  intro h₅ S₅
  refine as_each ?_
  refine e_store (env := compEnv _ C _) (by exact S₅) (.new (by kernel_rfl)) ?_
  intro h₆ S₆
  refine as_none ?_
  refine wpAny_BinOp ?_
  refine wpAny_BinOp ?_
  refine PySem.AutoFloatOps.wpAny_Constant_float ?_
  refine e_local (env := compEnv _ C _) (by exact S₆) m1 ?_
  refine PySem.AutoFloatOpsIf.mul_fi ?_
  rw [if_neg (by rw [f1]; decide)]
  refine e_local (env := compEnv _ C _) (by exact S₆) m0 ?_
  refine PySem.AutoFloatOpsIf.truediv_fi ?_
  rw [if_neg (by rw [f2]; decide), if_neg (by rw [f3]; decide)]
  refine ⟨[], _, ⟨K₂.os, K₂.gens⟩, (by exact S₆), rfl, ps ++ [(shF e.b e.c, _)], by rw [List.map_append]; rfl, ?_⟩
  rw [List.map_append, hJ, List.take_add_one, he, List.map_append]
  rfl
 ·rintro s₃ D acc c X K₃ S₃ hl₃ ⟨rfl, ps, rfl, hJ⟩
  rw [refsN_len, List.take_length, hsc] at hJ
  exact k s₃ D c ps K₃ hJ (by exact S₃)
end
end
section
open PySem.Spec
theorem cutF (w : World) {c : UInt64} (hc : c ∈ one64 :: scs.take 10) (t : Tok) : CutV w (.float c t) (geF c) := by
 have h := List.all_eq_true.mp cut_ok c hc
 obtain ⟨h1, h2⟩ := Bool.and_eq_true_iff.mp h
 exact ⟨fun hq => AutoFloatOps.ge_0 hq, fun hq => AutoFloatOps.le_0 (by rw [h1]; exact hq), fun hq => AutoFloatOps.le_0 (by rw [h2]; exact hq)⟩
theorem cutI (w : World) (t : Tok) : CutV w (.int 0 t) geI :=
 ⟨fun hq => PyProof.Rows.ge_fi hq, fun hq => PyProof.Rows.le_fi (by rw [cut_zero.1]; exact hq), fun hq => PyProof.Rows.le_if (by rw [cut_zero.2]; exact hq)⟩
theorem UU_len (p : Nat) : (UU p).length = 14 := rfl
theorem idx_of {p : Nat} (hp : p < 9) {y : Str} (hy : y ∈ UU p) : ∃ i, i < 14 ∧ (UU p)[i]? = some y ∧ rkU p y = 20 - i ∧ scr y WRD = scs.getD i 0 := by
 have hi := List.idxOf_lt_length_of_mem hy
 rw [UU_len] at hi
 have e1 : (UU p)[(UU p).idxOf y]? = some y := by
  rw [List.getElem?_eq_getElem (by rw [UU_len]; exact hi)]
  exact congrArg some (List.getElem_idxOf _)
 refine ⟨(UU p).idxOf y, hi, e1, rfl, ?_⟩
 have h := scr_tab ⟨p, hp⟩
 dsimp only at h
 rw [← h, List.getD_eq_getElem?_getD, List.getElem?_map, e1]
 rfl
theorem rk_ok {p : Nat} (hp : p < 9) {Es : List Sc} (h : ∀ e ∈ Es, e.x.1 ∈ UU p ∧ e.f = scr e.x.1 WRD) : RkOk (fun _ y => rkU p y) Es := by
 intro e he e' he'
 obtain ⟨m1, f1⟩ := h e he
 obtain ⟨m2, f2⟩ := h e' he'
 obtain ⟨i, hi, ei, ri, si⟩ := idx_of hp m1
 obtain ⟨j, hj, ej, rj, sj⟩ := idx_of hp m2
 have hb := rkB_all ⟨p, hp⟩
 unfold rkB at hb
 have hb2 := List.all_eq_true.mp (List.all_eq_true.mp hb i (List.mem_range.mpr hi)) j (List.mem_range.mpr hj)
 dsimp only at hb2
 have gi : (UU p).getD i WRD = e.x.1 := by rw [List.getD_eq_getElem?_getD, ei]; rfl
 have gj : (UU p).getD j WRD = e'.x.1 := by rw [List.getD_eq_getElem?_getD, ej]; rfl
 rw [gi, gj, ← si, ← sj, ← f1, ← f2] at hb2
 simp only [Bool.and_eq_true] at hb2
 obtain ⟨⟨⟨⟨c1, c2⟩, c3⟩, c4⟩, c5⟩ := hb2
 have ri' : rkU p e.x.1 = 20 - i := ri
 have rj' : rkU p e'.x.1 = 20 - j := rj
 show _ ∧ _ ∧ _ ∧ _ ∧ _
 dsimp only
 rw [ri', rj']
 have c1' := eq_of_beq c1
 refine ⟨?_, fun q => ?_, fun q => ?_, fun q => ?_, fun q => ?_⟩
 ·rw [c1', beq_iff_eq]; omega
 ·rw [q, Bool.false_or] at c2
  rw [eq_of_beq c2, decide_eq_true_eq]; omega
 ·rw [q, Bool.not_true, Bool.false_or] at c3
  have := decide_eq_decide.mp (eq_of_beq c3)
  rw [this]; omega
 ·rw [q, Bool.false_or] at c4
  rw [eq_of_beq c4, decide_eq_true_eq]; omega
 ·rw [q, Bool.not_true, Bool.false_or] at c5
  have := decide_eq_decide.mp (eq_of_beq c5)
  rw [this]; omega
theorem row_answer {p m c : Nat} (hp : p < 9) (hm : m < 3) {K : Str → Bool} (hK : (UU p).filter K = (UU p).take c) (hc : 0 < c) {rw P : List (Str × Tok)} (hr : (rw.map (·.1)).Perm (List.replicate m WRD ++ UU p)) (hP : P.Perm (rw.filter fun x => K x.1))
  (hw : P.Pairwise fun a b => rkU p b.1 ≤ rkU p a.1) : P.map (·.1) = List.replicate m WRD ++ (UU p).take c := by
 have hW : K WRD = true := by
  have : WRD ∈ (UU p).filter K := by
   rw [hK]
   cases c with
   | zero => omega
   | succ c => exact .head _
  exact (List.mem_filter.mp this).2
 have hsub : (List.replicate m WRD ++ (UU p).take c).Sublist (List.replicate m WRD ++ UU p) := (List.Sublist.refl _).append (List.take_sublist _ _)
 have h1 : (P.map (·.1)).Perm (List.replicate m WRD ++ (UU p).take c) := by
  have e1 : (rw.filter fun x => K x.1).map (·.1) = (rw.map (·.1)).filter K := by
   rw [List.filter_map]; rfl
  have e2 : (List.replicate m WRD ++ UU p).filter K = List.replicate m WRD ++ (UU p).take c := by
   rw [List.filter_append, hK, List.filter_replicate, if_pos hW]
  have := hP.map (·.1)
  rw [e1] at this
  exact this.trans (e2 ▸ hr.filter K)
 have hU : ∀ a ∈ List.replicate m WRD ++ UU p, a ∈ UU p := fun a ha => by
  rcases List.mem_append.mp ha with q | q
  ·rw [List.eq_of_mem_replicate q]; exact .head _
  ·exact q
 refine uniq_sorted (rkU p) h1 (by rw [List.pairwise_map]; exact hw) ((rkU_fall ⟨p, hp⟩ ⟨m, hm⟩).sublist hsub) ?_
 intro a ha b hb hab
 have ha' := hU a (hsub.subset (h1.mem_iff.mp ha))
 have hb' := hU b (hsub.subset (h1.mem_iff.mp hb))
 have h2 := List.all_eq_true.mp (List.all_eq_true.mp (rkU_inj ⟨p, hp⟩) a ha') b hb'
 dsimp only at h2
 rw [hab] at h2
 simpa using h2
end
section
open PySem.Spec PySem.SeqAt
def fixTk : List (Str × Tok) := (Str.ofString "", 539) :: strg
theorem fix_ok : (fixTk.all fun p => fixTk.all fun q => (p.2 != q.2 || p.1 == q.1) && p.2 != 0 && decide (p.2 < 776) && p.2 != 741) = true := by decide +kernel
theorem tk_ok {ns : List Nr} {t0 t1 : Nat} (ht : 776 ≤ t0) (hT : NTk t0 t1 ns) : ∀ p, (p ∈ fixTk ∨ ∃ e ∈ ns, e.x = p) → p.2 ≠ 0 ∧ ∀ q, (q ∈ fixTk ∨ ∃ e ∈ ns, e.x = q) → p.2 = q.2 → p.1 = q.1 := by
 have fx : ∀ p ∈ fixTk, (∀ q ∈ fixTk, p.2 = q.2 → p.1 = q.1) ∧ p.2 ≠ 0 ∧ p.2 < 776 ∧ p.2 ≠ 741 := by
  intro p hp
  have h := List.all_eq_true.mp fix_ok p hp
  refine ⟨fun q hq e => ?_, ?_⟩
  ·have h2 := List.all_eq_true.mp h q hq
   simp only [Bool.and_eq_true] at h2
   have h3 := h2.1.1.1
   rw [e] at h3
   simpa using h3
  ·have h2 := List.all_eq_true.mp h p hp
   simp only [Bool.and_eq_true] at h2
   exact ⟨by simpa using h2.1.1.2, by simpa using h2.1.2, by simpa using h2.2⟩
 have nz : ∀ e ∈ ns, e.t ≠ 0 ∧ (e.t = 741 ∨ 776 ≤ e.t) := fun e he => by
  rcases hT.tok e he with q | q
  ·have h1 : e.t = 741 := q.1
   exact ⟨by omega, .inl h1⟩
  ·have h1 := q.1
   exact ⟨by omega, .inr (by omega)⟩
 intro p hp
 rcases hp with hp | ⟨e, he, rfl⟩
 ·obtain ⟨f1, f2, f3, f4⟩ := fx p hp
  refine ⟨f2, fun q hq hpq => ?_⟩
  rcases hq with hq | ⟨e, he, rfl⟩
  ·exact f1 q hq hpq
  ·exfalso
   have h1 : (p.2 : Nat) = e.t := hpq
   have h3 : (p.2 : Nat) < 776 := f3
   have h4 : ¬ (p.2 : Nat) = 741 := f4
   rcases (nz e he).2 with z | z
   ·exact h4 (h1.trans z)
   ·exact absurd (h1 ▸ h3 : e.t < 776) (Nat.not_lt.mpr z)
 ·refine ⟨(nz e he).1, fun q hq hpq => ?_⟩
  rcases hq with hq | ⟨e', he', rfl⟩
  ·exfalso
   obtain ⟨f1, f2, f3, f4⟩ := fx q hq
   have h1 : e.t = (q.2 : Nat) := hpq
   have h3 : (q.2 : Nat) < 776 := f3
   have h4 : ¬ (q.2 : Nat) = 741 := f4
   rcases (nz e he).2 with z | z
   ·exact h4 (h1.symm.trans z)
   ·exact absurd (h1 ▸ h3 : e.t < 776) (Nat.not_lt.mpr z)
  ·obtain ⟨i, hi, ei⟩ := List.mem_iff_getElem.mp he
   obtain ⟨j, hj, ej⟩ := List.mem_iff_getElem.mp he'
   have hpq' : e.t = e'.t := hpq
   rcases Nat.lt_trichotomy i j with q | q | q
   ·have := List.pairwise_iff_getElem.mp hT.inj i j hi hj q
    rw [ei, ej] at this; omega
   ·subst q; rw [← ei, ← ej]
   ·have := List.pairwise_iff_getElem.mp hT.inj j i hj hi q
    rw [ei, ej] at this; omega
section
variable {w : World} {A : Around} {E : Value → Shared → Prop} {s : Shared} {hb : Heap} {L pd : Addr} {T : List (Addr × Obj)} {l : List (Str × Value)} {cut : Value} {R : Result → Shared → Prop} {rw : List (Str × Tok)} {nd n x : Nat} {tn : Tok} {g : UInt64 → Bool} {args : Args}
theorem gcm_row (G : Gd (KN w.params) tabs hb) (B : BM hb) (S : St hb tabs L l T s.heap) (hd : A.depth + 40 < recursionLimit) (hu : A.units + 200 < cLine) (hh : A.handled = none) (C : CutV w cut g) (hx : x < 9) (hpd : (pd, lstO (rw.map strV) nd) ∈ T)
  (hbind : BindsTo s (fd286 w.params) args [(Str.ofString "word", .str WRD 741), (Str.ofString "possibilities", .ref pd), (Str.ofString "n", .int n tn), (Str.ofString "cutoff", cut)])
  (hn : 0 < n) (hn60 : n ≤ 60) (hrl : rw.length ≤ 60) (hmem : ∀ p ∈ rw, p.1 ∈ UU x)
  (htk : ∀ p ∈ (Str.ofString "", 539) :: rw, p.2 ≠ 0 ∧ ∀ q ∈ (Str.ofString "", 539) :: rw, p.2 = q.2 → p.1 = q.1)
  (k : ∀ (s' : Shared) (X : List (Addr × Obj)) (r : Addr) (nr : Nat) (P : List (Str × Tok)), Kp s s' → St hb tabs L l ((r, lstO ((P.take n).map strV) nr) :: (X ++ T)) s'.heap → P.Perm (rw.filter fun y => kept g y.1 WRD) → P.Pairwise (fun a b => rkU x b.1 ≤ rkU x a.1) → R (.ok (.ret (.ref r))) s') :
  codeAny (model pw w) A (.call (.ref 286) args) R s := by
 have hsz : ∀ y ∈ UU x, y.cps.size ≤ 60 := fun y hy => by
  have h := List.all_eq_true.mp (UU_size ⟨x, hx⟩) y hy
  have := of_decide_eq_true h
  omega
 refine gcm_c (wd := (WRD, 741)) (rk := fun _ y => rkU x y) G B (nl_c G) S hd hu hh C hpd hbind hn hn60 hrl (by decide +kernel) (fun p hp => hsz _ (hmem p hp)) (by decide) (by decide +kernel) (fun h => absurd h (by decide)) htk ?_ ?_
 ·intro Es hE
  exact rk_ok hx fun e he => ⟨hmem _ (hE e he).1, (hE e he).2⟩
 ·intro s' X r nr P K' S' hP hw
  exact k s' X r nr P K' S' hP hw
end
end
section
open PySem.Spec PySem.SeqAt
def Has (T : List (Addr × Obj)) (a : Addr) (vs : List Value) : Prop := ∃ c, (a, lstO vs c) ∈ T
theorem Has.mono {T T' : List (Addr × Obj)} {a : Addr} {vs : List Value} (h : Has T a vs) (hs : ∀ p ∈ T, p ∈ T') : Has T' a vs := let ⟨c, q⟩ := h; ⟨c, hs _ q⟩
structure LF (nr tw ro du sh nb : Addr) (ns : List Nr) (ps : List (UInt64 × Tok)) (row : List (Str × Tok)) (h₀ : Nr) (nvs : List Value) (x m t0 t1 : Nat) (T : List (Addr × Obj)) : Prop where
 hx : x < 9
 hm : m < 3
 hk : ns.map Nr.k = nearL x
 hh : ns[0]? = some h₀
 ht : 776 ≤ t0
 tk : NTk t0 t1 ns
 hrow : row.Perm (wsOf ns ++ List.replicate m h₀.x ++ strg)
 hps : ps.map (·.1) = scs.take 10
 nv3 : 3 ≤ nvs.length
 nv6 : nvs.length ≤ 6
 nvi : ∀ v ∈ nvs, ∃ i t, v = Value.int i t
 mN : NrOk T ns
 mnr : Has T nr (refsN ns)
 mtw : Has T tw ((List.replicate m h₀.x).map strV)
 mro : Has T ro (row.map strV)
 mdu : Has T du ((List.replicate m h₀.x ++ wsOf ns).map strV)
 msh : Has T sh (ps.map fltV)
 mnb : Has T nb nvs
section
variable {nr tw ro du sh nb : Addr} {ns : List Nr} {ps : List (UInt64 × Tok)} {row : List (Str × Tok)} {h₀ : Nr} {nvs : List Value} {x m t0 t1 : Nat} {T T' : List (Addr × Obj)}
theorem LF.mono (F : LF nr tw ro du sh nb ns ps row h₀ nvs x m t0 t1 T) (hs : ∀ p ∈ T, p ∈ T') : LF nr tw ro du sh nb ns ps row h₀ nvs x m t0 t1 T' :=
 { F with mN := fun e he => hs _ (F.mN e he), mnr := F.mnr.mono hs, mtw := F.mtw.mono hs, mro := F.mro.mono hs, mdu := F.mdu.mono hs, msh := F.msh.mono hs, mnb := F.mnb.mono hs }
theorem LF.nl (F : LF nr tw ro du sh nb ns ps row h₀ nvs x m t0 t1 T) : ns.length = 10 := by
 have := congrArg List.length F.hk
 rw [List.length_map, near_len] at this
 exact this
theorem LF.pl (F : LF nr tw ro du sh nb ns ps row h₀ nvs x m t0 t1 T) : ps.length = 10 := by
 have := congrArg List.length F.hps
 rw [List.length_map] at this
 exact this
theorem LF.ws (F : LF nr tw ro du sh nb ns ps row h₀ nvs x m t0 t1 T) : (wsOf ns).map (·.1) = (nearL x).map (·.1) := by
 rw [← F.hk, List.map_map, List.map_map]; rfl
theorem LF.h0 (F : LF nr tw ro du sh nb ns ps row h₀ nvs x m t0 t1 T) : h₀.x.1 = WRD := by
 have h1 : (ns.map Nr.k)[0]? = some h₀.k := by rw [List.getElem?_map, F.hh]; rfl
 rw [F.hk] at h1
 have h2 : (nearL x)[0]? = some (WRD, 18, 18) := rfl
 rw [h2] at h1
 exact (congrArg Prod.fst (Option.some.inj h1)).symm
theorem LF.h0m (F : LF nr tw ro du sh nb ns ps row h₀ nvs x m t0 t1 T) : h₀ ∈ ns := List.mem_of_getElem? F.hh
theorem LF.rowU (F : LF nr tw ro du sh nb ns ps row h₀ nvs x m t0 t1 T) : (row.map (·.1)).Perm (List.replicate m WRD ++ UU x) := by
 have h1 := F.hrow.map (·.1)
 rw [List.map_append, List.map_append, F.ws, List.map_replicate, F.h0] at h1
 have h2 : (strg.map (·.1)).Perm strangersR := strg_perm
 refine h1.trans ?_
 have h3 : ((nearL x).map (·.1) ++ List.replicate m WRD ++ strg.map (·.1)).Perm (List.replicate m WRD ++ (nearL x).map (·.1) ++ strg.map (·.1)) := List.perm_append_comm.append_right _
 refine h3.trans ?_
 rw [List.append_assoc]
 exact ((h2.append_left _).append_left _)
theorem LF.rl (F : LF nr tw ro du sh nb ns ps row h₀ nvs x m t0 t1 T) : row.length = 14 + m := by
 have := F.rowU.length_eq
 rw [List.length_map, List.length_append, List.length_replicate, UU_len] at this
 omega
theorem LF.rmem (F : LF nr tw ro du sh nb ns ps row h₀ nvs x m t0 t1 T) : ∀ p ∈ row, p.1 ∈ UU x := fun p hp => by
 have := F.rowU.mem_iff.mp (List.mem_map.mpr ⟨p, hp, rfl⟩)
 rcases List.mem_append.mp this with q | q
 ·rw [List.eq_of_mem_replicate q]; exact .head _
 ·exact q
theorem LF.rtk (F : LF nr tw ro du sh nb ns ps row h₀ nvs x m t0 t1 T) : ∀ p ∈ (Str.ofString "", 539) :: row, p.2 ≠ 0 ∧ ∀ q ∈ (Str.ofString "", 539) :: row, p.2 = q.2 → p.1 = q.1 := by
 have cls : ∀ p ∈ (Str.ofString "", 539) :: row, p ∈ fixTk ∨ ∃ e ∈ ns, e.x = p := fun p hp => by
  rcases List.mem_cons.mp hp with rfl | hp
  ·exact .inl (.head _)
  ·rcases List.mem_append.mp (F.hrow.mem_iff.mp hp) with q | q
   ·rcases List.mem_append.mp q with q | q
    ·obtain ⟨e, he, h⟩ := List.mem_map.mp q
     exact .inr ⟨e, he, h⟩
    ·exact .inr ⟨h₀, F.h0m, (List.eq_of_mem_replicate q).symm⟩
   ·exact .inl (.tail _ q)
 intro p hp
 obtain ⟨a, b⟩ := tk_ok F.ht F.tk p (cls p hp)
 exact ⟨a, fun q hq => b q (cls q hq)⟩
def rkSh (f : UInt64) : Nat := 20 - scs.idxOf f
theorem rkSh_ok : ((scs.take 10).all fun f => (scs.take 10).all fun g => (Float64.cmp f g == some Ordering.lt) == decide (rkSh f < rkSh g)) = true := by decide +kernel
theorem rkSh_fall : (scs.take 10).Pairwise fun a b => rkSh b < rkSh a := by decide +kernel
end
section
variable {w : World} {A : Around} {E : Value → Shared → Prop} {s : Shared} {hb : Heap} {L' sc nb nr du ro tw wd sh : Addr} {T : List (Addr × Obj)} {x many m t0 t1 : Nat} {tm : Tok} {ns : List Nr} {ps : List (UInt64 × Tok)} {row : List (Str × Tok)} {h₀ : Nr} {nvs : List Value}
theorem boot_set' : bootBuiltins (Str.ofString "set") = some (.type "set") := by kernel_rfl
theorem law_d (G : Gd (KN w.params) tabs hb) (hu : A.units + 1000 < cLine) (hh : A.handled = none) (F : LF nr tw ro du sh nb ns ps row h₀ nvs x m t0 t1 T) (S : St hb tabs L' (nm8 sh du ro tw wd nr nb sc many tm) T s.heap) {Q : Flow → Shared → Prop}
  (k : ∀ (s' : Shared) (X : List (Addr × Obj)), Kp s s' → St hb tabs L' (nm8 sh du ro tw wd nr nb sc many tm) (X ++ T) s'.heap → wpAny (model pw w) (A.deeper (ev306 w L')) (execs (lawB.drop 8) (ev306 w L')) Q E s') :
  wpAny (model pw w) (A.deeper (ev306 w L')) (execs (lawB.drop 7) (ev306 w L')) Q E s := by
 obtain ⟨c, hsh⟩ := F.msh
 have hpm : ∀ p ∈ ps, p.1 ∈ scs.take 10 := fun p hp => by
  rw [← F.hps]; exact List.mem_map.mpr ⟨p, hp, rfl⟩
 refine q_if ?_
 refine r_or ?_
 refine wpAny_isTrue_Compare1 ?_
 refine r_local S m0 ?_
 refine r_callKw ?_
 refine r_builtin G S boot_sorted' ?_
 refine callWith_kw ?_
 refine args_cons ?_
 refine r_local S m0 ?_
 refine args_nil ?_
 refine kws_cons ?_
 refine wpAny_Constant_bool ?_
 refine kws_nil ?_
 refine r_sortedF rkSh S hsh (by rw [F.pl]; decide) (fun p hp q hq => ?_) ?_ ?_
 ·have h1 := List.all_eq_true.mp (List.all_eq_true.mp rkSh_ok p.1 (hpm p hp)) q.1 (hpm q hq)
  exact eq_of_beq h1
 ·have := rkSh_fall
  rw [← F.hps, List.pairwise_map] at this
  exact this
 intro s₁ D n' X₁ K₁ S₁
 have hsh₁ : (sh, lstO (ps.map fltV) c) ∈ (D, lstO (ps.map fltV) n') :: (X₁ ++ T) := .tail _ (List.mem_append_right _ hsh)
 have hne := RcNeAt.lists (A := A.deeper (ev306 w L')) (s := s₁) (e := fun _ => true) (S₁.isList hsh₁) (S₁.isList m0) rfl (by show A.units + 3 < cLine; omega) (fun j h1 h2 => EqAt.same _)
 refine hne _ _ _ _ ?_
 have hall : ((List.range (ps.map fltV).toArray.size).all fun _ => true) = true := by simp
 rw [hall]
 refine wpAny_truthy_bool ⟨nofun, fun _ => ?_⟩
 refine r_or ?_
 refine wpAny_isTrue_Compare1 ?_
 refine r_call ?_
 refine r_builtin G S₁ boot_len ?_
 refine cw_builtin ?_
 refine args_cons ?_
 refine r_call ?_
 refine r_builtin G S₁ boot_set' ?_
 refine cw_type ?_
 refine args_cons ?_
 refine r_local S₁ m0 ?_
 refine args_nil ?_
 refine r_setF (m := 10) hh S₁ hsh₁ (fun p hp => ?_) ?_ ?_
 ·have h1 := List.all_eq_true.mp hash_ok p.1 (hpm p hp)
  simp only [Bool.and_eq_true, decide_eq_true_eq] at h1
  exact ⟨h1.1.1.1, h1.1.1.2, h1.1.2, h1.2⟩
 ·intro led
  have hpl := F.pl
  have hps := F.hps
  match ps, hpl, hps with
  | [p0, p1, p2, p3, p4, p5, p6, p7, p8, p9], _, hps =>
   simp only [List.map_cons, List.map_nil] at hps
   have e := hps
   unfold scs at e
   simp only [List.take_succ_cons, List.take_zero, List.cons.injEq, and_true] at e
   obtain ⟨e0, e1, e2, e3, e4, e5, e6, e7, e8, e9⟩ := e
   have := fold10 led p0.2 p1.2 p2.2 p3.2 p4.2 p5.2 p6.2 p7.2 p8.2 p9.2
   rw [← e0, ← e1, ← e2, ← e3, ← e4, ← e5, ← e6, ← e7, ← e8, ← e9] at this
   exact this
 intro s₂ D₂ es ep tb K₂ hes hft S₂
 refine args_nil ?_
 refine PySem.call_len_set (S₂.obj _ m0) ⟨rfl, rfl, rfl⟩ rfl hft (by rw [hes]; decide) ?_
 rw [hes]
 refine r_call ?_
 refine r_builtin G (by exact S₂) boot_len ?_
 refine cw_builtin ?_
 refine args_cons ?_
 refine r_local (by exact S₂) m0 ?_
 refine args_nil ?_
 refine PyProof.Rows.len_list (items := (ps.map fltV).toArray) (St.isList (by exact S₂) (.tail _ hsh₁)) (by rw [List.size_toArray, List.length_map, F.pl]; decide) ?_
 rw [List.size_toArray, List.length_map, F.pl]
 refine P.ne_int ?_
 refine wpAny_truthy_bool ⟨fun q => absurd q (by decide), fun _ => isTrue_or_nil ⟨nofun, fun _ => ?_⟩⟩
 refine q_nil ?_
 exact k _ ((D₂, setD es ep tb) :: (D, lstO (ps.map fltV) n') :: X₁) ⟨K₂.os.trans K₁.os, fun z => K₂.gens (K₁.gens z)⟩ (by exact S₂)
end
end
section
section
variable {prog : Program} {w : World} {A : Around} {E : Value → Shared → Prop} {s : Shared} {K : Frag} {hb : Heap} {tabs : List Addr} {env : Env} {pos : Pos} {f : Addr} {fd : FuncData}
theorem cw_defKw {Q : Value → Shared → Prop} {e : Expr} {rest : List Expr} {kws : List Keyword} {oc : Value} {od : Option Addr} {osl : Array (Option Value)} (G : Gd K tabs hb) (hK : K.lookup f = some ⟨oc, od, .func fd, osl⟩)
  (h : wpAny (model prog w) A (spliced (backTo pos (starEach (e :: rest) env))) (fun vs s₁ => wpAny (model prog w) A (evalAll ((backToKw pos (keywordEach kws env)).map (·.2)))
   (fun ks s₂ => (∃ L l T, St hb tabs L l T s₂.heap) ∧ codeAny (model prog w) A (.call (.ref f) ⟨vs, ((backToKw pos (keywordEach kws env)).filterMap (·.1)).zip ks⟩) (fun r s' => match r with | .ok (.ret v) => Q v s' | .ok _ => False | .error e => E e s') s₂) E s₁) E s)
  (hall : (backToKw pos (keywordEach kws env)).all (·.1.isSome) = true := by rfl) (he : starEach (e :: rest) env = (false, eval e env) :: starEach rest env := by rfl) :
  wpAny (model prog w) A (callWith pos (.ref f) [] (backTo pos (starEach (e :: rest) env)) (backToKw pos (keywordEach kws env))) Q E s := by
 refine callWith_def_kw (o := ⟨oc, od, .func fd, osl⟩) (fd := fd) rfl ?_
 refine evalArgs_kw2 hall ?_ he
 refine wpAny_mono h (fun vs s₁ z => wpAny_mono z (fun ks s₂ z => ?_) fun _ _ q => q) fun _ _ q => q
 obtain ⟨⟨L, l, T, S⟩, z⟩ := z
 exact ⟨S.kin G f _ hK, wpAny_call z⟩
end
end
section
open PySem.Spec PySem.SeqAt
theorem UU_count : ∀ p : Fin 9, ((UU p.val).countP fun y => y == WRD) = 1 := by decide +kernel
section
variable {nr tw ro du sh nb : Addr} {ns : List Nr} {ps : List (UInt64 × Tok)} {row : List (Str × Tok)} {h₀ : Nr} {nvs : List Value} {x m t0 t1 : Nat} {T T' : List (Addr × Obj)}
theorem LF.count (F : LF nr tw ro du sh nb ns ps row h₀ nvs x m t0 t1 T) : (row.countP fun p => p.1 == WRD) = m + 1 := by
 have h1 : (row.countP fun p => p.1 == WRD) = (row.map (·.1)).countP fun y => y == WRD := by rw [List.countP_map]; rfl
 rw [h1, F.rowU.countP_eq, List.countP_append, UU_count ⟨x, F.hx⟩, List.countP_replicate]
 simp
end
section
variable {w : World} {A : Around} {E : Value → Shared → Prop} {s : Shared} {hb : Heap} {L' sc nb nr du ro tw wd sh : Addr} {T : List (Addr × Obj)} {x many m t0 t1 : Nat} {tm : Tok} {ns : List Nr} {ps : List (UInt64 × Tok)} {row : List (Str × Tok)} {h₀ : Nr} {nvs : List Value}
theorem take_all {α : Type} {P rw : List α} {f : α → Bool} (h : P.Perm (rw.filter f)) {n : Nat} (hn : rw.length ≤ n) : P.take n = P :=
 List.take_of_length_le (Nat.le_trans (by rw [h.length_eq]; exact List.length_filter_le _ _) hn)
theorem bind_kw {L : Addr} {l : List (Str × Value)} {T : List (Addr × Obj)} {a : Str} {ta : Tok} {pd : Addr} {n : Int} {tn : Tok} {cut : Value} (G : Gd (KN w.params) tabs hb) (S : St hb tabs L l T s.heap) : BindsTo s (fd286 w.params) ⟨[.str a ta, .ref pd], [(Str.ofString "n", .int n tn), (Str.ofString "cutoff", cut)]⟩
  [(Str.ofString "word", .str a ta), (Str.ofString "possibilities", .ref pd), (Str.ofString "n", .int n tn), (Str.ofString "cutoff", cut)] := BindsTo.of_defaults (o := o281 w.params) rfl (S.kin G 281 _ (by kernel_rfl)) rfl rfl rfl
theorem bind_pos {L : Addr} {l : List (Str × Value)} {T : List (Addr × Obj)} {a : Str} {ta : Tok} {pd : Addr} {n : Int} {tn : Tok} {cut : Value} (G : Gd (KN w.params) tabs hb) (S : St hb tabs L l T s.heap) : BindsTo s (fd286 w.params) ⟨[.str a ta, .ref pd, .int n tn, cut], []⟩
  [(Str.ofString "word", .str a ta), (Str.ofString "possibilities", .ref pd), (Str.ofString "n", .int n tn), (Str.ofString "cutoff", cut)] := BindsTo.of_defaults (o := o281 w.params) rfl (S.kin G 281 _ (by kernel_rfl)) rfl rfl rfl
theorem bind_cut {L : Addr} {l : List (Str × Value)} {T : List (Addr × Obj)} {a : Str} {ta : Tok} {pd : Addr} {cut : Value} (G : Gd (KN w.params) tabs hb) (S : St hb tabs L l T s.heap) : BindsTo s (fd286 w.params) ⟨[.str a ta, .ref pd], [(Str.ofString "cutoff", cut)]⟩
  [(Str.ofString "word", .str a ta), (Str.ofString "possibilities", .ref pd), (Str.ofString "n", .int (3 : Nat) 730), (Str.ofString "cutoff", cut)] := BindsTo.of_defaults (o := o281 w.params) rfl (S.kin G 281 _ (by kernel_rfl)) rfl rfl rfl
theorem law_e (G : Gd (KN w.params) tabs hb) (B : BM hb) (hd : A.depth + 60 < recursionLimit) (hu : A.units + 1000 < cLine) (hh : A.handled = none) (F : LF nr tw ro du sh nb ns ps row h₀ nvs x m t0 t1 T) (S : St hb tabs L' (nm8 sh du ro tw wd nr nb sc many tm) T s.heap) {Q : Flow → Shared → Prop}
  (k : ∀ (s' : Shared) (X : List (Addr × Obj)), Kp s s' → St hb tabs L' (nm8 sh du ro tw wd nr nb sc many tm) (X ++ T) s'.heap → wpAny (model pw w) (A.deeper (ev306 w L')) (execs (lawB.drop 9) (ev306 w L')) Q E s') :
  wpAny (model pw w) (A.deeper (ev306 w L')) (execs (lawB.drop 8) (ev306 w L')) Q E s := by
 obtain ⟨cr, hro⟩ := F.mro
 obtain ⟨ct, htw⟩ := F.mtw
 have hrl := F.rl
 have hm := F.hm
 refine q_if ?_
 refine r_or ?_
 refine wpAny_isTrue_Compare1 ?_
 refine r_callKw ?_
 refine r_global G S (v := .ref 286) (by kernel_rfl) ?_
 refine cw_defKw G (lk286 _) ?_
 refine args_cons ?_
 refine r_global G S (v := .str WRD 741) (by kernel_rfl) ?_
 refine args_cons ?_
 refine r_local S m2 ?_
 refine args_nil ?_
 refine kws_cons ?_
 refine r_call ?_
 refine r_builtin G S boot_len ?_
 refine cw_builtin ?_
 refine args_cons ?_
 refine r_local S m2 ?_
 refine args_nil ?_
 refine PyProof.Rows.len_list (items := (row.map strV).toArray) (S.isList hro) (by rw [List.size_toArray, List.length_map]; omega) ?_
 rw [List.size_toArray, List.length_map]
 refine kws_cons ?_
 refine PySem.AutoFloatOps.wpAny_Constant_float ?_
 refine kws_nil ?_
 refine ⟨⟨_, _, _, S⟩, ?_⟩
 refine gcm_row (n := row.length) (x := x) (g := geF one64) G B (by exact S) (by show A.depth + 1 + 40 < _; omega) (by show A.units + 3 + 200 < cLine; omega) hh (cutF w (.head _) _) F.hx hro (bind_kw G (by exact S)) (by omega) (by omega) (by omega) F.rmem F.rtk ?_
 intro s₁ X₁ r₁ nr₁ Pk K₁ S₁ hP hw
 rw [take_all hP (Nat.le_refl _)] at S₁
 have hans := row_answer F.hx hm (K := fun y => kept (geF one64) y WRD) (kept_one ⟨x, F.hx⟩) (by decide) F.rowU hP hw
 replace K₁ : Kp s s₁ := ⟨K₁.os, K₁.gens⟩
 have htw₁ : (tw, lstO ((List.replicate m h₀.x).map strV) ct) ∈ (r₁, lstO (Pk.map strV) nr₁) :: (X₁ ++ T) := .tail _ (List.mem_append_right _ htw)
 refine wpAny_BinOp ?_
 refine r_local (by exact S₁) m3 ?_
 refine r_list ?_
 refine args_cons ?_
 refine r_global G (by exact S₁) (v := .str WRD 741) (by kernel_rfl) ?_
 refine args_nil ?_
 refine ⟨rfl, _, _, _, _, _, S₁, ?_⟩
 intro D₂ h₂ S₂
 refine r_addL S₂ (.tail _ htw₁) m0 (by rw [List.length_map, List.length_replicate]; simp; omega) ?_
 intro D₃ h₃ S₃
 have e1 : (List.replicate m h₀.x).map strV ++ [.str WRD 741] = (List.replicate m h₀.x ++ ([(WRD, 741)] : List (Str × Tok))).map strV := by rw [List.map_append]; rfl
 rw [e1] at S₃
 refine r_neStrs (xs := Pk) (ys := List.replicate m h₀.x ++ ([(WRD, 741)] : List (Str × Tok))) ⟨_, S₃.obj _ m2, rfl, nr₁, rfl⟩ ⟨_, S₃.obj _ m0, rfl, 0, rfl⟩ (by show A.units + 3 < cLine; omega) ?_
 have e2 : (List.replicate m h₀.x ++ ([(WRD, 741)] : List (Str × Tok))).map (·.1) = List.replicate m WRD ++ [WRD] := by rw [List.map_append, List.map_replicate, F.h0]; rfl
 rw [decide_eq_true (by rw [hans, e2]; rfl)]
 refine wpAny_truthy_bool ⟨nofun, fun _ => ?_⟩
 refine r_or ?_
 refine wpAny_isTrue_Compare1 ?_
 refine m_call ?_
 refine r_local (by exact S₃) m2 ?_
 have hro₃ : (ro, lstO (row.map strV) cr) ∈ (D₃, lstO ((List.replicate m h₀.x ++ ([(WRD, 741)] : List (Str × Tok))).map strV) 0) :: (D₂, lstO [.str WRD 741] 0) :: (r₁, lstO (Pk.map strV) nr₁) :: (X₁ ++ T) := .tail _ (.tail _ (.tail _ (List.mem_append_right _ hro)))
 refine r_lmeth (by exact S₃) hro₃ PySem.F.slot_list_count PySem.F.type_list_count ?_
 refine cw_builtin ?_
 refine args_cons ?_
 refine r_global G (by exact S₃) (v := .str WRD 741) (by kernel_rfl) ?_
 refine args_nil ?_
 refine r_countStr (by exact S₃) hro₃ ?_
 rw [F.count]
 refine wpAny_BinOp ?_
 refine wpAny_Constant_int ?_
 refine r_call ?_
 refine r_builtin G (by exact S₃) boot_len ?_
 refine cw_builtin ?_
 refine args_cons ?_
 refine r_local (by exact S₃) m3 ?_
 refine args_nil ?_
 refine PyProof.Rows.len_list (items := ((List.replicate m h₀.x).map strV).toArray) ⟨_, S₃.obj _ (.tail _ (.tail _ htw₁)), rfl, ct, rfl⟩ (by rw [List.size_toArray, List.length_map, List.length_replicate]; omega) ?_
 rw [List.size_toArray, List.length_map, List.length_replicate]
 refine P.add_int ?_
 refine PySem.P.ne_int ?_
 refine wpAny_truthy_bool ⟨fun q => ?_, fun _ => isTrue_or_nil ⟨nofun, fun _ => ?_⟩⟩
 ·exfalso
  have e3 : ((m + 1 : Nat) : Int) = 1 + (m : Int) := by omega
  rw [e3] at q
  simp at q
 refine q_nil ?_
 exact k _ ((D₃, lstO ((List.replicate m h₀.x ++ ([(WRD, 741)] : List (Str × Tok))).map strV) 0) :: (D₂, lstO [.str WRD 741] 0) :: (r₁, lstO (Pk.map strV) nr₁) :: X₁) ⟨K₁.os, K₁.gens⟩ (by exact S₃)
end
end
section
open PySem.Spec PySem.SeqAt
section
variable {nr tw ro du sh nb : Addr} {ns : List Nr} {ps : List (UInt64 × Tok)} {row : List (Str × Tok)} {h₀ : Nr} {nvs : List Value} {x m t0 t1 : Nat} {T T' : List (Addr × Obj)}
theorem LF.share (F : LF nr tw ro du sh nb ns ps row h₀ nvs x m t0 t1 T) {a : Nat} (ha : a < 10) : ∃ t, (ps.map fltV)[a]? = some (.float (scs.getD a 0) t) ∧ scs.getD a 0 ∈ one64 :: scs.take 10 := by
 have hp : a < ps.length := by rw [F.pl]; exact ha
 have h1 : (ps.map (·.1))[a]? = some ps[a].1 := by rw [List.getElem?_map, List.getElem?_eq_getElem hp]; rfl
 rw [F.hps, List.getElem?_take, if_pos ha] at h1
 have h2 : scs.getD a 0 = ps[a].1 := by rw [List.getD_eq_getElem?_getD, h1]; rfl
 refine ⟨ps[a].2, ?_, ?_⟩
 ·rw [List.getElem?_map, List.getElem?_eq_getElem hp, h2]; rfl
 ·rw [h2, ← F.hps]
  exact .tail _ (List.mem_map.mpr ⟨ps[a], List.getElem_mem hp, rfl⟩)
theorem LF.due (F : LF nr tw ro du sh nb ns ps row h₀ nvs x m t0 t1 T) {a : Nat} (ha : a < 10) : ((List.replicate m h₀.x ++ wsOf ns).take (m + a + 1)).map (·.1) = List.replicate m WRD ++ (UU x).take (a + 1) := by
 have e1 : (List.replicate m h₀.x).length = m := List.length_replicate
 rw [List.take_append, e1, List.map_append, List.take_of_length_le (by rw [e1]; omega), List.map_replicate, F.h0]
 have e2 : m + a + 1 - m = a + 1 := by omega
 rw [e2, List.map_take, F.ws]
 unfold UU
 rw [List.take_append_of_le_length (by rw [List.length_map, near_len]; omega)]
end
section
variable {w : World} {A : Around} {E : Value → Shared → Prop} {s : Shared} {hb : Heap} {L' sc nb nr du ro tw wd sh : Addr} {T : List (Addr × Obj)} {x many m t0 t1 : Nat} {tm : Tok} {ns : List Nr} {ps : List (UInt64 × Tok)} {row : List (Str × Tok)} {h₀ : Nr} {nvs : List Value}
abbrev nm10 (to_ : Addr) (a : Nat) (ta : Tok) (sh du ro tw wd nr nb sc : Addr) (many : Nat) (tm : Tok) : List (Str × Value) := (Str.ofString "told", .ref to_) :: (Str.ofString "at", .int (a : Int) ta) :: nm8 sh du ro tw wd nr nb sc many tm
theorem law_f (G : Gd (KN w.params) tabs hb) (B : BM hb) (hd : A.depth + 60 < recursionLimit) (hu : A.units + 1000 < cLine) (hh : A.handled = none) (F : LF nr tw ro du sh nb ns ps row h₀ nvs x m t0 t1 T) (hmy : 1 ≤ many ∧ many ≤ 12) (S : St hb tabs L' (nm8 sh du ro tw wd nr nb sc many tm) T s.heap) {Q : Flow → Shared → Prop}
  (k : ∀ (s' : Shared) (X : List (Addr × Obj)) (to_ : Addr) (a : Nat) (ta : Tok), Kp s s' → a < 10 → St hb tabs L' (nm10 to_ a ta sh du ro tw wd nr nb sc many tm) (X ++ T) s'.heap → wpAny (model pw w) (A.deeper (ev306 w L')) (execs (lawB.drop 12) (ev306 w L')) Q E s') :
  wpAny (model pw w) (A.deeper (ev306 w L')) (execs (lawB.drop 9) (ev306 w L')) Q E s := by
 obtain ⟨cr, hro⟩ := F.mro
 obtain ⟨ct, htw⟩ := F.mtw
 obtain ⟨cn, hnr⟩ := F.mnr
 obtain ⟨cb, hnb⟩ := F.mnb
 obtain ⟨cs, hsh⟩ := F.msh
 obtain ⟨cd, hdu⟩ := F.mdu
 have hrl := F.rl
 have hm := F.hm
 have hnl := F.nl
 have h3 := F.nv3
 have h6 := F.nv6
 obtain ⟨i2, ti2, e2⟩ := F.nvi nvs[2] (List.getElem_mem (by omega))
 refine q_assign ?_
 refine wpAny_BinOp ?_
 refine r_sub list_getitem_lookup ?_
 refine r_local S m7 ?_
 refine wpAny_Constant_int ?_
 refine ⟨⟨_, S.obj _ hnb, rfl⟩, ?_⟩
 refine gi_list (k := 2) (x := .int i2 ti2) (by exact S) hnb (by omega) (by rw [List.getElem?_eq_getElem (by omega), e2]) ?_
 refine r_call ?_
 refine r_builtin G (by exact S) boot_len ?_
 refine cw_builtin ?_
 refine args_cons ?_
 refine r_local (by exact S) m5 ?_
 refine args_nil ?_
 refine PyProof.Rows.len_list (items := (refsN ns).toArray) (St.isList (s := { s with toks := _ }) (by exact S) hnr) (by rw [List.size_toArray, refsN_len]; omega) ?_
 rw [List.size_toArray, refsN_len, hnl]
 refine mod_nat (m := 10) (by decide) rfl ?_
 intro a ha
 refine r_store (by exact S) (.new (by kernel_rfl)) ?_
 intro h₁ S₁
 obtain ⟨ta, S₁⟩ : ∃ ta, St hb tabs L' ((Str.ofString "at", .int (a : Int) ta) :: nm8 sh du ro tw wd nr nb sc many tm) T h₁ := ⟨_, S₁⟩
 refine restate (by exact S₁) fun s₁ K₁ S₁ => ?_
 replace K₁ : Kp s s₁ := ⟨K₁.os, K₁.gens⟩
 obtain ⟨tf, hsa, hcm⟩ := F.share ha
 have hpl : (ps.map fltV).length ≤ 1000 := by rw [List.length_map, F.pl]; decide
 refine q_assign ?_
 refine r_callKw ?_
 refine r_global G S₁ (v := .ref 286) (by kernel_rfl) ?_
 refine cw_defKw G (lk286 _) ?_
 refine args_cons ?_
 refine r_global G S₁ (v := .str WRD 741) (by kernel_rfl) ?_
 refine args_cons ?_
 refine r_local S₁ m3 ?_
 refine args_nil ?_
 refine kws_cons ?_
 refine r_call ?_
 refine r_builtin G S₁ boot_len ?_
 refine cw_builtin ?_
 refine args_cons ?_
 refine r_local S₁ m3 ?_
 refine args_nil ?_
 refine PyProof.Rows.len_list (items := (row.map strV).toArray) (S₁.isList hro) (by rw [List.size_toArray, List.length_map]; omega) ?_
 rw [List.size_toArray, List.length_map]
 refine kws_cons ?_
 refine r_sub list_getitem_lookup ?_
 refine r_local (by exact S₁) m1 ?_
 refine r_local (by exact S₁) m0 ?_
 refine ⟨⟨_, S₁.obj _ hsh, rfl⟩, ?_⟩
 refine gi_list (k := a) (by exact S₁) hsh hpl hsa ?_
 refine kws_nil ?_
 refine ⟨⟨_, _, _, S₁⟩, ?_⟩
 refine gcm_row (n := row.length) (x := x) (g := geF (scs.getD a 0)) G B (by exact S₁) (by show A.depth + 1 + 40 < _; omega) (by show A.units + 3 + 200 < cLine; omega) hh (cutF w hcm tf) F.hx hro (bind_kw G (by exact S₁)) (by omega) (by omega) (by omega) F.rmem F.rtk ?_
 intro s₂ X₂ to_ c₂ Pk K₂ S₂ hP hw
 rw [take_all hP (Nat.le_refl _)] at S₂
 have hans := row_answer F.hx hm (K := fun y => kept (geF (scs.getD a 0)) y WRD) (kept_at ⟨x, F.hx⟩ ⟨a, ha⟩) (by omega) F.rowU hP hw
 replace K₂ : Kp s s₂ := ⟨K₂.os.trans K₁.os, fun z => K₂.gens (K₁.gens z)⟩
 refine r_store (by exact S₂) (.new (by kernel_rfl)) ?_
 intro h₃ S₃
 refine restate (by exact S₃) fun s₃ K₃ S₃ => ?_
 replace K₃ : Kp s s₃ := ⟨K₃.os.trans K₂.os, fun z => K₃.gens (K₂.gens z)⟩
 have hup : ∀ p ∈ T, p ∈ (to_, lstO (Pk.map strV) c₂) :: (X₂ ++ T) := fun p hp => .tail _ (List.mem_append_right _ hp)
 have hPl : Pk.length ≤ 20 := by
  have := congrArg List.length hans
  rw [List.length_map, List.length_append, List.length_replicate, List.length_take, UU_len] at this
  omega
 have hdl : ((List.replicate m h₀.x ++ wsOf ns).map strV).length = m + 10 := by rw [List.length_map, List.length_append, List.length_replicate, List.length_map, hnl]
 refine q_if ?_
 refine r_or ?_
 refine wpAny_isTrue_Compare1 ?_
 refine r_local S₃ m0 ?_
 refine slice_upto (hb := hb) (tabs := tabs) ?_
 refine r_local S₃ m3 ?_
 refine wpAny_BinOp ?_
 refine wpAny_BinOp ?_
 refine r_call ?_
 refine r_builtin G S₃ boot_len ?_
 refine cw_builtin ?_
 refine args_cons ?_
 refine r_local S₃ m5 ?_
 refine args_nil ?_
 refine PyProof.Rows.len_list (items := ((List.replicate m h₀.x).map strV).toArray) (S₃.isList (hup _ htw)) (by rw [List.size_toArray, List.length_map, List.length_replicate]; omega) ?_
 rw [List.size_toArray, List.length_map, List.length_replicate]
 refine r_local (by exact S₃) m1 ?_
 refine P.add_int ?_
 refine wpAny_Constant_int ?_
 refine P.add_int ?_
 refine ⟨_, _, _, du, _, cd, m + a + 1, _, rfl, by congr 1, S₃, hup _ hdu, by omega, ?_⟩
 intro D₄ X₄ h₄ S₄
 rw [← List.map_take] at S₄
 refine r_neStrs (xs := Pk) (ys := (List.replicate m h₀.x ++ wsOf ns).take (m + a + 1)) ⟨_, S₄.obj _ (.tail _ (List.mem_append_right _ (.head _))), rfl, c₂, rfl⟩ ⟨_, S₄.obj _ m0, rfl, 0, rfl⟩ (by show A.units + 3 < cLine; omega) ?_
 rw [decide_eq_true (by rw [hans, F.due ha])]
 refine wpAny_truthy_bool ⟨nofun, fun _ => ?_⟩
 refine restate (by exact S₄) fun s₄ K₄ S₄ => ?_
 replace K₄ : Kp s s₄ := ⟨K₄.os.trans K₃.os, fun z => K₄.gens (K₃.gens z)⟩
 have hup₄ : ∀ p ∈ T, p ∈ (D₄, lstO (((List.replicate m h₀.x ++ wsOf ns).take (m + a + 1)).map strV) 0) :: (X₄ ++ ((to_, lstO (Pk.map strV) c₂) :: (X₂ ++ T))) := fun p hp => .tail _ (List.mem_append_right _ (hup p hp))
 refine r_or ?_
 refine wpAny_isTrue_Compare1 ?_
 refine r_call ?_
 refine r_global G S₄ (v := .ref 286) (by kernel_rfl) ?_
 refine cw_ref G ?_
 refine args_cons ?_
 refine r_global G S₄ (v := .str WRD 741) (by kernel_rfl) ?_
 refine args_cons ?_
 refine r_local S₄ m4 ?_
 refine args_cons ?_
 refine r_local S₄ m8 ?_
 refine args_cons ?_
 refine r_sub list_getitem_lookup ?_
 refine r_local (by exact S₄) m2 ?_
 refine r_local (by exact S₄) m1 ?_
 refine ⟨⟨_, S₄.obj _ (hup₄ _ hsh), rfl⟩, ?_⟩
 refine gi_list (k := a) (by exact S₄) (hup₄ _ hsh) hpl hsa ?_
 refine args_nil ?_
 refine ⟨⟨_, _, _, S₄⟩, ?_⟩
 refine gcm_row (n := many) (x := x) (g := geF (scs.getD a 0)) G B (by exact S₄) (by show A.depth + 1 + 40 < _; omega) (by show A.units + 3 + 200 < cLine; omega) hh (cutF w hcm tf) F.hx (hup₄ _ hro) (bind_pos G (by exact S₄)) (by omega) (by omega) (by omega) F.rmem F.rtk ?_
 intro s₅ X₅ r₅ c₅ Pm K₅ S₅ hP₅ hw₅
 have hans₅ := row_answer F.hx hm (K := fun y => kept (geF (scs.getD a 0)) y WRD) (kept_at ⟨x, F.hx⟩ ⟨a, ha⟩) (by omega) F.rowU hP₅ hw₅
 replace K₅ : Kp s s₅ := ⟨K₅.os.trans K₄.os, fun z => K₅.gens (K₄.gens z)⟩
 refine slice_upto (hb := hb) (tabs := tabs) ?_
 refine r_local (by exact S₅) m0 ?_
 refine r_local (by exact S₅) m8 ?_
 refine ⟨_, _, _, to_, _, c₂, many, _, rfl, rfl, S₅, .tail _ (List.mem_append_right _ (.tail _ (List.mem_append_right _ (.head _)))), by rw [List.length_map]; omega, ?_⟩
 intro D₆ X₆ h₆ S₆
 rw [← List.map_take] at S₆
 refine r_neStrs (xs := Pm.take many) (ys := Pk.take many) ⟨_, S₆.obj _ (.tail _ (List.mem_append_right _ (.head _))), rfl, c₅, rfl⟩ ⟨_, S₆.obj _ m0, rfl, 0, rfl⟩ (by show A.units + 3 < cLine; omega) ?_
 rw [decide_eq_true (by rw [List.map_take, List.map_take, hans, hans₅])]
 refine wpAny_truthy_bool ⟨nofun, fun _ => isTrue_or_nil ⟨nofun, fun _ => ?_⟩⟩
 refine q_nil ?_
 refine k _ ((D₆, lstO ((Pk.take many).map strV) 0) :: (X₆ ++ ((r₅, lstO ((Pm.take many).map strV) c₅) :: (X₅ ++ ((D₄, lstO (((List.replicate m h₀.x ++ wsOf ns).take (m + a + 1)).map strV) 0) :: (X₄ ++ ((to_, lstO (Pk.map strV) c₂) :: X₂))))))) to_ a ta ⟨K₅.os, K₅.gens⟩ ha ?_
 simpa using S₆
end
end
section
open PySem.Spec PySem.SeqAt
def rkG (y : Str) : Nat := 10 - strangersR.idxOf y
theorem strg_lt : (strg.all fun p => strg.all fun q => decide (p.1.cps.toList < q.1.cps.toList) == decide (rkG p.1 < rkG q.1)) = true := by decide +kernel
theorem strg_fall : strangersR.Pairwise fun a b => rkG b ≤ rkG a := by decide +kernel
theorem strg_inj : (strangersR.all fun a => strangersR.all fun b => rkG a != rkG b || a == b) = true := by decide +kernel
theorem strg_sorted {P : List (Str × Tok)} (hp : P.Perm strg) (hw : P.Pairwise fun a b => rkG b.1 ≤ rkG a.1) : P.map (·.1) = strangersR := by
 have h1 : (P.map (·.1)).Perm strangersR := (hp.map _).trans strg_perm
 refine uniq_sorted rkG h1 (by rw [List.pairwise_map]; exact hw) strg_fall ?_
 intro a ha b hb hab
 have h2 := List.all_eq_true.mp (List.all_eq_true.mp strg_inj a (h1.mem_iff.mp ha)) b (h1.mem_iff.mp hb)
 rw [hab] at h2
 simpa using h2
section
variable {w : World} {A : Around} {E : Value → Shared → Prop} {s : Shared} {hb : Heap} {L' sc nb nr du ro tw wd sh to_ : Addr} {T : List (Addr × Obj)} {x many m t0 t1 a : Nat} {tm ta : Tok} {ns : List Nr} {ps : List (UInt64 × Tok)} {row : List (Str × Tok)} {h₀ : Nr} {nvs : List Value}
theorem law_g (G : Gd (KN w.params) tabs hb) (B : BM hb) (hd : A.depth + 60 < recursionLimit) (hu : A.units + 1000 < cLine) (hh : A.handled = none) (F : LF nr tw ro du sh nb ns ps row h₀ nvs x m t0 t1 T) (S : St hb tabs L' (nm10 to_ a ta sh du ro tw wd nr nb sc many tm) T s.heap) {Q : Flow → Shared → Prop}
  (k : ∀ (s' : Shared) (X : List (Addr × Obj)), Kp s s' → St hb tabs L' (nm10 to_ a ta sh du ro tw wd nr nb sc many tm) (X ++ T) s'.heap → wpAny (model pw w) (A.deeper (ev306 w L')) (execs (lawB.drop 13) (ev306 w L')) Q E s') :
  wpAny (model pw w) (A.deeper (ev306 w L')) (execs (lawB.drop 12) (ev306 w L')) Q E s := by
 obtain ⟨cr, hro⟩ := F.mro
 obtain ⟨cd, hdu⟩ := F.mdu
 have hrl := F.rl
 have hm := F.hm
 have hnl := F.nl
 refine q_if ?_
 refine wpAny_isTrue_Compare1 ?_
 refine r_call ?_
 refine r_global G S (v := .ref 286) (by kernel_rfl) ?_
 refine cw_ref G ?_
 refine args_cons ?_
 refine r_global G S (v := .str WRD 741) (by kernel_rfl) ?_
 refine args_cons ?_
 refine r_local S m4 ?_
 refine args_cons ?_
 refine r_call ?_
 refine r_builtin G S boot_len ?_
 refine cw_builtin ?_
 refine args_cons ?_
 refine r_local S m4 ?_
 refine args_nil ?_
 refine PyProof.Rows.len_list (items := (row.map strV).toArray) (S.isList hro) (by rw [List.size_toArray, List.length_map]; omega) ?_
 rw [List.size_toArray, List.length_map]
 refine args_cons ?_
 refine wpAny_Constant_int ?_
 refine args_nil ?_
 refine ⟨⟨_, _, _, S⟩, ?_⟩
 refine gcm_row (n := row.length) (x := x) (g := geI) G B (by exact S) (by show A.depth + 1 + 40 < _; omega) (by show A.units + 3 + 200 < cLine; omega) hh (cutI w _) F.hx hro (bind_pos G (by exact S)) (by omega) (by omega) (by omega) F.rmem F.rtk ?_
 intro s₁ X₁ r₁ c₁ Pk K₁ S₁ hP hw
 rw [take_all hP (Nat.le_refl _)] at S₁
 have hans := row_answer (c := 14) F.hx hm (K := fun y => kept geI y WRD) (by rw [kept_zero ⟨x, F.hx⟩]; rfl) (by decide) F.rowU hP hw
 replace K₁ : Kp s s₁ := ⟨K₁.os, K₁.gens⟩
 have hdu₁ : (du, lstO ((List.replicate m h₀.x ++ wsOf ns).map strV) cd) ∈ (r₁, lstO (Pk.map strV) c₁) :: (X₁ ++ T) := .tail _ (List.mem_append_right _ hdu)
 have hdl : ((List.replicate m h₀.x ++ wsOf ns).map strV).length = m + 10 := by rw [List.length_map, List.length_append, List.length_replicate, List.length_map, hnl]
 refine wpAny_BinOp ?_
 refine r_local (by exact S₁) m3 ?_
 refine r_callKw ?_
 refine r_builtin G (by exact S₁) boot_sorted' ?_
 refine callWith_kw ?_
 refine args_cons ?_
 refine r_global G (by exact S₁) (v := .ref 287) (by kernel_rfl) ?_
 refine args_nil ?_
 refine kws_cons ?_
 refine wpAny_Constant_bool ?_
 refine kws_nil ?_
 refine r_sortedS (ws := strg) (n := 0) (o := o287 w.params) rkG (by exact S₁) (S₁.kin G 287 _ (by kernel_rfl)) rfl rfl (by decide) (fun p hp q hq => ?_) ?_
 ·exact eq_of_beq (List.all_eq_true.mp (List.all_eq_true.mp strg_lt p hp) q hq)
 intro s₂ D₂ c₂ Pg X₂ K₂ hPg hwg S₂
 replace K₂ : Kp s s₂ := ⟨K₂.os.trans K₁.os, fun z => K₂.gens (K₁.gens z)⟩
 have hPgl : (Pg.map strV).length = 4 := by rw [List.length_map, hPg.length_eq]; rfl
 refine r_addL (by exact S₂) (.tail _ (List.mem_append_right _ hdu₁)) m0 (by omega) ?_
 intro D₃ h₃ S₃
 have e1 : (List.replicate m h₀.x ++ wsOf ns).map strV ++ Pg.map strV = (List.replicate m h₀.x ++ wsOf ns ++ Pg).map strV := by simp
 rw [e1] at S₃
 refine r_neStrs (xs := Pk) (ys := List.replicate m h₀.x ++ wsOf ns ++ Pg) ⟨_, S₃.obj _ (.tail _ (.tail _ (List.mem_append_right _ (.head _)))), rfl, c₁, rfl⟩ ⟨_, S₃.obj _ m0, rfl, 0, rfl⟩ (by show A.units + 3 < cLine; omega) ?_
 have e2 : (List.replicate m h₀.x ++ wsOf ns ++ Pg).map (·.1) = List.replicate m WRD ++ (UU x).take 14 := by
  rw [List.map_append, List.map_append, List.map_replicate, F.h0, F.ws, strg_sorted hPg hwg, List.append_assoc]
  rfl
 rw [decide_eq_true (by rw [hans, e2])]
 refine wpAny_truthy_bool ⟨nofun, fun _ => ?_⟩
 refine q_nil ?_
 refine k _ ((D₃, lstO ((List.replicate m h₀.x ++ wsOf ns ++ Pg).map strV) 0) :: (D₂, lstO (Pg.map strV) c₂) :: (X₂ ++ ((r₁, lstO (Pk.map strV) c₁) :: X₁))) ⟨K₂.os, K₂.gens⟩ ?_
 simpa using S₃
end
end
section
open PySem.Spec PySem.SeqAt
theorem near_scs : ∀ p : Fin 9, (nearL p.val).map (fun e => shF e.2.1 e.2.2) = scs.take 10 := by decide +kernel
section
variable {nr tw ro du sh nb : Addr} {ns : List Nr} {ps : List (UInt64 × Tok)} {row : List (Str × Tok)} {h₀ : Nr} {nvs : List Value} {x m t0 t1 : Nat} {T T' : List (Addr × Obj)}
theorem lf_elem (F : LF nr tw ro du sh nb ns ps row h₀ nvs x m t0 t1 T) {a : Nat} (ha : a < 10) : ∃ e, ns[a]? = some e ∧ (UU x)[a]? = some e.x.1 ∧ scr e.x.1 WRD = scs.getD a 0 ∧
  share (qp (letters WRD) (letters e.x.1)) ((letters e.x.1).length + (letters WRD).length) = scs.getD a 0 ∧ (Float64.cmp (share (min (letters e.x.1).length (letters WRD).length) ((letters e.x.1).length + (letters WRD).length)) (scs.getD a 0) == some Ordering.lt) = false := by
 have hl : a < ns.length := by rw [F.nl]; exact ha
 have hn : (nearL x)[a]? = some ns[a].k := by rw [← F.hk, List.getElem?_map, List.getElem?_eq_getElem hl]; rfl
 have hU : (UU x)[a]? = some ns[a].x.1 := by
  unfold UU
  rw [List.getElem?_append_left (by rw [List.length_map, near_len]; exact ha), List.getElem?_map, hn]; rfl
 have hs : shF ns[a].b ns[a].c = scs.getD a 0 := by
  have h1 := congrArg (fun l => l[a]?) (near_scs ⟨x, F.hx⟩)
  dsimp only at h1
  rw [List.getElem?_map, hn, List.getElem?_take, if_pos ha] at h1
  rw [List.getD_eq_getElem?_getD, ← h1]; rfl
 refine ⟨ns[a], List.getElem?_eq_getElem hl, hU, ?_, ?_, ?_⟩
 ·have h1 := congrArg (fun l => l[a]?) (scr_tab ⟨x, F.hx⟩)
  dsimp only at h1
  rw [List.getElem?_map, hU] at h1
  rw [List.getD_eq_getElem?_getD, ← h1]; rfl
 ·have h1 := congrArg (fun l => l[a]?) (quick_at ⟨x, F.hx⟩)
  dsimp only at h1
  rw [List.getElem?_map, List.getElem?_map, hn] at h1
  rw [← hs]
  exact Option.some.inj h1
 ·have h1 := List.all_eq_true.mp (real_at ⟨x, F.hx⟩) ns[a].k (List.mem_of_getElem? hn)
  rw [← hs]
  simpa using h1
theorem scs_refl {a : Nat} (ha : a < 10) : (Float64.cmp (scs.getD a 0) (scs.getD a 0) != some Ordering.eq) = false := by
 have : ∀ b : Fin 10, (Float64.cmp (scs.getD b.val 0) (scs.getD b.val 0) != some Ordering.eq) = false := by decide +kernel
 exact this ⟨a, ha⟩
end
section
variable {w : World} {A : Around} {E : Value → Shared → Prop} {s : Shared} {hb : Heap} {L' sc nb nr du ro tw wd sh to_ : Addr} {T : List (Addr × Obj)} {x many m t0 t1 a : Nat} {tm ta : Tok} {ns : List Nr} {ps : List (UInt64 × Tok)} {row : List (Str × Tok)} {h₀ : Nr} {nvs : List Value}
abbrev nm13 (e : Nr) (to_ : Addr) (a : Nat) (ta : Tok) (sh du ro tw wd nr nb sc : Addr) (many : Nat) (tm : Tok) : List (Str × Value) := (Str.ofString "letters", .int (e.c : Int) e.ct) :: (Str.ofString "both", .int (e.b : Int) e.bt) :: (Str.ofString "word", strV e.x) :: nm10 to_ a ta sh du ro tw wd nr nb sc many tm
theorem law_h (G : Gd (KN w.params) tabs hb) (B : BM hb) (hd : A.depth + 60 < recursionLimit) (hu : A.units + 1000 < cLine) (hh : A.handled = none) (F : LF nr tw ro du sh nb ns ps row h₀ nvs x m t0 t1 T) (ha : a < 10) (S : St hb tabs L' (nm10 to_ a ta sh du ro tw wd nr nb sc many tm) T s.heap) {Q : Flow → Shared → Prop}
  (k : ∀ (s' : Shared) (X : List (Addr × Obj)) (e : Nr) (one : Addr), Kp s s' → ns[a]? = some e → (UU x)[a]? = some e.x.1 → St hb tabs L' ((Str.ofString "one", .ref one) :: nm13 e to_ a ta sh du ro tw wd nr nb sc many tm) (X ++ T) s'.heap → wpAny (model pw w) (A.deeper (ev306 w L')) (execs (lawB.drop 16) (ev306 w L')) Q E s') :
  wpAny (model pw w) (A.deeper (ev306 w L')) (execs (lawB.drop 13) (ev306 w L')) Q E s := by
 obtain ⟨cn, hnr⟩ := F.mnr
 obtain ⟨cs, hsh⟩ := F.msh
 obtain ⟨e, hea, hUa, hsc, hqk, hrl⟩ := lf_elem F ha
 obtain ⟨tf, hsa, -⟩ := F.share ha
 have hem := List.mem_of_getElem? hea
 have hpl : (ps.map fltV).length ≤ 1000 := by rw [List.length_map, F.pl]; decide
 have hes : e.x.1.cps.size ≤ 60 := by
  have h := of_decide_eq_true (List.all_eq_true.mp (UU_size ⟨x, F.hx⟩) e.x.1 (List.mem_of_getElem? hUa))
  omega
 have hra : (refsN ns)[a]? = some (.ref e.a) := by unfold refsN; rw [List.getElem?_map, hea]; rfl
 refine q_tuple ?_
 refine r_sub list_getitem_lookup ?_
 refine r_local S m7 ?_
 refine r_local S m1 ?_
 refine ⟨⟨_, S.obj _ hnr, rfl⟩, ?_⟩
 refine gi_list (k := a) (by exact S) hnr (by rw [refsN_len, F.nl]; decide) hra ?_
 refine as_tuple hh (by exact S) (F.mN e hem) ?_
 intro h₁ S₁
 refine as_each ?_
 refine r_store S₁ (.new (by kernel_rfl)) ?_
 intro h₂ S₂
 refine as_each ?_
 refine r_store S₂ (.new (by kernel_rfl)) ?_
 intro h₃ S₃
 refine as_each ?_
 refine r_store S₃ (.new (by kernel_rfl)) ?_
 intro h₄ S₄
 refine as_none ?_
 refine restate (by exact S₄) fun s₄ K₄ S₄ => ?_
 replace K₄ : Kp s s₄ := ⟨K₄.os, K₄.gens⟩
 refine q_assign ?_
 refine r_call ?_
 refine r_global G S₄ (v := .ref 270) (by kernel_rfl) ?_
 refine cw_ref G ?_
 refine args_cons ?_
 refine wpAny_Constant_none ?_
 refine args_cons ?_
 refine r_local S₄ m2 ?_
 refine args_cons ?_
 refine r_global G S₄ (v := .str WRD 741) (by kernel_rfl) ?_
 refine args_nil ?_
 refine ⟨⟨_, _, _, S₄⟩, ?_⟩
 refine c_make (C := 270) (fI := 188) G (by exact S₄) ?_
 intro one dx h₅ S₅
 have Va := sq_str (prog := pw) (w := w) (hb := hb) (tabs := tabs) e.x.1 e.x.2 hes
 have Vb := sq_str (prog := pw) (w := w) (hb := hb) (tabs := tabs) WRD 741 (by decide +kernel)
 refine sm_init (va := strV e.x) (vb := .str WRD 741) G (by exact S₅) (by simp only [depth_under_make, depth_deeper]; omega) hh Vb (fun p hp => by cases hp) (isTold_none (hb := hb)) (isTold_none (hb := hb)) ?_ ?_
 ·refine BindsTo.of_defaults (o := o181 w.params) rfl (St.kin (by exact S₅) G 181 _ (by kernel_rfl)) rfl rfl rfl
 intro s₆ od d2 sj sp o2 rows led led' K₆ S₆ hf₆ ho₆ hr₆
 refine ⟨rfl, ?_⟩
 replace K₆ : Kp s s₆ := ⟨K₆.os.trans K₄.os, fun z => K₆.gens (K₄.gens z)⟩
 refine r_store S₆ (.new (by kernel_rfl)) ?_
 intro h₇ S₇
 refine restate (by exact S₇) fun s₇ K₇ S₇ => ?_
 replace K₇ : Kp s s₇ := ⟨K₇.os.trans K₆.os, fun z => K₇.gens (K₆.gens z)⟩
 obtain ⟨Y, hY⟩ : ∃ Y, Y = (sj, setO led) :: (d2, o2) :: (rows.map JRow.ob ++ T) := ⟨_, rfl⟩
 have hYd : (d2, o2) ∈ Y := by rw [hY]; exact .tail _ (.head _)
 have hYs : (sj, setO led) ∈ Y := by rw [hY]; exact .head _
 have hYr : ∀ r ∈ rows, r.ob ∈ Y := fun r hr => by rw [hY]; exact .tail _ (.tail _ (List.mem_append_left _ (List.mem_map.mpr ⟨r, hr, rfl⟩)))
 have hYT : ∀ p ∈ T, p ∈ Y := fun p hp => by rw [hY]; exact .tail _ (.tail _ (List.mem_append_right _ hp))
 have S₈ : St hb tabs L' ((Str.ofString "one", .ref one) :: nm13 e to_ a ta sh du ro tw wd nr nb sc many tm) ((one, smO dx) :: (dx, od) :: (sp, setO led') :: Y) s₇.heap := by rw [hY]; exact S₇
 refine q_if ?_
 refine r_or ?_
 refine wpAny_isTrue_Compare1 ?_
 refine m_call ?_
 refine r_local S₈ m0 ?_
 refine r_meth (f := 253) G S₈ m0 m1 hf₆ ?_
 refine cw_ref G ?_
 refine args_nil ?_
 refine ⟨⟨_, _, _, S₈⟩, ?_⟩
 refine ratio_sm (T₀ := []) (fun p hp => by cases hp) G B S₈ (by show A.depth + 1 + 6 < _; omega) (by show A.units + 3 + 40 < cLine; omega) hh hf₆ (.inl rfl) hYd ho₆ hr₆ hYr hYs Va Vb (fun p hp => by cases hp) (fun p hp => by cases hp) ?_
 intro s₉ od₉ X₉ mb₉ t₉ _ _ K₉ S₉ hf₉ hmb₉
 replace K₉ : Kp s s₉ := ⟨K₉.os.trans K₇.os, fun z => K₉.gens (K₇.gens z)⟩
 have hr1 : share (mall (letters e.x.1) (letters WRD)) ((letters e.x.1).length + (letters WRD).length) = scs.getD a 0 := hsc
 rw [hr1]
 refine r_sub list_getitem_lookup ?_
 refine r_local (by exact S₉) m6 ?_
 refine r_local (by exact S₉) m5 ?_
 have hsh₉ : (sh, lstO (ps.map fltV) cs) ∈ (one, smO dx) :: (dx, od₉) :: (sp, setO led') :: (X₉ ++ Y) := .tail _ (.tail _ (.tail _ (List.mem_append_right _ (hYT _ hsh))))
 refine ⟨⟨_, S₉.obj _ hsh₉, rfl⟩, ?_⟩
 refine gi_list (k := a) (by exact S₉) hsh₉ hpl hsa ?_
 refine AutoFloatOps.ne_0 ?_
 rw [scs_refl ha]
 refine wpAny_truthy_bool ⟨nofun, fun _ => ?_⟩
 refine r_or ?_
 refine wpAny_isTrue_Compare1 ?_
 refine m_call ?_
 refine r_local (by exact S₉) m0 ?_
 refine r_meth (f := 260) G (by exact S₉) m0 m1 hf₉ ?_
 refine cw_ref G ?_
 refine args_nil ?_
 refine ⟨⟨_, _, _, S₉⟩, ?_⟩
 refine quick_ratio (T₀ := []) (fun p hp => by cases hp) G (by exact S₉) (by show A.depth + 1 + 1 < _; omega) hh hf₉ (.inl rfl) Va Vb (fun p hp => by cases hp) (fun p hp => by cases hp) ?_
 intro s₁₀ t₁₀ od₁₀ X₁₀ fc₁₀ K₁₀ S₁₀ hf₁₀ hfc₁₀
 replace K₁₀ : Kp s s₁₀ := ⟨K₁₀.os.trans K₉.os, fun z => K₁₀.gens (K₉.gens z)⟩
 rw [hqk]
 have hsh₁₀ : (sh, lstO (ps.map fltV) cs) ∈ (one, smO dx) :: (dx, od₁₀) :: (X₁₀ ++ ((sp, setO led') :: (X₉ ++ Y))) := .tail _ (.tail _ (List.mem_append_right _ (.tail _ (List.mem_append_right _ (hYT _ hsh)))))
 refine r_sub list_getitem_lookup ?_
 refine r_local (by exact S₁₀) m6 ?_
 refine r_local (by exact S₁₀) m5 ?_
 refine ⟨⟨_, S₁₀.obj _ hsh₁₀, rfl⟩, ?_⟩
 refine gi_list (k := a) (by exact S₁₀) hsh₁₀ hpl hsa ?_
 refine AutoFloatOps.ne_0 ?_
 rw [scs_refl ha]
 refine wpAny_truthy_bool ⟨nofun, fun _ => ?_⟩
 refine r_or ?_
 refine wpAny_isTrue_Compare1 ?_
 refine m_call ?_
 refine r_local (by exact S₁₀) m0 ?_
 refine r_meth (f := 267) G (by exact S₁₀) m0 m1 hf₁₀ ?_
 refine cw_ref G ?_
 refine args_nil ?_
 refine ⟨⟨_, _, _, S₁₀⟩, ?_⟩
 refine real_quick G (by exact S₁₀) (by show A.depth + 1 + 1 < _; omega) hh m0 m1 hf₁₀ m1 m2 Va Vb (fun p hp => by cases hp) (fun p hp => by cases hp) ?_
 intro h₁₁ tk₁₁ t₁₁ S₁₁
 refine r_sub list_getitem_lookup ?_
 refine r_local (by exact S₁₁) m6 ?_
 refine r_local (by exact S₁₁) m5 ?_
 refine ⟨⟨_, S₁₁.obj _ hsh₁₀, rfl⟩, ?_⟩
 refine gi_list (k := a) (by exact S₁₁) hsh₁₀ hpl hsa ?_
 refine AutoFloatOps.lt_0 ?_
 rw [hrl]
 refine wpAny_truthy_bool ⟨nofun, fun _ => isTrue_or_nil ⟨nofun, fun _ => ?_⟩⟩
 refine q_nil ?_
 refine k _ ((one, smO dx) :: (dx, od₁₀) :: (X₁₀ ++ ((sp, setO led') :: (X₉ ++ ((sj, setO led) :: (d2, o2) :: rows.map JRow.ob))))) e one ⟨K₁₀.os, K₁₀.gens⟩ hea hUa ?_
 subst hY
 simpa using S₁₁
end
end
section
open PySem.Spec PySem.SeqAt
theorem UU_at {x a : Nat} (hx : x < 9) (ha : a < 10) {y : Str} (hy : (UU x)[a]? = some y) : kept (geF (scs.getD a 0)) y WRD = true ∧ (0 < a → kept (geF (scs.getD (a - 1) 0)) y WRD = false) := by
 have hm : y ∈ UU x := List.mem_of_getElem? hy
 have ha' : a < (UU x).length := by rw [UU_len]; omega
 have hg : (UU x)[a] = y := by rw [List.getElem?_eq_getElem ha'] at hy; exact Option.some.inj hy
 constructor
 ·have h1 : y ∈ (UU x).filter fun z => kept (geF (scs.getD a 0)) z WRD := by
   rw [kept_at ⟨x, hx⟩ ⟨a, ha⟩]
   refine List.mem_of_getElem? (i := a) ?_
   rw [List.getElem?_take, if_pos (Nat.lt_succ_self a)]
   exact hy
  exact (List.mem_filter.mp h1).2
 ·intro h0
  refine Bool.eq_false_iff.mpr fun hk => ?_
  have h1 : y ∈ (UU x).filter fun z => kept (geF (scs.getD (a - 1) 0)) z WRD := List.mem_filter.mpr ⟨hm, hk⟩
  rw [kept_at ⟨x, hx⟩ ⟨a - 1, by omega⟩] at h1
  obtain ⟨i, hi, ei⟩ := List.mem_iff_getElem.mp h1
  rw [List.length_take] at hi
  rw [List.getElem_take] at ei
  have hnd := List.pairwise_iff_getElem.mp (UU_nodup ⟨x, hx⟩) i a (by omega) ha' (by dsimp only at hi; omega)
  exact hnd (ei.trans hg.symm)
section
variable {nr tw ro du sh nb : Addr} {ns : List Nr} {ps : List (UInt64 × Tok)} {row : List (Str × Tok)} {h₀ : Nr} {nvs : List Value} {x m t0 t1 : Nat} {T T' : List (Addr × Obj)}
theorem one_tk (F : LF nr tw ro du sh nb ns ps row h₀ nvs x m t0 t1 T) {e : Nr} (he : e ∈ ns) : ∀ p ∈ (Str.ofString "", 539) :: [e.x], p.2 ≠ 0 ∧ ∀ q ∈ (Str.ofString "", 539) :: [e.x], p.2 = q.2 → p.1 = q.1 := by
 have cls : ∀ p ∈ (Str.ofString "", 539) :: [e.x], p ∈ fixTk ∨ ∃ e ∈ ns, e.x = p := fun p hp => by
  rcases List.mem_cons.mp hp with rfl | hp
  ·exact .inl (.head _)
  ·rw [List.mem_singleton] at hp; subst hp
   exact .inr ⟨e, he, rfl⟩
 intro p hp
 obtain ⟨a, b⟩ := tk_ok F.ht F.tk p (cls p hp)
 exact ⟨a, fun q hq => b q (cls q hq)⟩
end
section
variable {w : World} {A : Around} {E : Value → Shared → Prop} {s : Shared} {hb : Heap} {L' sc nb nr du ro tw wd sh to_ one : Addr} {T : List (Addr × Obj)} {x many m t0 t1 a : Nat} {tm ta : Tok} {ns : List Nr} {ps : List (UInt64 × Tok)} {row : List (Str × Tok)} {h₀ e : Nr} {nvs : List Value}
theorem two_lists {r1 r2 d1 d2 al ar : Addr} {L : Addr} {l : List (Str × Value)} {xs : List (Str × Tok)} {P : List (Str × Tok)} {c1 c2 c3 c4 c5 c6 : Nat} (S : St hb tabs L l T s.heap) (hu : A.units + 10 < cLine) (h1 : (r1, lstO (P.map strV) c1) ∈ T) (h2 : (r2, lstO [] c2) ∈ T) (h3 : (d1, lstO (xs.map strV) c3) ∈ T) (h4 : (d2, lstO [] c4) ∈ T)
  (ha : (al, lstO [.ref r1, .ref r2] c5) ∈ T) (hb' : (ar, lstO [.ref d1, .ref d2] c6) ∈ T) (hP : P.map (·.1) = xs.map (·.1)) (n1 : r1 ≠ d1) (n2 : r2 ≠ d2) {Q : Value → Shared → Prop} (h : Q (.bool true) s) : wpAny (model pw w) A (compareOp .Eq (.ref al) (.ref ar)) Q E s := by
 refine eq_listAt (e := fun _ => true) (S.isList ha) (S.isList hb') rfl (by omega) (fun j j1 j2 => ?_) ?_
 ·have hj : j < 2 := by simpa using j1
  match j, hj with
  | 0, _ =>
   refine EqAt.of_refs n1 ?_
   have := rc_strs (A := A.in1) (s := s) (S.isList h1) (S.isList h3) (by show A.units + 1 < cLine; omega)
   rw [decide_eq_true hP] at this
   exact this
  | 1, _ =>
   refine EqAt.of_refs n2 ?_
   exact rc_strs (A := A.in1) (s := s) (xs := []) (ys := []) (S.isList h2) (S.isList h4) (by show A.units + 1 < cLine; omega)
 ·exact h
theorem law_i (G : Gd (KN w.params) tabs hb) (B : BM hb) (hd : A.depth + 60 < recursionLimit) (hu : A.units + 1000 < cLine) (hh : A.handled = none) (F : LF nr tw ro du sh nb ns ps row h₀ nvs x m t0 t1 T) (ha : a < 10) (hea : ns[a]? = some e) (hUa : (UU x)[a]? = some e.x.1)
  (S : St hb tabs L' ((Str.ofString "one", .ref one) :: nm13 e to_ a ta sh du ro tw wd nr nb sc many tm) T s.heap) {Q : Flow → Shared → Prop}
  (k : ∀ (s' : Shared) (X : List (Addr × Obj)) (l' : List (Str × Value)), Kp s s' → St hb tabs L' l' (X ++ T) s'.heap → Q (.ret (.bool true)) s') :
  wpAny (model pw w) (A.deeper (ev306 w L')) (execs (lawB.drop 16) (ev306 w L')) Q E s := by
 obtain ⟨cs, hsh⟩ := F.msh
 obtain ⟨tf, hsa, hcm⟩ := F.share ha
 have hem := List.mem_of_getElem? hea
 have hpl : (ps.map fltV).length ≤ 1000 := by rw [List.length_map, F.pl]; decide
 obtain ⟨hk1, hk0⟩ := UU_at F.hx ha hUa
 have hmem : ∀ p ∈ [e.x], p.1 ∈ UU x := fun p hp => by
  rw [List.mem_singleton] at hp; subst hp
  exact List.mem_of_getElem? hUa
 refine q_assign ?_
 refine r_list ?_
 refine args_cons ?_
 refine r_callKw ?_
 refine r_global G S (v := .ref 286) (by kernel_rfl) ?_
 refine cw_defKw G (lk286 _) ?_
 refine args_cons ?_
 refine r_global G S (v := .str WRD 741) (by kernel_rfl) ?_
 refine args_cons ?_
 refine r_list ?_
 refine args_cons ?_
 refine r_local S m3 ?_
 refine args_nil ?_
 refine ⟨rfl, _, _, _, _, _, S, ?_⟩
 intro p1 h₁ S₁
 refine args_nil ?_
 refine kws_cons ?_
 refine r_sub list_getitem_lookup ?_
 refine r_local S₁ m6 ?_
 refine r_local S₁ m5 ?_
 refine ⟨⟨_, S₁.obj _ (.tail _ hsh), rfl⟩, ?_⟩
 refine gi_list (k := a) S₁ (.tail _ hsh) hpl hsa ?_
 refine kws_nil ?_
 refine ⟨⟨_, _, _, S₁⟩, ?_⟩
 refine gcm_row (rw := [e.x]) (n := 3) (x := x) (g := geF (scs.getD a 0)) G B S₁ (by show A.depth + 1 + 40 < _; omega) (by show A.units + 3 + 200 < cLine; omega) hh (cutF w hcm tf) F.hx m0 (bind_cut G S₁) (by decide) (by decide) (by simp) hmem (one_tk F hem) ?_
 intro s₂ X₂ r1 c1 P₁ K₂ S₂ hP₁ _
 replace K₂ : Kp s s₂ := ⟨K₂.os, K₂.gens⟩
 have hPa : P₁ = [e.x] := by
  have : ([e.x].filter fun y => kept (geF (scs.getD a 0)) y.1 WRD) = [e.x] := by
   rw [List.filter_cons_of_pos (by exact hk1)]; rfl
  rw [this] at hP₁
  exact List.perm_singleton.mp hP₁
 subst hPa
 refine args_nil ?_
 refine ⟨rfl, _, _, _, _, _, S₂, ?_⟩
 intro al h₃ S₃
 refine r_store (by exact S₃) (.new (by kernel_rfl)) ?_
 intro h₄ S₄
 refine restate (by exact S₄) fun s₄ K₄ S₄ => ?_
 replace K₄ : Kp s s₄ := ⟨K₄.os.trans K₂.os, fun z => K₄.gens (K₂.gens z)⟩
 have e1 : [e.x].take 3 = [e.x] := rfl
 rw [e1] at S₄
 have hup : ∀ p ∈ T, p ∈ (al, lstO [.ref r1] 0) :: (r1, lstO ([e.x].map strV) c1) :: (X₂ ++ ((p1, lstO [strV e.x] 0) :: T)) := fun p hp => .tail _ (.tail _ (List.mem_append_right _ (.tail _ hp)))
 have rest : ∀ (s₅ : Shared) (X : List (Addr × Obj)) (r2 : Addr) (c2 c5 : Nat) {E' : Value → Shared → Prop}, Kp s s₅ → (r2, lstO [] c2) ∈ X → (al, lstO [.ref r1, .ref r2] c5) ∈ X → (r1, lstO ([e.x].map strV) c1) ∈ X →
   St hb tabs L' ((Str.ofString "alone", .ref al) :: (Str.ofString "one", .ref one) :: nm13 e to_ a ta sh du ro tw wd nr nb sc many tm) (X ++ T) s₅.heap →
   wpAny (model pw w) (A.deeper (ev306 w L')) (execs (lawB.drop 18) (ev306 w L')) Q E' s₅ := by
  intro s₅ X r2 c2 c5 E' K₅ m2' mal mr1 S₅
  refine q_ret ?_
  refine wpAny_Compare1 ?_
  refine r_local S₅ m0 ?_
  refine r_list ?_
  refine args_cons ?_
  refine r_list ?_
  refine args_cons ?_
  refine r_local S₅ m4 ?_
  refine args_nil ?_
  refine ⟨rfl, _, _, _, _, _, S₅, ?_⟩
  intro d1 h₆ S₆
  refine args_cons ?_
  refine r_list ?_
  refine args_nil ?_
  refine ⟨rfl, _, _, _, _, _, S₆, ?_⟩
  intro d2 h₇ S₇
  refine args_nil ?_
  refine ⟨rfl, _, _, _, _, _, S₇, ?_⟩
  intro ar h₈ S₈
  have nd := (List.nodup_cons.mp S₈.nd).2
  have n2 : r2 ≠ d2 := fun q => by
   have h1 := (List.nodup_cons.mp (List.nodup_cons.mp nd).2).1
   exact h1 (by rw [← q]; exact List.mem_map.mpr ⟨(r2, lstO [] c2), .tail _ (List.mem_append_left _ m2'), rfl⟩)
  have n1 : r1 ≠ d1 := fun q => by
   have h1 := (List.nodup_cons.mp (List.nodup_cons.mp (List.nodup_cons.mp nd).2).2).1
   exact h1 (by rw [← q]; exact List.mem_map.mpr ⟨(r1, lstO ([e.x].map strV) c1), List.mem_append_left _ mr1, rfl⟩)
  refine two_lists (P := [e.x]) (xs := [e.x]) (by exact S₈) (by show A.units + 3 + 10 < cLine; omega) (.tail _ (.tail _ (.tail _ (List.mem_append_left _ mr1)))) (.tail _ (.tail _ (.tail _ (List.mem_append_left _ m2')))) (.tail _ (.tail _ (.head _))) (.tail _ (.head _)) (.tail _ (.tail _ (.tail _ (List.mem_append_left _ mal)))) (.head _) rfl n1 n2 ?_
  exact k _ ((ar, lstO [.ref d1, .ref d2] 0) :: (d2, lstO [] 0) :: (d1, lstO [strV e.x] 0) :: X) _ ⟨K₅.os, K₅.gens⟩ (by exact S₈)
 refine q_expr ?_
 refine m_call ?_
 refine r_local S₄ m0 ?_
 refine r_lmeth S₄ m0 PySem.F.slot_list_append type_list_append ?_
 refine cw_builtin ?_
 refine args_cons ?_
 refine IfExp_ ?_
 refine wpAny_isTrue_Compare1 ?_
 refine r_local S₄ m6 ?_
 refine wpAny_Constant_int ?_
 refine P.eq_int ?_
 refine wpAny_truthy_bool ?_
 by_cases h0 : a = 0
 ·subst h0
  rw [if_pos (show (((0 : Nat) : Int) == 0) = true from rfl)]
  refine r_list ?_
  refine args_nil ?_
  refine ⟨rfl, _, _, _, _, _, S₄, ?_⟩
  intro r2 h₅ S₅
  refine args_nil ?_
  refine r_append 1 S₅ rfl ?_ (by simp)
  intro h₆ S₆
  refine rest _ ((r2, lstO [] 0) :: (al, lstO [.ref r1, .ref r2] 1) :: (r1, lstO ([e.x].map strV) c1) :: (X₂ ++ [(p1, lstO [strV e.x] 0)])) r2 0 1 ⟨K₄.os, K₄.gens⟩ (.head _) (.tail _ (.head _)) (.tail _ (.tail _ (.head _))) ?_
  simpa using S₆
 ·have h0' : ((a : Int) == 0) = false := by
   rw [beq_eq_false_iff_ne]; omega
  rw [if_neg (by rw [h0']; decide)]
  obtain ⟨tg, hsb, hcb⟩ := F.share (a := a - 1) (by omega)
  refine r_callKw ?_
  refine r_global G (by exact S₄) (v := .ref 286) (by kernel_rfl) ?_
  refine cw_defKw G (lk286 _) ?_
  refine args_cons ?_
  refine r_global G (by exact S₄) (v := .str WRD 741) (by kernel_rfl) ?_
  refine args_cons ?_
  refine r_list ?_
  refine args_cons ?_
  refine r_local (by exact S₄) m4 ?_
  refine args_nil ?_
  refine ⟨rfl, _, _, _, _, _, S₄, ?_⟩
  intro p2 h₅ S₅
  refine args_nil ?_
  refine kws_cons ?_
  refine r_sub list_getitem_lookup ?_
  refine r_local (by exact S₅) m7 ?_
  refine wpAny_BinOp ?_
  refine r_local (by exact S₅) m6 ?_
  refine wpAny_Constant_int ?_
  refine P.sub_int ?_
  have ea : ((a : Int) - 1) = ((a - 1 : Nat) : Int) := by omega
  rw [ea]
  refine ⟨⟨_, S₅.obj _ (.tail _ (hup _ hsh)), rfl⟩, ?_⟩
  refine gi_list (k := a - 1) (by exact S₅) (.tail _ (hup _ hsh)) hpl hsb ?_
  refine kws_nil ?_
  refine ⟨⟨_, _, _, S₅⟩, ?_⟩
  refine gcm_row (rw := [e.x]) (n := 3) (x := x) (g := geF (scs.getD (a - 1) 0)) G B (by exact S₅) (by show A.depth + 1 + 40 < _; omega) (by show A.units + 3 + 200 < cLine; omega) hh (cutF w hcb tg) F.hx m0 (bind_cut G (by exact S₅)) (by decide) (by decide) (by simp) hmem (one_tk F hem) ?_
  intro s₆ X₆ r2 c2 P₂ K₆ S₆ hP₂ _
  replace K₆ : Kp s s₆ := ⟨K₆.os.trans K₄.os, fun z => K₆.gens (K₄.gens z)⟩
  have hPb : P₂ = [] := by
   have : ([e.x].filter fun y => kept (geF (scs.getD (a - 1) 0)) y.1 WRD) = [] := by
    rw [List.filter_cons_of_neg (by rw [hk0 (by omega)]; decide)]; rfl
   rw [this] at hP₂
   exact List.perm_nil.mp hP₂
  subst hPb
  refine args_nil ?_
  have S₇ := S₆.perm (T' := (al, lstO [.ref r1] 0) :: ((r2, lstO ((([] : List (Str × Tok)).take 3).map strV) c2) :: (X₆ ++ ((p2, lstO ([e.x].map strV) 0) :: (r1, lstO ([e.x].map strV) c1) :: (X₂ ++ ((p1, lstO [strV e.x] 0) :: T)))))) (by
   have e3 : (r2, lstO ((([] : List (Str × Tok)).take 3).map strV) c2) :: (X₆ ++ ((p2, lstO ([e.x].map strV) 0) :: (al, lstO [.ref r1] 0) :: (r1, lstO ([e.x].map strV) c1) :: (X₂ ++ ((p1, lstO [strV e.x] 0) :: T)))) =
    ((r2, lstO ((([] : List (Str × Tok)).take 3).map strV) c2) :: (X₆ ++ [(p2, lstO ([e.x].map strV) 0)])) ++ ((al, lstO [.ref r1] 0) :: (r1, lstO ([e.x].map strV) c1) :: (X₂ ++ ((p1, lstO [strV e.x] 0) :: T))) := by simp
   rw [e3]
   refine List.perm_middle.trans ?_
   simp)
  refine r_append 0 (by exact S₇) rfl ?_ (by simp)
  intro h₈ S₈
  refine rest _ ((al, lstO [.ref r1, .ref r2] 1) :: (r2, lstO [] c2) :: (X₆ ++ ((p2, lstO ([e.x].map strV) 0) :: (r1, lstO ([e.x].map strV) c1) :: (X₂ ++ [(p1, lstO [strV e.x] 0)])))) r2 c2 1 ⟨K₆.os, K₆.gens⟩ (.tail _ (.head _)) (.head _) (.tail _ (.tail _ (List.mem_append_right _ (.tail _ (.head _))))) ?_
  simpa using S₈
end
end
section
open PySem.Spec PySem.SeqAt
theorem c_def0 {prog : Program} {w : World} {A : Around} {s : Shared} {K : Frag} {tabs : List Addr} {fa : Addr} {fd : FuncData} {R : Result → Shared → Prop} {oc : Value} {od : Option Addr} {osl : Array (Option Value)} {args : Args} {binds : List (Str × Value)} {body : List Stmt}
  (G : Gd K tabs s.heap) (htab : ∀ t ∈ tabs, ∃ ps, s.heap.get? t = some (tableObj ps) ∧ TriplesOk ps.toList) (ho : K.lookup fa = some ⟨oc, od, .func fd, osl⟩) (hroom : A.depth < recursionLimit)
  (hbind : BindsTo s fd args binds)
  (h : ∀ L' h₁, St s.heap tabs L' binds [] h₁ →
   wpAny (model prog w) (A.deeper (callEnv fd L' fa)) (execs body (callEnv fd L' fa)) (fun f s' => R (.ok (.ret (match f with | .ret v => v | _ => .none))) s')
    (fun e s' => wpAny (model prog w) (A.deeper (callEnv fd L' fa)) (leaving (callEnv fd L' fa) e) (fun _ s'' => R (.error e) s'') (fun e' s'' => R (.error e') s'') s')
    { s with heap := h₁, toks := s.toks + binds.length })
  (hcd : ∀ hh : Heap, K.In hh → hh.CodeRec fd.code fd.qualname := by intro hh kk; exact codeRec_of kk (by kernel_rfl))
  (hbody : fd.body = .stmts body := by kernel_rfl)
  (hcell : (fd.scope.names.all fun x => x.2 != .cell) = true := by kernel_rfl) (hloc : (binds.all fun x => fd.scope.names.lookup x.1 == some .local) = true := by kernel_rfl)
  (hnd' : nodupB (binds.map (·.1)) = true := by kernel_rfl)
  (hco : fd.scope.isCoroutine = false := by kernel_rfl) (hgen : fd.scope.isGenerator = false := by kernel_rfl) (hk : fd.scope.kind = .function := by kernel_rfl) :
  codeAny (model prog w) A (.call (.ref fa) args) R s := by
 have hnd := nodup_of hnd'
 refine codeAny_call_def (fd := fd) (body := body) (binds := binds) hroom (G.k _ _ ho) rfl G.lim (hcd _ G.k) hbody hbind
  (fun y hy => by have := List.all_eq_true.mp hcell y hy; simpa using this) (fun y hy => by have := List.all_eq_true.mp hloc y hy; simpa using this) (fun h₁ hns hk₁ => ?_) hco hgen hk
 have hfm : Fm h₁ s.heap.objs.size binds := Fm.of_ns hns (fun p hp => lookup_rev binds hnd hp) hnd
 refine h _ h₁ ⟨hfm, Nat.le_refl _, fun b o e _ => hk₁ b o e, fun t ht => ?_, fun p hp => (by cases hp), fun p hp => (by cases hp), List.nodup_cons.mpr ⟨fun q => (by cases q), List.nodup_nil⟩⟩
 obtain ⟨ps, e, ok⟩ := htab t ht
 exact ⟨ps, #[], e, by rw [Array.append_empty]; exact hk₁ _ _ e, by rw [Array.append_empty]; exact ok⟩
section
variable {w : World} {A : Around} {s : Shared} {R : Result → Shared → Prop} {sc : Addr} {scv : List Value}
theorem law_c (G : Gd (KN w.params) tabs s.heap) (B : BM s.heap) (htab : ∀ t ∈ tabs, ∃ ps, s.heap.get? t = some (tableObj ps) ∧ TriplesOk ps.toList) (hd : A.depth + 100 < recursionLimit) (hu : A.units + 2000 < cLine) (hh : A.handled = none) (H : Scr s.heap sc scv) (htk : 776 ≤ s.toks)
  (k : ∀ (s' : Shared) (L' : Addr) (l' : List (Str × Value)) (X : List (Addr × Obj)), Kp s s' → St s.heap tabs L' l' X s'.heap → R (.ok (.ret (.bool true))) s') :
  codeAny (model pw w) A (.call (.ref 306) ⟨[.ref sc], []⟩) R s := by
 refine c_def0 G htab (lk306 _) (by omega) (binds := [(Str.ofString "script", .ref sc)]) (body := lawB) (BindsTo.of_eq (by kernel_rfl)) ?_
 intro L' h₁ S₁
 have hd' : A.depth + 60 < recursionLimit := by omega
 have hu' : A.units + 1000 < cLine := by omega
 refine law_a G hd' hh H (by simp only; omega) (by exact S₁) ?_
 intro s₂ X₂ nb nr nvs nn nc x many tm t0 ns K₂ hn3 hn6 hni hx hm1 hm2 hNk ht0 hT hN hnr hnb S₂
 rw [List.append_nil] at S₂
 have hnl : ns.length = 10 := by
  have := congrArg List.length hNk
  rw [List.length_map, near_len] at this
  exact this
 refine law_b (x := x) (nc := nc) G hh hNk hN hnr S₂ ?_
 intro s₃ wd c₃ K₃ S₃
 obtain ⟨h₀, nt, hns⟩ : ∃ h₀ nt, ns = h₀ :: nt := by
  cases ns with
  | nil => simp at hnl
  | cons a b => exact ⟨a, b, rfl⟩
 refine law_c1 (ns := ns) G hd' hu' hh H hnl hns (.head _) S₃ ?_
 intro s₄ X₄ tw ro du m c1 c2 c3 row K₄ hm hrow htw hro hdu S₄
 have hup₄ : ∀ p ∈ X₂, p ∈ X₄ ++ ((wd, lstO ((wsOf ns).map strV) c₃) :: X₂) := fun p hp => List.mem_append_right _ (.tail _ hp)
 refine law_c2 (x := x) (nc := nc) G hh hx hNk (fun e he => hup₄ _ (hN e he)) (hup₄ _ hnr) S₄ ?_
 intro s₅ sh c₅ ps K₅ hps S₅
 have F : LF nr tw ro du sh nb ns ps row h₀ nvs x m t0 s₂.toks ((sh, lstO (ps.map fltV) c₅) :: (X₄ ++ ((wd, lstO ((wsOf ns).map strV) c₃) :: X₂))) :=
  { hx := hx, hm := hm, hk := hNk, hh := by rw [hns]; rfl, ht := ht0, tk := hT, hrow := hrow, hps := hps, nv3 := hn3, nv6 := hn6, nvi := hni, mN := fun e he => .tail _ (hup₄ _ (hN e he)), mnr := ⟨nc, .tail _ (hup₄ _ hnr)⟩, mtw := ⟨c1, .tail _ (List.mem_append_left _ htw)⟩, mro := ⟨c2, .tail _ (List.mem_append_left _ hro)⟩, mdu := ⟨c3, .tail _ (List.mem_append_left _ hdu)⟩, msh := ⟨c₅, .head _⟩, mnb := ⟨nn, .tail _ (hup₄ _ hnb)⟩ }
 refine law_d G hu' hh F S₅ ?_
 intro s₆ X₆ K₆ S₆
 have F₆ := F.mono (T' := X₆ ++ _) fun p hp => List.mem_append_right X₆ hp
 refine law_e G B hd' hu' hh F₆ S₆ ?_
 intro s₇ X₇ K₇ S₇
 have F₇ := F₆.mono (T' := X₇ ++ _) fun p hp => List.mem_append_right X₇ hp
 refine law_f G B hd' hu' hh F₇ ⟨hm1, hm2⟩ S₇ ?_
 intro s₈ X₈ to_ a ta K₈ ha S₈
 have F₈ := F₇.mono (T' := X₈ ++ _) fun p hp => List.mem_append_right X₈ hp
 refine law_g G B hd' hu' hh F₈ S₈ ?_
 intro s₉ X₉ K₉ S₉
 have F₉ := F₈.mono (T' := X₉ ++ _) fun p hp => List.mem_append_right X₉ hp
 refine law_h G B hd' hu' hh F₉ ha S₉ ?_
 intro s₁₀ X₁₀ e one K₁₀ hea hUa S₁₀
 have F₁₀ := F₉.mono (T' := X₁₀ ++ _) fun p hp => List.mem_append_right X₁₀ hp
 refine law_i G B hd' hu' hh F₁₀ ha hea hUa S₁₀ ?_
 intro s₁₁ X₁₁ l' K₁₁ S₁₁
 refine k s₁₁ L' l' _ ?_ S₁₁
 have K := ((((((((K₂.trans K₃).trans K₄).trans K₅).trans K₆).trans K₇).trans K₈).trans K₉).trans K₁₀).trans K₁₁
 exact ⟨K.os, K.gens⟩
end
end
section
theorem kk_in {w : World} {s₀ : Shared} {h : Heap} (y : aa.map s₀.heap.get? = (KK w.params).map fun p => some p.2) (kp : ∀ b o, s₀.heap.get? b = some o → h.get? b = some o) : (KK w.params).In h := by
 have ea : aa = (KK w.params).map (·.1) := rfl
 rw [ea] at y
 have A := PySem.W.X.allIn_of y
 intro a o e
 refine kp a o ?_
 revert A e
 generalize KK w.params = K
 intro A e
 induction K with
 | nil => cases e
 | cons p r ih =>
  obtain ⟨b, o'⟩ := p
  rw [List.lookup_cons] at e
  split at e
  ·rename_i hq
   cases e
   rw [beq_iff_eq.mp hq]; exact A.1
  ·exact ih A.2 e
theorem oldK_of {hb h : Heap} {tabs : List Addr} {L : Addr} {l : List (Str × Value)} {T : List (Addr × Obj)} (S : St hb tabs L l T h) (ht : ∀ t ∈ tabs, isCodeTable hb t) : OldK hb h := by
 refine ⟨fun b o e => ?_, fun b o e => ?_⟩
 ·by_cases q : b ∈ tabs
  ·obtain ⟨ps, more, e1, e2, _⟩ := S.tab b q
   rw [e1] at e; cases e
   exact .inr (.inl ⟨ht b q, rfl, ps, more, rfl, e2⟩)
  ·exact .inl (S.old e q)
 ·by_cases q : b ∈ tabs
  ·obtain ⟨ps, more, e1, e2, _⟩ := S.tab b q
   exact ⟨_, e2⟩
  ·exact ⟨o, S.old e q⟩
theorem ints_each : ∀ {vs : List Value} {ns : List Int}, IntsAre vs ns → ∀ v ∈ vs, ∃ i t, v = Value.int i t
 | _, _, .nil, _, h => by cases h
 | _, _, .cons n t r, v, h => by
  rcases List.mem_cons.mp h with rfl | h
  ·exact ⟨n, t, rfl⟩
  ·exact ints_each r v h
theorem ns_none {K : Frag} {h : Heap} {a : Addr} {m : Str → Option Value} {x : Str} (k : K.In h) (N : h.Ns a m) (e : nsIn K a x = some none) : m x = none := by
 obtain ⟨o, es, ep, ho, hd, _, hf⟩ := N
 unfold nsIn at e
 cases q : K.lookup a with
 | none => rw [q] at e; cases e
 | some ob =>
  rw [q] at e
  have z := k a ob q
  rw [ho] at z
  obtain rfl := Option.some.inj z
  obtain ⟨c, d, dt, sl⟩ := o
  simp only at hd
  subst hd
  simp only at e
  cases q' : es.toList.find? (·.key.isStr x) with
  | some v => rw [q'] at e; cases e
  | none =>
   rw [← hf]
   unfold nsFind findBy
   rw [← Array.find?_toList, q']
   rfl
theorem gd_of {w : World} {s₀ : Shared} {mg mb : Str → Option Value} {h : Heap} {R : WRecords} {XP : (Str → Option Value) → Heap → Prop} (G : Ground qq loose R XP w s₀ mg mb h) (k : (KN w.params).In h) : Gd (KN w.params) tabs h where
 k := k
 mg := ⟨mg, G.T.g⟩
 bl := ⟨mb, G.T.b, G.T.builtins⟩
 lim := G.T.nolimit
 nb := by
  obtain ⟨mc, h1, h2⟩ := G.T.nolimit
  exact ⟨mc, h1, ns_none k h1 (by kernel_rfl)⟩
 n1 := by decide
 n2 := by decide
 n3 := by decide
 nt := KN_nt _
theorem bm_of {w : World} {s₀ : Shared} {mg mb : Str → Option Value} {h : Heap} {R : WRecords} {XP : (Str → Option Value) → Heap → Prop} (G : Ground qq loose R XP w s₀ mg mb h) : BM h := by
 obtain ⟨bm, ob, h1, h2, h3, h4, h5, h6⟩ := G.T.bmain
 exact ⟨mg, bm, ob, G.T.g, h1, h2, h3, h4, h5, h6⟩
theorem tabs_code {w : World} {h : Heap} (k : (KK w.params).In h) : ∀ t ∈ tabs, isCodeTable h t := by
 intro t ht
 obtain rfl : t = 248 := by simpa using ht
 exact ⟨252, o252 w.params, _, k _ _ (by kernel_rfl), rfl, rfl, rfl⟩
theorem tabs_ok {w : World} {h : Heap} (k : (KK w.params).In h) : ∀ t ∈ tabs, ∃ ps, h.get? t = some (tableObj ps) ∧ TriplesOk ps.toList := by
 intro t ht
 obtain rfl : t = 248 := by simpa using ht
 exact ⟨#[], k 248 (o248 w.params) (by kernel_rfl), by trivial⟩
theorem call_true {w : World} {s₀ s₁ : Shared} {mg mb : Str → Option Value} {R : WRecords} {XP : (Str → Option Value) → Heap → Prop} {fa sc : Addr} {vs : List Value} {ns : List Int} {Q : Value → Shared → Prop} {E : Value → Shared → Prop}
  (G : Ground qq loose R XP w s₀ mg mb s₁.heap) (k : (KK w.params).In s₁.heap) (hfa : mg (Str.ofString "law") = some (.ref fa)) (hl : s₁.heap.IsList sc vs.toArray) (hi : IntsAre vs ns) (hn : ns.length ≤ 63) (htk : 776 ≤ s₁.toks)
  (h : ∀ s', OldK s₁.heap s'.heap → s'.os = s₁.os → (AllBare s₁.gens → AllBare s'.gens) → Q (.bool true) s') :
  wpAny (model pw w) callerA (call (.ref fa) [.ref sc]) Q E s₁ := by
 have kn := KN_in k
 have e : mg (Str.ofString "law") = some (.ref 306) := mg_of kn G.T.g (by kernel_rfl)
 rw [hfa] at e
 injection e with e; injection e with e
 subst e
 refine wpAny_call ?_
 refine law_c (scv := vs) (sc := sc) (gd_of G kn) (bm_of G) (tabs_ok k) (by decide) (by decide) rfl ⟨?_, ?_, ints_each hi, ?_⟩ htk ?_
 ·obtain ⟨o, a, b, n, c⟩ := hl
  exact ⟨o, n, a, b, c⟩
 ·intro q
  obtain rfl : sc = 248 := by simpa using q
  obtain ⟨o, a, b, n, c⟩ := hl
  have := k 248 (o248 w.params) (by kernel_rfl)
  rw [this] at a
  cases a
  cases b
 ·rw [IntsAre.length hi]; exact hn
 ·intro s' L' l' X K S
  exact h s' (oldK_of S (tabs_code k)) K.os K.gens
end
end Mine
open PySem PySem.W PyProof.Rows
set_option maxHeartbeats 0
open Mine in
theorem PySem.Challenge.cw_yj0002_02_holds : PySem.Challenge.rw_yj0002_02.Holds := by
 w_on
 o_law
 refine holds_openX (q := qq) (loose := loose) (Xt := Xt) (XP := XL qq []) (Yf := fun s => (aa.map s.heap.get?, Nat.ble tk0 s.toks)) (Ya := fun w => ((KK w.params).map fun p => some p.2, true)) (N := 4714) ?hl (fun s e => xl_of s (Bool.and_eq_true_iff.mp e).1) XL.keeps
  (by rfl) (by rfl) (by rfl) (fun s e => recFacts_of (Bool.and_eq_true_iff.mp e).2) (by rfl) (by first | assumption | decide +kernel) (by decide +kernel) ⟨rfl, rfl, rfl, rfl, rfl, by decide +kernel⟩ ?hw ?hc
 case hl => exact left
 case hw => w_witness2
 case hc =>
  intro w s₀ s₁ mg mb G Y fa o pm cd doc dV kV ho hd hcd hD hmg hg args vals as La hpre hlay hrd hwl hlo
  clear hcd hd hD ho
  have hfa : mg "law" = some (.ref fa) := hmg
  clear hmg
  wrow_args hpre hlay hrd hwl hlo
  rename_i ns _ _ _ _ _ _ _ sc vs _ hL _ _ _ hI _ hn _
  have k := kk_in (congrArg Prod.fst Y) La.keeps
  have ht : 776 ≤ s₁.toks := Nat.le_trans (Nat.le_of_ble_eq_true (congrArg Prod.snd Y)) (X.script_toks La rfl)
  refine call_true (ns := ns) G k hfa hL hI (by omega) ht fun s' K os gens => ?_
  exact ⟨.inl ⟨_, _, [], rfl, fun _ => rfl, ReadsW.bool true, by first | rfl | wrow_post, fun _ => ⟨List.nodup_nil, fun _ hm => (nomatch hm)⟩⟩, K, os, gens (by rw [hg]; exact AllBare.empty)⟩
