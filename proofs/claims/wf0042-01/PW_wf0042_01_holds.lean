import PyProof.Rows.All
import Wide.All
import Open.Line
import Open.Boot
import Open.Tree
import OpenK.KTop
import OpenK.KWalk
import KE.KItem
import KE.KRevSl
import Wide.FinOn
import PySem.Challenge.RW_wf0042_01
open PySem PySem.W PyProof.Rows
set_option Elab.async false
set_option linter.all false

section
set_option autoImplicit false
namespace Mine
noncomputable def fdAt (j : Nat) : Option Stmt := PySem.Challenge.pw_wf0042_01.main.body[j]?
noncomputable def fnBody (j : Nat) : List Stmt := match fdAt j with
  | some (.FunctionDef _ _ b _ _ _ _ _ _ _) => b
  | _ => []
noncomputable def fnScope (j : Nat) : Scope := match fdAt j with
  | some (.FunctionDef _ _ _ _ _ _ sc _ _ _) => sc
  | _ => default
noncomputable def fnArgs (j : Nat) : Arguments := match fdAt j with
  | some (.FunctionDef _ a _ _ _ _ _ _ _ _) => a
  | _ => default
noncomputable def recAt (j : Nat) : DefRec := match fdAt j with
  | some (.FunctionDef n a b _ _ _ sc _ _ pos) => ⟨n, a, b, sc, pos⟩
  | _ => ⟨"", default, [], default, default⟩
end Mine
end

section
set_option autoImplicit false
set_option maxRecDepth 100000
set_option maxHeartbeats 0
namespace Mine
/-- the text behind its head: what the view keeps -/
noncomputable def pg : Program := PySem.Challenge.pw_wf0042_01
/-- what the proof leans on: the defs, NT_OFFSET and ENDMARKER -/
noncomputable def vw : Program := view pg [1, 2, 4, 5, 6, 7, 9, 58, 60, 61, 63, 64, 65, 66, 67, 68, 69, 70, 71]
/-- the other names that the text binds -/
noncomputable def LL : List Str := ((pg.main.body.drop 10).take 48 ++ (pg.main.body.drop 59).take 1).filterMap fun st => match st with
  | .Assign [.Name x _] _ _ => some x
  | _ => none
noncomputable def s00 (P : Params) (os : OsState) : Shared := ⟨boot_heap P, Array.mk [], boot_drawn, boot_toks, os⟩

noncomputable def tabAddr (K : Frag) : Addr := match nsIn K mainGlobals "EXACT_TOKEN_TYPES" with | some (some (.ref d)) => d | _ => 0
noncomputable def tabEs (K : Frag) : Array DictEntry := match K.lookup (tabAddr K) with | some ⟨_, _, .dict es _, _⟩ => es | _ => #[]
noncomputable def tabN (K : Frag) : Nat := match K.lookup (tabAddr K) with | some ⟨_, _, .dict _ n, _⟩ => n | _ => 0
noncomputable def tabHas (K : Frag) (l : List Nat) (n : Int) : Bool := match nsIn K (tabAddr K) ⟨l.toArray⟩ with | some (some (.int z _)) => z == n | _ => false

noncomputable def isNN (x : Option (Option Value)) : Bool := match x with | some none => true | _ => false
theorem isNN_eq {x : Option (Option Value)} (h : isNN x = true) : x = some none := by
  unfold isNN at h
  split at h
  · rfl
  · cases h
noncomputable def isTab (K : Frag) : Bool := (match nsIn K mainGlobals "EXACT_TOKEN_TYPES" with | some (some (.ref _)) => true | _ => false) &&
  match K.lookup (tabAddr K) with | some ⟨.type t, none, .dict _ _, sl⟩ => t == "dict" && sl.isEmpty | _ => false
noncomputable def lookK (K : Frag) : Bool :=
  isNN (nsIn K cStatics sharingNotToldKey) && isTab K &&
  (tabHas K [40] 7 && tabHas K [41] 8 && tabHas K [42] 16 && tabHas K [43] 14 && tabHas K [45] 15 && tabHas K [47] 17) &&
  (isNN (nsIn K (tabAddr K) ⟨#[49]⟩) && isNN (nsIn K (tabAddr K) ⟨#[92, 40]⟩) && isNN (nsIn K (tabAddr K) ⟨#[92, 34]⟩) && isNN (nsIn K (tabAddr K) ⟨#[92, 92]⟩) && isNN (nsIn K (tabAddr K) ⟨#[92, 41]⟩)) &&
  !(tabAddr K == sysModules) &&
  (isNN (nsIn K mainGlobals "len") && isNN (nsIn K mainGlobals "sum") && isNN (nsIn K mainGlobals "range") && isNN (nsIn K mainGlobals "enumerate"))
noncomputable def strOf? (v : Value) : Option Str := match v with | .str x _ => some x | _ => none
/-- the table's keys, as the text writes them -/
noncomputable def keysT : List Str := match fdAt 59 with
  | some (.Assign _ (.Dict ks _ _) _) => ks.filterMap fun k => match k with | some (.Constant (.str x) _ _) => some x | _ => none
  | _ => []
noncomputable def oneOf (h : Heap) (a : Addr) : Frag := match h.get? a with | some o => [(a, o)] | none => []
noncomputable def Kof (h : Heap) : Frag := oneOf h mainGlobals ++ (oneOf h cStatics ++ oneOf h (tabAddr (oneOf h mainGlobals)))

structure KSays (K : Frag) (P : Params) : Prop where
  look : lookK K = true
  keys : (tabEs K).toList.map (fun e => (strOf? e.key, e.hash)) = keysT.map fun x => (some x, PyData.keyHash P x)

theorem lookup_oneOf {h : Heap} {a b : Addr} {o : Obj} (e : (oneOf h a).lookup b = some o) : h.get? b = some o := by
  unfold oneOf at e
  split at e
  · next o' ho =>
    rw [List.lookup_cons] at e
    split at e
    · next q => cases e; rw [eq_of_beq q]; exact ho
    · cases e
  · cases e
theorem lookup_app {K L : Frag} {b : Addr} {o : Obj} (e : (K ++ L).lookup b = some o) : K.lookup b = some o ∨ L.lookup b = some o := by
  rw [List.lookup_append] at e
  cases h : K.lookup b with
  | none => rw [h] at e; exact .inr e
  | some x => rw [h] at e; exact .inl e
theorem Kof_in (h : Heap) : (Kof h).In h := fun a o e => by
  rcases lookup_app e with e | e
  · exact lookup_oneOf e
  · rcases lookup_app e with e | e
    · exact lookup_oneOf e
    · exact lookup_oneOf e

noncomputable def hook : Hook where
  α := Bool × List (Option Str × Int)
  obs := fun s => (lookK (Kof s.heap), (tabEs (Kof s.heap)).toList.map fun e => (strOf? e.key, e.hash))
  val := fun w => (true, keysT.map fun x => (some x, PyData.keyHash w.params x))
  says := fun w h => ∃ K : Frag, K.In h ∧ KSays K w.params
  of := fun _ s e => ⟨Kof s.heap, Kof_in _, congrArg Prod.fst e, congrArg Prod.snd e⟩
  keeps := fun _ _ _ ⟨K, hK, s⟩ k => ⟨K, hK.keeps k, s⟩
end Mine
end

section
set_option autoImplicit false
set_option maxRecDepth 100000
set_option maxHeartbeats 0
namespace Mine
/-- the top's run over a tree of objects -/
noncomputable def runF (tb : String → Option Builtin) (p : Program) (w : World) (n₀ : Nat) (ann : Option Value) : Nat → SharedT → Thread → Option SharedT
  | 0, _, _ => none
  | n + 1, s, t => match through t with
    | true => some s
    | false => match stepOk n₀ ann t with
      | false => none
      | true => match stepT (denote tb) p w s t with
        | some (s', t') => runF tb p w n₀ ann n s' t'
        | none => none
theorem runF_of {tb : String → Option Builtin} {p : Program} {w : World} {n₀ : Nat} {ann : Option Value} : ∀ {n : Nat} {s r : SharedT} {t : Thread}, runF tb p w n₀ ann n s t = some r → topRun tb p w n₀ ann n s.abs t = some r.abs
  | 0, _, _, _, h => by cases h
  | n + 1, s, r, t, h => by
    unfold runF at h
    unfold topRun
    cases he : through t with
    | true => rw [he] at h; cases h; rfl
    | false =>
      rw [he] at h
      cases hk : stepOk n₀ ann t with
      | false => rw [hk] at h; cases h
      | true =>
        rw [hk] at h
        cases hs : stepT (denote tb) p w s t with
        | none => rw [hs] at h; cases h
        | some q => obtain ⟨s₂, t₂⟩ := q; rw [hs] at h; rw [stepT_spec hs]; exact runF_of h
/-! told out: the same, each part reckoned first -/
universe u
variable {β : Type u}
noncomputable def tellL {α : Type} (f : α → (α → β) → β) : List α → (List α → β) → β
  | [], k => k []
  | x :: r, k => f x fun x => tellL f r fun r => k (x :: r)
theorem tellL_eq {α : Type} {f : α → (α → β) → β} (hf : ∀ x k, f x k = k x) : ∀ (l : List α) (k : List α → β), tellL f l k = k l
  | [], _ => rfl
  | x :: r, k => by show f x _ = _; rw [hf, tellL_eq hf r]
noncomputable def tellA {α : Type} (f : α → (α → β) → β) (a : Array α) (k : Array α → β) : β := match a with | ⟨l⟩ => tellL f l fun l => k ⟨l⟩
theorem tellA_eq {α : Type} {f : α → (α → β) → β} (hf : ∀ x k, f x k = k x) (a : Array α) (k : Array α → β) : tellA f a k = k a := by
  obtain ⟨l⟩ := a; show tellL f l _ = _; rw [tellL_eq hf]
noncomputable def tellV (v : Value) (k : Value → β) : β := match v with
  | .str x t => k (.str x t)
  | .int z t => k (.int z t)
  | .ref a => k (.ref a)
  | v => k v
theorem tellV_eq (v : Value) (k : Value → β) : tellV v k = k v := by unfold tellV; split <;> rfl
noncomputable def tellE (e : DictEntry) (k : DictEntry → β) : β := match e with | ⟨h, x, v⟩ => tellV x fun x => tellV v fun v => k ⟨h, x, v⟩
theorem tellE_eq (e : DictEntry) (k : DictEntry → β) : tellE e k = k e := by obtain ⟨h, x, v⟩ := e; show tellV x (fun x => tellV v fun v => k ⟨h, x, v⟩) = _; rw [tellV_eq, tellV_eq]
noncomputable def tellD (d : Data) (k : Data → β) : β := match d with
  | .dict es n => tellA tellE es fun es => k (.dict es n)
  | .seq es n => tellA tellV es fun es => k (.seq es n)
  | d => k d
theorem tellD_eq (d : Data) (k : Data → β) : tellD d k = k d := by
  unfold tellD
  split
  · rw [tellA_eq tellE_eq]
  · rw [tellA_eq tellV_eq]
  · rfl
noncomputable def tellO (o : Obj) (k : Obj → β) : β := match o with | ⟨c, d, x, s⟩ => tellV c fun c => tellD x fun x => k ⟨c, d, x, s⟩
theorem tellO_eq (o : Obj) (k : Obj → β) : tellO o k = k o := by obtain ⟨c, d, x, s⟩ := o; show tellV c (fun c => tellD x fun x => k ⟨c, d, x, s⟩) = _; rw [tellV_eq, tellD_eq]
noncomputable def tellT : BT → (BT → β) → β
  | .nil, k => k .nil
  | .node v l r, k => tellO v fun v => tellT l fun l => tellT r fun r => k (.node v l r)
theorem tellT_eq : ∀ (t : BT) (k : BT → β), tellT t k = k t
  | .nil, _ => rfl
  | .node v l r, k => by show tellO v _ = _; rw [tellO_eq, tellT_eq l, tellT_eq r]
noncomputable def tellS (s : SharedT) (k : Shared → β) : β := match s with | ⟨t, n, life, gens, drawn, toks, os⟩ => tellT t fun t => tellL tellO (t.list n) fun l => k ⟨⟨l.toArray, life⟩, gens, drawn, toks, os⟩
theorem tellS_eq (s : SharedT) (k : Shared → β) : tellS s k = k s.abs := by
  obtain ⟨t, n, life, gens, drawn, toks, os⟩ := s
  show tellT t _ = _
  rw [tellT_eq, tellL_eq tellO_eq]
  rfl
noncomputable def treeOf : Nat → List Obj → BT → BT
  | _, [], t => t
  | n, o :: r, t => treeOf (n + 1) r (t.ins n o)
noncomputable def t00 (P : Params) : BT := treeOf 0 (boot_heap P).objs.toList .nil
noncomputable def sT (P : Params) (os : OsState) : SharedT := ⟨t00 P, (boot_heap P).objs.size, (boot_heap P).life, Array.mk [], boot_drawn, boot_toks, os⟩
theorem sT_abs (P : Params) (os : OsState) : (sT P os).abs = s00 P os := by kernel_rfl
noncomputable def rwR : RowW := PySem.Challenge.rw_wf0042_01.row.toRowW
noncomputable def XT (s : Shared) : Bool := xlAt vw [] s && recOk (RowW.records rwR) s
noncomputable def seenAt (s : Shared) := openSeen vw LL (importedModules pg.main.body) XT true s
noncomputable def side (w : World) (b : Bool) : World := w.withFollow "special-get-raises" b
noncomputable def endT (w : World) (os : OsState) : Option SharedT := runF treeTable pg w (s00 w.params os).heap.objs.size ((s00 w.params os).heap.nsMap mainGlobals "__annotations__") 4126 (sT w.params os) (topStub pg)
noncomputable def fromOk (s₀ s : Shared) : Bool := staticsOk (importedModules pg.main.body) s₀.heap s.heap && namesBound pg s.heap && gensDone s && laidKept s₀.heap s.heap
theorem sideF (w : World) (os : OsState) : (endT (side w false) os).map (fun s => tellS s fun s => (fromOk (s00 (side w false).params os) s, seenAt s, hook.obs s)) = some (true, openGood vw LL, hook.val (side w false)) := by kernel_rfl
theorem sideT (w : World) (os : OsState) : (endT (side w true) os).map (fun s => tellS s fun s => (fromOk (s00 (side w true).params os) s, seenAt s, hook.obs s)) = some (true, openGood vw LL, hook.val (side w true)) := by kernel_rfl

theorem boot_at (w : World) : ∃ os, fencedOpening treeTable pg w 4126 = some (s00 w.params os) := by
  have h := boot_open (p := pg) (N := 4126) (by kernel_rfl) (by decide) (fun s => by kernel_rfl) w
  obtain ⟨s, h1, h2⟩ := Option.map_eq_some_iff.mp h
  obtain ⟨hp, gs, dr, tk, os⟩ := s
  obtain ⟨e1, h2⟩ := Prod.mk.inj h2
  obtain ⟨e2, h2⟩ := Prod.mk.inj h2
  obtain ⟨e3, e4⟩ := Prod.mk.inj h2
  exact ⟨os, by rw [h1]; unfold s00; dsimp only at e1 e2 e3 e4; rw [e1, e2, e3, e4]⟩
theorem s00_ok (P : Params) (os : OsState) : ((s00 P os).heap.isNs mainGlobals && (s00 P os).gens.size == 0) = true := by kernel_rfl
theorem left_side (w : World) (os : OsState) : (endT w os).map (fun s => tellS s fun s => (fromOk (s00 w.params os) s, seenAt s, hook.obs s)) = some (true, openGood vw LL, hook.val w) :=
  byRow2 "special-get-raises" (P := fun w => (endT w os).map (fun s => tellS s fun s => (fromOk (s00 w.params os) s, seenAt s, hook.obs s)) = some (true, openGood vw LL, hook.val w)) (fun w => sideF w os) (fun w => sideT w os) w
theorem left : LeftO pg vw LL XT hook.obs hook.val 4126 := fun w => by
  obtain ⟨os, e⟩ := boot_at w
  obtain ⟨r, h1, h2⟩ := Option.map_eq_some_iff.mp (left_side w os)
  rw [tellS_eq] at h2
  obtain ⟨h3, h4⟩ := Prod.mk.inj h2
  obtain ⟨h4, h5⟩ := Prod.mk.inj h4
  have h6 : topFrom treeTable pg w 4126 (s00 w.params os) = some r.abs := by
    unfold topFrom
    rw [s00_ok]
    have h7 := runF_of h1
    rw [sT_abs] at h7
    dsimp only
    rw [h7]
    show (match fromOk (s00 w.params os) r.abs with | true => some r.abs | false => none) = _
    rw [h3]
  unfold openEnds
  rw [e]
  show (topFrom treeTable pg w 4126 (s00 w.params os)).map (fun s => (seenAt s, hook.obs s)) = _
  rw [h6, ← h4, ← h5]
  rfl
theorem head (hc : WalkO vw LL (XL vw []) hook.says rwR (recAt 71) [] fun f vs => PySem.call f vs) : PySem.Challenge.rw_wf0042_01.Holds := by
  refine holds_law (by decide +kernel) fun said => ?_
  refine holds_open (q := vw) (loose := LL) (Xt := XT) (XP := XL vw []) (Yf := hook.obs) (Ya := hook.val) (YP := hook.says) (d := recAt 71) (kwd := []) (N := 4126) left hook.of hook.keeps (fun s e => xl_of s (Bool.and_eq_true_iff.mp e).1) XL.keeps (by kernel_rfl) (by kernel_rfl) (by kernel_rfl) (fun s e => recFacts_of (Bool.and_eq_true_iff.mp e).2) (by rfl) said (by decide +kernel) ⟨rfl, rfl, rfl, rfl, rfl, by decide +kernel⟩ ?hw hc
  exact ⟨[.list [.int 3, .int 1]], by decide +kernel, by decide +kernel⟩
end Mine
end

section
namespace Mine

/-- an int, told by constants and letters -/
inductive PE where
  | c (z : Int)
  | v (i : Nat)
  | add (a b : PE)
  | sub (a b : PE)
  | mul (a b : PE)
  | neg (a : PE)

noncomputable def PE.den (η : Nat → Int) : PE → Int
  | .c z => z
  | .v i => η i
  | .add a b => a.den η + b.den η
  | .sub a b => a.den η - b.den η
  | .mul a b => a.den η * b.den η
  | .neg a => - a.den η

noncomputable def addQ (a b : PE) : PE := match a, b with
  | .c x, .c y => .c (x + y)
  | a, b => .add a b
noncomputable def subQ (a b : PE) : PE := match a, b with
  | .c x, .c y => .c (x - y)
  | a, b => .sub a b
noncomputable def mulQ (a b : PE) : PE := match a, b with
  | .c x, .c y => .c (x * y)
  | .c x, b => (match x with | .ofNat 1 => b | _ => .mul (.c x) b)
  | a, .c y => (match y with | .ofNat 1 => a | _ => .mul a (.c y))
  | a, b => .mul a b
noncomputable def negQ (a : PE) : PE := match a with
  | .c x => .c (- x)
  | a => .neg a

inductive MV where
  | none
  | bool (b : Bool)
  | int (p : PE) (k : Nat)
  | str (l : List Nat) (tr : Bool)
  | ref (i : Nat)
  | fn (k : Nat)

inductive MO where
  | list (xs : List MV)
  | tup (xs : List MV)

/-- the store: a tree by the figures of the place -/
inductive Tr where
  | nil
  | node (o : Option MO) (l r : Tr)
noncomputable def Tr.val : Tr → Option MO
  | .nil => none
  | .node o _ _ => o
noncomputable def Tr.left : Tr → Tr
  | .nil => .nil
  | .node _ l _ => l
noncomputable def Tr.right : Tr → Tr
  | .nil => .nil
  | .node _ _ r => r
noncomputable def Tr.get : Tr → Nat → Option MO
  | .nil, _ => none
  | .node o l r, i => match i with
    | 0 => o
    | i + 1 => match Nat.beq (i % 2) 0 with
      | true => l.get (i / 2)
      | false => r.get (i / 2)
noncomputable def Tr.put : Nat → Tr → Nat → MO → Tr
  | 0, t, _, _ => t
  | f + 1, t, i, a => match i with
    | 0 => .node (some a) t.left t.right
    | i + 1 => match Nat.beq (i % 2) 0 with
      | true => .node t.val (t.left.put f (i / 2) a) t.right
      | false => .node t.val t.left (t.right.put f (i / 2) a)
structure St where
  n : Nat
  t : Tr
noncomputable def St.nil : St := ⟨0, .nil⟩
abbrev Loc := List (Nat × MV)

inductive Op where | add | sub | mul | fdiv | mod | pow
inductive Cp where | eq | ne | lt | gt | ge

inductive X where
  | nm (i : Nat)
  | gi (k : Nat)
  | ci (n : Nat)
  | cs (l : List Nat)
  | cb (b : Bool)
  | cn
  | bin (op : Op) (a b : X)
  | neg (a : X)
  | cmp (op : Cp) (a b : X)
  | inTab (a : X)
  | getTab (a : X)
  | notIn (a b : X)
  | isN (a : X)
  | and2 (a b : X)
  | not (a : X)
  | ife (t a b : X)
  | len (a : X)
  | sum (a : X)
  | sub (a i : X)
  | slA (a : X)                 -- a[::-1]
  | slL (a lo : X)              -- a[lo:]
  | slH (a hi : X)              -- a[:hi]
  | slB (a lo hi : X)           -- a[lo:hi]
  | lst (es : List X)
  | tup (es : List X)
  | join (a : X)
  | cnt (a : X) (l : List Nat)
  | lc1 (v : Nat) (it elt : X)
  | lcR (v : Nat) (n elt : X)
  | lc2 (v w : Nat) (it elt : X)
  | pop (v : Nat)
  | call (k : Nat) (as : List X)
  | callv (v : Nat) (as : List X)
  | sel (e : X)

inductive XS where
  | asg (i : Nat) (e : X)
  | asg2 (i j : Nat) (e : X)
  | asgT (i j : Nat) (e f : X)
  | aug (v : Nat) (ix e : X)
  | app (v : Nat) (e : X)
  | popS (v : Nat)
  | callS (k : Nat) (as : List X)
  | ret (e : X)
  | ite (t : X) (a b : List XS)
  | whl (t : X) (a : List XS)
  | forR (v : Nat) (n : X) (a : List XS)
  | forL (v : Nat) (it : X) (a : List XS)
  | forL2 (v w : Nat) (it : X) (a : List XS)
  | forG (v w : Nat) (it : X) (a : List XS)

inductive Fl where
  | next
  | ret (v : MV)

/-! polynomials -/
noncomputable def insM (i : Nat) : List Nat → List Nat
  | [] => [i]
  | j :: r => match Nat.ble i j with
    | true => i :: j :: r
    | false => j :: insM i r
noncomputable def mulM (a b : List Nat) : List Nat := a.foldr insM b
noncomputable def eqM : List Nat → List Nat → Bool
  | [], [] => true
  | i :: r, j :: s => match Nat.beq i j with
    | true => eqM r s
    | false => false
  | _, _ => false
abbrev Po := List (List Nat × Int)
noncomputable def addT (m : List Nat) (z : Int) : Po → Po
  | [] => [(m, z)]
  | t :: r => match eqM m t.1 with
    | true => (m, z + t.2) :: r
    | false => t :: addT m z r
noncomputable def addP (p q : Po) : Po := p.foldr (fun t a => addT t.1 t.2 a) q
noncomputable def mulT (m : List Nat) (z : Int) (p : Po) (q : Po) : Po := p.foldr (fun t a => addT (mulM m t.1) (z * t.2) a) q
noncomputable def mulP (p q : Po) : Po := p.foldr (fun t a => mulT t.1 t.2 q a) []
noncomputable def negP (p : Po) : Po := p.map fun t => (t.1, - t.2)
noncomputable def toP : PE → Po
  | .c z => [([], z)]
  | .v i => [([i], 1)]
  | .add a b => addP (toP a) (toP b)
  | .sub a b => addP (toP a) (negP (toP b))
  | .mul a b => mulP (toP a) (toP b)
  | .neg a => negP (toP a)
noncomputable def zeroI (z : Int) : Bool := match z with | .ofNat n => Nat.beq n 0 | .negSucc _ => false
noncomputable def isZ (p : Po) : Bool := p.all fun t => zeroI t.2
noncomputable def ltB (a b : Int) : Bool := decide (a < b)
noncomputable def eqI (a b : Int) : Bool := match a, b with
  | .ofNat m, .ofNat n => Nat.beq m n
  | .negSucc m, .negSucc n => Nat.beq m n
  | _, _ => false
/-- some b: the two are equal, or not, for all letters -/
noncomputable def eqPE (a b : PE) : Option Bool := match a, b with
  | .c x, .c y => some (eqI x y)
  | a, b => match isZ (toP (.sub a b)) with
    | true => some true
    | false => none

/-! locals, store -/
noncomputable def look (i : Nat) : Loc → Option MV
  | [] => none
  | t :: r => match Nat.beq t.1 i with
    | true => some t.2
    | false => look i r
noncomputable def put (i : Nat) (v : MV) : Loc → Loc
  | [] => [(i, v)]
  | t :: r => match Nat.beq t.1 i with
    | true => (i, v) :: r
    | false => t :: put i v r
noncomputable def setO (st : St) (i : Nat) (o : MO) : St := ⟨st.n, st.t.put (i + 1) i o⟩
noncomputable def getO (st : St) (i : Nat) : Option MO := st.t.get i
noncomputable def push (st : St) (o : MO) : St := ⟨st.n + 1, st.t.put (st.n + 1) st.n o⟩
noncomputable def eqL : List Nat → List Nat → Bool := eqM

noncomputable def bits (n : Nat) : Nat := Nat.log2 n + 1
noncomputable def cInt (z : Int) : MV := .int (.c z) (bits z.natAbs)

/-- token table: signs that the texts may bear -/
noncomputable def tokTab : List Nat → Option Nat
  | [40] => some 7
  | [41] => some 8
  | [42] => some 16
  | [43] => some 14
  | [45] => some 15
  | [47] => some 17
  | _ => none
/-- not in the table for sure -/
noncomputable def tokNo : List Nat → Bool
  | [49] => true
  | [92, 40] => true
  | [92, 34] => true
  | [92, 92] => true
  | [92, 41] => true
  | _ => false

/-! places and slices -/
noncomputable def place (i : Int) (n : Nat) : Option Nat := match i with
  | .ofNat k => match Nat.blt k n with | true => some k | false => none
  | .negSucc k => match Nat.ble (k + 1) n with | true => some (n - (k + 1)) | false => none
noncomputable def clip (i : Int) (n : Nat) : Nat := match i with
  | .ofNat k => match Nat.ble k n with | true => k | false => n
  | .negSucc k => n - (k + 1)
noncomputable def cut {α : Type} (l : List α) (lo hi : Nat) : List α := (l.drop lo).take (hi - lo)

noncomputable def iterF : Nat → List Nat → Option (List (Nat × List Nat))
  | _, [] => some []
  | p, c :: r => match Nat.beq c 92 with
    | true => (match r with
      | [] => none
      | d :: r' => (iterF (p + 2) r').map ((p + 1, [92, d]) :: ·))
    | false => (iterF (p + 1) r).map ((p, [c]) :: ·)

noncomputable def joinS : List MV → Option (List Nat)
  | [] => some []
  | .str l _ :: r => (joinS r).map (l ++ ·)
  | _ => none
noncomputable def sumS : List MV → Option (PE × Nat)
  | [] => some (.c 0, 1)
  | .int p k :: r => match k with
    | 0 => none
    | k => (sumS r).map fun t => (addQ p t.1, max k t.2 + 1)
  | _ => none
noncomputable def countS (c : Nat) : List Nat → Nat
  | [] => 0
  | d :: r => match Nat.beq c d with | true => countS c r + 1 | false => countS c r
noncomputable def findS (l : List Nat) (tr : Bool) : Nat → List MV → Option Nat
  | _, [] => none
  | i, .str m t :: r => match t && tr with
    | true => (match eqL m l with
      | true => some i
      | false => findS l tr (i + 1) r)
    | false => none
  | _, _ => none

/-- == of two values (ints, strs), for all letters -/
noncomputable def eqV : MV → MV → Option Bool
  | .int a _, .int b _ => eqPE a b
  | .str a _, .str b _ => some (eqL a b)
  | _, _ => none
noncomputable def allI : List MV → Bool
  | [] => true
  | .int _ _ :: r => allI r
  | _ => false
/-- == of two lists: of other lengths, or empty; or each of one tuple of ints; d: all items must be plain -/
noncomputable def eqO (st : St) (d : Bool) (i j : Nat) : Option Bool := match getO st i, getO st j with
  | some (.list xs), some (.list ys) => match xs, ys with
    | [], [] => some true
    | [], y :: ys => (match !d || allI (y :: ys) with | true => some false | false => none)
    | x :: xs, [] => (match !d || allI (x :: xs) with | true => some false | false => none)
    | [.ref a], [.ref b] => (match getO st a, getO st b with
      | some (.tup [.int p _, .int q _]), some (.tup [.int p' _, .int q' _]) => (match eqPE p p' with
        | some true => eqPE q q'
        | some false => some false
        | none => none)
      | _, _ => none)
    | _, _ => none
  | _, _ => none
noncomputable def eqA (st : St) (d : Bool) : MV → MV → Option Bool
  | .ref i, .ref j => eqO st d i j
  | a, b => eqV a b

noncomputable def cmpI (op : Cp) (x y : Int) : Bool := match op with
  | .eq => eqI x y
  | .ne => !eqI x y
  | .lt => decide (x < y)
  | .gt => decide (y < x)
  | .ge => decide (y ≤ x)
noncomputable def cmpV (st : St) (op : Cp) (a b : MV) : Option Bool := match op with
  | .eq => eqA st false a b
  | .ne => (eqA st true a b).map (!·)
  | op => match a, b with
    | .int (.c x) _, .int (.c y) _ => some (cmpI op x y)
    | _, _ => none

noncomputable def maxB (a b : Nat) : Nat := match a, b with
  | 0, _ => 0
  | _, 0 => 0
  | a, b => max a b + 1
noncomputable def sumB (a b : Nat) : Nat := match a, b with
  | 0, _ => 0
  | _, 0 => 0
  | a, b => a + b

noncomputable def binV (st : St) (op : Op) (a b : MV) : Option (MV × St) := match op with
  | .add => (match a, b with
    | .int p k, .int q m => some (.int (addQ p q) (maxB k m), st)
    | .str x _, .str y _ => (match Nat.ble (x.length + y.length) 100000 with
      | true => some (.str (x ++ y) false, st)
      | false => none)
    | .ref i, .ref j => (match getO st i, getO st j with
      | some (.list xs), some (.list ys) => (match Nat.ble (xs.length + ys.length) 100000 with
        | true => some (.ref st.n, push st (.list (xs ++ ys)))
        | false => none)
      | _, _ => none)
    | _, _ => none)
  | .sub => (match a, b with
    | .int p k, .int q m => some (.int (subQ p q) (maxB k m), st)
    | _, _ => none)
  | .mul => (match a, b with
    | .int p (k + 1), .int q (m + 1) => (match Nat.ble (k + m) 10000 with
      | true => some (.int (mulQ p q) (k + 1 + (m + 1)), st)
      | false => none)
    | _, _ => none)
  | .fdiv => (match a, b with
    | .int (.c x) _, .int (.c y) (m + 1) => (match Nat.ble m 1000 && !eqI y 0 with
      | true => some (.int (.c (x.fdiv y)) 0, st)
      | false => none)
    | _, _ => none)
  | .mod => (match a, b with
    | .int (.c x) _, .int (.c y) (m + 1) => (match ltB 0 y with
      | true => some (.int (.c (x.fmod y)) (m + 1), st)
      | false => none)
    | _, _ => none)
  | .pow => (match a, b with
    | .int (.c x) _, .int (.c (.ofNat n)) _ => (match Nat.ble n 64 && eqI x 2 with
      | true => some (.int (.c (x ^ n)) (n + 1), st)
      | false => none)
    | _, _ => none)

structure Fn where
  params : List Nat
  body : List XS

structure Ev where
  e : X → Loc → St → Option (MV × St)
  t : X → Loc → St → Option (Bool × St)
  s : XS → Loc → St → Option (Fl × Loc × St)
  c : Nat → List MV → St → Option (MV × St)

noncomputable def esOf (f : X → Loc → St → Option (MV × St)) : List X → Loc → St → Option (List MV × St)
  | [], _, st => some ([], st)
  | x :: r, loc, st => match f x loc st with
    | some (v, st) => (match esOf f r loc st with
      | some (vs, st) => some (v :: vs, st)
      | none => none)
    | none => none
noncomputable def ssOf (f : XS → Loc → St → Option (Fl × Loc × St)) : List XS → Loc → St → Option (Fl × Loc × St)
  | [], loc, st => some (.next, loc, st)
  | x :: r, loc, st => match f x loc st with
    | some (.next, loc, st) => ssOf f r loc st
    | some (.ret v, loc, st) => some (.ret v, loc, st)
    | none => none
/-- a list comprehension over the list at id, from place i; acc: the new list's id -/
noncomputable def lcL (f : MV → Loc → St → Option (MV × St)) (id acc : Nat) (loc : Loc) : Nat → Nat → St → Option St
  | 0, _, _ => none
  | n + 1, i, st => match getO st id with
    | some (.list xs) => (match xs[i]? with
      | none => some st
      | some v => (match f v loc st with
        | some (y, st) => (match getO st acc with
          | some (.list ys) => (match Nat.ble ys.length 100000 with
            | true => lcL f id acc loc n (i + 1) (setO st acc (.list (ys ++ [y])))
            | false => none)
          | _ => none)
        | none => none))
    | _ => none
noncomputable def lcRn (f : MV → Loc → St → Option (MV × St)) (acc : Nat) (loc : Loc) : Nat → Nat → St → Option St
  | 0, _, st => some st
  | n + 1, i, st => match f (.int (.c (Int.ofNat i)) 64) loc st with
    | some (y, st) => (match getO st acc with
      | some (.list ys) => (match Nat.ble ys.length 100000 with
        | true => lcRn f acc loc n (i + 1) (setO st acc (.list (ys ++ [y])))
        | false => none)
      | _ => none)
    | none => none
noncomputable def flL (f : MV → Loc → St → Option (Fl × Loc × St)) (id : Nat) : Nat → Nat → Loc → St → Option (Fl × Loc × St)
  | 0, _, _, _ => none
  | n + 1, i, loc, st => match getO st id with
    | some (.list xs) => (match xs[i]? with
      | none => some (.next, loc, st)
      | some v => (match f v loc st with
        | some (.next, loc, st) => flL f id n (i + 1) loc st
        | some (.ret v, loc, st) => some (.ret v, loc, st)
        | none => none))
    | _ => none
noncomputable def flR (f : MV → Loc → St → Option (Fl × Loc × St)) : Nat → Nat → Loc → St → Option (Fl × Loc × St)
  | 0, _, loc, st => some (.next, loc, st)
  | n + 1, i, loc, st => match f (.int (.c (Int.ofNat i)) 64) loc st with
    | some (.next, loc, st) => flR f n (i + 1) loc st
    | some (.ret v, loc, st) => some (.ret v, loc, st)
    | none => none
noncomputable def flG (f : Nat → List Nat → Loc → St → Option (Fl × Loc × St)) : List (Nat × List Nat) → Loc → St → Option (Fl × Loc × St)
  | [], loc, st => some (.next, loc, st)
  | t :: r, loc, st => match f t.1 t.2 loc st with
    | some (.next, loc, st) => flG f r loc st
    | _ => none
noncomputable def whL (t : Loc → St → Option (Bool × St)) (f : Loc → St → Option (Fl × Loc × St)) : Nat → Loc → St → Option (Fl × Loc × St)
  | 0, _, _ => none
  | n + 1, loc, st => match t loc st with
    | some (true, st) => (match f loc st with
      | some (.next, loc, st) => whL t f n loc st
      | some (.ret v, loc, st) => some (.ret v, loc, st)
      | none => none)
    | some (false, st) => some (.next, loc, st)
    | none => none

noncomputable def popO (st : St) (id : Nat) : Option (MV × St) := match getO st id with
  | some (.list xs) => (match xs.reverse with
    | v :: r => (match Nat.ble xs.length 100000 with
      | true => some (v, setO st id (.list r.reverse))
      | false => none)
    | [] => none)
  | _ => none
noncomputable def appO (st : St) (id : Nat) (v : MV) : Option St := match getO st id with
  | some (.list xs) => (match Nat.ble xs.length 100000 with
    | true => some (setO st id (.list (xs ++ [v])))
    | false => none)
  | _ => none
noncomputable def un2 (st : St) (v : MV) : Option (MV × MV) := match v with
  | .ref t => (match getO st t with
    | some (.tup [a, b]) => some (a, b)
    | _ => none)
  | _ => none
noncomputable def zipL : List Nat → List MV → Loc
  | i :: r, v :: s => (i, v) :: zipL r s
  | _, _ => []

noncomputable def subV (st : St) (a i : MV) : Option MV := match i with
  | .int (.c z) _ => (match a with
    | .str l _ => (match place z l.length with
      | some k => (match l[k]? with | some c => (match Nat.ble l.length 100000 with | true => some (.str [c] false) | false => none) | none => none)
      | none => none)
    | .ref id => (match getO st id with
      | some (.list xs) => (match place z xs.length with
        | some k => (match Nat.ble xs.length 100000 with | true => xs[k]? | false => none)
        | none => none)
      | _ => none)
    | _ => none)
  | _ => none
noncomputable def sliceV (st : St) (a : MV) (lo hi : Option Int) : Option (MV × St) := match a with
  | .str l _ => (match Nat.ble l.length 100000 with
    | true => some (.str (cut l (lo.elim 0 (clip · l.length)) (hi.elim l.length (clip · l.length))) false, st)
    | false => none)
  | .ref id => (match getO st id with
    | some (.list xs) => (match Nat.ble xs.length 100000 with
      | true => some (.ref st.n, push st (.list (cut xs (lo.elim 0 (clip · xs.length)) (hi.elim xs.length (clip · xs.length)))))
      | false => none)
    | _ => none)
  | _ => none
noncomputable def revV (st : St) (a : MV) : Option (MV × St) := match a with
  | .str l _ => (match Nat.ble l.length 100000 with
    | true => some (.str l.reverse false, st)
    | false => none)
  | .ref id => (match getO st id with
    | some (.list xs) => (match Nat.ble xs.length 100000 with
      | true => some (.ref st.n, push st (.list xs.reverse))
      | false => none)
    | _ => none)
  | _ => none
noncomputable def cOf : MV → Option Int
  | .int (.c z) _ => some z
  | _ => none

noncomputable def natOf : MV → Option Nat
  | .int (.c (.ofNat z)) _ => some z
  | _ => none

noncomputable def eStep (ih : Ev) (n : Nat) (x : X) (loc : Loc) (st : St) : Option (MV × St) := match x with
  | .nm i => (look i loc).map fun v => (v, st)
  | .gi k => (match k with | 0 => some (.int (.c 256) 9, st) | 1 => some (.int (.c 0) 1, st) | _ => none)
  | .ci n => some (.int (.c (Int.ofNat n)) (bits n), st)
  | .cs l => some (.str l true, st)
  | .cb b => some (.bool b, st)
  | .cn => some (.none, st)
  | .bin op a b => (match ih.e a loc st with
    | some (u, st) => (match ih.e b loc st with
      | some (v, st) => binV st op u v
      | none => none)
    | none => none)
  | .neg a => (match ih.e a loc st with
    | some (.int p k, st) => some (.int (negQ p) k, st)
    | _ => none)
  | .cmp op a b => (match ih.e a loc st with
    | some (u, st) => (match ih.e b loc st with
      | some (v, st) => (cmpV st op u v).map fun b => (.bool b, st)
      | none => none)
    | none => none)
  | .inTab a => (match ih.e a loc st with
    | some (.str l _, st) => (match tokTab l with
      | some _ => some (.bool true, st)
      | none => (match tokNo l with | true => some (.bool false, st) | false => none))
    | _ => none)
  | .getTab a => (match ih.e a loc st with
    | some (.str l _, st) => (tokTab l).map fun n => (.int (.c (Int.ofNat n)) 5, st)
    | _ => none)
  | .notIn a b => (match ih.e a loc st with
    | some (.str [c] _, st) => (match ih.e b loc st with
      | some (.str l _, st) => some (.bool (match countS c l with | 0 => true | _ => false), st)
      | _ => none)
    | _ => none)
  | .isN a => (match ih.e a loc st with
    | some (.none, st) => some (.bool true, st)
    | some (.int _ _, st) => some (.bool false, st)
    | _ => none)
  | .ife t a b => (match ih.t t loc st with
    | some (true, st) => ih.e a loc st
    | some (false, st) => ih.e b loc st
    | none => none)
  | .len a => (match ih.e a loc st with
    | some (.str l _, st) => (match Nat.ble l.length 100000 with | true => some (.int (.c (Int.ofNat l.length)) 64, st) | false => none)
    | some (.ref id, st) => (match getO st id with
      | some (.list xs) => (match Nat.ble xs.length 100000 with | true => some (.int (.c (Int.ofNat xs.length)) 64, st) | false => none)
      | _ => none)
    | _ => none)
  | .sum a => (match ih.e a loc st with
    | some (.ref id, st) => (match getO st id with
      | some (.list xs) => (sumS xs).map fun t => (.int t.1 t.2, st)
      | _ => none)
    | _ => none)
  | .sub a i => (match ih.e a loc st with
    | some (u, st) => (match ih.e i loc st with
      | some (v, st) => (subV st u v).map fun r => (r, st)
      | none => none)
    | none => none)
  | .slA a => (match ih.e a loc st with
    | some (u, st) => revV st u
    | none => none)
  | .slL a lo => (match ih.e a loc st with
    | some (u, st) => (match ih.e lo loc st with
      | some (v, st) => (match cOf v with | some z => sliceV st u (some z) none | none => none)
      | none => none)
    | none => none)
  | .slH a hi => (match ih.e a loc st with
    | some (u, st) => (match ih.e hi loc st with
      | some (v, st) => (match cOf v with | some z => sliceV st u none (some z) | none => none)
      | none => none)
    | none => none)
  | .slB a lo hi => (match ih.e a loc st with
    | some (u, st) => (match ih.e lo loc st with
      | some (v, st) => (match ih.e hi loc st with
        | some (w, st) => (match cOf v, cOf w with | some z, some y => sliceV st u (some z) (some y) | _, _ => none)
        | none => none)
      | none => none)
    | none => none)
  | .lst es => (match esOf ih.e es loc st with
    | some (vs, st) => (match Nat.ble vs.length 1000 with | true => some (.ref st.n, push st (.list vs)) | false => none)
    | none => none)
  | .tup es => (match esOf ih.e es loc st with
    | some (vs, st) => (match Nat.ble vs.length 1000 with | true => some (.ref st.n, push st (.tup vs)) | false => none)
    | none => none)
  | .join a => (match ih.e a loc st with
    | some (.ref id, st) => (match getO st id with
      | some (.list xs) => (match joinS xs with
        | some l => (match Nat.ble l.length 100000 && Nat.ble xs.length 100000 with | true => some (.str l false, st) | false => none)
        | none => none)
      | _ => none)
    | _ => none)
  | .cnt a l => (match ih.e a loc st with
    | some (.str m _, st) => (match Nat.ble m.length 1000 with
      | true => some (.int (.c (Int.ofNat (Builtin.Str.occurrences ⟨m.toArray⟩ ⟨l.toArray⟩ 0 m.length (m.length + 1)).length)) 64, st)
      | false => none)
    | _ => none)
  | .lc1 v it elt => (match ih.e it loc st with
    | some (.ref id, st) => (lcL (fun x loc st => ih.e elt (put v x loc) st) id st.n loc n 0 (push st (.list []))).map fun s' => (.ref st.n, s')
    | _ => none)
  | .lcR v m elt => (match ih.e m loc st with
    | some (.int (.c (.ofNat m)) _, st) => (match Nat.ble m 100000 with
      | true => (lcRn (fun x loc st => ih.e elt (put v x loc) st) st.n loc m 0 (push st (.list []))).map fun s' => (.ref st.n, s')
      | false => none)
    | _ => none)
  | .lc2 v w it elt => (match ih.e it loc st with
    | some (.ref id, st) => (lcL (fun x loc st => match un2 st x with
        | some (a, b) => ih.e elt (put w b (put v a loc)) st
        | none => none) id st.n loc n 0 (push st (.list []))).map fun s' => (.ref st.n, s')
    | _ => none)
  | .pop v => (match look v loc with
    | some (.ref id) => popO st id
    | _ => none)
  | .call k as => (match esOf ih.e as loc st with
    | some (vs, st) => ih.c k vs st
    | none => none)
  | .callv v as => (match look v loc with
    | some (.fn k) => (match esOf ih.e as loc st with
      | some (vs, st) => ih.c k vs st
      | none => none)
    | _ => none)
  | .sel e => (match ih.e e loc st with
    | some (.int (.c (.ofNat n)) _, st) => (match n with
      | 14 => some (.fn 1, st)
      | 15 => some (.fn 3, st)
      | _ => none)
    | _ => none)
  | .and2 _ _ => none
  | .not _ => none

noncomputable def tStep (ih : Ev) (x : X) (loc : Loc) (st : St) : Option (Bool × St) := match x with
  | .and2 a b => (match ih.t a loc st with
    | some (true, st) => ih.t b loc st
    | some (false, st) => some (false, st)
    | none => none)
  | .not a => (match ih.t a loc st with
    | some (b, st) => some (!b, st)
    | none => none)
  | .cmp .. | .inTab .. | .notIn .. | .isN .. | .call .. => (match ih.e x loc st with
    | some (.bool b, st) => some (b, st)
    | _ => none)
  | _ => none

noncomputable def sStep (ih : Ev) (n : Nat) (x : XS) (loc : Loc) (st : St) : Option (Fl × Loc × St) := match x with
  | .asg i e => (match ih.e e loc st with
    | some (v, st) => some (.next, put i v loc, st)
    | none => none)
  | .asg2 i j e => (match ih.e e loc st with
    | some (v, st) => (match un2 st v with
      | some (a, b) => some (.next, put j b (put i a loc), st)
      | none => none)
    | none => none)
  | .asgT i j e f => (match esOf ih.e [e, f] loc st with
    | some (vs, st) => (match vs with
      | [a, b] => some (.next, put j b (put i a loc), st)
      | _ => none)
    | none => none)
  | .aug v ix e => (match look v loc with
    | some (.ref id) => (match ih.e ix loc st with
      | some (i, st) => (match subV st (.ref id) i with
        | some old => (match ih.e e loc st with
          | some (d, st) => (match binV st .add old d, natOf i with
            | some (.int p k, st), some z => (match getO st id with
              | some (.list xs) => (match Nat.blt z xs.length && Nat.ble xs.length 100000 with
                | true => some (.next, loc, setO st id (.list (xs.set z (.int p k))))
                | false => none)
              | _ => none)
            | _, _ => none)
          | none => none)
        | none => none)
      | none => none)
    | _ => none)
  | .app v e => (match look v loc with
    | some (.ref id) => (match getO st id with
      | some (.list _) => (match ih.e e loc st with
        | some (x, st) => (appO st id x).map fun st => (.next, loc, st)
        | none => none)
      | _ => none)
    | _ => none)
  | .popS v => (match look v loc with
    | some (.ref id) => (match popO st id with
      | some (.int _ _, st) => some (.next, loc, st)
      | _ => none)
    | _ => none)
  | .callS k as => (match esOf ih.e as loc st with
    | some (vs, st) => (match ih.c k vs st with
      | some (.none, st) => some (.next, loc, st)
      | _ => none)
    | none => none)
  | .ret e => (match ih.e e loc st with
    | some (v, st) => some (.ret v, loc, st)
    | none => none)
  | .ite t a b => (match ih.t t loc st with
    | some (true, st) => ssOf ih.s a loc st
    | some (false, st) => ssOf ih.s b loc st
    | none => none)
  | .whl t a => whL (ih.t t) (ssOf ih.s a) n loc st
  | .forR v m a => (match ih.e m loc st with
    | some (.int (.c (.ofNat m)) _, st) => (match Nat.ble m 100000 with
      | true => flR (fun x loc st => ssOf ih.s a (put v x loc) st) m 0 loc st
      | false => none)
    | _ => none)
  | .forL v it a => (match ih.e it loc st with
    | some (.ref id, st) => flL (fun x loc st => ssOf ih.s a (put v x loc) st) id n 0 loc st
    | _ => none)
  | .forL2 v w it a => (match ih.e it loc st with
    | some (.ref id, st) => flL (fun x loc st => match un2 st x with
        | some (p, q) => ssOf ih.s a (put w q (put v p loc)) st
        | none => none) id n 0 loc st
    | _ => none)
  | .forG v w it a => (match ih.e it loc st with
    | some (.str l _, st) => (match Nat.ble l.length 100000 with
      | true => (match iterF 0 l with
        | some its => flG (fun p c loc st => ssOf ih.s a (put w (.str c true) (put v (.int (.c (Int.ofNat p)) 64) loc)) st) its loc st
        | none => none)
      | false => none)
    | _ => none)

noncomputable def cStep (F : Nat → Option Fn) (ih : Ev) (k : Nat) (vs : List MV) (st : St) : Option (MV × St) := match Nat.beq k 4 with
  | true => (match vs with
    | [.ref id, .str l tr] => (match getO st id with
      | some (.list xs) => (match Nat.ble xs.length 100000 with
        | true => (findS l tr 0 xs).map fun i => (.int (.c (Int.ofNat i)) 64, st)
        | false => none)
      | _ => none)
    | _ => none)
  | false => (match F k with
    | some f => (match Nat.beq f.params.length vs.length with
      | true => (match ssOf ih.s f.body (zipL f.params vs) st with
        | some (.ret v, _, st) => some (v, st)
        | some (.next, _, st) => some (.none, st)
        | none => none)
      | false => none)
    | none => none)

noncomputable def ev (F : Nat → Option Fn) : Nat → Ev
  | 0 => ⟨fun _ _ _ => none, fun _ _ _ => none, fun _ _ _ => none, fun _ _ _ => none⟩
  | n + 1 => ⟨eStep (ev F n) n, tStep (ev F n), sStep (ev F n) n, cStep F (ev F n)⟩

end Mine
end

section
namespace Mine
open X XS

noncomputable def bStrip : List XS := [
  ite (notIn (cs [34]) (nm 0)) [ret (nm 0)] [],
  asg 3 (ci 0), asg 4 cn, asg 5 (lst []),
  forG 1 2 (nm 0) [
    ite (cmp .eq (nm 2) (cs [34])) [
      ite (isN (nm 4)) [asg 4 (nm 1)] [
        ite (cmp .ne (nm 3) (nm 4)) [app 5 (slB (nm 0) (nm 3) (nm 4))] [],
        asg 3 (bin .add (nm 1) (ci 1)),
        asg 4 cn]] []],
  ite (cmp .lt (nm 3) (len (nm 0))) [app 5 (slL (nm 0) (nm 3))] [],
  ret (join (nm 5))]
noncomputable def bValues : List XS := [
  asg 13 (slH (lst [ci 3, neg (ci 7), ci 15, ci 2]) (nm 12)),
  forR 14 (len (nm 11)) [aug 13 (bin .mod (nm 14) (nm 12)) (bin .sub (bin .mod (bin .add (sub (nm 11) (nm 14)) (ci 1000000)) (ci 2000001)) (ci 1000000))],
  ret (nm 13)]
noncomputable def bTies : List XS := [
  asg 15 (bin .add (ci 2) (sum (lc1 10 (nm 11) (bin .mod (nm 10) (ci 8))))),
  ret (join (lcR 14 (bin .sub (nm 12) (ci 1)) (ife (cmp .eq (bin .mod (bin .fdiv (nm 15) (bin .pow (ci 2) (nm 14))) (ci 2)) (ci 1)) (cs [45]) (cs [43]))))]
noncomputable def bFraction : List XS := [
  ite (cmp .eq (len (nm 16)) (ci 1)) [ret (sub (nm 16) (ci 0))] [],
  ret (bin .add (bin .add (bin .add (bin .add (sub (nm 16) (ci 0)) (sub (nm 17) (ci 0))) (cs [49, 47, 40])) (call 9 [slL (nm 16) (ci 1), slL (nm 17) (ci 1)])) (cs [41]))]
noncomputable def bWays : List XS := [
  ite (cmp .eq (nm 16) (lst [])) [ret (lst [tup [cs [43], cs [49]]])] [],
  asg 20 (lc2 18 19 (call 10 [slL (nm 16) (ci 1), slL (nm 17) (ci 1)]) (tup [nm 18, bin .add (bin .add (sub (nm 16) (ci 0)) (cs [42])) (nm 19)])),
  ite (cmp .gt (len (nm 16)) (ci 1)) [
    asg 21 (bin .add (bin .add (bin .add (bin .add (cs [34]) (sub (nm 16) (ci 0))) (cs [42])) (sub (nm 16) (ci 1))) (cs [42, 34])),
    forL2 18 19 (call 10 [slL (nm 16) (ci 2), slL (nm 17) (ci 2)]) [
      app 20 (tup [ife (cmp .eq (nm 18) (sub (nm 17) (ci 0))) (cs [43]) (cs [45]), bin .add (nm 21) (nm 19)])]] [],
  ret (nm 20)]
noncomputable def bStruck : List XS := [
  ret (slL (join (lc2 18 22 (call 10 [nm 16, nm 17]) (bin .add (nm 18) (nm 22)))) (ci 1))]
noncomputable def bDeed : List XS := [
  asg2 25 26 (pop 24),
  asg2 27 28 (pop 24),
  ite (cmp .eq (nm 23) (ci 17)) [app 24 (tup [call 2 [nm 27, nm 26], call 2 [nm 28, nm 25]])] [
    ite (cmp .eq (nm 23) (ci 16)) [app 24 (tup [call 2 [nm 27, nm 25], call 2 [nm 28, nm 26]])] [
      asg 29 (sel (nm 23)),
      app 24 (tup [callv 29 [call 2 [nm 27, nm 26], call 2 [nm 25, nm 28]], call 2 [nm 28, nm 26]])]]]
noncomputable def bRead : List XS := [
  asg 11 (lst []),
  forG 33 34 (call 0 [nm 30]) [
    ite (inTab (nm 34)) [app 11 (getTab (nm 34))] [app 11 (bin .add (ci 256) (call 4 [nm 31, nm 34]))]],
  app 11 (ci 0),
  asg 24 (lst []),
  asg 35 (lst []),
  forL 23 (nm 11) [
    ite (call 5 [nm 23]) [app 24 (tup [sub (nm 32) (bin .sub (nm 23) (ci 256)), ci 1])] [
      ite (cmp .eq (nm 23) (ci 7)) [app 35 (nm 23)] [
        whl (and2 (cmp .ne (nm 35) (lst [])) (cmp .ge (bin .fdiv (sub (nm 35) (neg (ci 1))) (ci 2)) (bin .fdiv (nm 23) (ci 2)))) [
          callS 12 [pop 35, nm 24]],
        ite (cmp .eq (nm 23) (ci 8)) [popS 35] [
          ite (.not (call 6 [nm 23])) [app 35 (nm 23)] []]]]],
  ret (nm 24)]
noncomputable def bPlain : List XS := [
  asgT 36 37 (ci 0) (ci 1),
  forR 14 (len (nm 13)) [
    ite (and2 (cmp .gt (nm 14) (ci 0)) (cmp .eq (sub (nm 17) (bin .sub (nm 14) (ci 1))) (cs [45]))) [asg 36 (neg (nm 36))] [],
    asgT 36 37 (nm 37) (bin .add (bin .mul (sub (nm 13) (nm 14)) (nm 37)) (nm 36))],
  ret (nm 37)]
noncomputable def bLaw1 : List XS := [
  asg 39 (slH (nm 38) (ci 60)),
  asg 12 (ife (cmp .gt (len (nm 39)) (ci 2)) (ci 4) (ci 3)),
  asg 13 (call 7 [nm 39, nm 12]),
  asg 17 (call 8 [nm 39, nm 12])]
noncomputable def bLaw2 : List XS := [
  asg 16 (slH (lst [cs [92, 40], cs [92, 34], cs [92, 92], cs [92, 41]]) (nm 12)),
  asg 31 (bin .add (lst [cs [49]]) (nm 16)),
  asg 32 (bin .add (lst [ci 1]) (nm 13)),
  asg 40 (call 14 [nm 13, nm 17]),
  asg 41 (call 13 [call 9 [nm 16, nm 17], nm 31, nm 32]),
  ite (cmp .ne (nm 41) (lst [tup [nm 40, call 14 [slL (nm 13) (ci 1), slL (nm 17) (ci 1)]]])) [ret (cb false)] [],
  asg 42 (call 13 [call 9 [slA (nm 16), slA (nm 17)], nm 31, nm 32]),
  ite (cmp .ne (nm 42) (lst [tup [nm 40, call 14 [slH (nm 13) (neg (ci 1)), slH (nm 17) (neg (ci 1))]]])) [ret (cb false)] [],
  asg 43 (call 11 [nm 16, nm 17]),
  ite (cmp .ne (call 13 [nm 43, nm 31, nm 32]) (lst [tup [nm 40, ci 1]])) [ret (cb false)] [],
  asg 44 (call 11 [slB (nm 16) (ci 1) (neg (ci 1)), slB (nm 17) (ci 1) (neg (ci 1))]),
  asg 45 (call 11 [slH (nm 16) (neg (ci 1)), slH (nm 17) (neg (ci 1))]),
  asg 46 (call 11 [slL (nm 16) (ci 1), slL (nm 17) (ci 1)]),
  asg 47 (bin .add (bin .add (bin .add (bin .add (bin .add (bin .add (bin .add (bin .add (cs [40]) (nm 43)) (cs [41, 42, 40])) (nm 44)) (cs [41, 45, 40])) (nm 45)) (cs [41, 42, 40])) (nm 46)) (cs [41])),
  asg 48 (ife (cmp .eq (bin .mod (cnt (nm 17) [43]) (ci 2)) (ci 1)) (ci 1) (neg (ci 1))),
  ret (cmp .eq (call 13 [nm 47, nm 31, nm 32]) (lst [tup [nm 48, ci 1]]))]

noncomputable def FT (k : Nat) : Option Fn := match k with
  | 0 => some ⟨[0], bStrip⟩
  | 1 => some ⟨[6, 7], [ret (bin .add (nm 6) (nm 7))]⟩
  | 2 => some ⟨[6, 7], [ret (bin .mul (nm 6) (nm 7))]⟩
  | 3 => some ⟨[6, 7], [ret (bin .sub (nm 6) (nm 7))]⟩
  | 5 => some ⟨[10], [ret (cmp .ge (nm 10) (gi 0))]⟩
  | 6 => some ⟨[10], [ret (cmp .eq (nm 10) (gi 1))]⟩
  | 7 => some ⟨[11, 12], bValues⟩
  | 8 => some ⟨[11, 12], bTies⟩
  | 9 => some ⟨[16, 17], bFraction⟩
  | 10 => some ⟨[16, 17], bWays⟩
  | 11 => some ⟨[16, 17], bStruck⟩
  | 12 => some ⟨[23, 24], bDeed⟩
  | 13 => some ⟨[30, 31, 32], bRead⟩
  | 14 => some ⟨[13, 17], bPlain⟩
  | _ => none

/-- the law's second part: values are letters -/
noncomputable def run2 (n : Nat) (size : Nat) (ties : List Nat) : Option Bool :=
  let st : St := push St.nil (.list ((List.range size).map fun i => .int (.v i) 100))
  let loc : Loc := [(12, .int (.c (Int.ofNat size)) 3), (13, .ref 0), (17, .str ties false)]
  match ssOf (ev FT n).s bLaw2 loc st with
  | some (.ret (.bool b), _, _) => some b
  | _ => none
noncomputable def run1 (n : Nat) (ns : List Int) : Option (St × Loc) :=
  match ssOf (ev FT n).s bLaw1 [(38, .ref 0)] (push St.nil (.list (ns.map fun z => .int (.c z) 0))) with
  | some (.next, l, st) => some (st, l)
  | _ => none
end Mine
end

section
set_option autoImplicit false
namespace Mine

structure Cx where
  prog : Program
  w : World
  h₀ : Heap
  mg : Str → Option Value
  mb : Str → Option Value
  fa : Nat → Addr
  η : Nat → Int

noncomputable def VR (C : Cx) (ρ : List Addr) (g : Nat → List Nat) (n : Nat) : MV → Value → Prop
  | .none, v => v = .none
  | .bool b, v => v = .bool b
  | .int p k, v => ∃ t, v = .int (p.den C.η) t ∧ (k = 0 ∨ (p.den C.η).natAbs < 2 ^ k)
  | .str l tr, v => ∃ t, v = .str ⟨l.toArray⟩ t ∧ (tr = true → t ≠ 0 ∧ t < n ∧ g t = l)
  | .ref i, v => ∃ a, ρ[i]? = some a ∧ v = .ref a
  | .fn k, v => v = .ref (C.fa k)

inductive VRs (C : Cx) (ρ : List Addr) (g : Nat → List Nat) (n : Nat) : List MV → List Value → Prop
  | nil : VRs C ρ g n [] []
  | cons {a v as vs} : VR C ρ g n a v → VRs C ρ g n as vs → VRs C ρ g n (a :: as) (v :: vs)

abbrev IsT (h : Heap) (l : Addr) (items : Array Value) (n : Nat) : Prop := h.get? l = some { cls := .type "tuple", dict := none, data := .seq items n, slots := #[] }

noncomputable def OR (C : Cx) (ρ : List Addr) (g : Nat → List Nat) (n : Nat) (h : Heap) : MO → Addr → Prop
  | .list xs, a => ∃ vs k, IsL h a vs.toArray k ∧ VRs C ρ g n xs vs
  | .tup xs, a => ∃ vs k, IsT h a vs.toArray k ∧ VRs C ρ g n xs vs

structure Inv (C : Cx) (ρ : List Addr) (g : Nat → List Nat) (st : St) (s : Shared) : Prop where
  keep : ∀ b o, C.h₀.get? b = some o → s.heap.get? b = some o
  away : ∀ a ∈ ρ, C.h₀.get? a = none
  live : ∀ a ∈ ρ, ∃ o, s.heap.get? a = some o
  nodup : ρ.Nodup
  len : ρ.length = st.n
  obj : ∀ i o, getO st i = some o → ∃ a, ρ[i]? = some a ∧ OR C ρ g s.toks s.heap o a
  tok : 1 ≤ s.toks

structure Ex (W : List Addr) (ρ : List Addr) (g : Nat → List Nat) (s : Shared) (ρ' : List Addr) (g' : Nat → List Nat) (s' : Shared) : Prop where
  pre : ∃ new, ρ' = ρ ++ new
  fresh : ∀ a ∈ ρ', a ∈ ρ ∨ s.heap.get? a = none
  heap : ∀ b o, b ∉ ρ → b ∉ W → s.heap.get? b = some o → s'.heap.get? b = some o
  live : ∀ b o, s.heap.get? b = some o → ∃ o', s'.heap.get? b = some o'
  g : ∀ t, t < s.toks → g' t = g t
  toks : s.toks ≤ s'.toks
  gens : ∀ (i : Nat) (x : GenState), s.gens[i]? = some x → s'.gens[i]? = some x
  bare : ∀ (i : Nat) (y : GenState), s'.gens[i]? = some y → s.gens[i]? = some y ∨ y.bare = true
  os : s'.os = s.os

section
variable {C : Cx} {W W' : List Addr} {ρ ρ' ρ'' : List Addr} {g g' g'' : Nat → List Nat} {s s' s'' : Shared} {st : St}

theorem Ex.refl : Ex W ρ g s ρ g s := ⟨⟨[], by simp⟩, fun _ h => .inl h, fun _ _ _ _ e => e, fun _ o e => ⟨o, e⟩, fun _ _ => rfl, Nat.le_refl _, fun _ _ e => e, fun _ _ e => .inl e, rfl⟩
theorem Ex.trans (x : Ex W ρ g s ρ' g' s') (y : Ex W ρ' g' s' ρ'' g'' s'') : Ex W ρ g s ρ'' g'' s'' where
  pre := by
    obtain ⟨a, e⟩ := x.pre
    obtain ⟨b, e'⟩ := y.pre
    exact ⟨a ++ b, by rw [e', e, List.append_assoc]⟩
  fresh := fun a h => by
    rcases y.fresh a h with h | h
    · exact x.fresh a h
    · right
      cases e : s.heap.get? a with
      | none => rfl
      | some o =>
        obtain ⟨o', e'⟩ := x.live a o e
        rw [e'] at h; cases h
  heap := fun b o hb hw e => y.heap b o (fun h => by
    rcases x.fresh b h with h | h
    · exact hb h
    · rw [h] at e; cases e) hw (x.heap b o hb hw e)
  live := fun b o e => let ⟨o', e'⟩ := x.live b o e; y.live b o' e'
  g := fun t h => (y.g t (Nat.lt_of_lt_of_le h x.toks)).trans (x.g t h)
  toks := Nat.le_trans x.toks y.toks
  gens := fun i a e => y.gens i a (x.gens i a e)
  bare := fun i z e => (y.bare i z e).elim (fun e => x.bare i z e) .inr
  os := y.os.trans x.os
theorem Ex.mono (x : Ex W ρ g s ρ' g' s') (h : ∀ b ∈ W, b ∈ W') : Ex W' ρ g s ρ' g' s' :=
  ⟨x.pre, x.fresh, fun b o hb hw e => x.heap b o hb (fun m => hw (h b m)) e, x.live, x.g, x.toks, x.gens, x.bare, x.os⟩
theorem Ex.any (x : Ex [] ρ g s ρ' g' s') : Ex W ρ g s ρ' g' s' := x.mono fun _ h => nomatch h

theorem VR.ex {a : MV} {v : Value} (h : VR C ρ g s.toks a v) (x : Ex W ρ g s ρ' g' s') : VR C ρ' g' s'.toks a v := by
  cases a with
  | str l tr =>
    obtain ⟨t, e, k⟩ := h
    exact ⟨t, e, fun q => let ⟨a, b, c⟩ := k q; ⟨a, Nat.lt_of_lt_of_le b x.toks, (x.g t b).trans c⟩⟩
  | ref i =>
    obtain ⟨a, e, k⟩ := h
    obtain ⟨n, hn⟩ := x.pre
    refine ⟨a, ?_, k⟩
    rw [hn, List.getElem?_append_left (by
      rcases Nat.lt_or_ge i ρ.length with h | h
      · exact h
      · rw [List.getElem?_eq_none h] at e; cases e)]
    exact e
  | none => exact h
  | bool b => exact h
  | int p k => exact h
  | fn k => exact h
theorem VRs.ex {as : List MV} {vs : List Value} (h : VRs C ρ g s.toks as vs) (x : Ex W ρ g s ρ' g' s') : VRs C ρ' g' s'.toks as vs := by
  induction h with
  | nil => exact .nil
  | cons a _ ih => exact .cons (a.ex x) ih
theorem VRs.length {n : Nat} {as : List MV} {vs : List Value} (h : VRs C ρ g n as vs) : vs.length = as.length := by
  induction h with
  | nil => rfl
  | cons _ _ ih => simp [ih]
theorem VRs.get {n : Nat} {as : List MV} {vs : List Value} (h : VRs C ρ g n as vs) : ∀ {i : Nat} {a : MV}, as[i]? = some a → ∃ v, vs[i]? = some v ∧ VR C ρ g n a v := by
  induction h with
  | nil => intro i a e; simp at e
  | cons x _ ih =>
    intro i a e
    cases i with
    | zero => simp at e; subst e; exact ⟨_, by simp, x⟩
    | succ i => simpa using ih (i := i) (by simpa using e)
theorem VRs.append {n : Nat} {as bs : List MV} {vs us : List Value} (h : VRs C ρ g n as vs) (k : VRs C ρ g n bs us) : VRs C ρ g n (as ++ bs) (vs ++ us) := by
  induction h with
  | nil => exact k
  | cons a _ ih => exact .cons a ih
theorem VRs.reverse {n : Nat} {as : List MV} {vs : List Value} (h : VRs C ρ g n as vs) : VRs C ρ g n as.reverse vs.reverse := by
  induction h with
  | nil => exact .nil
  | cons a _ ih => simpa using ih.append (.cons a .nil)
theorem VRs.drop {n : Nat} {as : List MV} {vs : List Value} (h : VRs C ρ g n as vs) : ∀ k, VRs C ρ g n (as.drop k) (vs.drop k) := by
  induction h with
  | nil => intro k; simpa using .nil
  | cons a b ih => intro k; cases k with
    | zero => exact .cons a b
    | succ k => exact ih k
theorem VRs.take {n : Nat} {as : List MV} {vs : List Value} (h : VRs C ρ g n as vs) : ∀ k, VRs C ρ g n (as.take k) (vs.take k) := by
  induction h with
  | nil => intro k; simpa using .nil
  | cons a b ih => intro k; cases k with
    | zero => exact .nil
    | succ k => exact .cons a (ih k)
theorem VRs.set {n : Nat} {as : List MV} {vs : List Value} (h : VRs C ρ g n as vs) {a : MV} {v : Value} (x : VR C ρ g n a v) : ∀ k, VRs C ρ g n (as.set k a) (vs.set k v) := by
  induction h with
  | nil => intro k; exact .nil
  | cons y b ih => intro k; cases k with
    | zero => exact .cons x b
    | succ k => exact .cons y (ih k)

/-! the store's tree -/
theorem beq_eq' (a b : Nat) : Nat.beq a b = decide (a = b) := by
  cases h : Nat.beq a b with
  | true => rw [Nat.eq_of_beq_eq_true h]; simp
  | false => exact (decide_eq_false (Nat.ne_of_beq_eq_false h)).symm
theorem Tr.get_nil (i : Nat) : Tr.nil.get i = none := rfl
theorem Tr.get_node (o : Option MO) (l r : Tr) (i : Nat) : (Tr.node o l r).get i = match i with | 0 => o | i + 1 => if i % 2 = 0 then l.get (i / 2) else r.get (i / 2) := by
  cases i with
  | zero => rfl
  | succ i =>
    show (match Nat.beq (i % 2) 0 with | true => l.get (i / 2) | false => r.get (i / 2)) = _
    rw [beq_eq']
    by_cases h : i % 2 = 0 <;> simp [h]
theorem Tr.get_parts (t : Tr) (i : Nat) : t.get i = match i with | 0 => t.val | i + 1 => if i % 2 = 0 then t.left.get (i / 2) else t.right.get (i / 2) := by
  cases t with
  | nil => cases i with
    | zero => rfl
    | succ i => simp [Tr.get_nil, Tr.left, Tr.right]
  | node o l r => rw [Tr.get_node]; rfl
theorem Tr.get_put : ∀ (f : Nat) (t : Tr) (i : Nat) (a : MO) (j : Nat), i < f → (t.put f i a).get j = if j = i then some a else t.get j
  | 0, _, i, _, _, h => absurd h (Nat.not_lt_zero i)
  | f + 1, t, 0, a, j, _ => by
    show (Tr.node (some a) t.left t.right).get j = _
    rw [Tr.get_node, Tr.get_parts t]
    cases j <;> simp
  | f + 1, t, i + 1, a, j, h => by
    have hf : i / 2 < f := by omega
    show (match Nat.beq (i % 2) 0 with | true => Tr.node t.val (t.left.put f (i / 2) a) t.right | false => Tr.node t.val t.left (t.right.put f (i / 2) a)).get j = _
    rw [beq_eq', Tr.get_parts t]
    by_cases p : i % 2 = 0
    · rw [decide_eq_true p]
      show (Tr.node t.val (t.left.put f (i / 2) a) t.right).get j = _
      rw [Tr.get_node]
      cases j with
      | zero => simp
      | succ j =>
        dsimp only
        by_cases q : j % 2 = 0
        · rw [if_pos q, if_pos q, Tr.get_put f _ _ _ _ hf]
          by_cases e : j / 2 = i / 2
          · have : j = i := by omega
            subst this; simp
          · have : ¬ (j + 1 = i + 1) := fun x => e (by omega)
            rw [if_neg e, if_neg this]
        · have : ¬ (j + 1 = i + 1) := by omega
          rw [if_neg q, if_neg q, if_neg this]
    · rw [decide_eq_false p]
      show (Tr.node t.val t.left (t.right.put f (i / 2) a)).get j = _
      rw [Tr.get_node]
      cases j with
      | zero => simp
      | succ j =>
        dsimp only
        by_cases q : j % 2 = 0
        · have : ¬ (j + 1 = i + 1) := by omega
          rw [if_pos q, if_pos q, if_neg this]
        · rw [if_neg q, if_neg q, Tr.get_put f _ _ _ _ hf]
          by_cases e : j / 2 = i / 2
          · have : j = i := by omega
            subst this; simp
          · have : ¬ (j + 1 = i + 1) := fun x => e (by omega)
            rw [if_neg e, if_neg this]
theorem getO_setO (st : St) (i : Nat) (o : MO) (j : Nat) : getO (setO st i o) j = if j = i then some o else getO st j := Tr.get_put _ _ _ _ _ (Nat.lt_succ_self _)
theorem getO_push (st : St) (o : MO) (j : Nat) : getO (push st o) j = if j = st.n then some o else getO st j := Tr.get_put _ _ _ _ _ (Nat.lt_succ_self _)

/-! steps -/
theorem OR.ex {o : MO} {a : Addr} (h : OR C ρ g s.toks s.heap o a) (x : Ex W ρ g s ρ' g' s') (k : ∀ ob, s.heap.get? a = some ob → s'.heap.get? a = some ob) : OR C ρ' g' s'.toks s'.heap o a := by
  cases o with
  | list xs => obtain ⟨vs, n, e, r⟩ := h; exact ⟨vs, n, k _ e, r.ex x⟩
  | tup xs => obtain ⟨vs, n, e, r⟩ := h; exact ⟨vs, n, k _ e, r.ex x⟩

theorem Inv.get (I : Inv C ρ g st s) {i : Nat} {o : MO} (h : getO st i = some o) {a : Addr} (e : ρ[i]? = some a) : OR C ρ g s.toks s.heap o a := by
  obtain ⟨b, eb, r⟩ := I.obj i o h
  rw [e] at eb; cases eb; exact r

theorem Ex.keepHeap {h' : Heap} {tk : Nat} (hk : ∀ b o, s.heap.get? b = some o → h'.get? b = some o) (ht : s.toks ≤ tk) : Ex W ρ g s ρ g { s with heap := h', toks := tk } :=
  ⟨⟨[], by simp⟩, fun _ h => .inl h, fun b o _ _ e => hk b o e, fun b o e => ⟨o, hk b o e⟩, fun _ _ => rfl, ht, fun _ _ e => e, fun _ _ e => .inl e, rfl⟩
/-- the whole heap stays, more may come -/
theorem Inv.grow (I : Inv C ρ g st s) (x : Ex W ρ g s ρ g' s') (hk : ∀ b o, s.heap.get? b = some o → s'.heap.get? b = some o) : Inv C ρ g' st s' :=
  ⟨fun b o e => hk b o (I.keep b o e), I.away, fun a h => let ⟨o, e⟩ := I.live a h; ⟨o, hk a o e⟩, I.nodup, I.len,
    fun i o e => let ⟨a, ea, r⟩ := I.obj i o e; ⟨a, ea, r.ex x (hk a)⟩, Nat.le_trans I.tok x.toks⟩
theorem Inv.heap (I : Inv C ρ g st s) {h' : Heap} {tk : Nat} (hk : ∀ b o, s.heap.get? b = some o → h'.get? b = some o) (ht : s.toks ≤ tk) : Inv C ρ g st { s with heap := h', toks := tk } :=
  I.grow (W := []) (Ex.keepHeap hk ht) hk
theorem Ex.tk {tk : Nat} (ht : s.toks ≤ tk) : Ex W ρ g s ρ g { s with toks := tk } := Ex.keepHeap (h' := s.heap) (fun _ _ e => e) ht
theorem Inv.tk (I : Inv C ρ g st s) {tk : Nat} (ht : s.toks ≤ tk) : Inv C ρ g st { s with toks := tk } := I.heap (h' := s.heap) (fun _ _ e => e) ht

noncomputable def updG (g : Nat → List Nat) (t : Nat) (l : List Nat) : Nat → List Nat := fun i => if i = t then l else g i
theorem Ex.str (l : List Nat) {tk : Nat} (ht : s.toks < tk) : Ex W ρ g s ρ (updG g s.toks l) { s with toks := tk } :=
  ⟨⟨[], by simp⟩, fun _ h => .inl h, fun b o _ _ e => e, fun b o e => ⟨o, e⟩, fun t h => if_neg (Nat.ne_of_lt h), Nat.le_of_lt ht, fun _ _ e => e, fun _ _ e => .inl e, rfl⟩
theorem VR.newStr (I : Inv C ρ g st s) (l : List Nat) {tk : Nat} (ht : s.toks < tk) (tr : Bool) : VR C ρ (updG g s.toks l) tk (.str l tr) (.str ⟨l.toArray⟩ s.toks) :=
  ⟨_, rfl, fun _ => ⟨Nat.ne_of_gt I.tok, ht, if_pos rfl⟩⟩

/-- a new object comes into the store -/
theorem Inv.new (I : Inv C ρ g st s) {o : MO} {a : Addr} {h' : Heap} {tk : Nat} (hk : ∀ b ob, s.heap.get? b = some ob → h'.get? b = some ob) (ht : s.toks ≤ tk) (ha : s.heap.get? a = none)
    (ho : ∀ ρ', (∃ n, ρ' = ρ ++ n) → OR C ρ' g tk h' o a) : Inv C (ρ ++ [a]) g (push st o) { s with heap := h', toks := tk } ∧ Ex W ρ g s (ρ ++ [a]) g { s with heap := h', toks := tk } := by
  have hx : Ex W ρ g s (ρ ++ [a]) g { s with heap := h', toks := tk } :=
    ⟨⟨[a], rfl⟩, fun b h => by
      rcases List.mem_append.mp h with h | h
      · exact .inl h
      · exact .inr (by rw [List.mem_singleton.mp h]; exact ha), fun b o _ _ e => hk b o e, fun b o e => ⟨o, hk b o e⟩, fun _ _ => rfl, ht, fun _ _ e => e, fun _ _ e => .inl e, rfl⟩
  have hna : a ∉ ρ := fun h => by obtain ⟨o, e⟩ := I.live a h; rw [ha] at e; cases e
  have hor := ho (ρ ++ [a]) ⟨[a], rfl⟩
  refine ⟨⟨fun b o e => hk b o (I.keep b o e), fun b h => ?_, fun b h => ?_, ?_, ?_, fun i o' e => ?_, Nat.le_trans I.tok ht⟩, hx⟩
  · rcases List.mem_append.mp h with h | h
    · exact I.away b h
    · rw [List.mem_singleton.mp h]
      cases e : C.h₀.get? a with
      | none => rfl
      | some o => rw [I.keep a o e] at ha; cases ha
  · rcases List.mem_append.mp h with h | h
    · obtain ⟨o, e⟩ := I.live b h; exact ⟨o, hk b o e⟩
    · rw [List.mem_singleton.mp h]
      cases o with
      | list xs => obtain ⟨_, _, e, _⟩ := hor; exact ⟨_, e⟩
      | tup xs => obtain ⟨_, _, e, _⟩ := hor; exact ⟨_, e⟩
  · exact List.nodup_append.mpr ⟨I.nodup, by simp, fun b hb c hc e => hna (by rw [List.mem_singleton.mp hc] at e; rw [← e]; exact hb)⟩
  · rw [List.length_append, List.length_singleton, I.len]; rfl
  · rw [getO_push] at e
    by_cases hi : i = st.n
    · subst hi
      rw [if_pos rfl] at e; cases e
      refine ⟨a, ?_, hor⟩
      rw [← I.len]; simp
    · rw [if_neg hi] at e
      obtain ⟨b, eb, r⟩ := I.obj i o' e
      refine ⟨b, ?_, r.ex hx (hk b)⟩
      rw [List.getElem?_append_left (by
        rcases Nat.lt_or_ge i ρ.length with h | h
        · exact h
        · rw [List.getElem?_eq_none h] at eb; cases eb)]
      exact eb

theorem pushed (h : Heap) (o : Obj) : ∀ b ob, h.get? b = some ob → (h.push o).get? b = some ob := fun _ _ e => Heap.get?_push_of_some o e
theorem none_size (h : Heap) : h.get? h.objs.size = none := by
  cases e : h.get? h.objs.size with
  | none => rfl
  | some o => exact absurd (Heap.lt_size e) (Nat.lt_irrefl _)

theorem VR.mem_ex {x : MV} {v : Value} {n m : Nat} (h : VR C ρ g n x v) (hn : n ≤ m) (hp : ∃ k, ρ' = ρ ++ k) : VR C ρ' g m x v := by
  cases x with
  | str l tr => obtain ⟨t, e, k⟩ := h; exact ⟨t, e, fun q => let ⟨a, b, c⟩ := k q; ⟨a, Nat.lt_of_lt_of_le b hn, c⟩⟩
  | ref i =>
    obtain ⟨a, e, k⟩ := h
    obtain ⟨q, hq⟩ := hp
    refine ⟨a, ?_, k⟩
    rw [hq, List.getElem?_append_left (by
      rcases Nat.lt_or_ge i ρ.length with h | h
      · exact h
      · rw [List.getElem?_eq_none h] at e; cases e)]
    exact e
  | none => exact h
  | bool b => exact h
  | int p k => exact h
  | fn k => exact h
theorem VRs.mem_ex {xs : List MV} {vs : List Value} {n m : Nat} (h : VRs C ρ g n xs vs) (hn : n ≤ m) (hp : ∃ k, ρ' = ρ ++ k) : VRs C ρ' g m xs vs := by
  induction h with
  | nil => exact .nil
  | cons a _ ih => exact .cons (a.mem_ex hn hp) ih

/-- a new list at the heap's end -/
theorem Inv.newList (I : Inv C ρ g st s) {xs : List MV} {vs : List Value} (r : VRs C ρ g s.toks xs vs) :
    Inv C (ρ ++ [s.heap.objs.size]) g (push st (.list xs)) { s with heap := s.heap.push { cls := .type "list", data := .seq vs.toArray } } ∧
    Ex W ρ g s (ρ ++ [s.heap.objs.size]) g { s with heap := s.heap.push { cls := .type "list", data := .seq vs.toArray } } :=
  I.new (o := .list xs) (h' := s.heap.push _) (tk := s.toks) (pushed _ _) (Nat.le_refl _) (none_size _) fun _ hp => ⟨vs, 0, Heap.get?_push_size _ rfl, r.mem_ex (Nat.le_refl _) hp⟩
theorem Inv.newTup (I : Inv C ρ g st s) {xs : List MV} {vs : List Value} (r : VRs C ρ g s.toks xs vs) :
    Inv C (ρ ++ [s.heap.objs.size]) g (push st (.tup xs)) { s with heap := s.heap.push { cls := .type "tuple", data := .seq vs.toArray } } ∧
    Ex W ρ g s (ρ ++ [s.heap.objs.size]) g { s with heap := s.heap.push { cls := .type "tuple", data := .seq vs.toArray } } :=
  I.new (o := .tup xs) (h' := s.heap.push _) (tk := s.toks) (pushed _ _) (Nat.le_refl _) (none_size _) fun _ hp => ⟨vs, 0, Heap.get?_push_size _ rfl, r.mem_ex (Nat.le_refl _) hp⟩
theorem VR.last (I : Inv C ρ g st s) (a : Addr) {g' : Nat → List Nat} {n : Nat} : VR C (ρ ++ [a]) g' n (.ref st.n) (.ref a) := ⟨a, by rw [← I.len]; simp, rfl⟩

/-- an object of the store is changed -/
theorem Inv.upd (I : Inv C ρ g st s) {i : Nat} {a : Addr} (hi : ρ[i]? = some a) {o : MO} {h' : Heap} {tk : Nat} (hk : ∀ b ob, b ≠ a → s.heap.get? b = some ob → h'.get? b = some ob) (ht : s.toks ≤ tk)
    (ho : OR C ρ g tk h' o a) : Inv C ρ g (setO st i o) { s with heap := h', toks := tk } ∧ Ex W ρ g s ρ g { s with heap := h', toks := tk } := by
  have ham : a ∈ ρ := List.mem_of_getElem? hi
  have hl : ∃ ob, h'.get? a = some ob := by
    cases o with
    | list xs => obtain ⟨_, _, e, _⟩ := ho; exact ⟨_, e⟩
    | tup xs => obtain ⟨_, _, e, _⟩ := ho; exact ⟨_, e⟩
  have hx : Ex W ρ g s ρ g { s with heap := h', toks := tk } :=
    ⟨⟨[], by simp⟩, fun _ h => .inl h, fun b o hb _ e => hk b o (fun q => hb (q ▸ ham)) e, fun b o e => by
      by_cases hb : b = a
      · subst hb; exact hl
      · exact ⟨o, hk b o hb e⟩, fun _ _ => rfl, ht, fun _ _ e => e, fun _ _ e => .inl e, rfl⟩
  refine ⟨⟨fun b o e => hk b o (fun q => by rw [q, I.away a ham] at e; cases e) (I.keep b o e), I.away, fun b h => ?_, I.nodup, I.len, fun j o' e => ?_, Nat.le_trans I.tok ht⟩, hx⟩
  · obtain ⟨o, e⟩ := I.live b h; exact hx.live b o e
  · rw [getO_setO] at e
    by_cases hj : j = i
    · subst hj; rw [if_pos rfl] at e; cases e; exact ⟨a, hi, ho⟩
    · rw [if_neg hj] at e
      obtain ⟨b, eb, r⟩ := I.obj j o' e
      refine ⟨b, eb, r.ex hx fun ob => hk b ob fun q => hj ?_⟩
      subst q
      obtain ⟨hj', e1⟩ := List.getElem?_eq_some_iff.mp eb
      obtain ⟨hi', e2⟩ := List.getElem?_eq_some_iff.mp hi
      exact (List.getElem_inj I.nodup).mp (e1.trans e2.symm)
end
end Mine
end

section
set_option autoImplicit false
namespace Mine

noncomputable def NV : Nat := 49
noncomputable def nmL : List Str := [Str.ofString "addr", Str.ofString "pos", Str.ofString "ch", Str.ofString "start", Str.ofString "open_pos", Str.ofString "result", Str.ofString "a", Str.ofString "b", Str.ofString "i", Str.ofString "j", Str.ofString "x", Str.ofString "numbers", Str.ofString "size", Str.ofString "values", Str.ofString "k", Str.ofString "total", Str.ofString "names", Str.ofString "ties", Str.ofString "sign", Str.ofString "rest", Str.ofString "ways", Str.ofString "pair", Str.ofString "way", Str.ofString "number", Str.ofString "things", Str.ofString "right", Str.ofString "below", Str.ofString "left", Str.ofString "under", Str.ofString "deed", Str.ofString "text", Str.ofString "known", Str.ofString "worths", Str.ofString "place", Str.ofString "thing", Str.ofString "waiting", Str.ofString "before", Str.ofString "now", Str.ofString "script", Str.ofString "first", Str.ofString "whole", Str.ofString "fraction", Str.ofString "turned", Str.ofString "struck", Str.ofString "inner", Str.ofString "front", Str.ofString "back", Str.ofString "four", Str.ofString "due"]
noncomputable def nmS (i : Nat) : Str := nmL.getD i "addr"
noncomputable def fnL : List Str := [Str.ofString "_strip_quoted_realnames", Str.ofString "add", Str.ofString "mul", Str.ofString "sub", Str.ofString "indexOf", Str.ofString "ISNONTERMINAL", Str.ofString "ISEOF", Str.ofString "_law_values", Str.ofString "_law_ties", Str.ofString "_law_fraction", Str.ofString "_law_ways", Str.ofString "_law_struck_sum", Str.ofString "_law_deed", Str.ofString "_law_read", Str.ofString "_law_plain"]
noncomputable def fnS (i : Nat) : Str := fnL.getD i "add"

noncomputable def opA : Op → Operator
  | .add => .Add
  | .sub => .Sub
  | .mul => .Mult
  | .fdiv => .FloorDiv
  | .mod => .Mod
  | .pow => .Pow
noncomputable def cpA : Cp → CmpOp
  | .eq => .Eq
  | .ne => .NotEq
  | .lt => .Lt
  | .gt => .Gt
  | .ge => .GtE

abbrev Nms := List (Str × NameKind)
noncomputable def isG (ns : Nms) (x : Str) : Prop := ns.lookup x = some .globalImplicit
noncomputable def isLC (ns : Nms) (x : Str) : Prop := ns.lookup x = some .local ∨ ns.lookup x = some .cell
/-- the names of a comprehension's block, under its def's -/
noncomputable def inner (ns out : Nms) : Nms := ns.map fun (n, k) => if k == .free && out.lookup n == some .cell then (n, .cell) else (n, k)
structure CompOk (ns out : Nms) (vs : List Str) : Prop where
  cell : ∀ y ∈ ns, y.2 ≠ .cell
  loc : ∀ y ∈ ns, y.2 = .local → ns.lookup y.1 = some .local
  free : ∀ y ∈ ns, y.2 = .free → out.lookup y.1 = some .cell
  only : ∀ i, i < NV → ns.lookup (nmS i) = some .local → nmS i ∈ vs

mutual
inductive RelE : Nms → X → Expr → Prop
  | nm {ns : Nms} (i : Nat) (pos : Pos) (h : i < NV) (hl : isLC ns (nmS i)) : RelE ns (.nm i) (.Name (nmS i) pos)
  | gi0 {ns : Nms} (pos : Pos) (h : isG ns "NT_OFFSET") : RelE ns (.gi 0) (.Name "NT_OFFSET" pos)
  | gi1 {ns : Nms} (pos : Pos) (h : isG ns "ENDMARKER") : RelE ns (.gi 1) (.Name "ENDMARKER" pos)
  | ci {ns : Nms} (n : Nat) (z : Int) (k : Nat) (pos : Pos) (h : z = Int.ofNat n) : RelE ns (.ci n) (.Constant (.int z) k pos)
  | cs {ns : Nms} (l : List Nat) (x : Str) (k : Nat) (pos : Pos) (h : x = ⟨l.toArray⟩) : RelE ns (.cs l) (.Constant (.str x) k pos)
  | cb {ns : Nms} (b : Bool) (k : Nat) (pos : Pos) : RelE ns (.cb b) (.Constant (.bool b) k pos)
  | cn {ns : Nms} (k : Nat) (pos : Pos) : RelE ns .cn (.Constant .none k pos)
  | bin {ns : Nms} (op : Op) {a b : X} {l r : Expr} (o : Operator) (pos : Pos) (ho : o = opA op) (ha : RelE ns a l) (hb : RelE ns b r) : RelE ns (.bin op a b) (.BinOp l o r pos)
  | neg {ns : Nms} {a : X} {x : Expr} (pos : Pos) (ha : RelE ns a x) : RelE ns (.neg a) (.UnaryOp .USub x pos)
  | cmp {ns : Nms} (op : Cp) {a b : X} {l r : Expr} (o : CmpOp) (pos : Pos) (ho : o = cpA op) (hm : behindInMarks o r = false) (ha : RelE ns a l) (hb : RelE ns b r) : RelE ns (.cmp op a b) (.Compare l [o] [r] pos)
  | inTab {ns : Nms} {a : X} {l : Expr} (p pos : Pos) (hg : isG ns "EXACT_TOKEN_TYPES") (ha : RelE ns a l) : RelE ns (.inTab a) (.Compare l [.In] [.Name "EXACT_TOKEN_TYPES" p] pos)
  | getTab {ns : Nms} {a : X} {i : Expr} (p pos : Pos) (hg : isG ns "EXACT_TOKEN_TYPES") (hs : ∀ o v, ∃ l, subscripted i false o v = operate l (getItem o v)) (ha : RelE ns a i) : RelE ns (.getTab a) (.Subscript (.Name "EXACT_TOKEN_TYPES" p) i pos)
  | notIn {ns : Nms} {a b : X} {l r : Expr} (pos : Pos) (hm : behindInMarks .NotIn r = false) (ha : RelE ns a l) (hb : RelE ns b r) : RelE ns (.notIn a b) (.Compare l [.NotIn] [r] pos)
  | isN {ns : Nms} {a : X} {l : Expr} (k : Nat) (p pos : Pos) (ha : RelE ns a l) : RelE ns (.isN a) (.Compare l [.Is] [.Constant .none k p] pos)
  | and2 {ns : Nms} {a b : X} {l r : Expr} (pos : Pos) (ha : RelE ns a l) (hb : RelE ns b r) : RelE ns (.and2 a b) (.BoolOp .And [l, r] pos)
  | not {ns : Nms} {a : X} {l : Expr} (pos : Pos) (ha : RelE ns a l) : RelE ns (.not a) (.UnaryOp .Not l pos)
  | ife {ns : Nms} {t a b : X} {u l r : Expr} (pos : Pos) (ht : RelE ns t u) (ha : RelE ns a l) (hb : RelE ns b r) : RelE ns (.ife t a b) (.IfExp u l r pos)
  | len {ns : Nms} {a : X} {x : Expr} (p pos : Pos) (hg : isG ns "len") (ha : RelE ns a x) : RelE ns (.len a) (.Call (.Name "len" p) [x] [] pos)
  | sum {ns : Nms} {a : X} {x : Expr} (p pos : Pos) (hg : isG ns "sum") (ha : RelE ns a x) : RelE ns (.sum a) (.Call (.Name "sum" p) [x] [] pos)
  | sub {ns : Nms} {a i : X} {x y : Expr} (pos : Pos) (hs : ∀ o v, ∃ l, subscripted y false o v = operate l (getItem o v)) (ha : RelE ns a x) (hi : RelE ns i y) : RelE ns (.sub a i) (.Subscript x y pos)
  | slA {ns : Nms} {a : X} {x : Expr} (k : Nat) (p1 p2 p pos : Pos) (ha : RelE ns a x) : RelE ns (.slA a) (.Subscript x (.Slice none none (some (.UnaryOp .USub (.Constant (.int 1) k p1) p2)) p) pos)
  | slL {ns : Nms} {a lo : X} {x l : Expr} (p pos : Pos) (ha : RelE ns a x) (hl : RelE ns lo l) : RelE ns (.slL a lo) (.Subscript x (.Slice (some l) none none p) pos)
  | slH {ns : Nms} {a hi : X} {x u : Expr} (p pos : Pos) (ha : RelE ns a x) (hu : RelE ns hi u) : RelE ns (.slH a hi) (.Subscript x (.Slice none (some u) none p) pos)
  | slB {ns : Nms} {a lo hi : X} {x l u : Expr} (p pos : Pos) (ha : RelE ns a x) (hl : RelE ns lo l) (hu : RelE ns hi u) : RelE ns (.slB a lo hi) (.Subscript x (.Slice (some l) (some u) none p) pos)
  | lst {ns : Nms} {es : List X} {xs : List Expr} (pos : Pos) (h : RelEs ns es xs) : RelE ns (.lst es) (.List xs pos)
  | tup {ns : Nms} {es : List X} {xs : List Expr} (k : Nat) (pos : Pos) (h : RelEs ns es xs) : RelE ns (.tup es) (.Tuple xs k pos)
  | join {ns : Nms} {a : X} {x : Expr} (e : Str) (he : e = ⟨#[]⟩) (k : Nat) (p ap pos : Pos) (hl : (ap.endLine == pos.line) = true) (ha : RelE ns a x) : RelE ns (.join a) (.Call (.Attribute (.Constant (.str e) k p) "join" ap) [x] [] pos)
  | cnt {ns : Nms} {a : X} {x : Expr} (l : List Nat) (e : Str) (he : e = ⟨l.toArray⟩) (k : Nat) (p ap pos : Pos) (hl : (ap.endLine == pos.line) = true) (hb : ∀ env, attributeBase x "count" env (eval x env) = eval x env) (ha : RelE ns a x) :
      RelE ns (.cnt a l) (.Call (.Attribute x "count" ap) [.Constant (.str e) k p] [] pos)
  | lc1 {ns : Nms} {it elt : X} {x e : Expr} (v : Nat) (hv : v < NV) (sc : Scope) (p pos : Pos) (hk : sc.kind = .function) (hc : CompOk sc.names ns [nmS v]) (hx : sc.names.lookup (nmS v) = some .local) (hf : ∀ env u, foldedSetIterable x env u = pure u)
      (hi : RelE ns it x) (he : RelE (inner sc.names ns) elt e) : RelE ns (.lc1 v it elt) (.ListComp e [⟨.Name (nmS v) p, x, [], 0⟩] sc pos)
  | lcR {ns : Nms} {m elt : X} {x e : Expr} (v : Nat) (hv : v < NV) (sc : Scope) (p p1 p2 pos : Pos) (hk : sc.kind = .function) (hc : CompOk sc.names ns [nmS v]) (hx : sc.names.lookup (nmS v) = some .local) (hg : isG ns "range")
      (hi : RelE ns m x) (he : RelE (inner sc.names ns) elt e) : RelE ns (.lcR v m elt) (.ListComp e [⟨.Name (nmS v) p, .Call (.Name "range" p1) [x] [] p2, [], 0⟩] sc pos)
  | lc2 {ns : Nms} {it elt : X} {x e : Expr} (v w : Nat) (hv : v < NV) (hw : w < NV) (sc : Scope) (k : Nat) (p q p3 pos : Pos) (hk : sc.kind = .function) (hc : CompOk sc.names ns [nmS v, nmS w]) (hx : sc.names.lookup (nmS v) = some .local) (hy : sc.names.lookup (nmS w) = some .local)
      (hf : ∀ env u, foldedSetIterable x env u = pure u) (hi : RelE ns it x) (he : RelE (inner sc.names ns) elt e) : RelE ns (.lc2 v w it elt) (.ListComp e [⟨.Tuple [.Name (nmS v) p, .Name (nmS w) q] k p3, x, [], 0⟩] sc pos)
  | pop {ns : Nms} (v : Nat) (hv : v < NV) (hc : isLC ns (nmS v)) (p ap pos : Pos) (hl : (ap.endLine == pos.line) = true) : RelE ns (.pop v) (.Call (.Attribute (.Name (nmS v) p) "pop" ap) [] [] pos)
  | call {ns : Nms} (k : Nat) {as : List X} {xs : List Expr} (f : Str) (p pos : Pos) (hf : f = fnS k) (hg : isG ns f) (h : RelEs ns as xs) : RelE ns (.call k as) (.Call (.Name f p) xs [] pos)
  | callv {ns : Nms} (v : Nat) (hv : v < NV) (hc : isLC ns (nmS v)) {as : List X} {xs : List Expr} (p pos : Pos) (h : RelEs ns as xs) : RelE ns (.callv v as) (.Call (.Name (nmS v) p) xs [] pos)
  | sel {ns : Nms} {a : X} {x : Expr} (k1 k2 : Nat) (p1 p2 p3 p4 p5 pos : Pos) (h1 : isG ns "add") (h3 : isG ns "sub") (hs : ∀ o v, ∃ l, subscripted x false o v = operate l (getItem o v)) (ha : RelE ns a x) :
      RelE ns (.sel a) (.Subscript (.Dict [some (.Constant (.int 14) k1 p1), some (.Constant (.int 15) k2 p2)] [.Name "add" p3, .Name "sub" p4] p5) x pos)
inductive RelEs : Nms → List X → List Expr → Prop
  | nil {ns : Nms} : RelEs ns [] []
  | cons {ns : Nms} {a : X} {as : List X} {x : Expr} {xs : List Expr} (h : RelE ns a x) (hs : RelEs ns as xs) : RelEs ns (a :: as) (x :: xs)
end

mutual
inductive RelS : Nms → XS → Stmt → Prop
  | asg {ns : Nms} (i : Nat) (hi : i < NV) (hl : isLC ns (nmS i)) {e : X} {x : Expr} (p pos : Pos) (hs : ∀ env : Env, env.scope.names = ns → env.scope.kind = .function → swapsWith x (some (.Name (nmS i) p)) pos.line env = pure false) (he : RelE ns e x) : RelS ns (.asg i e) (.Assign [.Name (nmS i) p] x pos)
  | asgC {ns : Nms} (i : Nat) (hi : i < NV) (hl : ns.lookup (nmS i) = some .local) {it elt : X} {x e : Expr} (v w : Nat) (hv : v < NV) (hw : w < NV) (sc : Scope) (k : Nat) (p0 p q p3 p4 pos : Pos) (hk : sc.kind = .function) (hc : CompOk sc.names ns [nmS v, nmS w]) (hx : sc.names.lookup (nmS v) = some .local)
      (hy : sc.names.lookup (nmS w) = some .local) (hs : ∀ env : Env, env.scope.names = ns → env.scope.kind = .function → swapsWith (.ListComp e [⟨.Tuple [.Name (nmS v) p, .Name (nmS w) q] k p3, x, [], 0⟩] sc p4) (some (.Name (nmS i) p0)) pos.line env = pure true)
      (hf : ∀ env u, foldedSetIterable x env u = pure u) (hit : RelE ns it x) (he : RelE (inner sc.names ns) elt e) :
      RelS ns (.asg i (.lc2 v w it elt)) (.Assign [.Name (nmS i) p0] (.ListComp e [⟨.Tuple [.Name (nmS v) p, .Name (nmS w) q] k p3, x, [], 0⟩] sc p4) pos)
  | asg2 {ns : Nms} (i j : Nat) (hi : i < NV) (hj : j < NV) (hl : isLC ns (nmS i)) (hm : isLC ns (nmS j)) {e : X} {x : Expr} (k : Nat) (p q p3 pos : Pos)
      (hw : ∀ env : Env, swappedStores [.Tuple [.Name (nmS i) p, .Name (nmS j) q] k p3] x env = pure none) (hs : ∀ env : Env, swapsWithSole [.Tuple [.Name (nmS i) p, .Name (nmS j) q] k p3] x pos.line env = pure false) (he : RelE ns e x) :
      RelS ns (.asg2 i j e) (.Assign [.Tuple [.Name (nmS i) p, .Name (nmS j) q] k p3] x pos)
  | asgT {ns : Nms} (i j : Nat) (hi : i < NV) (hj : j < NV) (hij : i ≠ j) (hl : ns.lookup (nmS i) = some .local) (hm : ns.lookup (nmS j) = some .local) {e f : X} {x y : Expr} (k k2 : Nat) (p q p3 p4 pos : Pos)
      (hw : ∀ env : Env, env.scope.names = ns → env.scope.kind = .function → swappedStores [.Tuple [.Name (nmS i) p, .Name (nmS j) q] k p3] (.Tuple [x, y] k2 p4) env = pure none ∨ swappedStores [.Tuple [.Name (nmS i) p, .Name (nmS j) q] k p3] (.Tuple [x, y] k2 p4) env = pure (some [nmS i, nmS j]))
      (he : RelE ns e x) (hf : RelE ns f y) : RelS ns (.asgT i j e f) (.Assign [.Tuple [.Name (nmS i) p, .Name (nmS j) q] k p3] (.Tuple [x, y] k2 p4) pos)
  | aug {ns : Nms} (v : Nat) (hv : v < NV) (hc : isLC ns (nmS v)) {i e : X} {y x : Expr} (p q pos : Pos) (hi' : ∀ ov iv new, augStore y ov iv new = (do holding [new, ov, iv] (setItem ov iv new); release [new, ov, iv] []; pure .next)) (hi : RelE ns i y) (he : RelE ns e x) :
      RelS ns (.aug v i e) (.AugAssign (.Subscript (.Name (nmS v) p) y q) .Add x pos)
  | app {ns : Nms} (v : Nat) (hv : v < NV) (hc : isLC ns (nmS v)) {e : X} {x : Expr} (p ap cp pos : Pos) (hl : (ap.endLine == cp.line) = true) (he : RelE ns e x) : RelS ns (.app v e) (.Expr (.Call (.Attribute (.Name (nmS v) p) "append" ap) [x] [] cp) pos)
  | popS {ns : Nms} (v : Nat) (hv : v < NV) (hc : isLC ns (nmS v)) (p ap cp pos : Pos) (hl : (ap.endLine == cp.line) = true) : RelS ns (.popS v) (.Expr (.Call (.Attribute (.Name (nmS v) p) "pop" ap) [] [] cp) pos)
  | callS {ns : Nms} (k : Nat) {as : List X} {xs : List Expr} (f : Str) (p cp pos : Pos) (hf : f = fnS k) (hg : isG ns f) (h : RelEs ns as xs) : RelS ns (.callS k as) (.Expr (.Call (.Name f p) xs [] cp) pos)
  | ret {ns : Nms} {e : X} {x : Expr} (pos : Pos) (he : RelE ns e x) : RelS ns (.ret e) (.Return (some x) pos)
  | ite {ns : Nms} {t : X} {u : Expr} {a b : List XS} {l r : List Stmt} (pos : Pos) (ht : RelE ns t u) (ha : RelSs ns a l) (hb : RelSs ns b r) : RelS ns (.ite t a b) (.If u l r pos)
  | whl {ns : Nms} {t : X} {u : Expr} {a : List XS} {l : List Stmt} (pos : Pos) (ht : RelE ns t u) (ha : RelSs ns a l) : RelS ns (.whl t a) (.While u l [] pos)
  | forR {ns : Nms} (v : Nat) (hv : v < NV) (hl : isLC ns (nmS v)) {m : X} {x : Expr} {a : List XS} {l : List Stmt} (p p1 p2 pos : Pos) (hg : isG ns "range") (hm : RelE ns m x) (ha : RelSs ns a l) : RelS ns (.forR v m a) (.For (.Name (nmS v) p) (.Call (.Name "range" p1) [x] [] p2) l [] pos)
  | forL {ns : Nms} (v : Nat) (hv : v < NV) (hl : isLC ns (nmS v)) {it : X} {x : Expr} {a : List XS} {l : List Stmt} (p pos : Pos) (hf : ∀ env u, foldedSetIterable x env u = pure u) (hi : RelE ns it x) (ha : RelSs ns a l) : RelS ns (.forL v it a) (.For (.Name (nmS v) p) x l [] pos)
  | forL2 {ns : Nms} (v w : Nat) (hv : v < NV) (hw : w < NV) (hl : isLC ns (nmS v)) (hm : isLC ns (nmS w)) {it : X} {x : Expr} {a : List XS} {l : List Stmt} (k : Nat) (p q p3 pos : Pos) (hf : ∀ env u, foldedSetIterable x env u = pure u) (hi : RelE ns it x) (ha : RelSs ns a l) :
      RelS ns (.forL2 v w it a) (.For (.Tuple [.Name (nmS v) p, .Name (nmS w) q] k p3) x l [] pos)
  | forG {ns : Nms} (v w : Nat) (hv : v < NV) (hw : w < NV) (hl : isLC ns (nmS v)) (hm : isLC ns (nmS w)) {it : X} {x : Expr} {a : List XS} {l : List Stmt} (k : Nat) (p q p3 p4 p5 pos : Pos) (hg : isG ns "_iter_escaped_chars") (hi : RelE ns it x) (ha : RelSs ns a l) :
      RelS ns (.forG v w it a) (.For (.Tuple [.Name (nmS v) p, .Name (nmS w) q] k p3) (.Call (.Name "_iter_escaped_chars" p4) [x] [] p5) l [] pos)
inductive RelSs : Nms → List XS → List Stmt → Prop
  | nil {ns : Nms} : RelSs ns [] []
  | cons {ns : Nms} {a : XS} {as : List XS} {x : Stmt} {xs : List Stmt} (h : RelS ns a x) (hs : RelSs ns as xs) : RelSs ns (a :: as) (x :: xs)
end
end Mine
end

section
set_option autoImplicit false
namespace Mine
/-- where def k stands in the text -/
noncomputable def fnAt (k : Nat) : Nat := [2, 4, 5, 6, 7, 60, 61, 63, 64, 65, 66, 67, 68, 69, 70].getD k 4

local macro_rules | `(tactic| mod_arm) => `(tactic| first
  | exact RelEs.nil
  | exact RelSs.nil
  | refine RelEs.cons ?_ ?_
  | refine RelSs.cons ?_ ?_
  | exact RelE.nm _ _ (by decide) (by first | exact .inl rfl | exact .inr rfl)
  | exact RelE.gi0 _ rfl
  | exact RelE.gi1 _ rfl
  | exact RelE.ci _ _ _ _ rfl
  | exact RelE.cs _ _ _ _ (by decide +kernel)
  | exact RelE.cb _ _ _
  | exact RelE.cn _ _
  | refine RelE.bin _ _ _ rfl ?_ ?_
  | refine RelE.neg _ ?_
  | refine RelE.cmp _ _ _ rfl rfl ?_ ?_
  | refine RelE.inTab _ _ rfl ?_
  | refine RelE.getTab _ _ rfl (fun _ _ => ⟨_, rfl⟩) ?_
  | refine RelE.notIn _ rfl ?_ ?_
  | refine RelE.isN _ _ _ ?_
  | refine RelE.and2 _ ?_ ?_
  | refine RelE.not _ ?_
  | refine RelE.ife _ ?_ ?_ ?_
  | refine RelE.len _ _ rfl ?_
  | refine RelE.sum _ _ rfl ?_
  | refine RelE.sub _ (fun _ _ => ⟨_, rfl⟩) ?_ ?_
  | refine RelE.slA _ _ _ _ _ ?_
  | refine RelE.slL _ _ ?_ ?_
  | refine RelE.slH _ _ ?_ ?_
  | refine RelE.slB _ _ ?_ ?_ ?_
  | refine RelE.lst _ ?_
  | refine RelE.tup _ _ ?_
  | refine RelE.join _ (by decide +kernel) _ _ _ _ rfl ?_
  | refine RelE.cnt _ _ (by decide +kernel) _ _ _ _ rfl (fun _ => rfl) ?_
  | refine RelE.lc1 _ (by decide) _ _ _ rfl ⟨by decide, by decide, by decide, by decide +kernel⟩ rfl (fun _ _ => rfl) ?_ ?_
  | refine RelE.lcR _ (by decide) _ _ _ _ _ rfl ⟨by decide, by decide, by decide, by decide +kernel⟩ rfl rfl ?_ ?_
  | refine RelE.lc2 _ _ (by decide) (by decide) _ _ _ _ _ _ rfl ⟨by decide, by decide, by decide, by decide +kernel⟩ rfl rfl (fun _ _ => rfl) ?_ ?_
  | exact RelE.pop _ (by decide) (by first | exact .inl rfl | exact .inr rfl) _ _ _ rfl
  | refine RelE.call _ _ _ _ rfl rfl ?_
  | refine RelE.callv _ (by decide) (by first | exact .inl rfl | exact .inr rfl) _ _ ?_
  | refine RelE.sel _ _ _ _ _ _ _ _ rfl rfl (fun _ _ => ⟨_, rfl⟩) ?_
  | refine RelS.asg _ (by decide) (by first | exact .inl rfl | exact .inr rfl) _ _ (fun _ _ _ => rfl) ?_
  | refine RelS.asgC _ (by decide) rfl _ _ (by decide) (by decide) _ _ _ _ _ _ _ _ rfl ⟨by decide, by decide, by decide, by decide +kernel⟩ rfl rfl (by intro env h1 h2; obtain ⟨⟨_, _, _, _, _⟩, _, _, _, _, _, _, _, _⟩ := env; dsimp only at h1 h2; subst h1 h2; rfl) (fun _ _ => rfl) ?_ ?_
  | refine RelS.asgT _ _ (by decide) (by decide) (by decide) rfl rfl _ _ _ _ _ _ _ (by intro env h1 h2; obtain ⟨⟨_, _, _, _, _⟩, _, _, _, _, _, _, _, _⟩ := env; dsimp only at h1 h2; subst h1 h2; first | exact .inl rfl | exact .inr rfl) ?_ ?_
  | refine RelS.asg2 _ _ (by decide) (by decide) (.inl rfl) (.inl rfl) _ _ _ _ _ (fun _ => rfl) (fun _ => rfl) ?_
  | refine RelS.aug _ (by decide) (by first | exact .inl rfl | exact .inr rfl) _ _ _ (fun _ _ _ => rfl) ?_ ?_
  | refine RelS.app _ (by decide) (by first | exact .inl rfl | exact .inr rfl) _ _ _ _ rfl ?_
  | exact RelS.popS _ (by decide) (by first | exact .inl rfl | exact .inr rfl) _ _ _ _ rfl
  | refine RelS.callS _ _ _ _ _ rfl rfl ?_
  | refine RelS.ret _ ?_
  | refine RelS.ite _ ?_ ?_ ?_
  | refine RelS.whl _ ?_ ?_
  | refine RelS.forR _ (by decide) (.inl rfl) _ _ _ _ rfl ?_ ?_
  | refine RelS.forL _ (by decide) (.inl rfl) _ _ (fun _ _ => rfl) ?_ ?_
  | refine RelS.forL2 _ _ (by decide) (by decide) (.inl rfl) (.inl rfl) _ _ _ _ _ (fun _ _ => rfl) ?_ ?_
  | refine RelS.forG _ _ (by decide) (by decide) (.inl rfl) (.inl rfl) _ _ _ _ _ _ _ rfl ?_ ?_)

theorem rel12 : RelSs (fnScope 68).names bDeed (fnBody 68) := by
  repeat mod_arm
theorem rel5 : RelSs (fnScope 60).names [.ret (.cmp .ge (.nm 10) (.gi 0))] (fnBody 60) := by repeat mod_arm
theorem rel1 : RelSs (fnScope 4).names [.ret (.bin .add (.nm 6) (.nm 7))] (fnBody 4) := by repeat mod_arm
theorem rel2 : RelSs (fnScope 5).names [.ret (.bin .mul (.nm 6) (.nm 7))] (fnBody 5) := by repeat mod_arm
theorem rel3 : RelSs (fnScope 6).names [.ret (.bin .sub (.nm 6) (.nm 7))] (fnBody 6) := by repeat mod_arm
theorem rel6 : RelSs (fnScope 61).names [.ret (.cmp .eq (.nm 10) (.gi 1))] (fnBody 61) := by repeat mod_arm
theorem rel0 : RelSs (fnScope 2).names bStrip (fnBody 2) := by repeat mod_arm
theorem rel13 : RelSs (fnScope 69).names bRead (fnBody 69) := by repeat mod_arm
theorem rel9 : RelSs (fnScope 65).names bFraction (fnBody 65) := by repeat mod_arm
theorem rel11 : RelSs (fnScope 67).names bStruck (fnBody 67) := by repeat mod_arm
theorem rel7 : RelSs (fnScope 63).names bValues (fnBody 63) := by repeat mod_arm
theorem rel8 : RelSs (fnScope 64).names bTies (fnBody 64) := by repeat mod_arm
theorem rel10 : RelSs (fnScope 66).names bWays (fnBody 66) := by repeat mod_arm
theorem rel14 : RelSs (fnScope 70).names bPlain (fnBody 70) := by repeat mod_arm
theorem relL : RelSs (fnScope 71).names (bLaw1 ++ bLaw2) (fnBody 71) := by repeat mod_arm
end Mine
end

section
set_option autoImplicit false
namespace Mine

theorem nm_inj : ∀ i, i < NV → ∀ j, j < NV → nmS i = nmS j → i = j := by decide +kernel
theorem nm_dbg : ∀ i, i < NV → (nmS i == ("__debug__" : Str)) = false := by decide +kernel
theorem nm_cd : ∀ i, i < NV → (nmS i == ("__classdict__" : Str)) = false := by decide +kernel

noncomputable def VarAt (h : Heap) (env : Env) (x : Str) (v : Value) : Prop :=
  (env.kindOf x = some .local ∧ ∃ m, h.Ns env.locals m ∧ m x = some v) ∨
  ((env.kindOf x = some .cell ∨ env.kindOf x = some .free) ∧ ∃ c, env.cells.lookup x = some c ∧ h.IsCell c (some v))

noncomputable def FP (env : Env) : List Addr := env.locals :: env.cells.map Prod.snd

structure EnvOk (C : Cx) (env : Env) (loc : Loc) (ρ : List Addr) (g : Nat → List Nat) (s : Shared) : Prop where
  kind : env.scope.kind = .function
  glob : env.globals = mainGlobals
  bi : env.builtins = builtinsNs
  has : ∀ x, env.kindOf x = some .cell → ∃ c, env.cells.lookup x = some c
  ns : ∃ m, s.heap.Ns env.locals m
  cells : ∀ x c, (x, c) ∈ env.cells → ∃ v, s.heap.IsCell c v
  apart : ∀ x y c, (x, c) ∈ env.cells → (y, c) ∈ env.cells → x = y
  lc : ∀ x c, (x, c) ∈ env.cells → c ≠ env.locals
  away : ∀ b ∈ FP env, b ∉ ρ ∧ C.h₀.get? b = none
  vars : ∀ i u, i < NV → look i loc = some u → isLC env.scope.names (nmS i) → ∃ v, VR C ρ g s.toks u v ∧ VarAt s.heap env (nmS i) v

structure Rm (A : Around) (N : Nat) : Prop where
  hh : A.handled = none
  depth : A.depth + N < recursionLimit
  units : A.units + 4 * N + 100 < cLine
theorem Rm.le {A : Around} {N K : Nat} (h : Rm A N) (k : K ≤ N) : Rm A K := ⟨h.hh, by have := h.depth; omega, by have := h.units; omega⟩
theorem Rm.room {A : Around} {N : Nat} (h : Rm A N) : A.depth < recursionLimit := by have := h.depth; omega

section
variable {C : Cx} {W : List Addr} {ρ ρ' : List Addr} {g g' : Nat → List Nat} {s s' : Shared} {st : St} {env : Env} {loc : Loc}

theorem mem_FP_cell {x : Str} {c : Addr} (h : (x, c) ∈ env.cells) : c ∈ FP env := List.mem_cons_of_mem _ (List.mem_map.mpr ⟨_, h, rfl⟩)
theorem VarAt.keep {h h' : Heap} {x : Str} {v : Value} (V : VarAt h env x v) (hk : ∀ b ∈ FP env, ∀ o, h.get? b = some o → h'.get? b = some o) : VarAt h' env x v := by
  rcases V with ⟨k, m, hm, e⟩ | ⟨k, c, hc, o, ho, hd⟩
  · exact .inl ⟨k, m, hm.at' (hk _ (.head _)), e⟩
  · exact .inr ⟨k, c, hc, o, hk _ (mem_FP_cell (mem_of_lookup hc)) _ ho, hd⟩
theorem EnvOk.live (V : EnvOk C env loc ρ g s) : ∀ b ∈ FP env, ∃ o, s.heap.get? b = some o := by
  intro b hb
  rcases List.mem_cons.mp hb with rfl | hb
  · obtain ⟨m, o, _, _, ho, _⟩ := V.ns; exact ⟨o, ho⟩
  · obtain ⟨p, hp, rfl⟩ := List.mem_map.mp hb
    obtain ⟨v, o, ho, _⟩ := V.cells p.1 p.2 hp
    exact ⟨o, ho⟩
/-- an expression's turn leaves the frame as it stands -/
theorem EnvOk.ex (V : EnvOk C env loc ρ g s) (x : Ex [] ρ g s ρ' g' s') : EnvOk C env loc ρ' g' s' := by
  have hk : ∀ b ∈ FP env, ∀ o, s.heap.get? b = some o → s'.heap.get? b = some o := fun b hb o e => x.heap b o (V.away b hb).1 (fun h => nomatch h) e
  refine ⟨V.kind, V.glob, V.bi, V.has, ?_, fun y c hc => ?_, V.apart, V.lc, fun b hb => ⟨fun h => ?_, (V.away b hb).2⟩, fun i u hi hl hc => ?_⟩
  · obtain ⟨m, hm⟩ := V.ns; exact ⟨m, hm.at' (hk _ (.head _))⟩
  · obtain ⟨v, o, ho, hd⟩ := V.cells y c hc
    exact ⟨v, o, hk _ (mem_FP_cell hc) _ ho, hd⟩
  · rcases x.fresh b h with h | h
    · exact (V.away b hb).1 h
    · obtain ⟨o, e⟩ := V.live b hb; rw [e] at h; cases h
  · obtain ⟨v, hv, hq⟩ := V.vars i u hi hl hc
    exact ⟨v, hv.ex x, hq.keep hk⟩

theorem look_put (i : Nat) (v : MV) : ∀ (l : Loc) (j : Nat), look j (put i v l) = if i = j then some v else look j l
  | [], j => by
    show (match Nat.beq i j with | true => some v | false => none) = _
    rw [beq_eq']
    by_cases h : i = j <;> simp [h, look]
  | t :: r, j => by
    have ih := look_put i v r j
    show look j (match Nat.beq t.1 i with | true => (i, v) :: r | false => t :: put i v r) = _
    rw [beq_eq']
    by_cases h : t.1 = i
    · rw [decide_eq_true h]
      show (match Nat.beq i j with | true => some v | false => look j r) = _
      rw [beq_eq']
      by_cases q : i = j
      · simp [q]
      · have : look j (t :: r) = look j r := by
          show (match Nat.beq t.1 j with | true => some t.2 | false => look j r) = _
          rw [beq_eq', decide_eq_false (by rw [h]; exact q)]
        simp [q, this]
    · rw [decide_eq_false h]
      show (match Nat.beq t.1 j with | true => some t.2 | false => look j (put i v r)) = _
      rw [beq_eq', ih]
      have e : look j (t :: r) = match Nat.beq t.1 j with | true => some t.2 | false => look j r := rfl
      rw [e, beq_eq']
      by_cases q : t.1 = j
      · have : ¬ i = j := fun z => h (q.trans z.symm)
        simp [q, this]
      · simp [q]

theorem ld_var {A : Around} {Q : Value → Shared → Prop} {E : Value → Shared → Prop} {i : Nat} {u : MV} {pos : Pos} (V : EnvOk C env loc ρ g s) (hi : i < NV) (hc : isLC env.scope.names (nmS i)) (hl : look i loc = some u)
    (h : ∀ v, VR C ρ g s.toks u v → Q v s) : wpAny (model C.prog C.w) A (eval (.Name (nmS i) pos) env) Q E s := by
  obtain ⟨v, hv, hq⟩ := V.vars i u hi hl hc
  refine wpAny_Name ?_ (nm_dbg i hi)
  rcases hq with ⟨k, m, hm, e⟩ | ⟨k, c, hc, hd⟩
  · exact wpAny_loadName_local V.kind k hm e (h v hv)
  · rcases k with k | k
    · exact wpAny_loadName_cell V.kind k hc hd (h v hv)
    · exact wpAny_loadName_free V.kind k hc hd (h v hv) (nm_cd i hi)

theorem cond_frame (V : EnvOk C env loc ρ g s) : (env.scope.kind == .class || (env.scope.kind == .module && env.locals != env.globals)) = false := by rw [V.kind]; rfl

theorem lookup_of_mem_apart : ∀ {l : List (Str × Addr)} {x : Str} {c : Addr}, l.lookup x = some c → (x, c) ∈ l := fun h => mem_of_lookup h

theorem st_var {A : Around} {Q : Unit → Shared → Prop} {E : Value → Shared → Prop} {i : Nat} {u : MV} {v : Value} (I : Inv C ρ g st s) (V : EnvOk C env loc ρ g s) (hi : i < NV)
    (hk : env.kindOf (nmS i) = some .local ∨ (env.kindOf (nmS i) = some .cell ∧ ∃ c, env.cells.lookup (nmS i) = some c)) (hv : VR C ρ g s.toks u v)
    (hW : ∀ c, env.kindOf (nmS i) = some .local ∧ c = env.locals ∨ env.kindOf (nmS i) = some .cell ∧ env.cells.lookup (nmS i) = some c → c ∈ W)
    (h : ∀ s', Ex W ρ g s ρ g s' → Inv C ρ g st s' → EnvOk C env (put i u loc) ρ g s' → Q () s') : wpAny (model C.prog C.w) A (storeName env (nmS i) v) Q E s := by
  have mk : ∀ (c : Addr) (h' : Heap) (tk : Nat), c ∈ FP env → c ∈ W → s.toks ≤ tk → Heap.SameBut c s.heap h' → (∃ o, h'.get? c = some o) →
      Ex W ρ g s ρ g { s with heap := h', toks := tk } ∧ Inv C ρ g st { s with heap := h', toks := tk } := by
    intro c h' tk hc hcw ht hs hl
    have hb : ∀ b o, b ≠ c → s.heap.get? b = some o → h'.get? b = some o := fun b o hb e => (hs.2 b hb).trans e
    have hx : Ex W ρ g s ρ g { s with heap := h', toks := tk } :=
      ⟨⟨[], by simp⟩, fun _ h => .inl h, fun b o _ hw e => hb b o (fun q => hw (q ▸ hcw)) e, fun b o e => by
        by_cases hbc : b = c
        · subst hbc; exact hl
        · exact ⟨o, hb b o hbc e⟩, fun _ _ => rfl, ht, fun _ _ e => e, fun _ _ e => .inl e, rfl⟩
    refine ⟨hx, ⟨fun b o e => hb b o (fun q => by rw [q, (V.away c hc).2] at e; cases e) (I.keep b o e), I.away, fun a h => ?_, I.nodup, I.len, fun j o e => ?_, Nat.le_trans I.tok ht⟩⟩
    · obtain ⟨o, e⟩ := I.live a h; exact hx.live a o e
    · obtain ⟨a, ea, r⟩ := I.obj j o e
      exact ⟨a, ea, r.ex hx fun ob => hb a ob fun q => (V.away c hc).1 (q ▸ List.mem_of_getElem? ea)⟩
  rcases hk with hk | ⟨hk, c, hc⟩
  · obtain ⟨m, hm⟩ := V.ns
    refine wpAny_storeName_local hk hm (fun h' hn hs => ?_) (cond_frame V)
    have hL : ∃ o, h'.get? env.locals = some o := by obtain ⟨o, _, _, ho, _⟩ := hn; exact ⟨o, ho⟩
    obtain ⟨hx, hI⟩ := mk env.locals h' (s.toks + 1) (.head _) (hW _ (.inl ⟨hk, rfl⟩)) (Nat.le_succ _) hs hL
    refine h _ hx hI ⟨V.kind, V.glob, V.bi, V.has, ⟨_, hn⟩, fun y c hc => ?_, V.apart, V.lc, V.away, fun j w hj hl hlc => ?_⟩
    · obtain ⟨v, hv⟩ := V.cells y c hc; exact ⟨v, hv.sameBut hs (V.lc y c hc)⟩
    · rw [look_put] at hl
      by_cases e : i = j
      · subst e
        rw [if_pos rfl] at hl; cases hl
        exact ⟨v, hv.ex hx, .inl ⟨hk, _, hn, if_pos rfl⟩⟩
      · rw [if_neg e] at hl
        obtain ⟨x, hx', hq⟩ := V.vars j w hj hl hlc
        refine ⟨x, hx'.ex hx, ?_⟩
        rcases hq with ⟨k, m', hm', e'⟩ | ⟨k, c, hc, hd⟩
        · refine .inl ⟨k, _, hn, ?_⟩
          rw [if_neg (fun q => e (nm_inj i hi j hj q.symm))]
          obtain ⟨o, es, ep, ho, hdd, _, hf⟩ := hm
          obtain ⟨o', es', ep', ho', hdd', _, hf'⟩ := hm'
          rw [ho] at ho'; cases ho'
          rw [hdd] at hdd'; cases hdd'
          rw [← hf, hf']; exact e'
        · exact .inr ⟨k, c, hc, hd.sameBut hs (V.lc _ c (mem_of_lookup hc))⟩
  · have hcm := mem_of_lookup hc
    obtain ⟨v₀, hv₀⟩ := V.cells _ c hcm
    refine wpAny_storeName_cell V.kind hk hc hv₀ fun h' hd hs => ?_
    have hL : ∃ o, h'.get? c = some o := by obtain ⟨o, ho, _⟩ := hd; exact ⟨o, ho⟩
    obtain ⟨hx, hI⟩ := mk c h' s.toks (mem_FP_cell hcm) (hW _ (.inr ⟨hk, hc⟩)) (Nat.le_refl _) hs hL
    refine h _ hx hI ⟨V.kind, V.glob, V.bi, V.has, ?_, fun y d hd' => ?_, V.apart, V.lc, V.away, fun j w hj hl hlc => ?_⟩
    · obtain ⟨m, hm⟩ := V.ns; exact ⟨m, hm.sameBut hs fun q => V.lc _ c hcm q.symm⟩
    · by_cases q : d = c
      · subst q; exact ⟨_, hd⟩
      · obtain ⟨v, hv⟩ := V.cells y d hd'; exact ⟨v, hv.sameBut hs q⟩
    · rw [look_put] at hl
      by_cases e : i = j
      · subst e
        rw [if_pos rfl] at hl; cases hl
        exact ⟨v, hv.ex hx, .inr ⟨.inl hk, c, hc, hd⟩⟩
      · rw [if_neg e] at hl
        obtain ⟨x, hx', hq⟩ := V.vars j w hj hl hlc
        refine ⟨x, hx'.ex hx, ?_⟩
        rcases hq with ⟨k, m', hm', e'⟩ | ⟨k, d, hd', hdd⟩
        · exact .inl ⟨k, m', hm'.sameBut hs fun q => V.lc _ c hcm q.symm, e'⟩
        · refine .inr ⟨k, d, hd', hdd.sameBut hs fun q => e ?_⟩
          subst q
          exact nm_inj i hi j hj (V.apart _ _ _ hcm (mem_of_lookup hd'))
end

/-- what the head hands over -/
structure CxOk (C : Cx) : Prop where
  ns : C.h₀.Ns mainGlobals C.mg
  nb : C.h₀.Ns builtinsNs C.mb
  lim : C.h₀.NoLimit
  booked : NoneBooked C.h₀
  len : C.mg "len" = none ∧ C.mb "len" = some (.builtin "len")
  sum : C.mg "sum" = none ∧ C.mb "sum" = some (.builtin "sum")
  range : C.mg "range" = none ∧ C.mb "range" = some (.type "range")
  enum : C.mg "enumerate" = none ∧ C.mb "enumerate" = some (.type "enumerate")
  nt : ∃ t, C.mg "NT_OFFSET" = some (.int 256 t)
  em : ∃ t, C.mg "ENDMARKER" = some (.int 0 t)

section
variable {C : Cx} {ρ : List Addr} {g : Nat → List Nat} {s : Shared} {st : St} {env : Env} {loc : Loc} {A : Around} {Q : Value → Shared → Prop} {E : Value → Shared → Prop} {x : Str} {v : Value} {pos : Pos}
theorem ld_glob (O : CxOk C) (I : Inv C ρ g st s) (V : EnvOk C env loc ρ g s) (hx : isG env.scope.names x) (hv : C.mg x = some v) (h : Q v s) (hd : (x == ("__debug__" : Str)) = false) : wpAny (model C.prog C.w) A (eval (.Name x pos) env) Q E s :=
  Calls.Name_function_global V.kind hx (Calls.loadGlobal_global (by rw [V.glob]; exact O.ns.keeps I.keep) hv h) hd
theorem ld_boot (O : CxOk C) (I : Inv C ρ g st s) (V : EnvOk C env loc ρ g s) (hx : isG env.scope.names x) (hv : C.mg x = none ∧ C.mb x = some v) (h : Q v s) (hd : (x == ("__debug__" : Str)) = false) : wpAny (model C.prog C.w) A (eval (.Name x pos) env) Q E s :=
  Calls.Name_function_global V.kind hx (Calls.loadGlobal_builtin (by rw [V.glob]; exact O.ns.keeps I.keep) hv.1 (by rw [V.bi]; exact O.nb.keeps I.keep) hv.2 h) hd
end
end Mine
end

section
set_option autoImplicit false
namespace Mine
noncomputable def evM (η : Nat → Int) (m : List Nat) : Int := m.foldr (fun i a => η i * a) 1
noncomputable def evP (η : Nat → Int) (p : Po) : Int := p.foldr (fun t a => t.2 * evM η t.1 + a) 0
section
variable (η : Nat → Int)
theorem evM_cons (i : Nat) (m : List Nat) : evM η (i :: m) = η i * evM η m := rfl
theorem evP_cons (t : List Nat × Int) (p : Po) : evP η (t :: p) = t.2 * evM η t.1 + evP η p := rfl
theorem evM_ins (i : Nat) : ∀ m : List Nat, evM η (insM i m) = η i * evM η m
  | [] => rfl
  | j :: r => by
    show evM η (match Nat.ble i j with | true => i :: j :: r | false => j :: insM i r) = _
    cases Nat.ble i j with
    | true => rfl
    | false =>
      show evM η (j :: insM i r) = _
      rw [evM_cons, evM_ins i r, evM_cons, ← Int.mul_assoc, ← Int.mul_assoc, Int.mul_comm (η j)]
theorem evM_mul (b : List Nat) : ∀ a : List Nat, evM η (mulM a b) = evM η a * evM η b
  | [] => by show evM η b = 1 * evM η b; rw [Int.one_mul]
  | i :: a => by
    show evM η (insM i (mulM a b)) = _
    rw [evM_ins, evM_mul b a, evM_cons, Int.mul_assoc]
theorem eqM_eq : ∀ a b : List Nat, eqM a b = true → a = b
  | [], [], _ => rfl
  | [], _ :: _, h => nomatch h
  | _ :: _, [], h => nomatch h
  | i :: a, j :: b, h => by
    have h : (match Nat.beq i j with | true => eqM a b | false => false) = true := h
    cases e : Nat.beq i j with
    | true => rw [e] at h; rw [Nat.eq_of_beq_eq_true e, eqM_eq a b h]
    | false => rw [e] at h; cases h
theorem evP_addT (m : List Nat) (z : Int) : ∀ p : Po, evP η (addT m z p) = z * evM η m + evP η p
  | [] => rfl
  | t :: r => by
    show evP η (match eqM m t.1 with | true => (m, z + t.2) :: r | false => t :: addT m z r) = _
    cases e : eqM m t.1 with
    | true =>
      show evP η ((m, z + t.2) :: r) = _
      rw [evP_cons, evP_cons, ← eqM_eq _ _ e, Int.add_mul, Int.add_assoc]
    | false =>
      show evP η (t :: addT m z r) = _
      rw [evP_cons, evP_addT m z r, evP_cons]; omega
theorem evP_addP (q : Po) : ∀ p : Po, evP η (addP p q) = evP η p + evP η q
  | [] => by show evP η q = 0 + _; omega
  | t :: p => by
    show evP η (addT t.1 t.2 (addP p q)) = _
    rw [evP_addT, evP_addP q p, evP_cons]; omega
theorem evP_mulT (m : List Nat) (z : Int) (q : Po) : ∀ p : Po, evP η (mulT m z p q) = z * evM η m * evP η p + evP η q
  | [] => by show evP η q = z * evM η m * 0 + _; rw [Int.mul_zero]; omega
  | t :: p => by
    show evP η (addT (mulM m t.1) (z * t.2) (mulT m z p q)) = _
    rw [evP_addT, evP_mulT m z q p, evP_cons, evM_mul, Int.mul_add]
    have : z * t.2 * (evM η m * evM η t.1) = z * evM η m * (t.2 * evM η t.1) := by
      rw [Int.mul_assoc, Int.mul_assoc, ← Int.mul_assoc t.2, Int.mul_comm t.2, Int.mul_assoc]
    omega
theorem evP_mulP (q : Po) : ∀ p : Po, evP η (mulP p q) = evP η p * evP η q
  | [] => by show (0 : Int) = 0 * _; rw [Int.zero_mul]
  | t :: p => by
    show evP η (mulT t.1 t.2 q (mulP p q)) = _
    rw [evP_mulT, evP_mulP q p, evP_cons, Int.add_mul]
theorem evP_negP : ∀ p : Po, evP η (negP p) = - evP η p
  | [] => rfl
  | t :: p => by
    show - t.2 * evM η t.1 + evP η (negP p) = _
    rw [evP_negP p, evP_cons, Int.neg_mul]; omega
theorem evP_toP : ∀ e : PE, evP η (toP e) = e.den η
  | .c z => by show z * 1 + 0 = z; omega
  | .v i => by show 1 * (η i * 1) + 0 = η i; omega
  | .add a b => by show evP η (addP (toP a) (toP b)) = _; rw [evP_addP, evP_toP a, evP_toP b]; rfl
  | .sub a b => by show evP η (addP (toP a) (negP (toP b))) = _; rw [evP_addP, evP_negP, evP_toP a, evP_toP b]; rfl
  | .mul a b => by show evP η (mulP (toP a) (toP b)) = _; rw [evP_mulP, evP_toP a, evP_toP b]; rfl
  | .neg a => by show evP η (negP (toP a)) = _; rw [evP_negP, evP_toP a]; rfl
theorem zeroI_eq {z : Int} (h : zeroI z = true) : z = 0 := by
  cases z with
  | ofNat n => rw [Nat.eq_of_beq_eq_true (show Nat.beq n 0 = true from h)]; rfl
  | negSucc n => cases h
theorem isZ_ev : ∀ p : Po, isZ p = true → evP η p = 0
  | [], _ => rfl
  | t :: p, h => by
    have h : (zeroI t.2 && isZ p) = true := h
    obtain ⟨h1, h2⟩ := Bool.and_eq_true_iff.mp h
    rw [evP_cons, zeroI_eq h1, isZ_ev p h2]; omega
theorem eqI_iff' (a b : Int) : eqI a b = decide (a = b) := by
  cases a <;> cases b <;> simp [eqI] <;> first | omega | rfl | skip
  · rw [Bool.eq_iff_iff, Nat.beq_eq]; simp; omega
  · rw [Bool.eq_iff_iff, Nat.beq_eq]; simp
theorem eqPE_ok {a b : PE} {r : Bool} (h : eqPE a b = some r) : r = decide (a.den η = b.den η) := by
  unfold eqPE at h
  split at h
  · cases h; exact eqI_iff' _ _
  · split at h
    · next e =>
      cases h
      have := isZ_ev η _ e
      rw [evP_toP] at this
      have : a.den η - b.den η = 0 := this
      exact (decide_eq_true (by omega)).symm
    · cases h
end
end Mine
end

section
set_option autoImplicit false
namespace Mine

noncomputable def F0 : Value → Shared → Prop := fun _ _ => False
noncomputable def RQ (C : Cx) (W ρ : List Addr) (g : Nat → List Nat) (s : Shared) (u : MV) (st' : St) (v : Value) (s' : Shared) : Prop :=
  ∃ ρ' g', Ex W ρ g s ρ' g' s' ∧ Inv C ρ' g' st' s' ∧ VR C ρ' g' s'.toks u v

theorem addQ_den (η : Nat → Int) (a b : PE) : (addQ a b).den η = a.den η + b.den η := by
  unfold addQ; split <;> rfl
theorem subQ_den (η : Nat → Int) (a b : PE) : (subQ a b).den η = a.den η - b.den η := by
  unfold subQ; split <;> rfl
theorem negQ_den (η : Nat → Int) (a : PE) : (negQ a).den η = - a.den η := by
  unfold negQ; split <;> rfl
theorem mulQ_den (η : Nat → Int) (a b : PE) : (mulQ a b).den η = a.den η * b.den η := by
  unfold mulQ
  split
  · rfl
  · split
    · show b.den η = ((1 : Nat) : Int) * b.den η; simp
    · rfl
  · split
    · show a.den η = a.den η * ((1 : Nat) : Int); simp
    · rfl
  · rfl

section
variable {C : Cx} {W ρ ρ' : List Addr} {g g' : Nat → List Nat} {s s' : Shared} {st st' : St} {u r : MV} {v : Value} {A : Around}

theorem RQ.mk0 (I : Inv C ρ g st s) (h : VR C ρ g s.toks u v) : RQ C W ρ g s u st v s := ⟨ρ, g, Ex.refl, I, h⟩
theorem RQ.mkT (I : Inv C ρ g st s) {tk : Nat} (ht : s.toks ≤ tk) (h : VR C ρ g tk u v) : RQ C W ρ g s u st v { s with toks := tk } := ⟨ρ, g, Ex.tk ht, I.tk ht, h⟩
theorem RQ.trans (x : Ex W ρ g s ρ' g' s') {s'' : Shared} (h : RQ C W ρ' g' s' u st' v s'') : RQ C W ρ g s u st' v s'' :=
  let ⟨a, b, c, d, e⟩ := h; ⟨a, b, x.trans c, d, e⟩
theorem VR.i (p : PE) (k : Nat) (t : Tok) {z : Int} {n : Nat} (e : z = p.den C.η) (h : k = 0 ∨ z.natAbs < 2 ^ k) : VR C ρ g n (.int p k) (.int z t) := by subst e; exact ⟨t, rfl, h⟩

theorem strI (_ : Inv C ρ g st s) (l : List Nat) {t : Tok} {n : Nat} : VR C ρ g n (.str l false) (.str ⟨l.toArray⟩ t) := ⟨t, rfl, fun h => nomatch h⟩

theorem str_app (x y : List Nat) : (⟨x.toArray⟩ : Str) ++ ⟨y.toArray⟩ = ⟨(x ++ y).toArray⟩ := by
  show Str.append _ _ = _
  simp [Str.append]

theorem eqI_iff (a b : Int) : eqI a b = decide (a = b) := by
  cases a <;> cases b <;> simp [eqI, beq_eq'] <;> omega
theorem maxB_pos {k m : Nat} (hk : k ≠ 0) (hm : m ≠ 0) : maxB k m = max k m + 1 := by
  unfold maxB; split <;> simp_all
theorem maxB_zero {k m : Nat} (h : k = 0 ∨ m = 0) : maxB k m = 0 := by
  unfold maxB; split <;> simp_all
theorem bits_sum {a b : Int} {k m : Nat} (ha : k = 0 ∨ a.natAbs < 2 ^ k) (hb : m = 0 ∨ b.natAbs < 2 ^ m) {c : Int} (hc : c.natAbs ≤ a.natAbs + b.natAbs) : maxB k m = 0 ∨ c.natAbs < 2 ^ maxB k m := by
  by_cases hz : k = 0 ∨ m = 0
  · exact .inl (maxB_zero hz)
  · have hk : k ≠ 0 := fun h => hz (.inl h)
    have hm : m ≠ 0 := fun h => hz (.inr h)
    rw [maxB_pos hk hm]
    right
    have h1 := ha.resolve_left hk
    have h2 := hb.resolve_left hm
    have e1 : 2 ^ k ≤ 2 ^ max k m := Nat.pow_le_pow_right (by decide) (Nat.le_max_left _ _)
    have e2 : 2 ^ m ≤ 2 ^ max k m := Nat.pow_le_pow_right (by decide) (Nat.le_max_right _ _)
    rw [Nat.pow_succ]; omega

theorem bin_ok (I : Inv C ρ g st s) {a b : Value} {u w : MV} (ha : VR C ρ g s.toks u a) (hb : VR C ρ g s.toks w b) {op : Op} (h : binV st op u w = some (r, st')) :
    wpAny (model C.prog C.w) A (binaryOp (opA op) a b) (RQ C W ρ g s r st') F0 s := by
  cases op with
  | add =>
    simp only [binV] at h
    split at h
    · next p k q m =>
      cases h
      obtain ⟨t, rfl, hk⟩ := ha
      obtain ⟨t', rfl, hm⟩ := hb
      exact wpAny_add_int (RQ.mkT I (Nat.le_succ _) (VR.i _ _ _ (addQ_den _ _ _).symm (bits_sum hk hm (Int.natAbs_add_le _ _))))
    · next x _ y _ =>
      split at h
      · next hl =>
        cases h
        obtain ⟨t, rfl, _⟩ := ha
        obtain ⟨t', rfl, _⟩ := hb
        have hsz : x.length + y.length ≤ 100000 := Nat.le_of_ble_eq_true hl
        refine P.add_str ?_
        split
        · next h0 =>
          have : x = [] := by simpa [Str.length] using h0
          subst this
          exact RQ.mk0 I ⟨t', rfl, fun h => nomatch h⟩
        · split
          · next h0 =>
            have : y = [] := by simpa [Str.length] using h0
            subst this
            rw [List.append_nil]
            exact RQ.mk0 I ⟨t, rfl, fun h => nomatch h⟩
          · refine ⟨?_, ?_⟩
            · rw [str_app]; show (x ++ y).toArray.size ≤ 2 ^ 24; simp; omega
            · rw [str_app]; exact RQ.mkT I (Nat.le_succ _) (strI I _)
      · cases h
    · next i j =>
      split at h
      · next xs ys hx hy =>
        split at h
        · next hl =>
          cases h
          obtain ⟨a, ea, rfl⟩ := ha
          obtain ⟨b, eb, rfl⟩ := hb
          obtain ⟨vs, k, hvs, rs⟩ := I.get hx ea
          obtain ⟨us, m, hus, ru⟩ := I.get hy eb
          have hsz : xs.length + ys.length ≤ 100000 := Nat.le_of_ble_eq_true hl
          refine P.add_list hvs hus ?_ (by rw [List.size_toArray, List.size_toArray, rs.length, ru.length]; exact Nat.le_trans hsz (by decide))
          have e : vs.toArray ++ us.toArray = (vs ++ us).toArray := by simp
          rw [e]
          obtain ⟨hI, hX⟩ := I.newList (W := W) (rs.append ru)
          exact ⟨_, _, hX, hI, VR.last I _⟩
        · cases h
      · cases h
    · cases h
  | sub =>
    simp only [binV] at h
    split at h
    · next p k q m =>
      cases h
      obtain ⟨t, rfl, hk⟩ := ha
      obtain ⟨t', rfl, hm⟩ := hb
      exact P.sub_int (RQ.mkT I (Nat.le_succ _) (VR.i _ _ _ (subQ_den _ _ _).symm (bits_sum hk hm (by omega))))
    · cases h
  | mul =>
    simp only [binV] at h
    split at h
    · next p k q m =>
      split at h
      · next hl =>
        cases h
        obtain ⟨t, rfl, hk⟩ := ha
        obtain ⟨t', rfl, hm⟩ := hb
        have hk := hk.resolve_left (Nat.succ_ne_zero k)
        have hm := hm.resolve_left (Nat.succ_ne_zero m)
        have hsz : k + m ≤ 10000 := Nat.le_of_ble_eq_true hl
        refine P.mul_int (RQ.mkT I (Nat.le_succ _) (VR.i _ _ _ (mulQ_den _ _ _).symm (.inr ?_))) (IntMulOk.of_bits (Nat.le_trans (intBits_le hk) (by omega)) (Nat.le_trans (intBits_le hm) (by omega)))
        rw [Int.natAbs_mul, Nat.pow_add]
        exact Nat.mul_lt_mul'' hk hm
      · cases h
    · cases h
  | fdiv =>
    simp only [binV] at h
    split at h
    · next x _ y m =>
      split at h
      · next hl =>
        cases h
        obtain ⟨h1, h2⟩ := Bool.and_eq_true_iff.mp hl
        obtain ⟨t, rfl, _⟩ := ha
        obtain ⟨t', rfl, hm⟩ := hb
        have hm := hm.resolve_left (Nat.succ_ne_zero m)
        have h1 : m ≤ 1000 := Nat.le_of_ble_eq_true h1
        have hy : y ≠ 0 := by rw [eqI_iff] at h2; simpa using h2
        refine floordiv_int hy (RQ.mkT I (Nat.le_succ _) (VR.i _ _ _ rfl (.inl rfl))) (.inl (PyProof.noPylong_of_log2 ?_))
        have : y.natAbs.log2 < m + 1 := (Nat.log2_lt (by omega)).mpr hm
        show y.natAbs.log2 < 9000
        omega
      · cases h
    · cases h
  | mod =>
    simp only [binV] at h
    split at h
    · next x _ y m =>
      split at h
      · next hl =>
        cases h
        obtain ⟨t, rfl, _⟩ := ha
        obtain ⟨t', rfl, hm⟩ := hb
        have hm := hm.resolve_left (Nat.succ_ne_zero m)
        have hp : 0 < y := of_decide_eq_true hl
        have hy : y ≠ 0 := by omega
        refine mod_int' hy (RQ.mkT I (Nat.le_succ _) (VR.i _ _ _ rfl (.inr ?_)))
        refine Nat.lt_of_le_of_lt ?_ hm
        show (x.fmod y).natAbs ≤ y.natAbs
        have h1 := Int.fmod_nonneg_of_pos x hp
        have h2 := Int.fmod_lt_of_pos x hp
        omega
      · cases h
    · cases h
  | pow =>
    simp only [binV] at h
    split at h
    · next x _ n _ =>
      split at h
      · next hl =>
        cases h
        obtain ⟨h1, h2⟩ := Bool.and_eq_true_iff.mp hl
        obtain ⟨t, rfl, _⟩ := ha
        obtain ⟨t', rfl, _⟩ := hb
        have h1 : n ≤ 64 := Nat.le_of_ble_eq_true h1
        have hx : x = 2 := by rw [eqI_iff] at h2; simpa using h2
        subst hx
        refine pow_int_small (Int.natCast_nonneg _) (by show ((n : Nat) : Int) ≤ 1000000; omega) (by show (2 : Int).natAbs < _; decide) (RQ.mkT I (Nat.le_succ _) (VR.i _ _ _ rfl (.inr ?_)))
        show ((2 : Int) ^ n).natAbs < 2 ^ (n + 1)
        rw [Int.natAbs_pow, Nat.pow_succ]
        have : 0 < 2 ^ n := Nat.pos_of_ne_zero (by simp)
        show 2 ^ n < _
        omega
      · cases h
    · cases h
theorem neg_ok (I : Inv C ρ g st s) {p : PE} {k : Nat} (ha : VR C ρ g s.toks (.int p k) v) : wpAny (model C.prog C.w) A (unaryOp .USub v) (RQ C W ρ g s (.int (negQ p) k) st) F0 s := by
  obtain ⟨t, rfl, hk⟩ := ha
  exact P.neg_int (RQ.mkT I (Nat.le_succ _) (VR.i _ _ _ (negQ_den _ _).symm (by rw [Int.natAbs_neg]; exact hk)))
end
end Mine
end

section
set_option autoImplicit false
namespace Mine
section
variable {C : Cx} {W ρ ρ' : List Addr} {g g' : Nat → List Nat} {s s' : Shared} {st st' : St} {u w r : MV} {v a b : Value} {A : Around}

theorem place_eq (i : Int) (n : Nat) : place i n = seqIndex? i n := by
  have key : ∀ j : Int, (if i < 0 then i + n else i) = j → seqIndex? i n = if (decide (0 ≤ j) && decide (j < n)) = true then some j.toNat else none := by
    intro j e; subst e; rfl
  cases i with
  | ofNat k =>
    rw [key (k : Int) (if_neg (by simp))]
    show (match Nat.blt k n with | true => some k | false => none) = _
    cases h : Nat.blt k n with
    | true =>
      have : k < n := by simpa [Nat.blt_eq] using h
      rw [if_pos (by simp; omega)]; simp
    | false =>
      have : ¬ k < n := by intro q; rw [Nat.blt_eq.mpr q] at h; cases h
      rw [if_neg (by simp; omega)]
  | negSucc k =>
    rw [key (Int.negSucc k + n) (if_pos (by omega))]
    show (match Nat.ble (k + 1) n with | true => some (n - (k + 1)) | false => none) = _
    cases h : Nat.ble (k + 1) n with
    | true =>
      have : k + 1 ≤ n := Nat.le_of_ble_eq_true h
      rw [if_pos (by simp; omega)]; simp; omega
    | false =>
      have : ¬ k + 1 ≤ n := by intro q; rw [Nat.ble_eq.mpr q] at h; cases h
      rw [if_neg (by simp; omega)]

theorem place_lt {z : Int} {n k : Nat} (h : place z n = some k) : k < n ∧ ((0 ≤ z ∧ z.toNat = k) ∨ (z < 0 ∧ -(n : Int) ≤ z ∧ (z + n).toNat = k)) := by
  unfold place at h
  cases z with
  | ofNat j =>
    dsimp only at h
    split at h
    · next e => cases h; exact ⟨by simpa [Nat.blt_eq] using e, .inl ⟨by simp, by simp⟩⟩
    · cases h
  | negSucc j =>
    dsimp only at h
    split at h
    · next e =>
      cases h
      have := Nat.le_of_ble_eq_true e
      exact ⟨by omega, .inr ⟨by omega, by omega, by omega⟩⟩
    · cases h

theorem item_list {l : Addr} {items : Array Value} {z : Int} {t : Tok} {k : Nat} {x : Value} {E : Value → Shared → Prop} {Q : Value → Shared → Prop} (hl : s.heap.IsList l items) (hp : place z items.size = some k) (hn : items.size ≤ 100000)
    (hx : items[k]? = some x) (h : Q x s) : wpAny (model C.prog C.w) A (getItem (.ref l) (.int z t)) Q E s := by
  obtain ⟨h1, h2 | h2⟩ := place_lt hp
  · exact wpAny_getItem_list hl h2.1 (by omega) (by rw [h2.2]; exact hx) h
  · exact wpAny_getItem_list_neg hl h2.1 h2.2.1 (by omega) (by rw [h2.2.2]; exact hx) h

/-- value of a[i], of an int place -/
theorem sub_ok (I : Inv C ρ g st s) (ha : VR C ρ g s.toks u a) (hb : VR C ρ g s.toks w b) (h : subV st u w = some r) :
    (s.TypeIs a "list" ∨ s.TypeIs a "str") ∧ wpAny (model C.prog C.w) A (getItem a b) (RQ C W ρ g s r st) F0 s := by
  unfold subV at h
  split at h
  · next z k =>
    obtain ⟨t, rfl, _⟩ := hb
    have e : (PE.c z).den C.η = z := rfl
    rw [e]
    split at h
    · next l tr =>
      obtain ⟨t', rfl, _⟩ := ha
      refine ⟨.inr (typeIs_str _ _ _), ?_⟩
      split at h
      · next j hp =>
        split at h
        · next c hc =>
          split at h
          · next hl =>
            cases h
            have hl := Nat.le_of_ble_eq_true hl
            obtain ⟨h1, h2⟩ := place_lt hp
            refine P.getItem_str (c := c) ?_ ?_ ?_
            · have hlo : decide (z < -(2 ^ 63 : Int)) = false := decide_eq_false (by omega)
              have hhi : decide (z ≥ 2 ^ 63) = false := decide_eq_false (by omega)
              rw [hlo, hhi]; rfl
            · show (seqIndex? z l.toArray.size).bind _ = _
              rw [List.size_toArray, ← place_eq, hp]
              simpa using hc
            · exact RQ.mkT I (Nat.le_succ _) ⟨_, rfl, fun h => nomatch h⟩
          · cases h
        · cases h
      · cases h
    · next id =>
      obtain ⟨l, hl, rfl⟩ := ha
      split at h
      · next xs hx =>
        obtain ⟨vs, n, hvs, rs⟩ := I.get hx hl
        refine ⟨.inl hvs.isList.typeIs, ?_⟩
        split at h
        · next j hp =>
          split at h
          · next hsz =>
            have hsz := Nat.le_of_ble_eq_true hsz
            obtain ⟨y, hy, ry⟩ := rs.get h
            exact item_list hvs.isList (by rw [List.size_toArray, rs.length]; exact hp) (by rw [List.size_toArray, rs.length]; exact hsz) (by simpa using hy) (RQ.mk0 I ry)
          · cases h
        · cases h
      · cases h
    · cases h
  · cases h

theorem sub_go {value slice : Expr} {o i : Value} {T id : String} {Q E : Value → Shared → Prop} (hT : s.TypeIs o T)
    (hl : typeLookup (.type T) "__getitem__" = pure (some (.builtin id))) (hs : ∃ l, subscripted slice false o i = operate l (getItem o i)) (h : wpAny (model C.prog C.w) A (getItem o i) Q E s) :
    wpAny (model C.prog C.w) A (subscriptTail value slice o i) Q E s := by
  unfold subscriptTail
  refine wpAny_bind ?_
  rw [getitemInPython_of_ne hT.not_modules]
  refine wpAny_bind (wpAny_specialOf hT hl ?_)
  obtain ⟨l, hs⟩ := hs
  have fin : wpAny (model C.prog C.w) A (subscripted slice false o i) (fun r s₃ => wpAny (model C.prog C.w) A (letTemporaryGo value o r >>= fun _ => pure r) Q E s₃) E s := by
    rw [hs]
    exact wpAny_operating (wpAny_mono h (fun r s₃ h₃ => wpAny_bind (wpAny_letTemporaryGo (wpAny_pure h₃))) fun _ _ x => x)
  first
    | exact wpAny_pure (wpAny_bind fin)
    | exact wpAny_bind (wpAny_pure (wpAny_bind fin))
    | exact wpAny_bind fin

theorem subs_ok {value slice : Expr} (I : Inv C ρ g st s) (ha : VR C ρ g s.toks u a) (hb : VR C ρ g s.toks w b) (h : subV st u w = some r) (hs : ∃ l, subscripted slice false a b = operate l (getItem a b)) :
    wpAny (model C.prog C.w) A (subscriptTail value slice a b) (RQ C W ρ g s r st) F0 s := by
  obtain ⟨h1 | h1, h2⟩ := sub_ok (W := W) (A := A) I ha hb h
  · exact sub_go h1 slot_list_getitem.lookup hs h2
  · exact sub_go h1 F.slot_str_getitem.lookup hs h2

/-! compare -/
theorem vr_eq_int {p q : PE} {x : Bool} (h : eqPE p q = some x) : x = (p.den C.η == q.den C.η) := by
  rw [eqPE_ok C.η h]; rfl
theorem eqL_str (x y : List Nat) : eqL x y = ((⟨x.toArray⟩ : Str).cps.toList == (⟨y.toArray⟩ : Str).cps.toList) := by
  show eqM x y = (x == y)
  cases e : eqM x y with
  | true => rw [eqM_eq _ _ e]; simp
  | false =>
    have : ∀ l : List Nat, eqM l l = true := by
      intro l; induction l with
      | nil => rfl
      | cons a r ih => show (match Nat.beq a a with | true => eqM r r | false => false) = true; rw [Nat.beq_refl]; exact ih
    symm
    apply Bool.eq_false_iff.mpr
    intro q
    have : x = y := by simpa using q
    subst this
    rw [this] at e; cases e
    
theorem readsTup {l : Addr} {p q : PE} {k m n : Nat} {vs : List Value} (hl : IsT s.heap l vs.toArray n) (h : VRs C ρ g s.toks [.int p k, .int q m] vs) : Reads s.heap (.ref l) (.tuple [.int (p.den C.η), .int (q.den C.η)]) [] := by
  cases h with
  | cons h1 h =>
    cases h with
    | cons h2 h =>
      cases h with
      | nil =>
        obtain ⟨t, rfl, _⟩ := h1
        obtain ⟨t', rfl, _⟩ := h2
        exact .tuple (as := []) hl rfl rfl (.cons (as := []) (.int _ _) (.cons (as := []) (.int _ _) .nil))
theorem readsInts : ∀ {xs : List MV} {vs : List Value}, allI xs = true → VRs C ρ g s.toks xs vs → ∃ ds : List PyData, ReadsAll s.heap vs ds [] ∧ ds.length = xs.length ∧ PyData.canLayAll0 ds = true ∧ PyData.depthAll ds = 0
  | [], _, _, .nil => ⟨[], .nil, rfl, rfl, rfl⟩
  | .int p k :: xs, _, ha, .cons h r => by
    obtain ⟨t, rfl, _⟩ := h
    obtain ⟨ds, h1, h2, h3, h4⟩ := readsInts (xs := xs) ha r
    refine ⟨.int (p.den C.η) :: ds, .cons (as := []) (.int _ _) h1, by simp [h2], ?_, ?_⟩
    · show (true && _) = true; rw [h3]; rfl
    · show max 0 _ = 0; rw [h4]; rfl
  | .none :: _, _, ha, _ => nomatch ha
  | .bool _ :: _, _, ha, _ => nomatch ha
  | .str _ _ :: _, _, ha, _ => nomatch ha
  | .ref _ :: _, _, ha, _ => nomatch ha
  | .fn _ :: _, _, ha, _ => nomatch ha

theorem readsList {l : Addr} {xs : List MV} {vs : List Value} {n : Nat} (hl : IsL s.heap l vs.toArray n) (h : VRs C ρ g s.toks xs vs) (ha : allI xs = true) :
    ∃ ds : List PyData, Reads s.heap (.ref l) (.list ds) [l] ∧ ds.length = xs.length ∧ SeqAt.shaped (.list ds) = true := by
  obtain ⟨ds, h1, h2, h3, h4⟩ := readsInts ha h
  refine ⟨ds, .list hl rfl rfl h1, h2, ?_⟩
  show (PyData.canLayAll0 ds && decide (PyData.depthAll ds + 1 ≤ 64)) = true
  rw [h3, h4]; rfl

/-- what two lists' comparison leans on -/
noncomputable def EqD (s : Shared) (d : Bool) (x y : Addr) (c : Bool) : Prop :=
  (∃ da db as bs, Reads s.heap (.ref x) da as ∧ Reads s.heap (.ref y) db bs ∧ SeqAt.shaped da = true ∧ SeqAt.shaped db = true ∧ PyData.eqv da db = c) ∨
  (d = false ∧ c = false ∧ ∃ xs ys, s.heap.IsList x xs ∧ s.heap.IsList y ys ∧ (xs.size != ys.size) = true)

theorem eqO_ok (I : Inv C ρ g st s) {i j : Nat} {d c : Bool} (h : eqO st d i j = some c) {x y : Addr} (hi : ρ[i]? = some x) (hj : ρ[j]? = some y) : EqD s d x y c := by
  unfold eqO at h
  split at h
  · next xs ys hx hy =>
    obtain ⟨vs, n, hvs, rs⟩ := I.get hx hi
    obtain ⟨us, m, hus, ru⟩ := I.get hy hj
    split at h
    · cases h
      cases rs; cases ru
      obtain ⟨ds, h1, h2, h3⟩ := readsList (C := C) (ρ := ρ) (g := g) hvs .nil rfl
      obtain ⟨es, h4, h5, h6⟩ := readsList (C := C) (ρ := ρ) (g := g) hus .nil rfl
      refine .inl ⟨_, _, _, _, h1, h4, h3, h6, ?_⟩
      rw [List.length_eq_zero_iff.mp h2, List.length_eq_zero_iff.mp h5]; rfl
    · next y' ys =>
      split at h
      · next hd =>
        cases h
        cases d with
        | false =>
          refine .inr ⟨rfl, rfl, _, _, hvs.isList, hus.isList, ?_⟩
          rw [List.size_toArray, List.size_toArray, rs.length, ru.length]; rfl
        | true =>
          cases rs
          obtain ⟨ds, h1, h2, h3⟩ := readsList (C := C) (ρ := ρ) (g := g) hvs .nil rfl
          obtain ⟨es, h4, h5, h6⟩ := readsList hus ru hd
          refine .inl ⟨_, _, _, _, h1, h4, h3, h6, ?_⟩
          rw [List.length_eq_zero_iff.mp h2]
          cases es with
          | nil => cases h5
          | cons e es => rfl
      · cases h
    · next x' xs =>
      split at h
      · next hd =>
        cases h
        cases d with
        | false =>
          refine .inr ⟨rfl, rfl, _, _, hvs.isList, hus.isList, ?_⟩
          rw [List.size_toArray, List.size_toArray, rs.length, ru.length]; rfl
        | true =>
          cases ru
          obtain ⟨ds, h1, h2, h3⟩ := readsList (C := C) (ρ := ρ) (g := g) hus .nil rfl
          obtain ⟨es, h4, h5, h6⟩ := readsList hvs rs hd
          refine .inl ⟨_, _, _, _, h4, h1, h6, h3, ?_⟩
          rw [List.length_eq_zero_iff.mp h2]
          cases es with
          | nil => cases h5
          | cons e es => rfl
      · cases h
    · next a b =>
      split at h
      · next p _ q _ p' _ q' _ ha hb =>
        cases rs with
        | cons r1 r0 =>
          cases r0
          cases ru with
          | cons r2 r0 =>
            cases r0
            obtain ⟨la, ea, rfl⟩ := r1
            obtain ⟨lb, eb, rfl⟩ := r2
            obtain ⟨v1, n1, hv1, rv1⟩ := I.get ha ea
            obtain ⟨v2, n2, hv2, rv2⟩ := I.get hb eb
            have t1 := readsTup hv1 rv1
            have t2 := readsTup hv2 rv2
            refine .inl ⟨.list [_], .list [_], _, _, .list hvs rfl rfl (.cons (as := []) t1 .nil), .list hus rfl rfl (.cons (as := []) t2 .nil), rfl, rfl, ?_⟩
            show (((p.den C.η == p'.den C.η) && ((q.den C.η == q'.den C.η) && true)) && true) = c
            split at h
            · next e =>
              rw [show (q.den C.η == q'.den C.η) = c from (vr_eq_int h).symm, show (p.den C.η == p'.den C.η) = true from (vr_eq_int e).symm]
              simp
            · next e =>
              cases h
              rw [show (p.den C.η == p'.den C.η) = false from (vr_eq_int e).symm]; rfl
            · cases h
      · cases h
    · cases h
  · cases h

theorem eqA_ok (I : Inv C ρ g st s) (R : Rm A 0) {c : Bool} (h : eqA st false u w = some c) (ha : VR C ρ g s.toks u a) (hb : VR C ρ g s.toks w b) {Q E : Value → Shared → Prop} (q : Q (.bool c) s) :
    wpAny (model C.prog C.w) A (compareOp .Eq a b) Q E s := by
  have hu : A.units + 64 < cLine := by have := R.units; omega
  unfold eqA at h
  split at h
  · obtain ⟨x, ex, rfl⟩ := ha
    obtain ⟨y, ey, rfl⟩ := hb
    rcases eqO_ok I h ex ey with ⟨da, db, as, bs, h1, h2, h3, h4, h5⟩ | ⟨_, hc, xs, ys, h1, h2, h3⟩
    · exact eq_dataH h1 h2 h3 h4 hu (by rw [h5]; exact q)
    · subst hc; exact SeqAt.eq_list_lengthsAt h1 h2 h3 (by omega) q
  · unfold eqV at h
    split at h
    · obtain ⟨t, rfl, _⟩ := ha
      obtain ⟨t', rfl, _⟩ := hb
      refine P.eq_int ?_
      rw [← vr_eq_int h]; exact q
    · obtain ⟨t, rfl, _⟩ := ha
      obtain ⟨t', rfl, _⟩ := hb
      cases h
      refine P.eq_str ?_
      rw [← eqL_str]; exact q
    · cases h
theorem neA_ok (I : Inv C ρ g st s) (R : Rm A 0) {c : Bool} (h : eqA st true u w = some c) (ha : VR C ρ g s.toks u a) (hb : VR C ρ g s.toks w b) {Q E : Value → Shared → Prop} (q : Q (.bool !c) s) :
    wpAny (model C.prog C.w) A (compareOp .NotEq a b) Q E s := by
  have hu : A.units + 64 < cLine := by have := R.units; omega
  unfold eqA at h
  split at h
  · obtain ⟨x, ex, rfl⟩ := ha
    obtain ⟨y, ey, rfl⟩ := hb
    rcases eqO_ok I h ex ey with ⟨da, db, as, bs, h1, h2, h3, h4, h5⟩ | ⟨hd, _⟩
    · exact ne_dataH h1 h2 h3 h4 hu (by rw [h5]; exact q)
    · cases hd
  · unfold eqV at h
    split at h
    · obtain ⟨t, rfl, _⟩ := ha
      obtain ⟨t', rfl, _⟩ := hb
      refine P.ne_int ?_
      rw [bne, ← vr_eq_int h]; exact q
    · obtain ⟨t, rfl, _⟩ := ha
      obtain ⟨t', rfl, _⟩ := hb
      cases h
      refine P.ne_str ?_
      rw [bne, ← eqL_str]; exact q
    · cases h

theorem cmp_ok (I : Inv C ρ g st s) (R : Rm A 0) {op : Cp} {c : Bool} (h : cmpV st op u w = some c) (ha : VR C ρ g s.toks u a) (hb : VR C ρ g s.toks w b) {Q E : Value → Shared → Prop} (q : Q (.bool c) s) :
    wpAny (model C.prog C.w) A (compareOp (cpA op) a b) Q E s := by
  cases op with
  | eq => exact eqA_ok I R h ha hb q
  | ne =>
    simp only [cmpV, Option.map_eq_some_iff] at h
    obtain ⟨d, h1, rfl⟩ := h
    exact neA_ok I R h1 ha hb q
  | lt =>
    simp only [cmpV] at h
    split at h
    · next x _ y _ =>
      cases h
      obtain ⟨t, rfl, _⟩ := ha
      obtain ⟨t', rfl, _⟩ := hb
      exact P.lt_int q
    · cases h
  | gt =>
    simp only [cmpV] at h
    split at h
    · next x _ y _ =>
      cases h
      obtain ⟨t, rfl, _⟩ := ha
      obtain ⟨t', rfl, _⟩ := hb
      exact P.gt_int q
    · cases h
  | ge =>
    simp only [cmpV] at h
    split at h
    · next x _ y _ =>
      cases h
      obtain ⟨t, rfl, _⟩ := ha
      obtain ⟨t', rfl, _⟩ := hb
      exact P.ge_int q
    · cases h
end
end Mine
end

section
set_option autoImplicit false
namespace Mine

structure CxAll (C : Cx) : Prop extends CxOk C where
  tab : ∃ d, C.mg "EXACT_TOKEN_TYPES" = some (.ref d) ∧
    (∀ (s : Shared) (A : Around) (l : List Nat) (t : Tok) (b : Bool) (Q E : Value → Shared → Prop), (∀ x o, C.h₀.get? x = some o → s.heap.get? x = some o) →
      ((∃ n, tokTab l = some n) ∧ b = true ∨ tokNo l = true ∧ b = false) → Q (.bool b) { s with toks := s.toks + 1 } → wpAny (model C.prog C.w) A (compareOp .In (.str ⟨l.toArray⟩ t) (.ref d)) Q E s) ∧
    (∀ (s : Shared) (l : List Nat) (t : Tok) (n : Nat), (∀ x o, C.h₀.get? x = some o → s.heap.get? x = some o) → tokTab l = some n →
      s.TypeIs (.ref d) "dict" ∧ ∀ (A : Around) (Q E : Value → Shared → Prop), (∀ t', Q (.int n t') { s with toks := s.toks + 1 }) → wpAny (model C.prog C.w) A (getItem (.ref d) (.str ⟨l.toArray⟩ t)) Q E s)

noncomputable def OkE (C : Cx) (N : Nat) (f : X → Loc → St → Option (MV × St)) : Prop :=
  ∀ {ns : Nms} {x : X} {e : Expr}, RelE ns x e → ∀ {A : Around} {env : Env} {loc : Loc} {ρ : List Addr} {g : Nat → List Nat} {st st' : St} {s : Shared} {u : MV},
    Rm A N → env.scope.names = ns → EnvOk C env loc ρ g s → Inv C ρ g st s → f x loc st = some (u, st') → wpAny (model C.prog C.w) A (eval e env) (RQ C [] ρ g s u st') F0 s
noncomputable def TQ (C : Cx) (ρ : List Addr) (g : Nat → List Nat) (s : Shared) (b : Bool) (st' : St) (b' : Bool) (s' : Shared) : Prop :=
  b' = b ∧ ∃ ρ' g', Ex [] ρ g s ρ' g' s' ∧ Inv C ρ' g' st' s'
noncomputable def OkT (C : Cx) (N : Nat) (f : X → Loc → St → Option (Bool × St)) : Prop :=
  ∀ {ns : Nms} {x : X} {e : Expr}, RelE ns x e → ∀ {A : Around} {env : Env} {loc : Loc} {ρ : List Addr} {g : Nat → List Nat} {st st' : St} {s : Shared} {b : Bool},
    Rm A N → env.scope.names = ns → EnvOk C env loc ρ g s → Inv C ρ g st s → f x loc st = some (b, st') → wpAny (model C.prog C.w) A (isTrue e env (eval e env)) (TQ C ρ g s b st') F0 s
noncomputable def OkC (C : Cx) (N : Nat) (f : Nat → List MV → St → Option (MV × St)) : Prop :=
  ∀ {k : Nat} {us : List MV} {A : Around} {ρ : List Addr} {g : Nat → List Nat} {st st' : St} {s : Shared} {u : MV} {vs : List Value},
    Rm A N → Inv C ρ g st s → VRs C ρ g s.toks us vs → f k us st = some (u, st') → wpAny (model C.prog C.w) A (call (.ref (C.fa k)) vs) (RQ C [] ρ g s u st') F0 s
noncomputable def RQs (C : Cx) (ρ : List Addr) (g : Nat → List Nat) (s : Shared) (us : List MV) (st' : St) (vs : List Value) (s' : Shared) : Prop :=
  ∃ ρ' g', Ex [] ρ g s ρ' g' s' ∧ Inv C ρ' g' st' s' ∧ VRs C ρ' g' s'.toks us vs

theorem F0le {E : Value → Shared → Prop} : ∀ e s, F0 e s → E e s := fun _ _ h => False.elim h

theorem RelE.star {ns : Nms} {x : X} {e : Expr} (h : RelE ns x e) (rest : List Expr) (env : Env) : starEach (e :: rest) env = (false, eval e env) :: starEach rest env := by
  cases h <;> rfl

section
variable {C : Cx} {N n : Nat} {ih : Ev} {ns : Nms} {A : Around} {env : Env} {loc : Loc} {ρ : List Addr} {g : Nat → List Nat} {st st' : St} {s : Shared} {u : MV} {a b : X} {l r : Expr} {pos : Pos}

theorem es_ok {f : X → Loc → St → Option (MV × St)} (HE : OkE C N f) (R : Rm A N) (hn : env.scope.names = ns) {pos : Pos} : ∀ {xs : List X} {es : List Expr}, RelEs ns xs es → ∀ {ρ : List Addr} {g : Nat → List Nat} {st st' : St} {s : Shared} {us : List MV},
    EnvOk C env loc ρ g s → Inv C ρ g st s → esOf f xs loc st = some (us, st') → wpAny (model C.prog C.w) A (spliced (backTo pos (starEach es env))) (RQs C ρ g s us st') F0 s
  | [], _, h => by
    intro V I e
    cases h
    cases e
    exact args_nil ⟨_, _, Ex.refl, I, .nil⟩
  | x :: xs, _, h => by
    intro V I e
    cases h with
    | cons h1 h2 =>
      simp only [esOf] at e
      split at e
      · next v st1 e1 =>
        split at e
        · next vs st2 e2 =>
          cases e
          refine args_cons (wpAny_mono (HE h1 R hn V I e1) (fun a s₁ q => ?_) F0le) (h1.star _ _)
          obtain ⟨ρ₁, g₁, x₁, I₁, r₁⟩ := q
          refine wpAny_mono (es_ok HE R hn h2 (V.ex x₁) I₁ e2) (fun as s₂ q => ?_) F0le
          obtain ⟨ρ₂, g₂, x₂, I₂, r₂⟩ := q
          exact ⟨ρ₂, g₂, x₁.trans x₂, I₂, .cons (r₁.ex x₂) r₂⟩
        · cases e
      · cases e

theorem e_bin (HE : OkE C N ih.e) (ha : RelE ns a l) (hb : RelE ns b r) (R : Rm A N) (hn : env.scope.names = ns) (V : EnvOk C env loc ρ g s) (I : Inv C ρ g st s) {op : Op} (h : eStep ih n (.bin op a b) loc st = some (u, st')) :
    wpAny (model C.prog C.w) A (eval (.BinOp l (opA op) r pos) env) (RQ C [] ρ g s u st') F0 s := by
  simp only [eStep] at h
  split at h
  · next v st1 e1 =>
    split at h
    · next w st2 e2 =>
      refine wpAny_BinOp (wpAny_mono (HE ha R hn V I e1) (fun a s₁ q => ?_) F0le)
      obtain ⟨ρ₁, g₁, x₁, I₁, r₁⟩ := q
      refine wpAny_mono (HE hb R hn (V.ex x₁) I₁ e2) (fun b s₂ q => ?_) F0le
      obtain ⟨ρ₂, g₂, x₂, I₂, r₂⟩ := q
      exact wpAny_mono (bin_ok (W := []) I₂ (r₁.ex x₂) r₂ h) (fun _ _ q => q.trans (x₁.trans x₂)) F0le
    · cases h
  · cases h
theorem e_neg (HE : OkE C N ih.e) (ha : RelE ns a l) (R : Rm A N) (hn : env.scope.names = ns) (V : EnvOk C env loc ρ g s) (I : Inv C ρ g st s) (h : eStep ih n (.neg a) loc st = some (u, st')) :
    wpAny (model C.prog C.w) A (eval (.UnaryOp .USub l pos) env) (RQ C [] ρ g s u st') F0 s := by
  simp only [eStep] at h
  split at h
  · next p k st1 e1 =>
    cases h
    refine wpAny_UnaryOp (wpAny_mono (HE ha R hn V I e1) (fun a s₁ q => ?_) F0le)
    obtain ⟨ρ₁, g₁, x₁, I₁, r₁⟩ := q
    exact wpAny_mono (neg_ok (W := []) I₁ r₁) (fun _ _ q => q.trans x₁) F0le
  · cases h

/-- a comparison's value, in two guises: as value, as test -/
theorem cmp_core (HE : OkE C N ih.e) (ha : RelE ns a l) (hb : RelE ns b r) (R : Rm A N) (hn : env.scope.names = ns) (V : EnvOk C env loc ρ g s) (I : Inv C ρ g st s) {op : Cp} (h : eStep ih n (.cmp op a b) loc st = some (u, st')) :
    ∃ c, u = .bool c ∧ ∀ (Q : Value → Shared → Prop), (∀ s' ρ' g', Ex [] ρ g s ρ' g' s' → Inv C ρ' g' st' s' → Q (.bool c) s') →
      wpAny (model C.prog C.w) A (eval l env) (fun a s₁ => wpAny (model C.prog C.w) A (eval r env) (fun b s₂ => wpAny (model C.prog C.w) A (compareOp (cpA op) a b) Q F0 s₂) F0 s₁) F0 s := by
  simp only [eStep] at h
  split at h
  · next v st1 e1 =>
    split at h
    · next w st2 e2 =>
      simp only [Option.map_eq_some_iff] at h
      obtain ⟨c, h1, h2⟩ := h
      cases h2
      refine ⟨c, rfl, fun Q hQ => wpAny_mono (HE ha R hn V I e1) (fun a s₁ q => ?_) F0le⟩
      obtain ⟨ρ₁, g₁, x₁, I₁, r₁⟩ := q
      refine wpAny_mono (HE hb R hn (V.ex x₁) I₁ e2) (fun b s₂ q => ?_) F0le
      obtain ⟨ρ₂, g₂, x₂, I₂, r₂⟩ := q
      exact cmp_ok I₂ (R.le (Nat.zero_le _)) h1 (r₁.ex x₂) r₂ (hQ s₂ ρ₂ g₂ (x₁.trans x₂) I₂)
    · cases h
  · cases h

theorem count_zero {c : Nat} : ∀ l : List Nat, (match countS c l with | 0 => true | _ => false) = !decide (c ∈ l)
  | [] => rfl
  | d :: l => by
    have e : countS c (d :: l) = match Nat.beq c d with | true => countS c l + 1 | false => countS c l := rfl
    rw [e, beq_eq']
    by_cases h : c = d
    · subst h; simp
    · rw [decide_eq_false h]
      show (match countS c l with | 0 => true | _ => false) = _
      rw [count_zero l]
      simp [h]
theorem notIn_core (HE : OkE C N ih.e) (ha : RelE ns a l) (hb : RelE ns b r) (R : Rm A N) (hn : env.scope.names = ns) (V : EnvOk C env loc ρ g s) (I : Inv C ρ g st s) (h : eStep ih n (.notIn a b) loc st = some (u, st')) :
    ∃ c, u = .bool c ∧ ∀ (Q : Value → Shared → Prop), (∀ s' ρ' g', Ex [] ρ g s ρ' g' s' → Inv C ρ' g' st' s' → Q (.bool c) s') →
      wpAny (model C.prog C.w) A (eval l env) (fun a s₁ => wpAny (model C.prog C.w) A (eval r env) (fun b s₂ => wpAny (model C.prog C.w) A (compareOp .NotIn a b) Q F0 s₂) F0 s₁) F0 s := by
  simp only [eStep] at h
  split at h
  · next c _ st1 e1 =>
    split at h
    · next m _ st2 e2 =>
      cases h
      refine ⟨_, rfl, fun Q hQ => wpAny_mono (HE ha R hn V I e1) (fun a s₁ q => ?_) F0le⟩
      obtain ⟨ρ₁, g₁, x₁, I₁, r₁⟩ := q
      refine wpAny_mono (HE hb R hn (V.ex x₁) I₁ e2) (fun b s₂ q => ?_) F0le
      obtain ⟨ρ₂, g₂, x₂, I₂, r₂⟩ := q
      obtain ⟨t, rfl, _⟩ := r₁
      obtain ⟨t', rfl, _⟩ := r₂
      refine P.notIn_str ?_
      rw [StrLaws.found_one]
      have := hQ s₂ ρ₂ g₂ (x₁.trans x₂) I₂
      exact (congrArg (fun b => Q (.bool b) s₂) (count_zero (c := c) m)).mp this
    · cases h
  · cases h
theorem isN_core (HE : OkE C N ih.e) (ha : RelE ns a l) (R : Rm A N) (hn : env.scope.names = ns) (V : EnvOk C env loc ρ g s) (I : Inv C ρ g st s) {k : Nat} {p : Pos} (h : eStep ih n (.isN a) loc st = some (u, st')) :
    ∃ c, u = .bool c ∧ ∀ (Q : Value → Shared → Prop), (∀ s' ρ' g', Ex [] ρ g s ρ' g' s' → Inv C ρ' g' st' s' → Q (.bool c) s') →
      wpAny (model C.prog C.w) A (eval l env) (fun a s₁ => wpAny (model C.prog C.w) A (eval (.Constant .none k p) env) (fun b s₂ => wpAny (model C.prog C.w) A (compareOp .Is a b) Q F0 s₂) F0 s₁) F0 s := by
  simp only [eStep] at h
  split at h
  · next st1 e1 =>
    cases h
    refine ⟨_, rfl, fun Q hQ => wpAny_mono (HE ha R hn V I e1) (fun a s₁ q => ?_) F0le⟩
    obtain ⟨ρ₁, g₁, x₁, I₁, r₁⟩ := q
    cases r₁
    exact wpAny_Constant_none (is_none (hQ s₁ ρ₁ g₁ x₁ I₁))
  · next p k st1 e1 =>
    cases h
    refine ⟨_, rfl, fun Q hQ => wpAny_mono (HE ha R hn V I e1) (fun a s₁ q => ?_) F0le⟩
    obtain ⟨ρ₁, g₁, x₁, I₁, r₁⟩ := q
    obtain ⟨t, rfl, _⟩ := r₁
    exact wpAny_Constant_none (is_none (hQ s₁ ρ₁ g₁ x₁ I₁))
  · cases h
theorem inTab_core (O : CxAll C) (HE : OkE C N ih.e) (ha : RelE ns a l) (R : Rm A N) (hn : env.scope.names = ns) (V : EnvOk C env loc ρ g s) (I : Inv C ρ g st s) {p : Pos} (hg : isG ns "EXACT_TOKEN_TYPES") (h : eStep ih n (.inTab a) loc st = some (u, st')) :
    ∃ c, u = .bool c ∧ ∀ (Q : Value → Shared → Prop), (∀ s' ρ' g', Ex [] ρ g s ρ' g' s' → Inv C ρ' g' st' s' → Q (.bool c) s') →
      wpAny (model C.prog C.w) A (eval l env) (fun a s₁ => wpAny (model C.prog C.w) A (eval (.Name "EXACT_TOKEN_TYPES" p) env) (fun b s₂ => wpAny (model C.prog C.w) A (compareOp .In a b) Q F0 s₂) F0 s₁) F0 s := by
  simp only [eStep] at h
  split at h
  · next m tr st1 e1 =>
    have key : ∀ c, ((∃ n, tokTab m = some n) ∧ c = true ∨ tokNo m = true ∧ c = false) → ∀ (Q : Value → Shared → Prop), (∀ s' ρ' g', Ex [] ρ g s ρ' g' s' → Inv C ρ' g' st1 s' → Q (.bool c) s') →
        wpAny (model C.prog C.w) A (eval l env) (fun a s₁ => wpAny (model C.prog C.w) A (eval (.Name "EXACT_TOKEN_TYPES" p) env) (fun b s₂ => wpAny (model C.prog C.w) A (compareOp .In a b) Q F0 s₂) F0 s₁) F0 s := by
      intro c hc Q hQ
      refine wpAny_mono (HE ha R hn V I e1) (fun a s₁ q => ?_) F0le
      obtain ⟨ρ₁, g₁, x₁, I₁, r₁⟩ := q
      obtain ⟨t, rfl, _⟩ := r₁
      obtain ⟨d, h1, h2, _⟩ := O.tab
      exact ld_glob O.toCxOk I₁ (V.ex x₁) (by rw [hn]; exact hg) h1 (h2 s₁ A m t c Q F0 I₁.keep hc (hQ _ ρ₁ g₁ (x₁.trans (Ex.tk (Nat.le_succ _))) (I₁.tk (Nat.le_succ _)))) (by decide)
    split at h
    · next k e2 => cases h; exact ⟨_, rfl, key true (.inl ⟨⟨_, e2⟩, rfl⟩)⟩
    · split at h
      · next e3 => cases h; exact ⟨_, rfl, key false (.inr ⟨e3, rfl⟩)⟩
      · cases h
  · cases h
end
end Mine
end

section
set_option autoImplicit false
namespace Mine
section
variable {C : Cx} {W : List Addr} {N n : Nat} {ih : Ev} {ns : Nms} {A : Around} {env : Env} {loc : Loc} {ρ : List Addr} {g : Nat → List Nat} {st st' : St} {s : Shared} {u : MV} {a b lo hi : X} {l r : Expr} {pos p : Pos}

/-- a call of a builtin function of one argument -/
theorem call1 {name : Str} {id : String} (O : CxOk C) (R : Rm A N) (HE : OkE C N ih.e) (ha : RelE ns a l) (hn : env.scope.names = ns) (V : EnvOk C env loc ρ g s) (I : Inv C ρ g st s) {st1 : St} {w : MV} (h : ih.e a loc st = some (w, st1))
    (hg : isG ns name) (hb : C.mg name = none ∧ C.mb name = some (.builtin id)) (hd : (name == ("__debug__" : Str)) = false)
    (hc : ∀ {ρ₁ g₁ s₁ x}, Ex [] ρ g s ρ₁ g₁ s₁ → Inv C ρ₁ g₁ st1 s₁ → VR C ρ₁ g₁ s₁.toks w x → wpAny (model C.prog C.w) A (call (.builtin id) [x]) (RQ C [] ρ g s u st') F0 s₁) :
    wpAny (model C.prog C.w) A (eval (.Call (.Name name p) [l] [] pos) env) (RQ C [] ρ g s u st') F0 s := by
  refine Call_ (ld_boot O I V (by rw [hn]; exact hg) hb ?_ hd)
  refine callWith_builtin1 (args_cons (wpAny_mono (HE ha R hn V I h) (fun x s₁ q => args_nil ?_) F0le) (ha.star _ _)) (ha.star _ _)
  obtain ⟨ρ₁, g₁, x₁, I₁, r₁⟩ := q
  exact hc x₁ I₁ r₁

theorem e_len (O : CxOk C) (HE : OkE C N ih.e) (ha : RelE ns a l) (R : Rm A N) (hn : env.scope.names = ns) (V : EnvOk C env loc ρ g s) (I : Inv C ρ g st s) (hg : isG ns "len") (h : eStep ih n (.len a) loc st = some (u, st')) :
    wpAny (model C.prog C.w) A (eval (.Call (.Name "len" p) [l] [] pos) env) (RQ C [] ρ g s u st') F0 s := by
  simp only [eStep] at h
  split at h
  · next m tr st1 e1 =>
    split at h
    · next hl =>
      cases h
      have hl := Nat.le_of_ble_eq_true hl
      refine call1 O R HE ha hn V I e1 hg O.len (by decide) fun x₁ I₁ r₁ => ?_
      obtain ⟨t, rfl, _⟩ := r₁
      refine P.len_str (by show ¬ ((m.toArray.size : Nat) : Int) ≥ 2 ^ 63; rw [List.size_toArray]; omega) (RQ.trans x₁ (RQ.mkT I₁ (by omega) (VR.i _ _ _ (by show ((m.toArray.size : Nat) : Int) = _; rw [List.size_toArray]; rfl) (.inr ?_))))
      show ((m.toArray.size : Nat) : Int).natAbs < 2 ^ 64
      rw [List.size_toArray]; omega
    · cases h
  · next id st1 e1 =>
    split at h
    · next xs hx =>
      split at h
      · next hl =>
        cases h
        have hl := Nat.le_of_ble_eq_true hl
        refine call1 O R HE ha hn V I e1 hg O.len (by decide) fun x₁ I₁ r₁ => ?_
        obtain ⟨ad, ea, rfl⟩ := r₁
        obtain ⟨vs, k, hvs, rs⟩ := I₁.get hx ea
        refine Calls.call_len_list hvs.isList (by rw [List.size_toArray, rs.length]; omega) (RQ.trans x₁ (RQ.mkT I₁ (by omega) (VR.i _ _ _ (by rw [List.size_toArray, rs.length]; rfl) (.inr ?_))))
        rw [List.size_toArray, rs.length]; omega
      · cases h
    · cases h
  · cases h

theorem sumS_ok : ∀ {xs : List MV} {vs : List Value} {p : PE} {k : Nat}, VRs C ρ g s.toks xs vs → sumS xs = some (p, k) →
    ∃ ns : List Int, ns.length = xs.length ∧ (∀ (i : Nat) (v : Value), vs[i]? = some v → ∃ t, v = .int (ns.getD i 0) t) ∧ p.den C.η = ns.sum ∧ (p.den C.η).natAbs < 2 ^ k
  | [], _, _, _, .nil, h => by cases h; exact ⟨[], rfl, by simp, rfl, by show (0 : Int).natAbs < 2 ^ 1; decide⟩
  | .int q k :: xs, _, _, _, .cons r rs, h => by
    simp only [sumS] at h
    split at h
    · cases h
    · next k' hk =>
      simp only [Option.map_eq_some_iff] at h
      obtain ⟨⟨p', m⟩, e, h⟩ := h
      cases h
      obtain ⟨ns, h1, h2, h3, h4⟩ := sumS_ok rs e
      obtain ⟨t, rfl, hq⟩ := r
      have hq := hq.resolve_left (fun q => hk q)
      refine ⟨q.den C.η :: ns, by simp [h1], ?_, by rw [addQ_den, h3]; rfl, ?_⟩
      · intro i v e
        cases i with
        | zero => simp at e; exact ⟨t, by simp [← e]⟩
        | succ i => simpa using h2 i v (by simpa using e)
      · rw [addQ_den]
        have e1 : 2 ^ k ≤ 2 ^ max k m := Nat.pow_le_pow_right (by decide) (Nat.le_max_left _ _)
        have e2 : 2 ^ m ≤ 2 ^ max k m := Nat.pow_le_pow_right (by decide) (Nat.le_max_right _ _)
        show (q.den C.η + p'.den C.η).natAbs < 2 ^ (max k m + 1)
        rw [Nat.pow_succ]; omega
  | .none :: _, _, _, _, _, h => nomatch h
  | .bool _ :: _, _, _, _, _, h => nomatch h
  | .str _ _ :: _, _, _, _, _, h => nomatch h
  | .ref _ :: _, _, _, _, _, h => nomatch h
  | .fn _ :: _, _, _, _, _, h => nomatch h
theorem preSum_list (ns : List Int) : ∀ k, preSum (fun i => ns.getD i 0) k = (ns.take k).sum
  | 0 => by simp [preSum]
  | k + 1 => by
    show preSum _ k + ns.getD k 0 = _
    rw [preSum_list ns k]
    rcases Nat.lt_or_ge k ns.length with h | h
    · rw [← List.take_append_getElem h, List.sum_append]
      simp [List.getD, List.getElem?_eq_getElem h]
    · rw [List.take_of_length_le h, List.take_of_length_le (by omega)]
      simp [List.getD, List.getElem?_eq_none h]

theorem e_sum (O : CxOk C) (HE : OkE C N ih.e) (ha : RelE ns a l) (R : Rm A N) (hn : env.scope.names = ns) (V : EnvOk C env loc ρ g s) (I : Inv C ρ g st s) (hg : isG ns "sum") (h : eStep ih n (.sum a) loc st = some (u, st')) :
    wpAny (model C.prog C.w) A (eval (.Call (.Name "sum" p) [l] [] pos) env) (RQ C [] ρ g s u st') F0 s := by
  simp only [eStep] at h
  split at h
  · next id st1 e1 =>
    split at h
    · next xs hx =>
      simp only [Option.map_eq_some_iff] at h
      obtain ⟨⟨q, k⟩, e, h⟩ := h
      cases h
      refine call1 O R HE ha hn V I e1 hg O.sum (by decide) fun {ρ₁ g₁ s₁ x} x₁ I₁ r₁ => ?_
      obtain ⟨ad, ea, rfl⟩ := r₁
      obtain ⟨vs, m, hvs, rs⟩ := I₁.get hx ea
      obtain ⟨ns, h1, h2, h3, h4⟩ := sumS_ok rs e
      refine wpAny_with_toks (Nat.le_refl s₁.toks) (call_sum_walkG ?_)
      refine wpAny_pyIter_list hvs.isList ?_
      have ho : ∀ b o, s₁.heap.get? b = some o → (s₁.heap.push { cls := .type "list_iterator", data := .fields #[.ref ad, .int 0 0] }).get? b = some o := fun b o e => Heap.get?_push_of_some _ e
      refine ⟨_, _, _, _, _, _, fun i => ns.getD i 0, rfl, Walks.list (A := A.in1) (by rw [Around.in1]; exact R.hh) s₁.heap.objs.size ad (fun q => by subst q; exact absurd (Heap.lt_size hvs) (Nat.lt_irrefl _)) vs.toArray,
        ⟨⟨_, Heap.get?_push_size _ rfl, rfl, rfl⟩, (hvs.push _).isList⟩, ?_, ?_, ?_⟩
      · intro b hb
        show b < (s₁.heap.push _).objs.size
        rw [Heap.size_push]
        simp at hb
        rcases hb with rfl | rfl
        · exact Nat.lt_succ_self _
        · exact Nat.lt_succ_of_lt (Heap.lt_size hvs)
      · intro i v e; exact h2 i v (by simpa using e)
      · intro h' tk t' hk ht
        have hk' : ∀ b o, s₁.heap.get? b = some o → h'.get? b = some o := fun b o e => hk b o (by simp; exact fun q => absurd (Heap.lt_size e) (by rw [q]; exact Nat.lt_irrefl _)) (ho b o e)
        refine RQ.trans x₁ ⟨ρ₁, g₁, Ex.keepHeap hk' ht, I₁.heap hk' ht, VR.i _ _ _ ?_ (.inr ?_)⟩
        all_goals rw [preSum_list, List.take_of_length_le (by rw [List.size_toArray, rs.length, h1]; exact Nat.le_refl _), ← h3]
        exact h4
    · cases h
  · cases h

theorem e_sub (HE : OkE C N ih.e) (ha : RelE ns a l) (hb : RelE ns b r) (R : Rm A N) (hn : env.scope.names = ns) (V : EnvOk C env loc ρ g s) (I : Inv C ρ g st s) (hs : ∀ o v, ∃ l, subscripted r false o v = operate l (getItem o v)) (h : eStep ih n (.sub a b) loc st = some (u, st')) :
    wpAny (model C.prog C.w) A (eval (.Subscript l r pos) env) (RQ C [] ρ g s u st') F0 s := by
  simp only [eStep] at h
  split at h
  · next v st1 e1 =>
    split at h
    · next w st2 e2 =>
      simp only [Option.map_eq_some_iff] at h
      obtain ⟨q, e, h⟩ := h
      cases h
      refine Subscript_ (wpAny_mono (HE ha R hn V I e1) (fun a s₁ q => ?_) F0le)
      obtain ⟨ρ₁, g₁, x₁, I₁, r₁⟩ := q
      refine wpAny_mono (HE hb R hn (V.ex x₁) I₁ e2) (fun b s₂ q => ?_) F0le
      obtain ⟨ρ₂, g₂, x₂, I₂, r₂⟩ := q
      exact wpAny_mono (subs_ok (W := []) I₂ (r₁.ex x₂) r₂ e (hs _ _)) (fun _ _ q => q.trans (x₁.trans x₂)) F0le
    · cases h
  · cases h
theorem e_getTab (O : CxAll C) (HE : OkE C N ih.e) (hb : RelE ns b r) (R : Rm A N) (hn : env.scope.names = ns) (V : EnvOk C env loc ρ g s) (I : Inv C ρ g st s) (hg : isG ns "EXACT_TOKEN_TYPES") (hs : ∀ o v, ∃ l, subscripted r false o v = operate l (getItem o v)) (h : eStep ih n (.getTab b) loc st = some (u, st')) :
    wpAny (model C.prog C.w) A (eval (.Subscript (.Name "EXACT_TOKEN_TYPES" p) r pos) env) (RQ C [] ρ g s u st') F0 s := by
  simp only [eStep] at h
  split at h
  · next m tr st1 e1 =>
    simp only [Option.map_eq_some_iff] at h
    obtain ⟨k, e, h⟩ := h
    cases h
    obtain ⟨d, h1, _, h2⟩ := O.tab
    refine Subscript_ (ld_glob O.toCxOk I V (by rw [hn]; exact hg) h1 (wpAny_mono (HE hb R hn V I e1) (fun b s₂ q => ?_) F0le) (by decide))
    obtain ⟨ρ₂, g₂, x₂, I₂, r₂⟩ := q
    obtain ⟨t, rfl, _⟩ := r₂
    obtain ⟨hT, hq⟩ := h2 s₂ m t k I₂.keep e
    refine sub_go hT slot_dict_getitem.lookup (hs _ _) (hq _ _ _ fun t' => RQ.trans x₂ (RQ.mkT I₂ (Nat.le_succ _) (VR.i _ _ _ rfl (.inr ?_))))
    have : k < 32 := by
      unfold tokTab at e
      split at e <;> cases e <;> decide
    show ((k : Nat) : Int).natAbs < 2 ^ 5
    omega
  · cases h
end
end Mine
end

section
set_option autoImplicit false
namespace Mine
section
variable {C : Cx} {W : List Addr} {N n : Nat} {ih : Ev} {ns : Nms} {A : Around} {env : Env} {loc : Loc} {ρ : List Addr} {g : Nat → List Nat} {st st' : St} {s : Shared} {u r : MV} {v : Value} {a lo hi : X} {l x y : Expr} {pos p : Pos}

theorem clip_eq (i : Int) (n : Nat) : clip i n = clipAt n i := by
  cases i with
  | ofNat k =>
    show (match Nat.ble k n with | true => k | false => n) = _
    rw [show (Int.ofNat k) = (k : Int) from rfl, clipAt_nat]
    cases h : Nat.ble k n with
    | true => have := Nat.le_of_ble_eq_true h; show k = min k n; omega
    | false => have : ¬ k ≤ n := fun q => by rw [Nat.ble_eq.mpr q] at h; cases h
               show n = min k n; omega
  | negSucc k => rw [show Int.negSucc k = -((k + 1 : Nat) : Int) from rfl, clipAt_neg _ _ (by omega)]; rfl
theorem elim_clip (lo : Option Int) (d n : Nat) : lo.elim d (clip · n) = lo.elim d (clipAt n) := by
  cases lo with
  | none => rfl
  | some i => exact clip_eq i n

theorem picked_plain (x : Str) (L U : Option (Int × Tok)) :
    (slicePicked x L U none).filterMap (x.cps[·]?) = cut x.cps.toList ((L.map (·.1)).elim 0 (clip · x.length)) ((U.map (·.1)).elim x.length (clip · x.length)) := by
  have e : slicePicked x L U none = sliceRange (sliceBounds (L.map (·.1)) (U.map (·.1)) none x.length).1 (sliceBounds (L.map (·.1)) (U.map (·.1)) none x.length).2.1 1 := rfl
  rw [e, sliceBounds_plain, elim_clip, elim_clip]
  simp only [sliceRange_one, pick_run]
  rfl

theorem cut_len {α : Type} (l : List α) (a b : Nat) : (cut l a b).length ≤ l.length := by
  unfold cut; simp; omega

theorem slice_ok (I : Inv C ρ g st s) (ha : VR C ρ g s.toks u v) {L U : Option (Int × Tok)} {sl : Addr} (hs : s.heap.get? sl = some { cls := .type "slice", data := .fields #[partValue L, partValue U, .none] })
    (h : sliceV st u (L.map (·.1)) (U.map (·.1)) = some (r, st')) :
    (s.TypeIs v "list" ∨ s.TypeIs v "str") ∧ wpAny (model C.prog C.w) A (getItem v (.ref sl)) (RQ C W ρ g s r st') F0 s := by
  unfold sliceV at h
  split at h
  · next m tr =>
    split at h
    · next hl =>
      cases h
      have hl := Nat.le_of_ble_eq_true hl
      obtain ⟨t, rfl, _⟩ := ha
      refine ⟨.inr (typeIs_str _ _ _), wpAny_getItem_str_slice (l := L) (u := U) (st := none) ⟨_, hs, rfl, rfl⟩ rfl ?_⟩
      have e := picked_plain (⟨m.toArray⟩ : Str) L U
      have el : (⟨m.toArray⟩ : Str).length = m.length := by show m.toArray.size = _; simp
      have em : (⟨m.toArray⟩ : Str).cps.toList = m := by simp
      rw [el, em] at e
      unfold sliceMade
      split
      · next hw =>
        obtain ⟨_, hw⟩ := Bool.and_eq_true_iff.mp hw
        have hw := of_decide_eq_true hw
        have whole : ∀ {α : Type} (l : List α) (a b : Nat), b ≤ l.length → b - a = l.length → (l.drop a).take (b - a) = l := by
          intro α l a b h1 h2
          rcases Nat.eq_zero_or_pos l.length with h0 | h0
          · rw [List.length_eq_zero_iff.mp h0]; simp
          · have : a = 0 := by omega
            subst this
            rw [List.drop_zero, h2, List.take_length]
        have hb : (U.map (·.1)).elim m.length (clip · m.length) ≤ m.length := by
          cases U.map (·.1) with
          | none => exact Nat.le_refl _
          | some i =>
            show clip i m.length ≤ _
            unfold clip
            split
            · split
              · next q => exact Nat.le_of_ble_eq_true q
              · exact Nat.le_refl _
            · omega
        have hc : (slicePicked (⟨m.toArray⟩ : Str) L U none).length = (U.map (·.1)).elim m.length (clip · m.length) - (L.map (·.1)).elim 0 (clip · m.length) := by
          have e : slicePicked (⟨m.toArray⟩ : Str) L U none = sliceRange (sliceBounds (L.map (·.1)) (U.map (·.1)) none (⟨m.toArray⟩ : Str).length).1 (sliceBounds (L.map (·.1)) (U.map (·.1)) none (⟨m.toArray⟩ : Str).length).2.1 1 := rfl
          rw [e, sliceBounds_plain, el, elim_clip, elim_clip]
          simp [sliceRange_one]
        rw [el, hc] at hw
        refine RQ.mk0 I ⟨t, ?_, fun h => nomatch h⟩
        show _ = Value.str ⟨(cut m _ _).toArray⟩ t
        unfold cut
        rw [whole m _ _ hb hw]
      · rw [e]
        refine ⟨?_, RQ.mkT I (Nat.le_succ _) (strI I _)⟩
        show (cut m _ _).toArray.size ≤ 2 ^ 24
        rw [List.size_toArray]
        exact Nat.le_trans (cut_len _ _ _) (Nat.le_trans hl (by decide))
    · cases h
  · next id =>
    split at h
    · next xs hx =>
      split at h
      · next hl =>
        cases h
        have hl := Nat.le_of_ble_eq_true hl
        obtain ⟨ad, ea, rfl⟩ := ha
        obtain ⟨vs, k, hvs, rs⟩ := I.get hx ea
        refine ⟨.inl hvs.isList.typeIs, ?_⟩
        have part : ∀ o : Option (Int × Tok), IsPart (partValue o) (o.map (·.1)) := by
          intro o; cases o with
          | none => exact .none
          | some q => exact .int q.1 q.2
        refine wpAny_getItem_list_slice hvs.isList ⟨_, hs, rfl, rfl⟩ (part L) (part U) .none (by simp) ?_ (by rw [List.size_toArray, rs.length]; exact Nat.le_trans hl (by decide))
        rw [slicePick_plain]
        have es : vs.toArray.size = xs.length := by rw [List.size_toArray, rs.length]
        rw [es, ← elim_clip, ← elim_clip]
        obtain ⟨hI, hX⟩ := I.newList (W := W) ((rs.drop ((L.map (·.1)).elim 0 (clip · xs.length))).take ((U.map (·.1)).elim xs.length (clip · xs.length) - (L.map (·.1)).elim 0 (clip · xs.length)))
        exact ⟨_, _, hX, hI, VR.last I _⟩
      · cases h
    · cases h
  · cases h

theorem rev_ok (I : Inv C ρ g st s) (ha : VR C ρ g s.toks u v) {sl : Addr} {t₁ : Tok} (hs : s.heap.get? sl = some { cls := .type "slice", data := .fields #[.none, .none, .int (-1) t₁] })
    (h : revV st u = some (r, st')) :
    (s.TypeIs v "list" ∨ s.TypeIs v "str") ∧ wpAny (model C.prog C.w) A (getItem v (.ref sl)) (RQ C W ρ g s r st') F0 s := by
  unfold revV at h
  split at h
  · next m tr =>
    split at h
    · next hl =>
      cases h
      have hl := Nat.le_of_ble_eq_true hl
      obtain ⟨t, rfl, _⟩ := ha
      refine ⟨.inr (typeIs_str _ _ _), wpAny_getItem_str_slice (l := none) (u := none) (st := some (-1, t₁)) ⟨_, hs, rfl, rfl⟩ rfl ?_⟩
      unfold sliceMade
      rw [if_neg (by show ¬ ((((-1 : Int) == 1) && _) = true); rw [show ((-1 : Int) == 1) = false from rfl, Bool.false_and]; exact Bool.false_ne_true)]
      have e : (slicePicked (⟨m.toArray⟩ : Str) none none (some (-1, t₁))).filterMap ((⟨m.toArray⟩ : Str).cps[·]?) = m.reverse := by
        show (Builtin.Str.strSliceIndices none none (-1) m.toArray.size).filterMap (m.toArray[·]?) = _
        rw [picked_rev, krv_range, List.filterMap_reverse, krv_all]
      rw [e]
      refine ⟨?_, RQ.mkT I (Nat.le_succ _) (strI I _)⟩
      show m.reverse.toArray.size ≤ 2 ^ 24
      rw [List.size_toArray, List.length_reverse]
      exact Nat.le_trans hl (by decide)
    · cases h
  · next id =>
    split at h
    · next xs hx =>
      split at h
      · next hl =>
        cases h
        have hl := Nat.le_of_ble_eq_true hl
        obtain ⟨ad, ea, rfl⟩ := ha
        obtain ⟨vs, k, hvs, rs⟩ := I.get hx ea
        refine ⟨.inl hvs.isList.typeIs, ?_⟩
        refine wpAny_getItem_list_slice hvs.isList ⟨_, hs, rfl, rfl⟩ .none .none (.int (-1) t₁) (by simp) ?_ (by rw [List.size_toArray, rs.length]; exact Nat.le_trans hl (by decide))
        rw [krv_pick]
        obtain ⟨hI, hX⟩ := I.newList (W := W) rs.reverse
        exact ⟨_, _, hX, hI, VR.last I _⟩
      · cases h
    · cases h
  · cases h

theorem cOf_val {w : MV} {z : Int} {b : Value} (hc : cOf w = some z) (hb : VR C ρ g s.toks w b) : ∃ t, b = .int z t := by
  unfold cOf at hc
  split at hc
  · cases hc
    obtain ⟨t, rfl, _⟩ := hb
    exact ⟨t, rfl⟩
  · cases hc

theorem slice_tail (I : Inv C ρ g st s) (ha : VR C ρ g s.toks u v) {lower upper : Option Expr} {L U : Option (Int × Tok)} 
    (h : sliceV st u (L.map (·.1)) (U.map (·.1)) = some (r, st')) :
    wpAny (model C.prog C.w) A (subscriptTail l (.Slice lower upper none p) v (.ref s.heap.objs.size)) (RQ C [] ρ g s r st') F0 { s with heap := s.heap.push { cls := .type "slice", data := .fields #[partValue L, partValue U, .none] } } := by
  have hI := I.heap (h' := s.heap.push { cls := .type "slice", data := .fields #[partValue L, partValue U, .none] }) (pushed _ _) (Nat.le_refl _)
  have hX : Ex [] ρ g s ρ g { s with heap := s.heap.push { cls := .type "slice", data := .fields #[partValue L, partValue U, .none] } } := Ex.keepHeap (tk := s.toks) (pushed _ _) (Nat.le_refl _)
  obtain ⟨h1 | h1, h2⟩ := slice_ok (W := []) (A := A) hI (ha.ex hX) (Heap.get?_push_size _ rfl) h
  · exact sub_go h1 slot_list_getitem.lookup ⟨_, rfl⟩ (wpAny_mono h2 (fun _ _ q => q.trans hX) F0le)
  · exact sub_go h1 F.slot_str_getitem.lookup ⟨_, rfl⟩ (wpAny_mono h2 (fun _ _ q => q.trans hX) F0le)

theorem e_slL (HE : OkE C N ih.e) (ha : RelE ns a l) (hb : RelE ns lo x) (R : Rm A N) (hn : env.scope.names = ns) (V : EnvOk C env loc ρ g s) (I : Inv C ρ g st s) (h : eStep ih n (.slL a lo) loc st = some (u, st')) :
    wpAny (model C.prog C.w) A (eval (.Subscript l (.Slice (some x) none none p) pos) env) (RQ C [] ρ g s u st') F0 s := by
  simp only [eStep] at h
  split at h
  · next v st1 e1 =>
    split at h
    · next w st2 e2 =>
      split at h
      · next z hz =>
        refine Subscript_ (wpAny_mono (HE ha R hn V I e1) (fun a s₁ q => ?_) F0le)
        obtain ⟨ρ₁, g₁, x₁, I₁, r₁⟩ := q
        refine wpAny_Slice (wpAny_mono (HE hb R hn (V.ex x₁) I₁ e2) (fun b s₂ q => ?_) F0le)
        obtain ⟨ρ₂, g₂, x₂, I₂, r₂⟩ := q
        obtain ⟨t, rfl⟩ := cOf_val hz r₂
        refine wpAny_pure (wpAny_pure ?_)
        exact wpAny_mono (slice_tail (L := some (z, t)) (U := none) I₂ (r₁.ex x₂) h) (fun _ _ q => q.trans (x₁.trans x₂)) F0le
      · cases h
    · cases h
  · cases h
theorem e_slH (HE : OkE C N ih.e) (ha : RelE ns a l) (hb : RelE ns hi x) (R : Rm A N) (hn : env.scope.names = ns) (V : EnvOk C env loc ρ g s) (I : Inv C ρ g st s) (h : eStep ih n (.slH a hi) loc st = some (u, st')) :
    wpAny (model C.prog C.w) A (eval (.Subscript l (.Slice none (some x) none p) pos) env) (RQ C [] ρ g s u st') F0 s := by
  simp only [eStep] at h
  split at h
  · next v st1 e1 =>
    split at h
    · next w st2 e2 =>
      split at h
      · next z hz =>
        refine Subscript_ (wpAny_mono (HE ha R hn V I e1) (fun a s₁ q => ?_) F0le)
        obtain ⟨ρ₁, g₁, x₁, I₁, r₁⟩ := q
        refine wpAny_Slice (wpAny_pure (wpAny_mono (HE hb R hn (V.ex x₁) I₁ e2) (fun b s₂ q => ?_) F0le))
        obtain ⟨ρ₂, g₂, x₂, I₂, r₂⟩ := q
        obtain ⟨t, rfl⟩ := cOf_val hz r₂
        refine wpAny_pure ?_
        exact wpAny_mono (slice_tail (L := none) (U := some (z, t)) I₂ (r₁.ex x₂) h) (fun _ _ q => q.trans (x₁.trans x₂)) F0le
      · cases h
    · cases h
  · cases h
theorem e_slB (HE : OkE C N ih.e) (ha : RelE ns a l) (hb : RelE ns lo x) (hb' : RelE ns hi y) (R : Rm A N) (hn : env.scope.names = ns) (V : EnvOk C env loc ρ g s) (I : Inv C ρ g st s) (h : eStep ih n (.slB a lo hi) loc st = some (u, st')) :
    wpAny (model C.prog C.w) A (eval (.Subscript l (.Slice (some x) (some y) none p) pos) env) (RQ C [] ρ g s u st') F0 s := by
  simp only [eStep] at h
  split at h
  · next v st1 e1 =>
    split at h
    · next w st2 e2 =>
      split at h
      · next w' st3 e3 =>
        split at h
        · next z y hz hy =>
          refine Subscript_ (wpAny_mono (HE ha R hn V I e1) (fun a s₁ q => ?_) F0le)
          obtain ⟨ρ₁, g₁, x₁, I₁, r₁⟩ := q
          refine wpAny_Slice (wpAny_mono (HE hb R hn (V.ex x₁) I₁ e2) (fun b s₂ q => ?_) F0le)
          obtain ⟨ρ₂, g₂, x₂, I₂, r₂⟩ := q
          obtain ⟨t, rfl⟩ := cOf_val hz r₂
          refine wpAny_mono (HE hb' R hn ((V.ex x₁).ex x₂) I₂ e3) (fun b s₃ q => ?_) F0le
          obtain ⟨ρ₃, g₃, x₃, I₃, r₃⟩ := q
          obtain ⟨t', rfl⟩ := cOf_val hy r₃
          refine wpAny_pure ?_
          exact wpAny_mono (slice_tail (L := some (z, t)) (U := some (y, t')) I₃ ((r₁.ex x₂).ex x₃) h) (fun _ _ q => q.trans ((x₁.trans x₂).trans x₃)) F0le
        · cases h
      · cases h
    · cases h
  · cases h
theorem e_slA (HE : OkE C N ih.e) (ha : RelE ns a l) (R : Rm A N) (hn : env.scope.names = ns) (V : EnvOk C env loc ρ g s) (I : Inv C ρ g st s) {k : Nat} {p1 p2 : Pos} (h : eStep ih n (.slA a) loc st = some (u, st')) :
    wpAny (model C.prog C.w) A (eval (.Subscript l (.Slice none none (some (.UnaryOp .USub (.Constant (.int 1) k p1) p2)) p) pos) env) (RQ C [] ρ g s u st') F0 s := by
  simp only [eStep] at h
  split at h
  · next v st1 e1 =>
    refine Subscript_ (wpAny_mono (HE ha R hn V I e1) (fun a s₁ q => ?_) F0le)
    obtain ⟨ρ₁, g₁, x₁, I₁, r₁⟩ := q
    refine wpAny_Slice (wpAny_pure (wpAny_pure (wpAny_UnaryOp (wpAny_Constant_int (P.neg_int ?_)))))
    have I₂ := I₁.tk (tk := s₁.toks + 1 + 1) (by omega)
    have x₂ : Ex [] ρ₁ g₁ s₁ ρ₁ g₁ { s₁ with toks := s₁.toks + 1 + 1 } := Ex.tk (by omega)
    have I₃ := I₂.heap (h' := s₁.heap.push { cls := .type "slice", data := .fields #[.none, .none, .int (-1) (s₁.toks + 1)] }) (tk := s₁.toks + 1 + 1) (pushed _ _) (Nat.le_refl _)
    have x₃ : Ex [] ρ₁ g₁ { s₁ with toks := s₁.toks + 1 + 1 } ρ₁ g₁ { s₁ with heap := s₁.heap.push { cls := .type "slice", data := .fields #[.none, .none, .int (-1) (s₁.toks + 1)] }, toks := s₁.toks + 1 + 1 } := Ex.keepHeap (s := { s₁ with toks := s₁.toks + 1 + 1 }) (pushed _ _) (Nat.le_refl _)
    obtain ⟨h1 | h1, h2⟩ := rev_ok (W := []) (A := A) I₃ ((r₁.ex x₂).ex x₃) (Heap.get?_push_size _ rfl) h
    · exact sub_go h1 slot_list_getitem.lookup ⟨_, rfl⟩ (wpAny_mono h2 (fun _ _ q => q.trans ((x₁.trans x₂).trans x₃)) F0le)
    · exact sub_go h1 F.slot_str_getitem.lookup ⟨_, rfl⟩ (wpAny_mono h2 (fun _ _ q => q.trans ((x₁.trans x₂).trans x₃)) F0le)
  · cases h
end
end Mine
end

section
set_option autoImplicit false
namespace Mine

noncomputable def FlR (C : Cx) (ρ : List Addr) (g : Nat → List Nat) (n : Nat) : Fl → Flow → Prop
  | .next, F => F = .next
  | .ret u, F => ∃ v, F = .ret v ∧ VR C ρ g n u v
noncomputable def SQ (C : Cx) (env : Env) (ρ : List Addr) (g : Nat → List Nat) (s : Shared) (fl : Fl) (loc' : Loc) (st' : St) (F : Flow) (s' : Shared) : Prop :=
  ∃ ρ' g', Ex (FP env) ρ g s ρ' g' s' ∧ Inv C ρ' g' st' s' ∧ EnvOk C env loc' ρ' g' s' ∧ FlR C ρ' g' s'.toks fl F
noncomputable def Has (env : Env) : Prop := ∀ x, env.kindOf x = some .cell → ∃ c, env.cells.lookup x = some c
noncomputable def OkS (C : Cx) (N : Nat) (f : XS → Loc → St → Option (Fl × Loc × St)) : Prop :=
  ∀ {ns : Nms} {x : XS} {e : Stmt}, RelS ns x e → ∀ {A : Around} {env : Env} {loc loc' : Loc} {ρ : List Addr} {g : Nat → List Nat} {st st' : St} {s : Shared} {fl : Fl},
    Rm A N → env.scope.names = ns → Has env → EnvOk C env loc ρ g s → Inv C ρ g st s → f x loc st = some (fl, loc', st') → wpAny (model C.prog C.w) A (exec e env) (SQ C env ρ g s fl loc' st') F0 s

noncomputable def FnOk (C : Cx) (k : Nat) (f : Fn) : Prop :=
  ∃ name params body scope pm cd doc o, C.h₀.get? (C.fa k) = some o ∧ o.data = .func (Calls.docDef name params body scope pm cd doc) ∧ C.h₀.CodeRec cd name ∧
    scope.isCoroutine = false ∧ scope.isGenerator = false ∧ scope.kind = .function ∧
    (∀ vs : List Value, vs.length = f.params.length → bindArgs (Calls.docDef name params body scope pm cd doc) ⟨vs, []⟩ = pure ((f.params.map nmS).zip vs)) ∧
    (∀ i ∈ f.params, i < NV ∧ isLC scope.names (nmS i)) ∧ f.params.Nodup ∧ ((cellsFrom 0 scope.names []).map (·.1)).Nodup ∧ RelSs scope.names f.body body

section
variable {C : Cx} {W W' : List Addr} {N n : Nat} {ih : Ev} {ns : Nms} {A : Around} {env : Env} {loc loc' : Loc} {ρ ρ' ρ'' : List Addr} {g g' g'' : Nat → List Nat} {st st' : St} {s s' s'' : Shared} {u : MV}

theorem cellsFrom_has {y : Str} : ∀ (names : List (Str × NameKind)) (n : Nat) (acc : List (Str × Addr)), ((y, .cell) ∈ names ∨ y ∈ acc.map (·.1)) → y ∈ (cellsFrom n names acc).map (·.1)
  | [], _, _, h => by
    rcases h with h | h
    · cases h
    · exact h
  | (name, kind) :: r, n, acc, h => by
    unfold cellsFrom
    split
    · next hk =>
      refine cellsFrom_has r _ _ ?_
      rcases h with h | h
      · rcases List.mem_cons.mp h with h | h
        · cases h; right; simp
        · exact .inl h
      · right; simp [h]
    · next hk =>
      refine cellsFrom_has r _ _ ?_
      rcases h with h | h
      · rcases List.mem_cons.mp h with h | h
        · cases h; exact absurd rfl hk
        · exact .inl h
      · exact .inr h
theorem lookup_of_fst : ∀ {l : List (Str × Addr)} {y : Str}, y ∈ l.map (·.1) → ∃ c, l.lookup y = some c
  | (k, c) :: r, y, h => by
    rw [List.lookup_cons]
    cases hb : y == k with
    | true => exact ⟨c, rfl⟩
    | false =>
      rcases List.mem_cons.mp h with h | h
      · rw [show y = k from h] at hb; simp at hb
      · exact lookup_of_fst h

theorem bindL_not {kd : Str → Option NameKind} {y : Str} : ∀ (b : List (Str × Value)) (m : Str → Option Value), y ∉ b.map (·.1) → bindL kd b m y = m y
  | [], _, _ => rfl
  | (n, v) :: r, m, h => by
    unfold bindL
    rw [bindL_not r _ fun q => h (List.mem_cons_of_mem _ q)]
    split
    · exact if_neg fun q => h (by rw [q]; exact List.mem_cons_self)
    · rfl
theorem bindC_not {kd : Str → Option NameKind} {y : Str} : ∀ (b : List (Str × Value)) (m : Str → Option Value), y ∉ b.map (·.1) → bindC kd b m y = m y
  | [], _, _ => rfl
  | (n, v) :: r, m, h => by
    unfold bindC
    rw [bindC_not r _ fun q => h (List.mem_cons_of_mem _ q)]
    split
    · rfl
    · exact if_neg fun q => h (by rw [q]; exact List.mem_cons_self)

theorem zip_fst_sub : ∀ (P : List Nat) (vs : List Value) (y : Str), y ∈ ((P.map nmS).zip vs).map (·.1) → ∃ i ∈ P, y = nmS i
  | [], _, _, h => by simp at h
  | i :: P, [], _, h => by simp at h
  | i :: P, v :: vs, y, h => by
    rcases List.mem_cons.mp (show y ∈ nmS i :: ((P.map nmS).zip vs).map (·.1) from h) with h | h
    · exact ⟨i, List.mem_cons_self, h⟩
    · obtain ⟨j, hj, e⟩ := zip_fst_sub P vs y h; exact ⟨j, List.mem_cons_of_mem _ hj, e⟩

theorem binds_get {kd : Str → Option NameKind} {n : Nat} : ∀ {P : List Nat} {us : List MV} {vs : List Value}, VRs C ρ g n us vs → P.Nodup → (∀ i ∈ P, i < NV) → ∀ {i : Nat} {u : MV}, i < NV → look i (zipL P us) = some u →
    ∃ v, VR C ρ g n u v ∧ (∀ m, kd (nmS i) = some .local → bindL kd ((P.map nmS).zip vs) m (nmS i) = some v) ∧ (∀ m, kd (nmS i) ≠ some .local → bindC kd ((P.map nmS).zip vs) m (nmS i) = some v)
  | [], us, _, h, _, _ => by intro hi e; cases us <;> cases e
  | j :: P, _, _, .nil, _, _ => by intro hi e; cases e
  | j :: P, _, _, .cons (a := u0) (v := v0) (as := us) (vs := vs) h hs, hn, hl => by
    intro hi e
    rename_i i u
    have e : (match Nat.beq j i with | true => some u0 | false => look i (zipL P us)) = some u := e
    rw [beq_eq'] at e
    have hn' := List.nodup_cons.mp hn
    by_cases q : j = i
    · subst q
      rw [decide_eq_true rfl] at e
      cases e
      have hno : nmS j ∉ ((P.map nmS).zip vs).map (·.1) := fun q => by
        obtain ⟨i, hi', e⟩ := zip_fst_sub P vs _ q
        exact hn'.1 (by rw [nm_inj j hi i (hl i (List.mem_cons_of_mem _ hi')) e]; exact hi')
      refine ⟨v0, h, fun m hk => ?_, fun m hk => ?_⟩
      · show bindL kd ((nmS j, v0) :: ((P.map nmS).zip vs)) m (nmS j) = _
        unfold bindL
        rw [bindL_not _ _ hno, if_pos hk]; exact if_pos rfl
      · show bindC kd ((nmS j, v0) :: ((P.map nmS).zip vs)) m (nmS j) = _
        unfold bindC
        rw [bindC_not _ _ hno, if_neg hk]; exact if_pos rfl
    · rw [decide_eq_false q] at e
      obtain ⟨v, h1, h2, h3⟩ := binds_get (kd := kd) hs hn'.2 (fun i hi => hl i (List.mem_cons_of_mem _ hi)) hi e
      exact ⟨v, h1, fun m hk => h2 _ hk, fun m hk => h3 _ hk⟩

theorem Ex.transW (x : Ex W ρ g s ρ' g' s') (y : Ex W' ρ' g' s' ρ'' g'' s'') (hw : ∀ b ∈ W', s.heap.get? b = none) : Ex W ρ g s ρ'' g'' s'' := by
  refine (x.mono (W' := W ++ W') fun b h => List.mem_append_left _ h).trans (y.mono (W' := W ++ W') fun b h => List.mem_append_right _ h) |> fun z => ⟨z.pre, z.fresh, fun b o hb hb' e => z.heap b o hb (fun q => ?_) e, z.live, z.g, z.toks, z.gens, z.bare, z.os⟩
  rcases List.mem_append.mp q with q | q
  · exact hb' q
  · rw [hw b q] at e; cases e

theorem ss_ok {f : XS → Loc → St → Option (Fl × Loc × St)} (HS : OkS C N f) (R : Rm A N) (hn : env.scope.names = ns) (hh : Has env) : ∀ {xs : List XS} {es : List Stmt}, RelSs ns xs es →
    ∀ {loc loc' : Loc} {ρ : List Addr} {g : Nat → List Nat} {st st' : St} {s : Shared} {fl : Fl}, EnvOk C env loc ρ g s → Inv C ρ g st s → ssOf f xs loc st = some (fl, loc', st') →
      wpAny (model C.prog C.w) A (execs es env) (SQ C env ρ g s fl loc' st') F0 s
  | [], _, h => by
    intro V I e
    cases h; cases e
    exact wpAny_execs_nil ⟨_, _, Ex.refl, I, V, rfl⟩
  | x :: xs, _, h => by
    intro V I e
    cases h with
    | cons h1 h2 =>
      simp only [ssOf] at e
      split at e
      · next loc1 st1 e1 =>
        refine wpAny_execs_cons (wpAny_mono (HS h1 R hn hh V I e1) (fun F s₁ q => ?_) F0le)
        obtain ⟨ρ₁, g₁, x₁, I₁, V₁, r₁⟩ := q
        cases r₁
        refine wpAny_mono (ss_ok HS R hn hh h2 V₁ I₁ e) (fun F s₂ q => ?_) F0le
        obtain ⟨ρ₂, g₂, x₂, I₂, V₂, r₂⟩ := q
        exact ⟨ρ₂, g₂, x₁.trans x₂, I₂, V₂, r₂⟩
      · next v loc1 st1 e1 =>
        cases e
        refine wpAny_execs_cons (wpAny_mono (HS h1 R hn hh V I e1) (fun F s₁ q => ?_) F0le)
        obtain ⟨ρ₁, g₁, x₁, I₁, V₁, w, rfl, r₁⟩ := q
        exact ⟨ρ₁, g₁, x₁, I₁, V₁, w, rfl, r₁⟩
      · cases e

theorem Rm.deeper {A : Around} (R : Rm A (n + 1)) (env : Env) : Rm (A.deeper env) n := by
  obtain ⟨h1, h2, h3⟩ := R
  refine ⟨h1, ?_, ?_⟩
  · show A.depth + 1 + n < recursionLimit; omega
  · show A.units + 3 + 4 * n + 100 < cLine; omega

/-- the frame of a call -/
theorem EnvOk.call {name : Str} {scope : Scope} {cd : Value} {P : List Nat} {us : List MV} {vs : List Value} {a : Addr} {h₁ : Heap} {tk : Nat} (I : Inv C ρ g st s) (hk : scope.kind = .function)
    (hp : ∀ i ∈ P, i < NV ∧ isLC scope.names (nmS i)) (hnd : P.Nodup) (hcn : ((cellsFrom 0 scope.names []).map (·.1)).Nodup) (hv : VRs C ρ g s.toks us vs)
    (F : Fr s.heap s.heap.objs.size h₁ (bindL (envOfC name scope s.heap.objs.size a cd).kindOf ((P.map nmS).zip vs) fun _ => none))
    (X : Cl s.heap.objs.size (cellsFrom (s.heap.objs.size + 1) scope.names []) h₁ (bindC (envOfC name scope s.heap.objs.size a cd).kindOf ((P.map nmS).zip vs) fun _ => none)) (ht : s.toks ≤ tk) :
    EnvOk C (envOfC name scope s.heap.objs.size a cd) (zipL P us) ρ g { s with heap := h₁, toks := tk } ∧ Has (envOfC name scope s.heap.objs.size a cd) ∧ ∀ b ∈ FP (envOfC name scope s.heap.objs.size a cd), s.heap.get? b = none := by
  have hcn' : ((cellsFrom (s.heap.objs.size + 1) scope.names []).map (·.1)).Nodup := by rw [cellsFrom_names _ _ 0 [] [] rfl]; exact hcn
  have hfresh : ∀ b ∈ FP (envOfC name scope s.heap.objs.size a cd), s.heap.get? b = none := by
    intro b hb
    have : s.heap.objs.size ≤ b := by
      rcases List.mem_cons.mp hb with rfl | hb
      · exact Nat.le_refl _
      · obtain ⟨p, hp, rfl⟩ := List.mem_map.mp hb
        exact Nat.le_of_lt (X.above p.1 p.2 hp)
    cases e : s.heap.get? b with
    | none => rfl
    | some o => exact absurd (Heap.lt_size e) (Nat.not_lt.mpr this)
  have has : Has (envOfC name scope s.heap.objs.size a cd) := fun x hx => lookup_of_fst (cellsFrom_has _ _ _ (.inl (mem_of_lookup hx)))
  refine ⟨⟨hk, rfl, rfl, has, ⟨_, F.ns⟩, fun x c hc => ⟨_, X.cell x c (lookup_of_mem_nodup hcn' hc)⟩, fun x y c hx hy => name_of_addr X.apart hx hy, fun x c hc => Nat.ne_of_gt (X.above x c hc), fun b hb => ⟨fun q => ?_, ?_⟩, fun i u hi hl hc => ?_⟩, has, hfresh⟩
  · obtain ⟨o, e⟩ := I.live b q; rw [hfresh b hb] at e; cases e
  · cases e : C.h₀.get? b with
    | none => rfl
    | some o => have := I.keep b o e; rw [hfresh b hb] at this; cases this
  · obtain ⟨v, h1, h2, h3⟩ := binds_get (kd := (envOfC name scope s.heap.objs.size a cd).kindOf) hv hnd (fun i h => (hp i h).1) hi hl
    refine ⟨v, h1.ex (Ex.keepHeap (W := []) F.keep ht), ?_⟩
    rcases hc with hc | hc
    · exact .inl ⟨hc, _, F.ns, h2 _ hc⟩
    · obtain ⟨c, e⟩ := has _ hc
      refine .inr ⟨.inl hc, c, e, ?_⟩
      have := X.cell _ _ e
      rw [h3 _ (by rw [show (envOfC name scope s.heap.objs.size a cd).kindOf (nmS i) = some .cell from hc]; decide)] at this
      exact this

theorem call_toks {prog : Program} {w : World} {R : Result → Shared → Prop} {a : Addr} {o : Obj} {fd : FuncData} {body : List Stmt} {vals : List Value} {binds : List (Str × Value)}
    (hroom : A.depth < recursionLimit) (ho : s.heap.get? a = some o) (hdata : o.data = .func fd) (hlim : s.heap.NoLimit) (hcd : s.heap.CodeRec fd.code fd.qualname)
    (hbody : fd.body = .stmts body) (hbind : bindArgs fd ⟨vals, []⟩ = pure binds) (hclo : fd.closure = [])
    (hkind : ∀ x ∈ binds, fd.scope.names.lookup x.1 = some .local ∨ (fd.scope.names.lookup x.1 = some .cell ∧ ((cellsFrom (s.heap.objs.size + 1) fd.scope.names []).lookup x.1).isSome = true))
    (h : ∀ s₁, s.toks ≤ s₁.toks → InCallC s (callEnvC fd s.heap.objs.size a).locals (bindL (callEnvC fd s.heap.objs.size a).kindOf binds fun _ => none) (callEnvC fd s.heap.objs.size a).cells
        (bindC (callEnvC fd s.heap.objs.size a).kindOf binds fun _ => none) s₁ →
      wpAny (model prog w) (A.deeper (callEnvC fd s.heap.objs.size a)) (execs body (callEnvC fd s.heap.objs.size a)) (fun f s' => R (.ok (.ret (match f with | .ret v => v | _ => .none))) s')
        (fun e s' => wpAny (model prog w) (A.deeper (callEnvC fd s.heap.objs.size a)) (leaving (callEnvC fd s.heap.objs.size a) e) (fun _ s'' => R (.error e) s'') (fun e' s'' => R (.error e') s'') s') s₁)
    (hco : fd.scope.isCoroutine = false) (hgen : fd.scope.isGenerator = false) (hk : fd.scope.kind = .function) :
    codeAny (model prog w) A (.call (.ref a) ⟨vals, []⟩) R s := by
  refine codeAny_call_function hroom ho hdata hco hgen hbody hcd ?_
  rw [hbind, hclo]
  refine wpAny_pure (wpAny_with_toks (Nat.le_refl s.toks) (wpAny_newFunctionEnv_cells hk hkind fun env he s' x ht => ?_))
  subst he
  exact ⟨hlim.keeps x.toInCall.keep, codeAny_func (h s' ht x)⟩

theorem fn_ok (O : CxOk C) (HS : OkS C n ih.s) {k : Nat} {f : Fn} (FO : FnOk C k f) (R : Rm A (n + 1)) (I : Inv C ρ g st s) {us : List MV} {vs : List Value} (hv : VRs C ρ g s.toks us vs) (hl : f.params.length = us.length) {fl : Fl}
    (h : ssOf ih.s f.body (zipL f.params us) st = some (fl, loc', st')) :
    wpAny (model C.prog C.w) A (call (.ref (C.fa k)) vs) (RQ C [] ρ g s (match fl with | .ret u => u | .next => .none) st') F0 s := by
  obtain ⟨name, params, body, scope, pm, cd, doc, o, h1, h2, h3, h4, h5, h6, h7, h8, h9, h10, h11⟩ := FO
  refine wpAny_call (call_toks (fd := Calls.docDef name params body scope pm cd doc) R.room (I.keep _ _ h1) h2 (O.lim.keeps I.keep) (h3.keeps I.keep) rfl (h7 vs (by rw [hv.length, hl])) rfl (fun x hx => ?_) (fun s₁ ht X => ?_) h4 h5 h6)
  · obtain ⟨i, hi, e⟩ := zip_fst_sub f.params vs x.1 (List.mem_map.mpr ⟨x, hx, rfl⟩)
    rcases (h8 i hi).2 with q | q
    · exact .inl (by rw [e]; exact q)
    · refine .inr ⟨by rw [e]; exact q, ?_⟩
      obtain ⟨c, hc⟩ := lookup_of_fst (cellsFrom_has (y := x.1) scope.names (s.heap.objs.size + 1) [] (.inl (mem_of_lookup (by rw [e]; exact q))))
      show (List.lookup x.1 (cellsFrom (s.heap.objs.size + 1) scope.names [])).isSome = true
      rw [hc]; rfl
  · obtain ⟨h₁, tk, rfl, hk⟩ := X.done
    have ht : s.toks ≤ tk := ht
    obtain ⟨V, hh, hf⟩ := EnvOk.call (a := C.fa k) (name := name) (cd := cd) I h6 h8 h9 h10 hv ⟨X.toInCall.ns, X.toInCall.keep, X.toInCall.fresh⟩ ⟨X.cell, X.apart, X.above⟩ ht
    have x₀ : Ex [] ρ g s ρ g { s with heap := h₁, toks := tk } := Ex.keepHeap hk ht
    refine wpAny_mono (ss_ok HS (R.deeper _) rfl hh h11 V (I.heap hk ht) h) (fun F s' q => ?_) F0le
    obtain ⟨ρ₂, g₂, x₂, I₂, V₂, r₂⟩ := q
    refine ⟨ρ₂, g₂, x₀.transW x₂ hf, I₂, ?_⟩
    cases fl with
    | next => cases r₂; rfl
    | ret u => obtain ⟨v, rfl, r⟩ := r₂; exact r
end
end Mine
end

section
set_option autoImplicit false
namespace Mine
structure CxFn (C : Cx) : Prop extends CxAll C where
  fns : ∀ k f, FT k = some f → FnOk C k f
  names : ∀ k, C.mg (fnS k) = some (.ref (C.fa k)) ∧ ∃ o fd, C.h₀.get? (C.fa k) = some o ∧ o.data = .func fd

theorem fnS_dbg : ∀ k, (fnS k == ("__debug__" : Str)) = false := by
  have h : ∀ k, k < 15 → (fnS k == ("__debug__" : Str)) = false := by decide +kernel
  intro k
  rcases Nat.lt_or_ge k 15 with q | q
  · exact h k q
  · have : fnS k = "add" := by
      unfold fnS
      rw [List.getD_eq_getElem?_getD, List.getElem?_eq_none (by exact q)]; rfl
    rw [this]; decide

theorem empty_join : ∀ (xs : List (List Nat)), Txt.join (⟨#[]⟩ : Str) (xs.map fun l => ⟨l.toArray⟩) = ⟨xs.flatten.toArray⟩ := by
  intro xs
  show Builtin.Str.glued _ _ = _
  rw [StrLaws.glued_eq_join]
  induction xs with
  | nil => rfl
  | cons x r ih =>
    cases r with
    | nil => show (⟨x.toArray⟩ : Str) = _; simp
    | cons y r =>
      have e : Str.join (⟨#[]⟩ : Str) (List.map (fun l => (⟨l.toArray⟩ : Str)) (x :: y :: r)) = (⟨x.toArray⟩ : Str) ++ (⟨#[]⟩ : Str) ++ Str.join (⟨#[]⟩ : Str) (List.map (fun l => (⟨l.toArray⟩ : Str)) (y :: r)) := rfl
      rw [e, ih]
      show Str.append (Str.append _ _) _ = _
      simp [Str.append]

section
variable {C : Cx} {W : List Addr} {N n : Nat} {ih : Ev} {ns : Nms} {A : Around} {env : Env} {loc : Loc} {ρ : List Addr} {g : Nat → List Nat} {st st' : St} {s : Shared} {u : MV} {a b : X} {l r : Expr} {pos p ap : Pos}

theorem e_lst (HE : OkE C N ih.e) {es : List X} {xs : List Expr} (ha : RelEs ns es xs) (R : Rm A N) (hn : env.scope.names = ns) (V : EnvOk C env loc ρ g s) (I : Inv C ρ g st s) (h : eStep ih n (.lst es) loc st = some (u, st')) :
    wpAny (model C.prog C.w) A (eval (.List xs pos) env) (RQ C [] ρ g s u st') F0 s := by
  simp only [eStep] at h
  split at h
  · next vs st1 e1 =>
    split at h
    · next hl =>
      cases h
      refine wpAny_List (wpAny_mono (es_ok HE R hn ha V I e1) (fun ws s₁ q => ?_) F0le)
      obtain ⟨ρ₁, g₁, x₁, I₁, r₁⟩ := q
      refine ⟨by rw [r₁.length]; exact Nat.le_trans (Nat.le_of_ble_eq_true hl) (by decide), ?_⟩
      obtain ⟨hI, hX⟩ := I₁.newList (W := []) r₁
      exact ⟨_, _, x₁.trans hX, hI, VR.last I₁ _⟩
    · cases h
  · cases h
theorem e_tup (HE : OkE C N ih.e) {es : List X} {xs : List Expr} {k : Nat} (ha : RelEs ns es xs) (R : Rm A N) (hn : env.scope.names = ns) (V : EnvOk C env loc ρ g s) (I : Inv C ρ g st s) (h : eStep ih n (.tup es) loc st = some (u, st')) :
    wpAny (model C.prog C.w) A (eval (.Tuple xs k pos) env) (RQ C [] ρ g s u st') F0 s := by
  simp only [eStep] at h
  split at h
  · next vs st1 e1 =>
    split at h
    · next hl =>
      cases h
      refine wpAny_Tuple (wpAny_mono (es_ok HE R hn ha V I e1) (fun ws s₁ q => ?_) F0le)
      obtain ⟨ρ₁, g₁, x₁, I₁, r₁⟩ := q
      refine ⟨by rw [r₁.length]; exact Nat.le_trans (Nat.le_of_ble_eq_true hl) (by decide), ?_⟩
      obtain ⟨hI, hX⟩ := I₁.newTup (W := []) r₁
      exact ⟨_, _, x₁.trans hX, hI, VR.last I₁ _⟩
    · cases h
  · cases h

theorem joinS_ok : ∀ {xs : List MV} {vs : List Value} {l : List Nat}, VRs C ρ g s.toks xs vs → joinS xs = some l → ∃ (ls : List (List Nat)) (q : List (Str × Tok)), vs = strValues q ∧ q.map (·.1) = ls.map (fun l => (⟨l.toArray⟩ : Str)) ∧ ls.flatten = l ∧ ls.length = xs.length
  | [], _, _, .nil, h => by cases h; exact ⟨[], [], rfl, rfl, rfl, rfl⟩
  | .str m tr :: xs, _, _, .cons r rs, h => by
    simp only [joinS, Option.map_eq_some_iff] at h
    obtain ⟨l', e, rfl⟩ := h
    obtain ⟨ls, q, h1, h2, h3, h4⟩ := joinS_ok rs e
    obtain ⟨t, rfl, _⟩ := r
    exact ⟨m :: ls, (⟨m.toArray⟩, t) :: q, by rw [h1]; rfl, by simp [h2], by simp [h3], by simp [h4]⟩
  | .none :: _, _, _, _, h => nomatch h
  | .bool _ :: _, _, _, _, h => nomatch h
  | .int _ _ :: _, _, _, _, h => nomatch h
  | .ref _ :: _, _, _, _, h => nomatch h
  | .fn _ :: _, _, _, _, h => nomatch h
theorem sum_flat : ∀ ls : List (List Nat), ((ls.map fun l => (⟨l.toArray⟩ : Str)).map (·.length)).sum = ls.flatten.length
  | [] => rfl
  | l :: ls => by
    have := sum_flat ls
    simp only [List.map_cons, List.sum_cons, List.flatten_cons, List.length_append, this]
    show l.toArray.size + _ = _
    simp
theorem post_joinT {s : Shared} {sep : Str} {Q : Value → Shared → Prop} : ∀ (l : List (Str × Tok)), (Txt.join sep (l.map (·.1))).length ≤ sizeLine → (∀ t' k, s.toks ≤ k → Q (.str (Txt.join sep (l.map (·.1))) t') { s with toks := k }) → (joinMade sep l).post Q s
  | [], h, q => ⟨h, q _ _ (Nat.le_succ _)⟩
  | [p], _, q => q p.2 s.toks (Nat.le_refl _)
  | _ :: _ :: _, h, q => ⟨h, q _ _ (Nat.le_succ _)⟩
theorem joinT {prog : Program} {w : World} {E Q : Value → Shared → Prop} {x : Str} {t : Tok} {a : Sem Value} (h : wpAny (model prog w) A a (fun v s₁ => ∃ D l, v = .ref D ∧ s₁.heap.IsList D (strValues l).toArray ∧ ∃ texts, l.map (·.1) = texts ∧ JoinOk x texts = true ∧
      ∀ t' k, s₁.toks ≤ k → Q (.str (Txt.join x texts) t') { s₁ with toks := k }) E s) : MethodOnS prog w A E "join" (.str x t) pos [(false, a)] Q s := by
  refine ⟨"str", _, F.plainAttrs_str, F.slot_str_join, F.type_str_join, typeIs_str _ _ _, (fun _ e => nomatch e),
    method1_meets F.slot_str_join F.entry_str_join (wpAny_mono h (fun v s₁ h₁ => ?_) fun _ _ e => e)⟩
  obtain ⟨D, l, rfl, hl, texts, rfl, hok, hq⟩ := h₁
  unfold JoinOk at hok
  rw [Bool.not_eq_true'] at hok
  exact ⟨typeIs_str _ _ _, F.args_str_join_2 _ _, _, meets_str_join_list x t D l hok, hl, post_joinT l (joinFit_length hok) hq⟩

theorem e_join (HE : OkE C N ih.e) (ha : RelE ns a l) (R : Rm A N) (hn : env.scope.names = ns) (V : EnvOk C env loc ρ g s) (I : Inv C ρ g st s) {k : Nat} (hl : (ap.endLine == pos.line) = true) (h : eStep ih n (.join a) loc st = some (u, st')) :
    wpAny (model C.prog C.w) A (eval (.Call (.Attribute (.Constant (.str (⟨#[]⟩ : Str)) k p) "join" ap) [l] [] pos) env) (RQ C [] ρ g s u st') F0 s := by
  simp only [eStep] at h
  split at h
  · next id st1 e1 =>
    split at h
    · next xs hx =>
      split at h
      · next m hm =>
        split at h
        · next hb =>
          cases h
          obtain ⟨b1, b2⟩ := Bool.and_eq_true_iff.mp hb
          have b1 := Nat.le_of_ble_eq_true b1
          have b2 := Nat.le_of_ble_eq_true b2
          refine Call_method1 rfl (ha.star _ _) hl (wpAny_Constant_str (joinT ?_))
          have x₀ : Ex [] ρ g s ρ g { s with toks := s.toks + 1 } := Ex.tk (Nat.le_succ _)
          refine wpAny_mono (HE ha R hn (V.ex x₀) (I.tk (Nat.le_succ _)) e1) (fun v s₁ q => ?_) F0le
          obtain ⟨ρ₁, g₁, x₁, I₁, r₁⟩ := q
          obtain ⟨ad, ea, rfl⟩ := r₁
          obtain ⟨vs, k', hvs, rs⟩ := I₁.get hx ea
          obtain ⟨ls, q, h1, h2, h3, h4⟩ := joinS_ok rs hm
          refine ⟨ad, q, rfl, by rw [← h1]; exact hvs.isList, _, h2, joinOk_of_weight (by rw [sum_flat, h3, List.length_map, h4]; omega) (by show (0 : Nat) ≤ 16; omega), fun t' k hk => ?_⟩
          rw [empty_join, h3]
          exact RQ.trans (x₀.trans x₁) (RQ.mkT I₁ hk (strI I₁ _))
        · cases h
      · cases h
    · cases h
  · cases h
theorem e_cnt (HE : OkE C N ih.e) (ha : RelE ns a l) (R : Rm A N) (hn : env.scope.names = ns) (V : EnvOk C env loc ρ g s) (I : Inv C ρ g st s) {k : Nat} {m : List Nat} (hl : (ap.endLine == pos.line) = true) (hb : ∀ env, attributeBase l "count" env (eval l env) = eval l env)
    (h : eStep ih n (.cnt a m) loc st = some (u, st')) :
    wpAny (model C.prog C.w) A (eval (.Call (.Attribute l "count" ap) [.Constant (.str (⟨m.toArray⟩ : Str)) k p] [] pos) env) (RQ C [] ρ g s u st') F0 s := by
  simp only [eStep] at h
  split at h
  · next c tr st1 e1 =>
    split at h
    · next hb' =>
      cases h
      have b1 := Nat.le_of_ble_eq_true hb'
      refine Call_method1 (hb _) rfl hl (wpAny_mono (HE ha R hn V I e1) (fun v s₁ q => ?_) F0le)
      obtain ⟨ρ₁, g₁, x₁, I₁, r₁⟩ := q
      obtain ⟨t, rfl, _⟩ := r₁
      refine SB.count (wpAny_Constant_str ⟨_, _, rfl, ?_⟩)
      have e : Txt.count (⟨c.toArray⟩ : Str) (⟨m.toArray⟩ : Str) = Int.ofNat (Builtin.Str.occurrences ⟨c.toArray⟩ ⟨m.toArray⟩ 0 c.length (c.length + 1)).length := by
        show ((Builtin.Str.occurrences ⟨c.toArray⟩ ⟨m.toArray⟩ 0 c.toArray.size (c.toArray.size + 1)).length : Int) = _
        rw [List.size_toArray]; rfl
      rw [e]
      refine RQ.trans x₁ (RQ.mkT I₁ (tk := s₁.toks + 1 + 1) (by omega) (VR.i _ _ _ rfl (.inr ?_)))
      have hle := StrLaws.occ_length_le (⟨c.toArray⟩ : Str) ⟨m.toArray⟩ 0 c.length (c.length + 1)
      show ((Builtin.Str.occurrences ⟨c.toArray⟩ ⟨m.toArray⟩ 0 c.length (c.length + 1)).length : Int).natAbs < 2 ^ 64
      omega
    · cases h
  · cases h

theorem eraseLast (xs : Array Value) {v : Value} {rs : List Value} (h : xs.toList.reverse = v :: rs) : xs.eraseIdxIfInBounds (xs.size - 1) = rs.reverse.toArray ∧ xs[xs.size - 1]? = some v := by
  have e : xs.toList = rs.reverse ++ [v] := by
    have := congrArg List.reverse h
    simpa using this
  have e2 : xs = (rs.reverse ++ [v]).toArray := by rw [← e]
  subst e2
  constructor
  · simp [Array.eraseIdxIfInBounds]
    rw [List.eraseIdx_append_of_length_le (by simp)]
    simp
  · simp
theorem pop_ok (I : Inv C ρ g st s) {i : Nat} {ad : Addr} (hi : ρ[i]? = some ad) {u : MV} (h : popO st i = some (u, st')) :
    wpAny (model C.prog C.w) A (callWith pos (.builtin "list.pop") [.ref ad] [] []) (RQ C W ρ g s u st') F0 s := by
  unfold popO at h
  split at h
  · next xs hx =>
    split at h
    · next v r hr =>
      split at h
      · next hl =>
        cases h
        have hl := Nat.le_of_ble_eq_true hl
        obtain ⟨vs, k, hvs, rs⟩ := I.get hx hi
        have rr := rs.reverse
        rw [hr] at rr
        generalize hw : vs.reverse = ws at rr
        cases rr with
        | @cons _ w _ ws r1 r2 =>
          obtain ⟨e1, e2⟩ := eraseLast vs.toArray (v := w) (rs := ws) hw
          refine P.pop_list hvs e2 ?_ (by rw [List.size_toArray, rs.length]; exact Nat.le_trans hl (by decide))
          obtain ⟨hI, hX⟩ := I.upd (W := W) hi (o := .list r.reverse) (h' := s.heap.update ad (Obj.mapSeq fun xs => xs.eraseIdxIfInBounds (vs.toArray.size - 1))) (tk := s.toks) (fun b ob hb e => (Heap.get?_update_other _ _ (Ne.symm hb)).trans e) (Nat.le_refl _)
            ⟨ws.reverse, _, by have := hvs.update (fun xs => xs.eraseIdxIfInBounds (vs.toArray.size - 1)); rw [e1] at this; exact this, r2.reverse⟩
          exact ⟨_, _, hX, hI, r1⟩
      · cases h
    · cases h
  · cases h
theorem app_ok {x : Sem Value} {i : Nat} {ad : Addr} {u : MV} {st1 : St} (hi : ρ[i]? = some ad)
    (hx : wpAny (model C.prog C.w) A x (RQ C [] ρ g s u st1) F0 s) (h : appO st1 i u = some st') :
    wpAny (model C.prog C.w) A (callWith pos (.builtin "list.append") [.ref ad] [(false, x)] []) (RQ C [] ρ g s .none st') F0 s := by
  unfold appO at h
  split at h
  · next xs hxs =>
    split at h
    · next hl =>
      cases h
      have hl := Nat.le_of_ble_eq_true hl
      refine P.append_list (wpAny_mono hx (fun v s₁ q => ?_) F0le)
      obtain ⟨ρ₁, g₁, x₁, I₁, r₁⟩ := q
      have hi₁ : ρ₁[i]? = some ad := by
        obtain ⟨_, e, q⟩ := VR.ex (C := C) (a := .ref i) (v := .ref ad) ⟨ad, hi, rfl⟩ x₁
        cases q; exact e
      obtain ⟨vs, k, hvs, rs⟩ := I₁.get hxs hi₁
      refine ⟨_, _, by rw [List.size_toArray, rs.length]; exact Nat.le_trans hl (by decide), hvs, ?_⟩
      obtain ⟨hI, hX⟩ := I₁.upd (W := []) hi₁ (o := .list (xs ++ [u])) (h' := s₁.heap.update ad (Obj.mapSeq fun xs => xs.push v)) (tk := s₁.toks) (fun b ob hb e => (Heap.get?_update_other _ _ (Ne.symm hb)).trans e) (Nat.le_refl _)
        ⟨vs ++ [v], _, by have := hvs.update (fun xs => xs.push v); simpa using this, rs.append (.cons r₁ .nil)⟩
      exact ⟨_, _, x₁.trans hX, hI, rfl⟩
    · cases h
  · cases h
theorem popM {v : Nat} {hv : v < NV} (hc : isLC ns (nmS v)) (hn : env.scope.names = ns) (V : EnvOk C env loc ρ g s) (I : Inv C ρ g st s) (hl : (ap.endLine == pos.line) = true) {i : Nat} (hk : look v loc = some (.ref i)) (h : popO st i = some (u, st')) :
    wpAny (model C.prog C.w) A (eval (.Call (.Attribute (.Name (nmS v) p) "pop" ap) [] [] pos) env) (RQ C [] ρ g s u st') F0 s := by
  refine Call_method0 rfl hl (ld_var V hv (by rw [hn]; exact hc) hk fun x hx => ?_)
  obtain ⟨ad, ea, rfl⟩ := hx
  have hxs : ∃ xs, getO st i = some (.list xs) := by
    unfold popO at h
    split at h
    · next xs e => exact ⟨xs, e⟩
    · cases h
  obtain ⟨xs, hxs⟩ := hxs
  obtain ⟨vs, k, hvs, rs⟩ := I.get hxs ea
  exact ⟨"list", "list.pop", F.plainAttrs_list, F.slot_list_pop, F.type_list_pop, hvs.isList.typeIs, (fun a e => by cases e; exact ⟨_, hvs, rfl⟩), pop_ok I ea h⟩
theorem e_pop {v : Nat} {hv : v < NV} (hc : isLC ns (nmS v)) (hn : env.scope.names = ns) (V : EnvOk C env loc ρ g s) (I : Inv C ρ g st s) (hl : (ap.endLine == pos.line) = true) (h : eStep ih n (.pop v) loc st = some (u, st')) :
    wpAny (model C.prog C.w) A (eval (.Call (.Attribute (.Name (nmS v) p) "pop" ap) [] [] pos) env) (RQ C [] ρ g s u st') F0 s := by
  simp only [eStep] at h
  split at h
  · next i hk => exact popM (hv := hv) hc hn V I hl hk h
  · cases h

theorem callW (O : CxFn C) (HE : OkE C N ih.e) (HC : OkC C N ih.c) (R : Rm A N) {as : List X} {xs : List Expr} (ha : RelEs ns as xs) (hn : env.scope.names = ns) (V : EnvOk C env loc ρ g s) (I : Inv C ρ g st s) {k : Nat} {us : List MV} {st1 : St}
    (h1 : esOf ih.e as loc st = some (us, st1)) (h2 : ih.c k us st1 = some (u, st')) :
    wpAny (model C.prog C.w) A (callWith pos (.ref (C.fa k)) [] (backTo pos (starEach xs env)) []) (RQ C [] ρ g s u st') F0 s := by
  obtain ⟨_, o, fd, ho, hd⟩ := O.names k
  cases ha with
  | nil =>
    cases h1
    refine Calls.callWith_function (o := o) (fd := fd) (PyProof.Rows.evalArgs_none ⟨⟨I.keep _ _ ho, hd⟩, ?_⟩)
    exact HC R I .nil h2
  | cons hx hs =>
    refine callWith_def hd (wpAny_mono (es_ok HE R hn (.cons hx hs) V I h1) (fun vs s₁ q => ?_) F0le) (hx.star _ _)
    obtain ⟨ρ₁, g₁, x₁, I₁, r₁⟩ := q
    exact ⟨I₁.keep _ _ ho, wpAny_mono (HC R I₁ r₁ h2) (fun _ _ q => q.trans x₁) F0le⟩
theorem callM (O : CxFn C) (HE : OkE C N ih.e) (HC : OkC C N ih.c) (R : Rm A N) {as : List X} {xs : List Expr} (ha : RelEs ns as xs) (hn : env.scope.names = ns) (V : EnvOk C env loc ρ g s) (I : Inv C ρ g st s) {k : Nat} {f : Str} (hf : f = fnS k) (hg : isG ns f) {us : List MV} {st1 : St}
    (h1 : esOf ih.e as loc st = some (us, st1)) (h2 : ih.c k us st1 = some (u, st')) :
    wpAny (model C.prog C.w) A (eval (.Call (.Name f p) xs [] pos) env) (RQ C [] ρ g s u st') F0 s := by
  subst hf
  exact Call_ (ld_glob O.toCxOk I V (by rw [hn]; exact hg) (O.names k).1 (callW O HE HC R ha hn V I h1 h2) (fnS_dbg k))
theorem e_call (O : CxFn C) (HE : OkE C N ih.e) (HC : OkC C N ih.c) (R : Rm A N) {as : List X} {xs : List Expr} (ha : RelEs ns as xs) (hn : env.scope.names = ns) (V : EnvOk C env loc ρ g s) (I : Inv C ρ g st s) {k : Nat} {f : Str} (hf : f = fnS k) (hg : isG ns f)
    (h : eStep ih n (.call k as) loc st = some (u, st')) : wpAny (model C.prog C.w) A (eval (.Call (.Name f p) xs [] pos) env) (RQ C [] ρ g s u st') F0 s := by
  simp only [eStep] at h
  split at h
  · next us st1 e1 => exact callM O HE HC R ha hn V I hf hg e1 h
  · cases h
theorem e_callv (O : CxFn C) (HE : OkE C N ih.e) (HC : OkC C N ih.c) (R : Rm A N) {as : List X} {xs : List Expr} (ha : RelEs ns as xs) (hn : env.scope.names = ns) (V : EnvOk C env loc ρ g s) (I : Inv C ρ g st s) {v : Nat} (hv : v < NV) (hc : isLC ns (nmS v))
    (h : eStep ih n (.callv v as) loc st = some (u, st')) : wpAny (model C.prog C.w) A (eval (.Call (.Name (nmS v) p) xs [] pos) env) (RQ C [] ρ g s u st') F0 s := by
  simp only [eStep] at h
  split at h
  · next k hk =>
    split at h
    · next us st1 e1 =>
      refine Call_ (ld_var V hv (by rw [hn]; exact hc) hk fun x hx => ?_)
      cases hx
      exact callW O HE HC R ha hn V I e1 h
    · cases h
  · cases h

theorem e_ife (HE : OkE C N ih.e) (HT : OkT C N ih.t) {t : X} {y : Expr} (ht : RelE ns t y) (ha : RelE ns a l) (hb : RelE ns b r) (R : Rm A N) (hn : env.scope.names = ns) (V : EnvOk C env loc ρ g s) (I : Inv C ρ g st s) (h : eStep ih n (.ife t a b) loc st = some (u, st')) :
    wpAny (model C.prog C.w) A (eval (.IfExp y l r pos) env) (RQ C [] ρ g s u st') F0 s := by
  simp only [eStep] at h
  split at h
  · next st1 e1 =>
    refine wpAny_IfExp (wpAny_mono (HT ht R hn V I e1) (fun c s₁ q => ?_) F0le)
    obtain ⟨rfl, ρ₁, g₁, x₁, I₁⟩ := q
    exact wpAny_mono (HE ha R hn (V.ex x₁) I₁ h) (fun _ _ q => q.trans x₁) F0le
  · next st1 e1 =>
    refine wpAny_IfExp (wpAny_mono (HT ht R hn V I e1) (fun c s₁ q => ?_) F0le)
    obtain ⟨rfl, ρ₁, g₁, x₁, I₁⟩ := q
    exact wpAny_mono (HE hb R hn (V.ex x₁) I₁ h) (fun _ _ q => q.trans x₁) F0le
  · cases h

theorem e_sel (O : CxFn C) (HE : OkE C N ih.e) (ha : RelE ns a l) (R : Rm A N) (hn : env.scope.names = ns) (V : EnvOk C env loc ρ g s) (I : Inv C ρ g st s) {k1 k2 : Nat} {p1 p2 p3 p4 p5 : Pos} (h1 : isG ns "add") (h3 : isG ns "sub") (hs : ∀ o v, ∃ l', subscripted l false o v = operate l' (getItem o v))
    (h : eStep ih n (.sel a) loc st = some (u, st')) :
    wpAny (model C.prog C.w) A (eval (.Subscript (.Dict [some (.Constant (.int 14) k1 p1), some (.Constant (.int 15) k2 p2)] [.Name "add" p3, .Name "sub" p4] p5) l pos) env) (RQ C [] ρ g s u st') F0 s := by
  simp only [eStep] at h
  split at h
  · next m _ st1 e1 =>
    have key : ∀ k : Nat, (m = 14 ∧ k = 1 ∨ m = 15 ∧ k = 3) → u = .fn k → st' = st1 → wpAny (model C.prog C.w) A (eval (.Subscript (.Dict [some (.Constant (.int 14) k1 p1), some (.Constant (.int 15) k2 p2)] [.Name "add" p3, .Name "sub" p4] p5) l pos) env) (RQ C [] ρ g s u st') F0 s := by
      intro k hk hu hst
      subst hu hst
      have ho : ∀ b o, s.heap.get? b = some o → (s.heap.push { cls := .type "dict", data := .dict #[] }).get? b = some o := pushed _ _
      refine Subscript_ (wpAny_Dict_walk (knd := intKind C.prog C.w) rfl rfl (by simp) (by simp) ?_)
      have I₀ := I.heap (tk := s.toks + 1) ho (Nat.le_succ _)
      have V₀ := V.ex (Ex.keepHeap (W := []) (tk := s.toks + 1) ho (Nat.le_succ _))
      refine pairTrees_cons_walk (wpAny_Constant_int (ld_glob O.toCxOk I₀ V₀ (by rw [hn]; exact h1) (O.names 1).1 ?_ (by decide)))
      have I₁ := I.heap (tk := s.toks + 1 + 1) ho (by omega)
      have V₁ := V.ex (Ex.keepHeap (W := []) (tk := s.toks + 1 + 1) ho (by omega))
      refine pairTrees_cons_walk (wpAny_Constant_int (ld_glob O.toCxOk I₁ V₁ (by rw [hn]; exact h3) (O.names 3).1 ?_ (by decide)))
      refine pairTrees_nil_walk ⟨[(14, .ref (C.fa 1)), (15, .ref (C.fa 3))], ⟨rfl, rfl, rfl, rfl, trivial⟩, Heap.DictOf.new _, fun h' hd hsb => ?_⟩
      have hk' : ∀ b o, s.heap.get? b = some o → h'.get? b = some o := fun b o e => (hsb.2 b (fun q => by subst q; exact absurd (Heap.lt_size e) (Nat.lt_irrefl _))).trans (ho b o e)
      have x₀ : Ex [] ρ g s ρ g { s with heap := h', toks := s.toks + 1 + 1 + 2 } := Ex.keepHeap hk' (by omega)
      refine wpAny_mono (HE ha R hn (V.ex x₀) (I.heap (tk := s.toks + 1 + 1 + 2) hk' (by omega)) e1) (fun v s₁ q => ?_) F0le
      obtain ⟨ρ₁, g₁, x₁, I₁, r₁⟩ := q
      obtain ⟨t, rfl, _⟩ := r₁
      have hDn : s.heap.objs.size ∉ ρ := fun q => by obtain ⟨o, e⟩ := I.live _ q; exact absurd (Heap.lt_size e) (Nat.lt_irrefl _)
      have hd' : s₁.heap.DictOf (intKind C.prog C.w) s.heap.objs.size (merged [] [(14, .ref (C.fa 1)), (15, .ref (C.fa 3))]) := by
        obtain ⟨o, es, ep, e, r⟩ := hd
        exact ⟨o, es, ep, x₁.heap _ _ hDn (fun h => nomatch h) e, r⟩
      refine sub_go hd'.typeIs slot_dict_getitem.lookup (hs _ _) (wpAny_getItem_of (knd := intKind C.prog C.w) (k := (m : Int)) (key := .int (PE.den C.η (.c (Int.ofNat m))) t) (v := .ref (C.fa k)) ?_ hd'.mapOf ?_ ?_)
      · show (Value.int (m : Int) t).isInt m = true
        simp [Value.isInt]
      · rcases hk with ⟨rfl, rfl⟩ | ⟨rfl, rfl⟩ <;> rfl
      · exact RQ.trans (x₀.trans x₁) (RQ.mkT I₁ (Nat.le_succ _) rfl)
    split at h
    · cases h; exact key 1 (.inl ⟨rfl, rfl⟩) rfl rfl
    · cases h; exact key 3 (.inr ⟨rfl, rfl⟩) rfl rfl
    · cases h
  · cases h
end
end Mine
end

section
set_option autoImplicit false
namespace Mine
section
variable {C : Cx} {W W' : List Addr} {N n : Nat} {ih : Ev} {ns : Nms} {A : Around} {env : Env} {loc loc' : Loc} {ρ ρ' ρ₁ : List Addr} {g g' g₁ : Nat → List Nat} {st st' : St} {s s' s₁ : Shared} {u : MV} {I D : Addr} {h' : Heap} {tk : Nat}

theorem Ex.after (x : Ex W ρ g s ρ' g' s') (hI : s.heap.get? I = none) (he : Heap.ExtBut I s'.heap h') (ht : s'.toks ≤ tk) : Ex W ρ g s ρ' g' { s' with heap := h', toks := tk } where
  pre := x.pre
  fresh := x.fresh
  heap := fun b o hb hw e => he b o (fun q => by rw [q, hI] at e; cases e) (x.heap b o hb hw e)
  live := fun b o e => let ⟨o', e'⟩ := x.live b o e; ⟨o', he b o' (fun q => by rw [q, hI] at e; cases e) e'⟩
  g := x.g
  toks := Nat.le_trans x.toks ht
  gens := x.gens
  bare := x.bare
  os := x.os
theorem Ex.keep1 (x : Ex W ρ g s ρ' g' s') (hk : ∀ b o, s'.heap.get? b = some o → h'.get? b = some o) (ht : s'.toks ≤ tk) : Ex W ρ g s ρ' g' { s' with heap := h', toks := tk } := x.trans (Ex.keepHeap hk ht)

theorem VR.of (a : MV) {v : Value} {n m : Nat} (h : VR C ρ g n a v) (hm : n ≤ m) : VR C ρ g m a v := h.mem_ex hm ⟨[], by simp⟩
theorem Inv.other (V : Inv C ρ g st s) (h1 : I ∉ ρ) (h2 : C.h₀.get? I = none) (he : Heap.ExtBut I s.heap h') (ht : s.toks ≤ tk) : Inv C ρ g st { s with heap := h', toks := tk } := by
  have hr : ∀ a ∈ ρ, ∀ o, s.heap.get? a = some o → h'.get? a = some o := fun a ha o e => he a o (fun q => h1 (q ▸ ha)) e
  refine ⟨fun b o e => he b o (fun q => by rw [q, h2] at e; cases e) (V.keep b o e), V.away, fun a ha => let ⟨o, e⟩ := V.live a ha; ⟨o, hr a ha o e⟩, V.nodup, V.len, fun i o e => ?_, Nat.le_trans V.tok ht⟩
  obtain ⟨a, ea, r⟩ := V.obj i o e
  refine ⟨a, ea, ?_⟩
  have hm := List.mem_of_getElem? ea
  cases o with
  | list xs => obtain ⟨vs, k, e, r⟩ := r; exact ⟨vs, k, hr a hm _ e, r.mem_ex ht ⟨[], by simp⟩⟩
  | tup xs => obtain ⟨vs, k, e, r⟩ := r; exact ⟨vs, k, hr a hm _ e, r.mem_ex ht ⟨[], by simp⟩⟩
theorem EnvOk.other (V : EnvOk C env loc ρ g s) (h1 : I ∉ FP env) (he : Heap.ExtBut I s.heap h') (ht : s.toks ≤ tk) : EnvOk C env loc ρ g { s with heap := h', toks := tk } := by
  have hk : ∀ b ∈ FP env, ∀ o, s.heap.get? b = some o → h'.get? b = some o := fun b hb o e => he b o (fun q => h1 (q ▸ hb)) e
  refine ⟨V.kind, V.glob, V.bi, V.has, ?_, fun y c hc => ?_, V.apart, V.lc, V.away, fun i u hi hl hc => ?_⟩
  · obtain ⟨m, hm⟩ := V.ns; exact ⟨m, hm.at' (hk _ (.head _))⟩
  · obtain ⟨v, o, ho, hd⟩ := V.cells y c hc
    exact ⟨v, o, hk _ (mem_FP_cell hc) _ ho, hd⟩
  · obtain ⟨v, hv, hq⟩ := V.vars i u hi hl hc
    exact ⟨v, hv.of _ ht, hq.keep hk⟩
theorem EnvOk.sub (V : EnvOk C env loc ρ g s) (h : ∀ i u, look i loc' = some u → look i loc = some u) : EnvOk C env loc' ρ g s :=
  ⟨V.kind, V.glob, V.bi, V.has, V.ns, V.cells, V.apart, V.lc, V.away, fun i u hi hl hc => V.vars i u hi (h i u hl) hc⟩
theorem Ex.notin (x : Ex W ρ g s ρ' g' s') (h1 : I ∉ ρ) (h2 : ∃ o, s.heap.get? I = some o) : I ∉ ρ' := fun q => by
  rcases x.fresh I q with q | q
  · exact h1 q
  · obtain ⟨o, e⟩ := h2; rw [q] at e; cases e
theorem Ex.at (x : Ex W ρ g s ρ' g' s') {i : Nat} {a : Addr} (h : ρ[i]? = some a) : ρ'[i]? = some a := by
  obtain ⟨n, hn⟩ := x.pre
  rw [hn, List.getElem?_append_left (by
    rcases Nat.lt_or_ge i ρ.length with h' | h'
    · exact h'
    · rw [List.getElem?_eq_none h'] at h; cases h)]
  exact h
theorem fresh_of (V : Inv C ρ g st s) {b : Addr} (h : s.heap.get? b = none) : b ∉ ρ ∧ C.h₀.get? b = none := by
  refine ⟨fun q => (by obtain ⟨o, e⟩ := V.live b q; rw [h] at e; cases e), ?_⟩
  cases e : C.h₀.get? b with
  | none => rfl
  | some o => have := V.keep b o e; rw [h] at this; cases this
theorem fresh_fp (V : EnvOk C env loc ρ g s) {b : Addr} (h : s.heap.get? b = none) : b ∉ FP env := fun q => by
  obtain ⟨o, e⟩ := V.live b q; rw [h] at e; cases e

/-! targets -/
noncomputable def LW (env : Env) (W : List Addr) (i : Nat) : Prop := ∀ c, env.kindOf (nmS i) = some .local ∧ c = env.locals ∨ env.kindOf (nmS i) = some .cell ∧ env.cells.lookup (nmS i) = some c → c ∈ W
theorem LW.fp (i : Nat) : LW env (FP env) i := fun c h => by
  rcases h with ⟨_, rfl⟩ | ⟨_, h⟩
  · exact .head _
  · exact mem_FP_cell (mem_of_lookup h)
theorem LW.lcl {i : Nat} (hk : env.kindOf (nmS i) = some .local) : LW env [env.locals] i := fun c h => by
  rcases h with ⟨_, rfl⟩ | ⟨h, _⟩
  · exact .head _
  · rw [hk] at h; cases h
noncomputable def Stb (env : Env) (i : Nat) : Prop := i < NV ∧ (env.kindOf (nmS i) = some .local ∨ (env.kindOf (nmS i) = some .cell ∧ ∃ c, env.cells.lookup (nmS i) = some c))
theorem Stb.of {i : Nat} (hi : i < NV) (hh : Has env) (hc : isLC env.scope.names (nmS i)) : Stb env i := by
  rcases hc with hc | hc
  · exact ⟨hi, .inl hc⟩
  · exact ⟨hi, .inr ⟨hc, hh _ hc⟩⟩

noncomputable def AQ (C : Cx) (env : Env) (W ρ : List Addr) (g : Nat → List Nat) (s : Shared) (loc₁ : Loc) (st : St) (s₂ : Shared) : Prop := Ex W ρ g s ρ g s₂ ∧ Inv C ρ g st s₂ ∧ EnvOk C env loc₁ ρ g s₂

theorem asg1 {i : Nat} {v : Value} {p : Pos} (V : EnvOk C env loc ρ g s) (J : Inv C ρ g st s) (hs : Stb env i) (hW : LW env W i) (hv : VR C ρ g s.toks u v) :
    wpAny (model C.prog C.w) A (assign (.Name (nmS i) p) env v) (fun _ => AQ C env W ρ g s (put i u loc) st) F0 s :=
  assign_Name (st_var J V hs.1 hs.2 hv hW fun s' x I' V' => ⟨x, I', V'⟩)
theorem two_vals {u a b : MV} {v : Value} (J : Inv C ρ g st s) (h : un2 st u = some (a, b)) (hv : VR C ρ g s.toks u v) : ∃ T x y k, v = .ref T ∧ IsT s.heap T #[x, y] k ∧ VR C ρ g s.toks a x ∧ VR C ρ g s.toks b y := by
  unfold un2 at h
  split at h
  · next t =>
    split at h
    · next p q ht =>
      cases h
      obtain ⟨T, e, rfl⟩ := hv
      obtain ⟨vs, k, h1, h2⟩ := J.get ht e
      cases h2 with
      | cons r1 h2 =>
        cases h2 with
        | cons r2 h2 => cases h2; exact ⟨T, _, _, k, rfl, h1, r1, r2⟩
    · cases h
  · cases h
theorem asg2 {i j : Nat} {a b : MV} {v : Value} {k : Nat} {p q p3 : Pos} (R : Rm A N) (V : EnvOk C env loc ρ g s) (J : Inv C ρ g st s) (hi : Stb env i) (hj : Stb env j) (hW : LW env W i) (hW' : LW env W j) (h : un2 st u = some (a, b)) (hv : VR C ρ g s.toks u v) :
    wpAny (model C.prog C.w) A (assign (.Tuple [.Name (nmS i) p, .Name (nmS j) q] k p3) env v) (fun _ => AQ C env W ρ g s (put j b (put i a loc)) st) F0 s := by
  obtain ⟨T, x, y, m, rfl, ht, ra, rb⟩ := two_vals J h hv
  refine assign_Tuple_tuple (items := #[x, y]) R.hh ⟨_, ht, rfl, _, rfl⟩ rfl rfl fun h' he => ?_
  have hk : ∀ b o, s.heap.get? b = some o → h'.get? b = some o := fun b o e => he b o (fun q => by rw [q] at e; exact absurd (Heap.lt_size e) (Nat.lt_irrefl _)) e
  have x₀ : Ex [] ρ g s ρ g { s with heap := h' } := Ex.keepHeap (tk := s.toks) hk (Nat.le_refl _)
  have J₀ := J.heap (tk := s.toks) hk (Nat.le_refl _)
  refine wpAny_assignInOrder_more (assign_Name (st_var J₀ (V.ex x₀) hi.1 hi.2 (ra.ex x₀) hW fun s₁ x₁ J₁ V₁ => ?_))
  refine wpAny_assignInOrder_more (assign_Name (st_var J₁ V₁ hj.1 hj.2 ((rb.ex x₀).ex x₁) hW' fun s₂ x₂ J₂ V₂ => ?_))
  exact wpAny_assignInOrder_none ⟨(x₀.any.trans x₁).trans x₂, J₂, V₂⟩
end
end Mine
end

section
set_option autoImplicit false
namespace Mine
section
variable {C : Cx} {W W' : List Addr} {N n : Nat} {ih : Ev} {ns : Nms} {A : Around} {env : Env} {ρ₁ : List Addr} {g₁ : Nat → List Nat} {s₁ : Shared} {I : Addr}

/-- what a turn of a loop does: the target is set, the body runs -/
noncomputable def TurnOk (C : Cx) (A : Around) (env : Env) (target : Expr) (body : List Stmt) (f : MV → Loc → St → Option (Fl × Loc × St)) : Prop :=
  ∀ {loc loc' : Loc} {ρ : List Addr} {g : Nat → List Nat} {st st' : St} {s : Shared} {fl : Fl} {u : MV} {v : Value}, EnvOk C env loc ρ g s → Inv C ρ g st s → VR C ρ g s.toks u v → f u loc st = some (fl, loc', st') →
    wpAny (model C.prog C.w) A (assign target env v) (fun _ s₂ => wpAny (model C.prog C.w) A (execs body env) (SQ C env ρ g s fl loc' st') F0 s₂) F0 s
noncomputable def GoOk (C : Cx) (A : Around) (target : Expr) (f : MV → Loc → St → Option (Fl × Loc × St)) : Prop :=
  ∀ {I ad : Addr} {i : Nat} {loc : Loc} {ρ : List Addr} {g : Nat → List Nat} {st : St} {s : Shared} {u : MV} {v : Value} {r : Fl × Loc × St} {Q : Unit → Shared → Prop} {E : Value → Shared → Prop}, s.heap.IsListIter I ad i → Inv C ρ g st s → VR C ρ g s.toks u v → f u loc st = some r → Q () s →
    wpAny (model C.prog C.w) A (letOwnedTupleGo target (.ref I) v) Q E s

theorem flL_ok {target : Expr} {body : List Stmt} {f : MV → Loc → St → Option (Fl × Loc × St)} (R : Rm A N) (T : TurnOk C A env target body f) (G : GoOk C A target f) {id : Nat} {ad : Addr} (hid : ρ₁[id]? = some ad) (hI : s₁.heap.get? I = none) (hb : C.h₀.get? I = none) (hf : I ∉ FP env)
    {fl : Fl} {loc' : Loc} {st' : St} {RR : Result → Shared → Prop} (hR : ∀ F s', SQ C env ρ₁ g₁ s₁ fl loc' st' F s' → RR (.ok F) s') {k : Nat} {loc : Loc} {st : St} {s : Shared}
    (hx : Ex (FP env) ρ₁ g₁ s₁ ρ₁ g₁ s) (J : Inv C ρ₁ g₁ st s) (V : EnvOk C env loc ρ₁ g₁ s) (hl : s.heap.IsListIter I ad 0) (hn : I ∉ ρ₁) (h : flL f id k 0 loc st = some (fl, loc', st')) :
    codeAny (model C.prog C.w) A (.forLoop target (.ref I) body [] env) RR s := by
  refine codeAny_forLoop_any (fun k s' => ∃ ρ' g' i loc st, Ex (FP env) ρ₁ g₁ s₁ ρ' g' s' ∧ Inv C ρ' g' st s' ∧ EnvOk C env loc ρ' g' s' ∧ I ∉ ρ' ∧ s'.heap.IsListIter I ad i ∧ ρ'[id]? = some ad ∧ flL f id k i loc st = some (fl, loc', st')) ?_ k
    ⟨ρ₁, g₁, 0, loc, st, hx, J, V, hn, hl, hid, h⟩
  rintro k s ⟨ρ', g', i, loc, st, x, J, V, hn, hl, hid, h⟩
  cases k with
  | zero => cases h
  | succ k =>
    simp only [flL] at h
    split at h
    · next xs hxs =>
      obtain ⟨vs, m, hvs, rs⟩ := J.get hxs hid
      have hne : ad ≠ I := fun q => hn (q ▸ List.mem_of_getElem? hid)
      split at h
      · next hi =>
        cases h
        have hi' : vs.toArray[i]? = none := by
          have : xs.length ≤ i := List.getElem?_eq_none_iff.mp hi
          simp [rs.length]; exact this
        refine wpAny_pyNext_list_end R.hh hl hvs.isList hi' fun h' he => ?_
        exact wpAny_execs_nil (hR _ _ ⟨ρ', g', x.after hI he (Nat.le_refl _), J.other hn hb he (Nat.le_refl _), V.other hf he (Nat.le_refl _), rfl⟩)
      · next u hu =>
        obtain ⟨v, hv, rv⟩ := rs.get hu
        refine wpAny_pyNext_list_item hl hvs.isList (by simpa using hv) fun h' hl' hsb => ?_
        have x' := x.after hI hsb.extBut (Nat.le_refl _)
        have J' := J.other hn hb hsb.extBut (tk := s.toks) (Nat.le_refl _)
        have V' := V.other hf hsb.extBut (tk := s.toks) (Nat.le_refl _)
        split at h
        · next loc1 st1 e1 =>
          refine G hl' J' rv e1 (wpAny_mono (T V' J' rv e1) (fun _ s₂ h₂ => wpAny_mono h₂ (fun F s₃ h₃ => ?_) F0le) F0le)
          obtain ⟨ρ₃, g₃, x₃, J₃, V₃, r₃⟩ := h₃
          cases r₃
          obtain ⟨oI, hoI, rI⟩ := hl'
          exact ⟨k, Nat.lt_succ_self _, ρ₃, g₃, i + 1, loc1, st1, x'.trans x₃, J₃, V₃, x₃.notin hn ⟨_, hoI⟩, ⟨oI, x₃.heap _ _ hn hf hoI, rI⟩, x₃.at hid, h⟩
        · next w loc1 st1 e1 =>
          cases h
          refine G hl' J' rv e1 (wpAny_mono (T V' J' rv e1) (fun _ s₂ h₂ => wpAny_mono h₂ (fun F s₃ h₃ => ?_) F0le) F0le)
          obtain ⟨ρ₃, g₃, x₃, J₃, V₃, y, rfl, r₃⟩ := h₃
          exact hR _ _ ⟨ρ₃, g₃, x'.trans x₃, J₃, V₃, y, rfl, r₃⟩
        · cases h
    · cases h

theorem flR_ok {target : Expr} {body : List Stmt} {f : MV → Loc → St → Option (Fl × Loc × St)} (R : Rm A N) (T : TurnOk C A env target body f) (ht : ∀ v, letOwnedTupleGo target (.ref I) v = pure ()) (hI : s₁.heap.get? I = none) (hb : C.h₀.get? I = none) (hf : I ∉ FP env)
    {fl : Fl} {loc' : Loc} {st' : St} {RR : Result → Shared → Prop} (hR : ∀ F s', SQ C env ρ₁ g₁ s₁ fl loc' st' F s' → RR (.ok F) s') {k : Nat} (hk : k ≤ 100000) {loc : Loc} {st : St} {s : Shared}
    (hx : Ex (FP env) ρ₁ g₁ s₁ ρ₁ g₁ s) (J : Inv C ρ₁ g₁ st s) (V : EnvOk C env loc ρ₁ g₁ s) (hl : IsRangeIter s.heap I 0 k 1) (hn : I ∉ ρ₁) (h : flR f k 0 loc st = some (fl, loc', st')) :
    codeAny (model C.prog C.w) A (.forLoop target (.ref I) body [] env) RR s := by
  refine codeAny_forLoop (fun m s' => m ≤ k ∧ ∃ ρ' g' loc st, Ex (FP env) ρ₁ g₁ s₁ ρ' g' s' ∧ Inv C ρ' g' st s' ∧ EnvOk C env loc ρ' g' s' ∧ I ∉ ρ' ∧ IsRangeIter s'.heap I ((k - m : Nat) : Int) m 1 ∧ flR f m (k - m) loc st = some (fl, loc', st')) ?_ k
    ⟨Nat.le_refl _, ρ₁, g₁, loc, st, hx, J, V, hn, by rw [Nat.sub_self]; exact hl, by rw [Nat.sub_self]; exact h⟩ ht
  rintro m s ⟨hm, ρ', g', loc, st, x, J, V, hn, hl, h⟩
  cases m with
  | zero =>
    cases h
    refine wpAny_pyNext_range_end R.hh hl (Int.le_refl _) fun h' he => ?_
    exact wpAny_execs_nil (hR _ _ ⟨ρ', g', x.after hI he (Nat.le_refl _), J.other hn hb he (Nat.le_refl _), V.other hf he (Nat.le_refl _), rfl⟩)
  | succ m =>
    simp only [flR] at h
    refine wpAny_pyNext_range_item hl (by omega) fun h' hl' hsb => ?_
    have x' := x.after hI hsb.extBut (Nat.le_succ s.toks)
    have J' := J.other hn hb hsb.extBut (Nat.le_succ s.toks)
    have V' := V.other hf hsb.extBut (Nat.le_succ s.toks)
    have rv : VR C ρ' g' (s.toks + 1) (.int (.c (Int.ofNat (k - (m + 1)))) 64) (.int ((k - (m + 1) : Nat) : Int) s.toks) := VR.i _ _ _ rfl (.inr (by omega))
    split at h
    · next loc1 st1 e1 =>
      refine wpAny_mono (T V' J' rv e1) (fun _ s₂ h₂ => wpAny_mono h₂ (fun F s₃ h₃ => ?_) F0le) F0le
      obtain ⟨ρ₃, g₃, x₃, J₃, V₃, r₃⟩ := h₃
      cases r₃
      have e : k - m = k - (m + 1) + 1 := by omega
      refine ⟨m, Nat.lt_succ_self _, by omega, ρ₃, g₃, loc1, st1, x'.trans x₃, J₃, V₃, x₃.notin hn ⟨_, hl'⟩, x₃.heap _ _ hn hf ?_, by rw [e]; exact h⟩
      have hl'' := hl'
      rw [show ((k - (m + 1) : Nat) : Int) + 1 = ((k - m : Nat) : Int) by omega, show ((m + 1 : Nat) : Int) - 1 = (m : Int) by omega] at hl''
      exact hl''
    · next w loc1 st1 e1 =>
      cases h
      refine wpAny_mono (T V' J' rv e1) (fun _ s₂ h₂ => wpAny_mono h₂ (fun F s₃ h₃ => ?_) F0le) F0le
      obtain ⟨ρ₃, g₃, x₃, J₃, V₃, y, rfl, r₃⟩ := h₃
      exact hR _ _ ⟨ρ₃, g₃, x'.trans x₃, J₃, V₃, y, rfl, r₃⟩
    · cases h

theorem whL_ok {test : Expr} {body : List Stmt} {t : Loc → St → Option (Bool × St)} {f : Loc → St → Option (Fl × Loc × St)}
    (HT : ∀ {loc : Loc} {ρ : List Addr} {g : Nat → List Nat} {st st' : St} {s : Shared} {b : Bool}, EnvOk C env loc ρ g s → Inv C ρ g st s → t loc st = some (b, st') → wpAny (model C.prog C.w) A (isTrue test env (eval test env)) (TQ C ρ g s b st') F0 s)
    (HB : ∀ {loc loc' : Loc} {ρ : List Addr} {g : Nat → List Nat} {st st' : St} {s : Shared} {fl : Fl}, EnvOk C env loc ρ g s → Inv C ρ g st s → f loc st = some (fl, loc', st') → wpAny (model C.prog C.w) A (execs body env) (SQ C env ρ g s fl loc' st') F0 s)
    {fl : Fl} {loc' : Loc} {st' : St} {RR : Result → Shared → Prop} (hR : ∀ F s', SQ C env ρ₁ g₁ s₁ fl loc' st' F s' → RR (.ok F) s') {k : Nat} {loc : Loc} {st : St}
    (J : Inv C ρ₁ g₁ st s₁) (V : EnvOk C env loc ρ₁ g₁ s₁) (h : whL t f k loc st = some (fl, loc', st')) :
    codeAny (model C.prog C.w) A (.whileLoop test body [] env) RR s₁ := by
  refine codeAny_whileLoop (fun k s' => ∃ ρ' g' loc st, Ex (FP env) ρ₁ g₁ s₁ ρ' g' s' ∧ Inv C ρ' g' st s' ∧ EnvOk C env loc ρ' g' s' ∧ whL t f k loc st = some (fl, loc', st')) ?_ k
    ⟨ρ₁, g₁, loc, st, Ex.refl, J, V, h⟩
  rintro k s ⟨ρ', g', loc, st, x, J, V, h⟩
  cases k with
  | zero => cases h
  | succ k =>
    simp only [whL] at h
    split at h
    · next st1 e1 =>
      refine wpAny_mono (HT V J e1) (fun b s₂ q => ?_) F0le
      obtain ⟨rfl, ρ₂, g₂, x₂, J₂⟩ := q
      rw [if_pos rfl]
      split at h
      · next loc1 st2 e2 =>
        refine wpAny_mono (HB (V.ex x₂) J₂ e2) (fun F s₃ q => ?_) F0le
        obtain ⟨ρ₃, g₃, x₃, J₃, V₃, r₃⟩ := q
        cases r₃
        exact ⟨k, Nat.lt_succ_self _, ρ₃, g₃, loc1, st2, (x.trans x₂.any).trans x₃, J₃, V₃, h⟩
      · next w loc1 st2 e2 =>
        cases h
        refine wpAny_mono (HB (V.ex x₂) J₂ e2) (fun F s₃ q => ?_) F0le
        obtain ⟨ρ₃, g₃, x₃, J₃, V₃, y, rfl, r₃⟩ := q
        exact hR _ _ ⟨ρ₃, g₃, (x.trans x₂.any).trans x₃, J₃, V₃, y, rfl, r₃⟩
      · cases h
    · next st1 e1 =>
      cases h
      refine wpAny_mono (HT V J e1) (fun b s₂ q => ?_) F0le
      obtain ⟨rfl, ρ₂, g₂, x₂, J₂⟩ := q
      rw [if_neg Bool.false_ne_true]
      exact wpAny_execs_nil (hR _ _ ⟨ρ₂, g₂, x.trans x₂.any, J₂, V.ex x₂, rfl⟩)
    · cases h
end
end Mine
end

section
set_option autoImplicit false
namespace Mine

noncomputable def clOf (env : Env) : List (Str × NameKind) → List (Str × Addr) → List (Str × Addr)
  | [], acc => acc
  | (n, k) :: r, acc => if (k == .free) = true then clOf env r ((n, (env.cells.lookup n).getD 0) :: acc) else clOf env r acc
theorem clOf_loop (env : Env) (f : Str × NameKind → List (Str × Addr) → Sem (ForInStep (List (Str × Addr)))) (hf : ∀ n k cs, f (n, k) cs = if (k == .free) = true then (do let c ← cellOf env n; pure (.yield ((n, c) :: cs))) else pure (.yield cs)) :
    ∀ (names : List (Str × NameKind)) (acc : List (Str × Addr)), (∀ y ∈ names, y.2 = .free → ∃ c, env.cells.lookup y.1 = some c) → forIn names acc f = pure (clOf env names acc)
  | [], _, _ => rfl
  | (n, k) :: r, acc, h => by
    have hr := clOf_loop env f hf r
    rw [List.forIn_cons, hf]
    unfold clOf
    by_cases hk : (k == .free) = true
    · obtain ⟨c, hc⟩ := h _ List.mem_cons_self (by simpa using hk)
      rw [if_pos hk, if_pos hk]
      have e : cellOf env n = pure c := by unfold cellOf; rw [hc]
      rw [e, hc]
      exact hr _ fun y hy => h y (List.mem_cons_of_mem _ hy)
    · rw [if_neg hk, if_neg hk]
      exact hr _ fun y hy => h y (List.mem_cons_of_mem _ hy)
theorem closure_cl {sc : Scope} {env : Env} (h : ∀ y ∈ sc.names, y.2 = .free → ∃ c, env.cells.lookup y.1 = some c) : closureFor sc env = pure (clOf env sc.names []) := by
  unfold closureFor
  dsimp only
  rw [clOf_loop env _ (fun n k cs => by cases k <;> rfl) sc.names [] h]
  rfl
theorem clOf_sub {env : Env} {x : Str} {c : Addr} : ∀ (names : List (Str × NameKind)) (acc : List (Str × Addr)), (∀ y ∈ names, y.2 = .free → ∃ c, env.cells.lookup y.1 = some c) → (x, c) ∈ clOf env names acc → (x, c) ∈ acc ∨ env.cells.lookup x = some c
  | [], _, _, m => .inl m
  | (n, k) :: r, acc, h, m => by
    unfold clOf at m
    split at m
    · next hk =>
      obtain ⟨d, hd⟩ := h _ List.mem_cons_self (by simpa using hk)
      rcases clOf_sub r _ (fun y hy => h y (List.mem_cons_of_mem _ hy)) m with q | q
      · rcases List.mem_cons.mp q with q | q
        · cases q; right; rw [hd]; rfl
        · exact .inl q
      · exact .inr q
    · exact clOf_sub r _ (fun y hy => h y (List.mem_cons_of_mem _ hy)) m
theorem clOf_has {env : Env} {x : Str} : ∀ (names : List (Str × NameKind)) (acc : List (Str × Addr)), ((x, .free) ∈ names ∨ x ∈ acc.map (·.1)) → x ∈ (clOf env names acc).map (·.1)
  | [], _, h => by
    rcases h with h | h
    · cases h
    · exact h
  | (n, k) :: r, acc, h => by
    unfold clOf
    split
    · refine clOf_has r _ ?_
      rcases h with h | h
      · rcases List.mem_cons.mp h with h | h
        · cases h; right; simp
        · exact .inl h
      · right; simp [h]
    · next hk =>
      refine clOf_has r _ ?_
      rcases h with h | h
      · rcases List.mem_cons.mp h with h | h
        · cases h; exact absurd rfl hk
        · exact .inl h
      · exact .inr h

theorem inner_lookup {out : Nms} {x : Str} {k : NameKind} : ∀ {ns : Nms}, (inner ns out).lookup x = some k → ∃ k', ns.lookup x = some k' ∧ k = if (k' == .free && out.lookup x == some .cell) = true then .cell else k'
  | [], h => by simp [inner] at h
  | (n, k0) :: r, h => by
    have e : inner ((n, k0) :: r) out = (n, if (k0 == .free && out.lookup n == some .cell) = true then .cell else k0) :: inner r out := by
      show (if (k0 == .free && out.lookup n == some .cell) = true then (n, .cell) else (n, k0)) :: _ = _
      split <;> rfl
    rw [e, List.lookup_cons] at h
    rw [List.lookup_cons]
    cases hx : x == n with
    | true =>
      rw [hx] at h
      have : x = n := by simpa using hx
      subst this
      cases h
      exact ⟨k0, rfl, rfl⟩
    | false =>
      rw [hx] at h
      exact inner_lookup h

section
variable {C : Cx} {N n : Nat} {ns : Nms} {A : Around} {env : Env} {loc loc₀ : Loc} {ρ ρ₁ : List Addr} {g g₁ : Nat → List Nat} {st st' : St} {s s₁ : Shared} {sc : Scope} {vs : List Str}

theorem relabel_names (hn : env.scope.names = ns) (hk : env.scope.kind = .function) : (relabel sc env).names = inner sc.names ns := by
  show sc.names.map _ = sc.names.map _
  apply List.map_congr_left
  intro y _
  obtain ⟨n, k⟩ := y
  rw [hk]
  subst hn
  show (if (k == NameKind.free && true && env.scope.names.lookup n == some .cell) = true then (n, NameKind.cell) else (n, k)) = _
  rw [Bool.and_true]

theorem EnvOk.comp (V : EnvOk C env loc ρ g s) (hh : Has env) (hn : env.scope.names = ns) (hk : sc.kind = .function) (hc : CompOk sc.names ns vs) {L : Addr} {m : Str → Option Value} (hL : s.heap.Ns L m) (hLρ : L ∉ ρ) (hLb : C.h₀.get? L = none) (hLf : L ∉ FP env)
    (hsub : ∀ i u, i < NV → look i loc₀ = some u → look i loc = some u ∧ nmS i ∉ vs) : EnvOk C (compEnvC sc (clOf env sc.names []) L env) loc₀ ρ g s := by
  have hfree : ∀ y ∈ sc.names, y.2 = .free → ∃ c, env.cells.lookup y.1 = some c := fun y hy hf => hh y.1 (by
    show env.scope.names.lookup y.1 = _
    rw [hn]; exact hc.free y hy hf)
  have hsubC : ∀ x c, (x, c) ∈ clOf env sc.names [] → env.cells.lookup x = some c := fun x c hm => (clOf_sub _ _ hfree hm).resolve_left (fun q => nomatch q)
  have hin : ∀ b ∈ FP (compEnvC sc (clOf env sc.names []) L env), b = L ∨ b ∈ FP env := by
    intro b hb
    rcases List.mem_cons.mp hb with hb | hb
    · exact .inl hb
    · obtain ⟨p, hp, rfl⟩ := List.mem_map.mp hb
      exact .inr (mem_FP_cell (mem_of_lookup (hsubC p.1 p.2 hp)))
  have hasC : ∀ x, (compEnvC sc (clOf env sc.names []) L env).kindOf x = some .cell → ∃ c, (compEnvC sc (clOf env sc.names []) L env).cells.lookup x = some c := by
    intro x hx
    have hx : (relabel sc env).names.lookup x = some .cell := hx
    rw [relabel_names hn V.kind] at hx
    obtain ⟨k', h1, h2⟩ := inner_lookup hx
    have hk' : k' = .free := by
      split at h2
      · next hb => simpa using (Bool.and_eq_true_iff.mp hb).1
      · subst h2; exact absurd rfl (hc.cell _ (mem_of_lookup h1))
    subst hk'
    exact lookup_of_fst (clOf_has (env := env) sc.names [] (.inl (mem_of_lookup h1)))
  refine ⟨hk, V.glob, V.bi, hasC, ⟨m, hL⟩, fun x c hm => V.cells x c (mem_of_lookup (hsubC x c hm)), fun x y c hx hy => V.apart x y c (mem_of_lookup (hsubC x c hx)) (mem_of_lookup (hsubC y c hy)), fun x c hm q => ?_, fun b hb => ?_, fun i u hi hl hlc => ?_⟩
  · have q : c = L := q
    subst q; exact hLf (mem_FP_cell (mem_of_lookup (hsubC x c hm)))
  · rcases hin b hb with rfl | q
    · exact ⟨hLρ, hLb⟩
    · exact V.away b q
  · obtain ⟨hl', hno⟩ := hsub i u hi hl
    have hlc : isLC (inner sc.names ns) (nmS i) := by rw [← relabel_names hn V.kind]; exact hlc
    rcases hlc with q | q
    · obtain ⟨k', h1, h2⟩ := inner_lookup q
      have : k' = .local := by
        split at h2
        · cases h2
        · exact h2.symm
      subst this
      exact absurd (hc.only i hi h1) hno
    · obtain ⟨k', h1, h2⟩ := inner_lookup q
      have hk' : k' = .free := by
        split at h2
        · next hb => simpa using (Bool.and_eq_true_iff.mp hb).1
        · subst h2; exact absurd rfl (hc.cell _ (mem_of_lookup h1))
      subst hk'
      have hm := mem_of_lookup h1
      have hcell : env.scope.names.lookup (nmS i) = some .cell := by rw [hn]; exact hc.free _ hm rfl
      obtain ⟨v, hv, hat⟩ := V.vars i u hi hl' (.inr hcell)
      refine ⟨v, hv, ?_⟩
      rcases hat with ⟨kk, _⟩ | ⟨_, c, h4, h5⟩
      · rw [show env.kindOf (nmS i) = some .cell from hcell] at kk; cases kk
      · refine .inr ⟨.inl ?_, c, ?_, h5⟩
        · show (relabel sc env).names.lookup (nmS i) = _
          rw [relabel_names hn V.kind]; exact q
        · obtain ⟨d, hd⟩ := lookup_of_fst (clOf_has (env := env) sc.names [] (.inl hm))
          have := hsubC _ _ (mem_of_lookup hd)
          rw [h4] at this; cases this
          exact hd

theorem compLoop_go {prog : Program} {w : World} {elt target iter : Expr} {scope : Scope} {pos : Pos} {it acc : Value} {R : Result → Shared → Prop} (I : Nat → Shared → Prop)
    (turn : ∀ n s, I n s → wpAny (model prog w) A (pyNext it) (fun r s₁ => match r with
      | none => R (.ok .next) s₁
      | some v => wpAny (model prog w) A (letOwnedTupleGo target it v) (fun _ s₁' => wpAny (model prog w) A (assign target env v) (fun _ s₂ => wpAny (model prog w) A (eval elt env) (fun x s₃ =>
          wpAny (model prog w) A (call (.builtin "list.append") [acc, x]) (fun _ s₄ => ∃ m, m < n ∧ I m s₄) F0 s₃) F0 s₂) F0 s₁') F0 s₁) F0 s)
    (n : Nat) (h : I n s) : codeAny (model prog w) A (.compLoop (.ListComp elt [⟨target, iter, [], 0⟩] scope pos) 0 it acc env) R s := by
  refine codeAny_loop rfl I (fun n s hI => ?_) n h
  show wpAny _ _ ((compTurn (.ListComp elt [⟨target, iter, [], 0⟩] scope pos) 0 it acc env).onRaise (fun x => do noteFrame x env; theTreesLotGoes x)) _ _ s
  refine wpAny_noted ?_
  rw [compTurn_list1]
  refine wpAny_bind (wpAny_standAt (wpAny_bind (wpAny_mono (turn n s hI) (fun r s₁ h₁ => ?_) F0le)))
  cases r with
  | none => exact wpAny_pure h₁
  | some v =>
    refine wpAny_bind (wpAny_mono h₁ (fun _ s₁' h₁' => ?_) F0le)
    exact wpAny_bind (wpAny_mono h₁' (fun _ s₂ h₂ => wpAny_bind (wpAny_bind (wpAny_mono h₂ (fun x s₃ h₃ => wpAny_bind (wpAny_mono h₃
      (fun _ s₄ h₄ => wpAny_pure (wpAny_pure ⟨rfl, h₄⟩)) F0le)) F0le))) F0le)

noncomputable def CTurnOk (C : Cx) (A : Around) (cenv : Env) (target elt : Expr) (loc₀ loc : Loc) (f : MV → Loc → St → Option (MV × St)) : Prop :=
  ∀ {ρ : List Addr} {g : Nat → List Nat} {st st1 : St} {s : Shared} {u y : MV} {v : Value}, EnvOk C cenv loc₀ ρ g s → Inv C ρ g st s → VR C ρ g s.toks u v → f u loc st = some (y, st1) →
    wpAny (model C.prog C.w) A (assign target cenv v) (fun _ s₂ => wpAny (model C.prog C.w) A (eval elt cenv) (fun w s₃ => ∃ ρ' g', Ex [cenv.locals] ρ g s ρ' g' s₃ ∧ Inv C ρ' g' st1 s₃ ∧ EnvOk C cenv loc₀ ρ' g' s₃ ∧ VR C ρ' g' s₃.toks y w) F0 s₂) F0 s
noncomputable def CGoOk (C : Cx) (A : Around) (target : Expr) (loc : Loc) (f : MV → Loc → St → Option (MV × St)) : Prop :=
  ∀ {I ad : Addr} {i : Nat} {ρ : List Addr} {g : Nat → List Nat} {st : St} {s : Shared} {u : MV} {v : Value} {r : MV × St} {Q : Unit → Shared → Prop} {E : Value → Shared → Prop}, s.heap.IsListIter I ad i → Inv C ρ g st s → VR C ρ g s.toks u v → f u loc st = some r → Q () s →
    wpAny (model C.prog C.w) A (letOwnedTupleGo target (.ref I) v) Q E s

structure LoopSt (C : Cx) (cenv : Env) (loc₀ : Loc) (ρ₁ : List Addr) (g₁ : Nat → List Nat) (s₁ : Shared) (I D : Addr) (acc : Nat) (ρ : List Addr) (g : Nat → List Nat) (st : St) (s : Shared) : Prop where
  x : Ex [] ρ₁ g₁ s₁ ρ g s
  J : Inv C ρ g st s
  V : EnvOk C cenv loc₀ ρ g s
  i : I ∉ ρ
  d : ρ[acc]? = some D
structure LoopFix (C : Cx) (cenv : Env) (s₁ : Shared) (I : Addr) : Prop where
  i : s₁.heap.get? I = none
  l : s₁.heap.get? cenv.locals = none
  f : I ∉ FP cenv
  b : C.h₀.get? I = none

theorem turn_end {cenv : Env} {I D : Addr} {acc : Nat} (F : LoopFix C cenv s₁ I) (S : LoopSt C cenv loc₀ ρ₁ g₁ s₁ I D acc ρ g st s) {target elt : Expr} {f : MV → Loc → St → Option (MV × St)} (T : CTurnOk C A cenv target elt loc₀ loc f) {u y : MV} {v : Value} {st1 : St} (hu : VR C ρ g s.toks u v)
    (e : f u loc st = some (y, st1)) {ys : List MV} (hy : getO st1 acc = some (.list ys)) (hl : ys.length ≤ 100000) {oI : Obj} (hoI : s.heap.get? I = some oI) {Q : Shared → Prop}
    (h : ∀ ρ' g' s', LoopSt C cenv loc₀ ρ₁ g₁ s₁ I D acc ρ' g' (setO st1 acc (.list (ys ++ [y]))) s' → s'.heap.get? I = some oI → (∀ (i : Nat) (a : Addr), ρ[i]? = some a → ρ'[i]? = some a) → Q s') :
    wpAny (model C.prog C.w) A (assign target cenv v) (fun _ s₂ => wpAny (model C.prog C.w) A (eval elt cenv) (fun x s₃ => wpAny (model C.prog C.w) A (call (.builtin "list.append") [.ref D, x]) (fun _ s₄ => Q s₄) F0 s₃) F0 s₂) F0 s := by
  refine wpAny_mono (T S.V S.J hu e) (fun _ s₂ h₂ => wpAny_mono h₂ (fun w s₃ h₃ => ?_) F0le) F0le
  obtain ⟨ρ₃, g₃, x₃, J₃, V₃, r₃⟩ := h₃
  have hd := x₃.at S.d
  obtain ⟨vs, k, hvs, rs⟩ := J₃.get hy hd
  refine wpAny_list_append_plain ⟨k, hvs⟩ (fun h' hp hsb => ?_) (by rw [List.size_toArray, rs.length]; exact Nat.le_trans hl (by decide))
  obtain ⟨k', hp⟩ := hp
  have hIl : I ≠ cenv.locals := fun q => F.f (q ▸ .head _)
  have hI3 : s₃.heap.get? I = some oI := x₃.heap _ _ S.i (fun q => hIl (List.mem_singleton.mp q)) hoI
  have hIρ : I ∉ ρ₃ := x₃.notin S.i ⟨_, hoI⟩
  have hdm := List.mem_of_getElem? hd
  obtain ⟨hI, hX⟩ := J₃.upd (W := []) hd (o := .list (ys ++ [y])) (h' := h') (tk := s₃.toks) (fun b ob hb e => (hsb.2 b hb).trans e) (Nat.le_refl _) ⟨vs ++ [w], k', by rw [show (vs ++ [w]).toArray = vs.toArray.push w by simp]; exact hp, rs.append (.cons r₃ .nil)⟩
  refine h ρ₃ g₃ _ ⟨(S.x.transW x₃ fun b hb => by rw [List.mem_singleton.mp hb]; exact F.l).trans hX, hI, V₃.ex hX, hIρ, hd⟩ ((hsb.2 I (fun q => hIρ (q ▸ hdm))).trans hI3) fun i a q => x₃.at q

theorem lcL_ok {cenv : Env} {I D : Addr} {acc : Nat} {target elt iter : Expr} {scope : Scope} {pos : Pos} {f : MV → Loc → St → Option (MV × St)} (R : Rm A N) (F : LoopFix C cenv s₁ I) (T : CTurnOk C A cenv target elt loc₀ loc f) (G : CGoOk C A target loc f) {id : Nat} {ad : Addr}
    {RR : Result → Shared → Prop} (hR : ∀ ρ' g' s', LoopSt C cenv loc₀ ρ₁ g₁ s₁ I D acc ρ' g' st' s' → RR (.ok .next) s') {k : Nat} (S : LoopSt C cenv loc₀ ρ₁ g₁ s₁ I D acc ρ g st s) (hl : s.heap.IsListIter I ad 0) (hid : ρ[id]? = some ad) (h : lcL f id acc loc k 0 st = some st') :
    codeAny (model C.prog C.w) A (.compLoop (.ListComp elt [⟨target, iter, [], 0⟩] scope pos) 0 (.ref I) (.ref D) cenv) RR s := by
  refine compLoop_go (fun k s' => ∃ ρ' g' i st, LoopSt C cenv loc₀ ρ₁ g₁ s₁ I D acc ρ' g' st s' ∧ s'.heap.IsListIter I ad i ∧ ρ'[id]? = some ad ∧ lcL f id acc loc k i st = some st') ?_ k ⟨ρ, g, 0, st, S, hl, hid, h⟩
  rintro k s ⟨ρ', g', i, st, S, hl, hid, h⟩
  cases k with
  | zero => cases h
  | succ k =>
    simp only [lcL] at h
    split at h
    · next xs hxs =>
      obtain ⟨vs, m, hvs, rs⟩ := S.J.get hxs hid
      split at h
      · next hi =>
        cases h
        have hi' : vs.toArray[i]? = none := by
          have : xs.length ≤ i := List.getElem?_eq_none_iff.mp hi
          simp [rs.length]; exact this
        refine wpAny_pyNext_list_end R.hh hl hvs.isList hi' fun h' he => ?_
        exact hR _ _ _ ⟨S.x.after F.i he (Nat.le_refl _), S.J.other S.i F.b he (Nat.le_refl _), S.V.other F.f he (Nat.le_refl _), S.i, S.d⟩
      · next u hu =>
        obtain ⟨v, hv, rv⟩ := rs.get hu
        refine wpAny_pyNext_list_item hl hvs.isList (by simpa using hv) fun h' hl' hsb => ?_
        have S' : LoopSt C cenv loc₀ ρ₁ g₁ s₁ I D acc ρ' g' st { s with heap := h' } := ⟨S.x.after F.i hsb.extBut (Nat.le_refl _), S.J.other S.i F.b hsb.extBut (tk := s.toks) (Nat.le_refl _), S.V.other F.f hsb.extBut (tk := s.toks) (Nat.le_refl _), S.i, S.d⟩
        split at h
        · next y st1 e1 =>
          split at h
          · next ys hys =>
            split at h
            · next hb =>
              have hl2 := hl'
              obtain ⟨oI, hoI, rI⟩ := hl2
              refine G hl' S'.J rv e1 (turn_end F S' T rv e1 hys (Nat.le_of_ble_eq_true hb) hoI fun ρ₃ g₃ s₃ S₃ h₃ hat => ?_)
              exact ⟨k, Nat.lt_succ_self _, ρ₃, g₃, i + 1, _, S₃, ⟨oI, h₃, rI⟩, hat _ _ hid, h⟩
            · cases h
          · cases h
        · cases h
    · cases h

theorem lcR_ok {cenv : Env} {I D : Addr} {acc : Nat} {target elt iter : Expr} {scope : Scope} {pos : Pos} {f : MV → Loc → St → Option (MV × St)} (R : Rm A N) (F : LoopFix C cenv s₁ I) (T : CTurnOk C A cenv target elt loc₀ loc f) (ht : ∀ v, letOwnedTupleGo target (.ref I) v = pure ())
    {RR : Result → Shared → Prop} (hR : ∀ ρ' g' s', LoopSt C cenv loc₀ ρ₁ g₁ s₁ I D acc ρ' g' st' s' → RR (.ok .next) s') {k : Nat} (hk : k ≤ 100000) (S : LoopSt C cenv loc₀ ρ₁ g₁ s₁ I D acc ρ g st s) (hl : IsRangeIter s.heap I 0 k 1) (h : lcRn f acc loc k 0 st = some st') :
    codeAny (model C.prog C.w) A (.compLoop (.ListComp elt [⟨target, iter, [], 0⟩] scope pos) 0 (.ref I) (.ref D) cenv) RR s := by
  refine compLoop_go (fun m s' => m ≤ k ∧ ∃ ρ' g' st, LoopSt C cenv loc₀ ρ₁ g₁ s₁ I D acc ρ' g' st s' ∧ IsRangeIter s'.heap I ((k - m : Nat) : Int) m 1 ∧ lcRn f acc loc m (k - m) st = some st') ?_ k ⟨Nat.le_refl _, ρ, g, st, S, by rw [Nat.sub_self]; exact hl, by rw [Nat.sub_self]; exact h⟩
  rintro m s ⟨hm, ρ', g', st, S, hl, h⟩
  cases m with
  | zero =>
    cases h
    refine wpAny_pyNext_range_end R.hh hl (Int.le_refl _) fun h' he => ?_
    exact hR _ _ _ ⟨S.x.after F.i he (Nat.le_refl _), S.J.other S.i F.b he (Nat.le_refl _), S.V.other F.f he (Nat.le_refl _), S.i, S.d⟩
  | succ m =>
    simp only [lcRn] at h
    refine wpAny_pyNext_range_item hl (by omega) fun h' hl' hsb => ?_
    have S' : LoopSt C cenv loc₀ ρ₁ g₁ s₁ I D acc ρ' g' st { s with heap := h', toks := s.toks + 1 } := ⟨S.x.after F.i hsb.extBut (Nat.le_succ _), S.J.other S.i F.b hsb.extBut (Nat.le_succ s.toks), S.V.other F.f hsb.extBut (Nat.le_succ s.toks), S.i, S.d⟩
    have rv : VR C ρ' g' (s.toks + 1) (.int (.c (Int.ofNat (k - (m + 1)))) 64) (.int ((k - (m + 1) : Nat) : Int) s.toks) := VR.i _ _ _ rfl (.inr (by omega))
    split at h
    · next y st1 e1 =>
      split at h
      · next ys hys =>
        split at h
        · next hb =>
          refine wpAny_of_eq (ht _) (turn_end F S' T rv e1 hys (Nat.le_of_ble_eq_true hb) hl' fun ρ₃ g₃ s₃ S₃ h₃ hat => ?_)
          have e : k - m = k - (m + 1) + 1 := by omega
          refine ⟨m, Nat.lt_succ_self _, by omega, ρ₃, g₃, _, S₃, ?_, by rw [e]; exact h⟩
          rw [show ((k - (m + 1) : Nat) : Int) + 1 = ((k - m : Nat) : Int) by omega, show ((m + 1 : Nat) : Int) - 1 = (m : Int) by omega] at h₃
          exact h₃
        · cases h
      · cases h
    · cases h
end
end Mine
end

section
set_option autoImplicit false
namespace Mine
section
variable {C : Cx} {N n : Nat} {ih : Ev} {ns : Nms} {A : Around} {env : Env} {loc loc₀ : Loc} {ρ ρ₁ : List Addr} {g g₁ : Nat → List Nat} {st st' st₁ : St} {s s₁ s₂ : Shared} {sc : Scope} {vs : List Str} {u : MV}

noncomputable def wipe (v : Nat) (l : Loc) : Loc := l.filter fun t => !(Nat.beq t.1 v)
theorem look_wipe (v : Nat) : ∀ (l : Loc) (i : Nat), look i (wipe v l) = if i = v then none else look i l
  | [], i => by simp [wipe, look]
  | t :: r, i => by
    have ih := look_wipe v r i
    have e : look i (t :: r) = match Nat.beq t.1 i with | true => some t.2 | false => look i r := rfl
    show look i (List.filter _ (t :: r)) = _
    rw [List.filter_cons, e, beq_eq', beq_eq']
    by_cases h : t.1 = v
    · rw [decide_eq_true h]
      rw [if_neg (by simp)]
      show look i (wipe v r) = _
      rw [ih]
      by_cases q : i = v
      · simp [q]
      · have : ¬ t.1 = i := fun z => q (z.symm.trans h)
        simp [q, this]
    · rw [decide_eq_false h, if_pos (by simp)]
      show (match Nat.beq t.1 i with | true => some t.2 | false => look i (wipe v r)) = _
      rw [ih, beq_eq']
      by_cases q : t.1 = i
      · have : ¬ i = v := fun z => h (q.trans z)
        simp [q, this]
      · simp [q]

theorem comp_wrap {elt target iter : Expr} {pos : Pos} {I : Addr} {oI : Obj} {use : Option (Value → Sem Unit)} {Q : Value → Shared → Prop} (hh : Has env) (V₁ : EnvOk C env loc ρ₁ g₁ s₁) (hn : env.scope.names = ns) (hk : sc.kind = .function) (hc : CompOk sc.names ns vs)
    (x₂ : Ex [] ρ₁ g₁ s₁ ρ₁ g₁ s₂) (J₁ : Inv C ρ₁ g₁ st₁ s₁) (J₂ : Inv C ρ₁ g₁ st₁ s₂) (hI : s₁.heap.get? I = none) (hoI : s₂.heap.get? I = some oI)
    (hself : ∀ (s : Shared) (Q : Value → Shared → Prop) (E : Value → Shared → Prop), s.heap.get? I = some oI → Q (.ref I) s → wpAny (model C.prog C.w) A (pyIter (.ref I)) Q E s)
    (hsub : ∀ i u, i < NV → look i loc₀ = some u → look i loc = some u ∧ nmS i ∉ vs)
    (loop : ∀ (D L : Addr) (s₄ : Shared) (RR : Result → Shared → Prop), LoopFix C (compEnvC sc (clOf env sc.names []) L env) s₁ I → LoopSt C (compEnvC sc (clOf env sc.names []) L env) loc₀ ρ₁ g₁ s₁ I D st₁.n (ρ₁ ++ [D]) g₁ (push st₁ (.list [])) s₄ → s₄.heap.get? I = some oI →
      (∀ ρ' g' s', LoopSt C (compEnvC sc (clOf env sc.names []) L env) loc₀ ρ₁ g₁ s₁ I D st₁.n ρ' g' st' s' → RR (.ok .next) s') → codeAny (model C.prog C.w) A (.compLoop (.ListComp elt [⟨target, iter, [], 0⟩] sc pos) 0 (.ref I) (.ref D) (compEnvC sc (clOf env sc.names []) L env)) RR s₄)
    (fin : ∀ (D L : Addr) ρ' g' s', L ∉ FP env → s₁.heap.get? L = none → LoopSt C (compEnvC sc (clOf env sc.names []) L env) loc₀ ρ₁ g₁ s₁ I D st₁.n ρ' g' st' s' → compPost (model C.prog C.w) A F0 use Q (.ref D) L (.ok .next) s') :
    wpAny (model C.prog C.w) A (newList []) (fun acc s₃ => wpAny (model C.prog C.w) A (newFunctionEnv sc env.globals (clOf env sc.names []) [] env.qual none .none (some env)) (fun cenv s₄ =>
      codeAny (model C.prog C.w) A (.compStart (.ListComp elt [⟨target, iter, [], 0⟩] sc pos) 0 (.ref I) acc { cenv with scope := relabel sc env }) (compPost (model C.prog C.w) A F0 use Q acc cenv.locals) s₄) F0 s₃) F0 s₂ := by
  refine wpAny_newObj_type (wpAny_newFunctionEnv hc.cell (by intro y hy; simp at hy) (fun h₁ hns hsb => ?_) hk)
  obtain ⟨J₃, x₃⟩ := J₂.newList (W := []) (xs := []) (vs := []) .nil
  dsimp only at hns hsb ⊢
  generalize hD : s₂.heap.objs.size = D at *
  have hD' : s₂.heap.get? D = none := hD ▸ none_size _
  generalize hL : (s₂.heap.push { cls := .type "list", dict := none, data := .seq ([] : List Value).toArray }).objs.size = L at *
  have hLD : L ≠ D := by rw [← hL, ← hD, Heap.size_push]; exact Nat.succ_ne_self _
  have hL₂ : s₂.heap.get? L = none := by
    cases e : s₂.heap.get? L with
    | none => rfl
    | some o => exact absurd (Heap.lt_size e) (by rw [← hL, Heap.size_push]; exact Nat.not_lt.mpr (Nat.le_succ _))
  have hL₁ : s₁.heap.get? L = none := by
    cases e : s₁.heap.get? L with
    | none => rfl
    | some o => obtain ⟨o', e'⟩ := x₂.live _ _ e; rw [hL₂] at e'; cases e'
  have hk3 : ∀ b o, (s₂.heap.push { cls := .type "list", dict := none, data := .seq ([] : List Value).toArray }).get? b = some o → h₁.get? b = some o := fun b o e =>
    (hsb.2 b (fun q => absurd (Heap.lt_size e) (by rw [q, ← hL]; exact Nat.lt_irrefl _))).trans (Heap.get?_push_of_some _ e)
  have x₄ : Ex [] (ρ₁ ++ [D]) g₁ { s₂ with heap := s₂.heap.push { cls := .type "list", data := .seq ([] : List Value).toArray } } (ρ₁ ++ [D]) g₁ { s₂ with heap := h₁, toks := s₂.toks + ([] : List (Str × Value)).length } := Ex.keepHeap (s := { s₂ with heap := s₂.heap.push { cls := .type "list", data := .seq ([] : List Value).toArray } }) hk3 (Nat.le_add_right _ _)
  have J₄ : Inv C (ρ₁ ++ [D]) g₁ (push st₁ (.list [])) { s₂ with heap := h₁, toks := s₂.toks + ([] : List (Str × Value)).length } := J₃.heap (tk := s₂.toks + ([] : List (Str × Value)).length) hk3 (Nat.le_add_right _ _)
  have hLf : L ∉ FP env := fresh_fp V₁ hL₁
  have hLρ : L ∉ ρ₁ ++ [D] := fun q => by
    rcases List.mem_append.mp q with q | q
    · exact (fresh_of J₁ hL₁).1 q
    · exact hLD (List.mem_singleton.mp q)
  have hIL : I ≠ L := fun q => by rw [q, hL₂] at hoI; cases hoI
  have hID : I ≠ D := fun q => by rw [q, hD'] at hoI; cases hoI
  have hIf : I ∉ FP env := fresh_fp V₁ hI
  have xx : Ex [] ρ₁ g₁ s₁ (ρ₁ ++ [D]) g₁ { s₂ with heap := h₁, toks := s₂.toks + ([] : List (Str × Value)).length } := (x₂.trans x₃).trans x₄
  have V₄ := (V₁.ex xx).comp (loc₀ := loc₀) hh hn hk hc hns hLρ (fresh_of J₁ hL₁).2 hLf hsub
  have S : LoopSt C (compEnvC sc (clOf env sc.names []) L env) loc₀ ρ₁ g₁ s₁ I D st₁.n (ρ₁ ++ [D]) g₁ (push st₁ (.list [])) { s₂ with heap := h₁, toks := s₂.toks + ([] : List (Str × Value)).length } :=
    ⟨xx, J₄, V₄, fun q => by
      rcases List.mem_append.mp q with q | q
      · exact (fresh_of J₁ hI).1 q
      · exact hID (List.mem_singleton.mp q), by rw [← J₁.len]; simp⟩
  have hfree : ∀ y ∈ sc.names, y.2 = .free → ∃ c, env.cells.lookup y.1 = some c := fun y hy hf => hh y.1 (by
    show env.scope.names.lookup y.1 = _
    rw [hn]; exact hc.free y hy hf)
  have hFix : LoopFix C (compEnvC sc (clOf env sc.names []) L env) s₁ I := ⟨hI, hL₁, fun q => by
    rcases List.mem_cons.mp q with q | q
    · exact hIL q
    · obtain ⟨p, hp, e⟩ := List.mem_map.mp q
      refine hIf ?_
      rw [← e]
      exact mem_FP_cell (mem_of_lookup ((clOf_sub _ _ hfree hp).resolve_left (fun q => nomatch q))), (fresh_of J₁ hI).2⟩
  have hoI4 : h₁.get? I = some oI := hk3 I oI (Heap.get?_push_of_some _ hoI)
  have go : codeAny (model C.prog C.w) A (.compLoop (.ListComp elt [⟨target, iter, [], 0⟩] sc pos) 0 (.ref I) (.ref D) (compEnvC sc (clOf env sc.names []) L env)) (compPost (model C.prog C.w) A F0 use Q (.ref D) L) { s₂ with heap := h₁, toks := s₂.toks + ([] : List (Str × Value)).length } :=
    loop D L _ _ hFix S hoI4 fun ρ' g' s' S' => fin D L ρ' g' s' hLf hL₁ S'
  exact codeAny_compStart_list go (hself _ _ _ hoI4 go)

theorem comp_fin {I D L : Addr} {ρ' : List Addr} {g' : Nat → List Nat} {s' : Shared} {cenv : Env} (hL : cenv.locals = L) (hL₁ : s₁.heap.get? L = none) {acc : Nat} (S : LoopSt C cenv loc₀ ρ₁ g₁ s₁ I D acc ρ' g' st' s') (x : Ex [] ρ g s ρ₁ g₁ s₁) :
    compPost (model C.prog C.w) A F0 none (RQ C [] ρ g s (.ref acc) st') (.ref D) L (.ok .next) s' := by
  subst hL
  obtain ⟨m, hm⟩ := S.V.ns
  refine ⟨m, hm, fun h' hs => ?_⟩
  have hLa := S.V.away cenv.locals (.head _)
  exact ⟨ρ', g', x.trans (S.x.after hL₁ hs.extBut (tk := s'.toks) (Nat.le_refl _)), S.J.other hLa.1 hLa.2 hs.extBut (tk := s'.toks) (Nat.le_refl _), D, S.d, rfl⟩

/-- a turn of a comprehension with one name -/
theorem turn1 (HE : OkE C N ih.e) (R : Rm A N) {v : Nat} (hv : v < NV) {elt : X} {e : Expr} {p : Pos} {L : Addr} (hn : env.scope.names = ns) (hke : env.scope.kind = .function) (hx : sc.names.lookup (nmS v) = some .local) (he : RelE (inner sc.names ns) elt e) :
    CTurnOk C A (compEnvC sc (clOf env sc.names []) L env) (.Name (nmS v) p) e (wipe v loc) loc (fun x loc st => ih.e elt (put v x loc) st) := by
  intro ρ g st st1 s u y w V J hu h
  have hloc : (compEnvC sc (clOf env sc.names []) L env).kindOf (nmS v) = some .local := lookup_relabel_local hx
  refine wpAny_mono (asg1 (W := [L]) V J ⟨hv, .inl hloc⟩ (LW.lcl hloc) hu) (fun _ s₂ q => ?_) F0le
  obtain ⟨x₂, J₂, V₂⟩ := q
  have V₂' : EnvOk C (compEnvC sc (clOf env sc.names []) L env) (put v u loc) ρ g s₂ := V₂.sub fun i u' hl => by
    rw [look_put] at hl ⊢
    by_cases q : v = i
    · rw [if_pos q] at hl ⊢; exact hl
    · rw [if_neg q] at hl ⊢; rw [look_wipe, if_neg (Ne.symm q)]; exact hl
  refine wpAny_mono (HE he R (relabel_names hn hke) V₂' J₂ h) (fun w s₃ q => ?_) F0le
  obtain ⟨ρ₃, g₃, x₃, J₃, r₃⟩ := q
  exact ⟨ρ₃, g₃, x₂.trans x₃.any, J₃, (V₂.ex x₃).sub (fun i u' hl => by
    rw [look_put, look_wipe]
    rw [look_wipe] at hl
    by_cases q : i = v
    · rw [if_pos q] at hl; cases hl
    · rw [if_neg q] at hl; rw [if_neg (Ne.symm q), if_neg q]; exact hl), r₃⟩
theorem turn2 (HE : OkE C N ih.e) (R : Rm A N) {v w : Nat} (hv : v < NV) (hw : w < NV) {elt : X} {e : Expr} {k : Nat} {p q p3 : Pos} {L : Addr} (hn : env.scope.names = ns) (hke : env.scope.kind = .function) (hx : sc.names.lookup (nmS v) = some .local) (hy : sc.names.lookup (nmS w) = some .local)
    (he : RelE (inner sc.names ns) elt e) :
    CTurnOk C A (compEnvC sc (clOf env sc.names []) L env) (.Tuple [.Name (nmS v) p, .Name (nmS w) q] k p3) e (wipe w (wipe v loc)) loc (fun x loc st => match un2 st x with
        | some (a, b) => ih.e elt (put w b (put v a loc)) st
        | none => none) := by
  intro ρ g st st1 s u y z V J hu h
  dsimp only at h
  have hlv : (compEnvC sc (clOf env sc.names []) L env).kindOf (nmS v) = some .local := lookup_relabel_local hx
  have hlw : (compEnvC sc (clOf env sc.names []) L env).kindOf (nmS w) = some .local := lookup_relabel_local hy
  split at h
  · next a b e2 =>
    refine wpAny_mono (asg2 (W := [L]) R V J ⟨hv, .inl hlv⟩ ⟨hw, .inl hlw⟩ (LW.lcl hlv) (LW.lcl hlw) e2 hu) (fun _ s₂ q => ?_) F0le
    obtain ⟨x₂, J₂, V₂⟩ := q
    have V₂' : EnvOk C (compEnvC sc (clOf env sc.names []) L env) (put w b (put v a loc)) ρ g s₂ := V₂.sub fun i u' hl => by
      rw [look_put, look_put] at hl ⊢
      by_cases q : w = i
      · rw [if_pos q] at hl ⊢; exact hl
      · rw [if_neg q] at hl ⊢
        by_cases q2 : v = i
        · rw [if_pos q2] at hl ⊢; exact hl
        · rw [if_neg q2] at hl ⊢; rw [look_wipe, if_neg (Ne.symm q), look_wipe, if_neg (Ne.symm q2)]; exact hl
    refine wpAny_mono (HE he R (relabel_names hn hke) V₂' J₂ h) (fun w' s₃ q => ?_) F0le
    obtain ⟨ρ₃, g₃, x₃, J₃, r₃⟩ := q
    exact ⟨ρ₃, g₃, x₂.trans x₃.any, J₃, (V₂.ex x₃).sub (fun i u' hl => by
      rw [look_put, look_put, look_wipe, look_wipe]
      rw [look_wipe, look_wipe] at hl
      by_cases q : i = w
      · rw [if_pos q] at hl; cases hl
      · rw [if_neg q] at hl
        by_cases q2 : i = v
        · rw [if_pos q2] at hl; cases hl
        · rw [if_neg q2] at hl; rw [if_neg (Ne.symm q), if_neg (Ne.symm q2), if_neg q, if_neg q2]; exact hl), r₃⟩
  · cases h
theorem go2 {k : Nat} {es : List Expr} {p3 : Pos} {f : MV → Loc → St → Option (MV × St)} (hf : ∀ u st r, f u loc st = some r → ∃ ab, un2 st u = some ab) : CGoOk C A (.Tuple es k p3) loc f := by
  intro I ad i ρ g st s u v r Q E hl J hu h hq
  obtain ⟨⟨a, b⟩, e⟩ := hf _ _ _ h
  obtain ⟨T, x, y, m, rfl, _⟩ := two_vals J e hu
  exact wpAny_letOwnedTupleGo_listiter hl hq
theorem go1 {x : Str} {p : Pos} {f : MV → Loc → St → Option (MV × St)} : CGoOk C A (.Name x p) loc f := by
  intro I ad i ρ g st s u v r Q E hl J hu h hq
  exact wpAny_pure hq

theorem sub1 {v : Nat} (hv : v < NV) : ∀ i u, i < NV → look i (wipe v loc) = some u → look i loc = some u ∧ nmS i ∉ [nmS v] := by
  intro i u hi h
  rw [look_wipe] at h
  by_cases q : i = v
  · rw [if_pos q] at h; cases h
  · rw [if_neg q] at h
    exact ⟨h, fun m => q (nm_inj i hi v hv (List.mem_singleton.mp m))⟩
theorem sub2 {v w : Nat} (hv : v < NV) (hw : w < NV) : ∀ i u, i < NV → look i (wipe w (wipe v loc)) = some u → look i loc = some u ∧ nmS i ∉ [nmS v, nmS w] := by
  intro i u hi h
  rw [look_wipe, look_wipe] at h
  by_cases q : i = w
  · rw [if_pos q] at h; cases h
  · rw [if_neg q] at h
    by_cases q2 : i = v
    · rw [if_pos q2] at h; cases h
    · rw [if_neg q2] at h
      refine ⟨h, fun m => ?_⟩
      rcases List.mem_cons.mp m with m | m
      · exact q2 (nm_inj i hi v hv m)
      · exact q (nm_inj i hi w hw (List.mem_singleton.mp m))

theorem hfreeOf (hh : Has env) (hn : env.scope.names = ns) (hc : CompOk sc.names ns vs) : ∀ y ∈ sc.names, y.2 = .free → ∃ c, env.cells.lookup y.1 = some c := fun y hy hf => hh y.1 (by
    show env.scope.names.lookup y.1 = _
    rw [hn]; exact hc.free y hy hf)

/-- the iterator over a list of the store -/
theorem iter_list (J : Inv C ρ g st s) {id : Nat} {ad : Addr} (hid : ρ[id]? = some ad) {xs : List MV} (hx : getO st id = some (.list xs)) {Q : Value → Shared → Prop} {E : Value → Shared → Prop}
    (h : ∀ (I : Addr) (oI : Obj) (h' : Heap), s.heap.get? I = none → (∀ b o, s.heap.get? b = some o → h'.get? b = some o) → h'.get? I = some oI → (∀ (h₂ : Heap), h₂.get? I = some oI → h₂.IsListIter I ad 0) → Q (.ref I) { s with heap := h' }) :
    wpAny (model C.prog C.w) A (pyIter (.ref ad)) Q E s := by
  obtain ⟨vs, m, hvs, rs⟩ := J.get hx hid
  exact wpAny_pyIter_list hvs.isList (h s.heap.objs.size { cls := .type "list_iterator", data := .fields #[.ref ad, .int 0 0] } _ (none_size _) (pushed _ _) (Heap.get?_push_size _ rfl) fun h₂ e => ⟨_, e, rfl, rfl⟩)

theorem lcL_some {f : MV → Loc → St → Option (MV × St)} {id acc : Nat} {k : Nat} (h : lcL f id acc loc k 0 st = some st') : ∃ xs, getO st id = some (.list xs) := by
  cases k with
  | zero => cases h
  | succ k =>
    simp only [lcL] at h
    split at h
    · next xs e => exact ⟨xs, e⟩
    · cases h
theorem getO_push_some {o : MO} {id : Nat} {xs : List MV} (h : getO (push st o) id = some (.list xs)) (hid : id < st.n) : getO st id = some (.list xs) := by
  rw [getO_push, if_neg (Nat.ne_of_lt hid)] at h; exact h
theorem lt_n (J : Inv C ρ g st s) {id : Nat} {ad : Addr} (hid : ρ[id]? = some ad) : id < st.n := by
  rw [← J.len]
  rcases Nat.lt_or_ge id ρ.length with h | h
  · exact h
  · rw [List.getElem?_eq_none h] at hid; cases hid

/-- a comprehension over a list: any target, any use of the made list -/
theorem comp_list {x e target : Expr} {it : X} {pos : Pos} {use : Option (Value → Sem Unit)} {Q : Value → Shared → Prop} (HE : OkE C N ih.e) (R : Rm A N) (hit : RelE ns it x) (hn : env.scope.names = ns) (hh : Has env) (V : EnvOk C env loc ρ g s) (I : Inv C ρ g st s)
    (hk : sc.kind = .function) (hc : CompOk sc.names ns vs) (hf : ∀ env u, foldedSetIterable x env u = pure u) {id : Nat} {st1 : St} (e1 : ih.e it loc st = some (.ref id, st1)) {f : MV → Loc → St → Option (MV × St)} {k : Nat} (h : lcL f id st1.n loc k 0 (push st1 (.list [])) = some st')
    (hsub : ∀ i u, i < NV → look i loc₀ = some u → look i loc = some u ∧ nmS i ∉ vs) (T : ∀ L, CTurnOk C A (compEnvC sc (clOf env sc.names []) L env) target e loc₀ loc f) (G : CGoOk C A target loc f)
    (fin : ∀ ρ₁ g₁ s₁, Ex [] ρ g s ρ₁ g₁ s₁ → EnvOk C env loc ρ₁ g₁ s₁ → ∀ (I D L : Addr) ρ' g' s', L ∉ FP env → s₁.heap.get? L = none → LoopSt C (compEnvC sc (clOf env sc.names []) L env) loc₀ ρ₁ g₁ s₁ I D st1.n ρ' g' st' s' → compPost (model C.prog C.w) A F0 use Q (.ref D) L (.ok .next) s') :
    wpAny (model C.prog C.w) A (comprehension (.ListComp e [⟨target, x, [], 0⟩] sc pos) sc env (firstIterPos [⟨target, x, [], 0⟩] pos) (newList []) false (eval x env) use) Q F0 s := by
  refine wpAny_comprehension_free (use := use) rfl (hf env) (closure_cl (hfreeOf hh hn hc)) hk hc.loc (wpAny_mono (HE hit R hn V I e1) (fun v s₁ q => ?_) F0le)
  obtain ⟨ρ₁, g₁, x₁, J₁, ad, hid, rfl⟩ := q
  obtain ⟨xs, hxs⟩ := lcL_some h
  refine iter_list J₁ hid (getO_push_some hxs (lt_n J₁ hid)) fun I oI h' hI hk' hoI hl => ?_
  have V₁ := V.ex x₁
  refine comp_wrap (loc := loc) (loc₀ := loc₀) (st' := st') hh V₁ hn hk hc (Ex.keepHeap (tk := s₁.toks) hk' (Nat.le_refl _)) J₁ (J₁.heap (tk := s₁.toks) hk' (Nat.le_refl _)) hI hoI (fun s Q E hs hq => wpAny_pyIter_listiter (hl _ hs) hq) hsub (fun D L s₄ RR F S h4 hR => ?_) (fun D L ρ' g' s' hL hL₁ S => fin ρ₁ g₁ s₁ x₁ V₁ I D L ρ' g' s' hL hL₁ S)
  exact lcL_ok R F (T L) G hR S (hl _ h4) (by rw [List.getElem?_append_left (by rw [J₁.len]; exact lt_n J₁ hid)]; exact hid) h

theorem e_lc1 (HE : OkE C N ih.e) (R : Rm A N) {x e : Expr} {it elt : X} {v : Nat} (hv : v < NV) {p pos : Pos} (hit : RelE ns it x) (he : RelE (inner sc.names ns) elt e) (hn : env.scope.names = ns) (hh : Has env) (V : EnvOk C env loc ρ g s) (I : Inv C ρ g st s)
    (hk : sc.kind = .function) (hc : CompOk sc.names ns [nmS v]) (hx : sc.names.lookup (nmS v) = some .local) (hf : ∀ env u, foldedSetIterable x env u = pure u) (h : eStep ih n (.lc1 v it elt) loc st = some (u, st')) :
    wpAny (model C.prog C.w) A (eval (.ListComp e [⟨.Name (nmS v) p, x, [], 0⟩] sc pos) env) (RQ C [] ρ g s u st') F0 s := by
  simp only [eStep] at h
  split at h
  · next id st1 e1 =>
    simp only [Option.map_eq_some_iff] at h
    obtain ⟨st2, h, h2⟩ := h
    cases h2
    rw [eval_ListComp]
    exact comp_list HE R hit hn hh V I hk hc hf e1 h (sub1 hv) (fun L => turn1 HE R hv hn V.kind hx he) (go1 (f := fun x loc st => ih.e elt (put v x loc) st)) fun ρ₁ g₁ s₁ x₁ V₁ I D L ρ' g' s' hL hL₁ S => comp_fin rfl hL₁ S x₁
  · cases h
theorem un2f {ih : Ev} {elt : X} {v w : Nat} : ∀ u st r, (fun (x : MV) loc st => match un2 st x with
        | some (a, b) => ih.e elt (put w b (put v a loc)) st
        | none => none) u loc st = some r → ∃ ab, un2 st u = some ab := by
  intro u st r h
  dsimp only at h
  split at h
  · next a b e => exact ⟨_, e⟩
  · cases h
theorem e_lc2 (HE : OkE C N ih.e) (R : Rm A N) {x e : Expr} {it elt : X} {v w : Nat} (hv : v < NV) (hw : w < NV) {k : Nat} {p q p3 pos : Pos} (hit : RelE ns it x) (he : RelE (inner sc.names ns) elt e) (hn : env.scope.names = ns) (hh : Has env) (V : EnvOk C env loc ρ g s) (I : Inv C ρ g st s)
    (hk : sc.kind = .function) (hc : CompOk sc.names ns [nmS v, nmS w]) (hx : sc.names.lookup (nmS v) = some .local) (hy : sc.names.lookup (nmS w) = some .local) (hf : ∀ env u, foldedSetIterable x env u = pure u) (h : eStep ih n (.lc2 v w it elt) loc st = some (u, st')) :
    wpAny (model C.prog C.w) A (eval (.ListComp e [⟨.Tuple [.Name (nmS v) p, .Name (nmS w) q] k p3, x, [], 0⟩] sc pos) env) (RQ C [] ρ g s u st') F0 s := by
  simp only [eStep] at h
  split at h
  · next id st1 e1 =>
    simp only [Option.map_eq_some_iff] at h
    obtain ⟨st2, h, h2⟩ := h
    cases h2
    rw [eval_ListComp]
    exact comp_list HE R hit hn hh V I hk hc hf e1 h (sub2 hv hw) (fun L => turn2 HE R hv hw hn V.kind hx hy he) (go2 (f := fun (x : MV) loc st => match un2 st x with | some (a, b) => ih.e elt (put w b (put v a loc)) st | none => none) un2f) fun ρ₁ g₁ s₁ x₁ V₁ I D L ρ' g' s' hL hL₁ S => comp_fin rfl hL₁ S x₁
  · cases h
theorem s_asgC (HE : OkE C N ih.e) (R : Rm A N) {x e : Expr} {it elt : X} {v w i : Nat} (hv : v < NV) (hw : w < NV) (hi : i < NV) (hl : ns.lookup (nmS i) = some .local) {k : Nat} {p q p3 p0 pos spos : Pos} (hit : RelE ns it x) (he : RelE (inner sc.names ns) elt e) (hn : env.scope.names = ns) (hh : Has env)
    (V : EnvOk C env loc ρ g s) (I : Inv C ρ g st s)
    (hk : sc.kind = .function) (hc : CompOk sc.names ns [nmS v, nmS w]) (hx : sc.names.lookup (nmS v) = some .local) (hy : sc.names.lookup (nmS w) = some .local) (hf : ∀ env u, foldedSetIterable x env u = pure u)
    (hs : swapsWith (.ListComp e [⟨.Tuple [.Name (nmS v) p, .Name (nmS w) q] k p3, x, [], 0⟩] sc pos) (some (.Name (nmS i) p0)) spos.line env = pure true) (h : eStep ih n (.lc2 v w it elt) loc st = some (u, st')) :
    wpAny (model C.prog C.w) A (exec (.Assign [.Name (nmS i) p0] (.ListComp e [⟨.Tuple [.Name (nmS v) p, .Name (nmS w) q] k p3, x, [], 0⟩] sc pos) spos) env) (SQ C env ρ g s .next (put i u loc) st') F0 s := by
  simp only [eStep] at h
  split at h
  · next id st1 e1 =>
    simp only [Option.map_eq_some_iff] at h
    obtain ⟨st2, h, h2⟩ := h
    cases h2
    rw [exec_Assign_Name_used _ _ _ _ hs]
    refine wpAny_bind (wpAny_standAt (wpAny_bind ?_))
    show wpAny _ A (do let _ ← comprehension (.ListComp e [⟨.Tuple [.Name (nmS v) p, .Name (nmS w) q] k p3, x, [], 0⟩] sc pos) sc env _ (newList []) false (eval x env) (some (assign (.Name (nmS i) p0) env))) _ _ s
    refine wpAny_bind (wpAny_mono (Q := fun _ s' => SQ C env ρ g s .next (put i (.ref st1.n) loc) st' .next s') ?_ (fun _ s' hq => wpAny_pure (wpAny_pure hq)) F0le)
    refine comp_list HE R hit hn hh V I hk hc hf e1 h (sub2 hv hw) (fun L => turn2 HE R hv hw hn V.kind hx hy he) (go2 (f := fun (x : MV) loc st => match un2 st x with | some (a, b) => ih.e elt (put w b (put v a loc)) st | none => none) un2f) fun ρ₁ g₁ s₁ x₁ V₁ I D L ρ' g' s' hL hL₁ S => ?_
    have hloc : env.kindOf (nmS i) = some .local := by show env.scope.names.lookup _ = _; rw [hn]; exact hl
    have hLa := S.V.away L (.head _)
    refine wpAny_mono (asg1 (W := FP env) (u := .ref st1.n) (V₁.ex S.x) S.J ⟨hi, .inl hloc⟩ (LW.fp i) ⟨D, S.d, rfl⟩) (fun _ s₃ q => ?_) F0le
    obtain ⟨x₃, J₃, V₃⟩ := q
    obtain ⟨m, hm⟩ := S.V.ns
    refine ⟨m, hm.at' fun o e => x₃.heap _ o hLa.1 hL e, fun h' hsb => ?_⟩
    have xx : Ex (FP env) ρ₁ g₁ s₁ ρ' g' s₃ := S.x.any.trans x₃
    exact ⟨ρ', g', (x₁.any (W := FP env)).trans (xx.after hL₁ hsb.extBut (tk := s₃.toks) (Nat.le_refl _)), J₃.other hLa.1 hLa.2 hsb.extBut (tk := s₃.toks) (Nat.le_refl _), V₃.other hL hsb.extBut (tk := s₃.toks) (Nat.le_refl _), rfl⟩
  · cases h
end
end Mine
end

section
set_option autoImplicit false
namespace Mine
section
variable {C : Cx} {W : List Addr} {N n : Nat} {ih : Ev} {ns : Nms} {A : Around} {env : Env} {loc loc' loc₀ : Loc} {ρ ρ₁ : List Addr} {g g₁ : Nat → List Nat} {st st' st₁ : St} {s s₁ s₂ : Shared} {sc : Scope} {vs : List Str} {u : MV} {fl : Fl} {p q p1 p2 p3 pos cp ap : Pos} {e it m : X} {x y : Expr}

/-! ranges -/
theorem range_size (k : Nat) : Builtin.Range.rangeSize 0 (k : Int) 1 = (k : Int) := by
  unfold Builtin.Range.rangeSize
  rw [if_pos (by decide)]
  by_cases h : (0 : Int) < (k : Int)
  · rw [if_pos h]; omega
  · rw [if_neg h]; omega
theorem range_small {k : Nat} (h : k ≤ 100000) : Builtin.Range.small 0 (k : Int) 1 = true := by
  unfold Builtin.Range.small
  rw [range_size]
  have f : ∀ z : Int, -(2 ^ 63) ≤ z → z < 2 ^ 63 → Builtin.Range.rangeFitsLong z = true := by
    intro z h1 h2
    unfold Builtin.Range.rangeFitsLong
    exact Bool.and_eq_true_iff.mpr ⟨decide_eq_true h1, decide_eq_true h2⟩
  rw [f 0 (by decide) (by decide), f (k : Int) (by omega) (by omega), f 1 (by decide) (by decide)]
  simp only [Bool.and_self, Bool.true_and]
  rw [if_pos (by decide), f _ (by omega) (by omega)]
  simp
/-- range(n), and its iterator -/
theorem range_it (O : CxOk C) (HE : OkE C N ih.e) (R : Rm A N) (hm : RelE ns m x) (hn : env.scope.names = ns) (V : EnvOk C env loc ρ g s) (I : Inv C ρ g st s) (hg : isG ns "range") {k j : Nat} {st1 : St} (hk : k ≤ 100000) (h : ih.e m loc st = some (.int (.c (.ofNat k)) j, st1)) {Q : Value → Shared → Prop}
    (hQ : ∀ ρ₁ g₁ s₁, Ex [] ρ g s ρ₁ g₁ s₁ → Inv C ρ₁ g₁ st1 s₁ → ∀ (J : Addr) (h' : Heap), s₁.heap.get? J = none → (∀ b o, s₁.heap.get? b = some o → h'.get? b = some o) → IsRangeIter h' J 0 k 1 → Q (.ref J) { s₁ with heap := h' }) :
    wpAny (model C.prog C.w) A (eval (.Call (.Name "range" p1) [x] [] p2) env) (fun v s₁ => wpAny (model C.prog C.w) A (pyIter v) Q F0 s₁) F0 s := by
  refine Call_ (ld_boot O I V (by rw [hn]; exact hg) O.range ?_ (by decide))
  refine callWith_type1 (args_cons (wpAny_mono (HE hm R hn V I h) (fun v s₁ q => args_nil ?_) F0le) (hm.star _ _)) (hm.star _ _)
  obtain ⟨ρ₁, g₁, x₁, J₁, t, hv, _⟩ := q
  have hv : v = .int (k : Int) t := hv
  subst hv
  refine call_range_1 (wpAny_pyIter_range (a := 0) (b := (k : Int)) (c := 1) (Heap.get?_push_size _ rfl) (range_small hk) ?_)
  rw [range_size]
  generalize hr : s₁.heap.push { cls := .type "range", data := .fields #[.int 0 s₁.toks, .int (k : Int) t, .int 1 (s₁.toks + 1)] } = H
  have hkk : ∀ b o, s₁.heap.get? b = some o → H.get? b = some o := fun b o e => by rw [← hr]; exact Heap.get?_push_of_some _ e
  have x₂ : Ex [] ρ₁ g₁ s₁ ρ₁ g₁ { s₁ with heap := H, toks := s₁.toks + 1 + 1 } := Ex.keepHeap hkk (by omega)
  have J₂ := J₁.heap (h' := H) (tk := s₁.toks + 1 + 1) hkk (by omega)
  exact hQ ρ₁ g₁ { s₁ with heap := H, toks := s₁.toks + 1 + 1 } (x₁.trans x₂) J₂ H.objs.size _ (none_size _) (pushed _ _) (Heap.get?_push_size _ rfl)

theorem e_lcR (O : CxOk C) (HE : OkE C N ih.e) (R : Rm A N) {f : Expr} {elt : X} {v : Nat} (hv : v < NV) (hm : RelE ns m x) (he : RelE (inner sc.names ns) elt f) (hn : env.scope.names = ns) (hh : Has env) (V : EnvOk C env loc ρ g s) (I : Inv C ρ g st s)
    (hk : sc.kind = .function) (hc : CompOk sc.names ns [nmS v]) (hx : sc.names.lookup (nmS v) = some .local) (hg : isG ns "range") (h : eStep ih n (.lcR v m elt) loc st = some (u, st')) :
    wpAny (model C.prog C.w) A (eval (.ListComp f [⟨.Name (nmS v) p, .Call (.Name "range" p1) [x] [] p2, [], 0⟩] sc pos) env) (RQ C [] ρ g s u st') F0 s := by
  simp only [eStep] at h
  split at h
  · next k j st1 e1 =>
    split at h
    · next hb =>
      have hb := Nat.le_of_ble_eq_true hb
      simp only [Option.map_eq_some_iff] at h
      obtain ⟨st2, h, h2⟩ := h
      cases h2
      rw [eval_ListComp]
      refine wpAny_comprehension_free (use := none) rfl (fun _ => rfl) (closure_cl (hfreeOf hh hn hc)) hk hc.loc (range_it O HE R hm hn V I hg hb e1 fun ρ₁ g₁ s₁ x₁ J₁ J h' hJ hk' hoJ => ?_)
      have V₁ := V.ex x₁
      refine comp_wrap (loc := loc) (loc₀ := wipe v loc) (st' := st') hh V₁ hn hk hc (Ex.keepHeap (tk := s₁.toks) hk' (Nat.le_refl _)) J₁ (J₁.heap (tk := s₁.toks) hk' (Nat.le_refl _)) hJ hoJ (fun s Q E hs hq => wpAny_pyIter_rangeiter hs hq) (sub1 hv)
        (fun D L s₄ RR F S h4 hR => lcR_ok R F (turn1 HE R hv hn V.kind hx he) (fun _ => rfl) hR hb S h4 h) (fun D L ρ' g' s' hL hL₁ S => comp_fin rfl hL₁ S x₁)
    · cases h
  · cases h

/-! statements -/
theorem s_asg (HE : OkE C N ih.e) (R : Rm A N) {i : Nat} (hi : i < NV) (hl : isLC ns (nmS i)) (he : RelE ns e x) (hn : env.scope.names = ns) (hh : Has env) (V : EnvOk C env loc ρ g s) (I : Inv C ρ g st s) (hs : swapsWith x (some (.Name (nmS i) p)) pos.line env = pure false)
    (h : ih.e e loc st = some (u, st')) : wpAny (model C.prog C.w) A (exec (.Assign [.Name (nmS i) p] x pos) env) (SQ C env ρ g s .next (put i u loc) st') F0 s := by
  refine wpAny_Assign_Name (wpAny_mono (HE he R hn V I h) (fun v s₁ q => ?_) F0le) hs
  obtain ⟨ρ₁, g₁, x₁, J₁, r₁⟩ := q
  have hst := Stb.of hi hh (by rw [hn]; exact hl)
  exact st_var J₁ (V.ex x₁) hst.1 hst.2 r₁ (LW.fp i) fun s₂ x₂ J₂ V₂ => ⟨ρ₁, g₁, x₁.any.trans x₂, J₂, V₂, rfl⟩
theorem s_asg2 (HE : OkE C N ih.e) (R : Rm A N) {i j k : Nat} (hi : i < NV) (hj : j < NV) (hl : isLC ns (nmS i)) (hm : isLC ns (nmS j)) (he : RelE ns e x) (hn : env.scope.names = ns) (hh : Has env) (V : EnvOk C env loc ρ g s) (I : Inv C ρ g st s)
    (hw : swappedStores [.Tuple [.Name (nmS i) p, .Name (nmS j) q] k p3] x env = pure none) (hso : swapsWithSole [.Tuple [.Name (nmS i) p, .Name (nmS j) q] k p3] x pos.line env = pure false)
    (h : ih.e e loc st = some (u, st')) {a b : MV} (h2 : un2 st' u = some (a, b)) : wpAny (model C.prog C.w) A (exec (.Assign [.Tuple [.Name (nmS i) p, .Name (nmS j) q] k p3] x pos) env) (SQ C env ρ g s .next (put j b (put i a loc)) st') F0 s := by
  refine Assign_Tuple (wpAny_mono (HE he R hn V I h) (fun v s₁ q => ?_) F0le) hso hw
  obtain ⟨ρ₁, g₁, x₁, J₁, r₁⟩ := q
  refine wpAny_mono (asg2 (W := FP env) R (V.ex x₁) J₁ (Stb.of hi hh (by rw [hn]; exact hl)) (Stb.of hj hh (by rw [hn]; exact hm)) (LW.fp i) (LW.fp j) h2 r₁) (fun _ s₂ q => ?_) F0le
  obtain ⟨x₂, J₂, V₂⟩ := q
  exact ⟨ρ₁, g₁, x₁.any.trans x₂, J₂, V₂, rfl⟩
theorem es2 {i j : Nat} {a b : MV} (hij : i ≠ j) (V : EnvOk C env (put i a (put j b loc)) ρ g s) : EnvOk C env (put j b (put i a loc)) ρ g s := V.sub fun k u hl => by
  rw [look_put, look_put] at hl ⊢
  by_cases h1 : j = k
  · rw [if_pos h1] at hl; rw [if_neg (fun z => hij (z.trans h1.symm)), if_pos h1]; exact hl
  · rw [if_neg h1] at hl; rw [if_neg h1]; exact hl
theorem s_asgT (HE : OkE C N ih.e) (R : Rm A N) {i j k k2 : Nat} {f : X} {p4 : Pos} (hi : i < NV) (hj : j < NV) (hij : i ≠ j) (hl : isLC ns (nmS i)) (hm : isLC ns (nmS j)) (he : RelE ns e x) (hf : RelE ns f y) (hn : env.scope.names = ns) (hh : Has env) (V : EnvOk C env loc ρ g s) (I : Inv C ρ g st s)
    (hw : swappedStores [.Tuple [.Name (nmS i) p, .Name (nmS j) q] k p3] (.Tuple [x, y] k2 p4) env = pure none ∨ swappedStores [.Tuple [.Name (nmS i) p, .Name (nmS j) q] k p3] (.Tuple [x, y] k2 p4) env = pure (some [nmS i, nmS j])) {a b : MV}
    (h : esOf ih.e [e, f] loc st = some ([a, b], st')) : wpAny (model C.prog C.w) A (exec (.Assign [.Tuple [.Name (nmS i) p, .Name (nmS j) q] k p3] (.Tuple [x, y] k2 p4) pos) env) (SQ C env ρ g s .next (put j b (put i a loc)) st') F0 s := by
  have hsi : Stb env i := Stb.of hi hh (by rw [hn]; exact hl)
  have hsj : Stb env j := Stb.of hj hh (by rw [hn]; exact hm)
  have ev : ∀ (Q : Value → Shared → Prop), (∀ ρ₁ g₁ s₁ T v w k, Ex [] ρ g s ρ₁ g₁ s₁ → (∃ st1, Inv C ρ₁ g₁ st' s₁ ∧ st1 = st') → IsT s₁.heap T #[v, w] k → VR C ρ₁ g₁ s₁.toks a v → VR C ρ₁ g₁ s₁.toks b w → Q (.ref T) s₁) → wpAny (model C.prog C.w) A (eval (.Tuple [x, y] k2 p4) env) Q F0 s := by
    intro Q hQ
    refine wpAny_Tuple (wpAny_mono (es_ok HE R hn (.cons he (.cons hf .nil)) V I h) (fun ws s₁ q => ?_) F0le)
    obtain ⟨ρ₁, g₁, x₁, J₁, r₁⟩ := q
    refine ⟨by rw [r₁.length]; show (2 : Nat) ≤ 2 ^ 24; decide, ?_⟩
    cases r₁ with
    | @cons _ v _ _ ra r₁ =>
      cases r₁ with
      | @cons _ w _ _ rb r₁ =>
        cases r₁
        have x₂ : Ex [] ρ₁ g₁ s₁ ρ₁ g₁ { s₁ with heap := s₁.heap.push { cls := .type "tuple", data := .seq [v, w].toArray } } := Ex.keepHeap (tk := s₁.toks) (pushed _ _) (Nat.le_refl _)
        exact hQ ρ₁ g₁ _ _ _ _ 0 (x₁.trans x₂) ⟨st', J₁.heap (tk := s₁.toks) (pushed _ _) (Nat.le_refl _), rfl⟩ (Heap.get?_push_size _ rfl) ra rb
  rcases hw with hw | hw
  · refine Assign_Tuple (ev _ fun ρ₁ g₁ s₁ T v w m x₁ J₁ hT ra rb => ?_) rfl hw
    obtain ⟨_, J₁, _⟩ := J₁
    refine assign_Tuple_tuple (items := #[v, w]) R.hh ⟨_, hT, rfl, _, rfl⟩ rfl rfl fun h' hx => ?_
    have hk : ∀ b o, s₁.heap.get? b = some o → h'.get? b = some o := fun b o e => hx b o (fun q => by rw [q] at e; exact absurd (Heap.lt_size e) (Nat.lt_irrefl _)) e
    have x₀ : Ex [] ρ₁ g₁ s₁ ρ₁ g₁ { s₁ with heap := h' } := Ex.keepHeap (tk := s₁.toks) hk (Nat.le_refl _)
    have J₀ := J₁.heap (tk := s₁.toks) hk (Nat.le_refl _)
    refine wpAny_assignInOrder_more (assign_Name (st_var J₀ (V.ex (x₁.trans x₀)) hsi.1 hsi.2 (ra.ex x₀) (LW.fp i) fun s₂ x₂ J₂ V₂ => ?_))
    refine wpAny_assignInOrder_more (assign_Name (st_var J₂ V₂ hsj.1 hsj.2 ((rb.ex x₀).ex x₂) (LW.fp j) fun s₃ x₃ J₃ V₃ => ?_))
    exact wpAny_assignInOrder_none ⟨ρ₁, g₁, ((x₁.trans x₀).any.trans x₂).trans x₃, J₃, V₃, rfl⟩
  · refine Assign_Tuple_swapped (names := [nmS i, nmS j]) (ev _ fun ρ₁ g₁ s₁ T v w m x₁ J₁ hT ra rb => ?_) rfl hw
    obtain ⟨_, J₁, _⟩ := J₁
    refine unpackItems_tuple (items := #[v, w]) R.hh ⟨_, hT, rfl, _, rfl⟩ fun h' hx => ?_
    have hk : ∀ b o, s₁.heap.get? b = some o → h'.get? b = some o := fun b o e => hx b o (fun q => by rw [q] at e; exact absurd (Heap.lt_size e) (Nat.lt_irrefl _)) e
    have x₀ : Ex [] ρ₁ g₁ s₁ ρ₁ g₁ { s₁ with heap := h' } := Ex.keepHeap (tk := s₁.toks) hk (Nat.le_refl _)
    have J₀ := J₁.heap (tk := s₁.toks) hk (Nat.le_refl _)
    show wpAny _ A (assignInOrder [bindName env (nmS j), bindName env (nmS i)] [w, v]) _ F0 _
    refine wpAny_assignInOrder_more (bindName_ (st_var J₀ (V.ex (x₁.trans x₀)) hsj.1 hsj.2 (rb.ex x₀) (LW.fp j) fun s₂ x₂ J₂ V₂ => ?_))
    refine wpAny_assignInOrder_more (bindName_ (st_var J₂ V₂ hsi.1 hsi.2 ((ra.ex x₀).ex x₂) (LW.fp i) fun s₃ x₃ J₃ V₃ => ?_))
    exact wpAny_assignInOrder_none ⟨ρ₁, g₁, ((x₁.trans x₀).any.trans x₂).trans x₃, J₃, es2 hij V₃, rfl⟩

theorem s_app (HE : OkE C N ih.e) (R : Rm A N) {v id : Nat} (hv : v < NV) (hc : isLC ns (nmS v)) (he : RelE ns e x) (hn : env.scope.names = ns) (V : EnvOk C env loc ρ g s) (I : Inv C ρ g st s) (hl : (ap.endLine == cp.line) = true) (hk : look v loc = some (.ref id)) {st1 : St}
    (h : ih.e e loc st = some (u, st1)) (h2 : appO st1 id u = some st') {xs₀ : List MV} (h0 : getO st id = some (.list xs₀)) : wpAny (model C.prog C.w) A (exec (.Expr (.Call (.Attribute (.Name (nmS v) p) "append" ap) [x] [] cp) pos) env) (SQ C env ρ g s .next loc st') F0 s := by
  refine wpAny_Expr (wpAny_mono (Q := RQ C [] ρ g s .none st') ?_ (fun v s₁ q => ?_) F0le) (by unfold interactive; rw [V.kind]; rfl) rfl
  · refine Call_method1 rfl (he.star _ _) hl (ld_var V hv (by rw [hn]; exact hc) hk fun w hw => ?_)
    obtain ⟨ad, ea, rfl⟩ := hw
    obtain ⟨vs, k, hvs, rs⟩ := I.get h0 ea
    exact ⟨"list", "list.append", F.plainAttrs_list, F.slot_list_append, F.type_list_append, hvs.isList.typeIs, (fun a e => by cases e; exact ⟨_, hvs, rfl⟩), app_ok ea (HE he R hn V I h) h2⟩
  · obtain ⟨ρ₁, g₁, x₁, J₁, r₁⟩ := q
    cases r₁
    exact ⟨ρ₁, g₁, x₁.any, J₁, V.ex x₁, rfl⟩
theorem s_popS {v id k : Nat} {w : PE} (hv : v < NV) (hc : isLC ns (nmS v)) (hn : env.scope.names = ns) (V : EnvOk C env loc ρ g s) (I : Inv C ρ g st s) (hl : (ap.endLine == cp.line) = true) (hk : look v loc = some (.ref id))
    (h : popO st id = some (.int w k, st')) : wpAny (model C.prog C.w) A (exec (.Expr (.Call (.Attribute (.Name (nmS v) p) "pop" ap) [] [] cp) pos) env) (SQ C env ρ g s .next loc st') F0 s := by
  refine wpAny_Expr (wpAny_mono (popM (hv := hv) hc hn V I hl hk h) (fun v s₁ q => ?_) F0le) (by unfold interactive; rw [V.kind]; rfl) rfl
  obtain ⟨ρ₁, g₁, x₁, J₁, t, rfl, _⟩ := q
  exact ⟨ρ₁, g₁, x₁.any, J₁, V.ex x₁, rfl⟩
theorem s_callS (O : CxFn C) (HE : OkE C N ih.e) (HC : OkC C N ih.c) (R : Rm A N) {as : List X} {xs : List Expr} (ha : RelEs ns as xs) (hn : env.scope.names = ns) (V : EnvOk C env loc ρ g s) (I : Inv C ρ g st s) {k : Nat} {f : Str} (hf : f = fnS k) (hg : isG ns f) {us : List MV} {st1 : St}
    (h1 : esOf ih.e as loc st = some (us, st1)) (h2 : ih.c k us st1 = some (.none, st')) : wpAny (model C.prog C.w) A (exec (.Expr (.Call (.Name f p) xs [] cp) pos) env) (SQ C env ρ g s .next loc st') F0 s := by
  refine wpAny_Expr (wpAny_mono (callM O HE HC R ha hn V I hf hg h1 h2) (fun v s₁ q => ?_) F0le) (by unfold interactive; rw [V.kind]; rfl) rfl
  obtain ⟨ρ₁, g₁, x₁, J₁, r₁⟩ := q
  cases r₁
  exact ⟨ρ₁, g₁, x₁.any, J₁, V.ex x₁, rfl⟩
theorem s_ret (HE : OkE C N ih.e) (R : Rm A N) (he : RelE ns e x) (hn : env.scope.names = ns) (V : EnvOk C env loc ρ g s) (I : Inv C ρ g st s) (h : ih.e e loc st = some (u, st')) :
    wpAny (model C.prog C.w) A (exec (.Return (some x) pos) env) (SQ C env ρ g s (.ret u) loc st') F0 s := by
  refine wpAny_Return_some (wpAny_mono (HE he R hn V I h) (fun v s₁ q => ?_) F0le)
  obtain ⟨ρ₁, g₁, x₁, J₁, r₁⟩ := q
  exact ⟨ρ₁, g₁, x₁.any, J₁, V.ex x₁, v, rfl, r₁⟩
theorem s_aug (HE : OkE C N ih.e) (R : Rm A N) {v id : Nat} {i : X} (hv : v < NV) (hc : isLC ns (nmS v)) (hi : RelE ns i y) (he : RelE ns e x) (hn : env.scope.names = ns) (V : EnvOk C env loc ρ g s) (I : Inv C ρ g st s) (hk : look v loc = some (.ref id))
    (ha : ∀ ov iv new, augStore y ov iv new = (do holding [new, ov, iv] (setItem ov iv new); release [new, ov, iv] []; pure .next)) {iv old d : MV} {st1 st2 st3 : St} {w : PE} {k z : Nat} {xs : List MV}
    (h1 : ih.e i loc st = some (iv, st1)) (h2 : subV st1 (.ref id) iv = some old) (h3 : ih.e e loc st1 = some (d, st2)) (h4 : binV st2 .add old d = some (.int w k, st3)) (h5 : natOf iv = some z) (h6 : getO st3 id = some (.list xs)) (h7 : (Nat.blt z xs.length && Nat.ble xs.length 100000) = true) :
    wpAny (model C.prog C.w) A (exec (.AugAssign (.Subscript (.Name (nmS v) p) y q) .Add x pos) env) (SQ C env ρ g s .next loc (setO st3 id (.list (xs.set z (.int w k))))) F0 s := by
  refine wpAny_AugAssign_SubscriptAny (ld_var V hv (by rw [hn]; exact hc) hk fun ov hov => ?_) ha
  obtain ⟨ad, ea, rfl⟩ := hov
  refine wpAny_mono (HE hi R hn V I h1) (fun b s₁ q => ?_) F0le
  obtain ⟨ρ₁, g₁, x₁, J₁, r₁⟩ := q
  refine wpAny_mono (sub_ok (W := []) J₁ (u := .ref id) ⟨ad, x₁.at ea, rfl⟩ r₁ h2).2 (fun ov s₂ q => ?_) F0le
  obtain ⟨ρ₂, g₂, x₂, J₂, r₂⟩ := q
  refine wpAny_mono (HE he R hn (V.ex (x₁.trans x₂)) J₂ h3) (fun dv s₃ q => ?_) F0le
  obtain ⟨ρ₃, g₃, x₃, J₃, r₃⟩ := q
  have two : ∃ p1 k1 p2 k2, old = .int p1 k1 ∧ d = .int p2 k2 ∧ st3 = st2 ∧ w = addQ p1 p2 ∧ k = maxB k1 k2 := by
    simp only [binV] at h4
    split at h4
    · cases h4; exact ⟨_, _, _, _, rfl, rfl, rfl, rfl, rfl⟩
    · split at h4 <;> cases h4
    · split at h4
      · split at h4 <;> cases h4
      · cases h4
    · cases h4
  obtain ⟨p1, k1, p2, k2, rfl, rfl, rfl, rfl, rfl⟩ := two
  obtain ⟨t, rfl, hk1⟩ := r₂.ex x₃
  obtain ⟨t', rfl, hk2⟩ := r₃
  have hz : iv = .int (.c (.ofNat z)) (match iv with | .int _ j => j | _ => 0) := by
    unfold natOf at h5
    split at h5
    · cases h5; rfl
    · cases h5
  rw [hz] at r₁
  obtain ⟨tz, rfl, _⟩ := r₁
  refine wpAny_iadd_int ?_
  have x₄ : Ex [] ρ₃ g₃ s₃ ρ₃ g₃ { s₃ with toks := s₃.toks + 1 } := Ex.tk (Nat.le_succ _)
  have J₄ := J₃.tk (Nat.le_succ s₃.toks)
  have ea' := (x₁.trans (x₂.trans x₃)).at ea
  obtain ⟨vs, m, hvs, rs⟩ := J₄.get h6 ea'
  obtain ⟨b1, b2⟩ := Bool.and_eq_true_iff.mp h7
  have b1 : z < xs.length := by simpa [Nat.blt_eq] using b1
  have b2 := Nat.le_of_ble_eq_true b2
  refine ki_setAt (n := m) hvs (by show (0 : Int) ≤ ((z : Nat) : Int); omega) (by show ((z : Nat) : Int) < _; omega) (by show ((z : Nat) : Int) < _; rw [List.size_toArray, rs.length]; omega) ?_
  have rv : VR C ρ₃ g₃ (s₃.toks + 1) (.int (addQ p1 p2) (maxB k1 k2)) (.int (p1.den C.η + p2.den C.η) s₃.toks) := VR.i _ _ _ (addQ_den _ _ _).symm (bits_sum hk1 hk2 (Int.natAbs_add_le _ _))
  obtain ⟨hI, hX⟩ := J₄.upd (W := []) ea' (o := .list (xs.set z (.int (addQ p1 p2) (maxB k1 k2)))) (h' := s₃.heap.update ad (Obj.mapSeq (·.setIfInBounds z (.int (p1.den C.η + p2.den C.η) s₃.toks)))) (tk := s₃.toks + 1) (fun b ob hb e => (Heap.get?_update_other _ _ (Ne.symm hb)).trans e) (Nat.le_refl _)
    ⟨vs.set z (.int (p1.den C.η + p2.den C.η) s₃.toks), _, by have := hvs.update (fun xs => xs.setIfInBounds z (.int (p1.den C.η + p2.den C.η) s₃.toks)); simpa using this, rs.set rv z⟩
  have xx := (((x₁.trans x₂).trans x₃).trans x₄).trans hX
  exact ⟨ρ₃, g₃, xx.any, hI, V.ex xx, rfl⟩
theorem s_ite (HS : OkS C N ih.s) (HT : OkT C N ih.t) (R : Rm A N) {t : X} {a b : List XS} {l r : List Stmt} (ht : RelE ns t x) (ha : RelSs ns a l) (hb : RelSs ns b r) (hn : env.scope.names = ns) (hh : Has env) (V : EnvOk C env loc ρ g s) (I : Inv C ρ g st s) {c : Bool} {st1 : St}
    (h1 : ih.t t loc st = some (c, st1)) (h2 : ssOf ih.s (if c then a else b) loc st1 = some (fl, loc', st')) : wpAny (model C.prog C.w) A (exec (.If x l r pos) env) (SQ C env ρ g s fl loc' st') F0 s := by
  refine wpAny_If (wpAny_mono (HT ht R hn V I h1) (fun c' s₁ q => ?_) F0le)
  obtain ⟨rfl, ρ₁, g₁, x₁, J₁⟩ := q
  have fin : ∀ F s', SQ C env ρ₁ g₁ s₁ fl loc' st' F s' → SQ C env ρ g s fl loc' st' F s' := fun F s' q => let ⟨ρ₂, g₂, x₂, J₂, V₂, r₂⟩ := q; ⟨ρ₂, g₂, x₁.any.trans x₂, J₂, V₂, r₂⟩
  cases c' with
  | true => exact wpAny_mono (ss_ok HS R hn hh ha (V.ex x₁) J₁ h2) fin F0le
  | false => exact wpAny_mono (ss_ok HS R hn hh hb (V.ex x₁) J₁ h2) fin F0le
theorem s_whl (HS : OkS C N ih.s) (HT : OkT C N ih.t) (R : Rm A N) {t : X} {a : List XS} {l : List Stmt} (ht : RelE ns t x) (ha : RelSs ns a l) (hn : env.scope.names = ns) (hh : Has env) (V : EnvOk C env loc ρ g s) (I : Inv C ρ g st s) {k : Nat}
    (h : whL (ih.t t) (ssOf ih.s a) k loc st = some (fl, loc', st')) : wpAny (model C.prog C.w) A (exec (.While x l [] pos) env) (SQ C env ρ g s fl loc' st') F0 s :=
  wpAny_While (whL_ok (fun V J e => HT ht R hn V J e) (fun V J e => ss_ok HS R hn hh ha V J e) (fun F s' q => q) I V h)
theorem turnS1 (HS : OkS C N ih.s) (R : Rm A N) {v : Nat} (hv : v < NV) (hl : isLC ns (nmS v)) {a : List XS} {l : List Stmt} (ha : RelSs ns a l) (hn : env.scope.names = ns) (hh : Has env) : TurnOk C A env (.Name (nmS v) p) l (fun x loc st => ssOf ih.s a (put v x loc) st) := by
  intro loc loc' ρ g st st' s fl u w V J hu h
  refine wpAny_mono (asg1 (W := FP env) V J (Stb.of hv hh (by rw [hn]; exact hl)) (LW.fp v) hu) (fun _ s₂ q => ?_) F0le
  obtain ⟨x₂, J₂, V₂⟩ := q
  refine wpAny_mono (ss_ok HS R hn hh ha V₂ J₂ h) (fun F s₃ q => ?_) F0le
  obtain ⟨ρ₃, g₃, x₃, J₃, V₃, r₃⟩ := q
  exact ⟨ρ₃, g₃, x₂.trans x₃, J₃, V₃, r₃⟩
theorem turnS2 (HS : OkS C N ih.s) (R : Rm A N) {v w k : Nat} (hv : v < NV) (hw : w < NV) (hl : isLC ns (nmS v)) (hm : isLC ns (nmS w)) {a : List XS} {l : List Stmt} (ha : RelSs ns a l) (hn : env.scope.names = ns) (hh : Has env) : TurnOk C A env (.Tuple [.Name (nmS v) p, .Name (nmS w) q] k p3) l (fun x loc st => match un2 st x with
        | some (p, q) => ssOf ih.s a (put w q (put v p loc)) st
        | none => none) := by
  intro loc loc' ρ g st st' s fl u z V J hu h
  dsimp only at h
  split at h
  · next a b e2 =>
    refine wpAny_mono (asg2 (W := FP env) R V J (Stb.of hv hh (by rw [hn]; exact hl)) (Stb.of hw hh (by rw [hn]; exact hm)) (LW.fp v) (LW.fp w) e2 hu) (fun _ s₂ q => ?_) F0le
    obtain ⟨x₂, J₂, V₂⟩ := q
    refine wpAny_mono (ss_ok HS R hn hh ha V₂ J₂ h) (fun F s₃ q => ?_) F0le
    obtain ⟨ρ₃, g₃, x₃, J₃, V₃, r₃⟩ := q
    exact ⟨ρ₃, g₃, x₂.trans x₃, J₃, V₃, r₃⟩
  · cases h
theorem flL_some {f : MV → Loc → St → Option (Fl × Loc × St)} {id k : Nat} {r : Fl × Loc × St} (h : flL f id k 0 loc st = some r) : ∃ xs, getO st id = some (.list xs) := by
  cases k with
  | zero => cases h
  | succ k =>
    simp only [flL] at h
    split at h
    · next xs e => exact ⟨xs, e⟩
    · cases h
theorem for_list {target : Expr} {body : List Stmt} {f : MV → Loc → St → Option (Fl × Loc × St)} (HE : OkE C N ih.e) (R : Rm A N) (T : TurnOk C A env target body f) (G : GoOk C A target f) (hi : RelE ns it x) (hf : ∀ env u, foldedSetIterable x env u = pure u) (hn : env.scope.names = ns)
    (V : EnvOk C env loc ρ g s) (I : Inv C ρ g st s) {id k : Nat} {st1 : St} (h1 : ih.e it loc st = some (.ref id, st1)) (h2 : flL f id k 0 loc st1 = some (fl, loc', st')) :
    wpAny (model C.prog C.w) A (exec (.For target x body [] pos) env) (SQ C env ρ g s fl loc' st') F0 s := by
  refine wpAny_For (wpAny_mono (HE hi R hn V I h1) (fun v s₁ q => ?_) F0le) (hf env)
  obtain ⟨ρ₁, g₁, x₁, J₁, ad, hid, rfl⟩ := q
  obtain ⟨xs, hxs⟩ := flL_some h2
  refine iter_list J₁ hid hxs fun J oI h' hJ hk' hoJ hl => ?_
  have V₁ := V.ex x₁
  have x₂ : Ex (FP env) ρ₁ g₁ s₁ ρ₁ g₁ { s₁ with heap := h' } := Ex.keepHeap (tk := s₁.toks) hk' (Nat.le_refl _)
  refine flL_ok R T G hid hJ (fresh_of J₁ hJ).2 (fresh_fp V₁ hJ) (fun F s' q => ?_) x₂ (J₁.heap (tk := s₁.toks) hk' (Nat.le_refl _)) (V₁.ex (Ex.keepHeap (W := []) (tk := s₁.toks) hk' (Nat.le_refl _))) (hl _ hoJ) (fresh_of J₁ hJ).1 h2
  obtain ⟨ρ₃, g₃, x₃, J₃, V₃, r₃⟩ := q
  exact ⟨ρ₃, g₃, x₁.any.trans x₃, J₃, V₃, r₃⟩
theorem s_forR (O : CxOk C) (HE : OkE C N ih.e) (HS : OkS C N ih.s) (R : Rm A N) {v k j : Nat} (hv : v < NV) (hl : isLC ns (nmS v)) {a : List XS} {l : List Stmt} (ha : RelSs ns a l) (hm : RelE ns m x) (hg : isG ns "range") (hn : env.scope.names = ns) (hh : Has env) (V : EnvOk C env loc ρ g s) (I : Inv C ρ g st s) {st1 : St}
    (h1 : ih.e m loc st = some (.int (.c (.ofNat k)) j, st1)) (hk : k ≤ 100000) (h2 : flR (fun x loc st => ssOf ih.s a (put v x loc) st) k 0 loc st1 = some (fl, loc', st')) :
    wpAny (model C.prog C.w) A (exec (.For (.Name (nmS v) p) (.Call (.Name "range" p1) [x] [] p2) l [] pos) env) (SQ C env ρ g s fl loc' st') F0 s := by
  refine wpAny_For (range_it O HE R hm hn V I hg hk h1 fun ρ₁ g₁ s₁ x₁ J₁ J h' hJ hk' hoJ => ?_) (fun _ => rfl)
  have V₁ := V.ex x₁
  have x₂ : Ex (FP env) ρ₁ g₁ s₁ ρ₁ g₁ { s₁ with heap := h' } := Ex.keepHeap (tk := s₁.toks) hk' (Nat.le_refl _)
  refine flR_ok R (turnS1 HS R hv hl ha hn hh) (fun _ => rfl) hJ (fresh_of J₁ hJ).2 (fresh_fp V₁ hJ) (fun F s' q => ?_) hk x₂ (J₁.heap (tk := s₁.toks) hk' (Nat.le_refl _)) (V₁.ex (Ex.keepHeap (W := []) (tk := s₁.toks) hk' (Nat.le_refl _))) hoJ (fresh_of J₁ hJ).1 h2
  obtain ⟨ρ₃, g₃, x₃, J₃, V₃, r₃⟩ := q
  exact ⟨ρ₃, g₃, x₁.any.trans x₃, J₃, V₃, r₃⟩
theorem goS1 {z : Str} {f : MV → Loc → St → Option (Fl × Loc × St)} : GoOk C A (.Name z p) f := by
  intro I ad i loc ρ g st s u v r Q E hl J hu h hq
  exact wpAny_pure hq
theorem goS2 {k : Nat} {es : List Expr} {f : MV → Loc → St → Option (Fl × Loc × St)} (hf : ∀ u loc st r, f u loc st = some r → ∃ ab, un2 st u = some ab) : GoOk C A (.Tuple es k p3) f := by
  intro I ad i loc ρ g st s u v r Q E hl J hu h hq
  obtain ⟨⟨a, b⟩, e⟩ := hf _ _ _ _ h
  obtain ⟨T, x, y, m, rfl, _⟩ := two_vals J e hu
  exact wpAny_letOwnedTupleGo_listiter hl hq
theorem un2s {ih : Ev} {a : List XS} {v w : Nat} : ∀ u loc st r, (fun (x : MV) loc st => match un2 st x with
        | some (p, q) => ssOf ih.s a (put w q (put v p loc)) st
        | none => none) u loc st = some r → ∃ ab, un2 st u = some ab := by
  intro u loc st r h
  dsimp only at h
  split at h
  · next a b e => exact ⟨_, e⟩
  · cases h
end
end Mine
end

section
set_option autoImplicit false
namespace Mine
/-- the two that stand apart: the walk over the escaped signs, and indexOf -/
noncomputable def OkG (C : Cx) : Prop := ∀ {N : Nat} {ih : Ev}, OkE C N ih.e → OkS C N ih.s →
  ∀ {ns : Nms} {v w : Nat}, v < NV → w < NV → isLC ns (nmS v) → isLC ns (nmS w) → ∀ {it : X} {x : Expr} {a : List XS} {l : List Stmt} {k : Nat} {p q p3 p4 p5 pos : Pos}, isG ns "_iter_escaped_chars" → RelE ns it x → RelSs ns a l →
  ∀ {A : Around} {env : Env} {loc loc' : Loc} {ρ : List Addr} {g : Nat → List Nat} {st st1 st' : St} {s : Shared} {fl : Fl} {m : List Nat} {tr : Bool} {its : List (Nat × List Nat)}, Rm A (N + 1) → env.scope.names = ns → Has env → EnvOk C env loc ρ g s → Inv C ρ g st s →
    ih.e it loc st = some (.str m tr, st1) → m.length ≤ 100000 → iterF 0 m = some its → flG (fun p c loc st => ssOf ih.s a (put w (.str c true) (put v (.int (.c (Int.ofNat p)) 64) loc)) st) its loc st1 = some (fl, loc', st') →
    wpAny (model C.prog C.w) A (exec (.For (.Tuple [.Name (nmS v) p, .Name (nmS w) q] k p3) (.Call (.Name "_iter_escaped_chars" p4) [x] [] p5) l [] pos) env) (SQ C env ρ g s fl loc' st') F0 s
noncomputable def OkI (C : Cx) : Prop := ∀ {A : Around} {N : Nat} {ρ : List Addr} {g : Nat → List Nat} {st : St} {s : Shared} {vs : List Value} {id i : Nat} {l : List Nat} {tr : Bool} {xs : List MV},
    Rm A (N + 1) → Inv C ρ g st s → VRs C ρ g s.toks [.ref id, .str l tr] vs → getO st id = some (.list xs) → xs.length ≤ 100000 → findS l tr 0 xs = some i →
    wpAny (model C.prog C.w) A (call (.ref (C.fa 4)) vs) (RQ C [] ρ g s (.int (.c (Int.ofNat i)) 64) st) F0 s

section
variable {C : Cx} {n : Nat}
theorem str_lit (l : List Nat) {x : Str} (h : x = ⟨l.toArray⟩) : x = ⟨l.toArray⟩ := h

theorem okE_succ (O : CxFn C) {ih : Ev} (HE : OkE C n ih.e) (HT : OkT C n ih.t) (HC : OkC C n ih.c) (k : Nat) : OkE C (n + 1) (eStep ih k) := by
  intro ns x e hr A env loc ρ g st st' s u R hn V I h
  have R' : Rm A n := R.le (Nat.le_succ n)
  cases hr with
  | nm i pos hi hl =>
    simp only [eStep, Option.map_eq_some_iff] at h
    obtain ⟨v, hv, h⟩ := h
    cases h
    exact ld_var V hi (by rw [hn]; exact hl) hv fun v hv => RQ.mk0 I hv
  | gi0 pos hg =>
    simp only [eStep] at h
    cases h
    obtain ⟨t, ht⟩ := O.nt
    exact ld_glob O.toCxOk I V (by rw [hn]; exact hg) ht (RQ.mk0 I (VR.i _ _ _ rfl (.inr (by decide)))) (by decide)
  | gi1 pos hg =>
    simp only [eStep] at h
    cases h
    obtain ⟨t, ht⟩ := O.em
    exact ld_glob O.toCxOk I V (by rw [hn]; exact hg) ht (RQ.mk0 I (VR.i _ _ _ rfl (.inr (by decide)))) (by decide)
  | ci m z k pos hz =>
    simp only [eStep] at h
    cases h
    subst hz
    exact wpAny_Constant_int (RQ.mkT I (Nat.le_succ _) (VR.i _ _ _ rfl (.inr Nat.lt_log2_self)))
  | cs l y k pos hl =>
    simp only [eStep] at h
    cases h
    subst hl
    refine wpAny_Constant_str ⟨ρ, updG g s.toks l, Ex.str l (Nat.lt_succ_self _), ?_, VR.newStr I l (Nat.lt_succ_self _) true⟩
    exact I.grow (W := []) (Ex.str l (Nat.lt_succ_self _)) fun _ _ e => e
  | cb b k pos =>
    simp only [eStep] at h
    cases h
    exact wpAny_Constant_bool (RQ.mk0 I rfl)
  | cn k pos =>
    simp only [eStep] at h
    cases h
    exact wpAny_Constant_none (RQ.mk0 I rfl)
  | bin op o pos ho ha hb => subst ho; exact e_bin HE ha hb R' hn V I h
  | neg pos ha => exact e_neg HE ha R' hn V I h
  | cmp op o pos ho hm ha hb =>
    subst ho
    obtain ⟨c, rfl, hq⟩ := cmp_core HE ha hb R' hn V I h
    exact wpAny_Compare1 (hq _ fun s' ρ' g' x J => ⟨ρ', g', x, J, rfl⟩) hm
  | inTab p pos hg ha =>
    obtain ⟨c, rfl, hq⟩ := inTab_core O.toCxAll HE ha R' hn V I (p := p) hg h
    exact wpAny_Compare1 (hq _ fun s' ρ' g' x J => ⟨ρ', g', x, J, rfl⟩) rfl
  | getTab p pos hg hs ha => exact e_getTab O.toCxAll HE ha R' hn V I hg hs h
  | notIn pos hm ha hb =>
    obtain ⟨c, rfl, hq⟩ := notIn_core HE ha hb R' hn V I h
    exact wpAny_Compare1 (hq _ fun s' ρ' g' x J => ⟨ρ', g', x, J, rfl⟩) hm
  | isN k p pos ha =>
    obtain ⟨c, rfl, hq⟩ := isN_core HE ha R' hn V I (k := k) (p := p) h
    exact wpAny_Compare1 (hq _ fun s' ρ' g' x J => ⟨ρ', g', x, J, rfl⟩) rfl
  | and2 pos ha hb => simp only [eStep] at h; cases h
  | not pos ha => simp only [eStep] at h; cases h
  | ife pos ht ha hb => exact e_ife HE HT ht ha hb R' hn V I h
  | len p pos hg ha => exact e_len O.toCxOk HE ha R' hn V I hg h
  | sum p pos hg ha => exact e_sum O.toCxOk HE ha R' hn V I hg h
  | sub pos hs ha hi => exact e_sub HE ha hi R' hn V I hs h
  | slA k p1 p2 p pos ha => exact e_slA HE ha R' hn V I h
  | slL p pos ha hl => exact e_slL HE ha hl R' hn V I h
  | slH p pos ha hu => exact e_slH HE ha hu R' hn V I h
  | slB p pos ha hl hu => exact e_slB HE ha hl hu R' hn V I h
  | lst pos hs => exact e_lst HE hs R' hn V I h
  | tup k pos hs => exact e_tup HE hs R' hn V I h
  | join e he k p ap pos hl ha => subst he; exact e_join HE ha R' hn V I hl h
  | cnt l e he k p ap pos hl hb ha => subst he; exact e_cnt HE ha R' hn V I hl hb h
  | lc1 v hv sc p pos hk hc hx hf hi he => exact e_lc1 HE R' hv hi he hn V.has V I hk hc hx hf h
  | lcR v hv sc p p1 p2 pos hk hc hx hg hi he => exact e_lcR O.toCxOk HE R' hv hi he hn V.has V I hk hc hx hg h
  | lc2 v w hv hw sc k p q p3 pos hk hc hx hy hf hi he => exact e_lc2 HE R' hv hw hi he hn V.has V I hk hc hx hy hf h
  | pop v hv hc p ap pos hl => exact e_pop (hv := hv) hc hn V I hl h
  | call k f p pos hf hg hs => exact e_call O HE HC R' hs hn V I hf hg h
  | callv v hv hc p pos hs => exact e_callv O HE HC R' hs hn V I hv hc h
  | sel k1 k2 p1 p2 p3 p4 p5 pos h1 h3 hs ha => exact e_sel O HE ha R' hn V I h1 h3 hs h

theorem OkE.mono {m : Nat} {f : X → Loc → St → Option (MV × St)} (h : OkE C m f) (k : m ≤ n) : OkE C n f := fun hr _ _ _ _ _ _ _ _ _ R hn V I e => h hr (R.le k) hn V I e

theorem okT_succ (O : CxFn C) {ih : Ev} (HE : OkE C n ih.e) (HT : OkT C n ih.t) (hp : (∀ x loc st, ih.e x loc st = none) ∨ ∃ ih' k, ih.e = eStep ih' k ∧ OkE C n ih'.e) : OkT C (n + 1) (tStep ih) := by
  intro ns x e hr A env loc ρ g st st' s b R hn V I h
  have R' : Rm A n := R.le (Nat.le_succ n)
  have eb : ∀ {x : X}, (match ih.e x loc st with | some (.bool b, st) => some (b, st) | _ => none) = some (b, st') → ih.e x loc st = some (.bool b, st') := by
    intro x h
    split at h
    · next e => cases h; exact e
    · cases h
  cases hr with
  | and2 pos ha hb =>
    simp only [tStep] at h
    split at h
    · next st1 e1 =>
      refine wpAny_isTrue_BoolOp (wpAny_allTrue_And_cons (wpAny_mono (HT ha R' hn V I e1) (fun c s₁ q => ?_) F0le))
      obtain ⟨rfl, ρ₁, g₁, x₁, J₁⟩ := q
      rw [if_pos rfl]
      refine wpAny_allTrue_And_cons (wpAny_mono (HT hb R' hn (V.ex x₁) J₁ h) (fun c s₂ q => ?_) F0le)
      obtain ⟨rfl, ρ₂, g₂, x₂, J₂⟩ := q
      cases c with
      | true => rw [if_pos rfl]; exact wpAny_allTrue_And_nil ⟨rfl, ρ₂, g₂, x₁.trans x₂, J₂⟩
      | false => rw [if_neg Bool.false_ne_true]; exact ⟨rfl, ρ₂, g₂, x₁.trans x₂, J₂⟩
    · next st1 e1 =>
      cases h
      refine wpAny_isTrue_BoolOp (wpAny_allTrue_And_cons (wpAny_mono (HT ha R' hn V I e1) (fun c s₁ q => ?_) F0le))
      obtain ⟨rfl, ρ₁, g₁, x₁, J₁⟩ := q
      rw [if_neg Bool.false_ne_true]
      exact ⟨rfl, ρ₁, g₁, x₁, J₁⟩
    · cases h
  | not pos ha =>
    simp only [tStep] at h
    split at h
    · next c st1 e1 =>
      cases h
      refine wpAny_isTrue_Not (wpAny_mono (HT ha R' hn V I e1) (fun c s₁ q => ?_) F0le)
      obtain ⟨rfl, ρ₁, g₁, x₁, J₁⟩ := q
      exact ⟨rfl, ρ₁, g₁, x₁, J₁⟩
    · cases h
  | cmp op o pos ho hm ha hb =>
    subst ho
    have h := eb h
    rcases hp with hp | ⟨ih', k, he, HE'⟩
    · rw [hp] at h; cases h
    · rw [he] at h
      obtain ⟨c, hc, hq⟩ := cmp_core HE' ha hb R' hn V I h
      cases hc
      exact wpAny_isTrue_Compare1 (hq _ fun s' ρ' g' x J => wpAny_truthy_bool ⟨rfl, ρ', g', x, J⟩) hm
  | inTab p pos hg ha =>
    have h := eb h
    rcases hp with hp | ⟨ih', k, he, HE'⟩
    · rw [hp] at h; cases h
    · rw [he] at h
      obtain ⟨c, hc, hq⟩ := inTab_core O.toCxAll HE' ha R' hn V I (p := p) hg h
      cases hc
      exact wpAny_isTrue_Compare1 (hq _ fun s' ρ' g' x J => wpAny_truthy_bool ⟨rfl, ρ', g', x, J⟩) rfl
  | notIn pos hm ha hb =>
    have h := eb h
    rcases hp with hp | ⟨ih', k, he, HE'⟩
    · rw [hp] at h; cases h
    · rw [he] at h
      obtain ⟨c, hc, hq⟩ := notIn_core HE' ha hb R' hn V I h
      cases hc
      exact wpAny_isTrue_Compare1 (hq _ fun s' ρ' g' x J => wpAny_truthy_bool ⟨rfl, ρ', g', x, J⟩) hm
  | isN k p pos ha =>
    have h := eb h
    rcases hp with hp | ⟨ih', k', he, HE'⟩
    · rw [hp] at h; cases h
    · rw [he] at h
      obtain ⟨c, hc, hq⟩ := isN_core HE' ha R' hn V I (k := k) (p := p) h
      cases hc
      exact wpAny_isTrue_Compare1 (hq _ fun s' ρ' g' x J => wpAny_truthy_bool ⟨rfl, ρ', g', x, J⟩) rfl
  | call k f p pos hf hg hs =>
    have h := eb h
    refine wpAny_isTrue_value (wpAny_mono (HE (.call k f p pos hf hg hs) R' hn V I h) (fun v s₁ q => ?_) F0le) rfl
    obtain ⟨ρ₁, g₁, x₁, J₁, r₁⟩ := q
    cases r₁
    exact wpAny_truthy_bool ⟨rfl, ρ₁, g₁, x₁, J₁⟩
  | _ => simp only [tStep] at h; cases h

theorem okC_succ (O : CxFn C) (HI : OkI C) {ih : Ev} (HS : OkS C n ih.s) : OkC C (n + 1) (cStep FT ih) := by
  intro k us A ρ g st st' s u vs R I hv h
  unfold cStep at h
  split at h
  · next hk =>
    have hk : k = 4 := Nat.eq_of_beq_eq_true hk
    subst hk
    split at h
    · next id l tr =>
      split at h
      · next xs hx =>
        split at h
        · next hb =>
          simp only [Option.map_eq_some_iff] at h
          obtain ⟨i, hi, h⟩ := h
          cases h
          exact HI R I hv hx (Nat.le_of_ble_eq_true hb) hi
        · cases h
      · cases h
    · cases h
  · split at h
    · next f hf =>
      split at h
      · next hb =>
        have hb := Nat.eq_of_beq_eq_true hb
        split at h
        · next v loc' st1 e1 =>
          cases h
          exact fn_ok O.toCxOk HS (O.fns k f hf) R I hv hb e1
        · next loc' st1 e1 =>
          cases h
          exact fn_ok O.toCxOk HS (O.fns k f hf) R I hv hb e1
        · cases h
      · cases h
    · cases h

theorem okS_succ (O : CxFn C) (HG : OkG C) {ih : Ev} (HE : OkE C n ih.e) (HT : OkT C n ih.t) (HS : OkS C n ih.s) (HC : OkC C n ih.c) (hp : (∀ x loc st, ih.e x loc st = none) ∨ ∃ ih' k, ih.e = eStep ih' k ∧ OkE C n ih'.e) (j : Nat) : OkS C (n + 1) (sStep ih j) := by
  intro ns x e hr A env loc loc' ρ g st st' s fl R hn hh V I h
  have R' : Rm A n := R.le (Nat.le_succ n)
  cases hr with
  | asg i hi hl p pos hs he =>
    simp only [sStep] at h
    split at h
    · next v st1 e1 =>
      cases h
      exact s_asg HE R' hi hl he hn hh V I (hs env hn V.kind) e1
    · cases h
  | asgC i hi hl v w hv hw sc k p0 p q p3 p4 pos hk hc hx hy hs hf hit he =>
    simp only [sStep] at h
    split at h
    · next v st1 e1 =>
      cases h
      rcases hp with hp | ⟨ih', k', hee, HE'⟩
      · rw [hp] at e1; cases e1
      · rw [hee] at e1
        exact s_asgC HE' R' hv hw hi hl hit he hn hh V I hk hc hx hy hf (hs env hn V.kind) e1
    · cases h
  | asg2 i j hi hj hl hm k p q p3 pos hw hso he =>
    simp only [sStep] at h
    split at h
    · next v st1 e1 =>
      split at h
      · next a b e2 =>
        cases h
        exact s_asg2 HE R' hi hj hl hm he hn hh V I (hw env) (hso env) e1 e2
      · cases h
    · cases h
  | asgT i j hi hj hij hl hm k k2 p q p3 p4 pos hw he hf =>
    simp only [sStep] at h
    split at h
    · next vs st1 e1 =>
      split at h
      · next a b =>
        cases h
        exact s_asgT HE R' hi hj hij (.inl hl) (.inl hm) he hf hn hh V I (hw env hn V.kind) e1
      · cases h
    · cases h
  | aug v hv hc p q pos ha hi he =>
    simp only [sStep] at h
    split at h
    · next id hk =>
      split at h
      · next iv st1 e1 =>
        split at h
        · next old e2 =>
          split at h
          · next d st2 e3 =>
            split at h
            · next w k st3 z e4 e5 =>
              split at h
              · next xs e6 =>
                split at h
                · next e7 =>
                  cases h
                  exact s_aug HE R' hv hc hi he hn V I hk ha e1 e2 e3 e4 e5 e6 e7
                · cases h
              · cases h
            · cases h
          · cases h
        · cases h
      · cases h
    · cases h
  | app v hv hc p ap cp pos hl he =>
    simp only [sStep] at h
    split at h
    · next id hk =>
      split at h
      · next xs₀ h0 =>
        split at h
        · next u st1 e1 =>
          simp only [Option.map_eq_some_iff] at h
          obtain ⟨st2, e2, h⟩ := h
          cases h
          exact s_app HE R' hv hc he hn V I hl hk e1 e2 h0
        · cases h
      · cases h
    · cases h
  | popS v hv hc p ap cp pos hl =>
    simp only [sStep] at h
    split at h
    · next id hk =>
      split at h
      · next w k st1 e1 =>
        cases h
        exact s_popS hv hc hn V I hl hk e1
      · cases h
    · cases h
  | callS k f p cp pos hf hg hs =>
    simp only [sStep] at h
    split at h
    · next us st1 e1 =>
      split at h
      · next st2 e2 =>
        cases h
        exact s_callS O HE HC R' hs hn V I hf hg e1 e2
      · cases h
    · cases h
  | ret pos he =>
    simp only [sStep] at h
    split at h
    · next v st1 e1 =>
      cases h
      exact s_ret HE R' he hn V I e1
    · cases h
  | ite pos ht ha hb =>
    simp only [sStep] at h
    split at h
    · next st1 e1 => exact s_ite HS HT R' ht ha hb hn hh V I (c := true) e1 h
    · next st1 e1 => exact s_ite HS HT R' ht ha hb hn hh V I (c := false) e1 h
    · cases h
  | whl pos ht ha =>
    simp only [sStep] at h
    exact s_whl HS HT R' ht ha hn hh V I h
  | forR v hv hl p p1 p2 pos hg hm ha =>
    simp only [sStep] at h
    split at h
    · next k j' st1 e1 =>
      split at h
      · next hb => exact s_forR O.toCxOk HE HS R' hv hl ha hm hg hn hh V I e1 (Nat.le_of_ble_eq_true hb) h
      · cases h
    · cases h
  | forL v hv hl p pos hf hi ha =>
    simp only [sStep] at h
    split at h
    · next id st1 e1 => exact for_list HE R' (turnS1 HS R' hv hl ha hn hh) (goS1 (f := fun x loc st => ssOf ih.s _ (put v x loc) st)) hi hf hn V I e1 h
    · cases h
  | forL2 v w hv hw hl hm k p q p3 pos hf hi ha =>
    simp only [sStep] at h
    split at h
    · next id st1 e1 => exact for_list HE R' (turnS2 HS R' hv hw hl hm ha hn hh) (goS2 (f := fun x loc st => match un2 st x with | some (p, q) => ssOf ih.s _ (put w q (put v p loc)) st | none => none) un2s) hi hf hn V I e1 h
    · cases h
  | forG v w hv hw hl hm k p q p3 p4 p5 pos hg hi ha =>
    simp only [sStep] at h
    split at h
    · next m tr st1 e1 =>
      split at h
      · next hb =>
        split at h
        · next its e2 => exact HG HE HS hv hw hl hm hg hi ha R hn hh V I e1 (Nat.le_of_ble_eq_true hb) e2 h
        · cases h
      · cases h
    · cases h

theorem sound (O : CxFn C) (HG : OkG C) (HI : OkI C) : ∀ n, (OkE C n (ev FT n).e ∧ OkT C n (ev FT n).t ∧ OkS C n (ev FT n).s ∧ OkC C n (ev FT n).c) ∧ ((∀ x loc st, (ev FT n).e x loc st = none) ∨ ∃ ih' k, (ev FT n).e = eStep ih' k ∧ OkE C n ih'.e)
  | 0 => by
    refine ⟨⟨?_, ?_, ?_, ?_⟩, .inl fun _ _ _ => rfl⟩
    · intro ns x e hr A env loc ρ g st st' s u R hn V I h; cases h
    · intro ns x e hr A env loc ρ g st st' s u R hn V I h; cases h
    · intro ns x e hr A env loc loc' ρ g st st' s fl R hn hh V I h; cases h
    · intro k us A ρ g st st' s u vs R I hv h; cases h
  | n + 1 => by
    obtain ⟨⟨HE, HT, HS, HC⟩, hp⟩ := sound O HG HI n
    exact ⟨⟨okE_succ O HE HT HC n, okT_succ O HE HT hp, okS_succ O HG HE HT HS HC hp n, okC_succ O HI HS⟩, .inr ⟨ev FT n, n, rfl, HE.mono (Nat.le_succ n)⟩⟩
end
end Mine
end

section
set_option autoImplicit false
namespace Mine
section
variable {C : Cx} {W W' : List Addr} {N n : Nat} {ns : Nms} {A : Around} {env : Env} {loc loc' : Loc} {ρ ρ' : List Addr} {g g' : Nat → List Nat} {st st' : St} {s s' : Shared} {u : MV}

theorem call_frame (O : CxOk C) {k : Nat} {name : Str} {params : Arguments} {body : List Stmt} {scope : Scope} {pm cd doc : Value} {o : Obj} {P : List Nat} (h1 : C.h₀.get? (C.fa k) = some o) (h2 : o.data = .func (Calls.docDef name params body scope pm cd doc)) (h3 : C.h₀.CodeRec cd name)
    (h4 : scope.isCoroutine = false) (h5 : scope.isGenerator = false) (h6 : scope.kind = .function) (h7 : ∀ vs : List Value, vs.length = P.length → bindArgs (Calls.docDef name params body scope pm cd doc) ⟨vs, []⟩ = pure ((P.map nmS).zip vs))
    (h8 : ∀ i ∈ P, i < NV ∧ isLC scope.names (nmS i)) (h9 : P.Nodup) (h10 : ((cellsFrom 0 scope.names []).map (·.1)).Nodup) (R : Rm A (n + 1)) (I : Inv C ρ g st s) {us : List MV} {vs : List Value} (hv : VRs C ρ g s.toks us vs) (hl : P.length = us.length)
    {Q : Value → Shared → Prop} (hb : ∀ env s₁, env.scope = scope → EnvOk C env (zipL P us) ρ g s₁ → Has env → Inv C ρ g st s₁ → Ex [] ρ g s ρ g s₁ → (∀ b ∈ FP env, s.heap.get? b = none) → Rm (A.deeper env) n →
      wpAny (model C.prog C.w) (A.deeper env) (execs body env) (fun f s' => Q (match f with | .ret v => v | _ => .none) s') F0 s₁) : wpAny (model C.prog C.w) A (call (.ref (C.fa k)) vs) Q F0 s := by
  refine wpAny_call (call_toks (fd := Calls.docDef name params body scope pm cd doc) R.room (I.keep _ _ h1) h2 (O.lim.keeps I.keep) (h3.keeps I.keep) rfl (h7 vs (by rw [hv.length, hl])) rfl (fun x hx => ?_) (fun s₁ ht X => ?_) h4 h5 h6)
  · obtain ⟨i, hi, e⟩ := zip_fst_sub P vs x.1 (List.mem_map.mpr ⟨x, hx, rfl⟩)
    rcases (h8 i hi).2 with q | q
    · exact .inl (by rw [e]; exact q)
    · refine .inr ⟨by rw [e]; exact q, ?_⟩
      obtain ⟨c, hc⟩ := lookup_of_fst (cellsFrom_has (y := x.1) scope.names (s.heap.objs.size + 1) [] (.inl (mem_of_lookup (by rw [e]; exact q))))
      show (List.lookup x.1 (cellsFrom (s.heap.objs.size + 1) scope.names [])).isSome = true
      rw [hc]; rfl
  · obtain ⟨h₁, tk, rfl, hk⟩ := X.done
    have ht : s.toks ≤ tk := ht
    obtain ⟨V, hh, hf⟩ := EnvOk.call (a := C.fa k) (name := name) (cd := cd) I h6 h8 h9 h10 hv ⟨X.toInCall.ns, X.toInCall.keep, X.toInCall.fresh⟩ ⟨X.cell, X.apart, X.above⟩ ht
    have x₀ : Ex [] ρ g s ρ g { s with heap := h₁, toks := tk } := Ex.keepHeap hk ht
    exact wpAny_mono (hb _ _ rfl V hh (I.heap hk ht) x₀ hf (R.deeper _)) (fun F s' q => q) F0le

noncomputable def IdxOk (C : Cx) : Prop := ∃ pm cd doc o, C.h₀.get? (C.fa 4) = some o ∧ o.data = .func (Calls.docDef "indexOf" (fnArgs 7) (fnBody 7) (fnScope 7) pm cd doc) ∧ C.h₀.CodeRec cd "indexOf"

theorem idx_body : ∃ p1 p2 p3 p4 p5 p6 p7 p8 p9 p10 p11 p12 p13 p14 p15 p16 p17 k orelse, fnBody 7 = [.For (.Tuple [.Name (nmS 8) p1, .Name (nmS 9) p2] k p3) (.Call (.Name "enumerate" p4) [.Name (nmS 6) p5] [] p6)
    [.If (.BoolOp .Or [.Compare (.Name (nmS 9) p7) [.Is] [.Name (nmS 7) p8] p9, .Compare (.Name (nmS 9) p10) [.Eq] [.Name (nmS 7) p11] p12] p13) [.Return (some (.Name (nmS 8) p14)) p15] [] p16] orelse p17] :=
  ⟨_, _, _, _, _, _, _, _, _, _, _, _, _, _, _, _, _, _, _, rfl⟩

theorem Ex.afterL {L : List Addr} {h' : Heap} {tk : Nat} (x : Ex W ρ g s ρ' g' s') (hL : ∀ b ∈ L, s.heap.get? b = none) (he : ∀ b o, b ∉ L → s'.heap.get? b = some o → h'.get? b = some o) (ht : s'.toks ≤ tk) : Ex W ρ g s ρ' g' { s' with heap := h', toks := tk } where
  pre := x.pre
  fresh := x.fresh
  heap := fun b o hb hw e => he b o (fun q => by rw [hL b q] at e; cases e) (x.heap b o hb hw e)
  live := fun b o e => let ⟨o', e'⟩ := x.live b o e; ⟨o', he b o' (fun q => by rw [hL b q] at e; cases e) e'⟩
  g := x.g
  toks := Nat.le_trans x.toks ht
  gens := x.gens
  bare := x.bare
  os := x.os
theorem Inv.otherL {L : List Addr} {h' : Heap} {tk : Nat} (V : Inv C ρ g st s) (h1 : ∀ b ∈ L, b ∉ ρ) (h2 : ∀ b ∈ L, C.h₀.get? b = none) (he : ∀ b o, b ∉ L → s.heap.get? b = some o → h'.get? b = some o) (ht : s.toks ≤ tk) : Inv C ρ g st { s with heap := h', toks := tk } := by
  have hr : ∀ a ∈ ρ, ∀ o, s.heap.get? a = some o → h'.get? a = some o := fun a ha o e => he a o (fun q => h1 a q ha) e
  refine ⟨fun b o e => he b o (fun q => by rw [h2 b q] at e; cases e) (V.keep b o e), V.away, fun a ha => let ⟨o, e⟩ := V.live a ha; ⟨o, hr a ha o e⟩, V.nodup, V.len, fun i o e => ?_, Nat.le_trans V.tok ht⟩
  obtain ⟨a, ea, r⟩ := V.obj i o e
  refine ⟨a, ea, ?_⟩
  have hm := List.mem_of_getElem? ea
  cases o with
  | list xs => obtain ⟨vs, k, e, r⟩ := r; exact ⟨vs, k, hr a hm _ e, r.mem_ex ht ⟨[], by simp⟩⟩
  | tup xs => obtain ⟨vs, k, e, r⟩ := r; exact ⟨vs, k, hr a hm _ e, r.mem_ex ht ⟨[], by simp⟩⟩
theorem EnvOk.otherL {L : List Addr} {h' : Heap} {tk : Nat} (V : EnvOk C env loc ρ g s) (h1 : ∀ b ∈ L, b ∉ FP env) (he : ∀ b o, b ∉ L → s.heap.get? b = some o → h'.get? b = some o) (ht : s.toks ≤ tk) : EnvOk C env loc ρ g { s with heap := h', toks := tk } := by
  have hk : ∀ b ∈ FP env, ∀ o, s.heap.get? b = some o → h'.get? b = some o := fun b hb o e => he b o (fun q => h1 b q hb) e
  refine ⟨V.kind, V.glob, V.bi, V.has, ?_, fun y c hc => ?_, V.apart, V.lc, V.away, fun i u hi hl hc => ?_⟩
  · obtain ⟨m, hm⟩ := V.ns; exact ⟨m, hm.at' (hk _ (.head _))⟩
  · obtain ⟨v, o, ho, hd⟩ := V.cells y c hc
    exact ⟨v, o, hk _ (mem_FP_cell hc) _ ho, hd⟩
  · obtain ⟨v, hv, hq⟩ := V.vars i u hi hl hc
    exact ⟨v, hv.of _ ht, hq.keep hk⟩

theorem findS_here {l m : List Nat} {tr t : Bool} {i r : Nat} {xs : List MV} (h : findS l tr i (.str m t :: xs) = some r) : t = true ∧ tr = true ∧ (eqM m l = true ∧ r = i ∨ eqM m l = false ∧ findS l tr (i + 1) xs = some r) := by
  unfold findS at h
  split at h
  · next e =>
    obtain ⟨h1, h2⟩ := Bool.and_eq_true_iff.mp e
    refine ⟨h1, h2, ?_⟩
    split at h
    · next e2 => cases h; exact .inl ⟨e2, rfl⟩
    · next e2 => exact .inr ⟨e2, h⟩
  · cases h

/-- j is b or j == b, of two tracked texts -/
theorem is_or_eq (O : CxOk C) (I : Inv C ρ g st s) (V : EnvOk C env loc ρ g s) (hn : isLC env.scope.names (nmS 9) ∧ isLC env.scope.names (nmS 7)) {m l : List Nat} (hj : look 9 loc = some (.str m true)) (hb : look 7 loc = some (.str l true)) {p7 p8 p9 p10 p11 p12 p13 : Pos} {whole : Sem Value} {Q : Bool → Shared → Prop} (q : Q (eqM m l) s) :
    wpAny (model C.prog C.w) A (isTrue (.BoolOp .Or [.Compare (.Name (nmS 9) p7) [.Is] [.Name (nmS 7) p8] p9, .Compare (.Name (nmS 9) p10) [.Eq] [.Name (nmS 7) p11] p12] p13) env whole) Q F0 s := by
  have eq2 : ∀ {R : Bool → Shared → Prop}, R (eqM m l) s → wpAny (model C.prog C.w) A (isTrue (.Compare (.Name (nmS 9) p10) [.Eq] [.Name (nmS 7) p11] p12) env (eval (.Compare (.Name (nmS 9) p10) [.Eq] [.Name (nmS 7) p11] p12) env)) R F0 s := by
    intro R hR
    refine wpAny_isTrue_Compare1 (ld_var V (by decide) hn.1 hj fun x hx => ld_var V (by decide) hn.2 hb fun y hy => ?_) rfl
    obtain ⟨t, rfl, _⟩ := hx
    obtain ⟨t', rfl, _⟩ := hy
    refine P.eq_str (wpAny_truthy_bool ?_)
    rw [← eqL_str]; exact hR
  refine wpAny_isTrue_BoolOp (wpAny_allTrue_Or_cons ?_)
  refine wpAny_isTrue_Compare1 (ld_var V (by decide) hn.1 hj fun x hx => ld_var V (by decide) hn.2 hb fun y hy => ?_) rfl
  obtain ⟨t, rfl, ht⟩ := hx
  obtain ⟨t', rfl, ht'⟩ := hy
  obtain ⟨t1, t2, t3⟩ := ht rfl
  obtain ⟨u1, u2, u3⟩ := ht' rfl
  have h0 : (t == 0 || t' == 0) = false := by simp [t1, u1]
  show wpAny _ A (do return Value.bool (← isSame (.str ⟨m.toArray⟩ t) (.str ⟨l.toArray⟩ t'))) _ F0 s
  cases e : eqM m l with
  | true =>
    rw [e] at q
    refine wpAny_bind (wpAny_isSame_str h0 ?_ fun b => wpAny_pure (wpAny_truthy_bool ?_))
    · obtain ⟨mc, a, b⟩ := O.booked; exact ⟨mc, a.keeps I.keep, b⟩
    · cases b with
      | true => rw [if_pos rfl]; exact q
      | false =>
        rw [if_neg Bool.false_ne_true]
        refine wpAny_allTrue_Or_cons (eq2 ?_)
        rw [e, if_pos rfl]; exact q
  | false =>
    rw [e] at q
    have hne : m ≠ l := fun z => by subst z; rw [show eqM m m = true from (eqL_str m m).trans (by simp)] at e; cases e
    have hne2 : (t == t') = false := by
      apply Bool.eq_false_iff.mpr
      intro z
      have z : t = t' := by simpa using z
      subst z
      exact hne (t3.symm.trans u3)
    have hne3 : ((⟨m.toArray⟩ : Str) == ⟨l.toArray⟩) = false := by
      apply Bool.eq_false_iff.mpr
      intro z
      have z : (⟨m.toArray⟩ : Str) = ⟨l.toArray⟩ := by simpa using z
      exact hne (by simpa using congrArg (fun s : Str => s.cps.toList) z)
    refine wpAny_bind (wpAny_of_eq (isSame_str_other _ _ _ _ h0 hne2 hne3) (wpAny_pure (wpAny_truthy_bool ?_)))
    rw [if_neg Bool.false_ne_true]
    refine wpAny_allTrue_Or_cons (eq2 ?_)
    rw [e, if_neg Bool.false_ne_true]
    exact wpAny_allTrue_Or_nil q

theorem indexOf_ok (O : CxFn C) (IO : IdxOk C) : OkI C := by
  intro A N ρ g st s vs id r l tr xs R I hv hx hb hf
  obtain ⟨pm, cd, doc, o, h1, h2, h3⟩ := IO
  refine call_frame O.toCxOk (P := [6, 7]) h1 h2 h3 rfl rfl rfl (fun vs hvs => ?_) (fun i hi => ?_) (by decide) (by decide +kernel) R I hv rfl fun env s₁ hsc V hh J x₁ hfp R₁ => ?_
  · match vs, hvs with
    | [a, b], _ => rfl
  · rcases List.mem_cons.mp hi with rfl | hi
    · exact ⟨by decide, .inl rfl⟩
    · rw [List.mem_singleton.mp hi]; exact ⟨by decide, .inl rfl⟩
  obtain ⟨p1, p2, p3, p4, p5, p6, p7, p8, p9, p10, p11, p12, p13, p14, p15, p16, p17, k, orelse, e⟩ := idx_body
  rw [e]
  have hlc : ∀ i, i = 6 ∨ i = 7 ∨ i = 8 ∨ i = 9 → isLC env.scope.names (nmS i) := by
    intro i hi
    rw [hsc]
    rcases hi with rfl | rfl | rfl | rfl <;> exact .inl rfl
  have hst : ∀ i, i = 8 ∨ i = 9 → Stb env i := by
    intro i hi
    rcases hi with rfl | rfl
    · exact Stb.of (by decide) hh (hlc 8 (by simp))
    · exact Stb.of (by decide) hh (hlc 9 (by simp))
  refine wpAny_execs_cons (wpAny_For (Call_ (ld_boot O.toCxOk J V (by rw [hsc]; rfl) O.enum (callWith_type1 (args_cons (ld_var V (by decide) (hlc 6 (by simp)) (u := .ref id) rfl fun a ha => args_nil ?_) rfl) rfl) (by decide))) (fun _ => rfl))
  obtain ⟨ad, hid, rfl⟩ := ha
  obtain ⟨ws, m, hws, rs⟩ := J.get hx hid
  refine call_enumerate_list hws.isList fun h' he hit hsz hk => wpAny_pyIter_enum he ?_
  generalize hE : s₁.heap.objs.size + 1 = e at he ⊢
  generalize hT : s₁.heap.objs.size = it at he hit hE
  have he₁ : s₁.heap.get? e = none := by
    cases q : s₁.heap.get? e with
    | none => rfl
    | some o => exact absurd (Heap.lt_size q) (by rw [hT, ← hE]; exact Nat.not_lt.mpr (Nat.le_succ _))
  have hit₁ : s₁.heap.get? it = none := hT ▸ none_size _
  have hne : e ≠ it := by rw [← hE]; exact Nat.succ_ne_self _
  have hL : ∀ b ∈ [e, it], s₁.heap.get? b = none := by
    intro b hb
    rcases List.mem_cons.mp hb with rfl | hb
    · exact he₁
    · rw [List.mem_singleton.mp hb]; exact hit₁
  have hLρ : ∀ b ∈ [e, it], b ∉ ρ := fun b hb => (fresh_of J (hL b hb)).1
  have hLb : ∀ b ∈ [e, it], C.h₀.get? b = none := fun b hb => (fresh_of J (hL b hb)).2
  have hLf : ∀ b ∈ [e, it], b ∉ FP env := fun b hb => fresh_fp V (hL b hb)
  have hLn : env.locals ≠ e ∧ env.locals ≠ it := ⟨fun q => hLf e (.head _) (q ▸ .head _), fun q => hLf it (.tail _ (.head _)) (q ▸ .head _)⟩
  refine codeAny_forLoop_any (fun j s' => ∃ i loc old, Ex (FP env) ρ g s₁ ρ g s' ∧ Inv C ρ g st s' ∧ EnvOk C env loc ρ g s' ∧ look 7 loc = some (.str l tr) ∧ IsEnum s'.heap e it ((i : Nat) : Int) old ∧ s'.heap.IsListIter it ad i ∧ i + j = xs.length + 1 ∧ findS l tr i (xs.drop i) = some r) ?_ (xs.length + 1)
    ⟨0, zipL [6, 7] [.ref id, .str l tr], .none, Ex.keepHeap (tk := s₁.toks) hk (Nat.le_refl _), J.heap (tk := s₁.toks) hk (Nat.le_refl _), V.ex (Ex.keepHeap (W := []) (tk := s₁.toks) hk (Nat.le_refl _)), rfl, he, hit, Nat.zero_add _, hf⟩
  rintro j s' ⟨i, loc, old, x, J', V', hb7, he, hit, hij, hf⟩
  obtain ⟨ws, m, hws, rs⟩ := J'.get hx hid
  have hi : i < xs.length := by
    rcases Nat.lt_or_ge i xs.length with h | h
    · exact h
    · rw [List.drop_of_length_le h] at hf; cases hf
  rw [List.drop_eq_getElem_cons hi] at hf
  obtain ⟨u, hu⟩ : ∃ u, xs[i] = u := ⟨_, rfl⟩
  rw [hu] at hf
  have hu' : xs[i]? = some u := by rw [List.getElem?_eq_getElem hi, hu]
  cases u with
  | str m t =>
    obtain ⟨rfl, rfl, hf⟩ := findS_here hf
    obtain ⟨v, hv, rv⟩ := rs.get hu'
    refine wpAny_pyNext_enum_item he hit hws.isList (by simpa using hv) hne fun h₂ he₂ hit₂ hT₂ _ hk₂ => ?_
    have hkL : ∀ b o, b ∉ [e, it] → s'.heap.get? b = some o → h₂.get? b = some o := fun b o hb q => hk₂ b o (fun z => hb (by simp [z])) (fun z => hb (by simp [z])) q
    refine wpAny_letOwnedTupleGo_enum he₂ fun h₃ he₃ hs₃ => ?_
    have hTne : s'.heap.objs.size ≠ e := fun z => by
      have : e < s'.heap.objs.size := Heap.lt_size he
      omega
    have hkL3 : ∀ b o, b ∉ [e, it] → s'.heap.get? b = some o → h₃.get? b = some o := fun b o hb q => hs₃.extBut b o (fun z => hb (by simp [z])) (hkL b o hb q)
    have x₃ : Ex (FP env) ρ g s₁ ρ g { s' with heap := h₃, toks := s'.toks + 1 } := x.afterL hL hkL3 (Nat.le_succ _)
    have J₃ := J'.otherL hLρ hLb hkL3 (Nat.le_succ s'.toks)
    have V₃ := V'.otherL hLf hkL3 (Nat.le_succ s'.toks)
    have hT₃ : h₃.get? s'.heap.objs.size = some { cls := .type "tuple", data := .seq #[.int i s'.toks, v] } := hs₃.extBut _ _ hTne hT₂
    refine assign_Tuple_tuple (s := { s' with heap := h₃, toks := s'.toks + 1 }) (items := #[.int i s'.toks, v]) R₁.hh ⟨_, hT₃, rfl, _, rfl⟩ rfl rfl fun h₄ hx₄ => ?_
    have hk₄ : ∀ b o, h₃.get? b = some o → h₄.get? b = some o := fun b o q => hx₄ b o (fun z => by rw [z] at q; exact absurd (Heap.lt_size q) (Nat.lt_irrefl _)) q
    have x₄ : Ex (FP env) ρ g s₁ ρ g { s' with heap := h₄, toks := s'.toks + 1 } := x₃.keep1 (h' := h₄) hk₄ (Nat.le_refl _)
    have J₄ : Inv C ρ g st { s' with heap := h₄, toks := s'.toks + 1 } := J₃.heap (h' := h₄) (tk := s'.toks + 1) hk₄ (Nat.le_refl _)
    have V₄ : EnvOk C env loc ρ g { s' with heap := h₄, toks := s'.toks + 1 } := V₃.ex (Ex.keepHeap (W := []) (s := { s' with heap := h₃, toks := s'.toks + 1 }) hk₄ (Nat.le_refl _))
    have rv4 : VR C ρ g (s'.toks + 1) (.str m true) v := rv.of _ (Nat.le_succ _)
    have keepP : ∀ {sa sb : Shared}, Ex (FP env) ρ g sa ρ g sb → ∀ b ∈ [e, it], ∀ o, sa.heap.get? b = some o → sb.heap.get? b = some o := fun y b hb o q => y.heap b o (hLρ b hb) (hLf b hb) q
    refine wpAny_assignInOrder_more (assign_Name (st_var (u := .int (.c (Int.ofNat i)) 64) J₄ V₄ (hst 8 (by simp)).1 (hst 8 (by simp)).2 (VR.i _ _ _ rfl (.inr ?_)) (LW.fp 8) fun s₅ x₅ J₅ V₅ => ?_))
    · show ((i : Nat) : Int).natAbs < 2 ^ 64; omega
    refine wpAny_assignInOrder_more (assign_Name (st_var J₅ V₅ (hst 9 (by simp)).1 (hst 9 (by simp)).2 (rv4.ex x₅) (LW.fp 9) fun s₆ x₆ J₆ V₆ => wpAny_assignInOrder_none ?_))
    have hq7 : look 7 (put 9 (.str m true) (put 8 (.int (.c (Int.ofNat i)) 64) loc)) = some (.str l true) := by
      rw [look_put, look_put]; exact hb7
    have hq9 : look 9 (put 9 (.str m true) (put 8 (.int (.c (Int.ofNat i)) 64) loc)) = some (.str m true) := by
      rw [look_put]; rfl
    have hq8 : look 8 (put 9 (.str m true) (put 8 (.int (.c (Int.ofNat i)) 64) loc)) = some (.int (.c (Int.ofNat i)) 64) := by
      rw [look_put, look_put]; rfl
    refine wpAny_execs_cons (wpAny_If (wpAny_mono (Q := fun b s' => b = eqM m l ∧ s₆ = s') (is_or_eq O.toCxOk J₆ V₆ ⟨hlc 9 (by simp), hlc 7 (by simp)⟩ hq9 hq7 ⟨rfl, rfl⟩) (fun b s' hb => ?_) F0le))
    obtain ⟨hbb, rfl⟩ := hb
    subst hbb
    have x₆' : Ex (FP env) ρ g s₁ ρ g s₆ := (x₄.trans x₅).trans x₆
    rcases hf with ⟨hf, hr⟩ | ⟨hf, hr⟩
    · rw [hf, if_pos rfl]
      subst hr
      refine wpAny_execs_cons (wpAny_Return_some (ld_var V₆ (by decide) (hlc 8 (by simp)) hq8 fun y hy => ?_))
      exact ⟨ρ, g, x₁.transW x₆' hfp, J₆, hy⟩
    · rw [hf, if_neg Bool.false_ne_true]
      refine wpAny_execs_nil (wpAny_execs_nil ?_)
      have pe : IsEnum s₆.heap e it ((i + 1 : Nat) : Int) v := keepP (x₅.trans x₆) e (.head _) _ (hk₄ _ _ he₃)
      obtain ⟨oi, hoi, ri⟩ := hit₂.extBut hs₃.extBut (Ne.symm hne)
      refine ⟨j - 1, by omega, i + 1, _, v, x₆', J₆, V₆, hq7, pe, ⟨oi, keepP (x₅.trans x₆) it (.tail _ (.head _)) _ (hk₄ _ _ hoi), ri⟩, by omega, hr⟩
  | none => cases hf
  | bool b => cases hf
  | int p k => cases hf
  | ref i => cases hf
  | fn k => cases hf
end
end Mine
end

section
open Sem (wp)
set_option autoImplicit false
namespace Mine
section
variable {prog : Program} {w : World} {A : Around} {E : Value → Shared → Prop} {s : Shared}

/-- one step of enumerate, over any iterator whose next is told -/
theorem enumNext {e it : Addr} {i : Nat} {old : Value} {Q : Option Value → Shared → Prop} (he : IsEnum s.heap e it i old) (hne : e ≠ it)
    (hn : wpAny (model prog w) A.in1 (Builtin.SmallTypes.nextOf (.ref it)) (fun x s₁ => ∃ h₁ tk, s₁ = { s with heap := h₁, toks := tk } ∧ Heap.SameBut it s.heap h₁ ∧
      ∀ h', IsEnumOut h' e it ((i : Int) + 1) x s.heap.objs.size → h'.get? s.heap.objs.size = some { cls := .type "tuple", data := .seq #[.int i tk, x] } → (∀ b o, b ≠ e → h₁.get? b = some o → h'.get? b = some o) →
        Q (some (.ref s.heap.objs.size)) { s with heap := h', toks := tk + 1 }) F0 s) : wpAny (model prog w) A (pyNext (.ref e)) Q E s := by
  have hT : s.TypeIs (.ref e) "enumerate" := ⟨_, he, rfl⟩
  have hlt : e < s.heap.objs.size := Heap.lt_size he
  unfold pyNext
  refine wpAny_bind (wpAny_attempt (wpAny_callSpecial?_slot (name := Str.ofString "__next__") hT F.slot_enumerate_next
    (wpAny_call_entry F.slot_enumerate_next hT F.entry_enumerate_next ?_ (F.args_enumerate_next_1 _))))
  show wpAny _ _ (field (.ref e) 2 >>= _) _ _ _
  refine wpAny_bind (wpAny_field he rfl (x := .ref it) rfl (wpAny_bind (wpAny_mono hn (fun x s₁ q => ?_) F0le)))
  obtain ⟨h₁, tk, rfl, hs₁, hQ⟩ := q
  have e₁ : IsEnum h₁ e it i old := (hs₁.2 e hne).trans he
  refine wpAny_bind (m := field (.ref e) 3) (wpAny_field (s := { s with heap := h₁, toks := tk }) e₁ rfl (x := rawInt i) rfl ?_)
  refine wpAny_bind (m := field (.ref e) 4) (wpAny_field (s := { s with heap := h₁, toks := tk }) e₁ rfl (x := .none) rfl ?_)
  refine wpAny_bind (m := mkInt i) (wpAny_mkInt ?_)
  refine wpAny_bind (m := setField (.ref e) 3 (rawInt ((i : Int) + 1))) (wpAny_setField_rec (s := { s with heap := h₁, toks := tk + 1 }) e₁ (by simp) fun h₂ e₂ hs₂ => ?_)
  replace e₂ : IsEnum h₂ e it ((i : Int) + 1) old := e₂
  refine wpAny_bind (m := setField (.ref e) 4 .none) (wpAny_setField_rec (s := { s with heap := h₂, toks := tk + 1 }) e₂ (by simp) fun h₃ e₃ hs₃ => ?_)
  replace e₃ : IsEnum h₃ e it ((i : Int) + 1) old := e₃
  have z₃ : h₃.objs.size = s.heap.objs.size := (hs₃.1.trans hs₂.1).trans hs₁.1
  refine wpAny_bind (m := newTuple [.int i tk, x]) (wpAny_newTuple ?_)
  generalize hp : h₃.push { cls := .type "tuple", data := .seq [.int (i : Int) tk, x].toArray } = h₄
  have e₄ : IsEnum h₄ e it ((i : Int) + 1) old := hp ▸ Heap.get?_push_of_some _ e₃
  have t₄ : h₄.get? s.heap.objs.size = some { cls := .type "tuple", data := .seq #[.int i tk, x] } := by rw [← hp, ← z₃]; exact Heap.get?_push_size _ rfl
  have k₄ : ∀ b o, b ≠ e → h₁.get? b = some o → h₄.get? b = some o := fun b o hb q => hp ▸ Heap.get?_push_of_some _ (hs₃.extBut b o hb (hs₂.extBut b o hb q))
  rw [show ({ s with heap := h₃, toks := tk + 1 } : Shared).heap.objs.size = s.heap.objs.size from z₃]
  refine wpAny_bind (m := Builtin.SmallTypes.ownedTupleIsFree (.ref e)) ?_
  unfold Builtin.SmallTypes.ownedTupleIsFree
  refine wpAny_bind (wpAny_field (s := { s with heap := h₄, toks := tk + 1 }) e₄ rfl (x := .none) rfl (wpAny_pure ?_))
  simp only [if_true]
  refine wpAny_bind (wpAny_rule ?_)
  refine wpAny_bind (wpAny_field (s := { s with heap := h₄, toks := tk + 1 }) e₄ rfl (x := old) rfl ?_)
  refine wpAny_bind (wpAny_setField_rec (s := { s with heap := h₄, toks := tk + 1 }) e₄ (by simp) fun h₅ e₅ hs₅ => ?_)
  replace e₅ : IsEnum h₅ e it ((i : Int) + 1) x := e₅
  refine wpAny_bind (m := Builtin.SmallTypes.ownedTupleHandOut (.ref e) (.ref s.heap.objs.size)) ?_
  unfold Builtin.SmallTypes.ownedTupleHandOut
  refine wpAny_bind (wpAny_setField_rec (s := { s with heap := h₅, toks := tk + 1 }) e₅ (by simp) fun h₆ e₆ hs₆ => ?_)
  replace e₆ : IsEnumOut h₆ e it ((i : Int) + 1) x s.heap.objs.size := e₆
  refine wpAny_setField_rec (s := { s with heap := h₆, toks := tk + 1 }) e₆ (by simp) fun h₇ e₇ hs₇ => ?_
  replace e₇ : IsEnumOut h₇ e it ((i : Int) + 1) x s.heap.objs.size := e₇
  refine wpAny_bind (wpAny_letGo (wpAny_pure ⟨_, rfl, wpAny_pure (hQ h₇ e₇ ?_ fun b o hb q => ?_)⟩))
  · exact hs₇.extBut _ _ (Nat.ne_of_gt hlt) (hs₆.extBut _ _ (Nat.ne_of_gt hlt) (hs₅.extBut _ _ (Nat.ne_of_gt hlt) t₄))
  · exact hs₇.extBut _ _ hb (hs₆.extBut _ _ hb (hs₅.extBut _ _ hb (k₄ b o hb q)))

theorem nextOf_str {it : Addr} {x : Str} {t : Tok} {i c : Nat} {Q : Value → Shared → Prop} (hit : s.heap.IsStrIter it (strIterType x) x t i) (hx : x.cps[i]? = some c)
    (hQ : ∀ h', h'.IsStrIter it (strIterType x) x t (i + 1) → Heap.SameBut it s.heap h' → Q (.str ⟨#[c]⟩ s.toks) { s with heap := h', toks := s.toks + 1 }) :
    wpAny (model prog w) A (Builtin.SmallTypes.nextOf (.ref it)) Q E s := by
  unfold strIterType at hit hQ
  split at hit
  · next h => rw [if_pos h] at hQ; exact wpAny_nextOf_ascii_item hit hx hQ
  · next h => rw [if_neg h] at hQ; exact wpAny_nextOf_wide_item hit hx hQ
theorem enumEnd {e it : Addr} {x : Str} {t : Tok} {i : Nat} {old : Value} {Q : Option Value → Shared → Prop} (hh : A.handled = none) (he : IsEnum s.heap e it i old) (hit : s.heap.IsStrIter it (strIterType x) x t i) (hx : i = x.cps.size)
    (hQ : ∀ h', Heap.ExtBut it s.heap h' → Q none { s with heap := h' }) : wpAny (model prog w) A (pyNext (.ref e)) Q E s := by
  subst hx
  unfold strIterType at hit
  split at hit
  · exact wpAny_pyNext_enum_endD (Draws.strAscii (A := A.in1) hh it x t) he hit hQ
  · exact wpAny_pyNext_enum_endD (Draws.strWide (A := A.in1) hh it x t) he hit hQ
end
end Mine
end

section
open Sem (wp)
set_option autoImplicit false
namespace Mine

section
variable {prog : Program} {w : World} {A : Around} {R : GenEnd} {Y : Protocol} {n : Nat} {s₀ : Shared} {c : Code} {fs : List Frame} {s : Shared} {env : Env}
  {K : Flow → Sem Fin} {H : Value → Sem Fin} {gd : Bool → Bool} {lv : List Value → List Value}

theorem seg_If {test : Expr} {body orelse : List Stmt} {pos : Pos}
    (h : wpAny (model prog w) (A.over c fs) (isTrue test env (eval test env)) (fun b s' => Seg (model prog w) A R Y n s₀ c ((if b = true then execs body env else execs orelse env).wrap K H gd lv) fs s') F0 s) :
    Seg (model prog w) A R Y n s₀ c ((exec (.If test body orelse pos) env).wrap K H gd lv) fs s := by
  rw [exec_If]
  exact seg_bind_wrap (wpAny_standAt (seg_bind_wrap (wpAny_mono h (fun _ _ q => q) F0le)))
theorem seg_plain {st : Stmt} {Q : Shared → Prop} (h : wpAny (model prog w) (A.over c fs) (exec st env) (fun f s' => f = .next ∧ Q s') F0 s) (k : ∀ s', Q s' → Seg (model prog w) A R Y n s₀ c (K .next) fs s') :
    Seg (model prog w) A R Y n s₀ c ((exec st env).wrap K H gd lv) fs s :=
  seg_wrap (wpAny_mono h (fun f s' q => by obtain ⟨rfl, q⟩ := q; exact k s' q) F0le)

theorem seg_For {target iter : Expr} {body orelse : List Stmt} {pos : Pos} (hs : ∀ x, foldedSetIterable iter env x = pure x)
    (h : wpAny (model prog w) (A.over c fs) (eval iter env) (fun x s₁ => wpAny (model prog w) (A.over c fs) (pyIter x) (fun it s₂ => ∀ (p : Pos) (k : Result → Sem Fin), k (.ok .next) = K .next →
      Seg (model prog w) A R Y n s₀ (.forLoop target it body orelse env) ((model prog w).den (.forLoop target it body orelse env)) (.ret k none (gd false) (lv []) c p [] :: fs) s₂) F0 s₁) F0 s) :
    Seg (model prog w) A R Y n s₀ c ((exec (.For target iter body orelse pos) env).wrap K H gd lv) fs s := by
  rw [exec_For]
  refine seg_bind_wrap (wpAny_standAt (seg_bind_wrap (wpAny_mono h (fun x s₁ h₁ => seg_bind_wrap (wpAny_of_eq (hs x) (seg_bind_wrap (wpAny_standAt (seg_bind_wrap (wpAny_holding (wpAny_mono h₁ (fun it s₂ h₂ => ?_) F0le))))))) F0le)))
  exact seg_call fun p => h₂ p _ rfl

noncomputable def KF (c : Code) : Flow → Sem Fin := fun f => match f with
  | .next | .cont => .pure (.again c)
  | .brk => .pure (.done .next)
  | .ret v => .pure (.done (.ret v))
theorem seg_forTurn {target : Expr} {it : Value} {body orelse : List Stmt}
    (h : wpAny (model prog w) (A.over (.forLoop target it body orelse env) fs) (pyNext it) (fun r s' => match r with
      | none => Seg (model prog w) A R Y n s₀ (.forLoop target it body orelse env) (.pure (.again (.block orelse env))) fs s'
      | some v => wpAny (model prog w) (A.over (.forLoop target it body orelse env) fs) (letOwnedTupleGo target it v) (fun _ s₂ => wpAny (model prog w) (A.over (.forLoop target it body orelse env) fs) (assign target env v) (fun _ s₃ =>
          ∀ (H : Value → Sem Fin) (gd : Bool → Bool) (lv : List Value → List Value), gd false = false → Seg (model prog w) A R Y n s₀ (.forLoop target it body orelse env) ((execs body env).wrap (KF (.forLoop target it body orelse env)) H gd lv) fs s₃) F0 s₂) F0 s') F0 s) :
    Seg (model prog w) A R Y n s₀ (.forLoop target it body orelse env) ((model prog w).den (.forLoop target it body orelse env)) fs s := by
  show Seg _ A R Y n s₀ _ ((forTurn target it body orelse env).onRaise (fun x => do noteFrame x env; theTreesLotGoes x)) fs s
  unfold forTurn
  rw [Sem.onRaise_eq_wrap]
  refine seg_bind_wrap (wpAny_standAt (seg_bind_wrap (wpAny_onRaise (wpAny_mono h (fun r s' h' => ?_) F0le))))
  cases r with
  | none => exact h'
  | some v =>
    refine seg_bind_wrap (wpAny_mono h' (fun _ s₂ h₂ => seg_bind_wrap (wpAny_mono h₂ (fun _ s₃ h₃ => ?_) F0le)) F0le)
    rw [Sem.bind_eq_wrap', Sem.wrap_wrap]
    rw [Sem.wrap_congr (execs body env) _ _ (K' := KF (.forLoop target it body orelse env)) (fun f => by cases f <;> rfl) (fun _ => rfl)]
    exact h₃ _ _ _ rfl

theorem seg_block_nil (h : ∀ c', Seg (model prog w) A R Y n s₀ c' (.pure (.done .next)) fs s) : Seg (model prog w) A R Y n s₀ c (.pure (.again (.block [] env))) fs s := by
  refine seg_again rfl ?_
  show Seg _ A R Y n s₀ _ (((execs [] env).onRaise (fun x => do noteFrame x env; theTreesLotGoes x)) >>= _) fs s
  rw [Sem.onRaise_eq_wrap]
  exact seg_bind (wpAny_pure (h _))
end
end Mine
end

section
open Sem (wp)
set_option autoImplicit false
namespace Mine

theorem gen_body : ∃ a1 a2 a3 b1 b2 b3 c1 c2 c3 k1 d1 d2 d3 e1 e2 f1 f2 f3 f4 f5 f6 f7 f8 f9 k2 k3 g1 g2 g3 g4 k4 g5 g6 i1 i2 i3 i4 k5 j1 j2 j3 k6 l1 l2 l3 l4 k7 m1 tail, fnBody 1 =
    [.Assign [.Name "pos" a1] (.Constant (.int 0) a2 a3) b1, .Assign [.Name "escape" b2] (.Constant (.bool false) b3 c1) c2,
     .For (.Tuple [.Name "pos" c3, .Name "ch" d1] k1 d2) (.Call (.Name "enumerate" d3) [.Name "addr" e1] [] e2) [
       .If (.Name "escape" f1) [.Expr (.Yield (some (.Tuple [.Name "pos" f2, .BinOp (.Constant (.str ⟨#[92]⟩) k2 f3) .Add (.Name "ch" f4) f5] k3 f6)) f7) f8, .Assign [.Name "escape" f9] (.Constant (.bool false) k4 g1) g2]
         [.If (.Compare (.Name "ch" g3) [.Eq] [.Constant (.str ⟨#[92]⟩) k5 g4] g5) [.Assign [.Name "escape" g6] (.Constant (.bool true) k6 i1) i2]
           [.Expr (.Yield (some (.Tuple [.Name "pos" i3, .Name "ch" i4] k7 j1)) j2) j3] l1] l2] [] l3,
     .If (.Name "escape" l4) tail [] m1] :=
  ⟨_, _, _, _, _, _, _, _, _, _, _, _, _, _, _, _, _, _, _, _, _, _, _, _, _, _, _, _, _, _, _, _, _, _, _, _, _, _, _, _, _, _, _, _, _, _, _, _, _, rfl⟩

structure GE (env : Env) (L : Addr) : Prop where
  kind : env.scope.kind = .function
  loc : env.locals = L
  glob : env.globals = mainGlobals
  bi : env.builtins = builtinsNs
  names : env.scope.names = (fnScope 1).names
  co : env.scope.isCoroutine = false

section
variable {prog : Program} {w : World} {A : Around} {E : Value → Shared → Prop} {s : Shared} {env : Env} {L e it : Addr}
theorem GE.k (G : GE env L) (x : Str) (h : (fnScope 1).names.lookup x = some .local) : env.kindOf x = some .local := by
  show env.scope.names.lookup x = _
  rw [G.names]; exact h
theorem ldG (G : GE env L) {x : Str} (hx : (fnScope 1).names.lookup x = some .local) {m : Str → Option Value} (hn : s.heap.Ns L m) {v : Value} (hv : m x = some v) {p : Pos} {Q : Value → Shared → Prop} (h : Q v s) (hd : (x == ("__debug__" : Str)) = false) :
    wpAny (model prog w) A (eval (.Name x p) env) Q E s :=
  wpAny_Name (wpAny_loadName_local G.kind (G.k x hx) (by rw [G.loc]; exact hn) hv h) hd
theorem stG (G : GE env L) {x : Str} (hx : (fnScope 1).names.lookup x = some .local) {m : Str → Option Value} (hn : s.heap.Ns L m) {v : Value} {Q : Unit → Shared → Prop}
    (h : ∀ h', h'.Ns L (fun y => if y = x then some v else m y) → Heap.SameBut L s.heap h' → Q () { s with heap := h', toks := s.toks + 1 }) : wpAny (model prog w) A (storeName env x v) Q E s := by
  have := G.loc
  subst this
  exact wpAny_storeName_local (G.k x hx) hn h (by rw [G.kind]; rfl)

/-- what the suspended generator keeps -/
noncomputable def Gst (L e it : Addr) (x : Str) (t : Tok) (esc : Bool) (i : Nat) (h : Heap) : Prop :=
  (∃ m, h.Ns L m ∧ m "escape" = some (.bool esc)) ∧ (∃ old, IsEnum h e it ((i : Nat) : Int) old) ∧ h.IsStrIter it (strIterType x) x t i
theorem Gst.keeps {x : Str} {t : Tok} {esc : Bool} {i : Nat} {h h' : Heap} (g : Gst L e it x t esc i h) (hk : ∀ b ∈ [L, e, it], ∀ o, h.get? b = some o → h'.get? b = some o) : Gst L e it x t esc i h' := by
  obtain ⟨⟨m, h1, h2⟩, ⟨old, h3⟩, o, h4, h5⟩ := g
  exact ⟨⟨m, h1.at' (hk L (by simp)), h2⟩, ⟨old, hk e (by simp) _ h3⟩, o, hk it (by simp) _ h4, h5⟩
noncomputable def Since (P : List Addr) (s₀ s : Shared) : Prop := ∃ h' tk, s = { s₀ with heap := h', toks := tk } ∧ s₀.toks ≤ tk ∧ ∀ b o, b ∉ P → s₀.heap.get? b = some o → h'.get? b = some o
theorem Since.refl (P : List Addr) (s : Shared) : Since P s s := ⟨s.heap, s.toks, rfl, Nat.le_refl _, fun _ _ _ e => e⟩
theorem Since.step {P : List Addr} {s₀ s : Shared} (x : Since P s₀ s) {h' : Heap} {tk : Nat} (ht : s.toks ≤ tk) (hk : ∀ b o, b ∉ P → s.heap.get? b = some o → h'.get? b = some o) : Since P s₀ { s with heap := h', toks := tk } := by
  obtain ⟨h₁, tk₁, rfl, h1, h2⟩ := x
  exact ⟨h', tk, rfl, Nat.le_trans h1 ht, fun b o hb e => hk b o hb (h2 b o hb e)⟩
theorem Since.toks {P : List Addr} {s₀ s : Shared} (x : Since P s₀ s) : s₀.toks ≤ s.toks := by obtain ⟨h₁, tk₁, rfl, h1, h2⟩ := x; exact h1

/-- a turn's head: the next sign, bound to the names -/
theorem gen_next {x : Str} {t : Tok} {esc : Bool} {i c : Nat} (hh : A.handled = none) (G : GE env L) (hne : e ≠ it) (hLe : L ≠ e) (hLi : L ≠ it) (g : Gst L e it x t esc i s.heap) (hc : x.cps[i]? = some c) {p1 p2 p3 : Pos} {k : Nat} {Z : Shared → Prop} {Q : Shared → Prop}
    (h : ∀ h' tk m ti, h'.Ns L m → m "pos" = some (.int (i : Int) ti) → m "ch" = some (.str ⟨#[c]⟩ s.toks) → s.toks < tk → Gst L e it x t esc (i + 1) h' → (∃ m', h'.Ns L m' ∧ m' = m) → m "escape" = some (.bool esc) → (∀ b o, b ∉ [L, e, it] → s.heap.get? b = some o → h'.get? b = some o) → Q { s with heap := h', toks := tk }) :
    wpAny (model prog w) A (pyNext (.ref e)) (fun r s' => match r with
      | none => Z s'
      | some v => wpAny (model prog w) A (letOwnedTupleGo (.Tuple [.Name "pos" p1, .Name "ch" p2] k p3) (.ref e) v) (fun _ s₂ => wpAny (model prog w) A (assign (.Tuple [.Name "pos" p1, .Name "ch" p2] k p3) env v) (fun _ s₃ => Q s₃) F0 s₂) F0 s') F0 s := by
  obtain ⟨⟨m, h1, h2⟩, ⟨old, h3⟩, h4⟩ := g
  refine enumNext h3 hne (nextOf_str h4 hc fun h₁ hi₁ hs₁ => ⟨h₁, s.toks + 1, rfl, hs₁, fun h₂ he₂ hT hk₂ => ?_⟩)
  have hTe : s.heap.objs.size ≠ e := Nat.ne_of_gt (Heap.lt_size h3)
  have hTL : s.heap.objs.size ≠ L := by obtain ⟨o, _, _, ho, _⟩ := h1; exact Nat.ne_of_gt (Heap.lt_size ho)
  refine wpAny_letOwnedTupleGo_enum he₂ fun h₃ he₃ hs₃ => ?_
  have hT₃ : h₃.get? s.heap.objs.size = some { cls := .type "tuple", data := .seq #[.int i (s.toks + 1), .str ⟨#[c]⟩ s.toks] } := hs₃.extBut _ _ hTe hT
  refine assign_Tuple_tuple (s := { s with heap := h₃, toks := s.toks + 1 + 1 }) (items := #[.int i (s.toks + 1), .str ⟨#[c]⟩ s.toks]) hh ⟨_, hT₃, rfl, _, rfl⟩ rfl rfl fun h₄ hx₄ => ?_
  have hk₄ : ∀ b o, h₃.get? b = some o → h₄.get? b = some o := fun b o q => hx₄ b o (fun z => by rw [z] at q; exact absurd (Heap.lt_size q) (Nat.lt_irrefl _)) q
  have k03 : ∀ b o, b ≠ e → b ≠ it → s.heap.get? b = some o → h₄.get? b = some o := fun b o n1 n2 q => hk₄ b o (hs₃.extBut b o n1 (hk₂ b o n1 (hs₁.extBut b o n2 q)))
  have n₄ : h₄.Ns L m := h1.at' fun o q => k03 L o hLe hLi q
  refine wpAny_assignInOrder_more (assign_Name (stG G rfl n₄ fun h₅ n₅ hs₅ => ?_))
  refine wpAny_assignInOrder_more (assign_Name (stG G rfl n₅ fun h₆ n₆ hs₆ => wpAny_assignInOrder_none ?_))
  have k46 : ∀ b o, b ≠ L → h₄.get? b = some o → h₆.get? b = some o := fun b o n q => hs₆.extBut b o n (hs₅.extBut b o n q)
  refine h h₆ (s.toks + 1 + 1 + 1 + 1) _ (s.toks + 1) n₆ ?_ ?_ (by omega) ⟨⟨_, n₆, ?_⟩, ⟨_, k46 e _ hLe.symm (hk₄ _ _ he₃)⟩, ?_⟩ ⟨_, n₆, rfl⟩ ?_ fun b o hb q => ?_
  · rw [if_neg (by decide), if_pos rfl]
  · rw [if_pos rfl]
  · rw [if_neg (by decide), if_neg (by decide)]; exact h2
  · obtain ⟨o, ho, r⟩ := hi₁
    exact ⟨o, k46 it _ hLi.symm (hk₄ _ _ (hs₃.extBut _ _ hne.symm (hk₂ _ _ hne.symm ho))), r⟩
  · rw [if_neg (by decide), if_neg (by decide)]; exact h2
  · simp at hb
    exact k46 b o hb.1 (k03 b o hb.2.1 hb.2.2 q)
end
end Mine
end

section
open Sem (wp)
set_option autoImplicit false
namespace Mine
noncomputable def Yg (P : List Addr) (its : List (Nat × List Nat)) : Protocol := fun m s₀ v s kap => ∃ (q : Nat × List Nat) (T : Addr) (t' u : Tok), its[its.length - 1 - m]? = some q ∧ v = .ref T ∧
  s.heap.get? T = some { cls := .type "tuple", data := .seq #[.int (q.1 : Int) t', .str ⟨q.2.toArray⟩ u] } ∧ s₀.toks ≤ u ∧ u < s.toks ∧ Since P s₀ s ∧ (∀ b ∈ P, ∃ o, s.heap.get? b = some o) ∧
  ∀ s'' : Shared, (∀ b ∈ P, ∀ o, s.heap.get? b = some o → s''.heap.get? b = some o) → kap (.send .none) s''
noncomputable def Rg (P : List Addr) : GenEnd := fun n s₀ r s₁ => r = .ok (.ret .none) ∧ (n = 0 ∧ Since P s₀ s₁)
theorem Gst.live {L e it : Addr} {x : Str} {t : Tok} {esc : Bool} {i : Nat} {h : Heap} (g : Gst L e it x t esc i h) : ∀ b ∈ [L, e, it], ∃ o, h.get? b = some o := by
  obtain ⟨⟨m, ⟨o1, _, _, h1, _⟩, _⟩, ⟨old, h3⟩, o4, h4, _⟩ := g
  intro b hb
  simp at hb
  rcases hb with rfl | rfl | rfl
  · exact ⟨_, h1⟩
  · exact ⟨_, h3⟩
  · exact ⟨_, h4⟩

section
variable {prog : Program} {w : World} {A : Around} {env : Env} {L e it : Addr} {x : Str} {t : Tok} {its : List (Nat × List Nat)} {fs : List Frame}

theorem gen_loop (hfs : splitAtGen fs = none) (hfg : fs.any Frame.guarded = false) (hov : ∀ c, (A.over c fs).handled = none) (G : GE env L) (hne : e ≠ it) (hLe : L ≠ e) (hLi : L ≠ it)
    (hEnd : ∀ s₀ s c', Since [L, e, it] s₀ s → (∃ m, s.heap.Ns L m ∧ m "escape" = some (.bool false)) → Seg (model prog w) A (Rg [L, e, it]) (Yg [L, e, it] its) 0 s₀ c' (.pure (.done .next)) fs s)
    {c3 d1 d2 f1 f2 f3 f4 f5 f6 f7 f8 f9 g1 g2 g3 g4 g5 g6 i1 i2 i3 i4 j1 j2 j3 l1 l2 : Pos} {k1 k2 k3 k4 k5 k6 k7 : Nat} : ∀ (n i : Nat) (rest : List Nat) (rem : List (Nat × List Nat)), rest.length ≤ n → i ≤ x.cps.size → x.cps.toList.drop i = rest → iterF i rest = some rem → (∃ done, its = done ++ rem) → ∀ s₀ s, Since [L, e, it] s₀ s → Gst L e it x t false i s.heap →
      Seg (model prog w) A (Rg [L, e, it]) (Yg [L, e, it] its) rem.length s₀ (.forLoop (.Tuple [.Name "pos" c3, .Name "ch" d1] k1 d2) (.ref e) [.If (.Name "escape" f1) [.Expr (.Yield (some (.Tuple [.Name "pos" f2, .BinOp (.Constant (.str ⟨#[92]⟩) k2 f3) .Add (.Name "ch" f4) f5] k3 f6)) f7) f8, .Assign [.Name "escape" f9] (.Constant (.bool false) k4 g1) g2]
         [.If (.Compare (.Name "ch" g3) [.Eq] [.Constant (.str ⟨#[92]⟩) k5 g4] g5) [.Assign [.Name "escape" g6] (.Constant (.bool true) k6 i1) i2]
           [.Expr (.Yield (some (.Tuple [.Name "pos" i3, .Name "ch" i4] k7 j1)) j2) j3] l1] l2] [] env)
        ((model prog w).den (.forLoop (.Tuple [.Name "pos" c3, .Name "ch" d1] k1 d2) (.ref e) [.If (.Name "escape" f1) [.Expr (.Yield (some (.Tuple [.Name "pos" f2, .BinOp (.Constant (.str ⟨#[92]⟩) k2 f3) .Add (.Name "ch" f4) f5] k3 f6)) f7) f8, .Assign [.Name "escape" f9] (.Constant (.bool false) k4 g1) g2]
         [.If (.Compare (.Name "ch" g3) [.Eq] [.Constant (.str ⟨#[92]⟩) k5 g4] g5) [.Assign [.Name "escape" g6] (.Constant (.bool true) k6 i1) i2]
           [.Expr (.Yield (some (.Tuple [.Name "pos" i3, .Name "ch" i4] k7 j1)) j2) j3] l1] l2] [] env)) fs s := by
  have hout : ∀ T : Addr, ∀ h : Heap, h.get? T = none → ∀ esc i, Gst L e it x t esc i h → T ∉ [L, e, it] := fun T h hT esc i g hm => by obtain ⟨o, q⟩ := g.live T hm; rw [hT] at q; cases q
  have hidx : ∀ (q : Nat × List Nat) (rem : List (Nat × List Nat)), (∃ done, its = done ++ q :: rem) → its[its.length - 1 - rem.length]? = some q := by
    rintro q rem ⟨done, rfl⟩
    rw [List.length_append, List.length_cons, show done.length + (rem.length + 1) - 1 - rem.length = done.length by omega, List.getElem?_append_right (Nat.le_refl _), Nat.sub_self]; rfl
  have hdrop : ∀ {i c : Nat} {r : List Nat}, x.cps.toList.drop i = c :: r → x.cps[i]? = some c ∧ x.cps.toList.drop (i + 1) = r ∧ i + 1 ≤ x.cps.size := by
    intro i c r h
    have hi : i < x.cps.toList.length := by
      rcases Nat.lt_or_ge i x.cps.toList.length with q | q
      · exact q
      · rw [List.drop_of_length_le q] at h; cases h
    rw [List.drop_eq_getElem_cons hi] at h
    obtain ⟨h1, h2⟩ := List.cons.inj h
    have hi' : i < x.cps.size := by simpa using hi
    refine ⟨?_, h2, hi'⟩
    rw [Array.getElem?_eq_getElem hi', ← h1]; simp
  intro n
  induction n with
  | zero =>
    intro i rest rem hn hi hr hf hd s₀ s hs g
    obtain rfl : rest = [] := List.length_eq_zero_iff.mp (Nat.le_zero.mp hn)
    cases hf
    have hsz : i = x.cps.size := by
      have : x.cps.toList.length ≤ i := List.drop_eq_nil_iff.mp hr
      simp at this; omega
    obtain ⟨⟨m, h1, h2⟩, ⟨old, h3⟩, h4⟩ := g
    refine seg_forTurn (enumEnd (hov _) h3 h4 hsz fun h' hx => seg_block_nil fun c' => hEnd _ _ c' (hs.step (tk := s.toks) (Nat.le_refl _) fun b o hb q => hx b o (fun z => hb (by simp [z])) q) ⟨m, h1.at' fun o q => hx L o hLi q, h2⟩)
  | succ n IH =>
    intro i rest rem hn hi hr hf hd s₀ s hs g
    cases rest with
    | nil => exact IH i [] rem (Nat.zero_le _) hi hr hf hd s₀ s hs g
    | cons c r =>
      obtain ⟨hc, hr1, hi1⟩ := hdrop hr
      rw [iterF.eq_def] at hf
      dsimp only at hf
      refine seg_forTurn (gen_next (hov _) G hne hLe hLi g hc fun h₁ tk m ti n1 n2 n3 ht g₁ _ n5 hk => ?_)
      intro H gd lv hgd
      have hs₁ : Since [L, e, it] s₀ { s with heap := h₁, toks := tk } := hs.step (Nat.le_of_lt ht) hk
      refine seg_execs_cons (seg_If (wpAny_isTrue_value (ldG G rfl n1 n5 (wpAny_truthy_bool ?_) (by decide)) rfl))
      rw [if_neg Bool.false_ne_true]
      refine seg_execs_cons (seg_If (wpAny_isTrue_Compare1 (ldG G rfl n1 n3 (wpAny_Constant_str (P.eq_str (wpAny_truthy_bool ?_))) (by decide)) rfl))
      have hbe : ((⟨#[c]⟩ : Str).cps.toList == (⟨#[92]⟩ : Str).cps.toList) = Nat.beq c 92 := by
        rw [beq_eq']
        show ([c] == [92]) = decide (c = 92)
        by_cases h : c = 92 <;> simp [h]
      rw [hbe]
      have hs₂ : Since [L, e, it] s₀ { s with heap := h₁, toks := tk + 1 } := hs.step (by omega) hk
      cases hb : Nat.beq c 92 with
      | false =>
        rw [hb] at hf
        simp only [Option.map_eq_some_iff] at hf
        obtain ⟨rem', hf, rfl⟩ := hf
        rw [if_neg Bool.false_ne_true]
        refine seg_execs_cons (seg_Expr_Yield hfs hgd hfg (wpAny_Tuple (args_cons (ldG G rfl n1 n2 (args_cons (ldG G rfl n1 n3 (args_nil ⟨by show (2 : Nat) ≤ 2 ^ 24; decide, fun kap hkap => ?_⟩) (by decide)) rfl) (by decide)) rfl)) G.co (by unfold interactive; rw [G.kind]; rfl))
        refine ⟨(i, [c]), _, ti, s.toks, hidx _ _ hd, rfl, Heap.get?_push_size _ rfl, hs.toks, Nat.lt_succ_of_lt ht, hs₂.step (tk := tk + 1) (Nat.le_refl _) (fun b o hb q => Heap.get?_push_of_some _ q), fun b hb => ?_, fun s'' hal => ?_⟩
        · obtain ⟨o, q⟩ := g₁.live b hb; exact ⟨o, Heap.get?_push_of_some _ q⟩
        · refine hkap .none s'' ?_
          exact seg_again rfl (IH (i + 1) r rem' (by simp at hn; omega) hi1 hr1 hf (let ⟨d, hd⟩ := hd; ⟨d ++ [(i, [c])], by rw [hd]; simp⟩) s'' s'' (Since.refl _ _) (g₁.keeps fun b hb o q => hal b hb o (Heap.get?_push_of_some _ q)))
      | true =>
        rw [hb] at hf
        rw [if_pos rfl]
        cases r with
        | nil => cases hf
        | cons d r' =>
          simp only [Option.map_eq_some_iff] at hf
          obtain ⟨rem', hf, rfl⟩ := hf
          obtain ⟨hd1, hr2, hi2⟩ := hdrop hr1
          refine seg_execs_cons (seg_plain (Q := fun s' => Since [L, e, it] s₀ s' ∧ Gst L e it x t true (i + 1) s'.heap) (wpAny_Assign_Name (wpAny_Constant_bool (stG G rfl n1 fun h₂ n₂ hs2 => ⟨rfl, ?_, ?_⟩)) rfl) fun s' hq => ?_)
          · exact hs₂.step (tk := tk + 1 + 1) (by show tk + 1 ≤ _; omega) (fun b o hb q => hs2.extBut b o (fun z => hb (by simp [z])) q)
          · obtain ⟨_, ⟨old, h3⟩, h4⟩ := g₁
            exact ⟨⟨_, n₂, if_pos rfl⟩, ⟨old, hs2.extBut e _ hLe.symm h3⟩, h4.extBut hs2.extBut hLi.symm⟩
          obtain ⟨hs₃, g₃⟩ := hq
          refine seg_again rfl ?_
          refine seg_forTurn (gen_next (hov _) G hne hLe hLi g₃ hd1 fun h₄ tk4 m4 ti4 n1 n2 n3 ht4 g₄ _ n5 hk4 => ?_)
          intro H gd lv hgd
          have hs₄ : Since [L, e, it] s₀ { s' with heap := h₄, toks := tk4 } := hs₃.step (Nat.le_of_lt ht4) hk4
          refine seg_execs_cons (seg_If (wpAny_isTrue_value (ldG G rfl n1 n5 (wpAny_truthy_bool ?_) (by decide)) rfl))
          rw [if_pos rfl]
          refine seg_execs_cons (seg_Expr_Yield hfs hgd hfg (wpAny_Tuple (args_cons (ldG G rfl n1 n2 (args_cons (wpAny_BinOp (wpAny_Constant_str (ldG G rfl n1 n3 (P.add_str ⟨by show (2 : Nat) ≤ 2 ^ 24; decide, args_nil ⟨by show (2 : Nat) ≤ 2 ^ 24; decide, fun kap hkap => ?_⟩⟩) (by decide)))) rfl) (by decide)) rfl)) G.co (by unfold interactive; rw [G.kind]; rfl))
          refine ⟨(i + 1, [92, d]), _, ti4, tk4 + 1, hidx _ _ hd, rfl, Heap.get?_push_size _ rfl, Nat.le_trans hs₄.toks (Nat.le_succ _), Nat.lt_succ_self _, hs₄.step (tk := tk4 + 1 + 1) (by show tk4 ≤ _; omega) (fun b o hb q => Heap.get?_push_of_some _ q), fun b hb => ?_, fun s'' hal => ?_⟩
          · obtain ⟨o, q⟩ := g₄.live b hb; exact ⟨o, Heap.get?_push_of_some _ q⟩
          · refine hkap .none s'' ?_
            have g₅ := g₄.keeps fun b hb o q => hal b hb o (Heap.get?_push_of_some _ q)
            obtain ⟨⟨m5, h51, h52⟩, ⟨old5, h53⟩, h54⟩ := g₅
            refine seg_execs_cons (seg_plain (Q := fun s' => Since [L, e, it] s'' s' ∧ Gst L e it x t false (i + 1 + 1) s'.heap) (wpAny_Assign_Name (wpAny_Constant_bool (stG G rfl h51 fun h₂ n₂ hs2 => ⟨rfl, ?_, ?_⟩)) rfl) fun s' hq => ?_)
            · exact (Since.refl _ _).step (Nat.le_succ _) (fun b o hb q => hs2.extBut b o (fun z => hb (by simp [z])) q)
            · exact ⟨⟨_, n₂, if_pos rfl⟩, ⟨old5, hs2.extBut e _ hLe.symm h53⟩, h54.extBut hs2.extBut hLi.symm⟩
            exact seg_again rfl (IH (i + 1 + 1) r' rem' (by simp at hn; omega) hi2 hr2 hf (let ⟨d', hd⟩ := hd; ⟨d' ++ [(i + 1, [92, d])], by rw [hd]; simp⟩) s'' s' hq.1 hq.2)
end
end Mine
end

section
open Sem (wp)
set_option autoImplicit false
namespace Mine
section
variable {prog : Program} {w : World} {A : Around} {env : Env} {L : Addr} {x : Str} {t : Tok} {its : List (Nat × List Nat)}

theorem gen_start (hA : A.handled = none) (G : GE env L) {mg mb : Str → Option Value} {s : Shared} (hg : s.heap.Ns mainGlobals mg) (hb : s.heap.Ns builtinsNs mb) (hen : mg "enumerate" = none ∧ mb "enumerate" = some (.type "enumerate"))
    {m : Str → Option Value} (hn : s.heap.Ns L m) (hv : m "addr" = some (.str x t)) (hLm : L ≠ mainGlobals) (hLb : L ≠ builtinsNs) (hf : iterF 0 x.cps.toList = some its) :
    Seg (model prog w) A (Rg [L, s.heap.objs.size + 1, s.heap.objs.size]) (Yg [L, s.heap.objs.size + 1, s.heap.objs.size] its) its.length s (.func (fnBody 1) env) ((model prog w).den (.func (fnBody 1) env)) [] s := by
  obtain ⟨a1, a2, a3, b1, b2, b3, c1, c2, c3, k1, d1, d2, d3, e1, e2, f1, f2, f3, f4, f5, f6, f7, f8, f9, k2, k3, g1, g2, g3, g4, k4, g5, g6, i1, i2, i3, i4, k5, j1, j2, j3, k6, l1, l2, l3, l4, k7, m1, tail, hbody⟩ := gen_body
  rw [hbody]
  have hLlt : L < s.heap.objs.size := by obtain ⟨o, _, _, ho, _⟩ := hn; exact Heap.lt_size ho
  generalize hP : [L, s.heap.objs.size + 1, s.heap.objs.size] = P
  refine seg_func (seg_execs_cons (seg_plain (Q := fun s' => Since P s s' ∧ Heap.SameBut L s.heap s'.heap ∧ ∃ m, s'.heap.Ns L m ∧ m "addr" = some (.str x t)) (wpAny_Assign_Name (wpAny_Constant_int (stG (s := { s with toks := s.toks + 1 }) G rfl hn fun h' n' hs => ⟨rfl, ?_, hs, _, n', ?_⟩)) rfl) fun s' hq => ?_))
  · exact (Since.refl _ _).step (by show s.toks ≤ s.toks + 1 + 1; omega) (fun b o hb q => hs.extBut b o (fun z => hb (by rw [← hP]; simp [z])) q)
  · rw [if_neg (by decide)]; exact hv
  obtain ⟨hs', hsb', m', n', hv'⟩ := hq
  refine seg_execs_cons (seg_plain (Q := fun s' => Since P s s' ∧ Heap.SameBut L s.heap s'.heap ∧ ∃ m, s'.heap.Ns L m ∧ m "addr" = some (.str x t) ∧ m "escape" = some (.bool false)) (wpAny_Assign_Name (wpAny_Constant_bool (stG G rfl n' fun h' n' hs => ⟨rfl, ?_, hsb'.trans hs, _, n', ?_, if_pos rfl⟩)) rfl) fun s'' hq => ?_)
  · exact hs'.step (by omega) (fun b o hb q => hs.extBut b o (fun z => hb (by rw [← hP]; simp [z])) q)
  · rw [if_neg (by decide)]; exact hv'
  obtain ⟨hs2, hsb2, m2, n2, hv2, he2⟩ := hq
  have hg2 : s''.heap.Ns mainGlobals mg := hg.sameBut hsb2 (Ne.symm hLm)
  have hb2 : s''.heap.Ns builtinsNs mb := hb.sameBut hsb2 (Ne.symm hLb)
  refine seg_execs_cons (seg_For (fun _ => rfl) (Call_ (Calls.Name_function_global G.kind (by show env.scope.names.lookup _ = _; rw [G.names]; rfl) (Calls.loadGlobal_builtin (by rw [G.glob]; exact hg2) hen.1 (by rw [G.bi]; exact hb2) hen.2
    (callWith_type1 (args_cons (ldG G rfl n2 hv2 (args_nil (call_enumerate_str fun h' he hit hsz hk => wpAny_pyIter_enum he fun p k hkk => ?_)) (by decide)) rfl) rfl)) (by decide))))
  rw [hsb2.1] at he hit ⊢
  subst hP
  have hLe : L ≠ s.heap.objs.size + 1 := Nat.ne_of_lt (Nat.lt_succ_of_lt hLlt)
  have hLi : L ≠ s.heap.objs.size := Nat.ne_of_lt hLlt
  have live : ∀ b o, b ∉ [L, s.heap.objs.size + 1, s.heap.objs.size] → s''.heap.get? b = some o → h'.get? b = some o := fun b o _ q => hk b o q
  refine gen_loop (L := L) (e := s.heap.objs.size + 1) (it := s.heap.objs.size) (x := x) (t := t) ?_ ?_ (fun _ => ?_) G (Nat.succ_ne_self _) hLe hLi (fun s₀ s₁ c' hs1 hm => ?_) x.cps.toList.length 0 x.cps.toList its (Nat.le_refl _) (Nat.zero_le _) rfl hf ⟨[], rfl⟩ s { s'' with heap := h' } (hs2.step (tk := s''.toks) (Nat.le_refl _) live) ⟨⟨m2, n2.at' fun o q => hk L o q, he2⟩, ⟨_, he⟩, hit⟩
  · rfl
  · rfl
  · exact hA
  obtain ⟨m3, n3, he3⟩ := hm
  refine seg_leaf (.ok .next) ?_
  rw [hkk]
  refine seg_execs_cons (seg_If (wpAny_isTrue_value (ldG G rfl n3 he3 (wpAny_truthy_bool ?_) (by decide)) rfl))
  rw [if_neg Bool.false_ne_true]
  exact seg_end (.ok (.ret .none)) ⟨rfl, rfl, hs1⟩
end
end Mine
end

section
open Sem (wp)
set_option autoImplicit false
namespace Mine

noncomputable def GenOk (C : Cx) : Prop := ∃ gf pm cd doc o, C.mg "_iter_escaped_chars" = some (.ref gf) ∧ C.h₀.get? gf = some o ∧ o.data = .func (Calls.docDef "_iter_escaped_chars" (fnArgs 1) (fnBody 1) (fnScope 1) pm cd doc) ∧ C.h₀.CodeRec cd "_iter_escaped_chars"

section
variable {C : Cx} {W : List Addr} {N n : Nat} {A : Around} {env : Env} {loc loc' : Loc} {ρ ρ' : List Addr} {g g' g2 : Nat → List Nat} {st st' : St} {s s' S S' : Shared} {P : List Addr}

theorem VR.ghost {a : MV} {v : Value} {n m : Nat} (h : VR C ρ g n a v) (hn : n ≤ m) (hg : ∀ t, t < n → g2 t = g t) : VR C ρ g2 m a v := by
  cases a with
  | str l tr => obtain ⟨t, e, k⟩ := h; exact ⟨t, e, fun q => let ⟨a, b, c⟩ := k q; ⟨a, Nat.lt_of_lt_of_le b hn, (hg t b).trans c⟩⟩
  | ref i => exact h
  | none => exact h
  | bool b => exact h
  | int p k => exact h
  | fn k => exact h
theorem VRs.ghost {as : List MV} {vs : List Value} {n m : Nat} (h : VRs C ρ g n as vs) (hn : n ≤ m) (hg : ∀ t, t < n → g2 t = g t) : VRs C ρ g2 m as vs := by
  induction h with
  | nil => exact .nil
  | cons a _ ih => exact .cons (a.ghost hn hg) ih

theorem Ex.afterG (x : Ex W ρ g s ρ' g' s') (hL : ∀ b ∈ P, s.heap.get? b = none) (he : ∀ b o, b ∉ P → s'.heap.get? b = some o → S.heap.get? b = some o) (ht : s'.toks ≤ S.toks) (hg : ∀ t, t < s'.toks → g2 t = g' t) (hgen : S.gens = s'.gens) (hos : S.os = s'.os) : Ex W ρ g s ρ' g2 S where
  pre := x.pre
  fresh := x.fresh
  heap := fun b o hb hw e => he b o (fun q => by rw [hL b q] at e; cases e) (x.heap b o hb hw e)
  live := fun b o e => let ⟨o', e'⟩ := x.live b o e; ⟨o', he b o' (fun q => by rw [hL b q] at e; cases e) e'⟩
  g := fun t h => (hg t (Nat.lt_of_lt_of_le h x.toks)).trans (x.g t h)
  toks := Nat.le_trans x.toks ht
  gens := fun i y e => by rw [hgen]; exact x.gens i y e
  bare := fun i y e => x.bare i y (by rw [← hgen]; exact e)
  os := hos.trans x.os
theorem Inv.afterG (V : Inv C ρ g st s) (h1 : ∀ b ∈ P, b ∉ ρ) (h2 : ∀ b ∈ P, C.h₀.get? b = none) (he : ∀ b o, b ∉ P → s.heap.get? b = some o → S.heap.get? b = some o) (ht : s.toks ≤ S.toks) (hg : ∀ t, t < s.toks → g2 t = g t) : Inv C ρ g2 st S := by
  have hr : ∀ a ∈ ρ, ∀ o, s.heap.get? a = some o → S.heap.get? a = some o := fun a ha o e => he a o (fun q => h1 a q ha) e
  refine ⟨fun b o e => he b o (fun q => by rw [h2 b q] at e; cases e) (V.keep b o e), V.away, fun a ha => let ⟨o, e⟩ := V.live a ha; ⟨o, hr a ha o e⟩, V.nodup, V.len, fun i o e => ?_, Nat.le_trans V.tok ht⟩
  obtain ⟨a, ea, r⟩ := V.obj i o e
  refine ⟨a, ea, ?_⟩
  have hm := List.mem_of_getElem? ea
  cases o with
  | list xs => obtain ⟨vs, k, e, r⟩ := r; exact ⟨vs, k, hr a hm _ e, r.ghost ht hg⟩
  | tup xs => obtain ⟨vs, k, e, r⟩ := r; exact ⟨vs, k, hr a hm _ e, r.ghost ht hg⟩
theorem EnvOk.afterG (V : EnvOk C env loc ρ g s) (h1 : ∀ b ∈ P, b ∉ FP env) (he : ∀ b o, b ∉ P → s.heap.get? b = some o → S.heap.get? b = some o) (ht : s.toks ≤ S.toks) (hg : ∀ t, t < s.toks → g2 t = g t) : EnvOk C env loc ρ g2 S := by
  have hk : ∀ b ∈ FP env, ∀ o, s.heap.get? b = some o → S.heap.get? b = some o := fun b hb o e => he b o (fun q => h1 b q hb) e
  refine ⟨V.kind, V.glob, V.bi, V.has, ?_, fun y c hc => ?_, V.apart, V.lc, V.away, fun i u hi hl hc => ?_⟩
  · obtain ⟨m, hm⟩ := V.ns; exact ⟨m, hm.at' (hk _ (.head _))⟩
  · obtain ⟨v, o, ho, hd⟩ := V.cells y c hc
    exact ⟨v, o, hk _ (mem_FP_cell hc) _ ho, hd⟩
  · obtain ⟨v, hv, hq⟩ := V.vars i u hi hl hc
    exact ⟨v, hv.ghost ht hg, hq.keep hk⟩

theorem setGen2 (s : Shared) (g : Nat) (a b : GenState) : (s.setGen g a).setGen g b = s.setGen g b := by
  simp [Shared.setGen]
theorem setGen_other (s : Shared) {g i : Nat} (a : GenState) (h : i ≠ g) : (s.setGen g a).gens[i]? = s.gens[i]? := by
  simp [Shared.setGen, Ne.symm h]
/-- what comes between two looks at the generator -/
theorem Ex.setGen (y : Ex W ρ g S ρ' g' S') {gi : Nat} {gs : GenState} (hg : S.gens[gi]? = some gs) : Ex W ρ g (S.setGen gi .finished) ρ' g' (S'.setGen gi .finished) where
  pre := y.pre
  fresh := y.fresh
  heap := y.heap
  live := y.live
  g := y.g
  toks := y.toks
  gens := fun i x e => by
    by_cases h : i = gi
    · subst h
      rw [setGen_self hg] at e
      rw [setGen_self (y.gens _ _ hg)]; exact e
    · rw [setGen_other _ _ h] at e ⊢; exact y.gens i x e
  bare := fun i x e => by
    by_cases h : i = gi
    · subst h
      rw [setGen_self (y.gens _ _ hg)] at e
      cases e; exact .inr rfl
    · rw [setGen_other _ _ h] at e ⊢; exact y.bare i x e
  os := y.os

theorem go_gen {prog : Program} {w : World} {E : Value → Shared → Prop} {es : List Expr} {k : Nat} {pos : Pos} {a T gi : Nat} {Q : Unit → Shared → Prop} (h : s.heap.IsGen a gi) (hQ : Q () s) : wpAny (model prog w) A (letOwnedTupleGo (.Tuple es k pos) (.ref a) (.ref T)) Q E s := by
  obtain ⟨o, nm, qn, ho, hc, hd, _⟩ := h
  unfold letOwnedTupleGo
  refine wpAny_bind (wpAny_load ho ?_)
  rw [hc, hd]
  show wpAny _ A (if (["enumerate", "zip", "dict_itemiterator", "dict_reverseitemiterator", "odict_iterator", "itertools.zip_longest", "itertools.pairwise"].contains "generator" && _) = true then _ else _) Q E s
  rw [if_neg (by
    intro h
    rw [show (["enumerate", "zip", "dict_itemiterator", "dict_reverseitemiterator", "odict_iterator", "itertools.zip_longest", "itertools.pairwise"].contains "generator") = false from by decide, Bool.false_and] at h
    cases h)]
  exact wpAny_pure hQ
end
end Mine
end

section
open Sem (wp)
set_option autoImplicit false
namespace Mine
section
variable {C : Cx} {W : List Addr} {N n : Nat} {A : Around} {env : Env} {loc loc' : Loc} {ρ ρ₁ ρ' : List Addr} {g g₁ g' g2 : Nat → List Nat} {st st' : St} {s s₁ s' S S' : Shared} {P : List Addr}

theorem forG_loop (O : CxFn C) {ih : Ev} (HS : OkS C N ih.s) {ns : Nms} {v w : Nat} (hv : v < NV) (hw : w < NV) (hl : isLC ns (nmS v)) (hm : isLC ns (nmS w)) {xs : List XS} {l : List Stmt} {k : Nat} {p q p3 : Pos} (ha : RelSs ns xs l) (R : Rm A (N + 1)) (hn : env.scope.names = ns) (hh : Has env)
    {its : List (Nat × List Nat)} {a gi : Nat} (hP : ∀ b ∈ P, s₁.heap.get? b = none ∧ C.h₀.get? b = none ∧ b ∉ FP env) (haP : a ∉ P) (haf : a ∉ FP env) (hab : C.h₀.get? a = none)
    {fl : Fl} {RR : Result → Shared → Prop} (hR : ∀ F s', SQ C env ρ₁ g₁ s₁ fl loc' st' F s' → RR (.ok F) s')
    {gs : GenState} (hx : Ex (FP env) ρ₁ g₁ s₁ ρ₁ g₁ (s.setGen gi .finished)) (J : Inv C ρ₁ g₁ st s) (V : EnvOk C env loc ρ₁ g₁ s) (hPρ : ∀ b ∈ P, b ∉ ρ₁) (haρ : a ∉ ρ₁) (hG : s.heap.IsGen a gi) (hgs : s.gens[gi]? = some gs)
    (hgo : gs.Goes (model C.prog C.w) A.in1 (Rg P) (Yg P its) its.length (.send .none) (s.setGen gi .running))
    (h : flG (fun p c loc st => ssOf ih.s xs (put w (.str c true) (put v (.int (.c (Int.ofNat p)) 64) loc)) st) its loc st = some (fl, loc', st')) (hsz : ∀ t ∈ its, t.1 < 2 ^ 63) :
    codeAny (model C.prog C.w) A (.forLoop (.Tuple [.Name (nmS v) p, .Name (nmS w) q] k p3) (.ref a) l [] env) RR s := by
  refine codeAny_forLoop_any (fun j s' => ∃ ρ' g' loc st rem gs, Ex (FP env) ρ₁ g₁ s₁ ρ' g' (s'.setGen gi .finished) ∧ Inv C ρ' g' st s' ∧ EnvOk C env loc ρ' g' s' ∧ (∀ b ∈ P, b ∉ ρ') ∧ a ∉ ρ' ∧ s'.heap.IsGen a gi ∧ s'.gens[gi]? = some gs ∧
    gs.Goes (model C.prog C.w) A.in1 (Rg P) (Yg P its) rem.length (.send .none) (s'.setGen gi .running) ∧ (∃ done, its = done ++ rem) ∧
    flG (fun p c loc st => ssOf ih.s xs (put w (.str c true) (put v (.int (.c (Int.ofNat p)) 64) loc)) st) rem loc st = some (fl, loc', st') ∧ j = rem.length + 1) ?_ (its.length + 1)
    ⟨ρ₁, g₁, loc, st, its, gs, hx, J, V, hPρ, haρ, hG, hgs, hgo, ⟨[], rfl⟩, h, rfl⟩
  rintro j s ⟨ρ', g', loc, st, rem, gs, x, J, V, hPρ, haρ, hG, hgs, hgo, ⟨done, hd⟩, h, rfl⟩
  refine wpAny_pyNext_gen (P := fun n s₀ s₁ => n = 0 ∧ Since P s₀ s₁) (Y := Yg P its) R.hh (O.lim.keeps J.keep) R.room hG hgs hgo (fun vv s₄ gs' hv' => ?_) (fun s₄ hp h' hk => ?_)
  · obtain ⟨q', T, t', u, hidx, rfl, hT, hu1, hu2, ⟨h4, tk4, rfl, ht4, hk4⟩, hlive, hkap⟩ := hv'
    cases rem with
    | nil => exact (hkap _ fun _ _ _ e => e).elim
    | cons q0 rem =>
      have hq : q' = q0 := by
        have e : its[its.length - 1 - ((q0 :: rem).length - 1)]? = some q0 := by
          rw [hd, List.length_append, List.length_cons, show done.length + (rem.length + 1) - 1 - (rem.length + 1 - 1) = done.length by omega, List.getElem?_append_right (Nat.le_refl _), Nat.sub_self]; rfl
        rw [e] at hidx; cases hidx; rfl
      subst hq
      have hmem : q' ∈ its := by rw [hd]; simp
      generalize hS : (Shared.setGen { s.setGen gi .running with heap := h4, toks := tk4 } gi gs') = S₅
      have hSh : S₅.heap = h4 := by rw [← hS]; rfl
      have hSt : S₅.toks = tk4 := by rw [← hS]; rfl
      have hSo : S₅.os = s.os := by rw [← hS]; rfl
      have hSf : (S₅.setGen gi .finished).gens = (s.setGen gi .finished).gens := by rw [← hS]; simp [Shared.setGen]
      have hSg : S₅.gens[gi]? = some gs' := by rw [← hS]; exact setGen_self (gs := .running) (setGen_self hgs)
      have hu1 : s.toks ≤ u := hu1
      have hu2 : u < tk4 := hu2
      have ht4 : s.toks ≤ tk4 := ht4
      have hk4 : ∀ b o, b ∉ P → s.heap.get? b = some o → S₅.heap.get? b = some o := by rw [hSh]; exact hk4
      have hg2 : ∀ t, t < s.toks → updG g' u q'.2 t = g' t := fun t h => if_neg (by omega)
      have x₅ : Ex (FP env) ρ₁ g₁ s₁ ρ' (updG g' u q'.2) (S₅.setGen gi .finished) := x.afterG (P := P) (fun b hb => (hP b hb).1) (fun b o hb e => hk4 b o hb e) (by show s.toks ≤ S₅.toks; rw [hSt]; exact ht4) hg2 hSf (by show S₅.os = s.os; exact hSo)
      have J₅ : Inv C ρ' (updG g' u q'.2) st S₅ := J.afterG (P := P) hPρ (fun b hb => (hP b hb).2.1) hk4 (by rw [hSt]; exact ht4) hg2
      have V₅ : EnvOk C env loc ρ' (updG g' u q'.2) S₅ := V.afterG (P := P) (fun b hb => (hP b hb).2.2) hk4 (by rw [hSt]; exact ht4) hg2
      have hG₅ : S₅.heap.IsGen a gi := by obtain ⟨o, nm, qn, ho, r⟩ := hG; exact ⟨o, nm, qn, hk4 a o haP ho, r⟩
      refine go_gen hG₅ ?_
      have hT₅ : S₅.heap.get? T = some { cls := .type "tuple", data := .seq #[.int (q'.1 : Int) t', .str ⟨q'.2.toArray⟩ u] } := by rw [hSh]; exact hT
      refine assign_Tuple_tuple (items := #[.int (q'.1 : Int) t', .str ⟨q'.2.toArray⟩ u]) R.hh ⟨_, hT₅, rfl, _, rfl⟩ rfl rfl fun h₆ hx₆ => ?_
      have hk₆ : ∀ b o, S₅.heap.get? b = some o → h₆.get? b = some o := fun b o z => hx₆ b o (fun e => by rw [e] at z; exact absurd (Heap.lt_size z) (Nat.lt_irrefl _)) z
      have y₆ : Ex [] ρ' (updG g' u q'.2) S₅ ρ' (updG g' u q'.2) { S₅ with heap := h₆ } := Ex.keepHeap (tk := S₅.toks) hk₆ (Nat.le_refl _)
      have J₆ : Inv C ρ' (updG g' u q'.2) st { S₅ with heap := h₆ } := J₅.heap (tk := S₅.toks) hk₆ (Nat.le_refl _)
      have r1 : VR C ρ' (updG g' u q'.2) S₅.toks (.int (.c (Int.ofNat q'.1)) 64) (.int (q'.1 : Int) t') := VR.i _ _ _ rfl (.inr (by have := hsz _ hmem; omega))
      have r2 : VR C ρ' (updG g' u q'.2) S₅.toks (.str q'.2 true) (.str ⟨q'.2.toArray⟩ u) := ⟨u, rfl, fun _ => ⟨Nat.ne_of_gt (Nat.lt_of_lt_of_le J.tok hu1), by rw [hSt]; exact hu2, if_pos rfl⟩⟩
      have sv : Stb env v := Stb.of hv hh (by rw [hn]; exact hl)
      have sw : Stb env w := Stb.of hw hh (by rw [hn]; exact hm)
      refine wpAny_assignInOrder_more (assign_Name (st_var J₆ (V₅.ex y₆) sv.1 sv.2 (r1.ex y₆) (LW.fp v) fun s₇ y₇ J₇ V₇ => ?_))
      refine wpAny_assignInOrder_more (assign_Name (st_var J₇ V₇ sw.1 sw.2 ((r2.ex y₆).ex y₇) (LW.fp w) fun s₈ y₈ J₈ V₈ => wpAny_assignInOrder_none ?_))
      have y58 : Ex (FP env) ρ' (updG g' u q'.2) S₅ ρ' (updG g' u q'.2) s₈ := (y₆.any.trans y₇).trans y₈
      have cont : ∀ {fl1 loc1 st1}, ssOf ih.s xs (put w (.str q'.2 true) (put v (.int (.c (Int.ofNat q'.1)) 64) loc)) st = some (fl1, loc1, st1) → wpAny (model C.prog C.w) A (execs l env) (SQ C env ρ' (updG g' u q'.2) s₈ fl1 loc1 st1) F0 s₈ := fun e => ss_ok HS (R.le (Nat.le_succ N)) hn hh ha V₈ J₈ e
      simp only [flG] at h
      split at h
      · next loc1 st1 e1 =>
        refine wpAny_mono (cont e1) (fun F s₉ z => ?_) F0le
        obtain ⟨ρ₉, g₉, y₉, J₉, V₉, r₉⟩ := z
        cases r₉
        have y59 := y58.trans y₉
        have hlv : ∀ b ∈ P, ∃ o, S₅.heap.get? b = some o := by rw [hSh]; exact hlive
        obtain ⟨oa, nm, qn, hoa, ra⟩ := hG₅
        refine ⟨rem.length + 1, by simp, ρ₉, g₉, loc1, st1, rem, gs', x₅.trans (y59.setGen hSg), J₉, V₉, fun b hb => y59.notin (hPρ b hb) (hlv b hb), y59.notin haρ ⟨_, hoa⟩, ⟨oa, nm, qn, y59.heap _ _ haρ haf hoa, ra⟩, y59.gens _ _ hSg, ?_, ⟨done ++ [q'], by rw [hd]; simp⟩, h, rfl⟩
        exact hkap (s₉.setGen gi .running) fun b hb o e => y59.heap b o (hPρ b hb) (hP b hb).2.2 (by rw [hSh]; exact e)
      · cases h
  · obtain ⟨hn0, h4, tk4, rfl, ht4, hk4⟩ := hp
    have hrem : rem = [] := List.length_eq_zero_iff.mp hn0
    subst hrem
    cases h
    have ht4 : s.toks ≤ tk4 := ht4
    have he : ∀ b o, b ∉ P → s.heap.get? b = some o → h'.get? b = some o := fun b o hb e => hk b o (hk4 b o hb e)
    refine wpAny_execs_nil (hR _ _ ⟨ρ', g', x.afterG (P := P) (fun b hb => (hP b hb).1) he ht4 (fun _ _ => rfl) ?_ rfl, J.afterG (P := P) hPρ (fun b hb => (hP b hb).2.1) he ht4 (fun _ _ => rfl), V.afterG (P := P) (fun b hb => (hP b hb).2.2) he ht4 (fun _ _ => rfl), rfl⟩)
    simp [Shared.setGen]
end
end Mine
end

section
open Sem (wp)
set_option autoImplicit false
namespace Mine
theorem iterF_lt : ∀ (n : Nat) (l : List Nat) (p : Nat) (its : List (Nat × List Nat)), l.length ≤ n → iterF p l = some its → ∀ t ∈ its, t.1 < p + l.length
  | _, [], p, its, _, h, t, ht => by cases h; cases ht
  | n + 1, c :: r, p, its, hn, h, t, ht => by
    rw [iterF.eq_def] at h
    dsimp only at h
    split at h
    · split at h
      · cases h
      · next d r' =>
        simp only [Option.map_eq_some_iff] at h
        obtain ⟨i2, h, rfl⟩ := h
        simp only [List.length_cons] at hn ⊢
        rcases List.mem_cons.mp ht with rfl | ht
        · show p + 1 < _; omega
        · have := iterF_lt n r' (p + 2) i2 (by omega) h t ht; omega
    · simp only [Option.map_eq_some_iff] at h
      obtain ⟨i2, h, rfl⟩ := h
      simp only [List.length_cons] at hn ⊢
      rcases List.mem_cons.mp ht with rfl | ht
      · show p < _; omega
      · have := iterF_lt n r (p + 1) i2 (by omega) h t ht; omega

theorem gen_ok {C : Cx} (O : CxFn C) (GO : GenOk C) : OkG C := by
  intro N ih HE HS ns v w hv hw hl hm it x xs l k p q p3 p4 p5 pos hg hi ha A env loc loc' ρ g st st1 st' s fl m tr its R hn hh V I h1 h2 h3 h4
  obtain ⟨gf, pm, cd, doc, o, f1, f2, f3, f4⟩ := GO
  refine wpAny_For (Call_ (ld_glob O.toCxOk I V (by rw [hn]; exact hg) f1 (callWith_def f3 (args_cons (wpAny_mono (HE hi (R.le (Nat.le_succ N)) hn V I h1) (fun vv s₁ q => args_nil ?_) F0le) (hi.star _ _)) (hi.star _ _)) (by decide))) (fun _ => rfl)
  obtain ⟨ρ₁, g₁, x₁, J₁, t, rfl, _⟩ := q
  refine ⟨J₁.keep _ _ f2, ?_⟩
  have V₁ := V.ex x₁
  refine wpAny_call (codeAny_call_generator (fd := Calls.docDef "_iter_escaped_chars" (fnArgs 1) (fnBody 1) (fnScope 1) pm cd doc) R.room (J₁.keep _ _ f2) f3 rfl rfl rfl (f4.keeps J₁.keep) ?_)
  refine wpAny_of_eq (a := [(Str.ofString "addr", .str ⟨m.toArray⟩ t)]) rfl ?_
  refine wpAny_newFunctionEnv (scope := fnScope 1) (around := none) (by decide) (fun y hy => by rw [List.mem_singleton.mp hy]; rfl) (fun h' hns hsb => ?_) rfl
  have hk' : ∀ b o, s₁.heap.get? b = some o → h'.get? b = some o := fun b o e => (hsb.2 b (fun z => by rw [z] at e; exact absurd (Heap.lt_size e) (Nat.lt_irrefl _))).trans (Heap.get?_push_of_some _ e)
  refine ⟨O.lim.keeps fun b o e => hk' b o (J₁.keep b o e), ?_⟩
  have hsz : h'.objs.size = s₁.heap.objs.size + 1 := by rw [hsb.1, Heap.size_push]
  show wpAny _ A (pyIter (.ref h'.objs.size)) _ _ _
  generalize hH : h'.push { cls := .type "generator", data := .fields #[.int s₁.gens.size 0, .str (Calls.docDef "_iter_escaped_chars" (fnArgs 1) (fnBody 1) (fnScope 1) pm cd doc).name (s₁.toks + 1), .str (Calls.docDef "_iter_escaped_chars" (fnArgs 1) (fnBody 1) (fnScope 1) pm cd doc).qualname (s₁.toks + 1 + 1)] } = H3
  have hNZ : H3.objs.size = s₁.heap.objs.size + 2 := by rw [← hH, Heap.size_push, hsz]
  have hk3 : ∀ b o, s₁.heap.get? b = some o → H3.get? b = some o := fun b o e => hH ▸ Heap.get?_push_of_some _ (hk' b o e)
  generalize hL : s₁.heap.objs.size = L at *
  have ha1 : h'.objs.size = L + 1 := hsz
  have fr : ∀ b, L ≤ b → s₁.heap.get? b = none := fun b hb => by
    cases e : s₁.heap.get? b with
    | none => rfl
    | some o => exact absurd (Heap.lt_size e) (by rw [hL]; exact Nat.not_lt.mpr hb)
  have hG3 : H3.IsGen h'.objs.size s₁.gens.size := ⟨_, _, _, by rw [← hH]; exact Heap.get?_push_size _ rfl, rfl, rfl, rfl⟩
  refine wpAny_pyIter_gen hG3 ?_
  suffices key : ∀ ge : Env, GE ge L → codeAny (model C.prog C.w) A (.forLoop (.Tuple [.Name (nmS v) p, .Name (nmS w) q] k p3) (.ref h'.objs.size) l [] env) (fun r s' => match r with
      | .ok f => SQ C env ρ g s fl loc' st' f s'
      | .error e => cameBackBy (model C.prog C.w) A env F0 e s') (Shared.mk H3 (s₁.gens.push (.fresh (.func (fnBody 1) ge))) s₁.drawn (s₁.toks + 1 + 1 + 1) s₁.os) from
    key _ ⟨rfl, rfl, rfl, rfl, rfl, rfl⟩
  intro ge G
  generalize hS : (Shared.mk H3 (s₁.gens.push (.fresh (.func (fnBody 1) ge))) s₁.drawn (s₁.toks + 1 + 1 + 1) s₁.os) = S3
  have e1 : S3.heap = H3 := by rw [← hS]
  have e2 : S3.toks = s₁.toks + 1 + 1 + 1 := by rw [← hS]
  have e3 : S3.gens = s₁.gens.push (.fresh (.func (fnBody 1) ge)) := by rw [← hS]
  have e4 : S3.os = s₁.os := by rw [← hS]
  have gkeep : ∀ (i : Nat) (y : GenState), s₁.gens[i]? = some y → i < s₁.gens.size := fun i y e => by
    rcases Nat.lt_or_ge i s₁.gens.size with q | q
    · exact q
    · rw [Array.getElem?_eq_none q] at e; cases e
  have x3 : Ex (FP env) ρ₁ g₁ s₁ ρ₁ g₁ (S3.setGen s₁.gens.size .finished) := by
    refine ⟨⟨[], by simp⟩, fun _ z => .inl z, fun b o _ _ e => ?_, fun b o e => ⟨o, ?_⟩, fun _ _ => rfl, ?_, fun i y e => ?_, fun i y e => ?_, ?_⟩
    · show S3.heap.get? b = _; rw [e1]; exact hk3 b o e
    · show S3.heap.get? b = _; rw [e1]; exact hk3 b o e
    · show s₁.toks ≤ S3.toks; rw [e2]; omega
    · have hi := gkeep i y e
      rw [setGen_other _ _ (Nat.ne_of_lt hi), e3, Array.getElem?_push, if_neg (Nat.ne_of_lt hi)]; exact e
    · by_cases hi : i = s₁.gens.size
      · subst hi
        rw [setGen_self (gs := .fresh (.func (fnBody 1) ge)) (by rw [e3]; simp)] at e
        cases e; exact .inr rfl
      · rw [setGen_other _ _ hi, e3, Array.getElem?_push, if_neg hi] at e
        exact .inl e
    · show S3.os = _; exact e4
  have J3 : Inv C ρ₁ g₁ st1 S3 := J₁.afterG (P := []) (fun _ z => nomatch z) (fun _ z => nomatch z) (fun b o _ e => by rw [e1]; exact hk3 b o e) (by rw [e2]; omega) (fun _ _ => rfl)
  have V3 : EnvOk C env loc ρ₁ g₁ S3 := V₁.afterG (P := []) (fun _ z => nomatch z) (fun b o _ e => by rw [e1]; exact hk3 b o e) (by rw [e2]; omega) (fun _ _ => rfl)
  have hPL : ∀ b ∈ [L, H3.objs.size + 1, H3.objs.size], L ≤ b := by
    intro b hb
    rw [hNZ] at hb
    simp at hb
    rcases hb with rfl | rfl | rfl
    · exact Nat.le_refl _
    · exact Nat.le_add_right L 3
    · exact Nat.le_add_right L 2
  have hmg : ∀ z o, C.h₀.get? z = some o → L ≠ z := fun z o e q => by
    have := Heap.lt_size (J₁.keep z o e)
    rw [hL, q] at this; exact Nat.lt_irrefl _ this
  have nsG : H3.Ns mainGlobals C.mg := O.ns.keeps fun b o e => hk3 b o (J₁.keep b o e)
  have nsB : H3.Ns builtinsNs C.mb := O.nb.keeps fun b o e => hk3 b o (J₁.keep b o e)
  have nL : H3.Ns L (fun x => [(Str.ofString "addr", Value.str ⟨m.toArray⟩ t)].reverse.lookup x) := hns.at' fun o e => by rw [← hH]; exact Heap.get?_push_of_some _ e
  have mL : L ≠ mainGlobals := by obtain ⟨o, _, _, ho, _⟩ := O.ns; exact hmg _ o ho
  have bL : L ≠ builtinsNs := by obtain ⟨o, _, _, ho, _⟩ := O.nb; exact hmg _ o ho
  refine forG_loop O HS hv hw hl hm ha R hn hh (P := [L, H3.objs.size + 1, H3.objs.size]) (its := its) (a := h'.objs.size) (gi := s₁.gens.size) (fun b hb => ⟨fr b (hPL b hb), (fresh_of J₁ (fr b (hPL b hb))).2, fresh_fp V₁ (fr b (hPL b hb))⟩) ?_ (fresh_fp V₁ (fr _ (by rw [ha1]; exact Nat.le_succ L))) (fresh_of J₁ (fr _ (by rw [ha1]; exact Nat.le_succ L))).2 (fun F s' q => ?_)
    (gs := .fresh (.func (fnBody 1) ge)) x3 J3 V3 (fun b hb => (fresh_of J₁ (fr b (hPL b hb))).1) (fresh_of J₁ (fr _ (by rw [ha1]; exact Nat.le_succ L))).1 (by rw [e1]; exact hG3) (by rw [e3]; simp) ⟨rfl, ?_⟩ h4 (fun z hz => ?_)
  · rw [ha1, hNZ]
    intro q
    simp at q
  · obtain ⟨ρ₃, g₃, x₃, J₃, V₃, r₃⟩ := q
    exact ⟨ρ₃, g₃, x₁.any.trans x₃, J₃, V₃, r₃⟩
  · have := gen_start (A := A.in1) (prog := C.prog) (w := C.w) (x := ⟨m.toArray⟩) (t := t) (its := its) (s := S3.setGen s₁.gens.size .running) R.hh G (by show S3.heap.Ns _ _; rw [e1]; exact nsG) (by show S3.heap.Ns _ _; rw [e1]; exact nsB) O.enum (by show S3.heap.Ns _ _; rw [e1]; exact nL) rfl mL bL (by simpa using h3)
    rw [show (S3.setGen s₁.gens.size .running).heap = H3 from e1] at this
    exact this
  · have := iterF_lt m.length m 0 its (Nat.le_refl _) h3 z hz
    omega
end Mine
end

section
open Sem (wp)
set_option autoImplicit false
set_option maxRecDepth 100000
namespace Mine
theorem recAt_body (j : Nat) : (recAt j).body = fnBody j := by unfold recAt fnBody; cases fdAt j with | none => rfl | some st => cases st <;> rfl
theorem recAt_params (j : Nat) : (recAt j).params = fnArgs j := by unfold recAt fnArgs; cases fdAt j with | none => rfl | some st => cases st <;> rfl
theorem recAt_scope (j : Nat) : (recAt j).scope = fnScope j := by unfold recAt fnScope; cases fdAt j with | none => rfl | some st => cases st <;> rfl

/-- def j stands in the heap at a -/
noncomputable def DefAt (h : Heap) (name : Str) (j : Nat) (a : Addr) : Prop := ∃ pm cd doc o, h.get? a = some o ∧ o.data = .func (Calls.docDef name (fnArgs j) (fnBody j) (fnScope j) pm cd doc) ∧ h.CodeRec cd name
theorem def_at {q : Program} {loose : List Str} {R : WRecords} {XP : (Str → Option Value) → Heap → Prop} {w : World} {s₀ : Shared} {mg mb : Str → Option Value} {h : Heap} (G : Ground q loose R XP w s₀ mg mb h) {name : Str} {j : Nat}
    (e : defOf q name = some (recAt j, [])) (hd : (fnArgs j).defaults = []) (hn : (recAt j).name = name) : ∃ a, mg name = some (.ref a) ∧ DefAt h name j a := by
  obtain ⟨a, o, pm, cd, doc, dV, kV, h1, h2, h3, h4, h5⟩ := G.fn e
  have e1 : dV = .none := by
    rcases h5.pos with ⟨_, z⟩ | ⟨z, _⟩
    · exact z
    · exact absurd (by rw [recAt_params]; exact hd) z
  have e2 : kV = .none := by
    rcases h5.kw with ⟨_, z⟩ | ⟨z, _⟩
    · exact z
    · exact absurd rfl z
  subst e1 e2
  rw [recAt_params, recAt_body, recAt_scope, hn] at h3
  rw [hn] at h4
  exact ⟨a, h1, pm, cd, doc, o, h2, h3, h4⟩

noncomputable def FnAt (h : Heap) (a : Addr) (f : Fn) : Prop :=
  ∃ name params body scope pm cd doc o, h.get? a = some o ∧ o.data = .func (Calls.docDef name params body scope pm cd doc) ∧ h.CodeRec cd name ∧
    scope.isCoroutine = false ∧ scope.isGenerator = false ∧ scope.kind = .function ∧
    (∀ vs : List Value, vs.length = f.params.length → bindArgs (Calls.docDef name params body scope pm cd doc) ⟨vs, []⟩ = pure ((f.params.map nmS).zip vs)) ∧
    (∀ i ∈ f.params, i < NV ∧ isLC scope.names (nmS i)) ∧ f.params.Nodup ∧ ((cellsFrom 0 scope.names []).map (·.1)).Nodup ∧ RelSs scope.names f.body body

theorem isLC_of {ns : Nms} {x : Str} (h : (ns.lookup x == some .local || ns.lookup x == some .cell) = true) : isLC ns x := by
  rcases Bool.or_eq_true_iff.mp h with h | h
  · exact .inl (by simpa using h)
  · exact .inr (by simpa using h)

theorem fnAt0 {h : Heap} {name : Str} {a : Addr} (D : DefAt h name 2 a) : FnAt h a ⟨[0], bStrip⟩ := by
  obtain ⟨pm, cd, doc, o, h1, h2, h3⟩ := D
  refine ⟨name, _, _, fnScope 2, pm, cd, doc, o, h1, h2, h3, rfl, rfl, rfl, fun vs hvs => ?_, fun i hi => ?_, by decide, by decide +kernel, rel0⟩
  · match vs, hvs with
    | [a], _ => rfl
  · simp only [List.mem_cons, List.not_mem_nil, or_false] at hi
    rcases hi with rfl <;> exact ⟨by decide, isLC_of (by decide +kernel)⟩

theorem fnAt1 {h : Heap} {name : Str} {a : Addr} (D : DefAt h name 4 a) : FnAt h a ⟨[6, 7], [.ret (.bin .add (.nm 6) (.nm 7))]⟩ := by
  obtain ⟨pm, cd, doc, o, h1, h2, h3⟩ := D
  refine ⟨name, _, _, fnScope 4, pm, cd, doc, o, h1, h2, h3, rfl, rfl, rfl, fun vs hvs => ?_, fun i hi => ?_, by decide, by decide +kernel, rel1⟩
  · match vs, hvs with
    | [a, b], _ => rfl
  · simp only [List.mem_cons, List.not_mem_nil, or_false] at hi
    rcases hi with rfl | rfl <;> exact ⟨by decide, isLC_of (by decide +kernel)⟩

theorem fnAt2 {h : Heap} {name : Str} {a : Addr} (D : DefAt h name 5 a) : FnAt h a ⟨[6, 7], [.ret (.bin .mul (.nm 6) (.nm 7))]⟩ := by
  obtain ⟨pm, cd, doc, o, h1, h2, h3⟩ := D
  refine ⟨name, _, _, fnScope 5, pm, cd, doc, o, h1, h2, h3, rfl, rfl, rfl, fun vs hvs => ?_, fun i hi => ?_, by decide, by decide +kernel, rel2⟩
  · match vs, hvs with
    | [a, b], _ => rfl
  · simp only [List.mem_cons, List.not_mem_nil, or_false] at hi
    rcases hi with rfl | rfl <;> exact ⟨by decide, isLC_of (by decide +kernel)⟩

theorem fnAt3 {h : Heap} {name : Str} {a : Addr} (D : DefAt h name 6 a) : FnAt h a ⟨[6, 7], [.ret (.bin .sub (.nm 6) (.nm 7))]⟩ := by
  obtain ⟨pm, cd, doc, o, h1, h2, h3⟩ := D
  refine ⟨name, _, _, fnScope 6, pm, cd, doc, o, h1, h2, h3, rfl, rfl, rfl, fun vs hvs => ?_, fun i hi => ?_, by decide, by decide +kernel, rel3⟩
  · match vs, hvs with
    | [a, b], _ => rfl
  · simp only [List.mem_cons, List.not_mem_nil, or_false] at hi
    rcases hi with rfl | rfl <;> exact ⟨by decide, isLC_of (by decide +kernel)⟩

theorem fnAt5 {h : Heap} {name : Str} {a : Addr} (D : DefAt h name 60 a) : FnAt h a ⟨[10], [.ret (.cmp .ge (.nm 10) (.gi 0))]⟩ := by
  obtain ⟨pm, cd, doc, o, h1, h2, h3⟩ := D
  refine ⟨name, _, _, fnScope 60, pm, cd, doc, o, h1, h2, h3, rfl, rfl, rfl, fun vs hvs => ?_, fun i hi => ?_, by decide, by decide +kernel, rel5⟩
  · match vs, hvs with
    | [a], _ => rfl
  · simp only [List.mem_cons, List.not_mem_nil, or_false] at hi
    rcases hi with rfl <;> exact ⟨by decide, isLC_of (by decide +kernel)⟩

theorem fnAt6 {h : Heap} {name : Str} {a : Addr} (D : DefAt h name 61 a) : FnAt h a ⟨[10], [.ret (.cmp .eq (.nm 10) (.gi 1))]⟩ := by
  obtain ⟨pm, cd, doc, o, h1, h2, h3⟩ := D
  refine ⟨name, _, _, fnScope 61, pm, cd, doc, o, h1, h2, h3, rfl, rfl, rfl, fun vs hvs => ?_, fun i hi => ?_, by decide, by decide +kernel, rel6⟩
  · match vs, hvs with
    | [a], _ => rfl
  · simp only [List.mem_cons, List.not_mem_nil, or_false] at hi
    rcases hi with rfl <;> exact ⟨by decide, isLC_of (by decide +kernel)⟩

theorem fnAt7 {h : Heap} {name : Str} {a : Addr} (D : DefAt h name 63 a) : FnAt h a ⟨[11, 12], bValues⟩ := by
  obtain ⟨pm, cd, doc, o, h1, h2, h3⟩ := D
  refine ⟨name, _, _, fnScope 63, pm, cd, doc, o, h1, h2, h3, rfl, rfl, rfl, fun vs hvs => ?_, fun i hi => ?_, by decide, by decide +kernel, rel7⟩
  · match vs, hvs with
    | [a, b], _ => rfl
  · simp only [List.mem_cons, List.not_mem_nil, or_false] at hi
    rcases hi with rfl | rfl <;> exact ⟨by decide, isLC_of (by decide +kernel)⟩

theorem fnAt8 {h : Heap} {name : Str} {a : Addr} (D : DefAt h name 64 a) : FnAt h a ⟨[11, 12], bTies⟩ := by
  obtain ⟨pm, cd, doc, o, h1, h2, h3⟩ := D
  refine ⟨name, _, _, fnScope 64, pm, cd, doc, o, h1, h2, h3, rfl, rfl, rfl, fun vs hvs => ?_, fun i hi => ?_, by decide, by decide +kernel, rel8⟩
  · match vs, hvs with
    | [a, b], _ => rfl
  · simp only [List.mem_cons, List.not_mem_nil, or_false] at hi
    rcases hi with rfl | rfl <;> exact ⟨by decide, isLC_of (by decide +kernel)⟩

theorem fnAt9 {h : Heap} {name : Str} {a : Addr} (D : DefAt h name 65 a) : FnAt h a ⟨[16, 17], bFraction⟩ := by
  obtain ⟨pm, cd, doc, o, h1, h2, h3⟩ := D
  refine ⟨name, _, _, fnScope 65, pm, cd, doc, o, h1, h2, h3, rfl, rfl, rfl, fun vs hvs => ?_, fun i hi => ?_, by decide, by decide +kernel, rel9⟩
  · match vs, hvs with
    | [a, b], _ => rfl
  · simp only [List.mem_cons, List.not_mem_nil, or_false] at hi
    rcases hi with rfl | rfl <;> exact ⟨by decide, isLC_of (by decide +kernel)⟩

theorem fnAt10 {h : Heap} {name : Str} {a : Addr} (D : DefAt h name 66 a) : FnAt h a ⟨[16, 17], bWays⟩ := by
  obtain ⟨pm, cd, doc, o, h1, h2, h3⟩ := D
  refine ⟨name, _, _, fnScope 66, pm, cd, doc, o, h1, h2, h3, rfl, rfl, rfl, fun vs hvs => ?_, fun i hi => ?_, by decide, by decide +kernel, rel10⟩
  · match vs, hvs with
    | [a, b], _ => rfl
  · simp only [List.mem_cons, List.not_mem_nil, or_false] at hi
    rcases hi with rfl | rfl <;> exact ⟨by decide, isLC_of (by decide +kernel)⟩

theorem fnAt11 {h : Heap} {name : Str} {a : Addr} (D : DefAt h name 67 a) : FnAt h a ⟨[16, 17], bStruck⟩ := by
  obtain ⟨pm, cd, doc, o, h1, h2, h3⟩ := D
  refine ⟨name, _, _, fnScope 67, pm, cd, doc, o, h1, h2, h3, rfl, rfl, rfl, fun vs hvs => ?_, fun i hi => ?_, by decide, by decide +kernel, rel11⟩
  · match vs, hvs with
    | [a, b], _ => rfl
  · simp only [List.mem_cons, List.not_mem_nil, or_false] at hi
    rcases hi with rfl | rfl <;> exact ⟨by decide, isLC_of (by decide +kernel)⟩

theorem fnAt12 {h : Heap} {name : Str} {a : Addr} (D : DefAt h name 68 a) : FnAt h a ⟨[23, 24], bDeed⟩ := by
  obtain ⟨pm, cd, doc, o, h1, h2, h3⟩ := D
  refine ⟨name, _, _, fnScope 68, pm, cd, doc, o, h1, h2, h3, rfl, rfl, rfl, fun vs hvs => ?_, fun i hi => ?_, by decide, by decide +kernel, rel12⟩
  · match vs, hvs with
    | [a, b], _ => rfl
  · simp only [List.mem_cons, List.not_mem_nil, or_false] at hi
    rcases hi with rfl | rfl <;> exact ⟨by decide, isLC_of (by decide +kernel)⟩

theorem fnAt13 {h : Heap} {name : Str} {a : Addr} (D : DefAt h name 69 a) : FnAt h a ⟨[30, 31, 32], bRead⟩ := by
  obtain ⟨pm, cd, doc, o, h1, h2, h3⟩ := D
  refine ⟨name, _, _, fnScope 69, pm, cd, doc, o, h1, h2, h3, rfl, rfl, rfl, fun vs hvs => ?_, fun i hi => ?_, by decide, by decide +kernel, rel13⟩
  · match vs, hvs with
    | [a, b, c], _ => rfl
  · simp only [List.mem_cons, List.not_mem_nil, or_false] at hi
    rcases hi with rfl | rfl | rfl <;> exact ⟨by decide, isLC_of (by decide +kernel)⟩

theorem fnAt14 {h : Heap} {name : Str} {a : Addr} (D : DefAt h name 70 a) : FnAt h a ⟨[13, 17], bPlain⟩ := by
  obtain ⟨pm, cd, doc, o, h1, h2, h3⟩ := D
  refine ⟨name, _, _, fnScope 70, pm, cd, doc, o, h1, h2, h3, rfl, rfl, rfl, fun vs hvs => ?_, fun i hi => ?_, by decide, by decide +kernel, rel14⟩
  · match vs, hvs with
    | [a, b], _ => rfl
  · simp only [List.mem_cons, List.not_mem_nil, or_false] at hi
    rcases hi with rfl | rfl <;> exact ⟨by decide, isLC_of (by decide +kernel)⟩

end Mine
end

section
open Sem (wp)
set_option autoImplicit false
set_option maxRecDepth 100000
namespace Mine

theorem tabHas_ex {K : Frag} {l : List Nat} {n : Int} (h : tabHas K l n = true) : ∃ t, nsIn K (tabAddr K) ⟨l.toArray⟩ = some (some (.int n t)) := by
  unfold tabHas at h
  split at h
  · next z t e => exact ⟨t, by rw [e, show z = n from by simpa using h]⟩
  · cases h

theorem noneAt {K : Frag} {h : Heap} {a : Addr} {m : Str → Option Value} {n : Str} (X : K.In h) (G : h.Ns a m) (e : nsIn K a n = some none) : m n = none := by
  obtain ⟨o, es, ep, ho, hd, _, hf⟩ := G
  unfold nsIn at e
  split at e
  · rename_i c d es' n' sl q
    have := X _ _ q
    rw [ho] at this
    cases this
    cases hd
    split at e
    · cases e
    · rename_i he
      rw [← hf]
      unfold nsFind findBy
      rw [← Array.find?_toList, he]
      rfl
  · cases e

/-- what is read off the program, by running its top -/
structure TopSays (q : Program) (K : Frag) (P : Params) : Prop where
  defs : ∀ k, k < 15 → defOf q (fnS k) = some (recAt (fnAt k), [])
  gen : defOf q "_iter_escaped_chars" = some (recAt 1, [])
  plain : ∀ k, k < 15 → (fnArgs (fnAt k)).defaults = [] ∧ (recAt (fnAt k)).name = fnS k
  nt : valOf q "NT_OFFSET" = some (.int 256)
  em : valOf q "ENDMARKER" = some (.int 0)
  booked : nsIn K cStatics sharingNotToldKey = some none
  tab : nsIn K mainGlobals "EXACT_TOKEN_TYPES" = some (some (.ref (tabAddr K)))
  tabL : K.lookup (tabAddr K) = some ⟨.type "dict", none, .dict (tabEs K) (tabN K), #[]⟩
  keys : KeysLit P (tabEs K).toList
  yes : (tabHas K [40] 7 && tabHas K [41] 8 && tabHas K [42] 16 && tabHas K [43] 14 && tabHas K [45] 15 && tabHas K [47] 17) = true
  no : nsIn K (tabAddr K) ⟨#[49]⟩ = some none ∧ nsIn K (tabAddr K) ⟨#[92, 40]⟩ = some none ∧ nsIn K (tabAddr K) ⟨#[92, 34]⟩ = some none ∧ nsIn K (tabAddr K) ⟨#[92, 92]⟩ = some none ∧ nsIn K (tabAddr K) ⟨#[92, 41]⟩ = some none
  low : (tabAddr K == sysModules) = false

section
variable {q : Program} {loose : List Str} {R : WRecords} {XP : (Str → Option Value) → Heap → Prop} {w : World} {s₀ : Shared} {mg mb : Str → Option Value} {h : Heap} {K : Frag} {prog : Program}

noncomputable def mkCx (prog : Program) (w : World) (h : Heap) (mg mb : Str → Option Value) (fa : Nat → Addr) (η : Nat → Int) : Cx := ⟨prog, w, h, mg, mb, fa, η⟩

theorem fn_addrs (G : Ground q loose R XP w s₀ mg mb h) (S : TopSays q K w.params) : ∃ fa : Nat → Addr, ∀ k, mg (fnS k) = some (.ref (fa k)) ∧ (k < 15 → DefAt h (fnS k) (fnAt k) (fa k)) ∧ ∃ o fd, h.get? (fa k) = some o ∧ o.data = .func fd := by
  have key : ∀ k, ∃ a, mg (fnS k) = some (.ref a) ∧ (k < 15 → DefAt h (fnS k) (fnAt k) a) ∧ ∃ o fd, h.get? a = some o ∧ o.data = .func fd := by
    intro k
    rcases Nat.lt_or_ge k 15 with hk | hk
    · obtain ⟨a, h1, h2⟩ := def_at G (S.defs k hk) (S.plain k hk).1 (S.plain k hk).2
      obtain ⟨pm, cd, doc, o, e1, e2, e3⟩ := id h2
      exact ⟨a, h1, fun _ => h2, o, _, e1, e2⟩
    · obtain ⟨a, h1, h2⟩ := def_at G (S.defs 1 (by decide)) (S.plain 1 (by decide)).1 (S.plain 1 (by decide)).2
      obtain ⟨pm, cd, doc, o, e1, e2, e3⟩ := id h2
      have : fnS k = fnS 1 := by
        unfold fnS
        rw [List.getD_eq_getElem?_getD, List.getElem?_eq_none (by exact hk)]; rfl
      exact ⟨a, by rw [this]; exact h1, fun z => absurd z (Nat.not_lt.mpr hk), o, _, e1, e2⟩
  exact ⟨fun k => Classical.choose (key k), fun k => Classical.choose_spec (key k)⟩

theorem FT_fnAt {fa : Nat → Addr} (D : ∀ k, k < 15 → DefAt h (fnS k) (fnAt k) (fa k)) : ∀ k f, FT k = some f → FnAt h (fa k) f := by
  intro k f e
  unfold FT at e
  split at e
  · cases e; exact fnAt0 (D 0 (by decide))
  · cases e; exact fnAt1 (D 1 (by decide))
  · cases e; exact fnAt2 (D 2 (by decide))
  · cases e; exact fnAt3 (D 3 (by decide))
  · cases e; exact fnAt5 (D 5 (by decide))
  · cases e; exact fnAt6 (D 6 (by decide))
  · cases e; exact fnAt7 (D 7 (by decide))
  · cases e; exact fnAt8 (D 8 (by decide))
  · cases e; exact fnAt9 (D 9 (by decide))
  · cases e; exact fnAt10 (D 10 (by decide))
  · cases e; exact fnAt11 (D 11 (by decide))
  · cases e; exact fnAt12 (D 12 (by decide))
  · cases e; exact fnAt13 (D 13 (by decide))
  · cases e; exact fnAt14 (D 14 (by decide))
  · cases e

theorem cx_ok (G : Ground q loose R XP w s₀ mg mb h) (X : K.In h) (S : TopSays q K w.params) (hfree : mg "len" = none ∧ mg "sum" = none ∧ mg "range" = none ∧ mg "enumerate" = none) :
    ∃ fa : Nat → Addr, ∀ η : Nat → Int, CxFn (mkCx prog w h mg mb fa η) ∧ IdxOk (mkCx prog w h mg mb fa η) ∧ GenOk (mkCx prog w h mg mb fa η) := by
  obtain ⟨fa, hfa⟩ := fn_addrs G S
  have T := G.T
  have hm : h.MapOf (strKind prog w) (tabAddr K) (fun k => findBy Value.isStrOf (tabEs K) k) := mapOf_K X S.tabL S.keys
  refine ⟨fa, fun η => ⟨⟨⟨⟨T.g, T.b, T.nolimit, ?_, ⟨hfree.1, ?_⟩, ⟨hfree.2.1, ?_⟩, ⟨hfree.2.2.1, ?_⟩, ⟨hfree.2.2.2, ?_⟩, ?_, ?_⟩, ?_⟩, ?_, fun k => ⟨(hfa k).1, (hfa k).2.2⟩⟩, ?_, ?_⟩⟩
  · obtain ⟨mc, h1, _⟩ := T.nodigits
    exact ⟨mc, h1, noneAt X h1 S.booked⟩
  · rw [show (mkCx prog w h mg mb fa η).mb = mb from rfl, T.builtins _ (by decide)]; decide +kernel
  · rw [show (mkCx prog w h mg mb fa η).mb = mb from rfl, T.builtins _ (by decide)]; decide +kernel
  · rw [show (mkCx prog w h mg mb fa η).mb = mb from rfl, T.builtins _ (by decide)]; decide +kernel
  · rw [show (mkCx prog w h mg mb fa η).mb = mb from rfl, T.builtins _ (by decide)]; decide +kernel
  · obtain ⟨v, h1, h2⟩ := T.const _ _ S.nt
    have := h2 h
    cases this
    exact ⟨_, h1⟩
  · obtain ⟨v, h1, h2⟩ := T.const _ _ S.em
    have := h2 h
    cases this
    exact ⟨_, h1⟩
  · have y := S.yes
    simp only [Bool.and_eq_true] at y
    obtain ⟨⟨⟨⟨⟨y1, y2⟩, y3⟩, y4⟩, y5⟩, y6⟩ := y
    have yes : ∀ l n, tokTab l = some n → ∃ t, nsIn K (tabAddr K) ⟨l.toArray⟩ = some (some (.int n t)) := by
      intro l n e
      unfold tokTab at e
      split at e <;> cases e
      · exact tabHas_ex y1
      · exact tabHas_ex y2
      · exact tabHas_ex y3
      · exact tabHas_ex y4
      · exact tabHas_ex y5
      · exact tabHas_ex y6
    have no : ∀ l, tokNo l = true → nsIn K (tabAddr K) ⟨l.toArray⟩ = some none := by
      intro l e
      obtain ⟨n1, n2, n3, n4, n5⟩ := S.no
      unfold tokNo at e
      split at e
      · exact n1
      · exact n2
      · exact n3
      · exact n4
      · exact n5
      · cases e
    have keep : ∀ (s : Shared), (∀ x o, h.get? x = some o → s.heap.get? x = some o) → s.heap.MapOf (strKind prog w) (tabAddr K) (fun k => findBy Value.isStrOf (tabEs K) k) := by
      intro s hk
      obtain ⟨o, es, ep, ho, r⟩ := hm
      exact ⟨o, es, ep, hk _ _ ho, r⟩
    refine ⟨tabAddr K, mg_of X T.g S.tab, fun s A l t b Q E hk hb hQ => ?_, fun s l t n hk hn => ⟨(keep s hk).typeIs, fun A Q E hQ => ?_⟩⟩
    · rcases hb with ⟨⟨n, hn⟩, rfl⟩ | ⟨hn, rfl⟩
      · obtain ⟨t', e⟩ := yes l n hn
        exact wpAny_in_of (strKind_is prog w ⟨l.toArray⟩ t) S.low (keep s hk) (by rw [find_K S.tabL e]; exact hQ)
      · exact wpAny_in_of (strKind_is prog w ⟨l.toArray⟩ t) S.low (keep s hk) (by rw [find_K S.tabL (no l hn)]; exact hQ)
    · obtain ⟨t', e⟩ := yes l n hn
      exact wpAny_getItem_of (strKind_is prog w ⟨l.toArray⟩ t) (keep s hk) (find_K S.tabL e) (hQ t')
  · intro k f e
    exact FT_fnAt (fun k hk => (hfa k).2.1 hk) k f e
  · obtain ⟨pm, cd, doc, o, h1, h2, h3⟩ := (hfa 4).2.1 (by decide)
    exact ⟨pm, cd, doc, o, h1, h2, h3⟩
  · obtain ⟨a, h1, pm, cd, doc, o, h2, h3, h4⟩ := def_at G S.gen rfl rfl
    exact ⟨a, pm, cd, doc, o, h1, h2, h3, h4⟩
end
end Mine
end

section
set_option autoImplicit false
namespace Mine
open X XS
theorem ev_e (n : Nat) (x : X) (loc : Loc) (st : St) : (ev FT (n + 1)).e x loc st = eStep (ev FT n) n x loc st := rfl
theorem ev_t (n : Nat) (x : X) (loc : Loc) (st : St) : (ev FT (n + 1)).t x loc st = tStep (ev FT n) x loc st := rfl
theorem ev_s (n : Nat) (x : XS) (loc : Loc) (st : St) : (ev FT (n + 1)).s x loc st = sStep (ev FT n) n x loc st := rfl
theorem ev_c (n : Nat) (k : Nat) (vs : List MV) (st : St) : (ev FT (n + 1)).c k vs st = cStep FT (ev FT n) k vs st := rfl

noncomputable def bTurn : XS := aug 13 (bin .mod (nm 14) (nm 12)) (bin .sub (bin .mod (bin .add (sub (nm 11) (nm 14)) (ci 1000000)) (ci 2000001)) (ci 1000000))
noncomputable def OkV (b : Nat) (u : MV) : Prop := ∃ y k, u = .int (.c y) (k + 1) ∧ k ≤ b

theorem place_nat {k n : Nat} (h : k < n) : place (Int.ofNat k) n = some k := by
  show (match Nat.blt k n with | true => some k | false => none) = _
  rw [Nat.blt_eq.mpr h]
theorem fmod_nat (i n : Nat) : Int.fmod (Int.ofNat i) (Int.ofNat n) = Int.ofNat (i % n) := by
  cases i with
  | zero => simp [Int.fmod]
  | succ i => rfl
theorem ble_le {a b : Nat} (h : a ≤ b) : Nat.ble a b = true := Nat.ble_eq.mpr h
theorem maxB_s (k m : Nat) : maxB (k + 1) (m + 1) = max (k + 1) (m + 1) + 1 := rfl
theorem maxB_0 (m : Nat) : maxB 0 m = 0 := by unfold maxB; rfl

theorem turn_ok (n : Nat) {loc : Loc} {st : St} {sz i a v k12 b : Nat} {xs vs : List MV} {z : Int} (h11 : look 11 loc = some (.ref a)) (h12 : look 12 loc = some (.int (.c (Int.ofNat sz)) (k12 + 1))) (hs : 0 < sz) (h13 : look 13 loc = some (.ref v))
    (h14 : look 14 loc = some (.int (.c (Int.ofNat i)) 64)) (ha : getO st a = some (.list xs)) (hx : xs[i]? = some (.int (.c z) 0)) (hxl : xs.length ≤ 60) (hv : getO st v = some (.list vs)) (hvl : vs.length = sz) (hsz : sz ≤ 60) (hb : 22 ≤ b) (hall : ∀ u ∈ vs, OkV b u) :
    ∃ vs', (ev FT (n + 8)).s bTurn loc st = some (.next, loc, setO st v (.list vs')) ∧ vs'.length = vs.length ∧ ∀ u ∈ vs', OkV (b + 1) u := by
  have hi : i < xs.length := by
    rcases Nat.lt_or_ge i xs.length with h | h
    · exact h
    · rw [List.getElem?_eq_none h] at hx; cases hx
  have hj : i % sz < vs.length := by rw [hvl]; exact Nat.mod_lt _ hs
  obtain ⟨y, k, hu, hk⟩ := hall _ (List.getElem_mem hj)
  have hj' : vs[i % sz]? = some (.int (.c y) (k + 1)) := by rw [List.getElem?_eq_getElem hj, hu]
  have e1 : (ev FT (n + 7)).e (bin .mod (nm 14) (nm 12)) loc st = some (.int (.c (Int.ofNat (i % sz))) (k12 + 1), st) := by
    simp only [ev_e, eStep, h14, h12, Option.map, binV]
    have : ltB 0 (Int.ofNat sz) = true := decide_eq_true (by show (0 : Int) < ((sz : Nat) : Int); omega)
    rw [this, fmod_nat]
  have e2 : (ev FT (n + 7)).e (bin .sub (bin .mod (bin .add (sub (nm 11) (nm 14)) (ci 1000000)) (ci 2000001)) (ci 1000000)) loc st = some (.int (.c ((z + 1000000).fmod 2000001 - 1000000)) 22, st) := by
    simp only [ev_e, eStep, h11, h14, Option.map, subV, ha, place_nat hi, ble_le (Nat.le_trans hxl (by decide : 60 ≤ 100000)), hx, binV]
    rfl
  have e3 : subV st (.ref v) (.int (.c (Int.ofNat (i % sz))) (k12 + 1)) = some (.int (.c y) (k + 1)) := by
    simp only [subV, hv, place_nat hj, ble_le (show vs.length ≤ 100000 by omega), hj']
  refine ⟨vs.set (i % sz) (.int (.c (y + ((z + 1000000).fmod 2000001 - 1000000))) (max (k + 1) 22 + 1)), ?_, by simp, ?_⟩
  · show sStep (ev FT (n + 7)) (n + 7) bTurn loc st = _
    unfold bTurn
    simp only [sStep, h13, e1, e2, e3]
    have e4 : binV st .add (.int (.c y) (k + 1)) (.int (.c ((z + 1000000).fmod 2000001 - 1000000)) 22) = some (.int (.c (y + ((z + 1000000).fmod 2000001 - 1000000))) (max (k + 1) 22 + 1), st) := rfl
    have e5 : natOf (.int (.c (Int.ofNat (i % sz))) (k12 + 1)) = some (i % sz) := rfl
    have e6 : (Nat.blt (i % sz) vs.length && Nat.ble vs.length 100000) = true := by rw [Nat.blt_eq.mpr hj, ble_le (show vs.length ≤ 100000 by omega)]; rfl
    simp only [e4, e5, hv, e6]
  · intro u hu
    rcases List.mem_or_eq_of_mem_set hu with hu | hu
    · obtain ⟨y', k', h1, h2⟩ := hall u hu; exact ⟨y', k', h1, by omega⟩
    · exact ⟨_, max (k + 1) 22, hu, by omega⟩
end Mine
end

section
set_option autoImplicit false
namespace Mine
open X XS

theorem loop_ok (n : Nat) {sz a v k12 : Nat} {xs : List MV} (hz : ∀ (i : Nat) (u : MV), xs[i]? = some u → ∃ z, u = .int (.c z) 0) (hs : 0 < sz) (hsz : sz ≤ 60) (hxl : xs.length ≤ 60) (hav : a ≠ v) : ∀ (m i : Nat) (loc : Loc) (st : St) (vs : List MV) (b : Nat), i + m = xs.length → 22 ≤ b →
    look 11 loc = some (.ref a) → look 12 loc = some (.int (.c (Int.ofNat sz)) (k12 + 1)) → look 13 loc = some (.ref v) → getO st a = some (.list xs) → getO st v = some (.list vs) → vs.length = sz → (∀ u ∈ vs, OkV b u) →
    ∃ loc' st' vs', flR (fun x loc st => ssOf (ev FT (n + 8)).s [bTurn] (put 14 x loc) st) m i loc st = some (.next, loc', st') ∧ look 13 loc' = some (.ref v) ∧ getO st' v = some (.list vs') ∧ vs'.length = sz ∧ (∀ u ∈ vs', OkV (b + m) u) ∧ (∀ j, j ≠ v → getO st' j = getO st j) ∧ st'.n = st.n
  | 0, i, loc, st, vs, b, _, _, h11, h12, h13, ha, hv, hl, hall => ⟨loc, st, vs, rfl, h13, hv, hl, hall, fun _ _ => rfl, rfl⟩
  | m + 1, i, loc, st, vs, b, him, hb, h11, h12, h13, ha, hv, hl, hall => by
    have hi : i < xs.length := by omega
    obtain ⟨z, hz'⟩ := hz i _ (List.getElem?_eq_getElem hi)
    have hx : xs[i]? = some (.int (.c z) 0) := by rw [List.getElem?_eq_getElem hi, hz']
    have q : ∀ j, j ≠ 14 → look j (put 14 (.int (.c (Int.ofNat i)) 64) loc) = look j loc := fun j hj => by
      rw [look_put, if_neg (Ne.symm hj)]
    obtain ⟨vs', e, hl', hall'⟩ := turn_ok n (loc := put 14 (.int (.c (Int.ofNat i)) 64) loc) (st := st) (b := b) (by rw [q 11 (by decide)]; exact h11) (by rw [q 12 (by decide)]; exact h12) hs (by rw [q 13 (by decide)]; exact h13) (by rw [look_put, if_pos rfl]) ha hx hxl hv hl hsz hb hall
    obtain ⟨loc', st', vs'', e2, h13', hv', hl'', hall'', hoth, hn⟩ := loop_ok n hz hs hsz hxl hav m (i + 1) (put 14 (.int (.c (Int.ofNat i)) 64) loc) (setO st v (.list vs')) vs' (b + 1) (by omega) (by omega) (by rw [q 11 (by decide)]; exact h11) (by rw [q 12 (by decide)]; exact h12) (by rw [q 13 (by decide)]; exact h13)
      (by rw [getO_setO, if_neg hav]; exact ha) (by rw [getO_setO, if_pos rfl]) (by rw [hl', hl]) hall'
    refine ⟨loc', st', vs'', ?_, h13', hv', hl'', fun u hu => ?_, fun j hj => ?_, hn⟩
    · simp only [flR, ssOf, e]
      exact e2
    · have := hall'' u hu
      rw [show b + (m + 1) = b + 1 + m by omega]; exact this
    · rw [hoth j hj, getO_setO, if_neg hj]

theorem ss_next {f : XS → Loc → St → Option (Fl × Loc × St)} {x : XS} {r : List XS} {loc loc1 : Loc} {st st1 : St} (h : f x loc st = some (.next, loc1, st1)) : ssOf f (x :: r) loc st = ssOf f r loc1 st1 := by
  simp only [ssOf, h]
theorem ss_ret {f : XS → Loc → St → Option (Fl × Loc × St)} {x : XS} {r : List XS} {loc loc1 : Loc} {st st1 : St} {v : MV} (h : f x loc st = some (.ret v, loc1, st1)) : ssOf f (x :: r) loc st = some (.ret v, loc1, st1) := by
  simp only [ssOf, h]
noncomputable def xsOf (zs : List Int) : List MV := zs.map fun z => .int (.c z) 0
theorem xsOf_len (zs : List Int) : (xsOf zs).length = zs.length := by simp [xsOf]
theorem xsOf_get (zs : List Int) (i : Nat) (u : MV) (h : (xsOf zs)[i]? = some u) : ∃ z, u = .int (.c z) 0 := by
  simp only [xsOf, List.getElem?_map, Option.map_eq_some_iff] at h
  obtain ⟨z, _, e⟩ := h; exact ⟨z, e.symm⟩

/-- _law_values -/
theorem values_ok (n : Nat) {sz k12 : Nat} (zs : List Int) (hz : zs.length ≤ 60) (hs : sz = 3 ∨ sz = 4) :
    ∃ st' vs, (ev FT (n + 10)).c 7 [.ref 0, .int (.c (Int.ofNat sz)) (k12 + 1)] (push St.nil (.list (xsOf zs))) = some (.ref 2, st') ∧ getO st' 2 = some (.list vs) ∧ vs.length = sz ∧ (∀ u ∈ vs, OkV (22 + zs.length) u) ∧ getO st' 0 = some (.list (xsOf zs)) ∧ st'.n = 3 := by
  obtain ⟨st2, vs0, e0, hg0, hg2, hn2, hl0, ha0⟩ : ∃ st2 vs0, (ev FT (n + 8)).e (slH (lst [ci 3, neg (ci 7), ci 15, ci 2]) (nm 12)) [(11, .ref 0), (12, .int (.c (Int.ofNat sz)) (k12 + 1))] (push St.nil (.list (xsOf zs))) = some (.ref 2, st2) ∧ getO st2 0 = some (.list (xsOf zs)) ∧ getO st2 2 = some (.list vs0) ∧ st2.n = 3 ∧ vs0.length = sz ∧ ∀ u ∈ vs0, OkV 22 u := by
    rcases hs with rfl | rfl
    · refine ⟨_, [.int (.c (Int.ofNat 3)) (bits 3), .int (negQ (.c (Int.ofNat 7))) (bits 7), .int (.c (Int.ofNat 15)) (bits 15)], rfl, rfl, ((getO_push _ _ _).trans (if_pos rfl)).trans rfl, rfl, rfl, ?_⟩
      intro u hu
      simp only [List.mem_cons, List.not_mem_nil, or_false] at hu
      rcases hu with rfl | rfl | rfl <;> exact ⟨_, _, rfl, by decide +kernel⟩
    · refine ⟨_, [.int (.c (Int.ofNat 3)) (bits 3), .int (negQ (.c (Int.ofNat 7))) (bits 7), .int (.c (Int.ofNat 15)) (bits 15), .int (.c (Int.ofNat 2)) (bits 2)], rfl, rfl, ((getO_push _ _ _).trans (if_pos rfl)).trans rfl, rfl, rfl, ?_⟩
      intro u hu
      simp only [List.mem_cons, List.not_mem_nil, or_false] at hu
      rcases hu with rfl | rfl | rfl | rfl <;> exact ⟨_, _, rfl, by decide +kernel⟩
  have hs0 : 0 < sz := by omega
  obtain ⟨loc', st', vs', e1, h13, hv, hl, hall, hoth, hn⟩ := loop_ok n (a := 0) (v := 2) (k12 := k12) (xsOf_get zs) hs0 (by omega) (by rw [xsOf_len]; exact hz) (by decide) zs.length 0
    (put 13 (.ref 2) [(11, .ref 0), (12, .int (.c (Int.ofNat sz)) (k12 + 1))]) st2 vs0 22 (by rw [xsOf_len]; omega) (Nat.le_refl _) rfl rfl rfl hg0 hg2 hl0 ha0
  refine ⟨st', vs', ?_, hv, hl, hall, by rw [hoth 0 (by decide)]; exact hg0, by rw [hn, hn2]⟩
  have hb : Nat.ble zs.length 100000 = true := ble_le (by omega)
  have e3 : (ev FT (n + 8)).e (len (nm 11)) (put 13 (.ref 2) [(11, .ref 0), (12, .int (.c (Int.ofNat sz)) (k12 + 1))]) st2 = some (.int (.c (Int.ofNat zs.length)) 64, st2) := by
    simp only [ev_e, eStep]
    show (match getO st2 0 with | some (.list xs) => (match Nat.ble xs.length 100000 with | true => some (MV.int (.c (Int.ofNat xs.length)) 64, st2) | false => none) | _ => none) = _
    simp only [hg0, xsOf_len, hb]
  have e5 : (ev FT (n + 8)).e (nm 13) loc' st' = some (.ref 2, st') := by
    simp only [ev_e, eStep, h13, Option.map]
  have s1 : (ev FT (n + 9)).s (asg 13 (slH (lst [ci 3, neg (ci 7), ci 15, ci 2]) (nm 12))) [(11, .ref 0), (12, .int (.c (Int.ofNat sz)) (k12 + 1))] (push St.nil (.list (xsOf zs))) = some (.next, put 13 (.ref 2) [(11, .ref 0), (12, .int (.c (Int.ofNat sz)) (k12 + 1))], st2) := by
    show (match (ev FT (n + 8)).e (slH (lst [ci 3, neg (ci 7), ci 15, ci 2]) (nm 12)) [(11, .ref 0), (12, .int (.c (Int.ofNat sz)) (k12 + 1))] (push St.nil (.list (xsOf zs))) with
      | some (v, st) => some (Fl.next, put 13 v [(11, .ref 0), (12, .int (.c (Int.ofNat sz)) (k12 + 1))], st)
      | none => none) = _
    rw [e0]
  have s2 : (ev FT (n + 9)).s (forR 14 (len (nm 11)) [bTurn]) (put 13 (.ref 2) [(11, .ref 0), (12, .int (.c (Int.ofNat sz)) (k12 + 1))]) st2 = some (.next, loc', st') := by
    show (match (ev FT (n + 8)).e (len (nm 11)) (put 13 (.ref 2) [(11, .ref 0), (12, .int (.c (Int.ofNat sz)) (k12 + 1))]) st2 with
      | some (.int (.c (.ofNat m)) _, st) => (match Nat.ble m 100000 with
        | true => flR (fun x loc st => ssOf (ev FT (n + 8)).s [bTurn] (put 14 x loc) st) m 0 (put 13 (.ref 2) [(11, .ref 0), (12, .int (.c (Int.ofNat sz)) (k12 + 1))]) st
        | false => none)
      | _ => none) = _
    rw [e3]
    show (match Nat.ble zs.length 100000 with
        | true => flR (fun x loc st => ssOf (ev FT (n + 8)).s [bTurn] (put 14 x loc) st) zs.length 0 (put 13 (.ref 2) [(11, .ref 0), (12, .int (.c (Int.ofNat sz)) (k12 + 1))]) st2
        | false => none) = _
    rw [hb]; exact e1
  have s3 : (ev FT (n + 9)).s (ret (nm 13)) loc' st' = some (.ret (.ref 2), loc', st') := by
    show (match (ev FT (n + 8)).e (nm 13) loc' st' with
      | some (v, st) => some (Fl.ret v, loc', st)
      | none => none) = _
    rw [e5]
  show (match ssOf (ev FT (n + 9)).s [asg 13 (slH (lst [ci 3, neg (ci 7), ci 15, ci 2]) (nm 12)), forR 14 (len (nm 11)) [bTurn], ret (nm 13)] [(11, .ref 0), (12, .int (.c (Int.ofNat sz)) (k12 + 1))] (push St.nil (.list (xsOf zs))) with
        | some (.ret v, _, st) => some (v, st)
        | some (.next, _, st) => some (.none, st)
        | none => none) = _
  rw [ss_next s1, ss_next s2, ss_ret s3]
end Mine
end

section
set_option autoImplicit false
namespace Mine
open X XS

noncomputable def modsOf (zs : List Int) : List MV := zs.map fun z => .int (.c (z.fmod (Int.ofNat 8))) (bits 8)
theorem lc_ok (n : Nat) {zs : List Int} (hz : zs.length ≤ 60) {acc : Nat} (hacc : acc ≠ 0) {loc : Loc} : ∀ (k i fuel : Nat) (st : St) (ys : List MV), i + k = zs.length → k < fuel → getO st 0 = some (.list (xsOf zs)) → getO st acc = some (.list ys) → ys.length + k ≤ 60 →
    ∃ st', lcL (fun x loc st => (ev FT (n + 2)).e (bin .mod (nm 10) (ci 8)) (put 10 x loc) st) 0 acc loc fuel i st = some st' ∧ getO st' acc = some (.list (ys ++ modsOf (zs.drop i))) ∧ (∀ j, j ≠ acc → getO st' j = getO st j) ∧ st'.n = st.n
  | 0, i, fuel + 1, st, ys, hik, hf, h0, ha, hy => by
    refine ⟨st, ?_, ?_, fun _ _ => rfl, rfl⟩
    · have : (xsOf zs)[i]? = none := List.getElem?_eq_none (by rw [xsOf_len]; omega)
      simp only [lcL, h0, this]
    · rw [List.drop_of_length_le (by omega)]; simpa [modsOf] using ha
  | k + 1, i, fuel + 1, st, ys, hik, hf, h0, ha, hy => by
    have hi : i < zs.length := by omega
    have hx : (xsOf zs)[i]? = some (.int (.c zs[i]) 0) := by simp [xsOf, List.getElem?_eq_getElem hi]
    have e : (ev FT (n + 2)).e (bin .mod (nm 10) (ci 8)) (put 10 (.int (.c zs[i]) 0) loc) st = some (.int (.c (zs[i].fmod (Int.ofNat 8))) (bits 8), st) := by
      have hl : look 10 (put 10 (.int (.c zs[i]) 0) loc) = some (.int (.c zs[i]) 0) := by rw [look_put, if_pos rfl]
      have e1 : (ev FT (n + 1)).e (nm 10) (put 10 (.int (.c zs[i]) 0) loc) st = some (.int (.c zs[i]) 0, st) := by simp only [ev_e, eStep, hl, Option.map]
      show (match (ev FT (n + 1)).e (nm 10) (put 10 (.int (.c zs[i]) 0) loc) st with
        | some (u, st) => (match (ev FT (n + 1)).e (ci 8) (put 10 (.int (.c zs[i]) 0) loc) st with
          | some (v, st) => binV st .mod u v
          | none => none)
        | none => none) = _
      rw [e1]; rfl
    obtain ⟨st', e2, h1, h2, h3⟩ := lc_ok n hz hacc (loc := loc) k (i + 1) fuel (setO st acc (.list (ys ++ [.int (.c (zs[i].fmod (Int.ofNat 8))) (bits 8)]))) (ys ++ [.int (.c (zs[i].fmod (Int.ofNat 8))) (bits 8)]) (by omega) (by omega) (by rw [getO_setO, if_neg (Ne.symm hacc)]; exact h0) (by rw [getO_setO, if_pos rfl]) (by simp; omega)
    refine ⟨st', ?_, ?_, fun j hj => by rw [h2 j hj, getO_setO, if_neg hj], h3⟩
    · have hb : Nat.ble ys.length 100000 = true := ble_le (by omega)
      simp only [lcL, h0, hx, e, ha, hb]
      exact e2
    · rw [h1, List.append_assoc]
      have : modsOf (zs.drop i) = .int (.c (zs[i].fmod (Int.ofNat 8))) (bits 8) :: modsOf (zs.drop (i + 1)) := by
        unfold modsOf
        rw [List.drop_eq_getElem_cons hi]; rfl
      rw [this]; rfl
theorem sum_ok (g : Int → Int) (b : Nat) : ∀ zs : List Int, ∃ S k, sumS (zs.map fun z => .int (.c (g z)) (b + 1)) = some (.c S, k + 1)
  | [] => ⟨0, 0, rfl⟩
  | z :: zs => by
    obtain ⟨S, k, e⟩ := sum_ok g b zs
    refine ⟨g z + S, max (b + 1) (k + 1), ?_⟩
    show (match b + 1 with | 0 => none | k => (sumS (zs.map fun z => MV.int (.c (g z)) (b + 1))).map fun (t : PE × Nat) => (addQ (.c (g z)) t.1, max k t.2 + 1)) = _
    rw [e]; rfl

noncomputable def tieC (T : Int) (k : Nat) : Nat := match eqI ((T.fdiv ((Int.ofNat 2) ^ k)).fmod (Int.ofNat 2)) (Int.ofNat 1) with | true => 45 | false => 43
noncomputable def tieX : X := ife (cmp .eq (bin .mod (bin .fdiv (nm 15) (bin .pow (ci 2) (nm 14))) (ci 2)) (ci 1)) (cs [45]) (cs [43])
theorem tie_e (n : Nat) {k : Nat} (hk : k = 0 ∨ k = 1 ∨ k = 2) {T : Int} {K : Nat} {loc : Loc} {st : St} (h15 : look 15 loc = some (.int (.c T) K)) : (ev FT (n + 7)).e tieX (put 14 (.int (.c (Int.ofNat k)) 64) loc) st = some (.str [tieC T k] true, st) := by
  have h14 : look 14 (put 14 (.int (.c (Int.ofNat k)) 64) loc) = some (.int (.c (Int.ofNat k)) 64) := by rw [look_put, if_pos rfl]
  have h15' : look 15 (put 14 (.int (.c (Int.ofNat k)) 64) loc) = some (.int (.c T) K) := by rw [look_put, if_neg (by decide)]; exact h15
  generalize put 14 (.int (.c (Int.ofNat k)) 64) loc = loc' at h14 h15'
  have ep : (ev FT (n + 2)).e (bin .pow (ci 2) (nm 14)) loc' st = some (.int (.c ((Int.ofNat 2) ^ k)) (k + 1), st) := by
    have e1 : (ev FT (n + 1)).e (nm 14) loc' st = some (.int (.c (Int.ofNat k)) 64, st) := by simp only [ev_e, eStep, h14, Option.map]
    show (match (ev FT (n + 1)).e (nm 14) loc' st with | some (v, st) => binV st .pow (.int (.c (Int.ofNat 2)) (bits 2)) v | none => none) = _
    rw [e1]
    rcases hk with rfl | rfl | rfl <;> rfl
  have ed : (ev FT (n + 3)).e (bin .fdiv (nm 15) (bin .pow (ci 2) (nm 14))) loc' st = some (.int (.c (T.fdiv ((Int.ofNat 2) ^ k))) 0, st) := by
    have e1 : (ev FT (n + 2)).e (nm 15) loc' st = some (.int (.c T) K, st) := by simp only [ev_e, eStep, h15', Option.map]
    show (match (ev FT (n + 2)).e (nm 15) loc' st with | some (u, st) => (match (ev FT (n + 2)).e (bin .pow (ci 2) (nm 14)) loc' st with | some (v, st) => binV st .fdiv u v | none => none) | none => none) = _
    rw [e1]
    show (match (ev FT (n + 2)).e (bin .pow (ci 2) (nm 14)) loc' st with | some (v, st) => binV st .fdiv (.int (.c T) K) v | none => none) = _
    rw [ep]
    rcases hk with rfl | rfl | rfl <;> rfl
  have em : (ev FT (n + 4)).e (bin .mod (bin .fdiv (nm 15) (bin .pow (ci 2) (nm 14))) (ci 2)) loc' st = some (.int (.c ((T.fdiv ((Int.ofNat 2) ^ k)).fmod (Int.ofNat 2))) (bits 2), st) := by
    show (match (ev FT (n + 3)).e (bin .fdiv (nm 15) (bin .pow (ci 2) (nm 14))) loc' st with | some (u, st) => (match (ev FT (n + 3)).e (ci 2) loc' st with | some (v, st) => binV st .mod u v | none => none) | none => none) = _
    rw [ed]; rfl
  have ec : (ev FT (n + 5)).e (cmp .eq (bin .mod (bin .fdiv (nm 15) (bin .pow (ci 2) (nm 14))) (ci 2)) (ci 1)) loc' st = some (.bool (eqI ((T.fdiv ((Int.ofNat 2) ^ k)).fmod (Int.ofNat 2)) (Int.ofNat 1)), st) := by
    show (match (ev FT (n + 4)).e (bin .mod (bin .fdiv (nm 15) (bin .pow (ci 2) (nm 14))) (ci 2)) loc' st with | some (u, st) => (match (ev FT (n + 4)).e (ci 1) loc' st with | some (v, st) => (cmpV st .eq u v).map fun b => (MV.bool b, st) | none => none) | none => none) = _
    rw [em]; rfl
  show (match (match (ev FT (n + 5)).e (cmp .eq (bin .mod (bin .fdiv (nm 15) (bin .pow (ci 2) (nm 14))) (ci 2)) (ci 1)) loc' st with | some (.bool b, st) => some (b, st) | _ => none) with
    | some (true, st) => (ev FT (n + 6)).e (cs [45]) loc' st
    | some (false, st) => (ev FT (n + 6)).e (cs [43]) loc' st
    | none => none) = _
  rw [ec]
  unfold tieC
  cases eqI ((T.fdiv ((Int.ofNat 2) ^ k)).fmod (Int.ofNat 2)) (Int.ofNat 1) <;> rfl

theorem tieC_or (T : Int) (k : Nat) : tieC T k = 43 ∨ tieC T k = 45 := by
  unfold tieC; split
  · exact .inr rfl
  · exact .inl rfl

theorem lcRn_ok {f : MV → Loc → St → Option (MV × St)} {c : Nat → MV} {B acc : Nat} {loc : Loc} (hf : ∀ (i : Nat) (st : St), i < B → f (.int (.c (Int.ofNat i)) 64) loc st = some (c i, st)) (hB : B ≤ 60) : ∀ (m i : Nat) (st : St) (ys : List MV), i + m = B → getO st acc = some (.list ys) → ys.length = i →
    ∃ st', lcRn f acc loc m i st = some st' ∧ getO st' acc = some (.list (ys ++ (List.range' i m).map c)) ∧ (∀ j, j ≠ acc → getO st' j = getO st j)
  | 0, i, st, ys, _, ha, _ => ⟨st, rfl, by simpa using ha, fun _ _ => rfl⟩
  | m + 1, i, st, ys, him, ha, hl => by
    obtain ⟨st', e, h1, h2⟩ := lcRn_ok hf hB m (i + 1) (setO st acc (.list (ys ++ [c i]))) (ys ++ [c i]) (by omega) (by rw [getO_setO, if_pos rfl]) (by simp [hl])
    refine ⟨st', ?_, ?_, fun j hj => by rw [h2 j hj, getO_setO, if_neg hj]⟩
    · have hb : Nat.ble ys.length 100000 = true := ble_le (by omega)
      simp only [lcRn, hf i st (by omega), ha, hb]
      exact e
    · rw [h1, List.append_assoc]; rfl
theorem joinS_map (T : Int) : ∀ l : List Nat, joinS (l.map fun k => .str [tieC T k] true) = some (l.map (tieC T))
  | [] => rfl
  | k :: l => by
    show (joinS (l.map fun k => MV.str [tieC T k] true)).map (([tieC T k] : List Nat) ++ ·) = _
    rw [joinS_map T l]; rfl

/-- _law_ties -/
theorem ties_ok (n : Nat) {sz k12 : Nat} (zs : List Int) (hz : zs.length ≤ 60) (hs : sz = 3 ∨ sz = 4) {st : St} (h0 : getO st 0 = some (.list (xsOf zs))) (hn : st.n = 3) (hfuel : 60 ≤ n) :
    ∃ st' l, (ev FT (n + 12)).c 8 [.ref 0, .int (.c (Int.ofNat sz)) (k12 + 1)] st = some (.str l false, st') ∧ (∀ j, j < 3 → getO st' j = getO st j) ∧ ∃ T, l = (List.range (sz - 1)).map (tieC T) := by
  obtain ⟨st4, e1, g3, gj, n4⟩ := lc_ok (n + 5) hz (acc := 3) (by decide) (loc := [(11, .ref 0), (12, .int (.c (Int.ofNat sz)) (k12 + 1))]) zs.length 0 (n + 7) (push st (.list [])) [] (by omega) (by omega) (by rw [getO_push, if_neg (by rw [hn]; decide)]; exact h0) (by rw [getO_push, if_pos hn.symm]) (by simp; exact hz)
  rw [List.drop_zero, List.nil_append] at g3
  obtain ⟨S, K, hS⟩ := sum_ok (fun z => z.fmod (Int.ofNat 8)) (Nat.log2 8) zs
  have hS' : sumS (modsOf zs) = some (.c S, K + 1) := hS
  have a1 : (ev FT (n + 8)).e (lc1 10 (nm 11) (bin .mod (nm 10) (ci 8))) [(11, .ref 0), (12, .int (.c (Int.ofNat sz)) (k12 + 1))] st = some (.ref 3, st4) := by
    show (lcL (fun x loc st => (ev FT (n + 7)).e (bin .mod (nm 10) (ci 8)) (put 10 x loc) st) 0 st.n [(11, .ref 0), (12, .int (.c (Int.ofNat sz)) (k12 + 1))] (n + 7) 0 (push st (.list []))).map (fun s' => (MV.ref st.n, s')) = _
    rw [hn, e1]; rfl
  have a2 : (ev FT (n + 9)).e (sum (lc1 10 (nm 11) (bin .mod (nm 10) (ci 8)))) [(11, .ref 0), (12, .int (.c (Int.ofNat sz)) (k12 + 1))] st = some (.int (.c S) (K + 1), st4) := by
    show (match (ev FT (n + 8)).e (lc1 10 (nm 11) (bin .mod (nm 10) (ci 8))) [(11, .ref 0), (12, .int (.c (Int.ofNat sz)) (k12 + 1))] st with
      | some (.ref id, st) => (match getO st id with | some (.list xs) => (sumS xs).map fun (t : PE × Nat) => (MV.int t.1 t.2, st) | _ => none)
      | _ => none) = _
    rw [a1]
    show (match getO st4 3 with | some (.list xs) => (sumS xs).map fun (t : PE × Nat) => (MV.int t.1 t.2, st4) | _ => none) = _
    rw [g3]
    show (sumS (modsOf zs)).map (fun (t : PE × Nat) => (MV.int t.1 t.2, st4)) = _
    rw [hS']; rfl
  have a3 : (ev FT (n + 10)).e (bin .add (ci 2) (sum (lc1 10 (nm 11) (bin .mod (nm 10) (ci 8))))) [(11, .ref 0), (12, .int (.c (Int.ofNat sz)) (k12 + 1))] st = some (.int (.c (Int.ofNat 2 + S)) (maxB (bits 2) (K + 1)), st4) := by
    show (match (ev FT (n + 9)).e (sum (lc1 10 (nm 11) (bin .mod (nm 10) (ci 8)))) [(11, .ref 0), (12, .int (.c (Int.ofNat sz)) (k12 + 1))] st with | some (v, st) => binV st .add (.int (.c (Int.ofNat 2)) (bits 2)) v | none => none) = _
    rw [a2]; rfl
  generalize maxB (bits 2) (K + 1) = K' at a3
  generalize Int.ofNat 2 + S = T at a3
  have s1 : (ev FT (n + 11)).s (asg 15 (bin .add (ci 2) (sum (lc1 10 (nm 11) (bin .mod (nm 10) (ci 8)))))) [(11, .ref 0), (12, .int (.c (Int.ofNat sz)) (k12 + 1))] st = some (.next, put 15 (.int (.c T) K') [(11, .ref 0), (12, .int (.c (Int.ofNat sz)) (k12 + 1))], st4) := by
    show (match (ev FT (n + 10)).e (bin .add (ci 2) (sum (lc1 10 (nm 11) (bin .mod (nm 10) (ci 8))))) [(11, .ref 0), (12, .int (.c (Int.ofNat sz)) (k12 + 1))] st with
      | some (v, st) => some (Fl.next, put 15 v [(11, .ref 0), (12, .int (.c (Int.ofNat sz)) (k12 + 1))], st)
      | none => none) = _
    rw [a3]
  have n4' : st4.n = 4 := by rw [n4]; show st.n + 1 = 4; rw [hn]
  have te : ∀ (k : Nat) (st : St), k = 0 ∨ k = 1 ∨ k = 2 → (ev FT (n + 8)).e tieX (put 14 (.int (.c (Int.ofNat k)) 64) (put 15 (.int (.c T) K') [(11, .ref 0), (12, .int (.c (Int.ofNat sz)) (k12 + 1))])) st = some (.str [tieC T k] true, st) := fun k st hk => tie_e (n + 1) hk (K := K') (by rw [look_put, if_pos rfl])
  obtain ⟨st5, a4, g5, gj5⟩ : ∃ st5, (ev FT (n + 9)).e (lcR 14 (bin .sub (nm 12) (ci 1)) tieX) (put 15 (.int (.c T) K') [(11, .ref 0), (12, .int (.c (Int.ofNat sz)) (k12 + 1))]) st4 = some (.ref 4, st5) ∧ getO st5 4 = some (.list ((List.range (sz - 1)).map fun k => .str [tieC T k] true)) ∧ ∀ j, j ≠ 4 → getO st5 j = getO st4 j := by
    have am : (ev FT (n + 8)).e (bin .sub (nm 12) (ci 1)) (put 15 (.int (.c T) K') [(11, .ref 0), (12, .int (.c (Int.ofNat sz)) (k12 + 1))]) st4 = some (.int (.c (Int.ofNat (sz - 1))) (maxB (k12 + 1) (bits 1)), st4) := by
      rcases hs with rfl | rfl <;> rfl
    obtain ⟨st5, e5, g5, gj5⟩ := lcRn_ok (f := fun x loc st => (ev FT (n + 8)).e tieX (put 14 x loc) st) (c := fun k => .str [tieC T k] true) (B := sz - 1) (acc := 4) (loc := put 15 (.int (.c T) K') [(11, .ref 0), (12, .int (.c (Int.ofNat sz)) (k12 + 1))]) (fun i st hi => te i st (by omega)) (by omega) (sz - 1) 0 (push st4 (.list [])) [] (by omega) (by rw [getO_push, if_pos n4'.symm]) rfl
    refine ⟨st5, ?_, by rw [g5, List.nil_append, List.range_eq_range'], fun j hj => by rw [gj5 j hj, getO_push, if_neg (by rw [n4']; exact hj)]⟩
    have hb : Nat.ble (sz - 1) 100000 = true := ble_le (by omega)
    show (match (ev FT (n + 8)).e (bin .sub (nm 12) (ci 1)) (put 15 (.int (.c T) K') [(11, .ref 0), (12, .int (.c (Int.ofNat sz)) (k12 + 1))]) st4 with
      | some (.int (.c (.ofNat m)) _, st) => (match Nat.ble m 100000 with
        | true => (lcRn (fun x loc st => (ev FT (n + 8)).e tieX (put 14 x loc) st) st.n (put 15 (.int (.c T) K') [(11, .ref 0), (12, .int (.c (Int.ofNat sz)) (k12 + 1))]) m 0 (push st (.list []))).map fun s' => (MV.ref st.n, s')
        | false => none)
      | _ => none) = _
    rw [am]
    show (match Nat.ble (sz - 1) 100000 with
        | true => (lcRn (fun x loc st => (ev FT (n + 8)).e tieX (put 14 x loc) st) st4.n (put 15 (.int (.c T) K') [(11, .ref 0), (12, .int (.c (Int.ofNat sz)) (k12 + 1))]) (sz - 1) 0 (push st4 (.list []))).map fun s' => (MV.ref st4.n, s')
        | false => none) = _
    rw [hb, n4']
    show (lcRn (fun x loc st => (ev FT (n + 8)).e tieX (put 14 x loc) st) 4 (put 15 (.int (.c T) K') [(11, .ref 0), (12, .int (.c (Int.ofNat sz)) (k12 + 1))]) (sz - 1) 0 (push st4 (.list []))).map (fun s' => (MV.ref 4, s')) = _
    rw [e5]; rfl
  refine ⟨st5, (List.range (sz - 1)).map (tieC T), ?_, fun j hj => ?_, T, rfl⟩
  · have hbl : Nat.ble ((List.range (sz - 1)).map (tieC T)).length 100000 = true := ble_le (by simp; omega)
    have hbx : Nat.ble ((List.range (sz - 1)).map fun k => MV.str [tieC T k] true).length 100000 = true := ble_le (by simp; omega)
    have a5 : (ev FT (n + 10)).e (join (lcR 14 (bin .sub (nm 12) (ci 1)) tieX)) (put 15 (.int (.c T) K') [(11, .ref 0), (12, .int (.c (Int.ofNat sz)) (k12 + 1))]) st4 = some (.str ((List.range (sz - 1)).map (tieC T)) false, st5) := by
      show (match (ev FT (n + 9)).e (lcR 14 (bin .sub (nm 12) (ci 1)) tieX) (put 15 (.int (.c T) K') [(11, .ref 0), (12, .int (.c (Int.ofNat sz)) (k12 + 1))]) st4 with
        | some (.ref id, st) => (match getO st id with
          | some (.list xs) => (match joinS xs with
            | some l => (match Nat.ble l.length 100000 && Nat.ble xs.length 100000 with | true => some (MV.str l false, st) | false => none)
            | none => none)
          | _ => none)
        | _ => none) = _
      rw [a4]
      show (match getO st5 4 with
          | some (.list xs) => (match joinS xs with
            | some l => (match Nat.ble l.length 100000 && Nat.ble xs.length 100000 with | true => some (MV.str l false, st5) | false => none)
            | none => none)
          | _ => none) = _
      rw [g5]
      show (match joinS ((List.range (sz - 1)).map fun k => MV.str [tieC T k] true) with
            | some l => (match Nat.ble l.length 100000 && Nat.ble ((List.range (sz - 1)).map fun k => MV.str [tieC T k] true).length 100000 with | true => some (MV.str l false, st5) | false => none)
            | none => none) = _
      rw [joinS_map]
      show (match Nat.ble ((List.range (sz - 1)).map (tieC T)).length 100000 && Nat.ble ((List.range (sz - 1)).map fun k => MV.str [tieC T k] true).length 100000 with | true => some (MV.str ((List.range (sz - 1)).map (tieC T)) false, st5) | false => none) = _
      rw [hbl, hbx]; rfl
    have s2 : (ev FT (n + 11)).s (ret (join (lcR 14 (bin .sub (nm 12) (ci 1)) tieX))) (put 15 (.int (.c T) K') [(11, .ref 0), (12, .int (.c (Int.ofNat sz)) (k12 + 1))]) st4 = some (.ret (.str ((List.range (sz - 1)).map (tieC T)) false), put 15 (.int (.c T) K') [(11, .ref 0), (12, .int (.c (Int.ofNat sz)) (k12 + 1))], st5) := by
      show (match (ev FT (n + 10)).e (join (lcR 14 (bin .sub (nm 12) (ci 1)) tieX)) (put 15 (.int (.c T) K') [(11, .ref 0), (12, .int (.c (Int.ofNat sz)) (k12 + 1))]) st4 with
        | some (v, st) => some (Fl.ret v, put 15 (.int (.c T) K') [(11, .ref 0), (12, .int (.c (Int.ofNat sz)) (k12 + 1))], st)
        | none => none) = _
      rw [a5]
    show (match ssOf (ev FT (n + 11)).s [asg 15 (bin .add (ci 2) (sum (lc1 10 (nm 11) (bin .mod (nm 10) (ci 8))))), ret (join (lcR 14 (bin .sub (nm 12) (ci 1)) tieX))] [(11, .ref 0), (12, .int (.c (Int.ofNat sz)) (k12 + 1))] st with
        | some (.ret v, _, st) => some (v, st)
        | some (.next, _, st) => some (.none, st)
        | none => none) = _
    rw [ss_next s1, ss_ret s2]
  · rw [gj5 j (by omega), gj j (by omega), getO_push, if_neg (by omega)]
end Mine
end

section
set_option autoImplicit false
namespace Mine
open X XS

theorem law1_ok (zs : List Int) (hz : zs.length ≤ 60) : ∃ (sz k12 : Nat) (vs : List MV) (l : List Nat) (st' : St) (T : Int), (sz = 3 ∨ sz = 4) ∧
    ssOf (ev FT 120).s [asg 12 (ife (cmp .gt (len (nm 39)) (ci 2)) (ci 4) (ci 3)), asg 13 (call 7 [nm 39, nm 12]), asg 17 (call 8 [nm 39, nm 12])] [(39, .ref 0)] (push St.nil (.list (xsOf zs))) =
      some (.next, put 17 (.str l false) (put 13 (.ref 2) (put 12 (.int (.c (Int.ofNat sz)) (k12 + 1)) [(39, .ref 0)])), st') ∧ getO st' 2 = some (.list vs) ∧ vs.length = sz ∧ (∀ u ∈ vs, OkV 82 u) ∧ l = (List.range (sz - 1)).map (tieC T) := by
  generalize hst : push St.nil (.list (xsOf zs)) = st0
  have g0 : getO st0 0 = some (.list (xsOf zs)) := by rw [← hst]; rfl
  have hb : Nat.ble (xsOf zs).length 100000 = true := ble_le (by rw [xsOf_len]; omega)
  have el : (ev FT 116).e (len (nm 39)) [(39, .ref 0)] st0 = some (.int (.c (Int.ofNat zs.length)) 64, st0) := by
    show (match getO st0 0 with | some (.list xs) => (match Nat.ble xs.length 100000 with | true => some (MV.int (.c (Int.ofNat xs.length)) 64, st0) | false => none) | _ => none) = _
    rw [g0]
    show (match Nat.ble (xsOf zs).length 100000 with | true => some (MV.int (.c (Int.ofNat (xsOf zs).length)) 64, st0) | false => none) = _
    rw [hb, xsOf_len]
  have et : (ev FT 118).t (cmp .gt (len (nm 39)) (ci 2)) [(39, .ref 0)] st0 = some (decide (Int.ofNat 2 < Int.ofNat zs.length), st0) := by
    show (match (match (ev FT 116).e (len (nm 39)) [(39, .ref 0)] st0 with | some (u, st) => (match (ev FT 116).e (ci 2) [(39, .ref 0)] st with | some (v, st) => (cmpV st .gt u v).map fun b => (MV.bool b, st) | none => none) | none => none) with
      | some (.bool b, st) => some (b, st) | _ => none) = _
    rw [el]; rfl
  obtain ⟨sz, k12, hsz, e12⟩ : ∃ sz k12, (sz = 3 ∨ sz = 4) ∧ (ev FT 119).e (ife (cmp .gt (len (nm 39)) (ci 2)) (ci 4) (ci 3)) [(39, .ref 0)] st0 = some (.int (.c (Int.ofNat sz)) (k12 + 1), st0) := by
    have : (ev FT 119).e (ife (cmp .gt (len (nm 39)) (ci 2)) (ci 4) (ci 3)) [(39, .ref 0)] st0 = (match (ev FT 118).t (cmp .gt (len (nm 39)) (ci 2)) [(39, .ref 0)] st0 with
      | some (true, st) => (ev FT 118).e (ci 4) [(39, .ref 0)] st
      | some (false, st) => (ev FT 118).e (ci 3) [(39, .ref 0)] st
      | none => none) := rfl
    rw [this, et]
    cases decide (Int.ofNat 2 < Int.ofNat zs.length) with
    | true => exact ⟨4, Nat.log2 4, .inr rfl, rfl⟩
    | false => exact ⟨3, Nat.log2 3, .inl rfl, rfl⟩
  obtain ⟨st1, vs, ev1, g2, hl, hall, g0', n1⟩ := values_ok 108 (k12 := k12) zs hz hsz
  rw [hst] at ev1
  obtain ⟨st2, l, ev2, gj, T, hT⟩ := ties_ok 106 (k12 := k12) zs hz hsz g0' n1 (by decide)
  refine ⟨sz, k12, vs, l, st2, T, hsz, ?_, by rw [gj 2 (by decide)]; exact g2, hl, fun u hu => ?_, hT⟩
  · have s1 : (ev FT 120).s (asg 12 (ife (cmp .gt (len (nm 39)) (ci 2)) (ci 4) (ci 3))) [(39, .ref 0)] st0 = some (.next, put 12 (.int (.c (Int.ofNat sz)) (k12 + 1)) [(39, .ref 0)], st0) := by
      show (match (ev FT 119).e (ife (cmp .gt (len (nm 39)) (ci 2)) (ci 4) (ci 3)) [(39, .ref 0)] st0 with
        | some (v, st) => some (Fl.next, put 12 v [(39, .ref 0)], st) | none => none) = _
      rw [e12]
    have s2 : (ev FT 120).s (asg 13 (call 7 [nm 39, nm 12])) (put 12 (.int (.c (Int.ofNat sz)) (k12 + 1)) [(39, .ref 0)]) st0 = some (.next, put 13 (.ref 2) (put 12 (.int (.c (Int.ofNat sz)) (k12 + 1)) [(39, .ref 0)]), st1) := by
      show (match (ev FT 118).c 7 [.ref 0, .int (.c (Int.ofNat sz)) (k12 + 1)] st0 with
        | some (v, st) => some (Fl.next, put 13 v (put 12 (.int (.c (Int.ofNat sz)) (k12 + 1)) [(39, .ref 0)]), st) | none => none) = _
      rw [ev1]
    have s3 : (ev FT 120).s (asg 17 (call 8 [nm 39, nm 12])) (put 13 (.ref 2) (put 12 (.int (.c (Int.ofNat sz)) (k12 + 1)) [(39, .ref 0)])) st1 = some (.next, put 17 (.str l false) (put 13 (.ref 2) (put 12 (.int (.c (Int.ofNat sz)) (k12 + 1)) [(39, .ref 0)])), st2) := by
      show (match (ev FT 118).c 8 [.ref 0, .int (.c (Int.ofNat sz)) (k12 + 1)] st1 with
        | some (v, st) => some (Fl.next, put 17 v (put 13 (.ref 2) (put 12 (.int (.c (Int.ofNat sz)) (k12 + 1)) [(39, .ref 0)])), st) | none => none) = _
      rw [ev2]
    rw [ss_next s1, ss_next s2, ss_next s3]; rfl
  · obtain ⟨y, k, h1, h2⟩ := hall u hu
    exact ⟨y, k, h1, by omega⟩
end Mine
end

section
set_option autoImplicit false
set_option maxRecDepth 100000
namespace Mine
theorem run4_ppp : run2 120 4 [43, 43, 43] = some true := by decide +kernel
theorem run4_ppm : run2 120 4 [43, 43, 45] = some true := by decide +kernel
theorem run4_pmp : run2 120 4 [43, 45, 43] = some true := by decide +kernel
theorem run4_pmm : run2 120 4 [43, 45, 45] = some true := by decide +kernel
theorem run4_mpp : run2 120 4 [45, 43, 43] = some true := by decide +kernel
theorem run4_mpm : run2 120 4 [45, 43, 45] = some true := by decide +kernel
theorem run4_mmp : run2 120 4 [45, 45, 43] = some true := by decide +kernel
theorem run4_mmm : run2 120 4 [45, 45, 45] = some true := by decide +kernel
theorem run3_pp : run2 120 3 [43, 43] = some true := by decide +kernel
theorem run3_pm : run2 120 3 [43, 45] = some true := by decide +kernel
theorem run3_mp : run2 120 3 [45, 43] = some true := by decide +kernel
theorem run3_mm : run2 120 3 [45, 45] = some true := by decide +kernel
theorem runs (sz : Nat) (T : Int) (h : sz = 3 ∨ sz = 4) : run2 120 sz ((List.range (sz - 1)).map (tieC T)) = some true := by
  rcases h with rfl | rfl
  · show run2 120 3 [tieC T 0, tieC T 1] = some true
    rcases tieC_or T 0 with h0 | h0 <;> rcases tieC_or T 1 with h1 | h1 <;> rw [h0, h1]
    · exact run3_pp
    · exact run3_pm
    · exact run3_mp
    · exact run3_mm
  · show run2 120 4 [tieC T 0, tieC T 1, tieC T 2] = some true
    rcases tieC_or T 0 with h0 | h0 <;> rcases tieC_or T 1 with h1 | h1 <;> rcases tieC_or T 2 with h2 | h2 <;> rw [h0, h1, h2]
    · exact run4_ppp
    · exact run4_ppm
    · exact run4_pmp
    · exact run4_pmm
    · exact run4_mpp
    · exact run4_mpm
    · exact run4_mmp
    · exact run4_mmm
end Mine
end

section
open Sem (wp)
set_option autoImplicit false
set_option maxRecDepth 100000
namespace Mine

theorem law_body : ∃ p1 p2 k p3 p4 p5 p6 rest, fnBody 71 = .Assign [.Name (nmS 39) p1] (.Subscript (.Name (nmS 38) p2) (.Slice none (some (.Constant (.int 60) k p3)) none p4) p5) p6 :: rest :=
  ⟨_, _, _, _, _, _, _, _, rfl⟩

section
variable {C : Cx} {N n : Nat} {ns : Nms} {A : Around} {env : Env}

theorem ss_then {f : XS → Loc → St → Option (Fl × Loc × St)} (HS : OkS C N f) (R : Rm A N) (hn : env.scope.names = ns) (hh : Has env) {b : List XS} {Q : Flow → Shared → Prop} : ∀ (a : List XS) {l : List Stmt}, RelSs ns (a ++ b) l → ∀ {loc loc1 : Loc} {ρ : List Addr} {g : Nat → List Nat} {st st1 : St} {s : Shared},
    EnvOk C env loc ρ g s → Inv C ρ g st s → ssOf f a loc st = some (.next, loc1, st1) →
    (∀ ρ' g' s' l2, Ex (FP env) ρ g s ρ' g' s' → Inv C ρ' g' st1 s' → EnvOk C env loc1 ρ' g' s' → RelSs ns b l2 → wpAny (model C.prog C.w) A (execs l2 env) Q F0 s') → wpAny (model C.prog C.w) A (execs l env) Q F0 s
  | [], l, h => by
    intro V I e k
    cases e
    exact k _ _ _ l Ex.refl I V h
  | x :: a, l, h => by
    intro V I e k
    cases h with
    | cons h1 h2 =>
      simp only [ssOf] at e
      split at e
      · next loc2 st2 e1 =>
        refine wpAny_execs_cons (wpAny_mono (HS h1 R hn hh V I e1) (fun F s₁ q => ?_) F0le)
        obtain ⟨ρ₁, g₁, x₁, I₁, V₁, r₁⟩ := q
        cases r₁
        exact ss_then HS R hn hh a h2 V₁ I₁ e fun ρ' g' s' l2 x' I' V' r => k ρ' g' s' l2 (x₁.trans x') I' V' r
      · cases e
      · cases e

theorem VRs.of_get {ρ : List Addr} {g : Nat → List Nat} {m : Nat} : ∀ (xs : List MV) (vs : List Value), xs.length = vs.length → (∀ (i : Nat) (a : MV) (v : Value), xs[i]? = some a → vs[i]? = some v → VR C ρ g m a v) → VRs C ρ g m xs vs
  | [], [], _, _ => .nil
  | [], _ :: _, h, _ => by cases h
  | _ :: _, [], h, _ => by cases h
  | a :: xs, v :: vs, h, k => .cons (k 0 a v rfl rfl) (VRs.of_get xs vs (by simpa using h) fun i b w e1 e2 => k (i + 1) b w (by simpa using e1) (by simpa using e2))

/-- a frame of one name, over an empty store -/
theorem EnvOk.call0 {name : Str} {scope : Scope} {cd : Value} {i : Nat} {u : MV} {v : Value} {a : Addr} {h₁ : Heap} {tk : Nat} {s : Shared} {g : Nat → List Nat} (hkp : ∀ b o, C.h₀.get? b = some o → s.heap.get? b = some o) (hk : scope.kind = .function)
    (hp : i < NV ∧ scope.names.lookup (nmS i) = some .local) (hcn : ((cellsFrom 0 scope.names []).map (·.1)).Nodup) (hv : VR C [] g tk u v)
    (F : Fr s.heap s.heap.objs.size h₁ (bindL (envOfC name scope s.heap.objs.size a cd).kindOf [(nmS i, v)] fun _ => none))
    (X : Cl s.heap.objs.size (cellsFrom (s.heap.objs.size + 1) scope.names []) h₁ (bindC (envOfC name scope s.heap.objs.size a cd).kindOf [(nmS i, v)] fun _ => none)) :
    EnvOk C (envOfC name scope s.heap.objs.size a cd) [(i, u)] [] g { s with heap := h₁, toks := tk } ∧ Has (envOfC name scope s.heap.objs.size a cd) ∧ ∀ b ∈ FP (envOfC name scope s.heap.objs.size a cd), s.heap.get? b = none := by
  have hcn' : ((cellsFrom (s.heap.objs.size + 1) scope.names []).map (·.1)).Nodup := by rw [cellsFrom_names _ _ 0 [] [] rfl]; exact hcn
  have hfresh : ∀ b ∈ FP (envOfC name scope s.heap.objs.size a cd), s.heap.get? b = none := by
    intro b hb
    have : s.heap.objs.size ≤ b := by
      rcases List.mem_cons.mp hb with rfl | hb
      · exact Nat.le_refl _
      · obtain ⟨p, hp, rfl⟩ := List.mem_map.mp hb
        exact Nat.le_of_lt (X.above p.1 p.2 hp)
    cases e : s.heap.get? b with
    | none => rfl
    | some o => exact absurd (Heap.lt_size e) (Nat.not_lt.mpr this)
  have has : Has (envOfC name scope s.heap.objs.size a cd) := fun x hx => lookup_of_fst (cellsFrom_has _ _ _ (.inl (mem_of_lookup hx)))
  refine ⟨⟨hk, rfl, rfl, has, ⟨_, F.ns⟩, fun x c hc => ⟨_, X.cell x c (lookup_of_mem_nodup hcn' hc)⟩, fun x y c hx hy => name_of_addr X.apart hx hy, fun x c hc => Nat.ne_of_gt (X.above x c hc), fun b hb => ⟨(fun q => by cases q), ?_⟩, fun j w hj hl hc => ?_⟩, has, hfresh⟩
  · cases e : C.h₀.get? b with
    | none => rfl
    | some o => have := hkp b o e; rw [hfresh b hb] at this; cases this
  · have hl : (match Nat.beq i j with | true => some u | false => none) = some w := hl
    rw [beq_eq'] at hl
    by_cases q : i = j
    · subst q
      rw [decide_eq_true rfl] at hl
      cases hl
      refine ⟨v, hv, .inl ⟨hp.2, _, F.ns, ?_⟩⟩
      unfold bindL bindL
      rw [if_pos (show (envOfC name scope s.heap.objs.size a cd).kindOf (nmS i) = some .local from hp.2)]
      exact if_pos rfl
    · rw [decide_eq_false q] at hl; cases hl
end

/-- the script's ints -/
theorem ints_vrs {C : Cx} {ρ : List Addr} {g : Nat → List Nat} {n : Nat} : ∀ {vals : List Value} {zs : List Int}, IntsAre vals zs → VRs C ρ g n (xsOf zs) vals
  | _, _, .nil => .nil
  | _, _, .cons z t h => .cons ⟨t, rfl, .inl rfl⟩ (ints_vrs h)
theorem xsOf_take (zs : List Int) (k : Nat) : (xsOf zs).take k = xsOf (zs.take k) := by simp [xsOf, List.map_take]

/-- the value at a place, as a letter -/
noncomputable def letter (vs : List MV) (i : Nat) : Int := match vs[i]? with
  | some (.int (.c y) _) => y
  | _ => 0

section
variable {C : Cx} {env : Env} {ρ : List Addr} {g : Nat → List Nat} {s : Shared} {st : St} {A : Around}

/-- EnvOk of nobody's names -/
theorem EnvOk.none {C' : Cx} {loc : Loc} (V : EnvOk C' env loc ρ g s) (h : C'.h₀ = C.h₀) : EnvOk C env [] ρ g s :=
  ⟨V.kind, V.glob, V.bi, V.has, V.ns, V.cells, V.apart, V.lc, fun b hb => ⟨(V.away b hb).1, h ▸ (V.away b hb).2⟩, fun _ _ _ hl => nomatch hl⟩

theorem Inv.init {h : Heap} (e : C.h₀ = h) (hk : ∀ b o, h.get? b = some o → s.heap.get? b = some o) (ht : 1 ≤ s.toks) : Inv C [] g St.nil s :=
  ⟨by rw [e]; exact hk, (fun _ h => nomatch h), (fun _ h => nomatch h), .nil, rfl, (fun i o q => by cases i <;> cases q), ht⟩

/-- first = script[:60] -/
theorem s_first {scope : Scope} (hsc : env.scope = scope) (hl : isLC scope.names (nmS 39)) (hh : Has env) (V : EnvOk C env [] [] g s) {sc : Addr} {vals : List Value} {zs : List Int} (hx : VarAt s.heap env (nmS 38) (.ref sc)) (hS : s.heap.IsList sc vals.toArray) (hv : IntsAre vals zs) (hlen : vals.length ≤ 1000000)
    (hk : ∀ b o, C.h₀.get? b = some o → s.heap.get? b = some o) {p1 p2 p3 p4 p5 p6 : Pos} {k : Nat} :
    wpAny (model C.prog C.w) A (exec (.Assign [.Name (nmS 39) p1] (.Subscript (.Name (nmS 38) p2) (.Slice none (some (.Constant (.int 60) k p3)) none p4) p5) p6) env)
      (SQ C env [] g s .next [(39, .ref 0)] (push St.nil (.list (xsOf (zs.take 60))))) F0 s := by
  have hval : ∀ {Q E : Value → Shared → Prop}, Q (.ref sc) s → wpAny (model C.prog C.w) A (eval (.Name (nmS 38) p2) env) Q E s := fun h => by
    refine wpAny_Name ?_ (nm_dbg 38 (by decide))
    rcases hx with ⟨k, m, hm, e⟩ | ⟨k, c, hc, hd⟩
    · exact wpAny_loadName_local V.kind k hm e h
    · rcases k with k | k
      · exact wpAny_loadName_cell V.kind k hc hd h
      · exact wpAny_loadName_free V.kind k hc hd h (nm_cd 38 (by decide))
  refine wpAny_Assign_Name (Subscript_ (hval ?_)) rfl
  refine wpAny_Slice (wpAny_pure ?_)
  show wpAny _ A (eval (.Constant (.int 60) k p3) env) _ F0 s
  refine wpAny_Constant_int ?_
  refine wpAny_pure ?_
  generalize hH : ({ s with toks := s.toks + 1 } : Shared).heap.push { cls := .type "slice", data := .fields #[.none, .int 60 s.toks, .none] } = H
  have hk' : ∀ b o, s.heap.get? b = some o → H.get? b = some o := fun b o e => by rw [← hH]; exact Heap.get?_push_of_some _ e
  have hsl : H.get? s.heap.objs.size = some { cls := .type "slice", data := .fields #[.none, .int 60 s.toks, .none] } := by rw [← hH]; exact Heap.get?_push_size _ rfl
  have x₀ : Ex [] [] g s [] g { s with heap := H, toks := s.toks + 1 } := Ex.keepHeap hk' (Nat.le_succ _)
  have I₀ : Inv C [] g St.nil { s with heap := H, toks := s.toks + 1 } := Inv.init rfl (fun b o e => hk' b o (hk b o e)) (Nat.le_add_left 1 _)
  have hS' : H.IsList sc vals.toArray := hS.at (hk' _)
  have rs : VRs C [] g (s.toks + 1) (xsOf (zs.take 60)) ((vals.drop 0).take (clipAt vals.length 60 - 0)) := by
    have := (ints_vrs (C := C) (ρ := []) (g := g) (n := s.toks + 1) hv).take 60
    rw [xsOf_take] at this
    rw [show clipAt vals.length 60 = min 60 vals.length from clipAt_nat _ 60, List.drop_zero, Nat.sub_zero, ← List.take_eq_take_min]
    exact this
  refine sub_go (T := "list") (s := { s with heap := H, toks := s.toks + 1 }) (Heap.IsList.typeIs hS') slot_list_getitem.lookup ⟨_, rfl⟩ (wpAny_getItem_list_slice (s := { s with heap := H, toks := s.toks + 1 }) hS' ⟨_, hsl, rfl, rfl⟩ .none (.int 60 s.toks) .none (by simp) ?_ (by rw [List.size_toArray]; exact Nat.le_trans hlen (by decide)))
  rw [slicePick_plain]
  obtain ⟨hI, hX⟩ := I₀.newList (W := FP env) rs
  have hst := Stb.of (env := env) (i := 39) (by decide) hh (by rw [hsc]; exact hl)
  refine st_var hI ((V.ex x₀).ex (I₀.newList (W := []) rs).2) hst.1 hst.2 (u := .ref 0) ⟨_, rfl, rfl⟩ (LW.fp 39) fun s₂ x₂ J₂ V₂ => ?_
  exact ⟨_, _, (x₀.any.trans hX).trans x₂, J₂, V₂, rfl⟩
end

end Mine
end

section
open Sem (wp)
set_option autoImplicit false
set_option maxRecDepth 100000
namespace Mine
theorem look4 {l : List Nat} {u12 u13 : MV} {r : Loc} : look 12 (put 17 (.str l false) (put 13 u13 (put 12 u12 r))) = some u12 ∧ look 13 (put 17 (.str l false) (put 13 u13 (put 12 u12 r))) = some u13 ∧ look 17 (put 17 (.str l false) (put 13 u13 (put 12 u12 r))) = some (.str l false) := by
  simp [look_put]

theorem run2_ssOf {n size : Nat} {ties : List Nat} (h : run2 n size ties = some true) :
    ∃ l' st', ssOf (ev FT n).s bLaw2 [(12, .int (.c (Int.ofNat size)) 3), (13, .ref 0), (17, .str ties false)] (push St.nil (.list ((List.range size).map fun i => .int (.v i) 100))) = some (.ret (.bool true), l', st') := by
  unfold run2 at h
  dsimp only at h
  split at h
  · next b l' st' e => cases h; exact ⟨l', st', e⟩
  · cases h

theorem letter_of {vs : List MV} {i : Nat} {y : Int} {k : Nat} (h : vs[i]? = some (.int (.c y) k)) : letter vs i = y := by
  unfold letter; rw [h]

theorem law_head : ∃ p1 p2 k p3 p4 p5 p6 rest, fnBody 71 = .Assign [.Name (nmS 39) p1] (.Subscript (.Name (nmS 38) p2) (.Slice none (some (.Constant (.int 60) k p3)) none p4) p5) p6 :: rest ∧ RelSs (fnScope 71).names ([XS.asg 12 (.ife (.cmp .gt (.len (.nm 39)) (.ci 2)) (.ci 4) (.ci 3)), .asg 13 (.call 7 [.nm 39, .nm 12]), .asg 17 (.call 8 [.nm 39, .nm 12])] ++ bLaw2) rest := by
  obtain ⟨p1, p2, k, p3, p4, p5, p6, rest, e⟩ := law_body
  refine ⟨p1, p2, k, p3, p4, p5, p6, rest, e, ?_⟩
  have r : RelSs (fnScope 71).names (XS.asg 39 (.slH (.nm 38) (.ci 60)) :: ([XS.asg 12 (.ife (.cmp .gt (.len (.nm 39)) (.ci 2)) (.ci 4) (.ci 3)), .asg 13 (.call 7 [.nm 39, .nm 12]), .asg 17 (.call 8 [.nm 39, .nm 12])] ++ bLaw2)) (fnBody 71) := relL
  rw [e] at r
  cases r with
  | cons h hs => exact hs

theorem bare_of {W : List Addr} {ρ ρ' : List Addr} {g g' : Nat → List Nat} {s s' : Shared} (x : Ex W ρ g s ρ' g' s') (h : AllBare s.gens) : AllBare s'.gens := by
  intro y hy
  obtain ⟨i, hi⟩ := Array.mem_iff_getElem?.mp hy
  rcases x.bare i y hi with q | q
  · exact h y (Array.mem_iff_getElem?.mpr ⟨i, q⟩)
  · exact q

section
variable {prog : Program} {w : World} {h : Heap} {mg mb : Str → Option Value} {fa : Nat → Addr} {env : Env} {g : Nat → List Nat} {s : Shared} {A : Around}

/-- the law's second part: its values are letters -/
theorem law_rest (hcx : ∀ η : Nat → Int, CxFn (mkCx prog w h mg mb fa η) ∧ IdxOk (mkCx prog w h mg mb fa η) ∧ GenOk (mkCx prog w h mg mb fa η)) (hsc : env.scope = fnScope 71) (hh : Has env) {C : Cx} (C3 : C.h₀ = h) {ρ : List Addr} {st : St} {sz k12 : Nat} {vs : List MV} {l : List Nat} {r : Loc}
    (V : EnvOk C env (put 17 (.str l false) (put 13 (.ref 2) (put 12 (.int (.c (Int.ofNat sz)) (k12 + 1)) r))) ρ g s) (I : Inv C ρ g st s) (hg : getO st 2 = some (.list vs)) (hl : vs.length = sz) (hsz : sz = 3 ∨ sz = 4) (hok : ∀ u ∈ vs, OkV 82 u) (hrun : run2 120 sz l = some true)
    {l2 : List Stmt} (rel : RelSs (fnScope 71).names bLaw2 l2) (R : Rm A 120) :
    wpAny (model prog w) A (execs l2 env) (fun F s' => F = .ret (.bool true) ∧ (∀ b o, h.get? b = some o → s'.heap.get? b = some o) ∧ s'.os = s.os ∧ (AllBare s.gens → AllBare s'.gens)) F0 s := by
  obtain ⟨d, hd, ⟨ws, k, hws, rs⟩⟩ := I.obj 2 _ hg
  obtain ⟨O, IO, GO⟩ := hcx (letter vs)
  have HS : OkS (mkCx prog w h mg mb fa (letter vs)) 120 (ev FT 120).s := (sound O (gen_ok O GO) (indexOf_ok O IO) 120).1.2.2.1
  have hdm := List.mem_of_getElem? hd
  have I2 : Inv (mkCx prog w h mg mb fa (letter vs)) [d] g (push St.nil (.list ((List.range sz).map fun i => .int (.v i) 100))) s := by
    refine ⟨by rw [← C3]; exact I.keep, fun a ha => ?_, fun a ha => ?_, by simp, rfl, fun i o e => ?_, I.tok⟩
    · rw [List.mem_singleton.mp ha]; rw [← C3]; exact I.away d hdm
    · rw [List.mem_singleton.mp ha]; exact I.live d hdm
    · rw [getO_push] at e
      by_cases hi : i = St.nil.n
      · rw [if_pos hi] at e; cases e; subst hi
        refine ⟨d, rfl, ws, k, hws, VRs.of_get _ _ (by rw [rs.length, hl]; simp) fun i a v e1 e2 => ?_⟩
        have hi : i < sz := by
          rcases Nat.lt_or_ge i sz with q | q
          · exact q
          · rw [List.getElem?_eq_none (by simpa using q)] at e1; cases e1
        have ea : a = .int (.v i) 100 := by
          rw [List.getElem?_map, List.getElem?_range hi] at e1
          simpa using e1.symm
        subst ea
        have hiv : i < vs.length := by rw [hl]; exact hi
        obtain ⟨y, k', hu, hk'⟩ := hok _ (List.getElem_mem hiv)
        have hq : vs[i]? = some (.int (.c y) (k' + 1)) := by rw [List.getElem?_eq_getElem hiv, hu]
        obtain ⟨v', hv', t, rfl, hb⟩ := rs.get hq
        rw [e2] at hv'; cases hv'
        refine ⟨t, ?_, .inr ?_⟩
        · show Value.int y t = .int (letter vs i) t
          rw [letter_of hq]
        · show (letter vs i).natAbs < 2 ^ 100
          rw [letter_of hq]
          rcases hb with hb | hb
          · exact absurd hb (Nat.succ_ne_zero _)
          · exact Nat.lt_of_lt_of_le hb (Nat.pow_le_pow_right (by decide) (by omega))
      · rw [if_neg hi] at e
        cases i <;> cases e
  have V2 : EnvOk (mkCx prog w h mg mb fa (letter vs)) env [(12, .int (.c (Int.ofNat sz)) 3), (13, .ref 0), (17, .str l false)] [d] g s := by
    refine ⟨V.kind, V.glob, V.bi, V.has, V.ns, V.cells, V.apart, V.lc, fun b hb => ⟨fun q => ?_, by rw [← (V.away b hb).2, C3]; rfl⟩, fun i u hi hlk hc => ?_⟩
    · rw [List.mem_singleton.mp q] at hb; exact (V.away d hb).1 hdm
    · have hlk : (match Nat.beq 12 i with | true => some (MV.int (.c (Int.ofNat sz)) 3) | false => match Nat.beq 13 i with | true => some (MV.ref 0) | false => match Nat.beq 17 i with | true => some (MV.str l false) | false => none) = some u := hlk
      simp only [beq_eq'] at hlk
      obtain ⟨e12, e13, e17⟩ := look4 (l := l) (u12 := .int (.c (Int.ofNat sz)) (k12 + 1)) (u13 := .ref 2) (r := r)
      by_cases q : 12 = i
      · subst q
        simp only [decide_true] at hlk
        cases hlk
        obtain ⟨v, ⟨t, rfl, _⟩, hq⟩ := V.vars 12 _ hi e12 hc
        refine ⟨_, ⟨t, rfl, .inr ?_⟩, hq⟩
        rcases hsz with rfl | rfl
        · show (Int.ofNat 3).natAbs < 2 ^ 3; decide
        · show (Int.ofNat 4).natAbs < 2 ^ 3; decide
      · by_cases q' : 13 = i
        · subst q'
          simp only [q, decide_false, decide_true] at hlk
          cases hlk
          obtain ⟨v, ⟨a, ha, rfl⟩, hq⟩ := V.vars 13 _ hi e13 hc
          rw [hd] at ha; cases ha
          exact ⟨_, ⟨d, rfl, rfl⟩, hq⟩
        · by_cases q'' : 17 = i
          · subst q''
            simp only [q, q', decide_false, decide_true] at hlk
            cases hlk
            obtain ⟨v, ⟨t, rfl, _⟩, hq⟩ := V.vars 17 _ hi e17 hc
            exact ⟨_, ⟨t, rfl, fun z => nomatch z⟩, hq⟩
          · simp only [q, q', q'', decide_false] at hlk
            cases hlk
  obtain ⟨l', st', e⟩ := run2_ssOf hrun
  refine wpAny_mono (ss_ok HS R (by rw [hsc]) hh rel V2 I2 e) (fun F s' q => ?_) F0le
  obtain ⟨ρ', g', x, I', _, v, rfl, rfl⟩ := q
  exact ⟨rfl, I'.keep, x.os, bare_of x⟩

theorem law_walk (hcx : ∀ η : Nat → Int, CxFn (mkCx prog w h mg mb fa η) ∧ IdxOk (mkCx prog w h mg mb fa η) ∧ GenOk (mkCx prog w h mg mb fa η)) (hsc : env.scope = fnScope 71) (hh : Has env) (V : EnvOk (mkCx prog w h mg mb fa fun _ => 0) env [] [] g s)
    {sc : Addr} {vals : List Value} {zs : List Int} (hx : VarAt s.heap env (nmS 38) (.ref sc)) (hS : s.heap.IsList sc vals.toArray) (hv : IntsAre vals zs) (hlen : vals.length ≤ 1000000) (hk : ∀ b o, h.get? b = some o → s.heap.get? b = some o) (R : Rm A 120) :
    wpAny (model prog w) A (execs (fnBody 71) env) (fun F s' => F = .ret (.bool true) ∧ (∀ b o, h.get? b = some o → s'.heap.get? b = some o) ∧ s'.os = s.os ∧ (AllBare s.gens → AllBare s'.gens)) F0 s := by
  obtain ⟨p1, p2, k, p3, p4, p5, p6, rest, e, hrel⟩ := law_head
  rw [e]
  obtain ⟨O, IO, GO⟩ := hcx fun _ => 0
  have HS : OkS (mkCx prog w h mg mb fa fun _ => 0) 120 (ev FT 120).s := (sound O (gen_ok O GO) (indexOf_ok O IO) 120).1.2.2.1
  refine wpAny_execs_cons (wpAny_mono (s_first (C := mkCx prog w h mg mb fa fun _ => 0) hsc (.inl rfl) hh V hx hS hv hlen hk) (fun F s₁ q => ?_) F0le)
  obtain ⟨ρ₁, g₁, x₁, I₁, V₁, r₁⟩ := q
  cases r₁
  obtain ⟨sz, k12, vs, l, st', T, hsz, erun, hg, hvl, hok, hlT⟩ := law1_ok (zs.take 60) (by rw [List.length_take]; omega)
  refine ss_then (C := mkCx prog w h mg mb fa fun _ => 0) HS R (by rw [hsc]) hh _ hrel V₁ I₁ erun fun ρ' g' s' l2 x I V2 rel => ?_
  refine wpAny_mono (law_rest hcx hsc hh rfl V2 I hg hvl hsz hok (by rw [hlT]; exact runs sz T hsz) rel R) (fun F s'' q => ?_) F0le
  obtain ⟨q1, q2, q3, q4⟩ := q
  exact ⟨q1, q2, q3.trans (x.os.trans x₁.os), fun b => q4 (bare_of x (bare_of x₁ b))⟩
end

theorem law_call {prog : Program} {w : World} {h : Heap} {mg mb : Str → Option Value} {fa : Nat → Addr} (hcx : ∀ η : Nat → Int, CxFn (mkCx prog w h mg mb fa η) ∧ IdxOk (mkCx prog w h mg mb fa η) ∧ GenOk (mkCx prog w h mg mb fa η)) {a : Addr} (D : DefAt h "law" 71 a)
    {s : Shared} (hs : s.heap = h) {sc : Addr} {vals : List Value} {zs : List Int} (hl : s.heap.IsList sc vals.toArray) (hv : IntsAre vals zs) (hlen : vals.length ≤ 1000000) {A : Around} (R : Rm A 121) :
    wpAny (model prog w) A (call (.ref a) [.ref sc]) (fun v s' => v = .bool true ∧ (∀ b o, s.heap.get? b = some o → s'.heap.get? b = some o) ∧ s'.os = s.os ∧ (AllBare s.gens → AllBare s'.gens)) F0 s := by
  subst hs
  obtain ⟨pm, cd, doc, o, h1, h2, h3⟩ := D
  have O := (hcx fun _ => 0)
  refine wpAny_call (call_toks (fd := Calls.docDef "law" (fnArgs 71) (fnBody 71) (fnScope 71) pm cd doc) R.room h1 h2 O.1.lim h3 rfl (binds := [(nmS 38, .ref sc)]) rfl rfl (fun x hx => ?_) (fun s₁ ht X => ?_) rfl rfl rfl)
  · rw [List.mem_singleton.mp hx]; exact .inl rfl
  obtain ⟨h₁, tk, rfl, hk⟩ := X.done
  have ht : s.toks ≤ tk := ht
  have hk' : ∀ b o, s.heap.get? b = some o → h₁.get? b = some o := hk
  obtain ⟨V0, hh, hf⟩ := EnvOk.call0 (C := ⟨prog, w, s.heap, mg, mb, fun _ => sc, fun _ => 0⟩) (name := "law") (scope := fnScope 71) (cd := cd) (i := 38) (u := .fn 0) (v := .ref sc) (a := a) (h₁ := h₁) (tk := tk) (s := s) (g := fun _ => [])
    (fun _ _ e => e) rfl ⟨by decide, rfl⟩ (by decide +kernel) rfl ⟨X.toInCall.ns, X.toInCall.keep, X.toInCall.fresh⟩ ⟨X.cell, X.apart, X.above⟩
  obtain ⟨v, hv', hx⟩ := V0.vars 38 (.fn 0) (by decide) rfl (.inl rfl)
  cases hv'
  refine wpAny_mono (law_walk hcx rfl hh (V0.none rfl) hx (hl.at (hk' _)) hv hlen hk' (R.deeper _)) (fun F s' q => ?_) F0le
  obtain ⟨rfl, q2, q3, q4⟩ := q
  exact ⟨rfl, q2, q3, q4⟩
end Mine
end

section
set_option autoImplicit false
set_option maxRecDepth 100000
namespace Mine
theorem keysLit_of {P : Params} : ∀ (l : List DictEntry) (ks : List Str), l.map (fun e => (strOf? e.key, e.hash)) = ks.map (fun x => (some x, PyData.keyHash P x)) → KeysLit P l
  | [], _, _ => True.intro
  | e :: l, [], h => by cases h
  | e :: l, x :: ks, h => by
    injection h with h1 h2
    have h3 := congrArg Prod.fst h1
    have h4 := congrArg Prod.snd h1
    refine ⟨⟨x, ?_⟩, keysLit_of l ks h2⟩
    dsimp only at h3 h4
    unfold strOf? at h3
    split at h3
    · next y t e1 => cases h3; exact ⟨t, e1, h4⟩
    · cases h3
theorem top_says {K : Frag} {P : Params} (S : KSays K P) : TopSays vw K P := by
  have L := S.look
  unfold lookK at L
  simp only [Bool.and_eq_true] at L
  obtain ⟨⟨⟨⟨⟨l1, l2⟩, l3⟩, l4⟩, l5⟩, l6⟩ := L
  unfold isTab at l2
  obtain ⟨l7, l8⟩ := Bool.and_eq_true_iff.mp l2
  refine ⟨fun k hk => ?_, by kernel_rfl, fun k hk => ?_, by kernel_rfl, by kernel_rfl, isNN_eq l1, ?_, ?_, keysLit_of _ _ S.keys, ?_, ⟨isNN_eq l4.1.1.1.1, isNN_eq l4.1.1.1.2, isNN_eq l4.1.1.2, isNN_eq l4.1.2, isNN_eq l4.2⟩, by simpa using l5⟩
  · match k, hk with
    | 0, _ => kernel_rfl
    | 1, _ => kernel_rfl
    | 2, _ => kernel_rfl
    | 3, _ => kernel_rfl
    | 4, _ => kernel_rfl
    | 5, _ => kernel_rfl
    | 6, _ => kernel_rfl
    | 7, _ => kernel_rfl
    | 8, _ => kernel_rfl
    | 9, _ => kernel_rfl
    | 10, _ => kernel_rfl
    | 11, _ => kernel_rfl
    | 12, _ => kernel_rfl
    | 13, _ => kernel_rfl
    | 14, _ => kernel_rfl
    | k + 15, h => exact absurd h (by omega)
  · match k, hk with
    | 0, _ => exact ⟨rfl, rfl⟩
    | 1, _ => exact ⟨rfl, rfl⟩
    | 2, _ => exact ⟨rfl, rfl⟩
    | 3, _ => exact ⟨rfl, rfl⟩
    | 4, _ => exact ⟨rfl, rfl⟩
    | 5, _ => exact ⟨rfl, rfl⟩
    | 6, _ => exact ⟨rfl, rfl⟩
    | 7, _ => exact ⟨rfl, rfl⟩
    | 8, _ => exact ⟨rfl, rfl⟩
    | 9, _ => exact ⟨rfl, rfl⟩
    | 10, _ => exact ⟨rfl, rfl⟩
    | 11, _ => exact ⟨rfl, rfl⟩
    | 12, _ => exact ⟨rfl, rfl⟩
    | 13, _ => exact ⟨rfl, rfl⟩
    | 14, _ => exact ⟨rfl, rfl⟩
    | k + 15, h => exact absurd h (by omega)
  · unfold tabAddr
    split at l7
    · next d e => rw [e]
    · cases l7
  · split at l8
    · next t es n sl e =>
      obtain ⟨h1, h2⟩ := Bool.and_eq_true_iff.mp l8
      have h1 : t = "dict" := by simpa using h1
      have h2 : sl = #[] := by simpa using h2
      subst h1 h2
      unfold tabEs tabN
      rw [e]
    · cases l8
  · simp only [Bool.and_eq_true]; exact l3
theorem frees {K : Frag} {P : Params} {h : Heap} {mg : Str → Option Value} (S : KSays K P) (X : K.In h) (G : h.Ns mainGlobals mg) : mg "len" = none ∧ mg "sum" = none ∧ mg "range" = none ∧ mg "enumerate" = none := by
  have L := S.look
  unfold lookK at L
  simp only [Bool.and_eq_true] at L
  obtain ⟨_, l6⟩ := L
  exact ⟨noneAt X G (isNN_eq l6.1.1.1), noneAt X G (isNN_eq l6.1.1.2), noneAt X G (isNN_eq l6.1.2), noneAt X G (isNN_eq l6.2)⟩
end Mine
end

section
set_option autoImplicit false
set_option maxRecDepth 100000
set_option maxHeartbeats 8000000
namespace Mine
theorem final : PySem.Challenge.rw_wf0042_01.Holds := by
  refine head ?_
  intro w s₀ s₁ mg mb G Y a o pm cd doc dV kV ho hd' hcd hD hmg hg args vals as hpre hlay hrd hwl hlo
  obtain ⟨K, KX, KS⟩ := Y
  have S := top_says KS
  obtain ⟨fa, hcx⟩ := cx_ok (prog := PySem.Challenge.rw_wf0042_01.prog) G KX S (frees KS KX G.T.g)
  obtain ⟨a', hm', D⟩ := def_at (name := "law") (j := 71) G (by kernel_rfl) rfl rfl
  have ea : a' = a := by
    have hmg : mg "law" = some (.ref a) := hmg
    rw [hmg] at hm'; cases hm'; rfl
  subst ea
  clear ho hd' hcd hD hmg hm' KS
  have hpre : PySem.Challenge.rw_wf0042_01.row.toRowW.claim.pre args = true := hpre
  have hrd : ReadsAllW PySem.Challenge.rw_wf0042_01.row.toRowW.records (classAt s₀.heap) s₁.heap vals args as := hrd
  show wpAny (model PySem.Challenge.rw_wf0042_01.row.prog w) callerA (call (.ref a') vals) (fun v s' => GoodWG PySem.Challenge.rw_wf0042_01.row.toRowW.claim (classAt s₀.heap) (ExcName.means s₀.heap) args s₁ (.ok (.ret v)) s')
        (fun e s' => GoodWG PySem.Challenge.rw_wf0042_01.row.toRowW.claim (classAt s₀.heap) (ExcName.means s₀.heap) args s₁ (.error e) s') s₁
  wrow_args hpre hlay hrd hwl hlo
  rename_i xs _ _ _ _ _ _ _ l vs _ hL _ _ _ hI _ hc _
  have hlen : vs.length = xs.length := IntsAre.length hI
  have hc : ¬ (63 : Int) < (xs.length : Int) := hc
  have R : Rm callerA 121 := ⟨rfl, by decide, by decide⟩
  clear S KX G
  refine wpAny_mono (law_call hcx D rfl hL hI (by omega) R) (fun v s' q => ?_) F0le
  obtain ⟨rfl, q2, q3, q4⟩ := q
  have hb : AllBare s₁.gens := .of_eq hg
  refine ⟨.inl ⟨.bool true, .bool true, [], rfl, raisesW_false (by wrow_none_raised), .bool true, ?_, unshared_nil⟩, .of_keep q2, q3, q4 hb⟩
  clear q2 q3 q4 hcx D R
  wrow_post
end Mine
end

set_option maxRecDepth 100000 in
theorem PySem.Challenge.cw_wf0042_01_holds : PySem.Challenge.rw_wf0042_01.Holds := by
  exact Mine.final
