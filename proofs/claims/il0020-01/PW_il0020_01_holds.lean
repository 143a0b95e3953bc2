import PyProof.Rows.All
import Wide.All
import OpenK.AllK
import Wide.FinOn
import KE.KSortAsk
import KE.KRevIter
import PyProof.WalksPairs
import PyProof.EnumStmt
import PyProof.TupleOfGen
import PyProof.SetRoads
import PyProof.MinMaxWalk
import PyProof.EnumFor
import PyProof.ListRange
import PyProof.Rows.SumAny
import PyProof.Rows.SetObj
import PySem.Challenge.RW_il0020_01
set_option Elab.async false
section
open PySem PySem.W PyProof.Rows
set_option autoImplicit false
set_option linter.unusedVariables false
set_option maxRecDepth 1000000
set_option maxHeartbeats 8000000
namespace Mine
/-- the lines of the top that the head keeps -/
noncomputable def keepIx : List Nat := [0, 1, 3, 5, 7, 8, 10, 12, 14, 15, 16, 18, 19, 20, 21, 22, 23, 24, 25, 27, 28, 29, 30, 32, 33, 34, 35, 36, 37, 38, 39, 40, 41]
noncomputable def view : Program := { PySem.Challenge.pw_il0020_01 with main := { PySem.Challenge.pw_il0020_01.main with body := keepIx.filterMap fun i => PySem.Challenge.pw_il0020_01.main.body[i]? } }
/-- the def of line i of the top, as an object -/
noncomputable def fnO (i : Nat) (m : String) (t : Tok) (cd : Addr) : Obj :=
  match PySem.Challenge.pw_il0020_01.main.body[i]? with
  | some (.FunctionDef n ps b _ _ _ sc _ _ _) => { cls := .type "function", data := .func { name := n, qualname := n, params := ps, body := .stmts b, scope := sc, globals := 3, closure := [], defaults := .none, kwdefaults := .none, pyModule := .str (Str.ofString m) t, code := .ref cd } }
  | _ => { cls := .none, data := .plain }
noncomputable def ent (P : Params) (x : Str) (t : Tok) (v : Value) : DictEntry := { hash := PyData.keyHash P x, key := .str x t, val := v }
/-- the objects that the proof leans on -/
noncomputable def KK (P : Params) : Frag :=
  [(3, { cls := .type "dict", data := .dict #[ent P (Str.ofString "__name__") 165 (Value.str (Str.ofString "law_il0020_01") 584),
      ent P (Str.ofString "__doc__") 166 (Value.none),
      ent P (Str.ofString "__package__") 167 (Value.none),
      ent P (Str.ofString "__loader__") 168 (Value.builtin "__main__.__loader__#opaque"),
      ent P (Str.ofString "__spec__") 169 (Value.none),
      ent P (Str.ofString "__annotations__") 170 (Value.ref 6),
      ent P (Str.ofString "__builtins__") 171 (Value.ref 4),
      ent P (Str.ofString "__file__") 173 (Value.str (Str.ofString "/claim/cut.py") 172),
      ent P (Str.ofString "__cached__") 174 (Value.none),
      ent P (Str.ofString "_sre") 275 (Value.ref 12),
      ent P (Str.ofString "_wall") 288 (Value.ref 38),
      ent P (Str.ofString "_plain_name") 299 (Value.ref 45),
      ent P (Str.ofString "ABCMeta") 325 (Value.ref 62),
      ent P (Str.ofString "_ABCLike") 368 (Value.ref 95),
      ent P (Str.ofString "_abc_plain_meta") 375 (Value.ref 104),
      ent P (Str.ofString "fspath") 387 (Value.ref 111),
      ent P (Str.ofString "_check_arg_types") 400 (Value.ref 118),
      ent P (Str.ofString "_get_sep") 409 (Value.ref 125),
      ent P (Str.ofString "join") 420 (Value.ref 132),
      ent P (Str.ofString "commonpath") 426 (Value.ref 137),
      ent P (Str.ofString "heappop") 437 (Value.ref 144),
      ent P (Str.ofString "heapify") 446 (Value.ref 151),
      ent P (Str.ofString "_heappop_max") 455 (Value.ref 158),
      ent P (Str.ofString "_heapify_max") 464 (Value.ref 165),
      ent P (Str.ofString "_siftdown") 476 (Value.ref 172),
      ent P (Str.ofString "_siftup") 489 (Value.ref 179),
      ent P (Str.ofString "_siftdown_max") 501 (Value.ref 186),
      ent P (Str.ofString "_siftup_max") 514 (Value.ref 193),
      ent P (Str.ofString "_twin_re_1") 532 (Value.ref 198),
      ent P (Str.ofString "_twin_re_2") 574 (Value.ref 203),
      ent P (Str.ofString "CRLF") 576 (Value.str (Str.ofString "\x0d\n") 575),
      ent P (Str.ofString "quotedata") 583 (Value.ref 210),
      ent P (Str.ofString "_law_names") 595 (Value.ref 217),
      ent P (Str.ofString "_law_paths") 601 (Value.ref 222),
      ent P (Str.ofString "_law_quoted") 607 (Value.ref 227),
      ent P (Str.ofString "_law_read") 613 (Value.ref 232),
      ent P (Str.ofString "_law_pairs") 627 (Value.ref 239),
      ent P (Str.ofString "_law_least") 638 (Value.ref 246),
      ent P (Str.ofString "_law_heads") 649 (Value.ref 253),
      ent P (Str.ofString "_law_net") 655 (Value.ref 258),
      ent P (Str.ofString "_law_spared") 661 (Value.ref 263),
      ent P (Str.ofString "law") 667 (Value.ref 268)] 42 }),
   (111, fnO 10 "os" 376 110),
   (125, fnO 14 "cpy313.posixpath" 401 124),
   (132, fnO 15 "cpy313.posixpath" 401 131),
   (137, fnO 16 "cpy313.posixpath" 401 136),
   (144, fnO 18 "cpy313.heapq" 427 143),
   (151, fnO 19 "cpy313.heapq" 427 150),
   (158, fnO 20 "cpy313.heapq" 427 157),
   (165, fnO 21 "cpy313.heapq" 427 164),
   (172, fnO 22 "cpy313.heapq" 427 171),
   (179, fnO 23 "cpy313.heapq" 427 178),
   (186, fnO 24 "cpy313.heapq" 427 185),
   (193, fnO 25 "cpy313.heapq" 427 192),
   (197, { cls := Value.type "tuple", data := Data.seq #[Value.int 14 0, Value.int 4 0, Value.int 0 0, Value.int 1 0, Value.int 1 0, Value.int 6 0, Value.int 1 0, Value.int 16 0, Value.int 46 0, Value.int 1 0] }),
   (198, { cls := Value.type "re.Pattern", data := Data.fields #[Value.str (Str.ofString "(?m)^\\.") 518, Value.int 40 531, Value.int 0 0, Value.none, Value.none, Value.ref 197, Value.int 0 0] }),
   (202, { cls := Value.type "tuple", data := Data.seq #[Value.int 14 0, Value.int 9 0, Value.int 4 0, Value.int 1 0, Value.int 2 0, Value.int 16 0, Value.int 10 0, Value.int 16 0, Value.int 13 0, Value.int 0 0, Value.int 7 0, Value.int 7 0, Value.int 16 0, Value.int 13 0, Value.int 16 0, Value.int 10 0, Value.int 15 0, Value.int 18 0, Value.int 5 0, Value.int 16 0, Value.int 10 0, Value.int 15 0, Value.int 13 0, Value.int 11 0, Value.int 16 0, Value.int 13 0, Value.int 5 0, Value.int 5 0, Value.int 0 0, Value.int 16 0, Value.int 10 0, Value.int 1 0, Value.int 15 0, Value.int 2 0, Value.int 0 0, Value.int 1 0] }),
   (203, { cls := Value.type "re.Pattern", data := Data.fields #[Value.str (Str.ofString "(?:\\r\\n|\\n|\\r(?!\\n))") 534, Value.int 32 573, Value.int 0 0, Value.none, Value.none, Value.ref 202, Value.int 0 0] }),
   (210, fnO 30 "cpy313.smtplib" 515 209),
   (217, fnO 32 "law_il0020_01" 584 216),
   (222, fnO 33 "law_il0020_01" 584 221),
   (227, fnO 34 "law_il0020_01" 584 226),
   (232, fnO 35 "law_il0020_01" 584 231),
   (239, fnO 36 "law_il0020_01" 584 238),
   (246, fnO 37 "law_il0020_01" 584 245),
   (253, fnO 38 "law_il0020_01" 584 252),
   (258, fnO 39 "law_il0020_01" 584 257),
   (263, fnO 40 "law_il0020_01" 584 262),
   (268, fnO 41 "law_il0020_01" 584 267)]
noncomputable def KA : List Addr := [3, 111, 125, 132, 137, 144, 151, 158, 165, 172, 179, 186, 193, 197, 198, 202, 203, 210, 217, 222, 227, 232, 239, 246, 253, 258, 263, 268]
noncomputable def codes : List (Addr × Str) := [(110, Str.ofString "fspath"), (124, Str.ofString "_get_sep"), (131, Str.ofString "join"), (136, Str.ofString "commonpath"), (143, Str.ofString "heappop"), (150, Str.ofString "heapify"), (157, Str.ofString "_heappop_max"), (164, Str.ofString "_heapify_max"), (171, Str.ofString "_siftdown"), (178, Str.ofString "_siftup"), (185, Str.ofString "_siftdown_max"), (192, Str.ofString "_siftup_max"), (209, Str.ofString "quotedata"), (216, Str.ofString "_law_names"), (221, Str.ofString "_law_paths"), (226, Str.ofString "_law_quoted"), (231, Str.ofString "_law_read"), (238, Str.ofString "_law_pairs"), (245, Str.ofString "_law_least"), (252, Str.ofString "_law_heads"), (257, Str.ofString "_law_net"), (262, Str.ofString "_law_spared"), (267, Str.ofString "law")]
noncomputable def qualAt (h : Heap) (c : Addr) : Option Str := match h.get? c with
  | some ⟨_, _, Data.fields vs, _⟩ => (match (vs[1]? : Option Value) with | some (Value.str q _) => some q | _ => none)
  | _ => none
theorem qualAt_rec {h : Heap} {c : Addr} {q : Str} (e : qualAt h c = some q) : h.CodeRec (.ref c) q := by
  unfold qualAt at e
  split at e
  · rename_i vs _ ho
    split at e
    · rename_i q' t hv
      cases e
      exact ⟨_, _, vs, t, rfl, ho, rfl, hv⟩
    · cases e
  · cases e
noncomputable def Codes (h : Heap) : Prop := ∀ p ∈ codes, h.CodeRec (.ref p.1) p.2
noncomputable def hook : Hook where
  α := List (Option Obj) × List (Option Str)
  obs s := (KA.map s.heap.get?, codes.map fun p => qualAt s.heap p.1)
  val w := ((KK w.params).map fun p => some p.2, codes.map fun p => some p.2)
  says w h := (KK w.params).In h ∧ Codes h
  of w s e := by
    obtain ⟨e1, e2⟩ := Prod.mk.inj e
    exact ⟨Frag.in_of (by rfl) e1, fun p hp => qualAt_rec (List.map_inj_left.mp e2 p hp)⟩
  keeps w h h' x k := ⟨x.1.keeps k, fun p hp => (x.2 p hp).keeps k⟩
noncomputable abbrev loose : List Str := [Str.ofString "_twin_re_1", Str.ofString "_twin_re_2"]
noncomputable abbrev rowW : RowW := PySem.Challenge.rw_il0020_01.row.toRowW
theorem chains : chainsOk view = true := by decide +kernel
end Mine
end
section
open PySem PySem.W PyProof.Rows
set_option autoImplicit false
namespace Mine
/-! a part of a heap, as a function -/
noncomputable abbrev Part := Addr → Option Obj
noncomputable def Part.on (P : Part) (h : Heap) : Prop := ∀ b o, P b = some o → h.get? b = some o
noncomputable def Part.le (P P' : Part) : Prop := ∀ b o, P b = some o → P' b = some o
noncomputable def Part.set (P : Part) (a : Addr) (o : Obj) : Part := fun b => if b = a then some o else P b
theorem Part.le_refl (P : Part) : P.le P := fun _ _ e => e
theorem Part.le_trans {P P' P'' : Part} (h : P.le P') (k : P'.le P'') : P.le P'' := fun b o e => k b o (h b o e)
theorem Part.set_self {P : Part} {a : Addr} {o : Obj} : P.set a o a = some o := if_pos rfl
theorem Part.le_set {P : Part} {a : Addr} {o : Obj} (h : P a = none) : P.le (P.set a o) := fun b o' e => by
  unfold Part.set
  split
  · rename_i q; rw [q, h] at e; cases e
  · exact e
/-- what a call starts from: the state, what it must leave as it is, what its caller knows -/
structure Cx where
  σ : Shared
  O : Part
  P₀ : Part
structure Fm (c : Cx) (P : Part) (L : Addr) (m : Str → Option Value) (M : List (Addr × Obj)) (s : Shared) : Prop where
  same : ∃ h tk, s = { c.σ with heap := h, toks := tk }
  ns : s.heap.Ns L m
  old : c.O.on s.heap
  le : c.P₀.le P
  on : P.on s.heap
  new : ∀ b o, P b = some o → c.P₀ b = some o ∨ c.O b = none
  offL : P L = none
  newL : c.O L = none
  mu : ∀ p ∈ M, s.heap.get? p.1 = some p.2
  off : ∀ p ∈ M, p.1 ≠ L ∧ P p.1 = none ∧ c.O p.1 = none
  nd : M.Pairwise fun p q => p.1 ≠ q.1
/-- what a call leaves -/
structure Ret (c : Cx) (P : Part) (s : Shared) : Prop where
  same : ∃ h tk, s = { c.σ with heap := h, toks := tk }
  old : c.O.on s.heap
  le : c.P₀.le P
  on : P.on s.heap
  new : ∀ b o, P b = some o → c.P₀ b = some o ∨ c.O b = none
section
variable {c : Cx} {P P' : Part} {L : Addr} {m : Str → Option Value} {M : List (Addr × Obj)} {s : Shared}
theorem Fm.ret (F : Fm c P L m M s) : Ret c P s := ⟨F.same, F.old, F.le, F.on, F.new⟩
theorem Fm.size_P (F : Fm c P L m M s) : P s.heap.objs.size = none := by
  cases e : P s.heap.objs.size with
  | none => rfl
  | some o => exact absurd (Heap.lt_size (F.on _ _ e)) (Nat.lt_irrefl _)
theorem Fm.size_O (F : Fm c P L m M s) : c.O s.heap.objs.size = none := by
  cases e : c.O s.heap.objs.size with
  | none => rfl
  | some o => exact absurd (Heap.lt_size (F.old _ _ e)) (Nat.lt_irrefl _)
theorem Fm.size_L (F : Fm c P L m M s) : s.heap.objs.size ≠ L := fun e => absurd F.ns.lt (e ▸ Nat.lt_irrefl _)
theorem Fm.size_M (F : Fm c P L m M s) : ∀ p ∈ M, p.1 ≠ s.heap.objs.size := fun p hp => Nat.ne_of_lt (Heap.lt_size (F.mu p hp))
/-- the heap has grown, nothing that stood has changed -/
theorem Fm.keeps (F : Fm c P L m M s) {h' : Heap} {tk : Nat} (k : ∀ b o, s.heap.get? b = some o → h'.get? b = some o) :
    Fm c P L m M { s with heap := h', toks := tk } where
  same := let ⟨_, _, e⟩ := F.same; ⟨h', tk, by rw [e]⟩
  ns := F.ns.keeps k
  old := fun b o e => k b o (F.old b o e)
  le := F.le
  on := fun b o e => k b o (F.on b o e)
  new := F.new
  offL := F.offL
  newL := F.newL
  mu := fun p hp => k _ _ (F.mu p hp)
  off := F.off
  nd := F.nd
theorem Fm.keep (F : Fm c P L m M s) {s' : Shared} (k : Keeps s s') : Fm c P L m M s' := by
  obtain ⟨h', tk, rfl, k⟩ := k
  exact F.keeps k
theorem Fm.toks (F : Fm c P L m M s) (tk : Nat) : Fm c P L m M { s with toks := tk } := F.keeps (h' := s.heap) fun _ _ e => e
theorem Fm.push (F : Fm c P L m M s) (o : Obj) : Fm c P L m M { s with heap := s.heap.push o } := F.keeps (tk := s.toks) fun _ _ e => Heap.get?_push_of_some _ e
/-- the frame's names -/
theorem Fm.set (F : Fm c P L m M s) {h' : Heap} {m' : Str → Option Value} {tk : Nat} (hn : h'.Ns L m') (hs : Heap.SameBut L s.heap h') :
    Fm c P L m' M { s with heap := h', toks := tk } where
  same := let ⟨_, _, e⟩ := F.same; ⟨h', tk, by rw [e]⟩
  ns := hn
  old := fun b o e => (hs.2 b fun q => by rw [q, F.newL] at e; cases e).trans (F.old b o e)
  le := F.le
  on := fun b o e => (hs.2 b fun q => by rw [q, F.offL] at e; cases e).trans (F.on b o e)
  new := F.new
  offL := F.offL
  newL := F.newL
  mu := fun p hp => (hs.2 p.1 (F.off p hp).1).trans (F.mu p hp)
  off := F.off
  nd := F.nd
/-- a new object that may turn -/
theorem Fm.allocM (F : Fm c P L m M s) (o : Obj) (hf : o.isFreed = false := by rfl) :
    Fm c P L m ((s.heap.objs.size, o) :: M) { s with heap := s.heap.push o } :=
  let F' := F.push o
  { F' with
    mu := fun p hp => by
      rcases List.mem_cons.mp hp with rfl | hp
      · exact Heap.get?_push_size _ hf
      · exact F'.mu p hp
    off := fun p hp => by
      rcases List.mem_cons.mp hp with rfl | hp
      · exact ⟨F.size_L, F.size_P, F.size_O⟩
      · exact F.off p hp
    nd := List.pairwise_cons.mpr ⟨fun p hp => (F.size_M p hp).symm, F.nd⟩ }
/-- the heap holds a new object at a; it may turn -/
theorem Fm.learnM (F : Fm c P L m M s) {a : Addr} {o : Obj} (ho : s.heap.get? a = some o) (hP : P a = none) (hO : c.O a = none) (hL : a ≠ L) (hM : ∀ p ∈ M, p.1 ≠ a) :
    Fm c P L m ((a, o) :: M) s :=
  { F with
    mu := fun p hp => by
      rcases List.mem_cons.mp hp with rfl | hp
      · exact ho
      · exact F.mu p hp
    off := fun p hp => by
      rcases List.mem_cons.mp hp with rfl | hp
      · exact ⟨hL, hP, hO⟩
      · exact F.off p hp
    nd := List.pairwise_cons.mpr ⟨fun p hp => (hM p hp).symm, F.nd⟩ }
/-- a new object that stays as it is -/
theorem Fm.learn (F : Fm c P L m M s) {a : Addr} {o : Obj} (ho : s.heap.get? a = some o) (hO : c.O a = none) (hL : a ≠ L) (hM : ∀ p ∈ M, p.1 ≠ a) :
    Fm c (P.set a o) L m M s :=
  { F with
    le := fun b o' e => by
      unfold Part.set
      split
      · rename_i q
        rw [q] at e
        rw [← ho, ← F.on _ _ (F.le _ _ e)]
      · exact F.le b o' e
    on := fun b o' e => by
      unfold Part.set at e
      split at e
      · rename_i q; rw [q, ho]; exact e
      · exact F.on b o' e
    new := fun b o' e => by
      unfold Part.set at e
      split at e
      · rename_i q; rw [q]; exact .inr hO
      · exact F.new b o' e
    offL := by unfold Part.set; rw [if_neg (Ne.symm hL)]; exact F.offL
    off := fun p hp => ⟨(F.off p hp).1, by unfold Part.set; rw [if_neg (hM p hp)]; exact (F.off p hp).2.1, (F.off p hp).2.2⟩ }
theorem Fm.alloc (F : Fm c P L m M s) (o : Obj) (hf : o.isFreed = false := by rfl) :
    Fm c (P.set s.heap.objs.size o) L m M { s with heap := s.heap.push o } :=
  (F.push o).learn (Heap.get?_push_size _ hf) F.size_O F.size_L F.size_M
theorem Fm.le_alloc (F : Fm c P L m M s) (o : Obj) : P.le (P.set s.heap.objs.size o) := Part.le_set F.size_P
/-- an object that might turn stays as it is from now on -/
theorem Fm.freeze {a : Addr} {o : Obj} (F : Fm c P L m ((a, o) :: M) s) : Fm c (P.set a o) L m M s :=
  let F' : Fm c P L m M s := { F with mu := fun p hp => F.mu p (.tail _ hp), off := fun p hp => F.off p (.tail _ hp), nd := (List.pairwise_cons.mp F.nd).2 }
  F'.learn (F.mu _ (.head _)) (F.off _ (.head _)).2.2 (F.off _ (.head _)).1 fun p hp => ((List.pairwise_cons.mp F.nd).1 p hp).symm
theorem Fm.le_freeze {a : Addr} {o : Obj} (F : Fm c P L m ((a, o) :: M) s) : P.le (P.set a o) := Part.le_set (F.off _ (.head _)).2.1
theorem Fm.tail {p : Addr × Obj} (F : Fm c P L m (p :: M) s) : Fm c P L m M s :=
  { F with mu := fun p hp => F.mu p (.tail _ hp), off := fun p hp => F.off p (.tail _ hp), nd := (List.pairwise_cons.mp F.nd).2 }
theorem Fm.swap {p q : Addr × Obj} (F : Fm c P L m (p :: q :: M) s) : Fm c P L m (q :: p :: M) s :=
  have hs : ∀ x ∈ q :: p :: M, x ∈ p :: q :: M := fun x hx => by
    simp only [List.mem_cons] at hx ⊢
    rcases hx with h | h | h
    · exact .inr (.inl h)
    · exact .inl h
    · exact .inr (.inr h)
  { F with
    mu := fun x hx => F.mu x (hs x hx)
    off := fun x hx => F.off x (hs x hx)
    nd := by
      have h1 := List.pairwise_cons.mp F.nd
      have h2 := List.pairwise_cons.mp h1.2
      refine List.pairwise_cons.mpr ⟨fun x hx => ?_, List.pairwise_cons.mpr ⟨fun x hx => h1.1 x (.tail _ hx), h2.2⟩⟩
      rcases List.mem_cons.mp hx with rfl | hx
      · exact (h1.1 q (.head _)).symm
      · exact h2.1 x hx }
/-- the first object of M turns -/
theorem Fm.upd0 {a : Addr} {o o' : Obj} (F : Fm c P L m ((a, o) :: M) s) {h' : Heap} {tk : Nat} (ho : h'.get? a = some o') (hs : Heap.ExtBut a s.heap h') :
    Fm c P L m ((a, o') :: M) { s with heap := h', toks := tk } where
  same := let ⟨_, _, e⟩ := F.same; ⟨h', tk, by rw [e]⟩
  ns := F.ns.extBut hs (F.off _ (.head _)).1.symm
  old := fun b x e => hs b x (fun q => by rw [q, (F.off _ (.head _)).2.2] at e; cases e) (F.old b x e)
  le := F.le
  on := fun b x e => hs b x (fun q => by rw [q, (F.off _ (.head _)).2.1] at e; cases e) (F.on b x e)
  new := F.new
  offL := F.offL
  newL := F.newL
  mu := fun p hp => by
    rcases List.mem_cons.mp hp with rfl | hp
    · exact ho
    · exact hs _ _ ((List.pairwise_cons.mp F.nd).1 p hp).symm (F.mu p (.tail _ hp))
  off := fun p hp => by
    rcases List.mem_cons.mp hp with rfl | hp
    · exact F.off (a, o) (.head _)
    · exact F.off p (.tail _ hp)
  nd := List.pairwise_cons.mpr ⟨fun p hp => (List.pairwise_cons.mp F.nd).1 p hp, (List.pairwise_cons.mp F.nd).2⟩
theorem Fm.upd1 {p : Addr × Obj} {a : Addr} {o o' : Obj} (F : Fm c P L m (p :: (a, o) :: M) s) {h' : Heap} {tk : Nat} (ho : h'.get? a = some o') (hs : Heap.ExtBut a s.heap h') :
    Fm c P L m (p :: (a, o') :: M) { s with heap := h', toks := tk } := (F.swap.upd0 ho hs).swap
theorem mu0 {a : Addr} {o : Obj} (F : Fm c P L m ((a, o) :: M) s) : s.heap.get? a = some o := F.mu _ (.head _)
theorem mu1 {p : Addr × Obj} {a : Addr} {o : Obj} (F : Fm c P L m (p :: (a, o) :: M) s) : s.heap.get? a = some o := F.mu _ (.tail _ (.head _))
theorem mu2 {p q : Addr × Obj} {a : Addr} {o : Obj} (F : Fm c P L m (p :: q :: (a, o) :: M) s) : s.heap.get? a = some o := F.mu _ (.tail _ (.tail _ (.head _)))
/-- behind a call that leaves everything as it was -/
theorem Fm.call (F : Fm c P L m M s) {s' : Shared} (R : Ret ⟨s, s.heap.get?, P⟩ P' s') : Fm c P' L m M s' where
  same := by
    obtain ⟨h, tk, e⟩ := F.same
    obtain ⟨h', tk', e'⟩ := R.same
    exact ⟨h', tk', by rw [e']; dsimp only; rw [e]⟩
  ns := F.ns.keeps R.old
  old := fun b o e => R.old b o (F.old b o e)
  le := Part.le_trans F.le R.le
  on := R.on
  new := fun b o e => (R.new b o e).elim (fun h => F.new b o h) fun h => .inr (by
    cases q : c.O b with
    | none => rfl
    | some o' => have := F.old b o' q; rw [show s.heap.get? b = none from h] at this; cases this)
  offL := by
    cases q : P' L with
    | none => rfl
    | some o =>
      rcases R.new L o q with h | h
      · have h9 : P L = some o := h
        rw [F.offL] at h9; cases h9
      · obtain ⟨o', _, _, ho', _⟩ := F.ns; rw [show s.heap.get? L = none from h] at ho'; cases ho'
  newL := F.newL
  mu := fun p hp => R.old _ _ (F.mu p hp)
  off := fun p hp => by
    refine ⟨(F.off p hp).1, ?_, (F.off p hp).2.2⟩
    cases q : P' p.1 with
    | none => rfl
    | some o =>
      rcases R.new p.1 o q with h | h
      · have := (F.off p hp).2.1; rw [show P p.1 = some o from h] at this; cases this
      · have := F.mu p hp; rw [show s.heap.get? p.1 = none from h] at this; cases this
  nd := F.nd
/-- a heap's part without one address -/
noncomputable def hid (h : Heap) (a : Addr) : Part := fun b => if b = a then none else h.get? b
theorem hid_self {h : Heap} {a : Addr} : hid h a a = none := if_pos rfl
theorem hid_ne {h : Heap} {a b : Addr} (hb : b ≠ a) : hid h a b = h.get? b := if_neg hb
theorem hid_on (h : Heap) (a : Addr) : (hid h a).on h := fun b o e => by
  unfold hid at e
  split at e
  · cases e
  · exact e
/-- behind a call that may turn the first object of M -/
theorem Fm.callM {a : Addr} {o o' : Obj} (F : Fm c P L m ((a, o) :: M) s) {s' : Shared} (R : Ret ⟨s, hid s.heap a, P⟩ P' s') (ho : s'.heap.get? a = some o') (hPa : P' a = none) : Fm c P' L m ((a, o') :: M) s' where
  same := by
    obtain ⟨h, tk, e⟩ := F.same
    obtain ⟨h', tk', e'⟩ := R.same
    exact ⟨h', tk', by rw [e']; dsimp only; rw [e]⟩
  ns := F.ns.extBut (fun b x hb e => R.old b x ((hid_ne hb).trans e)) (F.off _ (.head _)).1.symm
  old := fun b x e => R.old b x ((hid_ne fun q => by rw [q, (F.off _ (.head _)).2.2] at e; cases e).trans (F.old b x e))
  le := Part.le_trans F.le R.le
  on := R.on
  new := fun b x e => (R.new b x e).elim (fun h => F.new b x h) fun h => .inr (by
    cases q : c.O b with
    | none => rfl
    | some x' =>
      have := F.old b x' q
      by_cases hb : b = a
      · rw [hb, (F.off _ (.head _)).2.2] at q; cases q
      · have h9 : hid s.heap a b = none := h
        rw [hid_ne hb] at h9; rw [h9] at this; cases this)
  offL := by
    cases q : P' L with
    | none => rfl
    | some x =>
      rcases R.new L x q with h | h
      · have := F.offL; rw [show P L = some x from h] at this; cases this
      · obtain ⟨x', _, _, ho', _⟩ := F.ns
        have h9 : hid s.heap a L = none := h
        rw [hid_ne (F.off _ (.head _)).1.symm] at h9; rw [h9] at ho'; cases ho'
  newL := F.newL
  mu := fun p hp => by
    rcases List.mem_cons.mp hp with rfl | hp
    · exact ho
    · exact R.old _ _ ((hid_ne ((List.pairwise_cons.mp F.nd).1 p hp).symm).trans (F.mu p (.tail _ hp)))
  off := fun p hp => by
    rcases List.mem_cons.mp hp with rfl | hp
    · exact ⟨(F.off _ (.head _)).1, hPa, (F.off _ (.head _)).2.2⟩
    · refine ⟨(F.off p (.tail _ hp)).1, ?_, (F.off p (.tail _ hp)).2.2⟩
      cases q : P' p.1 with
      | none => rfl
      | some x =>
        rcases R.new p.1 x q with h | h
        · have := (F.off p (.tail _ hp)).2.1; rw [show P p.1 = some x from h] at this; cases this
        · have h1 := F.mu p (.tail _ hp)
          have h9 : hid s.heap a p.1 = none := h
          rw [hid_ne ((List.pairwise_cons.mp F.nd).1 p hp).symm] at h9; rw [h9] at h1; cases h1
  nd := List.pairwise_cons.mpr ⟨fun p hp => (List.pairwise_cons.mp F.nd).1 p hp, (List.pairwise_cons.mp F.nd).2⟩
end
end Mine
end
section
open PySem PySem.W PyProof.Rows
set_option autoImplicit false
namespace Mine
/-- what stands below every call: the text's objects, the built-ins' names -/
structure Bs (w : World) (mb : Str → Option Value) (B : Part) : Prop where
  k : ∀ a o, (KK w.params).lookup a = some o → B a = some o
  b : ∀ h : Heap, B.on h → h.Ns builtinsNs mb
  lim : ∀ h : Heap, B.on h → h.NoLimit
  boot : ∀ x : Str, x ≠ "__name__" → mb x = bootBuiltins x
  code : ∀ h : Heap, B.on h → Codes h
theorem Bs.mono {w : World} {mb : Str → Option Value} {B B' : Part} (X : Bs w mb B) (h : B.le B') : Bs w mb B' :=
  ⟨fun a o e => h _ _ (X.k a o e), fun g hg => X.b g fun b o e => hg b o (h b o e), fun g hg => X.lim g fun b o e => hg b o (h b o e), X.boot, fun g hg => X.code g fun b o e => hg b o (h b o e)⟩
noncomputable def codeK (cd : Value) (q : Str) : Bool := match cd with
  | .ref c => codes.any fun p => p.1 == c && p.2 == q
  | _ => false
theorem codeK_rec {h : Heap} {cd : Value} {q : Str} (X : Codes h) (e : codeK cd q = true) : h.CodeRec cd q := by
  unfold codeK at e
  split at e
  · obtain ⟨p, hp, e⟩ := List.any_eq_true.mp e
    simp only [Bool.and_eq_true, beq_iff_eq] at e
    have := X p hp
    rw [e.1, e.2] at this; exact this
  · cases e
/-- the names of the text's own top -/
noncomputable def mgK (w : World) : Str → Option Value := match (KK w.params).lookup mainGlobals with
  | some ⟨_, _, .dict es _, _⟩ => nsFind es
  | _ => fun _ => none
theorem StrKeys.of_all {es : Array DictEntry} (h : es.toList.all (fun e => match e.key with | .str .. => true | _ => false) = true) : StrKeys es := fun e he => by
  have := List.all_eq_true.mp h e (Array.mem_toList_iff.mpr he)
  cases hk : e.key <;> rw [hk] at this <;> first | exact ⟨_, _, rfl⟩ | cases this
theorem Bs.g {w : World} {mb : Str → Option Value} {B : Part} (X : Bs w mb B) {h : Heap} (hB : B.on h) : h.Ns mainGlobals (mgK w) := by
  have e : ∃ c d es ep sl, (KK w.params).lookup mainGlobals = some ⟨c, d, .dict es ep, sl⟩ ∧ es.toList.all (fun e => match e.key with | .str .. => true | _ => false) = true :=
    ⟨_, _, _, _, _, rfl, rfl⟩
  obtain ⟨c, d, es, ep, sl, e, hs⟩ := e
  refine ⟨_, es, ep, hB _ _ (X.k _ _ e), rfl, StrKeys.of_all hs, fun name => ?_⟩
  unfold mgK
  rw [e]
/-- the top's names that are loaded, and the built-ins -/
noncomputable abbrev mgTab : List (Str × Value) := [(Str.ofString "_siftup", .ref 179), (Str.ofString "_siftdown", .ref 172), (Str.ofString "heappop", .ref 144), (Str.ofString "heapify", .ref 151), (Str.ofString "_siftup_max", .ref 193), (Str.ofString "_siftdown_max", .ref 186), (Str.ofString "_heappop_max", .ref 158), (Str.ofString "_heapify_max", .ref 165), (Str.ofString "fspath", .ref 111), (Str.ofString "_get_sep", .ref 125), (Str.ofString "join", .ref 132), (Str.ofString "commonpath", .ref 137), (Str.ofString "_twin_re_1", .ref 198), (Str.ofString "_twin_re_2", .ref 203), (Str.ofString "quotedata", .ref 210), (Str.ofString "_law_names", .ref 217), (Str.ofString "_law_paths", .ref 222), (Str.ofString "_law_quoted", .ref 227), (Str.ofString "_law_read", .ref 232), (Str.ofString "_law_pairs", .ref 239), (Str.ofString "_law_least", .ref 246), (Str.ofString "_law_heads", .ref 253), (Str.ofString "_law_net", .ref 258), (Str.ofString "_law_spared", .ref 263)]
noncomputable abbrev biTab : List (Str × Value) := [(Str.ofString "range", .type "range"), (Str.ofString "len", .builtin "len"), (Str.ofString "min", .builtin "min"), (Str.ofString "sum", .builtin "sum"), (Str.ofString "list", .type "list"), (Str.ofString "abs", .builtin "abs"), (Str.ofString "chr", .builtin "chr"), (Str.ofString "max", .builtin "max"), (Str.ofString "sorted", .builtin "sorted"), (Str.ofString "enumerate", .type "enumerate"), (Str.ofString "map", .type "map"), (Str.ofString "tuple", .type "tuple"), (Str.ofString "isinstance", .builtin "isinstance"), (Str.ofString "issubclass", .builtin "issubclass"), (Str.ofString "type", .type "type"), (Str.ofString "str", .type "str"), (Str.ofString "bytes", .type "bytes"), (Str.ofString "reversed", .type "reversed")]
theorem mgs (w : World) : mgTab.map (fun p => mgK w p.1) = mgTab.map fun p => some p.2 := by kernel_rfl
theorem bis (w : World) : biTab.map (fun p => (mgK w p.1, bootBuiltins p.1)) = biTab.map fun p => (none, some p.2) := by kernel_rfl
theorem mg_of (w : World) {x : Str} {v : Value} (h : List.Mem (x, v) mgTab) : mgK w x = some v := List.map_inj_left.mp (mgs w) _ h
theorem bi_of (w : World) {x : Str} {v : Value} (h : List.Mem (x, v) biTab) : mgK w x = none ∧ bootBuiltins x = some v := Prod.mk.inj (List.map_inj_left.mp (bis w) _ h)
theorem mg_law (w : World) : mgK w (Str.ofString "law") = some (.ref 268) := by kernel_rfl
/-- room for the calls to come -/
structure Rm (A : Around) (n : Nat) : Prop where
  handled : A.handled = none
  depth : A.depth + n < recursionLimit
  units : A.units + 10 * n < cLine
theorem Rm.mono {A : Around} {n k : Nat} (h : Rm A n) (hk : k ≤ n) : Rm A k := ⟨h.handled, by have := h.depth; lia, by have := h.units; lia⟩
theorem Rm.deeper {A : Around} {n : Nat} {env : Env} (h : Rm A (n + 1)) : Rm (A.deeper env) n :=
  ⟨h.handled, by have := h.depth; show A.depth + 1 + n < _; lia, by have := h.units; show A.units + 3 + 10 * n < _; lia⟩
theorem Rm.in1 {A : Around} {n : Nat} (h : Rm A (n + 1)) : Rm A.in1 n :=
  ⟨h.handled, by have := h.depth; show A.depth + n < _; lia, by have := h.units; show A.units + 1 + 10 * n < _; lia⟩
theorem Rm.lt {A : Around} {n : Nat} (h : Rm A n) : A.depth < recursionLimit := by have := h.depth; lia
theorem Rm.cl {A : Around} {n : Nat} (h : Rm A n) : A.units < cLine := by have := h.units; lia
section
variable {prog : Program} {w : World} {mb : Str → Option Value} {A : Around} {E : Value → Shared → Prop} {s : Shared} {env : Env}
variable {c : Cx} {P : Part} {m : Str → Option Value} {M : List (Addr × Obj)}
theorem ldL {L : Addr} {x : Str} {pos : Pos} {v : Value} {Q : Value → Shared → Prop} (F : Fm c P L m M s) (hL : env.locals = L) (hk : env.scope.kind = .function) (hl : env.kindOf x = some .local)
    (hv : m x = some v) (h : Q v s) (hd : (x == ("__debug__" : Str)) = false := by rfl) : wpAny (model prog w) A (eval (.Name x pos) env) Q E s := by
  subst hL
  exact wpAny_Name (wpAny_loadName_local hk hl F.ns hv h) hd
theorem ldLn {L : Addr} {x : Str} {v : Value} {Q : Value → Shared → Prop} (F : Fm c P L m M s) (hL : env.locals = L) (hk : env.scope.kind = .function) (hl : env.kindOf x = some .local)
    (hv : m x = some v) (h : Q v s) : wpAny (model prog w) A (loadName env x) Q E s := by
  subst hL
  exact wpAny_loadName_local hk hl F.ns hv h
theorem ldG {L : Addr} {x : Str} {pos : Pos} {v : Value} {Q : Value → Shared → Prop} (X : Bs w mb c.P₀) (F : Fm c P L m M s) (hk : env.scope.kind = .function) (hl : env.kindOf x = some .globalImplicit)
    (hg : env.globals = mainGlobals) (hv : mgK w x = some v) (h : Q v s) (hd : (x == ("__debug__" : Str)) = false := by rfl) : wpAny (model prog w) A (eval (.Name x pos) env) Q E s :=
  Calls.Name_function_global hk hl (Calls.loadGlobal_global (hg ▸ X.g fun b o e => F.on b o (F.le b o e)) hv h) hd
theorem ldB {L : Addr} {x : Str} {pos : Pos} {v : Value} {Q : Value → Shared → Prop} (X : Bs w mb c.P₀) (F : Fm c P L m M s) (hk : env.scope.kind = .function) (hl : env.kindOf x = some .globalImplicit)
    (hg : env.globals = mainGlobals) (hb : env.builtins = builtinsNs) (hn : mgK w x = none) (hv : bootBuiltins x = some v) (h : Q v s) (hd : (x == ("__debug__" : Str)) = false := by rfl)
    (hx : (x == ("__name__" : Str)) = false := by rfl) : wpAny (model prog w) A (eval (.Name x pos) env) Q E s :=
  have on : c.P₀.on s.heap := fun b o e => F.on b o (F.le b o e)
  Calls.Name_function_global hk hl (Calls.loadGlobal_builtin (hg ▸ X.g on) hn (hb ▸ X.b _ on) ((X.boot x fun e => by rw [e] at hx; simp at hx).trans hv) h) hd
theorem ldG' {L : Addr} {x : Str} {pos : Pos} {v : Value} {Q : Value → Shared → Prop} (F : Fm c P L m M s) (X : Bs w mb c.P₀) (hk : env.scope.kind = .function) (hl : env.kindOf x = some .globalImplicit)
    (hg : env.globals = mainGlobals) (hv : List.Mem (x, v) mgTab) (hd : (x == ("__debug__" : Str)) = false) (h : Q v s) : wpAny (model prog w) A (eval (.Name x pos) env) Q E s :=
  ldG X F hk hl hg (mg_of w hv) h hd
theorem ldB' {L : Addr} {x : Str} {pos : Pos} {v : Value} {Q : Value → Shared → Prop} (F : Fm c P L m M s) (X : Bs w mb c.P₀) (hk : env.scope.kind = .function) (hl : env.kindOf x = some .globalImplicit)
    (hg : env.globals = mainGlobals) (hb : env.builtins = builtinsNs) (hv : List.Mem (x, v) biTab) (hd : (x == ("__debug__" : Str)) = false) (hx : (x == ("__name__" : Str)) = false) (h : Q v s) :
    wpAny (model prog w) A (eval (.Name x pos) env) Q E s :=
  ldB X F hk hl hg hb (bi_of w hv).1 (bi_of w hv).2 h hd hx
theorem ldC {x : Str} {pos : Pos} {a : Addr} {v : Value} {Q : Value → Shared → Prop} (hk : env.scope.kind = .function) (hl : env.kindOf x = some .cell) (hc : env.cells.lookup x = some a)
    (hv : s.heap.IsCell a (some v)) (h : Q v s) (hd : (x == ("__debug__" : Str)) = false := by rfl) : wpAny (model prog w) A (eval (.Name x pos) env) Q E s :=
  wpAny_Name (wpAny_loadName_cell hk hl hc hv h) hd
theorem stL {L : Addr} {x : Str} {v : Value} {Q : Unit → Shared → Prop} (F : Fm c P L m M s) (hL : env.locals = L) (hk : env.scope.kind = .function) (hl : env.kindOf x = some .local)
    (h : ∀ s', Fm c P L (fun y => if y = x then some v else m y) M s' → Q () s') : wpAny (model prog w) A (storeName env x v) Q E s := by
  subst hL
  exact wpAny_storeName_local hl F.ns (fun h' hn hs => h _ (F.set hn hs)) (by rw [hk]; rfl)
/-- entering a def without cells -/
theorem enter {a : Addr} {fd : FuncData} {body : List Stmt} {vals : List Value} {binds : List (Str × Value)} {O P : Part} {Q : Value → Shared → Prop}
    (X : Bs w mb P) (hO : O.on s.heap) (hP : P.on s.heap) (hroom : A.depth < recursionLimit) {oc : Value} {od : Option Addr} {osl : Array (Option Value)} (ho : (KK w.params).lookup a = some ⟨oc, od, .func fd, osl⟩)
    (hcd : codeK fd.code fd.qualname = true) (hbody : fd.body = .stmts body) (hbind : bindArgs fd ⟨vals, []⟩ = pure binds)
    (hcell : (fd.scope.names.all fun x => x.2 != .cell) = true) (hloc : (binds.all fun x => fd.scope.names.lookup x.1 == some .local) = true)
    (hco : fd.scope.isCoroutine = false) (hgen : fd.scope.isGenerator = false) (hk : fd.scope.kind = .function)
    (h : ∀ L s₁ E', Fm ⟨s, O, P⟩ P L (fun x => binds.reverse.lookup x) [] s₁ →
      let env := callEnv fd L a
      wpAny (model prog w) (A.deeper env) (execs body env) (fun f s' => Q (match f with | .ret v => v | _ => .none) s') E' s₁) :
    wpAny (model prog w) A (call (.ref a) vals) Q E s := by
  have hk0 := hP _ _ (X.k _ _ ho)
  refine wpAny_call (codeAny_call_def (fd := fd) hroom hk0 rfl (X.lim _ hP) (codeK_rec (X.code _ hP) hcd) hbody (BindsTo.of_eq hbind)
    (fun x hx => by have := List.all_eq_true.mp hcell x hx; simpa using this) (fun x hx => by have := List.all_eq_true.mp hloc x hx; simpa using this) (fun h₀ hns hk₀ => ?_) hco hgen hk)
  have none_of : ∀ {R : Part}, R.on s.heap → R s.heap.objs.size = none := fun {R} hR => by
    cases e : R s.heap.objs.size with
    | none => rfl
    | some o => exact absurd (Heap.lt_size (hR _ _ e)) (Nat.lt_irrefl _)
  exact h s.heap.objs.size _ _ ⟨⟨_, _, rfl⟩, hns, fun b o e => hk₀ b o (hO b o e), Part.le_refl _, fun b o e => hk₀ b o (hP b o e), fun b o e => .inl e, none_of hP, none_of hO,
    (fun p hp => nomatch hp), (fun p hp => nomatch hp), List.Pairwise.nil⟩
end
end Mine
end
section
open PySem PySem.W PyProof.Rows
set_option autoImplicit false
namespace Mine
/-! plain data over a part -/
noncomputable abbrev lst (vs : Array Value) (n : Nat) : Obj := { cls := .type "list", data := .seq vs n }
noncomputable abbrev tpl (vs : Array Value) (n : Nat) : Obj := { cls := .type "tuple", data := .seq vs n }
mutual
inductive Rep (P : Part) : Value → PyData → Prop
  | none : Rep P .none .none
  | bool (b : Bool) : Rep P (.bool b) (.bool b)
  | int (i : Int) (t : Tok) : Rep P (.int i t) (.int i)
  | str (x : Str) (t : Tok) : Rep P (.str x t) (.str x)
  | list {a : Addr} {vs : List Value} {n : Nat} {ds : List PyData} : P a = some (lst vs.toArray n) → RepAll P vs ds → Rep P (.ref a) (.list ds)
  | tuple {a : Addr} {vs : List Value} {n : Nat} {ds : List PyData} : P a = some (tpl vs.toArray n) → RepAll P vs ds → Rep P (.ref a) (.tuple ds)
inductive RepAll (P : Part) : List Value → List PyData → Prop
  | nil : RepAll P [] []
  | cons {v : Value} {vs : List Value} {d : PyData} {ds : List PyData} : Rep P v d → RepAll P vs ds → RepAll P (v :: vs) (d :: ds)
end
mutual
theorem Rep.mono {P P' : Part} (h : P.le P') : ∀ {v : Value} {d : PyData}, Rep P v d → Rep P' v d
  | _, _, .none => .none
  | _, _, .bool b => .bool b
  | _, _, .int i t => .int i t
  | _, _, .str x t => .str x t
  | _, _, .list e r => .list (h _ _ e) (RepAll.mono h r)
  | _, _, .tuple e r => .tuple (h _ _ e) (RepAll.mono h r)
theorem RepAll.mono {P P' : Part} (h : P.le P') : ∀ {vs : List Value} {ds : List PyData}, RepAll P vs ds → RepAll P' vs ds
  | _, _, .nil => .nil
  | _, _, .cons e r => .cons (Rep.mono h e) (RepAll.mono h r)
end
mutual
theorem Rep.reads {P : Part} {h : Heap} (hP : P.on h) : ∀ {v : Value} {d : PyData}, Rep P v d → ∃ as, Reads h v d as
  | _, _, .none => ⟨_, .none⟩
  | _, _, .bool b => ⟨_, .bool b⟩
  | _, _, .int i t => ⟨_, .int i t⟩
  | _, _, .str x t => ⟨_, .str x t⟩
  | _, _, .list e r => let ⟨_, x⟩ := RepAll.reads hP r; ⟨_, .list (hP _ _ e) rfl rfl x⟩
  | _, _, .tuple e r => let ⟨_, x⟩ := RepAll.reads hP r; ⟨_, .tuple (hP _ _ e) rfl rfl x⟩
theorem RepAll.reads {P : Part} {h : Heap} (hP : P.on h) : ∀ {vs : List Value} {ds : List PyData}, RepAll P vs ds → ∃ as, ReadsAll h vs ds as
  | _, _, .nil => ⟨_, .nil⟩
  | _, _, .cons e r => let ⟨_, x⟩ := Rep.reads hP e; let ⟨_, y⟩ := RepAll.reads hP r; ⟨_, .cons x y⟩
end
section
variable {P : Part} {vs ws : List Value} {ds es : List PyData} {v : Value} {d : PyData}
theorem RepAll.length (h : RepAll P vs ds) : vs.length = ds.length := by
  induction vs generalizing ds with
  | nil => cases h; rfl
  | cons v vs ih => cases h with | cons _ r => rw [List.length_cons, List.length_cons, ih r]
theorem RepAll.append (h : RepAll P vs ds) (k : RepAll P ws es) : RepAll P (vs ++ ws) (ds ++ es) := by
  induction vs generalizing ds with
  | nil => cases h; exact k
  | cons v vs ih => cases h with | cons h r => exact .cons h (ih r)
theorem RepAll.one (h : Rep P v d) : RepAll P [v] [d] := .cons h .nil
theorem RepAll.get (h : RepAll P vs ds) {i : Nat} {d : PyData} (hi : ds[i]? = some d) : ∃ v, vs[i]? = some v ∧ Rep P v d := by
  induction vs generalizing ds i with
  | nil => cases h; simp at hi
  | cons v vs ih =>
    cases h with
    | cons h r =>
      cases i with
      | zero => simp at hi; subst hi; exact ⟨v, rfl, h⟩
      | succ i => exact ih r (by simpa using hi)
theorem RepAll.getV (h : RepAll P vs ds) {i : Nat} {v : Value} (hi : vs[i]? = some v) : ∃ d, ds[i]? = some d ∧ Rep P v d := by
  induction vs generalizing ds i with
  | nil => simp at hi
  | cons u vs ih =>
    cases h with
    | cons h r =>
      cases i with
      | zero => simp at hi; subst hi; exact ⟨_, rfl, h⟩
      | succ i => exact ih r (by simpa using hi)
theorem RepAll.take (h : RepAll P vs ds) (k : Nat) : RepAll P (vs.take k) (ds.take k) := by
  induction vs generalizing ds k with
  | nil => cases h; simp; exact .nil
  | cons v vs ih =>
    cases h with
    | cons h r =>
      cases k with
      | zero => exact .nil
      | succ k => exact .cons h (ih r k)
theorem RepAll.drop (h : RepAll P vs ds) (k : Nat) : RepAll P (vs.drop k) (ds.drop k) := by
  induction vs generalizing ds k with
  | nil => cases h; simp; exact .nil
  | cons v vs ih =>
    cases h with
    | cons h r =>
      cases k with
      | zero => exact .cons h r
      | succ k => exact ih r k
theorem RepAll.set (h : RepAll P vs ds) {i : Nat} (hv : Rep P v d) : RepAll P (vs.set i v) (ds.set i d) := by
  induction vs generalizing ds i with
  | nil => cases h; exact .nil
  | cons u vs ih =>
    cases h with
    | cons h r =>
      cases i with
      | zero => exact .cons hv r
      | succ i => exact .cons h (ih r)
theorem RepAll.reverse (h : RepAll P vs ds) : RepAll P vs.reverse ds.reverse := by
  induction vs generalizing ds with
  | nil => cases h; exact .nil
  | cons v vs ih => cases h with | cons h r => rw [List.reverse_cons, List.reverse_cons]; exact (ih r).append (.one h)
theorem Rep.list_inv {v : Value} (h : Rep P v (.list ds)) : ∃ a vs n, v = .ref a ∧ P a = some (lst vs.toArray n) ∧ RepAll P vs ds := by
  cases h with | list e r => exact ⟨_, _, _, rfl, e, r⟩
theorem Rep.tuple_inv {v : Value} (h : Rep P v (.tuple ds)) : ∃ a vs n, v = .ref a ∧ P a = some (tpl vs.toArray n) ∧ RepAll P vs ds := by
  cases h with | tuple e r => exact ⟨_, _, _, rfl, e, r⟩
theorem Rep.str_inv {v : Value} {x : Str} (h : Rep P v (.str x)) : ∃ t, v = .str x t := by cases h; exact ⟨_, rfl⟩
theorem Rep.int_inv {v : Value} {i : Int} (h : Rep P v (.int i)) : ∃ t, v = .int i t := by cases h; exact ⟨_, rfl⟩
theorem RepAll.strs (xs : List Str) (h : RepAll P vs (xs.map .str)) : ∃ l : List (Str × Tok), vs = strValues l ∧ l.map (·.1) = xs := by
  induction vs generalizing xs with
  | nil => cases xs with
    | nil => exact ⟨[], rfl, rfl⟩
    | cons x xs => cases h
  | cons v vs ih =>
    cases xs with
    | nil => cases h
    | cons x xs =>
      cases h with
      | cons h r =>
        obtain ⟨t, rfl⟩ := h.str_inv
        obtain ⟨l, rfl, e⟩ := ih xs r
        exact ⟨(x, t) :: l, rfl, by rw [List.map_cons, e]⟩
theorem RepAll.ofStrs (l : List (Str × Tok)) : RepAll P (strValues l) ((l.map (·.1)).map .str) := by
  induction l with
  | nil => exact .nil
  | cons p l ih => exact .cons (.str _ _) ih
end
/-- a turn of a loop, done -/
inductive TnI (c : Cx) (P' : Part) (L I : Addr) (oI : Obj) (J : Nat → Part → (Str → Option Value) → List (Addr × Obj) → Prop) (i : Nat) (s₃ : Shared) : Prop
  | mk : ∀ P'' m'' M'', P'.le P'' → Fm c P'' L m'' ((I, oI) :: M'') s₃ → J (i + 1) P'' m'' M'' → TnI c P' L I oI J i s₃
noncomputable abbrev Tn (c : Cx) (P' : Part) (L I : Addr) (oI : Obj) (J : Nat → Part → (Str → Option Value) → List (Addr × Obj) → Prop) (i : Nat) (R : Result → Shared → Prop) : Flow → Shared → Prop := fun f s₃ => match f with
  | .next | .cont => TnI c P' L I oI J i s₃
  | .brk => R (.ok .next) s₃
  | .ret v => R (.ok (.ret v)) s₃
/-- a for over something that the library's Walks knows -/
inductive FlI (c : Cx) (P : Part) (L I : Addr) (n : Nat) (St : Nat → Heap → Prop) (J : Nat → Part → (Str → Option Value) → List (Addr × Obj) → Prop) (k : Nat) (s' : Shared) : Prop
  | mk : ∀ i P' m' M' oI', P.le P' → J i P' m' M' → Fm c P' L m' ((I, oI') :: M') s' → St i s'.heap → i ≤ n → k = n + 1 - i → FlI c P L I n St J k s'
theorem loop_for {prog : Program} {w : World} {A : Around} {s : Shared} {env : Env} {c : Cx} {P : Part} {L : Addr} {m : Str → Option Value} {M : List (Addr × Obj)} {R : Result → Shared → Prop} {target : Expr} {body : List Stmt}
    {I : Addr} {oI : Obj} {fp : List Addr} {n : Nat} {Pv : Nat → Value → Prop} {St : Nat → Heap → Prop}
    (W : Walks prog w A I fp [I] n Pv St) (hI : ∀ i h, St i h → ∃ o, h.get? I = some o) (hfp : ∀ b ∈ fp, b = I ∨ ∃ o, P b = some o)
    (J : Nat → Part → (Str → Option Value) → List (Addr × Obj) → Prop)
    (F : Fm c P L m ((I, oI) :: M) s) (hst : St 0 s.heap) (hJ : J 0 P m M)
    (turn : ∀ i v P' m' M' oI' s' E', i < n → Pv i v → P.le P' → J i P' m' M' → Fm c P' L m' ((I, oI') :: M') s' →
      wpAny (model prog w) A (letOwnedTupleGo target (.ref I) v) (fun _ s₁ => wpAny (model prog w) A (assign target env v) (fun _ s₂ =>
        wpAny (model prog w) A (execs body env) (Tn c P' L I oI' J i R) E' s₂) E' s₁) E' s')
    (done : ∀ P' m' M' s', P.le P' → J n P' m' M' → Fm c P' L m' M' s' → R (.ok .next) s') :
    codeAny (model prog w) A (.forLoop target (.ref I) body [] env) R s := by
  refine codeAny_forLoop_any (FlI c P L I n St J) ?_ (n + 1)
    ⟨0, P, m, M, oI, Part.le_refl _, hJ, F, hst, Nat.zero_le _, rfl⟩
  rintro k s' ⟨i, P', m', M', oI', hle, hJi, F', hsti, hi, rfl⟩
  by_cases hlt : i < n
  · refine W.item i _ _ _ hlt hsti fun v h' tk hPv hst' hk => ?_
    obtain ⟨o', ho'⟩ := hI _ _ hst'
    have F₁ : Fm c P' L m' ((I, o') :: M') { s' with heap := h', toks := tk } := F'.upd0 ho' fun b o hb e => hk b o (by simpa using hb) e
    refine wpAny_mono (turn i v P' m' M' o' _ _ hlt hPv hle hJi F₁) (fun _ s₁ h₁ => wpAny_mono h₁ (fun _ s₂ h₂ => wpAny_mono h₂ (fun f s₃ h₃ => ?_) fun _ _ e => e) fun _ _ e => e) fun _ _ e => e
    have next : TnI c P' L I o' J i s₃ →
        ∃ m₁, m₁ < n + 1 - i ∧ FlI c P L I n St J m₁ s₃ := by
      rintro ⟨P'', m'', M'', hle'', F'', hJ''⟩
      refine ⟨n + 1 - (i + 1), by omega, i + 1, P'', m'', M'', o', Part.le_trans hle hle'', hJ'', F'', ?_, hlt, rfl⟩
      refine W.frame _ _ _ hst' fun b hb o e => ?_
      rcases hfp b hb with rfl | ⟨o₂, h₂⟩
      · rw [ho'] at e; cases e
        exact F''.mu _ (.head _)
      · have h3 := F₁.on b o₂ (hle _ _ h₂)
        have h4 : h'.get? b = some o₂ := h3
        rw [h4] at e; cases e
        exact F''.on b _ (hle'' _ _ (hle _ _ h₂))
    cases f with
    | next => exact next h₃
    | cont => exact next h₃
    | brk => exact h₃
    | ret v => exact h₃
  · have hin : i = n := by omega
    subst hin
    refine W.done _ _ _ hsti fun h' tk hk => wpAny_execs_nil ?_
    refine done P' m' M' _ hle hJi ?_
    have F₂ := F'.tail
    have hoff := F'.off _ (.head _)
    exact { F₂ with
      same := let ⟨_, _, e⟩ := F₂.same; ⟨h', tk, by rw [e]⟩
      ns := F₂.ns.at' fun o e => hk _ _ (by simpa using hoff.1.symm) e
      old := fun b o e => hk b o (by intro hb; rw [List.mem_singleton.mp hb] at e; have := hoff.2.2; rw [this] at e; cases e) (F₂.old b o e)
      on := fun b o e => hk b o (by intro hb; rw [List.mem_singleton.mp hb] at e; have := hoff.2.1; rw [this] at e; cases e) (F₂.on b o e)
      mu := fun p hp => hk _ _ (by intro hb; exact (List.pairwise_cons.mp F'.nd).1 p hp (List.mem_singleton.mp hb).symm) (F₂.mu p hp) }
end Mine
end
section
open PySem PySem.W PyProof.Rows
set_option autoImplicit false
set_option linter.unusedVariables false
namespace Mine
theorem lst_free {vs : Array Value} {n : Nat} : (lst vs n).isFreed = false := rfl
theorem sl_of {n : Nat} (h : n ≤ 10000) : n ≤ sizeLine := by
  have e : sizeLine = 16777216 := by decide
  lia
/-- what is to hold behind a block: the statements that follow, or the end that the block came to -/
noncomputable abbrev Nx (prog : Program) (w : World) (A : Around) (env : Env) (rest : List Stmt) (Q : Flow → Shared → Prop) (E : Value → Shared → Prop) : Flow → Shared → Prop := fun f s' => match f with
  | .next => wpAny (model prog w) A (execs rest env) Q E s'
  | f => Q f s'
noncomputable abbrev NxR (prog : Program) (w : World) (A : Around) (env : Env) (rest : List Stmt) (Q : Flow → Shared → Prop) (E E' : Value → Shared → Prop) : Result → Shared → Prop := fun r s' => match r with
  | .ok f => Nx prog w A env rest Q E f s'
  | .error e => E' e s'
section
variable {prog : Program} {w : World} {mb : Str → Option Value} {A : Around} {E : Value → Shared → Prop} {s : Shared} {env : Env}
variable {c : Cx} {P : Part} {L : Addr} {m : Str → Option Value} {M : List (Addr × Obj)} {Q : Value → Shared → Prop}
/-! statements -/
theorem x_asg {x : Str} {pos' pos : Pos} {value : Expr} {rest : List Stmt} {Q : Flow → Shared → Prop}
    (h : wpAny (model prog w) A (eval value env) (fun v s₁ => wpAny (model prog w) A (storeName env x v) (fun _ s₂ => wpAny (model prog w) A (execs rest env) Q E s₂) E s₁) E s)
    (hs : swapsWith value (some (.Name x pos')) pos.line env = pure false) : wpAny (model prog w) A (execs (.Assign [.Name x pos'] value pos :: rest) env) Q E s :=
  wpAny_execs_cons (wpAny_Assign_Name (wpAny_mono h (fun _ _ h₁ => h₁) fun _ _ e => e) hs)
theorem x_if {test : Expr} {body orelse rest : List Stmt} {pos : Pos} {Q : Flow → Shared → Prop}
    (h : wpAny (model prog w) A (isTrue test env (eval test env)) (fun b s₂ => if b then wpAny (model prog w) A (execs body env) (Nx prog w A env rest Q E) E s₂
      else wpAny (model prog w) A (execs orelse env) (Nx prog w A env rest Q E) E s₂) E s) :
    wpAny (model prog w) A (execs (.If test body orelse pos :: rest) env) Q E s := wpAny_execs_cons (wpAny_If h)
theorem x_ret {e : Expr} {rest : List Stmt} {pos : Pos} {Q : Flow → Shared → Prop} (h : wpAny (model prog w) A (eval e env) (fun v => Q (.ret v)) E s) :
    wpAny (model prog w) A (execs (.Return (some e) pos :: rest) env) Q E s := wpAny_execs_cons (wpAny_Return_some (wpAny_mono h (fun _ _ h => h) fun _ _ e => e))
theorem x_nil {Q : Flow → Shared → Prop} (h : Q .next s) : wpAny (model prog w) A (execs [] env) Q E s := wpAny_execs_nil h
theorem x_expr {e : Expr} {pos : Pos} {rest : List Stmt} {Q : Flow → Shared → Prop} (h : wpAny (model prog w) A (eval e env) (fun v s' => v = .none ∧ wpAny (model prog w) A (execs rest env) Q E s') E s)
    (hi : interactive env = false) (hs : swapsWith e none pos.line env = pure false) : wpAny (model prog w) A (execs (.Expr e pos :: rest) env) Q E s :=
  wpAny_execs_cons (wpAny_Expr (wpAny_mono h (fun v s' ⟨hv, h'⟩ => by subst hv; exact h') fun _ _ e => e) hi hs)
theorem x_for {target iter : Expr} {body orelse rest : List Stmt} {pos : Pos} {Q : Flow → Shared → Prop}
    (h : ∀ E' : Value → Shared → Prop, wpAny (model prog w) A (eval iter env) (fun x s₁ => wpAny (model prog w) A (pyIter x) (fun it s₂ =>
      codeAny (model prog w) A (.forLoop target it body orelse env) (NxR prog w A env rest Q E E') s₂) E s₁) E s)
    (hs : ∀ x, foldedSetIterable iter env x = pure x) : wpAny (model prog w) A (execs (.For target iter body orelse pos :: rest) env) Q E s :=
  wpAny_execs_cons (wpAny_For (h _) hs)
theorem x_while {test : Expr} {body orelse rest : List Stmt} {pos : Pos} {Q : Flow → Shared → Prop}
    (h : ∀ E' : Value → Shared → Prop, codeAny (model prog w) A (.whileLoop test body orelse env) (NxR prog w A env rest Q E E') s) :
    wpAny (model prog w) A (execs (.While test body orelse pos :: rest) env) Q E s := wpAny_execs_cons (wpAny_While (h _))
/-! constants -/
theorem z_int {i : Int} {k : Nat} {pos : Pos} (F : Fm c P L m M s) (h : ∀ t s', Fm c P L m M s' → Q (.int i t) s') : wpAny (model prog w) A (eval (.Constant (.int i) k pos) env) Q E s :=
  wpAny_Constant_int (h _ _ (F.toks _))
theorem z_str {x : Str} {k : Nat} {pos : Pos} (F : Fm c P L m M s) (h : ∀ t s', Fm c P L m M s' → Q (.str x t) s') : wpAny (model prog w) A (eval (.Constant (.str x) k pos) env) Q E s :=
  Calls.Constant_str (h _ _ (F.toks _))
/-! ints -/
variable {a b : Int} {t u : Tok}
theorem z_add (F : Fm c P L m M s) (h : ∀ t s', Fm c P L m M s' → Q (.int (a + b) t) s') : wpAny (model prog w) A (binaryOp .Add (.int a t) (.int b u)) Q E s := by with_reducible exact _root_.PySem.P.add_int (h _ _ (F.toks _))
theorem z_iadd (F : Fm c P L m M s) (h : ∀ t s', Fm c P L m M s' → Q (.int (a + b) t) s') : wpAny (model prog w) A (inplaceOp .Add (.int a t) (.int b u)) Q E s := by with_reducible exact _root_.PySem.P.iadd_int (h _ _ (F.toks _))
theorem z_sub (F : Fm c P L m M s) (h : ∀ t s', Fm c P L m M s' → Q (.int (a - b) t) s') : wpAny (model prog w) A (binaryOp .Sub (.int a t) (.int b u)) Q E s := by with_reducible exact _root_.PySem.P.sub_int (h _ _ (F.toks _))
theorem z_mul2 (F : Fm c P L m M s) (hm : IntMulOk a b) (h : ∀ t s', Fm c P L m M s' → Q (.int (a * b) t) s') : wpAny (model prog w) A (binaryOp .Mult (.int a t) (.int b u)) Q E s := by with_reducible exact _root_.PySem.P.mul_int (h _ _ (F.toks _)) hm
theorem z_div (F : Fm c P L m M s) (hb : 0 < b) (hb' : b < 1000000000) (h : ∀ t s', Fm c P L m M s' → Q (.int (a / b) t) s') : wpAny (model prog w) A (binaryOp .FloorDiv (.int a t) (.int b u)) Q E s :=
  by with_reducible exact floordiv_int (by lia) (by rw [Int.fdiv_eq_ediv_of_nonneg _ (by lia)]; exact h _ _ (F.toks _)) (Or.inl (PyProof.noPylong_small (by lia)))
theorem z_mod (F : Fm c P L m M s) (hb : 0 < b) (h : ∀ t s', Fm c P L m M s' → Q (.int (a % b) t) s') : wpAny (model prog w) A (binaryOp .Mod (.int a t) (.int b u)) Q E s :=
  by with_reducible exact mod_int' (by lia) (by rw [Int.fmod_eq_emod_of_nonneg _ (by lia)]; exact h _ _ (F.toks _))
theorem z_shr1 (F : Fm c P L m M s) (h : ∀ t s', Fm c P L m M s' → Q (.int (a / 2) t) s') : wpAny (model prog w) A (binaryOp .RShift (.int a t) (.int 1 u)) Q E s :=
  by
    have h' : Q (.int (a.fdiv (2 ^ (1 : Int).toNat)) s.toks) { s with toks := s.toks + 1 } := by
      rw [Int.fdiv_eq_ediv_of_nonneg _ (by decide)]; exact h _ _ (F.toks _)
    with_reducible exact rshift_int (by lia) h'
theorem z_pow (F : Fm c P L m M s) (h0 : 0 ≤ b) (hb : b ≤ 1000) (ha : a.natAbs < 2 ^ 64) (h : ∀ t s', Fm c P L m M s' → Q (.int (a ^ b.toNat) t) s') : wpAny (model prog w) A (binaryOp .Pow (.int a t) (.int b u)) Q E s :=
  by with_reducible exact pow_int_small h0 (by lia) ha (h _ _ (F.toks _))
theorem z_lt (h : Q (.bool (decide (a < b))) s) : wpAny (model prog w) A (compareOp .Lt (.int a t) (.int b u)) Q E s := by with_reducible exact _root_.PySem.P.lt_int h
theorem z_gt (h : Q (.bool (decide (a > b))) s) : wpAny (model prog w) A (compareOp .Gt (.int a t) (.int b u)) Q E s := by with_reducible exact _root_.PySem.P.gt_int h
theorem z_eq (h : Q (.bool (a == b)) s) : wpAny (model prog w) A (compareOp .Eq (.int a t) (.int b u)) Q E s := by with_reducible exact _root_.PySem.P.eq_int h
theorem z_ne (h : Q (.bool (a != b)) s) : wpAny (model prog w) A (compareOp .NotEq (.int a t) (.int b u)) Q E s := by with_reducible exact _root_.PySem.P.ne_int h
theorem z_abs (F : Fm c P L m M s) (h : ∀ t s', Fm c P L m M s' → Q (.int (if a < 0 then -a else a) t) s') : wpAny (model prog w) A (call (.builtin "abs") [.int a t]) Q E s := call_abs_int fun _ _ => h _ _ (F.toks _)
theorem z_min2 (F : Fm c P L m M s) (hA : A.handled = none) (h : ∀ t s', Fm c P L m M s' → Q (.int (min a b) t) s') : wpAny (model prog w) A (call (.builtin "min") [.int a t, .int b u]) Q E s :=
  min_two_ints hA fun h' tk hk => by
    split
    · rw [show b = min a b by lia]; exact h _ _ (F.keeps hk)
    · rw [show a = min a b by lia]; exact h _ _ (F.keeps hk)
theorem z_chr (F : Fm c P L m M s) (h0 : 0 ≤ a) (h1 : a ≤ 0x10FFFF) (h : ∀ t s', Fm c P L m M s' → Q (.str ⟨#[a.toNat]⟩ t) s') : wpAny (model prog w) A (call (.builtin "chr") [.int a t]) Q E s :=
  by with_reducible exact _root_.PySem.P.chr_of_int (by simp; lia) (h _ _ (F.toks _))
/-! truth -/
theorem z_tb {b : Bool} {Q : Bool → Shared → Prop} (h : Q b s) : wpAny (model prog w) A (truthy (.bool b)) Q E s := wpAny_truthy_bool h
theorem z_tn {Q : Bool → Shared → Prop} (F : Fm c P L m M s) (h : Q (a != 0) s) : wpAny (model prog w) A (truthy (.int a t)) Q E s := by with_reducible exact _root_.PySem.P.truthy_int h
theorem z_ts {x : Str} {Q : Bool → Shared → Prop} (F : Fm c P L m M s) (hx : x.length ≤ sizeLine) (h : ∀ s', Fm c P L m M s' → Q ((x.length : Int) != 0) s') : wpAny (model prog w) A (truthy (.str x t)) Q E s :=
  by
    have e : sizeLine = 16777216 := by decide
    with_reducible exact _root_.PySem.P.truthy_str (by lia) (h _ (F.toks _))
/-! strs -/
variable {x y : Str}
theorem z_adds (F : Fm c P L m M s) (hxy : x.length + y.length ≤ sizeLine) (h : ∀ t s', Fm c P L m M s' → Q (.str (x ++ y) t) s') : wpAny (model prog w) A (binaryOp .Add (.str x t) (.str y u)) Q E s := by
  with_reducible refine _root_.PySem.P.add_str ?_
  by_cases h1 : (x.length == 0) = true
  · rw [if_pos h1]
    have e : x ++ y = y := by
      obtain ⟨x⟩ := x
      have : x = #[] := by simpa [Str.length] using h1
      subst this
      show (⟨#[] ++ y.cps⟩ : Str) = y
      rw [Array.empty_append]
    have := h u s F; rw [e] at this; exact this
  · rw [if_neg h1]
    by_cases h2 : (y.length == 0) = true
    · rw [if_pos h2]
      have e : x ++ y = x := by
        obtain ⟨y⟩ := y
        have : y = #[] := by simpa [Str.length] using h2
        subst this
        show (⟨x.cps ++ #[]⟩ : Str) = x
        rw [Array.append_empty]
      have := h t s F; rw [e] at this; exact this
    · rw [if_neg h2]
      exact ⟨by show (x ++ y).length ≤ sizeLine; rw [show (x ++ y).length = x.length + y.length from Array.size_append ..]; exact hxy, h _ _ (F.toks _)⟩
theorem z_iadds (F : Fm c P L m M s) (hxy : x.length + y.length ≤ sizeLine) (h : ∀ t s', Fm c P L m M s' → Q (.str (x ++ y) t) s') : wpAny (model prog w) A (inplaceOp .Add (.str x t) (.str y u)) Q E s := by
  with_reducible refine _root_.PySem.P.iadd_str ?_
  by_cases h1 : (x.length == 0) = true
  · rw [if_pos h1]
    have e : x ++ y = y := by
      obtain ⟨x⟩ := x
      have : x = #[] := by simpa [Str.length] using h1
      subst this
      show (⟨#[] ++ y.cps⟩ : Str) = y
      rw [Array.empty_append]
    have := h u s F; rw [e] at this; exact this
  · rw [if_neg h1]
    by_cases h2 : (y.length == 0) = true
    · rw [if_pos h2]
      have e : x ++ y = x := by
        obtain ⟨y⟩ := y
        have : y = #[] := by simpa [Str.length] using h2
        subst this
        show (⟨x.cps ++ #[]⟩ : Str) = x
        rw [Array.append_empty]
      have := h t s F; rw [e] at this; exact this
    · rw [if_neg h2]
      exact ⟨by show (x ++ y).length ≤ sizeLine; rw [show (x ++ y).length = x.length + y.length from Array.size_append ..]; exact hxy, h _ _ (F.toks _)⟩
theorem beq_cps {x y : Str} : (x.cps.toList == y.cps.toList) = decide (x = y) := by
  obtain ⟨x⟩ := x; obtain ⟨y⟩ := y
  by_cases h : x = y
  · subst h; simp
  · have : ¬ x.toList = y.toList := fun e => h (Array.toList_inj.mp e)
    simp [h]
theorem z_eqs (h : Q (.bool (decide (x = y))) s) : wpAny (model prog w) A (compareOp .Eq (.str x t) (.str y u)) Q E s := by with_reducible exact _root_.PySem.P.eq_str (by rw [beq_cps]; exact h)
theorem z_nes (h : Q (.bool (!decide (x = y))) s) : wpAny (model prog w) A (compareOp .NotEq (.str x t) (.str y u)) Q E s := by with_reducible exact _root_.PySem.P.ne_str (by rw [bne, beq_cps]; exact h)
theorem z_lts (h : Q (.bool (decide (x.cps.toList < y.cps.toList))) s) : wpAny (model prog w) A (compareOp .Lt (.str x t) (.str y u)) Q E s := by with_reducible exact _root_.PySem.P.lt_str h
/-! lists -/
theorem z_newM {vs : List Value} (F : Fm c P L m M s) (hsz : vs.length ≤ sizeLine) (h : ∀ a s', Fm c P L m ((a, lst vs.toArray 0) :: M) s' → Q (.ref a) s') : wpAny (model prog w) A (newList vs) Q E s :=
  wpAny_newList (h _ _ (F.allocM _)) hsz
theorem z_new {vs : List Value} {ds : List PyData} (F : Fm c P L m M s) (hsz : vs.length ≤ sizeLine) (hr : RepAll P vs ds) (h : ∀ v P' s', P.le P' → Rep P' v (.list ds) → Fm c P' L m M s' → Q v s') : wpAny (model prog w) A (newList vs) Q E s :=
  wpAny_newList (h _ _ _ (F.le_alloc _) (.list Part.set_self (hr.mono (F.le_alloc _))) (F.alloc _)) hsz
theorem z_newT {vs : List Value} {ds : List PyData} (F : Fm c P L m M s) (hsz : vs.length ≤ sizeLine) (hr : RepAll P vs ds) (h : ∀ v P' s', P.le P' → Rep P' v (.tuple ds) → Fm c P' L m M s' → Q v s') : wpAny (model prog w) A (newTuple vs) Q E s :=
  wpAny_newTuple (h _ _ _ (F.le_alloc _) (.tuple Part.set_self (hr.mono (F.le_alloc _))) (F.alloc _)) hsz
theorem z_append {a : Addr} {vs : List Value} {n : Nat} {v : Value} (F : Fm c P L m ((a, lst vs.toArray n) :: M) s) (hsz : vs.length ≤ sizeLine)
    (h : ∀ s' n', Fm c P L m ((a, lst (vs ++ [v]).toArray n') :: M) s' → Q .none s') : wpAny (model prog w) A (call (.builtin "list.append") [.ref a, v]) Q E s :=
  wpAny_list_append_plain (hsz := by simpa using hsz) ⟨n, F.mu _ (.head _)⟩ fun h' ⟨n', e⟩ hs => h _ n' (F.upd0 (by rw [e]; simp) hs.extBut)
theorem z_append1 {p : Addr × Obj} {a : Addr} {vs : List Value} {n : Nat} {v : Value} (F : Fm c P L m (p :: (a, lst vs.toArray n) :: M) s) (hsz : vs.length ≤ sizeLine)
    (h : ∀ s' n', Fm c P L m (p :: (a, lst (vs ++ [v]).toArray n') :: M) s' → Q .none s') : wpAny (model prog w) A (call (.builtin "list.append") [.ref a, v]) Q E s :=
  z_append F.swap hsz fun s' n' F' => h s' n' F'.swap
theorem heap_list {a : Addr} {vs : List Value} {n : Nat} (F : Fm c P L m M s) (h : P a = some (lst vs.toArray n)) : s.heap.IsList a vs.toArray := ⟨_, F.on _ _ h, rfl, n, rfl⟩
theorem heap_listM {a : Addr} {vs : List Value} {n : Nat} (F : Fm c P L m M s) (h : (a, lst vs.toArray n) ∈ M) : s.heap.IsList a vs.toArray := ⟨_, F.mu _ h, rfl, n, rfl⟩
theorem heap_tup {a : Addr} {vs : List Value} {n : Nat} (F : Fm c P L m M s) (h : P a = some (tpl vs.toArray n)) : IsTup s.heap a vs.toArray := ⟨_, F.on _ _ h, rfl, n, rfl⟩
theorem z_len {a : Addr} {vs : List Value} (F : Fm c P L m M s) (hl : s.heap.IsList a vs.toArray) (hsz : vs.length ≤ sizeLine) (h : ∀ t s', Fm c P L m M s' → Q (.int vs.length t) s') : wpAny (model prog w) A (call (.builtin "len") [.ref a]) Q E s :=
  Calls.call_len_list hl (by
    have e : sizeLine = 16777216 := by decide
    simp only [List.size_toArray]; lia) (by simpa using h _ _ (F.toks _))
theorem z_tl {a : Addr} {vs : List Value} {Q : Bool → Shared → Prop} (F : Fm c P L m M s) (hl : s.heap.IsList a vs.toArray) (hsz : vs.length ≤ sizeLine) (h : ∀ s', Fm c P L m M s' → Q (!vs.isEmpty) s') : wpAny (model prog w) A (truthy (.ref a)) Q E s :=
  wpAny_truthy_list hl (by
    have e : sizeLine = 16777216 := by decide
    simp only [List.size_toArray]; lia) (by simpa using h _ (F.toks _))
theorem z_addl {a b : Addr} {vs ws : List Value} {n k : Nat} {ds es : List PyData} (F : Fm c P L m M s) (hb : s.heap.get? a = some (lst vs.toArray n)) (hb' : s.heap.get? b = some (lst ws.toArray k)) (h1 : RepAll P vs ds) (h2 : RepAll P ws es) (hsz : vs.length + ws.length ≤ sizeLine)
    (h : ∀ v P' s', P.le P' → Rep P' v (.list (ds ++ es)) → Fm c P' L m M s' → Q v s') : wpAny (model prog w) A (binaryOp .Add (.ref a) (.ref b)) Q E s :=
  by with_reducible exact _root_.PySem.P.add_list (hsz := by simpa using hsz) (show IsL s.heap a vs.toArray n from hb) (show IsL s.heap b ws.toArray k from hb') (by
    have e : vs.toArray ++ ws.toArray = (vs ++ ws).toArray := by simp
    rw [e]
    exact h _ _ _ (F.le_alloc _) (.list Part.set_self ((h1.append h2).mono (F.le_alloc _))) (F.alloc _ lst_free))
noncomputable def imm : Value → Bool
  | .int _ _ | .str _ _ | .bool _ | .none => true
  | _ => false
noncomputable def datOf : Value → PyData
  | .int i _ => .int i
  | .str x _ => .str x
  | .bool b => .bool b
  | _ => .none
theorem rep_imm {v : Value} (h : imm v = true) : Rep P v (datOf v) := by
  cases v <;> first | exact .none | exact .int _ _ | exact .str _ _ | exact .bool _ | cases h
theorem repAll_imm {vs : List Value} (h : vs.all imm = true) : RepAll P vs (vs.map datOf) := by
  induction vs with
  | nil => exact .nil
  | cons v vs ih =>
    simp only [List.all_cons, Bool.and_eq_true] at h
    exact .cons (rep_imm h.1) (ih h.2)
theorem z_newTi {vs : List Value} (F : Fm c P L m M s) (hsz : vs.length ≤ sizeLine) (hi : vs.all imm = true) (h : ∀ v P' s', P.le P' → Rep P' v (.tuple (vs.map datOf)) → Fm c P' L m M s' → Q v s') : wpAny (model prog w) A (newTuple vs) Q E s :=
  z_newT F hsz (repAll_imm hi) h
theorem z_newi {vs : List Value} (F : Fm c P L m M s) (hsz : vs.length ≤ sizeLine) (hi : vs.all imm = true) (h : ∀ v P' s', P.le P' → Rep P' v (.list (vs.map datOf)) → Fm c P' L m M s' → Q v s') : wpAny (model prog w) A (newList vs) Q E s :=
  z_new F hsz (repAll_imm hi) h
/-! methods, calls -/
theorem a_cons {e : Expr} {rest : List Expr} {pos : Pos} {Q : List Value → Shared → Prop}
    (h : wpAny (model prog w) A (eval e env) (fun v s₁ => wpAny (model prog w) A (spliced (backTo pos (starEach rest env))) (fun vs s₂ => Q (v :: vs) s₂) E s₁) E s)
    (he : starEach (e :: rest) env = (false, eval e env) :: starEach rest env) : wpAny (model prog w) A (spliced (backTo pos (starEach (e :: rest) env))) Q E s := args_cons h he
theorem a_nil {pos : Pos} {Q : List Value → Shared → Prop} (h : Q [] s) : wpAny (model prog w) A (spliced (backTo pos (starEach [] env))) Q E s := args_nil h
theorem e_call {func : Expr} {args : List Expr} {pos : Pos}
    (h : wpAny (model prog w) A (eval func env) (fun f s₁ => wpAny (model prog w) A (callWith pos f [] (backTo pos (starEach args env)) []) Q E s₁) E s)
    (he : eval (.Call func args [] pos) env = (do callWith pos (← eval func env) [] (backTo pos (starEach args env)) (backToKw pos (keywordEach [] env)))) :
    wpAny (model prog w) A (eval (.Call func args [] pos) env) Q E s := Call_ h he
theorem c_bi {pos : Pos} {id : String} {e : Expr} {rest : List Expr}
    (h : wpAny (model prog w) A (spliced (backTo pos (starEach (e :: rest) env))) (fun vs s₁ => wpAny (model prog w) A (call (.builtin id) vs) Q E s₁) E s)
    (he : starEach (e :: rest) env = (false, eval e env) :: starEach rest env) (hp : (backTo pos (starEach rest env)).any (·.1) = false) :
    wpAny (model prog w) A (callWith pos (.builtin id) [] (backTo pos (starEach (e :: rest) env)) []) Q E s := callWith_builtin1 h he hp
theorem c_ty {pos : Pos} {T : String} {e : Expr} {rest : List Expr}
    (h : wpAny (model prog w) A (spliced (backTo pos (starEach (e :: rest) env))) (fun vs s₁ => wpAny (model prog w) A (call (.type T) vs) Q E s₁) E s)
    (he : starEach (e :: rest) env = (false, eval e env) :: starEach rest env) (hp : (backTo pos (starEach rest env)).any (·.1) = false) :
    wpAny (model prog w) A (callWith pos (.type T) [] (backTo pos (starEach (e :: rest) env)) []) Q E s := PyProof.Rows.callWith_type1 h he hp
theorem c_fn {pos : Pos} {f : Addr} {oc : Value} {od : Option Addr} {osl : Array (Option Value)} {fd : FuncData} {e : Expr} {rest : List Expr} (ho : (KK w.params).lookup f = some ⟨oc, od, .func fd, osl⟩)
    (h : wpAny (model prog w) A (spliced (backTo pos (starEach (e :: rest) env))) (fun vs s₁ => (KK w.params).In s₁.heap ∧ wpAny (model prog w) A (call (.ref f) vs) Q E s₁) E s)
    (he : starEach (e :: rest) env = (false, eval e env) :: starEach rest env) :
    wpAny (model prog w) A (callWith pos (.ref f) [] (backTo pos (starEach (e :: rest) env)) []) Q E s :=
  callWith_def (o := ⟨oc, od, .func fd, osl⟩) (fd := fd) rfl (wpAny_mono h (fun _ _ h => ⟨h.1 _ _ ho, h.2⟩) fun _ _ e => e) he
theorem Fm.K (F : Fm c P L m M s) (X : Bs w mb c.P₀) : (KK w.params).In s.heap := fun a o e => F.on _ _ (F.le _ _ (X.k a o e))
theorem e_meth {o : Expr} {name : Str} {apos pos : Pos} {args : List Expr} {pl : Sem Bool}
    (h : wpAny (model prog w) A (eval o env) (fun ov s₁ => wpAny (model prog w) A (getMethod ov name pl) (fun fx s₂ => wpAny (model prog w) A (callWith pos fx.1 fx.2 (backTo pos (starEach args env)) []) Q E s₂) E s₁) E s)
    (he : eval (.Call (.Attribute o name apos) args [] pos) env = (do
      let ov ← eval o env
      standAt apos.atName
      let (f, first) ← holding [ov] (getMethod ov name pl)
      callWith pos f first (backTo pos (starEach args env)) [])) : wpAny (model prog w) A (eval (.Call (.Attribute o name apos) args [] pos) env) Q E s := MethodCall_ h he
theorem c_m1 {pos : Pos} {id : String} {first : List Value} {e : Expr} {rest : List Expr}
    (h : wpAny (model prog w) A (spliced (backTo pos (starEach (e :: rest) env))) (fun vs s₁ => wpAny (model prog w) A (call (.builtin id) (first ++ vs)) Q E s₁) E s)
    (he : starEach (e :: rest) env = (false, eval e env) :: starEach rest env) (hp : (backTo pos (starEach rest env)).any (·.1) = false) :
    wpAny (model prog w) A (callWith pos (.builtin id) first (backTo pos (starEach (e :: rest) env)) []) Q E s := callWith_method1 h he hp
theorem e_cmp {l r : Expr} {op : CmpOp} {pos : Pos}
    (h : wpAny (model prog w) A (eval l env) (fun a s₁ => wpAny (model prog w) A (eval r env) (fun b s₂ => wpAny (model prog w) A (compareOp op a b) Q E s₂) E s₁) E s)
    (hm : behindInMarks op r = false) : wpAny (model prog w) A (eval (.Compare l [op] [r] pos) env) Q E s := wpAny_Compare1 h hm
theorem t_cmp {l r : Expr} {op : CmpOp} {pos : Pos} {whole : Sem Value} {Q : Bool → Shared → Prop}
    (h : wpAny (model prog w) A (eval l env) (fun a s₁ => wpAny (model prog w) A (eval r env) (fun b s₂ => wpAny (model prog w) A (compareOp op a b) (fun c s₃ => wpAny (model prog w) A (truthy c) Q E s₃) E s₂) E s₁) E s)
    (hm : behindInMarks op r = false) : wpAny (model prog w) A (isTrue (.Compare l [op] [r] pos) env whole) Q E s := wpAny_isTrue_Compare1 h hm
theorem e_sub {value slice : Expr} {pos : Pos}
    (h : wpAny (model prog w) A (eval value env) (fun o s₁ => wpAny (model prog w) A (eval slice env) (fun i s₂ => wpAny (model prog w) A (subscriptTail value slice o i) Q E s₂) E s₁) E s) :
    wpAny (model prog w) A (eval (.Subscript value slice pos) env) Q E s := Subscript_ h
theorem e_bin {l r : Expr} {op : Operator} {pos : Pos}
    (h : wpAny (model prog w) A (eval l env) (fun a s₁ => wpAny (model prog w) A (eval r env) (fun b s₂ => wpAny (model prog w) A (binaryOp op a b) Q E s₂) E s₁) E s) :
    wpAny (model prog w) A (eval (.BinOp l op r pos) env) Q E s := wpAny_BinOp h
theorem e_tup {elts : List Expr} {k : Nat} {pos : Pos} (h : wpAny (model prog w) A (spliced (backTo pos (starEach elts env))) (fun vs s₁ => wpAny (model prog w) A (newTuple vs) Q E s₁) E s) :
    wpAny (model prog w) A (eval (.Tuple elts k pos) env) Q E s := Tuple_ h
theorem e_lst {elts : List Expr} {pos : Pos} (h : wpAny (model prog w) A (spliced (backTo pos (starEach elts env))) (fun vs s₁ => wpAny (model prog w) A (newList vs) Q E s₁) E s) :
    wpAny (model prog w) A (eval (.List elts pos) env) Q E s := List_ h
theorem e_ife {test body orelse : Expr} {pos : Pos}
    (h : wpAny (model prog w) A (isTrue test env (eval test env)) (fun c s₂ => if c then wpAny (model prog w) A (eval body env) Q E s₂ else wpAny (model prog w) A (eval orelse env) Q E s₂) E s) :
    wpAny (model prog w) A (eval (.IfExp test body orelse pos) env) Q E s := IfExp_ h
theorem meth_list {name : Str} {id : String} {a : Addr} {vs : Array Value} {n : Nat} {pl : Sem Bool} {Q : Value × List Value → Shared → Prop} (hl : s.heap.get? a = some (lst vs n)) (slot : Slot "list" name id) (ty : typeOf (.builtin id) = pure (.type "method_descriptor"))
    (h : Q (.builtin id, [.ref a]) s) : wpAny (model prog w) A (getMethod (.ref a) name pl) Q E s :=
  getMethod_builtin ⟨_, hl, rfl⟩ F.plainAttrs_list slot ty (fun b e => by cases e; exact ⟨_, hl, rfl⟩) h
end
end Mine
end
section
open PySem PySem.W PyProof.Rows
set_option autoImplicit false
set_option linter.unusedVariables false
namespace Mine
noncomputable abbrev rng (a b c : Int) (t u v : Tok) : Obj := { cls := .type "range", data := .fields #[.int a t, .int b u, .int c v] }
section
variable {prog : Program} {w : World} {mb : Str → Option Value} {A : Around} {E : Value → Shared → Prop} {s : Shared} {env : Env}
variable {c : Cx} {P : Part} {L : Addr} {m : Str → Option Value} {M : List (Addr × Obj)} {Q : Value → Shared → Prop} {R : Result → Shared → Prop} {target : Expr} {body : List Stmt}
noncomputable def Turn (prog : Program) (w : World) (A : Around) (env : Env) (c : Cx) (L : Addr) (R : Result → Shared → Prop) (target : Expr) (body : List Stmt) (J : Nat → Part → (Str → Option Value) → List (Addr × Obj) → Prop) (i : Nat) (v : Value) (P₀ : Part) : Prop :=
  ∀ P' m' M' I oI s' E', P₀.le P' → J i P' m' M' → Fm c P' L m' ((I, oI) :: M') s' → (∀ x, target ≠ .Name x target.pos → ∃ o, s'.heap.get? I = some o ∧ o.cls = .type "list_iterator") →
      wpAny (model prog w) A (letOwnedTupleGo target (.ref I) v) (fun _ s₁ => wpAny (model prog w) A (assign target env v) (fun _ s₂ =>
        wpAny (model prog w) A (execs body env) (Tn c P' L I oI J i R) E' s₂) E' s₁) E' s'
theorem new_ne {a : Addr} {h : Heap} {o : Obj} (e : h.get? a = some o) : a ≠ h.objs.size := Nat.ne_of_lt (Heap.lt_size e)
theorem iter_list {a : Addr} {vs : List Value} {n : Nat} {x : Str} {px : Pos} (F : Fm c P L m M s) (h : P a = some (lst vs.toArray n)) (hA : A.handled = none) (J : Nat → Part → (Str → Option Value) → List (Addr × Obj) → Prop) (hJ : J 0 P m M)
    (turn : ∀ i v P' m' M' I oI s' E', vs[i]? = some v → P.le P' → J i P' m' M' → Fm c P' L m' ((I, oI) :: M') s' →
      wpAny (model prog w) A (assign (.Name x px) env v) (fun _ s₂ =>
        wpAny (model prog w) A (execs body env) (Tn c P' L I oI J i R) E' s₂) E' s')
    (done : ∀ P' m' M' s', P.le P' → J vs.length P' m' M' → Fm c P' L m' M' s' → R (.ok .next) s') :
    wpAny (model prog w) A (pyIter (.ref a)) (fun it s₂ => codeAny (model prog w) A (.forLoop (.Name x px) it body [] env) R s₂) E s := by
  have hl := heap_list F h
  have ha := F.on _ _ h
  refine wpAny_pyIter_list hl ?_
  have W := Walks.list (prog := prog) (w := w) hA s.heap.objs.size a (new_ne ha) vs.toArray
  rw [List.size_toArray] at W
  refine loop_for W (fun i h hst => ?_) (fun b hb => ?_) J (F.allocM _) ⟨⟨_, Heap.get?_push_size _ rfl, rfl, rfl⟩, hl.at fun o e => Heap.get?_push_of_some _ e⟩ hJ (fun i v P' m' M' oI s' E' hi hv hle hj F' => ?_) done
  · obtain ⟨⟨o, ho, _⟩, _⟩ := hst; exact ⟨o, ho⟩
  · simp only [List.mem_cons, List.mem_nil_iff, or_false] at hb
    rcases hb with rfl | rfl
    · exact .inl rfl
    · exact .inr ⟨_, h⟩
  · exact wpAny_pure (turn i v P' m' M' _ oI s' E' (by simpa using hv) hle hj F')
theorem iter_tup {a : Addr} {vs : List Value} {n : Nat} {x : Str} {px : Pos} (F : Fm c P L m M s) (h : P a = some (tpl vs.toArray n)) (hA : A.handled = none) (J : Nat → Part → (Str → Option Value) → List (Addr × Obj) → Prop) (hJ : J 0 P m M)
    (turn : ∀ i v P' m' M' I oI s' E', vs[i]? = some v → P.le P' → J i P' m' M' → Fm c P' L m' ((I, oI) :: M') s' →
      wpAny (model prog w) A (assign (.Name x px) env v) (fun _ s₂ =>
        wpAny (model prog w) A (execs body env) (Tn c P' L I oI J i R) E' s₂) E' s')
    (done : ∀ P' m' M' s', P.le P' → J vs.length P' m' M' → Fm c P' L m' M' s' → R (.ok .next) s') :
    wpAny (model prog w) A (pyIter (.ref a)) (fun it s₂ => codeAny (model prog w) A (.forLoop (.Name x px) it body [] env) R s₂) E s := by
  have ha := F.on _ _ h
  have hl : s.heap.IsTuple a vs.toArray := ⟨_, ha, rfl, n, rfl⟩
  refine wpAny_pyIter_tuple hl ?_
  have W := Walks.tuple (prog := prog) (w := w) hA s.heap.objs.size a (new_ne ha) vs.toArray
  rw [List.size_toArray] at W
  refine loop_for W (fun i h hst => ?_) (fun b hb => ?_) J (F.allocM _) ⟨⟨_, Heap.get?_push_size _ rfl, rfl, rfl⟩, hl.at fun o e => Heap.get?_push_of_some _ e⟩ hJ (fun i v P' m' M' oI s' E' hi hv hle hj F' => ?_) done
  · obtain ⟨⟨o, ho, _⟩, _⟩ := hst; exact ⟨o, ho⟩
  · simp only [List.mem_cons, List.mem_nil_iff, or_false] at hb
    rcases hb with rfl | rfl
    · exact .inl rfl
    · exact .inr ⟨_, h⟩
  · exact wpAny_pure (turn i v P' m' M' _ oI s' E' (by simpa using hv) hle hj F')
theorem small_of {a b : Int} (h1 : -1000000 < a) (h2 : a < 1000000) (h3 : -1000000 < b) (h4 : b < 1000000) : Builtin.Range.small a b 1 = true := by
  unfold Builtin.Range.small
  rw [rangeSize_nat]
  unfold Builtin.Range.rangeFitsLong
  simp
  omega
theorem z_range1 {b : Int} {t : Tok} (F : Fm c P L m M s) (h : ∀ r P' s' t u v, P.le P' → P' r = some (rng 0 b 1 t u v) → Fm c P' L m M s' → Q (.ref r) s') : wpAny (model prog w) A (call (.type "range") [.int b t]) Q E s :=
  call_range_1 (h _ _ _ _ _ _ (F.le_alloc _) Part.set_self ((F.alloc _).toks _))
theorem z_range2 {a b : Int} {t u : Tok} (F : Fm c P L m M s) (h : ∀ r P' s' t u v, P.le P' → P' r = some (rng a b 1 t u v) → Fm c P' L m M s' → Q (.ref r) s') : wpAny (model prog w) A (call (.type "range") [.int a t, .int b u]) Q E s :=
  call_range_2 (h _ _ _ _ _ _ (F.le_alloc _) Part.set_self ((F.alloc _).toks _))
theorem iter_range {r : Addr} {a b : Int} {t u v : Tok} {x : Str} {px : Pos} (F : Fm c P L m M s) (h : P r = some (rng a b 1 t u v)) (h1 : -1000000 < a) (h2 : a < 1000000) (h3 : -1000000 < b) (h4 : b < 1000000)
    (hA : A.handled = none) (J : Nat → Part → (Str → Option Value) → List (Addr × Obj) → Prop) (hJ : J 0 P m M)
    (turn : ∀ (i : Nat) t P' m' M' I oI s' E', i < (b - a).toNat → P.le P' → J i P' m' M' → Fm c P' L m' ((I, oI) :: M') s' →
      wpAny (model prog w) A (assign (.Name x px) env (.int (a + (i : Int)) t)) (fun _ s₂ =>
        wpAny (model prog w) A (execs body env) (Tn c P' L I oI J i R) E' s₂) E' s')
    (done : ∀ P' m' M' s', P.le P' → J (b - a).toNat P' m' M' → Fm c P' L m' M' s' → R (.ok .next) s') :
    wpAny (model prog w) A (pyIter (.ref r)) (fun it s₂ => codeAny (model prog w) A (.forLoop (.Name x px) it body [] env) R s₂) E s := by
  have ha := F.on _ _ h
  refine wpAny_pyIter_range ha (small_of h1 h2 h3 h4) ?_
  have W := Walks.range (prog := prog) (w := w) hA s.heap.objs.size a 1 (b - a).toNat
  refine loop_for W (fun i h hst => ⟨_, hst⟩) (fun b hb => .inl (List.mem_singleton.mp hb)) J (F.allocM _) ?_ hJ (fun i v P' m' M' oI s' E' hi hv hle hj F' => ?_) done
  · show (s.heap.push _).get? _ = _
    rw [Heap.get?_push_size _ rfl, rangeSize_nat]
    simp
  · obtain ⟨t, rfl⟩ := hv
    rw [Int.mul_one]
    exact wpAny_pure (turn i t P' m' M' _ oI s' E' hi hle hj F')
theorem as_name {x : Str} {pos : Pos} {v : Value} {Q : Unit → Shared → Prop} (F : Fm c P L m M s) (hL : env.locals = L) (hk : env.scope.kind = .function) (hl : env.kindOf x = some .local)
    (h : ∀ s', Fm c P L (fun y => if y = x then some v else m y) M s' → Q () s') : wpAny (model prog w) A (assign (.Name x pos) env v) Q E s := wpAny_assign_Name (stL F hL hk hl h)
end
end Mine
end
section
open PySem PySem.W PyProof.Rows
set_option autoImplicit false
set_option linter.unusedVariables false
namespace Mine
/-- a heap's part without some addresses -/
noncomputable def hidL (h : Heap) (as : List Addr) : Part := fun b => if b ∈ as then none else h.get? b
theorem hidL_in {h : Heap} {as : List Addr} {a : Addr} (ha : a ∈ as) : hidL h as a = none := if_pos ha
theorem hidL_ne {h : Heap} {as : List Addr} {b : Addr} (hb : b ∉ as) : hidL h as b = h.get? b := if_neg hb
theorem hidL_on (h : Heap) (as : List Addr) : (hidL h as).on h := fun b o e => by
  unfold hidL at e
  split at e
  · cases e
  · exact e
section
variable {prog : Program} {w : World} {mb : Str → Option Value} {A : Around} {E : Value → Shared → Prop} {s : Shared} {env : Env}
variable {c : Cx} {P P' : Part} {L : Addr} {m : Str → Option Value} {M MX MX' : List (Addr × Obj)} {Q : Value → Shared → Prop} {R : Result → Shared → Prop} {target : Expr} {body : List Stmt}
/-- behind a block that may turn the objects MX and some others of its own -/
theorem Fm.callL {as : List Addr} (F : Fm c P L m (MX ++ M) s) {s' : Shared} (R : Ret ⟨s, hidL s.heap as, P⟩ P' s')
    (has : ∀ a ∈ as, a ∈ MX.map (·.1) ∨ (a ≠ L ∧ c.O a = none ∧ ∀ p ∈ M, p.1 ≠ a)) (hk : MX'.map (·.1) = MX.map (·.1))
    (hmx : ∀ p ∈ MX', s'.heap.get? p.1 = some p.2 ∧ P' p.1 = none) : Fm c P' L m (MX' ++ M) s' := by
  have nd := List.pairwise_append.mp F.nd
  have inMX : ∀ a, a ∈ MX.map (·.1) → a ≠ L ∧ P a = none ∧ c.O a = none ∧ ∀ p ∈ M, p.1 ≠ a := fun a ha => by
    obtain ⟨q, hq, rfl⟩ := List.mem_map.mp ha
    have := F.off q (List.mem_append_left _ hq)
    exact ⟨this.1, this.2.1, this.2.2, fun p hp => (nd.2.2 q hq p hp).symm⟩
  have offA : ∀ a ∈ as, a ≠ L ∧ c.O a = none ∧ ∀ p ∈ M, p.1 ≠ a := fun a ha => (has a ha).elim (fun h => ⟨(inMX a h).1, (inMX a h).2.2.1, (inMX a h).2.2.2⟩) id
  have hL : L ∉ as := fun h => (offA L h).1 rfl
  have hM : ∀ p ∈ M, p.1 ∉ as := fun p hp h => (offA p.1 h).2.2 p hp rfl
  have hO : ∀ b o, c.O b = some o → b ∉ as := fun b o e h => by rw [(offA b h).2.1] at e; cases e
  have none_of : ∀ b o, s.heap.get? b = some o → b ∉ as → P b = none → P' b = none := fun b o ho hb hp => by
    cases q : P' b with
    | none => rfl
    | some x =>
      rcases R.new b x q with h | h
      · have h9 : P b = some x := h
        rw [hp] at h9; cases h9
      · have h9 : hidL s.heap as b = none := h
        rw [hidL_ne hb, ho] at h9; cases h9
  exact {
    same := by
      obtain ⟨h, tk, e⟩ := F.same
      obtain ⟨h', tk', e'⟩ := R.same
      exact ⟨h', tk', by rw [e']; dsimp only; rw [e]⟩
    ns := F.ns.at' fun o e => R.old L o ((hidL_ne hL).trans e)
    old := fun b o e => R.old b o ((hidL_ne (hO b o e)).trans (F.old b o e))
    le := Part.le_trans F.le R.le
    on := R.on
    new := fun b o e => (R.new b o e).elim (fun h => F.new b o h) fun h => .inr (by
      cases q : c.O b with
      | none => rfl
      | some x =>
        have h9 : hidL s.heap as b = none := h
        rw [hidL_ne (hO b x q), F.old b x q] at h9; cases h9)
    offL := by obtain ⟨o, _, _, ho, _⟩ := F.ns; exact none_of L o ho hL F.offL
    newL := F.newL
    mu := fun p hp => by
      rcases List.mem_append.mp hp with h | h
      · exact (hmx p h).1
      · exact R.old _ _ ((hidL_ne (hM p h)).trans (F.mu p (List.mem_append_right _ h)))
    off := fun p hp => by
      rcases List.mem_append.mp hp with h | h
      · have := inMX p.1 (hk ▸ List.mem_map_of_mem h)
        exact ⟨this.1, (hmx p h).2, this.2.2.1⟩
      · have := F.off p (List.mem_append_right _ h)
        exact ⟨this.1, none_of _ _ (F.mu p (List.mem_append_right _ h)) (hM p h) this.2.1, this.2.2⟩
    nd := by
      refine List.pairwise_append.mpr ⟨?_, nd.2.1, fun p hp q hq => ?_⟩
      · have h1 : (MX.map (·.1)).Pairwise (· ≠ ·) := List.pairwise_map.mpr nd.1
        rw [← hk] at h1
        exact List.pairwise_map.mp h1
      · exact ((inMX p.1 (hk ▸ List.mem_map_of_mem hp)).2.2.2 q hq).symm }
/-- an object that nobody speaks of has turned -/
theorem Fm.other {a : Addr} (F : Fm c P L m M s) {h' : Heap} {tk : Nat} (hL : a ≠ L) (hP : P a = none) (hO : c.O a = none) (hM : ∀ p ∈ M, p.1 ≠ a) (hs : Heap.ExtBut a s.heap h') :
    Fm c P L m M { s with heap := h', toks := tk } where
  same := let ⟨_, _, e⟩ := F.same; ⟨h', tk, by rw [e]⟩
  ns := F.ns.extBut hs hL.symm
  old := fun b o e => hs b o (fun q => by rw [q, hO] at e; cases e) (F.old b o e)
  le := F.le
  on := fun b o e => hs b o (fun q => by rw [q, hP] at e; cases e) (F.on b o e)
  new := F.new
  offL := F.offL
  newL := F.newL
  mu := fun p hp => hs _ _ (hM p hp) (F.mu p hp)
  off := F.off
  nd := F.nd
noncomputable abbrev testsOf (ifs : List Expr) (env : Env) : Sem Bool := forIn ifs true fun c r => if r = true then do let ok ← isTrue c env (eval c env); pure (ForInStep.yield ok) else pure (ForInStep.yield r)
theorem tests_nil {Q : Bool → Shared → Prop} (h : Q true s) : wpAny (model prog w) A (testsOf [] env) Q E s := by
  unfold testsOf; rw [List.forIn_nil]; exact wpAny_pure h
theorem tests_one {e : Expr} {Q : Bool → Shared → Prop} (h : wpAny (model prog w) A (isTrue e env (eval e env)) Q E s) : wpAny (model prog w) A (testsOf [e] env) Q E s := by
  unfold testsOf
  rw [List.forIn_cons]
  simp only [if_true]
  refine wpAny_bind (wpAny_bind (wpAny_mono h (fun ok s' h' => wpAny_pure ?_) fun _ _ e => e))
  dsimp only
  rw [List.forIn_nil]; exact wpAny_pure h'
section
variable {prog : Program} {w : World} {A : Around} {s : Shared} {R : Result → Shared → Prop}
theorem compLoop_tests {elt target iter : Expr} {ifs : List Expr} {scope : Scope} {pos : Pos} {it acc : Value} {env : Env} (I : Nat → Shared → Prop)
    (turn : ∀ n s, I n s → wpAny (model prog w) A (pyNext it) (fun r s₁ => match r with
      | none => R (.ok .next) s₁
      | some v => wpAny (model prog w) A (letOwnedTupleGo target it v) (fun _ s₁' => wpAny (model prog w) A (assign target env v) (fun _ s₂ =>
          wpAny (model prog w) A (testsOf ifs env) (fun ok s₃ =>
            if ok = true then wpAny (model prog w) A (eval elt env) (fun x s₄ =>
              wpAny (model prog w) A (call (.builtin "list.append") [acc, x]) (fun _ s₅ => ∃ m, m < n ∧ I m s₅) (notedBy (model prog w) A env fun e s' => R (.error e) s') s₄) (notedBy (model prog w) A env fun e s' => R (.error e) s') s₃
            else ∃ m, m < n ∧ I m s₃) (notedBy (model prog w) A env fun e s' => R (.error e) s') s₂) (notedBy (model prog w) A env fun e s' => R (.error e) s') s₁') (notedBy (model prog w) A env fun e s' => R (.error e) s') s₁) (notedBy (model prog w) A env fun e s' => R (.error e) s') s)
    (n : Nat) (h : I n s) : codeAny (model prog w) A (.compLoop (.ListComp elt [⟨target, iter, ifs, 0⟩] scope pos) 0 it acc env) R s := by
  refine codeAny_loop rfl I (fun n s hI => ?_) n h
  show wpAny _ A ((compTurn (.ListComp elt [⟨target, iter, ifs, 0⟩] scope pos) 0 it acc env).onRaise (fun x => do noteFrame x env; theTreesLotGoes x)) _ _ s
  refine wpAny_noted ?_
  rw [compTurn_list]
  refine wpAny_bind (wpAny_standAt (wpAny_bind (wpAny_mono (turn n s hI) (fun r s₁ h₁ => ?_) fun _ _ h' => h')))
  cases r with
  | none => exact wpAny_pure h₁
  | some v =>
    refine wpAny_bind (wpAny_mono h₁ (fun _ s₁' h₁' => ?_) fun _ _ h' => h')
    refine wpAny_bind (wpAny_mono h₁' (fun _ s₂ h₂ => wpAny_bind (wpAny_mono h₂ (fun ok s₃ h₃ => ?_) fun _ _ h' => h')) fun _ _ h' => h')
    cases ok with
    | false => exact wpAny_pure ⟨rfl, h₃⟩
    | true =>
      exact wpAny_bind (wpAny_bind (wpAny_mono h₃ (fun x s₄ h₄ => wpAny_bind (wpAny_mono h₄ (fun _ s₅ h₅ => wpAny_pure (wpAny_pure ⟨rfl, h₅⟩)) fun _ _ h' => h')) fun _ _ h' => h'))
end
inductive CgI (c : Cx) (P : Part) (L D I : Addr) (n : Nat) (St : Nat → Heap → Prop) (J : Nat → Part → List Value → List (Addr × Obj) → Prop) (j : Nat) (s' : Shared) : Prop
  | mk : ∀ i P' m' MX' ys k oI', P.le P' → J i P' ys MX' → ys.length ≤ i → Fm c P' L m' ((D, lst (List.toArray ys) k) :: (I, oI') :: MX') s' → St i s'.heap → i ≤ n → j = n + 1 - i → CgI c P L D I n St J j s'
theorem comp_runG {cenv : Env} {elt iter : Expr} {ifs : List Expr} {scope : Scope} {pos : Pos} {I D : Addr} {oI : Obj} {fp : List Addr} {n k₀ : Nat} {Pv : Nat → Value → Prop} {St : Nat → Heap → Prop}
    (W : Walks prog w A I fp [I] n Pv St) (hI : ∀ i h, St i h → ∃ o, h.get? I = some o) (hfp : ∀ b ∈ fp, b = I ∨ ∃ o, P b = some o) (hn : n ≤ sizeLine) (htg : ∀ i v s' (Q : Unit → Shared → Prop) (E' : Value → Shared → Prop), Pv i v → St (i + 1) s'.heap → Q () s' → wpAny (model prog w) A (letOwnedTupleGo target (.ref I) v) Q E' s')
    (J : Nat → Part → List Value → List (Addr × Obj) → Prop) (F : Fm c P L m ((D, lst #[] k₀) :: (I, oI) :: MX) s) (hst : St 0 s.heap) (hJ : J 0 P [] MX)
    (turn : ∀ i v P' m' MX' ys k oI' s' E', i < n → Pv i v → P.le P' → J i P' ys MX' → Fm c P' L m' ((D, lst (List.toArray ys) k) :: (I, oI') :: MX') s' →
      wpAny (model prog w) A (assign target cenv v) (fun _ s₂ => wpAny (model prog w) A (testsOf ifs cenv) (fun ok s₃ =>
        if ok = true then wpAny (model prog w) A (eval elt cenv) (fun y s₄ => ∃ P'' m'' MX'', P'.le P'' ∧ Fm c P'' L m'' ((D, lst (List.toArray ys) k) :: (I, oI') :: MX'') s₄ ∧ J (i + 1) P'' (ys ++ [y]) MX'') E' s₃
        else ∃ P'' m'' MX'', P'.le P'' ∧ Fm c P'' L m'' ((D, lst (List.toArray ys) k) :: (I, oI') :: MX'') s₃ ∧ J (i + 1) P'' ys MX'') E' s₂) E' s')
    (done : ∀ P' m' MX' ys k s', P.le P' → J n P' ys MX' → Fm c P' L m' ((D, lst (List.toArray ys) k) :: MX') s' → R (.ok .next) s') :
    codeAny (model prog w) A (.compLoop (.ListComp elt [⟨target, iter, ifs, 0⟩] scope pos) 0 (.ref I) (.ref D) cenv) R s := by
  refine compLoop_tests (CgI c P L D I n St J) ?_ (n + 1)
    ⟨0, P, m, MX, [], k₀, oI, Part.le_refl _, hJ, Nat.le_refl _, F, hst, Nat.zero_le _, rfl⟩
  rintro j s' ⟨i, P', m', MX', ys, k, oI', hle, hJi, hys, F', hsti, hi, rfl⟩
  by_cases hlt : i < n
  · refine W.item i _ _ _ hlt hsti fun v h' tk hPv hst' hk => ?_
    obtain ⟨o', ho'⟩ := hI _ _ hst'
    have F₁ : Fm c P' L m' ((D, lst (List.toArray ys) k) :: (I, o') :: MX') { s' with heap := h', toks := tk } := F'.upd1 ho' fun b o hb e => hk b o (by simpa using hb) e
    have frame : ∀ {P'' m'' MX'' ys' k' s₃}, P'.le P'' → Fm c P'' L m'' ((D, lst (List.toArray ys') k') :: (I, o') :: MX'') s₃ → St (i + 1) s₃.heap := fun {P'' m'' MX'' ys' k' s₃} hle'' F'' => by
      refine W.frame _ _ _ hst' fun b hb o e => ?_
      rcases hfp b hb with rfl | ⟨o₂, h₂⟩
      · rw [ho'] at e; cases e
        exact mu1 F''
      · have h3 := F₁.on b o₂ (hle _ _ h₂)
        have h4 : h'.get? b = some o₂ := h3
        rw [h4] at e; cases e
        exact F''.on b _ (hle'' _ _ (hle _ _ h₂))
    refine htg i v _ _ _ hPv hst' ?_
    refine wpAny_mono (turn i v P' m' MX' ys k o' _ _ hlt hPv hle hJi F₁) (fun _ s₁ h₁ => wpAny_mono h₁ (fun ok s₃ h₃ => ?_) fun _ _ e => e) fun _ _ e => e
    cases ok with
    | false =>
      simp only [Bool.false_eq_true, if_false] at h₃ ⊢
      obtain ⟨P'', m'', MX'', hle'', F'', hJ''⟩ := h₃
      exact ⟨n + 1 - (i + 1), by omega, i + 1, P'', m'', MX'', ys, k, o', Part.le_trans hle hle'', hJ'', Nat.le_succ_of_le hys, F'', frame hle'' F'', hlt, rfl⟩
    | true =>
      simp only [if_true] at h₃ ⊢
      refine wpAny_mono h₃ (fun y s₄ ⟨P'', m'', MX'', hle'', F'', hJ''⟩ => ?_) fun _ _ e => e
      refine z_append F'' (by omega) fun s₅ k' F₅ => ?_
      exact ⟨n + 1 - (i + 1), by omega, i + 1, P'', m'', MX'', ys ++ [y], k', o', Part.le_trans hle hle'', hJ'', by simp; omega, F₅, frame hle'' F₅, hlt, rfl⟩
  · have hin : i = n := by omega
    subst hin
    refine W.done _ _ _ hsti fun h' tk hk => ?_
    have F₂ := F'.swap
    refine done P' m' MX' ys k _ hle hJi ?_
    exact F₂.tail.other (a := I) (F₂.off _ (.head _)).1 (F₂.off _ (.head _)).2.1 (F₂.off _ (.head _)).2.2 (fun p hp => ((List.pairwise_cons.mp F₂.nd).1 p hp).symm) fun b o hb e => hk b o (by simpa using hb) e
theorem Ns.ofObj {h h' : Heap} {a : Addr} {m : Str → Option Value} {o : Obj} (hn : h.Ns a m) (ho : h.get? a = some o) (ho' : h'.get? a = some o) : h'.Ns a m := by
  obtain ⟨o₁, es, ep, e, r⟩ := hn
  rw [ho] at e; cases e
  exact ⟨o, es, ep, ho', r⟩
theorem comp_atG {acc₀ : Value} {elt iter : Expr} {ifs : List Expr} {scope : Scope} {cl : List (Str × Addr)} {pos : Pos} {I : Addr} {oI : Obj} {fp : List Addr} {n : Nat} {Pv : Nat → Value → Prop} {St : Nat → Heap → Prop} {RR : Value → Addr → Result → Shared → Prop}
    (hcell : ∀ y ∈ scope.names, y.2 ≠ .cell) (hkind : scope.kind = .function)
    (W : Walks prog w A I fp [I] n Pv St) (hI : ∀ i h, St i h → ∃ o, h.get? I = some o) (hfp : ∀ b ∈ fp, b = I ∨ ∃ o, P b = some o) (hn : n ≤ sizeLine) (htg : ∀ i v s' (Q : Unit → Shared → Prop) (E' : Value → Shared → Prop), Pv i v → St (i + 1) s'.heap → Q () s' → wpAny (model prog w) A (letOwnedTupleGo target (.ref I) v) Q E' s')
    (J : Nat → Part → List Value → List (Addr × Obj) → Prop) (F : Fm c P L m ((I, oI) :: (MX ++ M)) s) (hst : St 0 s.heap) (hJ : J 0 P [] MX) (hMX : ∀ i P' ys MX', J i P' ys MX' → MX'.map (·.1) = MX.map (·.1))
    (turn : ∀ C i v P' m' MX' ys k D oI' s' E', i < n → Pv i v → P.le P' → J i P' ys MX' →
      Fm ⟨s, hidL s.heap (I :: MX.map (·.1)), P⟩ P' C m' ((D, lst (List.toArray ys) k) :: (I, oI') :: MX') s' →
      wpAny (model prog w) A (assign target (compEnvC scope cl C env) v) (fun _ s₂ => wpAny (model prog w) A (testsOf ifs (compEnvC scope cl C env)) (fun ok s₃ =>
        if ok = true then wpAny (model prog w) A (eval elt (compEnvC scope cl C env)) (fun y s₄ => ∃ P'' m'' MX'', P'.le P'' ∧ Fm ⟨s, hidL s.heap (I :: MX.map (·.1)), P⟩ P'' C m'' ((D, lst (List.toArray ys) k) :: (I, oI') :: MX'') s₄ ∧ J (i + 1) P'' (ys ++ [y]) MX'') E' s₃
        else ∃ P'' m'' MX'', P'.le P'' ∧ Fm ⟨s, hidL s.heap (I :: MX.map (·.1)), P⟩ P'' C m'' ((D, lst (List.toArray ys) k) :: (I, oI') :: MX'') s₃ ∧ J (i + 1) P'' ys MX'') E' s₂) E' s')
    (done : ∀ D C oC mC P' MX' ys k s', P.le P' → J n P' ys MX' → Fm c P' L m ((C, oC) :: (D, lst (List.toArray ys) k) :: (MX' ++ M)) s' → s'.heap.Ns C mC → RR (.ref D) C (.ok .next) s') :
    wpAny (model prog w) A (newList []) (fun acc s₃ => wpAny (model prog w) A (newFunctionEnv scope env.globals cl [] env.qual none .none (some env)) (fun cenv s₄ =>
      codeAny (model prog w) A (.compStart (.ListComp elt [⟨target, iter, ifs, 0⟩] scope pos) 0 (.ref I) acc { cenv with scope := relabel scope env }) (RR acc cenv.locals) s₄) E s₃) E s := by
  refine wpAny_newObj_type (wpAny_newFunctionEnv hcell (by intro y hy; simp at hy) (fun h₁ hns₁ hsb₁ => ?_) hkind)
  dsimp only at hns₁ hsb₁ ⊢
  generalize hH2 : s.heap.push { cls := .type "list", dict := none, data := .seq ([] : List Value).toArray } = H2 at hns₁ hsb₁ ⊢
  have hC : H2.objs.size = s.heap.objs.size + 1 := by rw [← hH2, Heap.size_push]
  have below : ∀ b, b < s.heap.objs.size → b ≠ H2.objs.size ∧ b ≠ s.heap.objs.size := fun b hb => ⟨by rw [hC]; exact Nat.ne_of_lt (Nat.lt_succ_of_lt hb), Nat.ne_of_lt hb⟩
  have hDC : s.heap.objs.size ≠ H2.objs.size := by rw [hC]; exact Nat.ne_of_lt (Nat.lt_succ_self _)
  have old : ∀ b o, s.heap.get? b = some o → h₁.get? b = some o := fun b o e => hsb₁.extBut b o (below b (Heap.lt_size e)).1 (Heap.get?_push_of_some _ (hH2 ▸ Heap.get?_push_of_some _ e))
  have hacc : h₁.get? s.heap.objs.size = some (lst #[] 0) := hsb₁.extBut _ _ hDC (Heap.get?_push_of_some _ (hH2 ▸ Heap.get?_push_size _ rfl))
  have fresh : ∀ (K : Part), K.on s.heap → ∀ a, s.heap.objs.size ≤ a → K a = none := fun K hK a ha => by
    cases e : K a with
    | none => rfl
    | some o' => exact absurd (Heap.lt_size (hK _ _ e)) (Nat.not_lt.mpr ha)
  have hCle : s.heap.objs.size ≤ H2.objs.size := by rw [hC]; exact Nat.le_succ _
  have Fi : Fm ⟨s, hidL s.heap (I :: MX.map (·.1)), P⟩ P H2.objs.size (fun x => ([] : List (Str × Value)).reverse.lookup x) ((s.heap.objs.size, lst #[] 0) :: (I, oI) :: MX) { s with heap := h₁, toks := s.toks + ([] : List (Str × Value)).length } := by
    have inM : ∀ p ∈ (I, oI) :: MX, p ∈ (I, oI) :: (MX ++ M) := fun p hp => by
      rcases List.mem_cons.mp hp with rfl | hp
      · exact .head _
      · exact .tail _ (List.mem_append_left _ hp)
    exact {
      same := ⟨_, _, rfl⟩
      ns := hns₁
      old := fun b o e => old b o (hidL_on _ _ b o e)
      le := Part.le_refl _
      on := fun b o e => old b o (F.on b o e)
      new := fun b o e => .inl e
      offL := fresh P F.on _ hCle
      newL := fresh _ (hidL_on _ _) _ hCle
      mu := fun p hp => by
        rcases List.mem_cons.mp hp with rfl | hp
        · exact hacc
        · exact old _ _ (F.mu p (inM p hp))
      off := fun p hp => by
        rcases List.mem_cons.mp hp with rfl | hp
        · exact ⟨hDC, fresh P F.on _ (Nat.le_refl _), fresh _ (hidL_on _ _) _ (Nat.le_refl _)⟩
        · refine ⟨(below _ (Heap.lt_size (F.mu p (inM p hp)))).1, (F.off p (inM p hp)).2.1, hidL_in ?_⟩
          rcases List.mem_cons.mp hp with rfl | hp
          · exact .head _
          · exact .tail _ (List.mem_map_of_mem hp)
      nd := by
        have h1 := List.pairwise_cons.mp F.nd
        have h2 := List.pairwise_append.mp h1.2
        refine List.pairwise_cons.mpr ⟨fun p hp => (below _ (Heap.lt_size (F.mu p (inM p hp)))).2.symm, List.pairwise_cons.mpr ⟨fun p hp => h1.1 p (List.mem_append_left _ hp), h2.1⟩⟩ }
  have hst₁ : St 0 h₁ := W.frame _ _ _ hst fun b _ o e => old b o e
  have loop : ∀ s₃ : Shared, s₃ = { s with heap := h₁, toks := s.toks + ([] : List (Str × Value)).length } →
      codeAny (model prog w) A (.compLoop (.ListComp elt [⟨target, iter, ifs, 0⟩] scope pos) 0 (.ref I) (.ref s.heap.objs.size) (compEnvC scope cl H2.objs.size env)) (RR (.ref s.heap.objs.size) H2.objs.size) s₃ := by
    rintro s₃ rfl
    refine comp_runG (cenv := compEnvC scope cl H2.objs.size env) W hI hfp hn htg J Fi hst₁ hJ (fun i v P' m' MX' ys k oI' s' E' hi hv hle hj F' => turn H2.objs.size i v P' m' MX' ys k _ oI' s' E' hi hv hle hj F') fun P' m' MX' ys k s' hle hj F' => ?_
    have G := (F.tail).callL (MX' := MX') F'.ret (fun a ha => by
      rcases List.mem_cons.mp ha with rfl | ha
      · exact .inr ⟨(F.off _ (.head _)).1, (F.off _ (.head _)).2.2, fun p hp => ((List.pairwise_cons.mp F.nd).1 p (List.mem_append_right _ hp)).symm⟩
      · exact .inl ha) (hMX _ _ _ _ hj) fun p hp => ⟨F'.mu p (.tail _ hp), (F'.off p (.tail _ hp)).2.1⟩
    have lows : ∀ p ∈ MX' ++ M, p.1 < s.heap.objs.size := fun p hp => by
      rcases List.mem_append.mp hp with hp | hp
      · have : p.1 ∈ MX.map (·.1) := hMX _ _ _ _ hj ▸ List.mem_map_of_mem hp
        obtain ⟨q, hq, e⟩ := List.mem_map.mp this
        rw [← e]; exact Heap.lt_size (F.mu q (.tail _ (List.mem_append_left _ hq)))
      · exact Heap.lt_size (F.mu p (.tail _ (List.mem_append_right _ hp)))
    have hL := F.ns.lt
    have hO : ∀ a, s.heap.objs.size ≤ a → c.O a = none := fun a ha => fresh _ F.old a ha
    have G₁ := G.learnM (a := s.heap.objs.size) (o := lst (List.toArray ys) k) (mu0 F') (F'.off _ (.head _)).2.1 (hO _ (Nat.le_refl _)) (Nat.ne_of_gt hL) fun p hp => Nat.ne_of_lt (lows p hp)
    obtain ⟨oC, es, ep, hoC, hr⟩ := F'.ns
    have G₂ := G₁.learnM (a := H2.objs.size) (o := oC) hoC F'.offL (hO _ hCle) (Nat.ne_of_gt (Nat.lt_of_lt_of_le hL hCle)) (fun p hp => by
      rcases List.mem_cons.mp hp with rfl | hp
      · exact hDC
      · exact Nat.ne_of_lt (Nat.lt_of_lt_of_le (lows p hp) hCle))
    exact done _ _ _ _ P' MX' ys k s' hle hj G₂ ⟨oC, es, ep, hoC, hr⟩
  show codeAny (model prog w) A (.compStart _ 0 (.ref I) (.ref s.heap.objs.size) (compEnvC scope cl H2.objs.size env)) _ _
  exact codeAny_compStart_list (loop _ rfl) (W.self 0 _ _ _ hst₁ (loop _ rfl))
theorem comp_at {acc₀ : Value} {elt iter : Expr} {ifs : List Expr} {scope : Scope} {cl : List (Str × Addr)} {pos : Pos} {I : Addr} {oI : Obj} {fp : List Addr} {n : Nat} {Pv : Nat → Value → Prop} {St : Nat → Heap → Prop} {RR : Value → Addr → Result → Shared → Prop}
    (hcell : ∀ y ∈ scope.names, y.2 ≠ .cell) (hkind : scope.kind = .function)
    (W : Walks prog w A I fp [I] n Pv St) (hI : ∀ i h, St i h → ∃ o, h.get? I = some o) (hfp : ∀ b ∈ fp, b = I ∨ ∃ o, P b = some o) (hn : n ≤ sizeLine) (ht : ∀ v, letOwnedTupleGo target (.ref I) v = pure ())
    (J : Nat → Part → List Value → List (Addr × Obj) → Prop) (F : Fm c P L m ((I, oI) :: (MX ++ M)) s) (hst : St 0 s.heap) (hJ : J 0 P [] MX) (hMX : ∀ i P' ys MX', J i P' ys MX' → MX'.map (·.1) = MX.map (·.1))
    (turn : ∀ C i v P' m' MX' ys k D oI' s' E', i < n → Pv i v → P.le P' → J i P' ys MX' →
      Fm ⟨s, hidL s.heap (I :: MX.map (·.1)), P⟩ P' C m' ((D, lst (List.toArray ys) k) :: (I, oI') :: MX') s' →
      wpAny (model prog w) A (assign target (compEnvC scope cl C env) v) (fun _ s₂ => wpAny (model prog w) A (testsOf ifs (compEnvC scope cl C env)) (fun ok s₃ =>
        if ok = true then wpAny (model prog w) A (eval elt (compEnvC scope cl C env)) (fun y s₄ => ∃ P'' m'' MX'', P'.le P'' ∧ Fm ⟨s, hidL s.heap (I :: MX.map (·.1)), P⟩ P'' C m'' ((D, lst (List.toArray ys) k) :: (I, oI') :: MX'') s₄ ∧ J (i + 1) P'' (ys ++ [y]) MX'') E' s₃
        else ∃ P'' m'' MX'', P'.le P'' ∧ Fm ⟨s, hidL s.heap (I :: MX.map (·.1)), P⟩ P'' C m'' ((D, lst (List.toArray ys) k) :: (I, oI') :: MX'') s₃ ∧ J (i + 1) P'' ys MX'') E' s₂) E' s')
    (done : ∀ D C oC mC P' MX' ys k s', P.le P' → J n P' ys MX' → Fm c P' L m ((C, oC) :: (D, lst (List.toArray ys) k) :: (MX' ++ M)) s' → s'.heap.Ns C mC → RR (.ref D) C (.ok .next) s') :
    wpAny (model prog w) A (newList []) (fun acc s₃ => wpAny (model prog w) A (newFunctionEnv scope env.globals cl [] env.qual none .none (some env)) (fun cenv s₄ =>
      codeAny (model prog w) A (.compStart (.ListComp elt [⟨target, iter, ifs, 0⟩] scope pos) 0 (.ref I) acc { cenv with scope := relabel scope env }) (RR acc cenv.locals) s₄) E s₃) E s := by
  exact comp_atG (acc₀ := acc₀) hcell hkind W hI hfp hn (fun i v s' Q' E' _ _ h => by rw [ht v]; exact wpAny_pure h) J F hst hJ hMX turn done
/-- a list comprehension, its value handed on -/
theorem e_comp {elt iter : Expr} {ifs : List Expr} {scope : Scope} {cl : List (Str × Addr)} {pos : Pos}
    (hs : ∀ x, foldedSetIterable iter env x = pure x) (hclos : closureFor scope env = pure cl) (hkind : scope.kind = .function) (hnames : (scope.names.all fun x => x.2 != .local || scope.names.lookup x.1 == some .local) = true)
    (h : wpAny (model prog w) A (eval iter env) (fun x s₁ => wpAny (model prog w) A (pyIter x) (fun it s₂ => wpAny (model prog w) A (newList []) (fun acc s₃ =>
      wpAny (model prog w) A (newFunctionEnv scope env.globals cl [] env.qual none .none (some env)) (fun cenv s₄ =>
        codeAny (model prog w) A (.compStart (.ListComp elt [⟨target, iter, ifs, 0⟩] scope pos) 0 it acc { cenv with scope := relabel scope env }) (compPost (model prog w) A E none Q acc cenv.locals) s₄) E s₃) E s₂) E s₁) E s) :
    wpAny (model prog w) A (eval (.ListComp elt [⟨target, iter, ifs, 0⟩] scope pos) env) Q E s := by
  rw [eval_ListComp]
  exact wpAny_comprehension_free (use := none) rfl hs hclos hkind (fun x hx hl => by have := List.all_eq_true.mp hnames x hx; rw [hl] at this; simpa using this) h
theorem done_none {D C : Addr} {oC : Obj} {mC : Str → Option Value} {o : Obj} (F : Fm c P L m ((C, oC) :: (D, o) :: M) s) (hn : s.heap.Ns C mC) (h : ∀ s', Fm c P L m ((D, o) :: M) s' → Q (.ref D) s') :
    compPost (model prog w) A E none Q (.ref D) C (.ok .next) s :=
  ⟨mC, hn, fun h' hs => h _ (F.tail.other (tk := s.toks) (F.off _ (.head _)).1 (F.off _ (.head _)).2.1 (F.off _ (.head _)).2.2 (fun p hp => ((List.pairwise_cons.mp F.nd).1 p hp).symm) hs.extBut)⟩
/-- a list comprehension whose value is stored at once -/
theorem x_comp {y : Str} {py : Pos} {elt iter : Expr} {ifs : List Expr} {scope : Scope} {cl : List (Str × Addr)} {pos spos : Pos} {rest : List Stmt} {Q : Flow → Shared → Prop}
    (hsw : swapsWith (.ListComp elt [⟨target, iter, ifs, 0⟩] scope pos) (some (.Name y py)) spos.line env = pure true)
    (hs : ∀ x, foldedSetIterable iter env x = pure x) (hclos : closureFor scope env = pure cl) (hkind : scope.kind = .function) (hnames : (scope.names.all fun x => x.2 != .local || scope.names.lookup x.1 == some .local) = true)
    (h : wpAny (model prog w) A (eval iter env) (fun x s₁ => wpAny (model prog w) A (pyIter x) (fun it s₂ => wpAny (model prog w) A (newList []) (fun acc s₃ =>
      wpAny (model prog w) A (newFunctionEnv scope env.globals cl [] env.qual none .none (some env)) (fun cenv s₄ =>
        codeAny (model prog w) A (.compStart (.ListComp elt [⟨target, iter, ifs, 0⟩] scope pos) 0 it acc { cenv with scope := relabel scope env })
          (compPost (model prog w) A E (some (assign (.Name y py) env)) (fun _ s' => wpAny (model prog w) A (execs rest env) Q E s') acc cenv.locals) s₄) E s₃) E s₂) E s₁) E s) :
    wpAny (model prog w) A (execs (.Assign [.Name y py] (.ListComp elt [⟨target, iter, ifs, 0⟩] scope pos) spos :: rest) env) Q E s := by
  refine wpAny_execs_cons ?_
  rw [exec_Assign_Name_used _ _ _ _ hsw]
  refine wpAny_bind (wpAny_standAt (wpAny_bind ?_))
  show wpAny _ A (do let _ ← comprehension (.ListComp elt [⟨target, iter, ifs, 0⟩] scope pos) scope env _ (newList []) false (eval iter env) (some (assign (.Name y py) env))) _ _ s
  refine wpAny_bind (wpAny_mono (wpAny_comprehension_free (use := some (assign (.Name y py) env)) (Q := fun _ s' => wpAny (model prog w) A (execs rest env) Q E s') rfl hs hclos hkind
    (fun x hx hl => by have := List.all_eq_true.mp hnames x hx; rw [hl] at this; simpa using this) h) (fun _ s' hq => wpAny_pure (wpAny_pure hq)) fun _ _ e => e)
theorem done_use {y : Str} {py : Pos} {D C : Addr} {oC : Obj} {mC : Str → Option Value} {o : Obj} {Q : Value → Shared → Prop} (F : Fm c P L m ((C, oC) :: (D, o) :: M) s) (hn : s.heap.Ns C mC) (hL : env.locals = L) (hk : env.scope.kind = .function) (hl : env.kindOf y = some .local)
    (h : ∀ s', Fm c P L (fun z => if z = y then some (.ref D) else m z) ((D, o) :: M) s' → Q .none s') :
    compPost (model prog w) A E (some (assign (.Name y py) env)) Q (.ref D) C (.ok .next) s := by
  show wpAny _ A (assign (.Name y py) env (.ref D)) _ _ _
  refine as_name F hL hk hl fun s' F' => ⟨mC, Ns.ofObj hn (mu0 F) (mu0 F'), fun h' hs => h _ ?_⟩
  exact F'.tail.other (tk := s'.toks) (F'.off _ (.head _)).1 (F'.off _ (.head _)).2.1 (F'.off _ (.head _)).2.2 (fun p hp => ((List.pairwise_cons.mp F'.nd).1 p hp).symm) hs.extBut
end
end Mine
end
section
open PySem PySem.W PyProof.Rows
open Builtin Builtin.Str
set_option autoImplicit false
set_option linter.unusedVariables false
namespace Mine
noncomputable abbrev cp (x : Str) : List Nat := x.cps.toList
theorem str_ext {x y : Str} (h : cp x = cp y) : x = y := by
  obtain ⟨x⟩ := x; obtain ⟨y⟩ := y
  exact congrArg Str.mk (Array.toList_inj.mp h)
theorem cp_append (x y : Str) : cp (x ++ y) = cp x ++ cp y := by
  show (x.cps ++ y.cps).toList = _
  rw [Array.toList_append]
theorem cp_length (x : Str) : (cp x).length = x.length := Array.length_toList ..
noncomputable def rowsD (xss : List (List Str)) : List PyData := xss.map fun xs => .list (xs.map .str)
/-! the library's rules of Fr and News, for Fm -/
noncomputable def noHeap : Heap := { objs := #[] }
theorem noHeap_get (a : Addr) : noHeap.get? a = none := rfl
noncomputable def allBut (h : Heap) (L : Addr) : List (Addr × Obj) := (List.range h.objs.size).filterMap fun a => if a = L then none else (h.get? a).map (a, ·)
theorem mem_allBut {h : Heap} {L a : Addr} {o : Obj} : (a, o) ∈ allBut h L ↔ a ≠ L ∧ h.get? a = some o := by
  unfold allBut
  rw [List.mem_filterMap]
  constructor
  · rintro ⟨b, hb, e⟩
    split at e
    · cases e
    · rename_i hne
      cases hg : h.get? b with
      | none => rw [hg] at e; cases e
      | some x => rw [hg] at e; cases e; exact ⟨hne, hg⟩
  · rintro ⟨hne, hg⟩
    exact ⟨a, List.mem_range.mpr (Heap.lt_size hg), by rw [if_neg hne, hg]; rfl⟩
theorem Fm.fr {c : Cx} {P : Part} {L : Addr} {m : Str → Option Value} {M : List (Addr × Obj)} {s : Shared} (F : Fm c P L m M s) : Fr noHeap L s.heap m := ⟨F.ns, fun b o e => (by rw [noHeap_get] at e; cases e), Nat.zero_le _⟩
theorem news_all (h : Heap) (L : Addr) : News noHeap L h (allBut h L) := fun p hp => ⟨(mem_allBut.mp hp).2, (mem_allBut.mp hp).1, noHeap_get _⟩
theorem Fm.of_fr {c : Cx} {P : Part} {L : Addr} {m m' : Str → Option Value} {M : List (Addr × Obj)} {s : Shared} {h' : Heap} {tk : Nat} (F : Fm c P L m M s) (F' : Fr noHeap L h' m') (N : News noHeap L h' (allBut s.heap L)) : Fm c P L m' M { s with heap := h', toks := tk } :=
  have k : ∀ b o, b ≠ L → s.heap.get? b = some o → h'.get? b = some o := fun b o hb e => (N _ (mem_allBut.mpr ⟨hb, e⟩)).1
  { F with
    same := let ⟨_, _, e⟩ := F.same; ⟨h', tk, by rw [e]⟩
    ns := F'.ns
    old := fun b o e => k b o (fun q => by rw [q, F.newL] at e; cases e) (F.old b o e)
    on := fun b o e => k b o (fun q => by rw [q, F.offL] at e; cases e) (F.on b o e)
    mu := fun p hp => k _ _ (F.off p hp).1 (F.mu p hp) }
section
variable {prog : Program} {w : World} {mb : Str → Option Value} {A : Around} {E : Value → Shared → Prop} {s : Shared} {env : Env}
variable {c : Cx} {P : Part} {L : Addr} {m : Str → Option Value} {M : List (Addr × Obj)} {Q : Value → Shared → Prop}
/-- a new object behind a rule of the library -/
theorem Fm.of_fr1 {D : Addr} {o : Obj} {m' : Str → Option Value} {h' : Heap} {tk : Nat} (F : Fm c P L m M s) (F' : Fr noHeap L h' m') (N : News noHeap L h' ((D, o) :: allBut s.heap L)) (hD : ∀ p ∈ allBut s.heap L, p.1 < D) (hDL : D ≠ L) (hdo : s.heap.get? D = none) :
    Fm c (P.set D o) L m' M { s with heap := h', toks := tk } ∧ P.le (P.set D o) := by
  have F₁ := F.of_fr (tk := tk) F' fun p hp => N p (.tail _ hp)
  have hP : P D = none := by
    cases e : P D with
    | none => rfl
    | some x => rw [F.on _ _ e] at hdo; cases hdo
  refine ⟨F₁.learn (N _ (.head _)).1 ?_ hDL (fun p hp e => ?_), Part.le_set hP⟩
  · cases e : c.O D with
    | none => rfl
    | some x => rw [F.old _ _ e] at hdo; cases hdo
  · have := F.mu p hp; rw [e, hdo] at this; cases this
theorem get_size (h : Heap) : h.get? h.objs.size = none := Heap.get?_none_of_le (Nat.le_refl _)
/-! slices of lists -/
noncomputable def SlL (prog : Program) (w : World) (A : Around) (E : Value → Shared → Prop) (o l u st : Value) (Q : Value → Shared → Prop) (s : Shared) : Prop :=
  ∃ a vs n lo hi stp, o = .ref a ∧ s.heap.get? a = some (lst vs n) ∧ IsPart l lo ∧ IsPart u hi ∧ IsPart st stp ∧ stp ≠ some 0 ∧ vs.size ≤ sizeLine ∧
    Q (.ref (s.heap.objs.size + 1)) { s with heap := (s.heap.push { cls := .type "slice", data := .fields #[l, u, st] }).push (lst (slicePick vs lo hi stp) 0) }
theorem slL_tail {o l u st : Value} (h : SlL prog w A E o l u st Q s) :
    Shared.TypeIs { s with heap := s.heap.push { cls := .type "slice", data := .fields #[l, u, st] } } o "list" ∧
      wpAny (model prog w) A (getItem o (.ref s.heap.objs.size)) Q E { s with heap := s.heap.push { cls := .type "slice", data := .fields #[l, u, st] } } := by
  obtain ⟨a, vs, n, lo, hi, stp, rfl, ho, p1, p2, p3, h0, hsz, h⟩ := h
  have hl : Heap.IsList (s.heap.push { cls := .type "slice", data := .fields #[l, u, st] }) a vs := ⟨_, Heap.get?_push_of_some _ ho, rfl, n, rfl⟩
  refine ⟨Heap.IsList.typeIs (s := { s with heap := s.heap.push { cls := .type "slice", data := .fields #[l, u, st] } }) hl, wpAny_getItem_list_slice hl (.new _ _ _ _) p1 p2 p3 h0 ?_ hsz⟩
  have e : (s.heap.push { cls := .type "slice", data := .fields #[l, u, st] }).objs.size = s.heap.objs.size + 1 := Heap.size_push ..
  show Q (.ref (s.heap.push _).objs.size) _
  rw [e]; exact h
theorem e_slL {value : Expr} {lo up : Option Expr} {p pos : Pos}
    (h : wpAny (model prog w) A (eval value env) (fun o s₁ => wpAny (model prog w) A (evalPart lo env) (fun l s₂ => wpAny (model prog w) A (evalPart up env) (fun u s₃ => SlL prog w A E o l u .none Q s₃) E s₂) E s₁) E s)
    (ht : ∀ o r, letTemporaryGo value o r = pure ()) : wpAny (model prog w) A (eval (.Subscript value (.Slice lo up none p) pos) env) Q E s := by
  refine wpAny_Subscript_Slice (T := "list") slot_list_getitem.lookup (wpAny_mono h (fun o s₁ h₁ => wpAny_Slice (wpAny_mono h₁ (fun l s₂ h₂ => wpAny_mono h₂ (fun u s₃ h₃ => ?_) fun _ _ e => e) fun _ _ e => e)) fun _ _ e => e) ht
  rw [evalPart_none]
  exact wpAny_pure (slL_tail h₃)
theorem e_slL3 {value st : Expr} {lo up : Option Expr} {p pos : Pos}
    (h : wpAny (model prog w) A (eval value env) (fun o s₁ => wpAny (model prog w) A (evalPart lo env) (fun l s₂ => wpAny (model prog w) A (evalPart up env) (fun u s₃ => wpAny (model prog w) A (eval st env) (fun t s₄ => SlL prog w A E o l u t Q s₄) E s₃) E s₂) E s₁) E s)
    (ht : ∀ o r, letTemporaryGo value o r = pure ()) : wpAny (model prog w) A (eval (.Subscript value (.Slice lo up (some st) p) pos) env) Q E s := by
  refine wpAny_Subscript_Slice_step (T := "list") slot_list_getitem.lookup (wpAny_mono h (fun o s₁ h₁ => wpAny_Slice (wpAny_mono h₁ (fun l s₂ h₂ => wpAny_mono h₂ (fun u s₃ h₃ => ?_) fun _ _ e => e) fun _ _ e => e)) fun _ _ e => e) ht
  rw [evalPart_some]
  exact wpAny_mono h₃ (fun t s₄ h₄ => slL_tail h₄) fun _ _ e => e
theorem p_none {Q : Value → Shared → Prop} (h : Q .none s) : wpAny (model prog w) A (evalPart none env) Q E s := wpAny_pure h
theorem p_some {e : Expr} {Q : Value → Shared → Prop} (h : wpAny (model prog w) A (eval e env) Q E s) : wpAny (model prog w) A (evalPart (some e) env) Q E s := h
theorem Fm.alloc2 (F : Fm c P L m M s) (o₁ o₂ : Obj) (hf : o₂.isFreed = false) : Fm c (P.set (s.heap.objs.size + 1) o₂) L m M { s with heap := (s.heap.push o₁).push o₂ } := by
  have e : (s.heap.push o₁).objs.size = s.heap.objs.size + 1 := Heap.size_push ..
  have := (F.push o₁).alloc o₂ hf
  rw [show ({ s with heap := s.heap.push o₁ } : Shared).heap.objs.size = s.heap.objs.size + 1 from e] at this
  exact this
theorem Fm.le_alloc2 (F : Fm c P L m M s) (o₁ o₂ : Obj) : P.le (P.set (s.heap.objs.size + 1) o₂) := by
  have e : (s.heap.push o₁).objs.size = s.heap.objs.size + 1 := Heap.size_push ..
  have := (F.push o₁).le_alloc o₂
  rw [show ({ s with heap := s.heap.push o₁ } : Shared).heap.objs.size = s.heap.objs.size + 1 from e] at this
  exact this
/-- a slice of a list that stays -/
theorem z_slv {a : Addr} {vs us : List Value} {n : Nat} {ds : List PyData} {l u st : Value} {lo hi stp : Option Int} (F : Fm c P L m M s) (ho : s.heap.get? a = some (lst vs.toArray n)) (p1 : IsPart l lo) (p2 : IsPart u hi) (p3 : IsPart st stp) (h0 : stp ≠ some 0) (hsz : vs.length ≤ sizeLine)
    (hp : slicePick vs.toArray lo hi stp = us.toArray) (hr : RepAll P us ds) (h : ∀ v P' s', P.le P' → Rep P' v (.list ds) → Fm c P' L m M s' → Q v s') : SlL prog w A E (.ref a) l u st Q s := by
  refine ⟨a, _, n, lo, hi, stp, rfl, ho, p1, p2, p3, h0, by simpa using hsz, ?_⟩
  rw [hp]
  have hle := F.le_alloc2 { cls := .type "slice", data := .fields #[l, u, st] } (lst us.toArray 0)
  exact h _ _ _ hle (.list Part.set_self (hr.mono hle)) (F.alloc2 _ _ rfl)
theorem z_sl {v : Value} {ds es : List PyData} {l u st : Value} {lo hi stp : Option Int} (F : Fm c P L m M s) (hr : Rep P v (.list ds)) (p1 : IsPart l lo) (p2 : IsPart u hi) (p3 : IsPart st stp) (h0 : stp ≠ some 0) (hsz : ds.length ≤ sizeLine)
    (hp : ∀ vs, RepAll P vs ds → ∃ us, slicePick vs.toArray lo hi stp = us.toArray ∧ RepAll P us es) (h : ∀ v P' s', P.le P' → Rep P' v (.list es) → Fm c P' L m M s' → Q v s') : SlL prog w A E v l u st Q s := by
  obtain ⟨a, vs, n, rfl, ha, hr⟩ := hr.list_inv
  obtain ⟨us, e, hu⟩ := hp vs hr
  exact z_slv F (F.on _ _ ha) p1 p2 p3 h0 (hr.length ▸ hsz) e hu h
theorem pick_take {vs : List Value} {ds : List PyData} {k : Int} (h0 : 0 ≤ k) (h : RepAll P vs ds) : ∃ us, slicePick vs.toArray none (some k) none = us.toArray ∧ RepAll P us (ds.take k.toNat) :=
  ⟨vs.take k.toNat, by obtain ⟨n, rfl⟩ := Int.eq_ofNat_of_zero_le h0; exact slicePick_upto' _ _, h.take _⟩
theorem pick_drop {vs : List Value} {ds : List PyData} {k : Int} (h0 : 0 ≤ k) (h : RepAll P vs ds) : ∃ us, slicePick vs.toArray (some k) none none = us.toArray ∧ RepAll P us (ds.drop k.toNat) :=
  ⟨vs.drop k.toNat, by obtain ⟨n, rfl⟩ := Int.eq_ofNat_of_zero_le h0; exact slicePick_from' _ _, h.drop _⟩
theorem pick_mid {vs : List Value} {ds : List PyData} {i j : Int} (h0 : 0 ≤ i) (hij : i ≤ j) (hj : j ≤ ds.length) (h : RepAll P vs ds) : ∃ us, slicePick vs.toArray (some i) (some j) none = us.toArray ∧ RepAll P us ((ds.drop i.toNat).take (j.toNat - i.toNat)) := by
  obtain ⟨a, rfl⟩ := Int.eq_ofNat_of_zero_le h0
  obtain ⟨b, rfl⟩ := Int.eq_ofNat_of_zero_le (Int.le_trans h0 hij)
  refine ⟨(vs.drop a).take (b - a), ?_, (h.drop _).take _⟩
  rw [slicePick_run _ a b (by rw [List.size_toArray, h.length]; lia) (by lia)]
theorem pick_all {vs : List Value} {ds : List PyData} (h : RepAll P vs ds) : ∃ us, slicePick vs.toArray none none none = us.toArray ∧ RepAll P us ds := ⟨vs, slicePick_all _, h⟩
theorem pick_rev {vs : List Value} {ds : List PyData} (h : RepAll P vs ds) : ∃ us, slicePick vs.toArray none none (some (-1)) = us.toArray ∧ RepAll P us ds.reverse := ⟨vs.reverse, by simpa using krv_pick vs.toArray, h.reverse⟩
theorem pick_last {vs : List Value} {ds : List PyData} (h : RepAll P vs ds) : ∃ us, slicePick vs.toArray none (some (-1)) none = us.toArray ∧ RepAll P us ds.dropLast := by
  refine ⟨vs.take (vs.length - 1), ?_, ?_⟩
  · rw [slicePick_plain]
    congr 1
    simp only [Option.elim, List.drop_zero, Nat.sub_zero, List.size_toArray]
    congr 1
    unfold clipAt
    lia
  · rw [List.dropLast_eq_take, ← h.length]
    exact h.take _
/-! slices of strs -/
noncomputable def SlS (o l u : Value) (Q : Value → Shared → Prop) (s : Shared) : Prop :=
  ∃ x t lo hi, o = .str x t ∧ l = partValue lo ∧ u = partValue hi ∧ (sliceMade x t lo hi none).post Q { s with heap := s.heap.push { cls := .type "slice", data := .fields #[l, u, .none] } }
theorem e_slS {value : Expr} {lo up : Option Expr} {p pos : Pos}
    (h : wpAny (model prog w) A (eval value env) (fun o s₁ => wpAny (model prog w) A (evalPart lo env) (fun l s₂ => wpAny (model prog w) A (evalPart up env) (fun u s₃ => SlS o l u Q s₃) E s₂) E s₁) E s)
    (ht : ∀ o r, letTemporaryGo value o r = pure ()) : wpAny (model prog w) A (eval (.Subscript value (.Slice lo up none p) pos) env) Q E s := wpAny_Subscript_str_slice h ht
theorem sliceNat (x : Str) (l u : Option Int) (a b : Nat) (hab : a ≤ b) (hb : b ≤ x.length) (h : strSliceIndices l u 1 x.length = (List.range (b - a)).map (a + ·)) : cp (Txt.slice x l u) = ((cp x).drop a).take (b - a) := by
  have key : ((List.range (b - a)).map (a + ·)).filterMap (x.cps[·]?) = ((cp x).drop a).take (b - a) := by
    apply List.ext_getElem?
    intro i
    rw [List.filterMap_map]
    have fm : ∀ l : List Nat, (∀ i ∈ l, a + i < x.cps.size) → l.filterMap ((fun j => x.cps[j]?) ∘ (a + ·)) = l.map fun i => (cp x).getD (a + i) 0 := by
      intro l hl
      induction l with
      | nil => rfl
      | cons i l ih =>
        have := hl i (.head _)
        rw [List.filterMap_cons, List.map_cons, ← ih fun j hj => hl j (.tail _ hj)]
        simp [this]
    rw [fm _ fun i hi => by have := List.mem_range.mp hi; have : x.length = x.cps.size := rfl; lia]
    by_cases hi : i < b - a
    · have : a + i < x.cps.size := by have : x.length = x.cps.size := rfl; lia
      simp [hi, this]
    · simp [hi]
      lia
  unfold Txt.slice
  rw [h]
  split
  · rename_i hc
    simp only [List.length_map, List.length_range, beq_self_eq_true, Bool.true_and, beq_iff_eq] at hc
    have e1 : a = 0 := by lia
    subst e1
    rw [Nat.sub_zero] at hc ⊢
    rw [hc, List.drop_zero, List.take_of_length_le (by simp [Str.length])]
  · show ((((List.range (b - a)).map (a + ·)).filterMap (x.cps[·]?)).toArray).toList = _
    rw [key]
theorem slS_take (x : Str) (k : Nat) : cp (Txt.slice x none (some (k : Int))) = (cp x).take k := by
  have h := sliceNat x none (some (k : Int)) 0 (min k x.length) (Nat.zero_le _) (Nat.min_le_right _ _) (by
    unfold strSliceIndices
    have h2 : ¬ ((k : Int) < 0) := by lia
    simp only [h2, if_false, show (1 : Int) > 0 by decide, if_true]
    rw [show max (0 : Int) (min (k : Int) (x.length : Int)) = ((min k x.length : Nat) : Int) by lia]
    exact sliceRange_one 0 _)
  rw [h, List.drop_zero, Nat.sub_zero, ← cp_length]
  rw [List.take_eq_take_iff]; lia
theorem slS_drop (x : Str) (k : Nat) : cp (Txt.slice x (some (k : Int)) none) = (cp x).drop k := by
  have h := sliceNat x (some (k : Int)) none (min k x.length) x.length (Nat.min_le_right _ _) (Nat.le_refl _) (by
    unfold strSliceIndices
    have h2 : ¬ ((k : Int) < 0) := by lia
    simp only [h2, if_false, show (1 : Int) > 0 by decide, if_true]
    rw [show max (0 : Int) (min (k : Int) (x.length : Int)) = ((min k x.length : Nat) : Int) by lia]
    exact sliceRange_one _ _)
  rw [h, List.take_of_length_le (by rw [List.length_drop, cp_length]; exact Nat.le_refl _)]
  rcases Nat.le_total k x.length with h | h
  · rw [Nat.min_eq_left h]
  · rw [Nat.min_eq_right h, List.drop_of_length_le (by rw [cp_length]; exact Nat.le_refl _), List.drop_of_length_le (by rw [cp_length]; exact h)]
theorem z_slS {x : Str} {t : Tok} {l u : Value} {lo hi : Option (Int × Tok)} (F : Fm c P L m M s) (hl : l = partValue lo) (hu : u = partValue hi) (hsz : x.length ≤ sizeLine)
    (h : ∀ t' s', Fm c P L m M s' → Q (.str (Txt.slice x (lo.map (·.1)) (hi.map (·.1))) t') s') : SlS (.str x t) l u Q s :=
  ⟨x, t, lo, hi, rfl, hl, hu, post_val_or_str ⟨Nat.le_trans (Txt.slice_le x _ _) hsz, fun t' k => h _ _ ((F.push _).toks _)⟩⟩
/-! methods of strs -/
theorem z_sw {x y : Str} {t u : Tok} (h : Q (.bool (Txt.startswith x y)) s) : wpAny (model prog w) A (call (.builtin "str.startswith") [.str x t, .str y u]) Q E s := by with_reducible exact SC.startswith h
theorem z_ew {x y : Str} {t u : Tok} (h : Q (.bool (Txt.endswith x y)) s) : wpAny (model prog w) A (call (.builtin "str.endswith") [.str x t, .str y u]) Q E s := by with_reducible exact SC.endswith h
theorem z_cnt {x y : Str} {t u : Tok} (F : Fm c P L m M s) (h : ∀ t s', Fm c P L m M s' → Q (.int (Txt.count x y) t) s') : wpAny (model prog w) A (call (.builtin "str.count") [.str x t, .str y u]) Q E s := by with_reducible exact SC.count (h _ _ (F.toks _))
noncomputable def joinL (sep : List Nat) : List (List Nat) → List Nat
  | [] => []
  | [x] => x
  | x :: y :: l => x ++ sep ++ joinL sep (y :: l)
theorem cp_join (sep : Str) : ∀ l : List Str, cp (Str.join sep l) = joinL (cp sep) (l.map cp)
  | [] => rfl
  | [x] => rfl
  | x :: y :: l => by
    show cp (x ++ sep ++ Str.join sep (y :: l)) = cp x ++ cp sep ++ joinL (cp sep) ((y :: l).map cp)
    rw [cp_append, cp_append, cp_join sep (y :: l)]
theorem z_join {x : Str} {t : Tok} {v : Value} {texts : List Str} (F : Fm c P L m M s) (hr : Rep P v (.list (texts.map .str))) (hok : JoinOk x texts = true)
    (h : ∀ t s', Fm c P L m M s' → Q (.str (Str.join x texts) t) s') : wpAny (model prog w) A (call (.builtin "str.join") [.str x t, v]) Q E s := by
  obtain ⟨a, vs, n, rfl, ha, hr⟩ := hr.list_inv
  obtain ⟨l, rfl, hl⟩ := hr.strs
  exact SC.join (heap_list F ha) hl hok fun t' k => by
    rw [show Txt.join x texts = Str.join x texts from StrLaws.glued_eq_join _ _]
    exact h _ _ (F.toks _)
theorem z_split {x y : Str} {t u : Tok} (F : Fm c P L m M s) (hy : (y.length == 0) = false) (hsz : x.length + 2 ≤ sizeLine)
    (h : ∀ v P' s', P.le P' → Rep P' v (.list ((Txt.split x y).map .str)) → Fm c P' L m M s' → Q v s') : wpAny (model prog w) A (call (.builtin "str.split") [.str x t, .str y u]) Q E s := by
  refine splitN1 F.fr (news_all _ _) hy (fun l h' k e F' N => ?_) hsz
  have G := F.of_fr1 (tk := k) F' N (fun p hp => Heap.lt_size (mem_allBut.mp hp).2) F.size_L (get_size _)
  refine h _ _ _ G.2 (.list Part.set_self ?_) G.1
  rw [← e]
  exact .ofStrs l
end
end Mine
end
section
open PySem PySem.W PyProof.Rows
open Builtin Builtin.Str
set_option autoImplicit false
set_option linter.unusedVariables false
set_option maxRecDepth 100000
namespace Mine
section
variable {prog : Program} {w : World} {mb : Str → Option Value} {A : Around} {E : Value → Shared → Prop} {s : Shared} {env : Env}
variable {c : Cx} {P P' : Part} {L : Addr} {m : Str → Option Value} {M MX MX' : List (Addr × Obj)} {Q : Value → Shared → Prop} {R : Result → Shared → Prop} {target : Expr} {body : List Stmt}
/-- what one turn of a comprehension over plain data does -/
noncomputable def Turn1 (prog : Program) (w : World) (A : Around) (env : Env) (scope : Scope) (cl : List (Str × Addr)) (elt : Expr) (ifs : List Expr) (x : Str) (s : Shared) (P : Part) (ds : List PyData) (g : PyData → Option PyData) : Prop :=
  ∀ C c' v d P' m' M' s' E', d ∈ ds → P.le P' → Rep P' v d → c'.P₀ = P → (∀ b o, s.heap.get? b = some o → c'.O b = some o) → Fm c' P' C m' M' s' → m' x = some v →
    wpAny (model prog w) A (testsOf ifs (compEnvC scope cl C env)) (fun ok s₃ =>
      if ok = true then wpAny (model prog w) A (eval elt (compEnvC scope cl C env)) (fun y s₄ => ∃ P'' m'' e, P'.le P'' ∧ Fm c' P'' C m'' M' s₄ ∧ Rep P'' y e ∧ g d = some e) E' s₃
      else ∃ P'' m'', P'.le P'' ∧ Fm c' P'' C m'' M' s₃ ∧ g d = none) E' s'
theorem comp_walk {elt iter : Expr} {ifs : List Expr} {scope : Scope} {cl : List (Str × Addr)} {x : Str} {px pos : Pos} {I : Addr} {oI : Obj} {fp : List Addr} {vs : List Value} {St : Nat → Heap → Prop} {RR : Value → Addr → Result → Shared → Prop} {ds : List PyData} {g : PyData → Option PyData} {s₀ : Shared}
    (hcell : (scope.names.all fun y => y.2 != .cell) = true) (hkind : scope.kind = .function) (hx : ∀ C, (compEnvC scope cl C env).kindOf x = some .local)
    (W : Walks prog w A I fp [I] vs.length (fun i v => vs[i]? = some v) St) (hI : ∀ i h, St i h → ∃ o, h.get? I = some o) (hfp : ∀ b ∈ fp, b = I ∨ ∃ o, P b = some o) (hn : vs.length ≤ sizeLine)
    (F : Fm c P L m ((I, oI) :: M) s) (hst : St 0 s.heap) (hr : RepAll P vs ds) (hs₀ : ∀ b o, s₀.heap.get? b = some o → b ≠ I ∧ s.heap.get? b = some o)
    (turn : Turn1 prog w A env scope cl elt ifs x s₀ P ds g)
    (done : ∀ D C oC mC P' ys k s', P.le P' → RepAll P' ys (ds.filterMap g) → Fm c P' L m ((C, oC) :: (D, lst (List.toArray ys) k) :: M) s' → s'.heap.Ns C mC → RR (.ref D) C (.ok .next) s') :
    wpAny (model prog w) A (newList []) (fun acc s₃ => wpAny (model prog w) A (newFunctionEnv scope env.globals cl [] env.qual none .none (some env)) (fun cenv s₄ =>
      codeAny (model prog w) A (.compStart (.ListComp elt [⟨.Name x px, iter, ifs, 0⟩] scope pos) 0 (.ref I) acc { cenv with scope := relabel scope env }) (RR acc cenv.locals) s₄) E s₃) E s := by
  refine comp_at (acc₀ := .none) (MX := []) (M := M) (fun y hy hc => by have := List.all_eq_true.mp hcell y hy; rw [hc] at this; simp at this) hkind W hI hfp hn (fun _ => rfl)
    (fun i P' ys MX' => MX' = [] ∧ RepAll P' ys ((ds.take i).filterMap g)) F hst ⟨rfl, .nil⟩ (fun _ _ _ _ h => by rw [h.1]) ?_ ?_
  · rintro C i v P' m' MX' ys k D oI' s' E' hi hv hle ⟨rfl, hys⟩ F'
    obtain ⟨d, hd, hrd⟩ := hr.getV hv
    refine as_name F' rfl hkind (hx C) fun s₁ F₁ => ?_
    have T := turn C _ v d P' _ _ s₁ E' (List.mem_of_getElem? hd) hle (hrd.mono hle) rfl (fun b o e => by
      obtain ⟨h1, h2⟩ := hs₀ b o e
      exact (hidL_ne (by simpa using h1)).trans h2) F₁ (if_pos rfl)
    have take : ds.take (i + 1) = ds.take i ++ [d] := by rw [List.take_add_one, hd]; rfl
    refine wpAny_mono T (fun ok s₃ h₃ => ?_) fun _ _ e => e
    split at h₃
    · rename_i ho
      rw [if_pos ho]
      refine wpAny_mono h₃ (fun y s₄ ⟨P'', m'', e, hle'', F'', hy, hg⟩ => ⟨P'', m'', [], hle'', F'', rfl, ?_⟩) fun _ _ e => e
      rw [take, List.filterMap_append]
      refine (hys.mono hle'').append ?_
      simp only [List.filterMap_cons, hg, List.filterMap_nil]
      exact .one hy
    · rename_i ho
      rw [if_neg ho]
      obtain ⟨P'', m'', hle'', F'', hg⟩ := h₃
      refine ⟨P'', m'', [], hle'', F'', rfl, ?_⟩
      rw [take, List.filterMap_append]
      simp only [List.filterMap_cons, hg, List.filterMap_nil, List.append_nil]
      exact hys.mono hle''
  · rintro D C oC mC P' MX' ys k s' hle ⟨rfl, hys⟩ F' hn'
    rw [hr.length, List.take_length] at hys
    exact done D C oC mC P' ys k s' hle hys F' hn'
theorem comp_list {elt iter : Expr} {ifs : List Expr} {scope : Scope} {cl : List (Str × Addr)} {x : Str} {px pos : Pos} {v : Value} {RR : Value → Addr → Result → Shared → Prop} {ds : List PyData} {g : PyData → Option PyData}
    (hcell : (scope.names.all fun y => y.2 != .cell) = true) (hkind : scope.kind = .function) (hx : ∀ C, (compEnvC scope cl C env).kindOf x = some .local) (hA : A.handled = none) (hn : ds.length ≤ sizeLine)
    (F : Fm c P L m M s) (hr : Rep P v (.list ds)) (turn : Turn1 prog w A env scope cl elt ifs x s P ds g)
    (done : ∀ D C oC mC P' ys k s', P.le P' → RepAll P' ys (ds.filterMap g) → Fm c P' L m ((C, oC) :: (D, lst (List.toArray ys) k) :: M) s' → s'.heap.Ns C mC → RR (.ref D) C (.ok .next) s') :
    wpAny (model prog w) A (pyIter v) (fun it s₂ => wpAny (model prog w) A (newList []) (fun acc s₃ => wpAny (model prog w) A (newFunctionEnv scope env.globals cl [] env.qual none .none (some env)) (fun cenv s₄ =>
      codeAny (model prog w) A (.compStart (.ListComp elt [⟨.Name x px, iter, ifs, 0⟩] scope pos) 0 it acc { cenv with scope := relabel scope env }) (RR acc cenv.locals) s₄) E s₃) E s₂) E s := by
  obtain ⟨a, vs, n, rfl, ha, hr⟩ := hr.list_inv
  have hl := heap_list F ha
  refine wpAny_pyIter_list hl ?_
  have W := Walks.list (prog := prog) (w := w) hA s.heap.objs.size a (new_ne (F.on _ _ ha)) vs.toArray
  rw [List.size_toArray] at W
  rw [show (fun (i : Nat) (v : Value) => vs.toArray[i]? = some v) = fun i v => vs[i]? = some v by funext i v; rw [List.getElem?_toArray]] at W
  refine comp_walk (s₀ := s) hcell hkind hx W (fun i h hst => ?_) (fun b hb => ?_) (hr.length ▸ hn) (F.allocM _) ⟨⟨_, Heap.get?_push_size _ rfl, rfl, rfl⟩, hl.at fun o e => Heap.get?_push_of_some _ e⟩ hr (fun b o e => ⟨new_ne e, Heap.get?_push_of_some _ e⟩) turn done
  · obtain ⟨⟨o, ho, _⟩, _⟩ := hst; exact ⟨o, ho⟩
  · simp only [List.mem_cons, List.mem_nil_iff, or_false] at hb
    rcases hb with rfl | rfl
    · exact .inl rfl
    · exact .inr ⟨_, ha⟩
theorem comp_tup {elt iter : Expr} {ifs : List Expr} {scope : Scope} {cl : List (Str × Addr)} {x : Str} {px pos : Pos} {v : Value} {RR : Value → Addr → Result → Shared → Prop} {ds : List PyData} {g : PyData → Option PyData}
    (hcell : (scope.names.all fun y => y.2 != .cell) = true) (hkind : scope.kind = .function) (hx : ∀ C, (compEnvC scope cl C env).kindOf x = some .local) (hA : A.handled = none) (hn : ds.length ≤ sizeLine)
    (F : Fm c P L m M s) (hr : Rep P v (.tuple ds)) (turn : Turn1 prog w A env scope cl elt ifs x s P ds g)
    (done : ∀ D C oC mC P' ys k s', P.le P' → RepAll P' ys (ds.filterMap g) → Fm c P' L m ((C, oC) :: (D, lst (List.toArray ys) k) :: M) s' → s'.heap.Ns C mC → RR (.ref D) C (.ok .next) s') :
    wpAny (model prog w) A (pyIter v) (fun it s₂ => wpAny (model prog w) A (newList []) (fun acc s₃ => wpAny (model prog w) A (newFunctionEnv scope env.globals cl [] env.qual none .none (some env)) (fun cenv s₄ =>
      codeAny (model prog w) A (.compStart (.ListComp elt [⟨.Name x px, iter, ifs, 0⟩] scope pos) 0 it acc { cenv with scope := relabel scope env }) (RR acc cenv.locals) s₄) E s₃) E s₂) E s := by
  obtain ⟨a, vs, n, rfl, ha, hr⟩ := hr.tuple_inv
  have hl : s.heap.IsTuple a vs.toArray := ⟨_, F.on _ _ ha, rfl, n, rfl⟩
  refine wpAny_pyIter_tuple hl ?_
  have W := Walks.tuple (prog := prog) (w := w) hA s.heap.objs.size a (new_ne (F.on _ _ ha)) vs.toArray
  rw [List.size_toArray] at W
  rw [show (fun (i : Nat) (v : Value) => vs.toArray[i]? = some v) = fun i v => vs[i]? = some v by funext i v; rw [List.getElem?_toArray]] at W
  refine comp_walk (s₀ := s) hcell hkind hx W (fun i h hst => ?_) (fun b hb => ?_) (hr.length ▸ hn) (F.allocM _) ⟨⟨_, Heap.get?_push_size _ rfl, rfl, rfl⟩, hl.at fun o e => Heap.get?_push_of_some _ e⟩ hr (fun b o e => ⟨new_ne e, Heap.get?_push_of_some _ e⟩) turn done
  · obtain ⟨⟨o, ho, _⟩, _⟩ := hst; exact ⟨o, ho⟩
  · simp only [List.mem_cons, List.mem_nil_iff, or_false] at hb
    rcases hb with rfl | rfl
    · exact .inl rfl
    · exact .inr ⟨_, ha⟩
/-- the two ways out, with the new list as plain data -/
theorem done_noneR {ds : List PyData} (h : ∀ v P' s', P.le P' → Rep P' v (.list ds) → Fm c P' L m M s' → Q v s') :
    ∀ D C oC mC P' ys k s', P.le P' → RepAll P' ys ds → Fm c P' L m ((C, oC) :: (D, lst (List.toArray ys) k) :: M) s' → s'.heap.Ns C mC → compPost (model prog w) A E none Q (.ref D) C (.ok .next) s' :=
  fun D C oC mC P' ys k s' hle hys F hn => done_none F hn fun s₂ F₂ => h _ _ _ (Part.le_trans hle F₂.le_freeze) (.list Part.set_self (hys.mono F₂.le_freeze)) F₂.freeze
theorem done_useR {y : Str} {py : Pos} {ds : List PyData} (hL : env.locals = L) (hk : env.scope.kind = .function) (hl : env.kindOf y = some .local)
    (h : ∀ v P' s', P.le P' → Rep P' v (.list ds) → Fm c P' L (fun z => if z = y then some v else m z) M s' → Q .none s') :
    ∀ D C oC mC P' ys k s', P.le P' → RepAll P' ys ds → Fm c P' L m ((C, oC) :: (D, lst (List.toArray ys) k) :: M) s' → s'.heap.Ns C mC → compPost (model prog w) A E (some (assign (.Name y py) env)) Q (.ref D) C (.ok .next) s' :=
  fun D C oC mC P' ys k s' hle hys F hn => done_use F hn hL hk hl fun s₂ F₂ => h _ _ _ (Part.le_trans hle F₂.le_freeze) (.list Part.set_self (hys.mono F₂.le_freeze)) F₂.freeze
end
end Mine
end
section
open PySem PySem.W PyProof.Rows
open Builtin Builtin.Str
set_option autoImplicit false
set_option linter.unusedVariables false
set_option maxRecDepth 100000
namespace Mine
section
variable {prog : Program} {w : World} {mb : Str → Option Value} {A : Around} {E : Value → Shared → Prop} {s : Shared} {env : Env}
variable {c : Cx} {P P' : Part} {L : Addr} {m : Str → Option Value} {M MX MX' : List (Addr × Obj)} {Q : Value → Shared → Prop} {R : Result → Shared → Prop} {target : Expr} {body : List Stmt}
theorem lookup_mem {β : Type} : ∀ {l : List (Str × β)} {a : Str} {b : β}, l.lookup a = some b → (a, b) ∈ l
  | [], _, _, h => by cases h
  | (x, y) :: l, a, b, h => by
    rw [List.lookup_cons] at h
    split at h
    · rename_i e
      cases h
      rw [eq_of_beq e]; exact .head _
    · exact .tail _ (lookup_mem h)
/-- entering a def with cells -/
theorem enterC {a : Addr} {fd : FuncData} {body : List Stmt} {vals : List Value} {binds : List (Str × Value)} {O P : Part} {Q : Value → Shared → Prop}
    (X : Bs w mb P) (hO : O.on s.heap) (hP : P.on s.heap) (hroom : A.depth < recursionLimit) {oc : Value} {od : Option Addr} {osl : Array (Option Value)} (ho : (KK w.params).lookup a = some ⟨oc, od, .func fd, osl⟩)
    (hcd : codeK fd.code fd.qualname = true) (hbody : fd.body = .stmts body) (hbind : bindArgs fd ⟨vals, []⟩ = pure binds) (hclo : fd.closure = [])
    (hkind : ∀ L, (binds.all fun x => (fd.scope.names.lookup x.1 == some .local) || ((fd.scope.names.lookup x.1 == some .cell) && ((cellsFrom (L + 1) fd.scope.names []).lookup x.1).isSome)) = true)
    (hco : fd.scope.isCoroutine = false) (hgen : fd.scope.isGenerator = false) (hk : fd.scope.kind = .function)
    (h : ∀ L s₁ E', let env := callEnvC fd L a; Fm ⟨s, O, P⟩ P L (bindL env.kindOf binds fun _ => none) [] s₁ →
      (∀ n ca, env.cells.lookup n = some ca → ∃ o, s₁.heap.get? ca = some o ∧ o.data = .cell (bindC env.kindOf binds (fun _ => none) n) ∧ L < ca ∧ P ca = none ∧ O ca = none) →
      wpAny (model prog w) (A.deeper env) (execs body env) (fun f s' => Q (match f with | .ret v => v | _ => .none) s') E' s₁) :
    wpAny (model prog w) A (call (.ref a) vals) Q E s := by
  have hk0 := hP _ _ (X.k _ _ ho)
  have none_of : ∀ {R : Part}, R.on s.heap → ∀ a, s.heap.objs.size ≤ a → R a = none := fun {R} hR a ha => by
    cases e : R a with
    | none => rfl
    | some o => exact absurd (Heap.lt_size (hR _ _ e)) (Nat.not_lt.mpr ha)
  refine wpAny_call (codeAny_call_cells (fd := fd) hroom hk0 rfl (X.lim _ hP) (codeK_rec (X.code _ hP) hcd) hbody hbind hclo
    (fun x hx => by
      have := List.all_eq_true.mp (hkind s.heap.objs.size) x hx
      rw [Bool.or_eq_true, Bool.and_eq_true] at this
      simpa using this) (fun s₁ x => ?_) hco hgen hk)
  refine h s.heap.objs.size s₁ _ ?_ ?_
  · exact ⟨x.toInCall.same, x.toInCall.ns, fun b o e => x.toInCall.keep b o (hO b o e), Part.le_refl _, fun b o e => x.toInCall.keep b o (hP b o e), fun b o e => .inl e, none_of hP _ (Nat.le_refl _), none_of hO _ (Nat.le_refl _),
      (fun p hp => nomatch hp), (fun p hp => nomatch hp), List.Pairwise.nil⟩
  · intro n ca hn
    obtain ⟨o, ho, hd⟩ := x.cell n ca hn
    have hlt : s.heap.objs.size < ca := x.above n ca (lookup_mem hn)
    exact ⟨o, ho, hd, hlt, none_of hP _ (Nat.le_of_lt hlt), none_of hO _ (Nat.le_of_lt hlt)⟩
noncomputable def isSlice : Expr → Bool
  | .Slice _ _ _ _ => true
  | _ => false
theorem e_sub' {value slice : Expr} {pos : Pos}
    (h : wpAny (model prog w) A (eval value env) (fun o s₁ => wpAny (model prog w) A (eval slice env) (fun i s₂ => wpAny (model prog w) A (subscriptTail value slice o i) Q E s₂) E s₁) E s) (_hs : isSlice slice = false) :
    wpAny (model prog w) A (eval (.Subscript value slice pos) env) Q E s := Subscript_ h
theorem ite_no {p q : Prop} (h : q) : if false = true then p else q := by rw [if_neg (by decide)]; exact h
theorem ite_yes {p q : Prop} (h : p) : if true = true then p else q := by rw [if_pos rfl]; exact h
theorem ite_nt {p q : Prop} (h : q) : if (!true) = true then p else q := by rw [if_neg (by decide)]; exact h
theorem ite_nf {p q : Prop} (h : p) : if (!false) = true then p else q := by rw [if_pos (by decide)]; exact h
theorem x_aug {x : Str} {pos' pos : Pos} {op : Operator} {value : Expr} {rest : List Stmt} {Q : Flow → Shared → Prop}
    (h : wpAny (model prog w) A (loadName env x) (fun old s₁ => wpAny (model prog w) A (eval value env) (fun v s₂ => wpAny (model prog w) A (inplaceOp op old v) (fun new s₃ => wpAny (model prog w) A (storeName env x new) (fun _ s₄ => wpAny (model prog w) A (execs rest env) Q E s₄) E s₃) E s₂) E s₁) E s) :
    wpAny (model prog w) A (execs (.AugAssign (.Name x pos') op value pos :: rest) env) Q E s := wpAny_execs_cons (wpAny_AugAssign_Name (by exact h))
theorem x_break {pos : Pos} {rest : List Stmt} {Q : Flow → Shared → Prop} (h : Q .brk s) : wpAny (model prog w) A (execs (.Break pos :: rest) env) Q E s := wpAny_execs_cons (wpAny_Break h)
theorem x_cont {pos : Pos} {rest : List Stmt} {Q : Flow → Shared → Prop} (h : Q .cont s) : wpAny (model prog w) A (execs (.Continue pos :: rest) env) Q E s := wpAny_execs_cons (wpAny_Continue h)
theorem t_plain {e : Expr} {whole : Sem Value} {Q : Bool → Shared → Prop} (h : wpAny (model prog w) A whole (fun v s₁ => wpAny (model prog w) A (truthy v) Q E s₁) E s)
    (he : isTrue e env whole = (do let v ← whole; standAt e.pos; holding [v] (truthy v))) : wpAny (model prog w) A (isTrue e env whole) Q E s := isTrue_plain h he
theorem z_type {x : Str} {t : Tok} (hq : Q (.type "str") s) : wpAny (model prog w) A (call (.type "type") [.str x t]) Q E s := call_type_of (typeIs_str s x t) (by decide) hq
theorem temp_go {base : Expr} {o r : Value} {Q : Unit → Shared → Prop} (h : Q () s) : wpAny (model prog w) A (letTemporaryGo base o r) Q E s := by
  unfold letTemporaryGo
  split
  · exact wpAny_pure h
  · refine wpAny_bind (wpAny_holding (wpAny_runValue (codeAny_builtin entry_let_go ?_)))
    exact wpAny_pure (wpAny_pure h)
  · exact wpAny_pure h
theorem sub_tail {Q : Value → Shared → Prop} {value slice : Expr} {o i : Value} {T id : String} (hT : s.TypeIs o T) (hl : typeLookup (.type T) "__getitem__" = pure (some (.builtin id)))
    (h : wpAny (model prog w) A (getItem o i) Q E s) (hs : subscripted slice false o i = operate [o, i] (getItem o i)) :
    wpAny (model prog w) A (subscriptTail value slice o i) Q E s := by
  unfold subscriptTail
  refine wpAny_bind ?_
  rw [getitemInPython_of_ne hT.not_modules]
  refine wpAny_bind (wpAny_specialOf hT hl ?_)
  have fin : wpAny (model prog w) A (subscripted slice false o i) (fun r s₃ => wpAny (model prog w) A (letTemporaryGo value o r >>= fun _ => pure r) Q E s₃) E s := by
    rw [hs]
    exact wpAny_operating (wpAny_mono h (fun r s₃ h₃ => wpAny_bind (temp_go (wpAny_pure h₃))) fun _ _ x => x)
  first
    | exact wpAny_pure (wpAny_bind fin)
    | exact wpAny_bind (wpAny_pure (wpAny_bind fin))
    | exact wpAny_bind fin
theorem z_item {a : Addr} {vs : List Value} {i : Nat} {k : Int} {t : Tok} {v : Value} {value slice : Expr} (hl : s.heap.IsList a vs.toArray) (hk : k = (i : Int)) (hsz : vs.length ≤ sizeLine) (hv : vs[i]? = some v) (h : Q v s)
    (hs : subscripted slice false (.ref a) (.int k t) = operate [.ref a, .int k t] (getItem (.ref a) (.int k t))) :
    wpAny (model prog w) A (subscriptTail value slice (.ref a) (.int k t)) Q E s := by
  have hi : i < vs.length := (List.getElem?_eq_some_iff.mp hv).1
  have e : sizeLine = 16777216 := by decide
  exact sub_tail hl.typeIs slot_list_getitem.lookup (wpAny_getItem_list hl (by lia) (by lia) (by rw [hk]; simpa using hv) h) hs
theorem z_itemT {a : Addr} {vs : List Value} {i : Nat} {k : Int} {t : Tok} {v : Value} {value slice : Expr} (hl : IsTup s.heap a vs.toArray) (hk : k = (i : Int)) (hsz : vs.length ≤ sizeLine) (hv : vs[i]? = some v) (h : Q v s)
    (hs : subscripted slice false (.ref a) (.int k t) = operate [.ref a, .int k t] (getItem (.ref a) (.int k t))) :
    wpAny (model prog w) A (subscriptTail value slice (.ref a) (.int k t)) Q E s := by
  have hi : i < vs.length := (List.getElem?_eq_some_iff.mp hv).1
  have e : sizeLine = 16777216 := by decide
  refine sub_tail hl.typeIs slot_tuple_getitem.lookup (getItem_tuple (j := i) hl (by lia) (by lia) ?_ (by simpa using hv) h) hs
  subst hk
  unfold seqIndex?
  simp; lia
theorem z_in {v x : Value} {xs : List PyData} {d : PyData} {c : Cx} {P : Part} {L : Addr} {m : Str → Option Value} {M : List (Addr × Obj)} {k : Nat} (F : Fm c P L m M s) (hA : Rm A k) (h1 : Rep P v (.tuple xs)) (h2 : Rep P x d) (hxs : PyData.canLayAll0 xs = true) (hd : d.canLay0 = true)
    (hk : 1 + min (PyData.depthAll xs) d.depth < 10 * k) (h : Q (.bool (xs.any fun y => PyData.eqv y d)) s) : wpAny (model prog w) A (compareOp .In x v) Q E s :=
  let ⟨_, r1⟩ := h1.reads F.on
  let ⟨_, r2⟩ := h2.reads F.on
  PySem.SeqAt.in_tuple_reads r1 r2 hxs hd (by have := hA.units; lia) h
theorem sv_snoc {l : List (Str × Tok)} {x : Str} {t : Tok} : strValues l ++ [.str x t] = strValues (l ++ [(x, t)]) := by simp [strValues]
/-- a cell that stays -/
theorem ldCP {x : Str} {pos : Pos} {a : Addr} {o : Obj} {v : Value} (F : Fm c P L m M s) (hk : env.scope.kind = .function) (hl : env.kindOf x = some .cell) (hc : env.cells.lookup x = some a)
    (hP : P a = some o) (ho : o.data = .cell (some v)) (h : Q v s) (hd : (x == ("__debug__" : Str)) = false := by rfl) : wpAny (model prog w) A (eval (.Name x pos) env) Q E s :=
  ldC hk hl hc ⟨o, F.on _ _ hP, ho⟩ h hd
/-- a cell of a frame outside -/
theorem ldCO {x : Str} {pos : Pos} {a : Addr} {o : Obj} {v : Value} (F : Fm c P L m M s) (hk : env.scope.kind = .function) (hl : env.kindOf x = some .free) (hc : env.cells.lookup x = some a)
    (hO : s.heap.get? a = some o) (ho : o.data = .cell (some v)) (h : Q v s) (hd : (x == ("__debug__" : Str)) = false := by rfl) (hn : (x == ("__classdict__" : Str)) = false := by decide) : wpAny (model prog w) A (eval (.Name x pos) env) Q E s :=
  wpAny_Name (wpAny_loadName_free hk hl hc ⟨o, hO, ho⟩ h hn) hd
theorem stC {x : Str} {a : Addr} {o : Obj} {v₀ : Option Value} {v : Value} {Q : Unit → Shared → Prop} (F : Fm c P L m ((a, o) :: M) s) (hk : env.scope.kind = .function) (hl : env.kindOf x = some .cell) (hc : env.cells.lookup x = some a) (ho : o.data = .cell v₀)
    (h : ∀ s' o', o'.data = .cell (some v) → Fm c P L m ((a, o') :: M) s' → Q () s') : wpAny (model prog w) A (storeName env x v) Q E s :=
  wpAny_storeName_cell hk hl hc ⟨o, mu0 F, ho⟩ fun h' ⟨o', ho', hd'⟩ hs => h _ o' hd' (F.upd0 (tk := s.toks) ho' hs.extBut)
end
end Mine
end
section
set_option autoImplicit false
set_option linter.unusedVariables false
namespace Law
/-! letters and rows -/
noncomputable def dot (x : List Nat) : List Nat := if x.take 1 = [46] then 46 :: x else x
noncomputable def quoted (ns : List (List Nat)) : List Nat := (ns.map fun n => dot n ++ [13, 10]).flatten
noncomputable def ltRows : List (List Nat) → List (List Nat) → Bool
  | [], ys => !ys.isEmpty
  | _ :: _, [] => false
  | x :: xs, y :: ys => if x = y then ltRows xs ys else decide (x < y)
structure Good (x : List Nat) : Prop where
  ne : x ≠ []
  dot : x ≠ [46]
  sg : ∀ c ∈ x, 13 < c ∧ c ≠ 47
theorem lex_key : ∀ (x y r r' : List Nat), (∀ c ∈ x, 13 < c) → (∀ c ∈ y, 13 < c) → x ≠ y → ((x ++ 13 :: r) < (y ++ 13 :: r') ↔ x < y)
  | [], [], _, _, _, _, h => absurd rfl h
  | [], b :: y, r, r', _, hy, _ => by
    have := hy b (.head _)
    simp only [List.nil_append, List.cons_append, List.cons_lt_cons_iff, List.nil_lt_cons, iff_true]
    left; omega
  | a :: x, [], r, r', hx, _, _ => by
    have := hx a (.head _)
    simp only [List.nil_append, List.cons_append, List.cons_lt_cons_iff]
    constructor
    · rintro (h | ⟨h, _⟩) <;> omega
    · intro h; exact absurd h (List.not_lt_nil _)
  | a :: x, b :: y, r, r', hx, hy, h => by
    simp only [List.cons_append, List.cons_lt_cons_iff]
    by_cases e : a = b
    · subst e
      have := lex_key x y r r' (fun c hc => hx c (.tail _ hc)) (fun c hc => hy c (.tail _ hc)) (fun e => h (by rw [e]))
      rw [this]
    · simp [e]
theorem dot_of {a : Nat} {x : List Nat} : dot (a :: x) = if a = 46 then 46 :: a :: x else a :: x := by
  unfold dot
  simp
theorem dot_sg {x : List Nat} (h : ∀ c ∈ x, 13 < c) : ∀ c ∈ dot x, 13 < c := by
  unfold dot
  split
  · intro c hc
    rcases List.mem_cons.mp hc with rfl | hc
    · decide
    · exact h c hc
  · exact h
theorem dot_inj {x y : List Nat} (h : dot x = dot y) : x = y := by
  cases x with
  | nil => cases y with
    | nil => rfl
    | cons b y => rw [dot_of] at h; split at h <;> simp [dot] at h
  | cons a x => cases y with
    | nil => rw [dot_of] at h; split at h <;> simp [dot] at h
    | cons b y =>
      rw [dot_of, dot_of] at h
      split at h <;> split at h
      · exact (List.cons.inj h).2
      · rename_i h1 h2
        have := (List.cons.inj h).1
        exact absurd this.symm h2
      · rename_i h1 h2
        have := (List.cons.inj h).1
        exact absurd this h1
      · exact h
theorem dot_lt {x y : List Nat} (hx : x ≠ []) (hy : y ≠ []) : dot x < dot y ↔ x < y := by
  cases x with
  | nil => exact absurd rfl hx
  | cons a x => cases y with
    | nil => exact absurd rfl hy
    | cons b y =>
      rw [dot_of, dot_of]
      split <;> split
      · rename_i h1 h2
        rw [List.cons_lt_cons_iff]; simp
      · rename_i h1 h2
        subst h1
        simp only [List.cons_lt_cons_iff]
        constructor
        · rintro (h | ⟨h, _⟩)
          · exact .inl h
          · exact absurd h.symm h2
        · rintro (h | ⟨h, _⟩)
          · exact .inl h
          · exact absurd h.symm h2
      · rename_i h1 h2
        subst h2
        simp only [List.cons_lt_cons_iff]
        constructor
        · rintro (h | ⟨h, _⟩)
          · exact .inl h
          · exact absurd h h1
        · rintro (h | ⟨h, _⟩)
          · exact .inl h
          · exact absurd h h1
      · exact Iff.rfl
theorem quoted_cons (n : List Nat) (ns : List (List Nat)) : quoted (n :: ns) = dot n ++ 13 :: 10 :: quoted ns := by
  simp [quoted]
theorem quoted_lt : ∀ {xs ys : List (List Nat)}, (∀ x ∈ xs, Good x) → (∀ y ∈ ys, Good y) → (quoted xs < quoted ys ↔ ltRows xs ys = true)
  | [], [], _, _ => by simp [quoted, ltRows]
  | [], y :: ys, _, hy => by
    rw [quoted_cons]
    simp only [ltRows, List.isEmpty_cons, Bool.not_false, iff_true]
    have e : quoted [] = [] := rfl
    rw [e]
    cases h : dot y with
    | nil => exact List.nil_lt_cons ..
    | cons a l => exact List.nil_lt_cons ..
  | x :: xs, [], _, _ => by
    simp only [ltRows, Bool.false_eq_true, iff_false]
    exact List.not_lt_nil _
  | x :: xs, y :: ys, hx, hy => by
    have gx := hx x (.head _)
    have gy := hy y (.head _)
    rw [quoted_cons, quoted_cons, ltRows]
    by_cases e : x = y
    · subst e
      rw [if_pos rfl, ← quoted_lt (fun z hz => hx z (.tail _ hz)) fun z hz => hy z (.tail _ hz)]
      generalize dot x = d
      induction d with
      | nil => simp [List.cons_lt_cons_iff]
      | cons a d ih => simpa [List.cons_lt_cons_iff] using ih
    · rw [if_neg e, decide_eq_true_eq]
      rw [lex_key (dot x) (dot y) _ _ (dot_sg fun c hc => (gx.sg c hc).1) (dot_sg fun c hc => (gy.sg c hc).1) fun h => e (dot_inj h)]
      exact dot_lt gx.ne gy.ne
theorem quoted_inj : ∀ {xs ys : List (List Nat)}, (∀ x ∈ xs, Good x) → (∀ y ∈ ys, Good y) → quoted xs = quoted ys → xs = ys := by
  intro xs ys hx hy h
  have irr : ¬ quoted xs < quoted ys := by rw [h]; exact List.lt_irrefl _
  have irr2 : ¬ quoted ys < quoted xs := by rw [h]; exact List.lt_irrefl _
  rw [quoted_lt hx hy] at irr
  rw [quoted_lt hy hx] at irr2
  clear h hx hy
  induction xs generalizing ys with
  | nil => cases ys with
    | nil => rfl
    | cons y ys => exact absurd rfl irr
  | cons x xs ih => cases ys with
    | nil => exact absurd rfl irr2
    | cons y ys =>
      rw [ltRows] at irr irr2
      by_cases e : x = y
      · subst e
        rw [if_pos rfl] at irr irr2
        rw [ih irr irr2]
      · rw [if_neg e, decide_eq_true_eq] at irr
        rw [if_neg (Ne.symm e), decide_eq_true_eq] at irr2
        exact absurd (List.le_antisymm (List.not_lt.mp irr2) (List.not_lt.mp irr)) e
end Law
end
section
set_option autoImplicit false
set_option linter.unusedVariables false
namespace Law
noncomputable abbrev Row := List (List Nat)
/-! the beginnings that rows share -/
noncomputable def lcp : Row → Row → Nat
  | x :: xs, y :: ys => if x = y then lcp xs ys + 1 else 0
  | _, _ => 0
noncomputable def LeR (x y : Row) : Prop := ltRows y x = false
theorem LeR.refl (x : Row) : LeR x x := by
  induction x with
  | nil => rfl
  | cons a x ih => unfold LeR at *; rw [ltRows, if_pos rfl]; exact ih
theorem LeR.cons {a b : List Nat} {x y : Row} (h : LeR (a :: x) (b :: y)) : (a = b ∧ LeR x y) ∨ (a ≠ b ∧ a < b) := by
  unfold LeR at *
  rw [ltRows] at h
  by_cases e : b = a
  · rw [if_pos e] at h; exact .inl ⟨e.symm, h⟩
  · rw [if_neg e, decide_eq_false_iff_not] at h
    refine .inr ⟨Ne.symm e, ?_⟩
    have h1 : a ≤ b := List.not_lt.mp h
    rcases List.le_iff_lt_or_eq.mp h1 with h | h
    · exact h
    · exact absurd h.symm e
theorem LeR.nil_right {a : List Nat} {x : Row} (h : LeR (a :: x) []) : False := by
  unfold LeR at h
  rw [ltRows] at h
  simp at h
theorem lcp_chain : ∀ {x y z : Row}, LeR x y → LeR y z → lcp x z = min (lcp x y) (lcp y z)
  | [], y, z, _, _ => by simp [lcp]
  | a :: x, [], z, h, _ => absurd h.nil_right (fun h => h)
  | a :: x, b :: y, [], _, k => absurd k.nil_right (fun h => h)
  | a :: x, b :: y, c :: z, h, k => by
    simp only [lcp]
    rcases h.cons with ⟨rfl, h'⟩ | ⟨hne, hlt⟩
    · rcases k.cons with ⟨rfl, k'⟩ | ⟨kne, klt⟩
      · rw [if_pos rfl, if_pos rfl, lcp_chain h' k', if_pos rfl]; lia
      · rw [if_neg kne, if_pos rfl, if_neg kne]; lia
    · rw [if_neg hne]
      have : a ≠ c := by
        rcases k.cons with ⟨rfl, k'⟩ | ⟨kne, klt⟩
        · exact hne
        · rintro rfl; exact List.lt_asymm hlt klt
      rw [if_neg this]; lia
theorem lcp_comm : ∀ (x y : Row), lcp x y = lcp y x
  | [], [] => rfl
  | [], _ :: _ => rfl
  | _ :: _, [] => rfl
  | x :: xs, y :: ys => by
    simp only [lcp]
    by_cases e : x = y
    · rw [if_pos e, if_pos e.symm, lcp_comm]
    · rw [if_neg e, if_neg (Ne.symm e)]
theorem lcp_le_left : ∀ (x y : Row), lcp x y ≤ x.length
  | [], _ => Nat.zero_le _
  | _ :: _, [] => Nat.zero_le _
  | x :: xs, y :: ys => by
    simp only [lcp]
    split
    · have := lcp_le_left xs ys; simp; exact this
    · exact Nat.zero_le _
theorem lcp_take : ∀ (x y : Row) (k : Nat), k ≤ lcp x y → x.take k = y.take k
  | [], _, k, h => by simp [lcp] at h; subst h; simp
  | _ :: _, [], k, h => by simp [lcp] at h; subst h; simp
  | x :: xs, y :: ys, k, h => by
    simp only [lcp] at h
    split at h
    · rename_i e
      cases k with
      | zero => simp
      | succ k => rw [List.take_succ_cons, List.take_succ_cons, e, lcp_take xs ys k (by lia)]
    · have : k = 0 := by lia
      subst this; simp
noncomputable def IsMin (M : Nat) (l : List Nat) : Prop := M ∈ l ∧ ∀ a ∈ l, M ≤ a
noncomputable def nearOf : List Row → List Nat
  | a :: b :: l => lcp a b :: nearOf (b :: l)
  | _ => []
theorem nearOf_length : ∀ rs : List Row, (nearOf rs).length = rs.length - 1
  | [] => rfl
  | [_] => rfl
  | a :: b :: l => by
    have := nearOf_length (b :: l)
    simp only [nearOf, List.length_cons] at this ⊢
    lia
theorem nearOf_get : ∀ (rs : List Row) (k : Nat) (h : k + 1 < rs.length), (nearOf rs)[k]? = some (lcp rs[k] rs[k + 1])
  | [], k, h => by simp at h
  | [_], k, h => by simp at h
  | a :: b :: l, 0, h => rfl
  | a :: b :: l, k + 1, h => by
    have := nearOf_get (b :: l) k (by simpa using h)
    simpa [nearOf] using this
noncomputable def Sorted (rs : List Row) : Prop := rs.Pairwise LeR
theorem Sorted.get {rs : List Row} (h : Sorted rs) {i j : Nat} (hij : i ≤ j) (hj : j < rs.length) : LeR (rs[i]'(by lia)) rs[j] := by
  rcases Nat.lt_or_eq_of_le hij with h1 | rfl
  · exact List.pairwise_iff_getElem.mp h i j (by lia) hj h1
  · exact LeR.refl _
theorem lcp_min {rs : List Row} (h : Sorted rs) (i d : Nat) (hj : i + d + 1 < rs.length) : IsMin (lcp (rs[i]'(by lia)) rs[i + d + 1]) (((nearOf rs).drop i).take (d + 1)) := by
  induction d with
  | zero =>
    have e := nearOf_get rs i (by lia)
    rw [List.take_add_one, List.getElem?_drop]
    simp only [List.take_zero, Nat.add_zero, e, Option.toList_some, List.nil_append]
    exact ⟨List.mem_singleton.mpr rfl, fun a ha => by rw [List.mem_singleton.mp ha]; exact Nat.le_refl _⟩
  | succ d ih =>
    have ih := ih (by lia)
    have e := nearOf_get rs (i + (d + 1)) (by lia)
    rw [List.take_add_one, List.getElem?_drop, e]
    have c := lcp_chain (h.get (i := i) (j := i + d + 1) (by lia) (by lia)) (h.get (i := i + d + 1) (j := i + (d + 1) + 1) (by lia) hj)
    rw [c]
    constructor
    · rcases Nat.le_total (lcp (rs[i]'(by lia)) (rs[i + d + 1]'(by lia))) (lcp (rs[i + d + 1]'(by lia)) rs[i + (d + 1) + 1]) with q | q
      · rw [Nat.min_eq_left q]; exact List.mem_append_left _ ih.1
      · rw [Nat.min_eq_right q]; exact List.mem_append_right _ (by simp; rfl)
    · intro a ha
      rcases List.mem_append.mp ha with ha | ha
      · exact Nat.le_trans (Nat.min_le_left _ _) (ih.2 a ha)
      · simp at ha
        subst ha
        exact Nat.min_le_right _ _
end Law
end
section
set_option autoImplicit false
set_option linter.unusedVariables false
namespace Law
/-! the heaviest net -/
noncomputable def relab (old new x : Nat) : Nat := if x = old then new else x
noncomputable def netF : List (Nat × Nat × Nat) → List Nat → Nat → Nat
  | [], _, W => W
  | (d, i, j) :: rest, g, W => if g.getD i 0 = g.getD j 0 then netF rest g W else netF rest (g.map (relab (g.getD i 0) (g.getD j 0))) (W + d)
noncomputable def dc : List Nat → Nat
  | [] => 0
  | a :: l => if a ∈ l then dc l else dc l + 1
noncomputable def adj : List Nat → Nat
  | a :: b :: l => (if a = b then 1 else 0) + adj (b :: l)
  | _ => 0
theorem mem_relab {old new x : Nat} {l : List Nat} (h : old ≠ new) : x ∈ l.map (relab old new) ↔ (x ≠ old ∧ x ≠ new ∧ x ∈ l) ∨ (x = new ∧ (old ∈ l ∨ new ∈ l)) := by
  rw [List.mem_map]
  constructor
  · rintro ⟨y, hy, e⟩
    unfold relab at e
    split at e
    · rename_i q; subst q; exact .inr ⟨e.symm, .inl hy⟩
    · rename_i q
      subst e
      by_cases q2 : y = new
      · exact .inr ⟨q2, .inr (q2 ▸ hy)⟩
      · exact .inl ⟨q, q2, hy⟩
  · rintro (⟨h1, h2, h3⟩ | ⟨rfl, h1 | h1⟩)
    · exact ⟨x, h3, by unfold relab; rw [if_neg h1]⟩
    · exact ⟨old, h1, by unfold relab; rw [if_pos rfl]⟩
    · exact ⟨x, h1, by unfold relab; rw [if_neg (Ne.symm h)]⟩
theorem dc_relab {old new : Nat} (h : old ≠ new) : ∀ l : List Nat, dc (l.map (relab old new)) + (if old ∈ l ∧ new ∈ l then 1 else 0) = dc l
  | [] => rfl
  | a :: l => by
    have ih := dc_relab h l
    rw [List.map_cons, dc, dc]
    have m := mem_relab (x := relab old new a) (l := l) h
    by_cases ho : a = old
    · subst ho
      have e : relab a new a = new := if_pos rfl
      rw [e] at m ⊢
      have e1 : new ∈ l.map (relab a new) ↔ (a ∈ l ∨ new ∈ l) := by rw [m]; simp
      have e3 : new ∈ a :: l ↔ new ∈ l := by simp [Ne.symm h]
      simp only [e1, e3, List.mem_cons_self, true_and]
      by_cases o : a ∈ l <;> by_cases n : new ∈ l <;> simp [o, n] at ih ⊢ <;> lia
    · have e : relab old new a = a := if_neg ho
      rw [e] at m ⊢
      by_cases hn : a = new
      · subst hn
        have e1 : a ∈ l.map (relab old a) ↔ (old ∈ l ∨ a ∈ l) := by rw [m]; simp
        have e3 : old ∈ a :: l ↔ old ∈ l := by simp [h]
        simp only [e1, e3, List.mem_cons_self, and_true]
        by_cases o : old ∈ l <;> by_cases n : a ∈ l <;> simp [o, n] at ih ⊢ <;> lia
      · have e1 : a ∈ l.map (relab old new) ↔ a ∈ l := by rw [m]; simp [ho, hn]
        have e2 : (old ∈ a :: l) ↔ old ∈ l := by simp [Ne.symm ho]
        have e3 : (new ∈ a :: l) ↔ new ∈ l := by simp [Ne.symm hn]
        simp only [e1, e2, e3]
        split <;> lia
theorem dc_adj : ∀ g : List Nat, (∀ i j k, i < j → j < g.length → g.getD i 0 = g.getD j 0 → i ≤ k → k < j → g.getD k 0 = g.getD (k + 1) 0) → dc g + adj g = g.length
  | [], _ => rfl
  | [a], _ => rfl
  | a :: b :: l, h => by
    have ih := dc_adj (b :: l) fun i j k h1 h2 h3 h4 h5 => by
      have := h (i + 1) (j + 1) (k + 1) (by lia) (by simpa using h2) (by simpa using h3) (by lia) (by lia)
      simpa using this
    have e : a ∈ b :: l ↔ a = b := by
      constructor
      · intro hm
        obtain ⟨j, hj, hjb⟩ := List.getElem_of_mem hm
        have := h 0 (j + 1) 0 (by lia) (by simpa using hj) (by
          have : (b :: l)[j]? = some a := by rw [List.getElem?_eq_getElem hj, hjb]
          simp [List.getD_eq_getElem?_getD, this]) (by lia) (by lia)
        simpa using this
      · rintro rfl; exact .head _
    rw [dc, adj]
    simp only [e, List.length_cons] at ih ⊢
    split <;> lia
theorem min_sum (D d : Nat) (hd : d ≤ D) : ∀ (g near : List Nat), g.length = near.length + 1 → (∀ k, k < near.length → (g.getD k 0 = g.getD (k + 1) 0 → D ≤ near.getD k 0) ∧ (g.getD k 0 ≠ g.getD (k + 1) 0 → near.getD k 0 ≤ d)) →
    (near.map (min · D)).sum = (near.map (min · d)).sum + (D - d) * adj g
  | [], near, h, _ => by simp at h
  | [a], near, h, _ => by
    have : near = [] := List.length_eq_zero_iff.mp (by simpa using h)
    subst this; simp [adj]
  | a :: b :: l, [], h, _ => by simp at h
  | a :: b :: l, x :: near, h, hk => by
    have ih := min_sum D d hd (b :: l) near (by simpa using h) fun k hk' => by simpa using hk (k + 1) (by simpa using hk')
    have h0 := hk 0 (by simp)
    simp only [List.getD_cons_zero, List.getD_cons_succ] at h0
    rw [List.map_cons, List.map_cons, List.sum_cons, List.sum_cons, ih, adj]
    by_cases e : a = b
    · have := h0.1 e
      rw [if_pos e, Nat.mul_add, Nat.mul_one]; lia
    · have := h0.2 e
      rw [if_neg e, Nat.zero_add]; lia
structure Inv (near : List Nat) (D : Nat) (rest : List (Nat × Nat × Nat)) (g : List Nat) (W : Nat) : Prop where
  len : g.length = near.length + 1
  sound : ∀ i j k, i < j → j < g.length → g.getD i 0 = g.getD j 0 → i ≤ k → k < j → D ≤ near.getD k 0
  le : ∀ p ∈ rest, p.1 ≤ D
  todo : ∀ k, k < near.length → g.getD k 0 = g.getD (k + 1) 0 ∨ (near.getD k 0, k, k + 1) ∈ rest
  pot : W + (near.map (min · D)).sum + D * dc g = near.sum + D * g.length
theorem Inv.lower {near : List Nat} {D d : Nat} {rest : List (Nat × Nat × Nat)} {g : List Nat} {W : Nat} (h : Inv near D rest g W) (hd : d ≤ D) (hr : ∀ p ∈ rest, p.1 ≤ d) : Inv near d rest g W where
  len := h.len
  sound := fun i j k h1 h2 h3 h4 h5 => Nat.le_trans hd (h.sound i j k h1 h2 h3 h4 h5)
  le := hr
  todo := h.todo
  pot := by
    have key : ∀ k, k < near.length → (g.getD k 0 = g.getD (k + 1) 0 → D ≤ near.getD k 0) ∧ (g.getD k 0 ≠ g.getD (k + 1) 0 → near.getD k 0 ≤ d) := fun k hk =>
      ⟨fun e => h.sound k (k + 1) k (by lia) (by rw [h.len]; lia) e (Nat.le_refl _) (by lia), fun e => (h.todo k hk).elim (fun q => absurd q e) fun q => hr _ q⟩
    have hs := min_sum D d hd g near h.len key
    have p := h.pot
    rcases Nat.lt_or_eq_of_le hd with hlt | rfl
    · have hc := dc_adj g fun i j k h1 h2 h3 h4 h5 => by
        have hn := h.sound i j k h1 h2 h3 h4 h5
        have hk : k < near.length := by have := h.len; lia
        rcases h.todo k hk with q | q
        · exact q
        · have := hr _ q
          simp only at this
          lia
      obtain ⟨e, rfl⟩ : ∃ e, D = d + e := ⟨D - d, by lia⟩
      rw [hs, show d + e - d = e by lia] at p
      rw [← hc] at p ⊢
      simp only [Nat.add_mul, Nat.mul_add] at p ⊢
      lia
    · exact p
theorem getD_map (f : Nat → Nat) (g : List Nat) (i : Nat) (hi : i < g.length) : (g.map f).getD i 0 = f (g.getD i 0) := by
  simp [List.getD_eq_getElem?_getD, List.getElem?_map, List.getElem?_eq_getElem hi]
theorem mem_getD (g : List Nat) (i : Nat) (hi : i < g.length) : g.getD i 0 ∈ g := by
  simp [List.getD_eq_getElem?_getD, List.getElem?_eq_getElem hi]
theorem min_zero : ∀ near : List Nat, (near.map (min · 0)).sum = 0
  | [] => rfl
  | a :: l => by rw [List.map_cons, List.sum_cons, min_zero l]; simp
theorem le_sum : ∀ {l : List Nat} {a : Nat}, a ∈ l → a ≤ l.sum
  | c :: m, a, h => by
    rw [List.sum_cons]
    rcases List.mem_cons.mp h with rfl | h
    · lia
    · have := le_sum h; lia
theorem net_run (near : List Nat) : ∀ (rest : List (Nat × Nat × Nat)) (D : Nat) (g : List Nat) (W : Nat), Inv near D rest g W → rest.Pairwise (fun a b => b.1 ≤ a.1) →
    (∀ p ∈ rest, p.2.1 < p.2.2 ∧ p.2.2 < near.length + 1 ∧ ∀ k, p.2.1 ≤ k → k < p.2.2 → p.1 ≤ near.getD k 0) → netF rest g W = near.sum
  | [], D, g, W, h, _, _ => by
    have := (h.lower (Nat.zero_le D) fun p hp => nomatch hp).pot
    rw [min_zero] at this
    show W = near.sum
    simpa using this
  | (d, i, j) :: rest, D, g, W, h, hp, hw => by
    have hs := List.pairwise_cons.mp hp
    have H := h.lower (h.le _ (.head _)) fun p hp' => by
      rcases List.mem_cons.mp hp' with rfl | hp'
      · exact Nat.le_refl _
      · exact hs.1 p hp'
    obtain ⟨hij, hj, hd⟩ := hw _ (.head _)
    dsimp only at hij hj hd H
    have hlen := h.len
    rw [netF]
    by_cases e : g.getD i 0 = g.getD j 0
    · rw [if_pos e]
      refine net_run near rest d g W { H with le := fun p hp' => H.le p (.tail _ hp'), todo := fun k hk => ?_ } hs.2 fun p hp' => hw p (.tail _ hp')
      rcases H.todo k hk with q | q
      · exact .inl q
      · rcases List.mem_cons.mp q with q | q
        · injection q with q1 q2
          injection q2 with q2 q3
          subst q2; subst q3
          exact .inl e
        · exact .inr q
    · rw [if_neg e]
      have hm : ∀ x, x < g.length → (g.map (relab (g.getD i 0) (g.getD j 0))).getD x 0 = relab (g.getD i 0) (g.getD j 0) (g.getD x 0) := fun x hx => getD_map _ g x hx
      refine net_run near rest d _ (W + d) ⟨by rw [List.length_map]; exact hlen, ?_, fun p hp' => H.le p (.tail _ hp'), fun k hk => ?_, ?_⟩ hs.2 fun p hp' => hw p (.tail _ hp')
      · intro p q k h1 h2 h3 h4 h5
        rw [List.length_map] at h2
        rw [hm p (by lia), hm q h2] at h3
        have cov : ∀ a b, a < g.length → b < g.length → g.getD a 0 = g.getD b 0 → (a ≤ k ∧ k < b ∨ b ≤ k ∧ k < a) → d ≤ near.getD k 0 := by
          rintro a b ha hb hab (⟨h6, h7⟩ | ⟨h6, h7⟩)
          · exact H.sound a b k (by lia) hb hab h6 h7
          · exact H.sound b a k (by lia) ha hab.symm h6 h7
        unfold relab at h3
        split at h3 <;> split at h3
        · rename_i a1 a2
          exact cov p q (by lia) h2 (by rw [a1, a2]) (.inl ⟨h4, h5⟩)
        · rename_i a1 a2
          by_cases c1 : (p ≤ k ∧ k < i) ∨ (i ≤ k ∧ k < p)
          · exact cov p i (by lia) (by lia) a1 c1
          · by_cases c2 : (j ≤ k ∧ k < q) ∨ (q ≤ k ∧ k < j)
            · exact cov j q (by lia) h2 h3 c2
            · exact hd k (by lia) (by lia)
        · rename_i a1 a2
          by_cases c1 : (p ≤ k ∧ k < j) ∨ (j ≤ k ∧ k < p)
          · exact cov p j (by lia) (by lia) h3 c1
          · by_cases c2 : (i ≤ k ∧ k < q) ∨ (q ≤ k ∧ k < i)
            · exact cov i q (by lia) h2 a2.symm c2
            · exact hd k (by lia) (by lia)
        · exact cov p q (by lia) h2 h3 (.inl ⟨h4, h5⟩)
      · rcases H.todo k hk with q | q
        · left
          rw [hm k (by lia), hm (k + 1) (by lia), q]
        · rcases List.mem_cons.mp q with q | q
          · injection q with q1 q2
            injection q2 with q2 q3
            subst q2; subst q3
            left
            rw [hm k (by lia), hm (k + 1) (by lia)]
            unfold relab
            rw [if_pos rfl, if_neg (Ne.symm e)]
          · exact .inr q
      · have p := H.pot
        have c := dc_relab e g
        rw [if_pos ⟨mem_getD g i (by lia), mem_getD g j (by lia)⟩] at c
        rw [List.length_map]
        rw [← c, Nat.mul_add, Nat.mul_one] at p
        lia
theorem dc_nodup : ∀ {l : List Nat}, l.Nodup → dc l = l.length
  | [], _ => rfl
  | a :: l, h => by
    have h' := List.nodup_cons.mp h
    rw [dc, if_neg h'.1, dc_nodup h'.2, List.length_cons]
theorem min_big (D : Nat) : ∀ (near : List Nat), (∀ a ∈ near, a ≤ D) → (near.map (min · D)).sum = near.sum
  | [], _ => rfl
  | a :: l, h => by
    have h1 := h a (.head _)
    rw [List.map_cons, List.sum_cons, List.sum_cons, min_big D l fun b hb => h b (.tail _ hb)]
    lia
/-- the net weighs what the neighbours share -/
theorem net_sum (near : List Nat) (ties : List (Nat × Nat × Nat)) (hs : ties.Pairwise (fun a b => b.1 ≤ a.1))
    (hw : ∀ p ∈ ties, p.2.1 < p.2.2 ∧ p.2.2 < near.length + 1 ∧ ∀ k, p.2.1 ≤ k → k < p.2.2 → p.1 ≤ near.getD k 0)
    (hn : ∀ k, k < near.length → (near.getD k 0, k, k + 1) ∈ ties) : netF ties (List.range (near.length + 1)) 0 = near.sum := by
  obtain ⟨D, hD⟩ : ∃ D, ∀ a ∈ near, a ≤ D := ⟨near.sum, fun a ha => le_sum ha⟩
  have hr : ∀ x, x < near.length + 1 → (List.range (near.length + 1)).getD x 0 = x := fun x hx => by simp [List.getD_eq_getElem?_getD, hx]
  refine net_run near ties D _ 0 ⟨by simp, fun i j k h1 h2 h3 _ _ => ?_, fun p hp => ?_, fun k hk => .inr (hn k hk), ?_⟩ hs hw
  · rw [List.length_range] at h2
    rw [hr i (by lia), hr j h2] at h3
    lia
  · obtain ⟨h1, h2, h3⟩ := hw p hp
    have := h3 p.2.1 (Nat.le_refl _) h1
    refine Nat.le_trans this (hD _ ?_)
    exact mem_getD near p.2.1 (by lia)
  · rw [min_big D near hD, dc_nodup List.nodup_range]
    simp
end Law
end
section
set_option autoImplicit false
set_option linter.unusedVariables false
namespace Law
/-! how many different beginnings -/
section
variable {α : Type} [DecidableEq α]
noncomputable def dcG : List α → Nat
  | [] => 0
  | a :: l => if a ∈ l then dcG l else dcG l + 1
theorem dcG_filter (a : α) : ∀ l : List α, dcG (l.filter (fun x => decide (x ≠ a))) + (if a ∈ l then 1 else 0) = dcG l
  | [] => rfl
  | b :: l => by
    have ih := dcG_filter a l
    by_cases e : b = a
    · subst e
      rw [List.filter_cons, if_neg (by simp), dcG]
      by_cases h : b ∈ l <;> simp [h] at ih ⊢ <;> lia
    · rw [List.filter_cons, if_pos (by simpa using e), dcG, dcG]
      have e1 : b ∈ l.filter (fun x => decide (x ≠ a)) ↔ b ∈ l := by simp [e]
      have e2 : a ∈ b :: l ↔ a ∈ l := by simp [Ne.symm e]
      simp only [e1, e2]
      split <;> lia
theorem dcG_le : ∀ (l l' : List α), (∀ x ∈ l, x ∈ l') → dcG l ≤ dcG l'
  | [], _, _ => Nat.zero_le _
  | a :: l, l', h => by
    rw [dcG]
    split
    · exact dcG_le l l' fun x hx => h x (.tail _ hx)
    · rename_i ha
      have h1 := dcG_le l (l'.filter (fun x => decide (x ≠ a))) fun x hx => by
        rw [List.mem_filter]
        exact ⟨h x (.tail _ hx), by simpa using fun (e : x = a) => ha (e ▸ hx)⟩
      have h2 := dcG_filter a l'
      rw [if_pos (h a (.head _))] at h2
      lia
theorem dcG_eq {l l' : List α} (h : ∀ x, x ∈ l ↔ x ∈ l') : dcG l = dcG l' := Nat.le_antisymm (dcG_le _ _ fun x hx => (h x).mp hx) (dcG_le _ _ fun x hx => (h x).mpr hx)
theorem dcG_append (q : α → Bool) : ∀ (p h : List α), (∀ x, q x = true ↔ x ∉ h) → p.Nodup → dcG (p ++ h) = dcG h + p.countP q
  | [], h, _, _ => by simp
  | a :: p, h, hq, hn => by
    have hn' := List.nodup_cons.mp hn
    rw [List.cons_append, dcG, dcG_append q p h hq hn'.2, List.countP_cons]
    by_cases e : a ∈ h
    · rw [if_pos (List.mem_append_right _ e), if_neg (fun k => (hq a).mp k e)]; lia
    · rw [if_neg (by simp [hn'.1, e]), if_pos ((hq a).mpr e)]; lia
end
noncomputable def pre (a : Row) : List Row := (List.range a.length).map fun d => a.take (d + 1)
noncomputable def heads (rs : List Row) : List Row := rs.flatMap pre
theorem pre_nodup (a : Row) : (pre a).Nodup := by
  unfold pre
  rw [List.nodup_iff_pairwise_ne, List.pairwise_map]
  refine List.Pairwise.imp_of_mem ?_ List.pairwise_lt_range
  intro i j hi hj hij e
  have h1 := List.mem_range.mp hi
  have h2 := List.mem_range.mp hj
  have := congrArg List.length e
  rw [List.length_take, List.length_take] at this
  lia
theorem lcp_of_take : ∀ (x y : Row) (k : Nat), k ≤ x.length → k ≤ y.length → x.take k = y.take k → k ≤ lcp x y
  | _, _, 0, _, _, _ => Nat.zero_le _
  | [], _, k + 1, h, _, _ => by simp at h
  | _ :: _, [], k + 1, _, h, _ => by simp at h
  | x :: xs, y :: ys, k + 1, h1, h2, h => by
    rw [List.take_succ_cons, List.take_succ_cons] at h
    injection h with e1 e2
    have := lcp_of_take xs ys k (by simpa using h1) (by simpa using h2) e2
    rw [lcp, if_pos e1]; lia
theorem mem_heads {rs : List Row} {p : Row} : p ∈ heads rs ↔ ∃ c ∈ rs, ∃ e, e < c.length ∧ c.take (e + 1) = p := by
  unfold heads pre
  simp [List.mem_flatMap]
theorem count_ge (k : Nat) : ∀ n, k ≤ n → (List.range n).countP (fun d => decide (k ≤ d)) = n - k
  | 0, h => by simp
  | n + 1, h => by
    rw [List.range_succ, List.countP_append]
    by_cases e : k ≤ n
    · rw [count_ge k n e]; simp [e]; lia
    · have : k = n + 1 := by lia
      subst this
      have z : (List.range n).countP (fun d => decide (n + 1 ≤ d)) = 0 := by
        rw [List.countP_eq_zero]
        intro a ha; have := List.mem_range.mp ha; simp; lia
      rw [z]; simp
theorem heads_count : ∀ rs : List Row, Sorted rs → dcG (heads rs) + (nearOf rs).sum = (rs.map List.length).sum
  | [], _ => rfl
  | [a], _ => by
    show dcG (pre a ++ []) + 0 = a.length + 0
    rw [dcG_append (fun _ => true) _ _ (fun x => by simp) (pre_nodup a)]
    unfold pre
    simp [dcG]
  | a :: b :: l, h => by
    have hs := List.pairwise_cons.mp h
    have ih := heads_count (b :: l) hs.2
    have hb := (List.pairwise_cons.mp hs.2).1
    show dcG (pre a ++ heads (b :: l)) + (lcp a b + (nearOf (b :: l)).sum) = a.length + ((b :: l).map List.length).sum
    rw [dcG_append (fun x => decide (x ∉ heads (b :: l))) _ _ (fun x => by rw [decide_eq_true_eq]) (pre_nodup a), ← ih]
    have key : ∀ d, d < a.length → (a.take (d + 1) ∉ heads (b :: l) ↔ lcp a b ≤ d) := by
      intro d hd
      rw [mem_heads]
      constructor
      · intro hn
        refine Nat.le_of_not_lt fun hlt => hn ⟨b, .head _, d, ?_, (lcp_take a b (d + 1) hlt).symm⟩
        have := lcp_le_left b a
        rw [lcp_comm] at this
        lia
      · rintro hle ⟨c, hc, e, he, hce⟩
        have hl : d = e := by
          have := congrArg List.length hce
          rw [List.length_take, List.length_take] at this
          lia
        subst hl
        have h1 := lcp_of_take a c (d + 1) (by lia) (by lia) hce.symm
        have h2 : lcp a c ≤ lcp a b := by
          rcases List.mem_cons.mp hc with rfl | hc
          · exact Nat.le_refl _
          · rw [lcp_chain (hs.1 b (.head _)) (hb c hc)]; exact Nat.min_le_left _ _
        lia
    have cnt : (pre a).countP (fun x => decide (x ∉ heads (b :: l))) = a.length - lcp a b := by
      unfold pre
      rw [List.countP_map, ← count_ge (lcp a b) a.length (lcp_le_left a b)]
      refine List.countP_congr fun d hd => ?_
      have := key d (List.mem_range.mp hd)
      simpa using this
    rw [cnt]
    have := lcp_le_left a b
    lia
theorem heads_perm {rs rs' : List Row} (h : rs.Perm rs') : dcG (heads rs) = dcG (heads rs') := dcG_eq fun x => by
  rw [mem_heads, mem_heads]
  constructor
  · rintro ⟨c, hc, r⟩; exact ⟨c, h.mem_iff.mp hc, r⟩
  · rintro ⟨c, hc, r⟩; exact ⟨c, h.mem_iff.mpr hc, r⟩
end Law
end
section
open PySem PySem.W PyProof.Rows
set_option autoImplicit false
set_option linter.unusedVariables false
namespace Law
/-! the sort's tree of questions sorts -/
noncomputable def runT {α : Type} (lt : Nat → Nat → Bool) : KasT α → α
  | .ret a => a
  | .ask i j k => runT lt (k (lt i j))
theorem runT_bind {α β : Type} (lt : Nat → Nat → Bool) (f : α → KasT β) : ∀ t : KasT α, runT lt (t.bind f) = runT lt (f (runT lt t))
  | .ret _ => rfl
  | .ask i j k => runT_bind lt f (k (lt i j))
section
variable (K : Nat → Nat)
noncomputable def ltK (i j : Nat) : Bool := decide (K i < K j)
noncomputable def kp (p : Array Nat) (k : Nat) : Nat := K (p.getD k 0)
noncomputable def Up (p : Array Nat) (n : Nat) : Prop := ∀ a b, a ≤ b → b < n → kp K p a ≤ kp K p b
noncomputable def Dn (p : Array Nat) (n : Nat) : Prop := ∀ a b, a ≤ b → b < n → kp K p b ≤ kp K p a
variable {K}
theorem kp_rev {p : Array Nat} {i j : Nat} (hj : j ≤ p.size) (k : Nat) : kp K (kas_rev p i j) k = if i ≤ k ∧ k < j then kp K p (i + j - 1 - k) else kp K p k := by
  have e := getElem?_mirror_all (xs := p) (i := i) hj k
  unfold kp kas_rev
  rw [Array.getD_eq_getD_getElem?, Array.getD_eq_getD_getElem?, Array.getD_eq_getD_getElem?, e]
  split <;> rfl
theorem kp_bub {p : Array Nat} {src d : Nat} (hs : src < p.size) (hd : d ≤ src) (k : Nat) : kp K (bubble p src d) k = if k = src - d then kp K p src else if src - d < k ∧ k ≤ src then kp K p (k - 1) else kp K p k := by
  have e := getElem?_bubble (xs := p) hs d hd k
  unfold kp
  rw [Array.getD_eq_getD_getElem?, Array.getD_eq_getD_getElem?, Array.getD_eq_getD_getElem?, Array.getD_eq_getD_getElem?, e]
  split
  · rfl
  · split <;> rfl
theorem asc_run (p : Array Nat) : ∀ (f n : Nat), 1 ≤ n → Up K p n → n ≤ runT (ltK K) (kas_asc p f n) ∧ runT (ltK K) (kas_asc p f n) ≤ n + f ∧ Up K p (runT (ltK K) (kas_asc p f n)) ∧
    (runT (ltK K) (kas_asc p f n) < n + f → kp K p (runT (ltK K) (kas_asc p f n)) < kp K p (runT (ltK K) (kas_asc p f n) - 1))
  | 0, n, _, h => ⟨Nat.le_refl _, Nat.le_refl _, h, fun q => absurd q (Nat.lt_irrefl _)⟩
  | f + 1, n, h1, h => by
    have e : runT (ltK K) (kas_asc p (f + 1) n) = runT (ltK K) (if ltK K (p.getD n 0) (p.getD (n - 1) 0) = true then .ret n else kas_asc p f (n + 1)) := rfl
    rw [e]
    by_cases c : kp K p n < kp K p (n - 1)
    · rw [if_pos (by unfold ltK; simpa [kp] using c)]
      exact ⟨Nat.le_refl _, Nat.le_add_right _ _, h, fun _ => c⟩
    · rw [if_neg (by unfold ltK; simpa [kp] using c)]
      have h' : Up K p (n + 1) := fun a b hab hb => by
        by_cases hbn : b = n
        · subst hbn
          by_cases han : a = b
          · subst han; exact Nat.le_refl _
          · have := h a (b - 1) (by lia) (by lia)
            lia
        · exact h a b hab (by lia)
      obtain ⟨a1, a2, a3, a4⟩ := asc_run p f (n + 1) (by lia) h'
      exact ⟨by lia, by lia, a3, fun q => a4 (by lia)⟩
/-- a block of equal keys, turned round -/
theorem kp_rev_eq {p : Array Nat} {i j : Nat} (hj : j ≤ p.size) (he : ∀ k, i ≤ k → k < j → kp K p k = kp K p (j - 1)) (k : Nat) : kp K (kas_rev p i j) k = kp K p k := by
  rw [kp_rev hj]
  split
  · rename_i h
    rw [he _ (by lia) (by lia), he k (by lia) (by lia)]
  · rfl
theorem rev_size (p : Array Nat) (i j : Nat) : (kas_rev p i j).size = p.size := kas_rev_size i j
theorem rev_perm (p : Array Nat) (i j : Nat) : (kas_rev p i j).Perm p := mirror_perm _ _ _ _
structure DescOut (K : Nat → Nat) (p : Array Nat) (n N : Nat) (r : Array Nat × Nat × Nat) : Prop where
  size : r.1.size = p.size
  perm : r.1.Perm p
  key : ∀ k, kp K r.1 k = kp K p k
  lo : n ≤ r.2.1
  hi : r.2.1 ≤ N
  dn : Dn K p r.2.1
  q : r.2.2 + 1 ≤ r.2.1
  eq : ∀ k, r.2.1 - (r.2.2 + 1) ≤ k → k < r.2.1 → kp K p k = kp K p (r.2.1 - 1)
theorem desc_run : ∀ (f : Nat) (p : Array Nat) (n q : Nat), n + f ≤ p.size → q + 1 ≤ n → Dn K p n → (∀ k, n - (q + 1) ≤ k → k < n → kp K p k = kp K p (n - 1)) → DescOut K p n (n + f) (runT (ltK K) (kas_desc f p n q))
  | 0, p, n, q, hs, hq, hd, he => ⟨rfl, .refl _, fun _ => rfl, Nat.le_refl _, Nat.le_refl _, hd, hq, he⟩
  | f + 1, p, n, q, hs, hq, hd, he => by
    have e : runT (ltK K) (kas_desc (f + 1) p n q) = runT (ltK K) (if ltK K (p.getD n 0) (p.getD (n - 1) 0) = true then (if q > 0 then kas_desc f (kas_rev p (n - (q + 1)) n) (n + 1) 0 else kas_desc f p (n + 1) 0)
        else .ask (p.getD (n - 1) 0) (p.getD n 0) fun d => if d = true then .ret (p, n, q) else kas_desc f p (n + 1) (q + 1)) := rfl
    rw [e]
    have hd' : kp K p n ≤ kp K p (n - 1) → Dn K p (n + 1) := fun c a b hab hb => by
      by_cases hbn : b = n
      · subst hbn
        by_cases han : a = b
        · subst han; exact Nat.le_refl _
        · have := hd a (b - 1) (by lia) (by lia)
          lia
      · exact hd a b hab (by lia)
    by_cases c : kp K p n < kp K p (n - 1)
    · rw [if_pos (by unfold ltK; simpa [kp] using c)]
      by_cases hq0 : q > 0
      · rw [if_pos hq0]
        have hk := kp_rev_eq (K := K) (p := p) (i := n - (q + 1)) (j := n) (by lia) he
        have r := desc_run f (kas_rev p (n - (q + 1)) n) (n + 1) 0 (by rw [rev_size]; lia) (by lia) (fun a b hab hb => by rw [hk, hk]; exact hd' (by lia) a b hab hb) (fun k h1 h2 => by
          have : k = n + 1 - 1 := by lia
          rw [this])
        refine ⟨by rw [r.size, rev_size], r.perm.trans (rev_perm _ _ _), fun k => by rw [r.key, hk], by have := r.lo; lia, by have := r.hi; lia, fun a b hab hb => by have := r.dn a b hab hb; rwa [hk, hk] at this, r.q, fun k h1 h2 => by have := r.eq k h1 h2; rwa [hk, hk] at this⟩
      · rw [if_neg hq0]
        have r := desc_run f p (n + 1) 0 (by lia) (by lia) (hd' (by lia)) (fun k h1 h2 => by
          have : k = n + 1 - 1 := by lia
          rw [this])
        exact ⟨r.size, r.perm, r.key, by have := r.lo; lia, by have := r.hi; lia, r.dn, r.q, r.eq⟩
    · rw [if_neg (by unfold ltK; simpa [kp] using c)]
      show DescOut K p n (n + (f + 1)) (runT (ltK K) (if ltK K (p.getD (n - 1) 0) (p.getD n 0) = true then .ret (p, n, q) else kas_desc f p (n + 1) (q + 1)))
      by_cases c2 : kp K p (n - 1) < kp K p n
      · rw [if_pos (by unfold ltK; simpa [kp] using c2)]
        exact ⟨rfl, .refl _, fun _ => rfl, Nat.le_refl _, Nat.le_add_right _ _, hd, hq, he⟩
      · rw [if_neg (by unfold ltK; simpa [kp] using c2)]
        have r := desc_run f p (n + 1) (q + 1) (by lia) (by lia) (hd' (by lia)) (fun k h1 h2 => by
          by_cases hk : k = n
          · subst hk; rfl
          · have := he k (by lia) (by lia)
            rw [show n + 1 - 1 = n by lia]; lia)
        exact ⟨r.size, r.perm, r.key, by have := r.lo; lia, by have := r.hi; lia, r.dn, r.q, r.eq⟩
structure CountOut (K : Nat → Nat) (p : Array Nat) (N : Nat) (r : Nat × Array Nat) : Prop where
  size : r.2.size = p.size
  perm : r.2.Perm p
  pos : 1 ≤ r.1
  hi : r.1 ≤ N
  up : Up K r.2 r.1
theorem tail3_run (n N : Nat) (p : Array Nat) (h1 : 1 ≤ n) (hn : n ≤ N) (hs : N ≤ p.size) (hd : Dn K p n) : CountOut K p N (runT (ltK K) (kas_tail3 n N p)) := by
  unfold kas_tail3
  rw [runT_bind]
  have hup : Up K (kas_rev p 0 n) n := fun a b hab hb => by
    rw [kp_rev (by lia), kp_rev (by lia), if_pos ⟨by lia, by lia⟩, if_pos ⟨by lia, hb⟩]
    exact hd _ _ (by lia) (by lia)
  obtain ⟨a1, a2, a3, _⟩ := asc_run (K := K) (kas_rev p 0 n) (N - n) n h1 hup
  exact ⟨rev_size _ _ _, rev_perm _ _ _, Nat.le_trans h1 a1, by show runT _ _ ≤ N; lia, a3⟩
theorem descPart_run (n N : Nat) (p : Array Nat) (h1 : 1 ≤ n) (hn : n + 1 ≤ N) (hs : N ≤ p.size) (hd : Dn K p (n + 1)) : CountOut K p N (runT (ltK K) (kas_descPart n N p)) := by
  unfold kas_descPart
  rw [runT_bind]
  have r := desc_run (K := K) (N - (n + 1)) p (n + 1) 0 (by lia) (by lia) hd (fun k h1 h2 => by
    have : k = n + 1 - 1 := by lia
    rw [this])
  have hhi := r.hi
  have hlo := r.lo
  generalize runT (ltK K) (kas_desc (N - (n + 1)) p (n + 1) 0) = o at r hhi hlo
  have hsz := r.size
  by_cases hq : o.2.2 > 0
  · rw [if_pos hq]
    have hk := kp_rev_eq (K := K) (p := o.1) (i := o.2.1 - (o.2.2 + 1)) (j := o.2.1) (by lia) (fun k h1 h2 => by rw [r.key, r.key]; exact r.eq k h1 h2)
    have t := tail3_run (K := K) o.2.1 N (kas_rev o.1 (o.2.1 - (o.2.2 + 1)) o.2.1) (by lia) (by lia) (by rw [rev_size]; lia) (fun a b hab hb => by rw [hk, hk, r.key, r.key]; exact r.dn a b hab hb)
    exact ⟨by rw [t.size, rev_size, hsz], t.perm.trans ((rev_perm _ _ _).trans r.perm), t.pos, t.hi, t.up⟩
  · rw [if_neg hq]
    have t := tail3_run (K := K) o.2.1 N o.1 (by lia) (by lia) (by lia) (fun a b hab hb => by rw [r.key, r.key]; exact r.dn a b hab hb)
    exact ⟨by rw [t.size, hsz], t.perm.trans r.perm, t.pos, t.hi, t.up⟩
theorem count_run (N : Nat) (p : Array Nat) (h1 : 1 ≤ N) (hs : N ≤ p.size) : CountOut K p N (runT (ltK K) (kas_count N p)) := by
  unfold kas_count
  rw [runT_bind]
  obtain ⟨a1, a2, a3, a4⟩ := asc_run (K := K) p (N - 1) 1 (Nat.le_refl _) (fun a b hab hb => by
    have : a = b := by lia
    subst this; exact Nat.le_refl _)
  generalize runT (ltK K) (kas_asc p (N - 1) 1) = n at a1 a2 a3 a4
  by_cases hn : n = N
  · subst hn
    rw [if_pos (by simp)]
    exact ⟨rfl, .refl _, a1, Nat.le_refl _, a3⟩
  · rw [if_neg (by simpa using hn)]
    have lt := a4 (by lia)
    by_cases h2 : n > 1
    · rw [if_pos h2]
      show CountOut K p N (runT (ltK K) (if ltK K (p.getD 0 0) (p.getD (n - 1) 0) = true then .ret (n, p) else kas_descPart n N (kas_rev p 0 n)))
      by_cases c : kp K p 0 < kp K p (n - 1)
      · rw [if_pos (by unfold ltK; simpa [kp] using c)]
        exact ⟨rfl, .refl _, a1, by show n ≤ N; lia, a3⟩
      · rw [if_neg (by unfold ltK; simpa [kp] using c)]
        have eq : ∀ k, 0 ≤ k → k < n → kp K p k = kp K p (n - 1) := fun k _ hk => by
          have x1 := a3 0 k (Nat.zero_le _) hk
          have x2 := a3 k (n - 1) (by lia) (by lia)
          lia
        have hk := kp_rev_eq (K := K) (p := p) (i := 0) (j := n) (by lia) eq
        have t := descPart_run (K := K) n N (kas_rev p 0 n) a1 (by lia) (by rw [rev_size]; lia) (fun a b hab hb => by
          rw [hk, hk]
          by_cases hb' : b < n
          · rw [eq a (by lia) (by lia), eq b (by lia) hb']; exact Nat.le_refl _
          · have : b = n := by lia
            subst this
            by_cases ha : a < b
            · rw [eq a (by lia) ha]; lia
            · have : a = b := by lia
              subst this; exact Nat.le_refl _)
        exact ⟨by rw [t.size, rev_size], t.perm.trans (rev_perm _ _ _), t.pos, t.hi, t.up⟩
    · rw [if_neg h2]
      exact descPart_run (K := K) n N p a1 (by lia) hs (fun a b hab hb => by
        have : n = 1 := by lia
        subst this
        by_cases e : a = b
        · subst e; exact Nat.le_refl _
        · have : a = 0 := by lia
          have : b = 1 := by lia
          subst a; subst b
          exact Nat.le_of_lt lt)
theorem place_run (p : Array Nat) (k : Nat) (hk : k < p.size) (hu : Up K p k) : ∀ (f l r : Nat), r - l ≤ f → l ≤ r → r ≤ k → (∀ a, a < l → kp K p a ≤ kp K p k) → (∀ a, r ≤ a → a < k → kp K p k < kp K p a) →
    ∃ m, runT (ltK K) (kas_place p k f l r) = m ∧ m ≤ k ∧ (∀ a, a < m → kp K p a ≤ kp K p k) ∧ (∀ a, m ≤ a → a < k → kp K p k < kp K p a)
  | 0, l, r, h1, h2, h3, h4, h5 => ⟨l, rfl, by lia, h4, fun a ha => h5 a (by lia)⟩
  | f + 1, l, r, h1, h2, h3, h4, h5 => by
    by_cases hlr : l ≥ r
    · refine ⟨l, ?_, by lia, h4, fun a ha => h5 a (by lia)⟩
      unfold kas_place
      rw [if_pos hlr]
      rfl
    · have e : runT (ltK K) (kas_place p k (f + 1) l r) = runT (ltK K) (if ltK K (p.getD k 0) (p.getD ((l + r) / 2) 0) = true then kas_place p k f l ((l + r) / 2) else kas_place p k f ((l + r) / 2 + 1) r) := by
        show runT (ltK K) (if l ≥ r then .ret l else .ask (p.getD k 0) (p.getD ((l + r) / 2) 0) fun c => if c = true then kas_place p k f l ((l + r) / 2) else kas_place p k f ((l + r) / 2 + 1) r) = _
        rw [if_neg hlr]
        rfl
      rw [e]
      by_cases c : kp K p k < kp K p ((l + r) / 2)
      · rw [if_pos (by unfold ltK; simpa [kp] using c)]
        exact place_run p k hk hu f l ((l + r) / 2) (by lia) (by lia) (by lia) h4 fun a ha hak => by
          by_cases hr : r ≤ a
          · exact h5 a hr hak
          · have := hu ((l + r) / 2) a (by lia) hak
            lia
      · rw [if_neg (by unfold ltK; simpa [kp] using c)]
        exact place_run p k hk hu f ((l + r) / 2 + 1) r (by lia) (by lia) h3 (fun a ha => by
          have := hu a ((l + r) / 2) (by lia) (by lia)
          lia) h5
theorem bin_run : ∀ (f : Nat) (p : Array Nat) (k : Nat), k + f = p.size → Up K p k →
    (runT (ltK K) (kas_bin f p k)).size = p.size ∧ (runT (ltK K) (kas_bin f p k)).Perm p ∧ Up K (runT (ltK K) (kas_bin f p k)) p.size
  | 0, p, k, h, hu => ⟨rfl, .refl _, by
      have : k = p.size := by lia
      subst this; exact hu⟩
  | f + 1, p, k, h, hu => by
    have e : runT (ltK K) (kas_bin (f + 1) p k) = runT (ltK K) (kas_bin f (bubble p k (k - runT (ltK K) (kas_place p k k 0 k))) (k + 1)) := by
      show runT (ltK K) ((kas_place p k k 0 k).bind fun l => kas_bin f (bubble p k (k - l)) (k + 1)) = _
      rw [runT_bind]
    obtain ⟨m, hm, m1, m2, m3⟩ := place_run (K := K) p k (by lia) hu k 0 k (by lia) (Nat.zero_le _) (Nat.le_refl _) (fun a ha => absurd ha (Nat.not_lt_zero _)) (fun a h1 h2 => by lia)
    rw [e, hm]
    have hb := kp_bub (K := K) (p := p) (src := k) (d := k - m) (by lia) (by lia)
    rw [show k - (k - m) = m by lia] at hb
    have sz : (bubble p k (k - m)).size = p.size := bubble_size _ _ _
    have hu' : Up K (bubble p k (k - m)) (k + 1) := fun a b hab hbk => by
      rw [hb, hb]
      by_cases ha : a = m
      · rw [if_pos ha]
        by_cases hb2 : b = m
        · rw [if_pos hb2]; exact Nat.le_refl _
        · rw [if_neg hb2, if_pos ⟨by lia, by lia⟩]
          exact Nat.le_of_lt (m3 (b - 1) (by lia) (by lia))
      · rw [if_neg ha]
        by_cases ha2 : m < a ∧ a ≤ k
        · rw [if_pos ha2, if_neg (by lia), if_pos ⟨by lia, by lia⟩]
          exact hu _ _ (by lia) (by lia)
        · rw [if_neg ha2]
          by_cases hb2 : b = m
          · rw [if_pos hb2]; exact m2 a (by lia)
          · rw [if_neg hb2]
            by_cases hb3 : m < b ∧ b ≤ k
            · rw [if_pos hb3]; exact hu _ _ (by lia) (by lia)
            · rw [if_neg hb3]; exact hu _ _ hab (by lia)
    obtain ⟨r1, r2, r3⟩ := bin_run f (bubble p k (k - m)) (k + 1) (by rw [sz]; lia) hu'
    rw [sz] at r1 r3
    exact ⟨r1, r2.trans (bubble_perm _ _ _), r3⟩
theorem sort_run (N : Nat) (h1 : 1 ≤ N) : (runT (ltK K) (kas_sort N)).Perm (List.toArray (List.range N)) ∧ Up K (runT (ltK K) (kas_sort N)) N := by
  unfold kas_sort
  rw [runT_bind]
  have c := count_run (K := K) N (List.toArray (List.range N)) h1 (by simp)
  generalize runT (ltK K) (kas_count N (List.toArray (List.range N))) = r at c
  have cp := c.pos
  have ch := c.hi
  have cs := c.size
  rw [show (List.toArray (List.range N)).size = N by simp] at cs
  by_cases h : r.1 < N
  · rw [if_pos h, show max r.1 1 = r.1 by lia]
    obtain ⟨b1, b2, b3⟩ := bin_run (K := K) (N - r.1) r.2 r.1 (by lia) c.up
    rw [cs] at b3
    exact ⟨b2.trans c.perm, b3⟩
  · rw [if_neg h]
    have : r.1 = N := by lia
    refine ⟨c.perm, ?_⟩
    have u := c.up
    rw [this] at u
    exact u
end
end Law
end
section
set_option autoImplicit false
set_option linter.unusedVariables false
namespace Law
/-! the rows' order is one of ranks -/
theorem lt_le : ∀ {y a b : Row}, ltRows y a = true → LeR a b → ltRows y b = true
  | [], [], b, h, _ => by simp [ltRows] at h
  | [], _ :: _, [], _, k => absurd k.nil_right (fun h => h)
  | [], _ :: _, _ :: _, _, _ => rfl
  | _ :: _, [], _, h, _ => by simp [ltRows] at h
  | _ :: _, _ :: _, [], _, k => absurd k.nil_right (fun h => h)
  | x :: y, u :: a, v :: b, h, k => by
    rw [ltRows] at h ⊢
    rcases k.cons with ⟨rfl, k'⟩ | ⟨kne, klt⟩
    · by_cases e : x = u
      · rw [if_pos e] at h ⊢; exact lt_le h k'
      · rw [if_neg e] at h ⊢; exact h
    · by_cases e : x = u
      · subst e
        rw [if_neg kne, decide_eq_true_eq]; exact klt
      · rw [if_neg e, decide_eq_true_eq] at h
        have hl : x < v := List.lt_trans h klt
        rw [if_neg (fun e2 => by subst e2; exact List.lt_irrefl _ hl), decide_eq_true_eq]
        exact hl
theorem lt_asymm {a b : Row} (h : ltRows a b = true) : LeR a b := by
  unfold LeR
  cases e : ltRows b a with
  | false => rfl
  | true =>
    -- b < a and a < b: then b < b
    have hab : LeR a b ∨ ltRows b a = true := .inr e
    exfalso
    have key : ∀ {x y : Row}, ltRows x y = true → ltRows y x = true → False := by
      intro x
      induction x with
      | nil => intro y _ h2; cases y <;> simp [ltRows] at h2
      | cons c x ih =>
        intro y h1 h2
        cases y with
        | nil => simp [ltRows] at h1
        | cons d y =>
          rw [ltRows] at h1 h2
          by_cases q : c = d
          · subst q
            rw [if_pos rfl] at h1 h2
            exact ih h1 h2
          · rw [if_neg q, decide_eq_true_eq] at h1
            rw [if_neg (Ne.symm q), decide_eq_true_eq] at h2
            exact List.lt_asymm h1 h2
    exact key h e
theorem LeR.trans {a b c : Row} (h : LeR a b) (k : LeR b c) : LeR a c := by
  unfold LeR
  cases e : ltRows c a with
  | false => rfl
  | true =>
    have := lt_le e h
    unfold LeR at k
    rw [k] at this; cases this
noncomputable def rank (xs : List Row) (x : Row) : Nat := xs.countP fun y => ltRows y x
theorem rank_le (xs : List Row) {a b : Row} (h : LeR a b) : rank xs a ≤ rank xs b := List.countP_mono_left fun y _ hy => lt_le hy h
theorem rank_lt {xs : List Row} {a b : Row} (ha : a ∈ xs) (h : ltRows a b = true) : rank xs a < rank xs b := by
  unfold rank
  induction xs with
  | nil => cases ha
  | cons y xs ih =>
    rw [List.countP_cons, List.countP_cons]
    have mono : xs.countP (fun y => ltRows y a) ≤ xs.countP (fun y => ltRows y b) := List.countP_mono_left fun y _ hy => lt_le hy (lt_asymm h)
    have one : ltRows y a = true → ltRows y b = true := fun hy => lt_le hy (lt_asymm h)
    rcases List.mem_cons.mp ha with rfl | ha
    · have irr : ltRows a a = false := LeR.refl a
      rw [irr, h]; simp; omega
    · have := ih ha
      cases e1 : ltRows y a with
      | false => simp; omega
      | true => rw [one e1]; simp; omega
theorem rank_iff {xs : List Row} {a b : Row} (ha : a ∈ xs) : ltRows a b = decide (rank xs a < rank xs b) := by
  cases e : ltRows a b with
  | true => rw [decide_eq_true (rank_lt ha e)]
  | false => rw [decide_eq_false (Nat.not_lt.mpr (rank_le xs (show LeR b a from e)))]
theorem rank_le_iff {xs : List Row} {a b : Row} (hb : b ∈ xs) (h : rank xs a ≤ rank xs b) : LeR a b := by
  unfold LeR
  cases e : ltRows b a with
  | false => rfl
  | true => exact absurd (rank_lt hb e) (Nat.not_lt.mpr h)
end Law
end
section
set_option autoImplicit false
set_option linter.unusedVariables false
namespace Law
/-! what is sorted both ways is one -/
theorem LeR.antisymm {a b : Row} (h : LeR a b) (k : LeR b a) : a = b := by
  induction a generalizing b with
  | nil => cases b with
    | nil => rfl
    | cons y b => exact absurd k.nil_right (fun h => h)
  | cons x a ih => cases b with
    | nil => exact absurd h.nil_right (fun h => h)
    | cons y b =>
      rcases h.cons with ⟨rfl, h'⟩ | ⟨hne, hlt⟩
      · rcases k.cons with ⟨_, k'⟩ | ⟨kne, _⟩
        · rw [ih h' k']
        · exact absurd rfl kne
      · rcases k.cons with ⟨rfl, _⟩ | ⟨_, klt⟩
        · exact absurd rfl hne
        · exact absurd klt (List.lt_asymm hlt)
theorem sorted_unique : ∀ {xs ys : List Row}, xs.Perm ys → Sorted xs → Sorted ys → xs = ys := by
  intro xs ys hp hx hy
  exact hp.eq_of_pairwise (fun a b _ _ h k => LeR.antisymm h k) hx hy
end Law
end
section
set_option autoImplicit false
set_option linter.unusedVariables false
namespace Law
noncomputable def joinL (sep : List Nat) : List (List Nat) → List Nat
  | [] => []
  | [x] => x
  | x :: y :: l => x ++ sep ++ joinL sep (y :: l)
theorem app_sep {c : Nat} : ∀ {x y r r' : List Nat}, c ∉ x → c ∉ y → x ++ c :: r = y ++ c :: r' → x = y ∧ r = r'
  | [], [], _, _, _, _, h => ⟨rfl, (List.cons.inj h).2⟩
  | [], b :: y, _, _, _, hy, h => absurd (List.cons.inj h).1 (fun e => hy (e ▸ .head _))
  | a :: x, [], _, _, hx, _, h => absurd (List.cons.inj h).1 (fun e => hx (e ▸ .head _))
  | a :: x, b :: y, _, _, hx, hy, h => by
    obtain ⟨h1, h2⟩ := List.cons.inj h
    obtain ⟨e1, e2⟩ := app_sep (fun k => hx (.tail _ k)) (fun k => hy (.tail _ k)) h2
    exact ⟨by rw [h1, e1], e2⟩
theorem join_inj {c : Nat} : ∀ {l k : List (List Nat)}, l ≠ [] → k ≠ [] → (∀ x ∈ l, c ∉ x) → (∀ x ∈ k, c ∉ x) → joinL [c] l = joinL [c] k → l = k
  | [], _, h, _, _, _, _ => absurd rfl h
  | _, [], _, h, _, _, _ => absurd rfl h
  | [x], [y], _, _, _, _, h => by rw [show x = y from h]
  | [x], y :: z :: l, _, _, hx, _, h => by
    have e : x = y ++ [c] ++ joinL [c] (z :: l) := h
    exact absurd (hx x (.head _)) (by rw [e]; simp)
  | x :: z :: l, [y], _, _, _, hy, h => by
    have e : x ++ [c] ++ joinL [c] (z :: l) = y := h
    exact absurd (hy y (.head _)) (by rw [← e]; simp)
  | x :: u :: l, y :: v :: k, _, _, hx, hy, h => by
    have e : x ++ c :: joinL [c] (u :: l) = y ++ c :: joinL [c] (v :: k) := by
      have : x ++ [c] ++ joinL [c] (u :: l) = y ++ [c] ++ joinL [c] (v :: k) := h
      simpa using this
    obtain ⟨e1, e2⟩ := app_sep (hx x (.head _)) (hy y (.head _)) e
    have := join_inj (l := u :: l) (k := v :: k) (by simp) (by simp) (fun z hz => hx z (.tail _ hz)) (fun z hz => hy z (.tail _ hz)) e2
    rw [e1, this]
theorem count_join {c : Nat} : ∀ {l : List (List Nat)}, (∀ x ∈ l, c ∉ x) → (joinL [c] l).count c = l.length - 1
  | [], _ => rfl
  | [x], h => List.count_eq_zero.mpr (h x (.head _))
  | x :: y :: l, h => by
    have ih := count_join (l := y :: l) fun z hz => h z (.tail _ hz)
    have hx := List.count_eq_zero.mpr (h x (.head _))
    show (x ++ [c] ++ joinL [c] (y :: l)).count c = _
    rw [List.count_append, List.count_append, hx, ih]
    simp
    lia
end Law
end
section
set_option autoImplicit false
set_option linter.unusedVariables false
namespace Law
theorem lcp_full : ∀ (a b : Row), a.take a.length = b.take a.length → lcp a b = a.length
  | [], _, _ => by simp [lcp]
  | x :: a, [], h => by simp at h
  | x :: a, y :: b, h => by
    simp only [List.length_cons, List.take_succ_cons, List.cons.injEq] at h
    rw [lcp, if_pos h.1, lcp_full a b h.2, List.length_cons]
theorem lcp_at : ∀ (a b : Row) (i : Nat) (x y : List Nat), a.take i = b.take i → a[i]? = some x → b[i]? = some y → x ≠ y → lcp a b = i
  | [], _, _, _, _, _, h, _, _ => by simp at h
  | _ :: _, [], _, _, _, _, _, h, _ => by simp at h
  | p :: a, q :: b, 0, x, y, h, h1, h2, h3 => by
    simp at h1 h2
    subst h1; subst h2
    rw [lcp, if_neg h3]
  | p :: a, q :: b, i + 1, x, y, h, h1, h2, h3 => by
    simp only [List.take_succ_cons, List.cons.injEq] at h
    rw [lcp, if_pos h.1, lcp_at a b i x y h.2 (by simpa using h1) (by simpa using h2) h3]
theorem le_next : ∀ (a b : Row) (i : Nat), ltRows b a = false → a.take i = b.take i → i < a.length → i < b.length
  | [], _, _, _, _, h => by simp at h
  | p :: a, [], _, h, _, _ => by simp [ltRows] at h
  | p :: a, q :: b, 0, _, _, _ => by simp
  | p :: a, q :: b, i + 1, h, ht, hl => by
    simp only [List.take_succ_cons, List.cons.injEq] at ht
    rw [ltRows, if_pos ht.1.symm] at h
    have := le_next a b i h ht.2 (by simpa using hl)
    simpa using this
end Law
end
section
open PySem PySem.W PyProof.Rows
set_option autoImplicit false
set_option linter.unusedVariables false
set_option maxHeartbeats 1000000
namespace Law
/-- every question of a tree names two places below n -/
noncomputable def AskT {α : Type} (n : Nat) : KasT α → (α → Prop) → Prop
  | .ret a, Q => Q a
  | .ask i j k, Q => i < n ∧ j < n ∧ ∀ b, AskT n (k b) Q
theorem AskT.mono {α : Type} {n : Nat} {Q Q' : α → Prop} (h : ∀ a, Q a → Q' a) : ∀ t : KasT α, AskT n t Q → AskT n t Q'
  | .ret a, q => h a q
  | .ask _ _ k, q => ⟨q.1, q.2.1, fun b => AskT.mono h (k b) (q.2.2 b)⟩
theorem AskT.bind {α β : Type} {n : Nat} {f : α → KasT β} {Q : β → Prop} : ∀ t : KasT α, AskT n t (fun a => AskT n (f a) Q) → AskT n (t.bind f) Q
  | .ret _, q => q
  | .ask _ _ k, q => ⟨q.1, q.2.1, fun b => AskT.bind (k b) (q.2.2 b)⟩
noncomputable def Bd (p : Array Nat) (n : Nat) : Prop := ∀ k, p.getD k 0 < n
theorem Bd.of {p : Array Nat} {n : Nat} (h0 : 0 < n) (h : ∀ x ∈ p, x < n) : Bd p n := fun k => by
  rw [Array.getD_eq_getD_getElem?]
  cases e : p[k]? with
  | none => exact h0
  | some x => exact h x (Array.mem_of_getElem? e)
theorem Bd.mem {p : Array Nat} {n : Nat} (h : Bd p n) : ∀ x ∈ p, x < n := fun x hx => by
  obtain ⟨k, hk⟩ := Array.getElem?_of_mem hx
  have := h k
  rw [Array.getD_eq_getD_getElem?, hk] at this; exact this
theorem Bd.perm {p q : Array Nat} {n : Nat} (h : Bd p n) (e : q.Perm p) : Bd q n := Bd.of (Nat.lt_of_le_of_lt (Nat.zero_le _) (h 0)) fun x hx => h.mem x (by
  have := e.mem_iff (a := x)
  exact this.mp hx)
theorem Bd.rev {p : Array Nat} {n : Nat} (h : Bd p n) (i j : Nat) : Bd (kas_rev p i j) n := h.perm (rev_perm p i j)
theorem Bd.bub {p : Array Nat} {n : Nat} (h : Bd p n) (i j : Nat) : Bd (bubble p i j) n := h.perm (bubble_perm _ _ _)
theorem asc_ask {p : Array Nat} {n : Nat} (h : Bd p n) : ∀ f k, AskT n (kas_asc p f k) (fun _ => True)
  | 0, _ => trivial
  | f + 1, k => ⟨h _, h _, fun b => by
    cases b with
    | true => exact trivial
    | false => exact asc_ask h f _⟩
theorem desc_ask {n : Nat} : ∀ f (p : Array Nat) (_ : Bd p n) m q, AskT n (kas_desc f p m q) (fun r => Bd r.1 n)
  | 0, p, h, _, _ => h
  | f + 1, p, h, m, q => ⟨h _, h _, fun b => by
    cases b with
    | true =>
      show AskT n (if q > 0 then kas_desc f (kas_rev p (m - (q + 1)) m) (m + 1) 0 else kas_desc f p (m + 1) 0) _
      split
      · exact desc_ask f _ (h.rev _ _) _ _
      · exact desc_ask f _ h _ _
    | false => exact ⟨h _, h _, fun b' => by
        cases b' with
        | true => exact h
        | false => exact desc_ask f _ h _ _⟩⟩
theorem tail3_ask {n : Nat} {p : Array Nat} (h : Bd p n) (m N : Nat) : AskT n (kas_tail3 m N p) (fun r => Bd r.2 n) := by
  unfold kas_tail3
  exact AskT.bind _ ((asc_ask (h.rev _ _) _ _).mono (fun _ _ => h.rev _ _) _)
theorem descPart_ask {n : Nat} {p : Array Nat} (h : Bd p n) (m N : Nat) : AskT n (kas_descPart m N p) (fun r => Bd r.2 n) := by
  unfold kas_descPart
  refine AskT.bind _ ((desc_ask _ p h _ _).mono (fun r hr => ?_) _)
  split
  · exact tail3_ask (hr.rev _ _) _ _
  · exact tail3_ask hr _ _
theorem count_ask {n : Nat} {p : Array Nat} (h : Bd p n) (N : Nat) : AskT n (kas_count N p) (fun r => Bd r.2 n) := by
  unfold kas_count
  refine AskT.bind _ ((asc_ask h _ _).mono (fun m _ => ?_) _)
  split
  · exact h
  · split
    · refine ⟨h _, h _, fun b => ?_⟩
      cases b with
      | true => exact h
      | false => exact descPart_ask (h.rev _ _) _ _
    · exact descPart_ask h _ _
theorem place_ask {n : Nat} {p : Array Nat} (h : Bd p n) (k : Nat) : ∀ f l r, AskT n (kas_place p k f l r) (fun _ => True)
  | 0, _, _ => trivial
  | f + 1, l, r => by
    unfold kas_place
    split
    · trivial
    · refine ⟨h _, h _, fun b => ?_⟩
      cases b with
      | true => exact place_ask h k f _ _
      | false => exact place_ask h k f _ _
theorem bin_ask {n : Nat} : ∀ f (p : Array Nat) (_ : Bd p n) k, AskT n (kas_bin f p k) (fun _ => True)
  | 0, _, _, _ => trivial
  | f + 1, p, h, k => AskT.bind _ ((place_ask h k _ _ _).mono (fun l _ => bin_ask f _ (h.bub _ _) _) _)
theorem sort_ask {n : Nat} (h0 : 0 < n) : AskT n (kas_sort n) (fun _ => True) := by
  unfold kas_sort
  refine AskT.bind _ ((count_ask (Bd.of h0 fun x hx => ?_) n).mono (fun r hr => ?_) _)
  · simpa using hx
  · split
    · exact bin_ask _ _ hr _
    · trivial
theorem ask_run {α : Type} {n : Nat} {lt : Nat → Nat → Bool} {cmp : Nat → Nat → (Bool → Shared → Prop) → Shared → Prop} {Q : α → Shared → Prop} {s : Shared} (hc : ∀ i j C, i < n → j < n → C (lt i j) s → cmp i j C s) {R : α → Prop} :
    ∀ t : KasT α, AskT n t R → Q (runT lt t) s → t.kasWp cmp Q s
  | .ret _, _, h => h
  | .ask i j k, q, h => hc i j _ q.1 q.2.1 (ask_run hc (k (lt i j)) (q.2.2 _) h)
end Law
end
namespace Mine
section
open PySem PySem.W PyProof.Rows
open Builtin Builtin.Str
set_option compiler.extract_closed false
local macro_rules | `(tactic| kspl_open L) => `(tactic| (focus (with_reducible refine' ldL ?_ ?_ ?_ ?_ ?_ ?_ ?_); rotate_left 6; assumption; rfl; rfl; rfl; (first | rfl | assumption); rotate_left; rfl))
local macro_rules | `(tactic| kspl_open mm) => `(tactic| · (with_reducible repeat (first | exact List.Mem.head _ | refine' List.Mem.tail _ ?_)))
local macro_rules | `(tactic| kspl_open G) => `(tactic| (focus (with_reducible refine' ldG' ?_ ?_ ?_ ?_ ?_ ?_ ?_ ?_); rotate_left 7; assumption; assumption; rfl; rfl; rfl; kspl_open mm; rfl))
local macro_rules | `(tactic| kspl_open B) => `(tactic| (focus (with_reducible refine' ldB' ?_ ?_ ?_ ?_ ?_ ?_ ?_ ?_ ?_ ?_); rotate_left 7; assumption; assumption; rfl; rfl; rfl; rfl; kspl_open mm; rfl; rfl))
local macro_rules | `(tactic| kspl_open S) => `(tactic| (focus (with_reducible refine' stL ?_ ?_ ?_ ?_ ?_); rotate_left 5; assumption; rfl; rfl; rfl; intro _ _))
local macro_rules | `(tactic| kspl_open r1) => `(tactic| (focus (with_reducible first | refine' a_cons ?_ ?_ | refine' e_cmp ?_ ?_ | refine' t_cmp ?_ ?_ | refine' x_asg ?_ ?_ | refine' e_sub' ?_ ?_ | refine' e_call ?_ ?_ | refine' t_plain ?_ ?_); rotate_left; rfl))
local macro_rules | `(tactic| kspl_open asg) => `(tactic| (focus (with_reducible refine' x_asg ?_ ?_); rotate_left; rfl))
local macro_rules | `(tactic| kspl_open cal) => `(tactic| (focus (with_reducible refine' e_call ?_ ?_); rotate_left; rfl))
local macro_rules | `(tactic| kspl_open met) => `(tactic| (focus (with_reducible refine' e_meth ?_ ?_); rotate_left 2; rfl))
local macro_rules | `(tactic| kspl_open exp) => `(tactic| (focus (with_reducible refine' x_expr ?_ ?_ ?_); rotate_left; rfl; rfl))
local macro_rules | `(tactic| kspl_open fo) => `(tactic| (((with_reducible refine' x_for (fun _ => ?k) ?a); (case a => (intro _; rfl)))))
local macro_rules | `(tactic| kspl_open cw) => `(tactic| (focus first | ((with_reducible first | refine' c_bi ?_ ?_ ?_ | refine' c_ty ?_ ?_ ?_ | refine' c_m1 ?_ ?_ ?_); rotate_left; rfl; rfl) | ((with_reducible refine' c_fn ?_ ?_ ?_); rotate_left 4; rfl; rotate_left; rfl)))
local macro_rules | `(tactic| kspl_open ap) => `(tactic| first | ((with_reducible refine' meth_list (mu0 ?F) slot_list_append type_list_append ?k); (case F => assumption)) | ((with_reducible refine' meth_list (mu1 ?F) slot_list_append type_list_append ?k); (case F => assumption)))
local macro_rules | `(tactic| kspl_open nw) => `(tactic| (rotate_left 5; assumption; exact sl_of (Nat.le_of_ble_eq_true rfl); rfl))
local macro_rules | `(tactic| kspl_open nt) => `(tactic| (focus (with_reducible refine' z_newTi ?_ ?_ ?_ ?_); kspl_open nw))
local macro_rules | `(tactic| kspl_open nl) => `(tactic| (focus (with_reducible refine' z_newi ?_ ?_ ?_ ?_); kspl_open nw))
local macro_rules | `(tactic| kspl_open e) => `(tactic| (first
  | kspl_open L | kspl_open G | kspl_open B
  | (focus (with_reducible first | refine' z_int ?_ ?_ | refine' z_str ?_ ?_ | refine' z_add ?_ ?_ | refine' z_sub ?_ ?_ | refine' z_iadd ?_ ?_); rotate_left 5; assumption; intro _ _ _)
  | (with_reducible refine' a_nil ?_) | kspl_open S
  | kspl_open cw | kspl_open exp
  | (with_reducible first | refine' e_bin ?_ | refine' e_tup ?_ | refine' e_lst ?_ | refine' e_ife ?_)
  | kspl_open met
  | (with_reducible first | refine' x_if ?_ | refine' x_ret ?_ | refine' x_nil ?_ | refine' x_aug ?_ | refine' x_break ?_ | refine' x_cont ?_)
  | (focus (with_reducible refine' ldLn ?_ ?_ ?_ ?_ ?_ ?_); rotate_left 6; assumption; rfl; rfl; rfl; (first | rfl | assumption))
  | (with_reducible first | refine' z_tb ?_ | refine' ite_no ?_ | refine' ite_yes ?_ | refine' ite_nt ?_ | refine' ite_nf ?_ | refine' isTrue_not ?_ | refine' isTrue_and ?_ | refine' isTrue_or ?_ | refine' isTrue_and_nil ?_ | refine' isTrue_or_nil ?_)
  | kspl_open r1
  | (with_reducible first | refine' z_lt ?_ | refine' z_gt ?_ | refine' z_eq ?_ | refine' z_ne ?_ | refine' z_eqs ?_ | refine' z_nes ?_ | refine' z_lts ?_)
  | (focus (with_reducible refine' z_mod ?_ ?_ ?_); rotate_left 5; assumption; decide; intro _ _ _) | (focus (with_reducible refine' z_div ?_ ?_ ?_ ?_); rotate_left 5; assumption; decide; decide; intro _ _ _)))
local macro_rules | `(tactic| kspl_open p) => `(tactic| (with_reducible first | refine' p_none ?_ | refine' p_some ?_))
local macro_rules | `(tactic| kspl_open slL) => `(tactic| (focus (with_reducible refine' e_slL ?_ ?_); rotate_left; intro _ _; rfl))
local macro_rules | `(tactic| kspl_open slS) => `(tactic| (focus (with_reducible refine' e_slS ?_ ?_); rotate_left; intro _ _; rfl))
local macro_rules | `(tactic| kspl_open gm) => `(tactic| (with_reducible first | refine' GM.join ?_ | refine' GM.split ?_ | refine' GM.startswith ?_ | refine' GM.endswith ?_ | refine' GM.count ?_))
local macro_rules | `(tactic| kspl_open comp) => `(tactic| (((with_reducible refine' e_comp ?a ?b ?d ?e ?k); (case a => (intro _; rfl)); (case b => rfl); (case d => rfl); (case e => rfl))))
local macro_rules | `(tactic| kspl_open xcomp) => `(tactic| (((with_reducible refine' x_comp ?s ?a ?b ?d ?e ?k); (case s => rfl); (case a => (intro _; rfl)); (case b => rfl); (case d => rfl); (case e => rfl))))
local macro_rules | `(tactic| kspl_open e0) => `(tactic| ((fail_if_success (with_reducible refine' e_ife ?_)); kspl_open e))
section
open PySem PySem.W PyProof.Rows
set_option autoImplicit false
set_option linter.unusedVariables false
set_option maxRecDepth 100000
set_option maxHeartbeats 1000000
structure GoodName (x : Str) : Prop where
  ne : x.cps.toList ≠ []
  dot : x.cps.toList ≠ [46]
  sg : ∀ c ∈ x.cps.toList, 13 < c ∧ c ≠ 47
  hi : ∀ c ∈ x.cps.toList, c < 1114112
  len : x.cps.toList.length ≤ 3
open Builtin Builtin.Str
section
variable {prog : Program} {w : World} {mb : Str → Option Value} {A : Around} {E : Value → Shared → Prop} {s : Shared} {P : Part} {Q : Value → Shared → Prop}
theorem good_lit {x : Str} (h : (decide (x.cps.toList ≠ []) && decide (x.cps.toList ≠ [46]) && x.cps.toList.all (fun c => decide (13 < c) && decide (c ≠ 47)) && x.cps.toList.all (fun c => decide (c < 1114112)) && decide (x.cps.toList.length ≤ 3)) = true) : GoodName x := by
  simp only [Bool.and_eq_true, decide_eq_true_eq, List.all_eq_true] at h
  exact ⟨h.1.1.1.1, h.1.1.1.2, h.1.1.2, h.1.2, h.2⟩
inductive NmJ (D : Addr) (u : Int) (t : Tok) (i : Nat) (P' : Part) (m' : Str → Option Value) (M' : List (Addr × Obj)) : Prop
  | mk : ∀ (l : List (Str × Tok)) (n : Nat), M' = [(D, lst (strValues l).toArray n)] → (∀ p ∈ l, GoodName p.1) → l.length ≤ i → m' "u" = some (.int u t) → m' "names" = some (.ref D) → NmJ D u t i P' m' M'
theorem law_names_spec {u : Int} {t : Tok} (X : Bs w mb P) (hP : P.on s.heap) (hA : Rm A 5) (hu : 0 ≤ u)
    (h : ∀ v P' s' (names : List Str), Ret ⟨s, s.heap.get?, P⟩ P' s' → Rep P' v (.list (names.map .str)) → (∀ x ∈ names, GoodName x) → names.length ≤ 2 → Q v s') :
    wpAny (model prog w) A (call (.ref 217) [.int u t]) Q E s := by
  refine enter (binds := [(Str.ofString "u", .int u t)]) X (fun _ _ e => e) hP hA.lt (a := 217) rfl (by kernel_rfl) rfl rfl (by rfl) (by rfl) rfl rfl rfl ?_
  intro L s₁ E' F env
  have hA' : Rm (A.deeper env) 4 := hA.deeper
  kspl_open e
  kspl_open e
  kspl_open e
  with_reducible refine z_newM ‹_› (sl_of (by decide)) fun D s₂ F₂ => ?_
  kspl_open e
  kspl_open fo
  repeat kspl_open e
  with_reducible refine z_newT ‹_› (sl_of (Nat.le_of_ble_eq_true rfl)) (.cons (.int _ _) (.cons (.int _ _) .nil)) fun v P' s' hle hr F' => ?_
  obtain ⟨ta, vs, n, rfl, hta, hra⟩ := hr.tuple_inv
  refine iter_tup F' hta hA'.handled (NmJ D u t) (⟨[], 0, rfl, by simp, Nat.le_refl _, rfl, rfl⟩) ?_ ?_
  · rintro i v P' m' M' I oI s' E'' hi hle hj F
    obtain ⟨l, n, rfl, hg, hl, hm1, hm2⟩ := hj
    have hd : ∃ d t, v = .int d t ∧ 0 ≤ d ∧ d < 8 := by
      obtain ⟨d, hd, hr⟩ := hra.getV hi
      match i, hd with
      | 0, hd => simp at hd; subst hd; obtain ⟨t, rfl⟩ := hr.int_inv; exact ⟨_, t, rfl, by lia, by lia⟩
      | 1, hd => simp at hd; subst hd; obtain ⟨t, rfl⟩ := hr.int_inv; exact ⟨_, t, rfl, by lia, by lia⟩
      | i + 2, hd => simp at hd
    obtain ⟨d, td, rfl, hd0, hd8⟩ := hd
    have hl2 : l.length ≤ 10 := by
      have := (List.getElem?_eq_some_iff.mp hi).1
      have := hra.length
      simp at this; lia
    refine as_name F rfl rfl rfl fun s₃ F₃ => ?_
    repeat kspl_open e
    by_cases h6 : d < 6
    · rw [if_pos (by simpa using h6)]
      kspl_open exp
      repeat kspl_open e
      kspl_open ap
      repeat kspl_open e
      kspl_open nt
      intro v₆ P₆ s₆ hle₆ hr₆ F₆
      obtain ⟨tb, us, n₆, rfl, htb, hrb⟩ := hr₆.tuple_inv
      kspl_open e
      have hx : ∃ x : Str, ([.str (Str.ofString "a"), .str (Str.ofString ".a"), .str (Str.ofString "a-"), .str (Str.ofString "..."), .str (Str.ofString "..b"), .str (Str.ofString " .b")] : List PyData)[d.toNat]? = some (.str x) ∧ GoodName x := by
        obtain rfl | rfl | rfl | rfl | rfl | rfl : d = 0 ∨ d = 1 ∨ d = 2 ∨ d = 3 ∨ d = 4 ∨ d = 5 := by lia
        all_goals exact ⟨_, rfl, good_lit (by decide +kernel)⟩
      obtain ⟨x, hx, hgx⟩ := hx
      obtain ⟨y, hy, hry⟩ := hrb.get hx
      obtain ⟨ty, rfl⟩ := hry.str_inv
      refine z_itemT (i := d.toNat) (heap_tup (by assumption) htb) (by lia) (sl_of (by have := hrb.length; simp at this; lia)) hy ?_ rfl
      repeat kspl_open e
      refine z_append1 F₆ (sl_of (by simp [strValues]; lia)) fun s₇ n₇ F₇ => ⟨rfl, ?_⟩
      repeat kspl_open e
      refine ⟨P₆, _, _, hle₆, F₇, ⟨l ++ [(x, ty)], n₇, by simp [strValues], by simpa [or_imp, forall_and, hgx] using hg, by simp; lia, hm1, hm2⟩⟩
    · rw [if_neg (by simpa using h6)]
      repeat kspl_open e
      by_cases h6 : d = 6
      · subst h6
        rw [if_pos (show ((6 : Int) == 6) = true from rfl)]
        repeat kspl_open e
        kspl_open ap
        repeat kspl_open e
        kspl_open nt
        intro v₆ P₆ s₆ hle₆ hr₆ F₆
        refine z_in F₆ hA' hr₆ (.int _ _) rfl rfl (Nat.le_of_ble_eq_true rfl) ?_
        repeat kspl_open e
        have hc0 : 0 ≤ u / 64 % 55000 := Int.emod_nonneg _ (by decide)
        have hc1 : u / 64 % 55000 < 55000 := Int.emod_lt_of_pos _ (by decide)
        split
        · repeat kspl_open e
          refine z_append1 ‹_› (sl_of (by simp [strValues]; lia)) fun s₇ n₇ F₇ => ⟨rfl, ?_⟩
          repeat kspl_open e
          refine ⟨P₆, _, _, hle₆, F₇, ⟨_, n₇, by rw [sv_snoc], by
            intro p hp
            rcases List.mem_append.mp hp with hp | hp
            · exact hg p hp
            · rw [List.mem_singleton.mp hp]; exact good_lit (x := Str.ofString "c") (by decide +kernel), by simp; lia, hm1, hm2⟩⟩
        · rename_i hn
          repeat kspl_open e
          refine z_chr ‹_› (by lia) (by lia) fun t₇ s₇ F₇ => ?_
          repeat kspl_open e
          refine z_append1 F₇ (sl_of (by simp [strValues]; lia)) fun s₈ n₈ F₈ => ⟨rfl, ?_⟩
          repeat kspl_open e
          have hc : (14 + u / 64 % 55000) ≠ 46 ∧ (14 + u / 64 % 55000) ≠ 47 := by
            constructor <;> (intro e; apply hn; rw [e]; rfl)
          refine ⟨P₆, _, _, hle₆, F₈, ⟨_, n₈, by rw [sv_snoc], by
            intro p hp
            rcases List.mem_append.mp hp with hp | hp
            · exact hg p hp
            · rw [List.mem_singleton.mp hp]
              refine ⟨by simp, by simp; lia, ?_, ?_, by simp⟩ <;>
              · intro c hc'
                simp at hc'
                subst hc'
                lia, by simp; lia, hm1, hm2⟩⟩
      · rw [if_neg (by simpa using h6)]
        repeat kspl_open e
        refine ⟨P', _, _, Part.le_refl _, ‹_›, ⟨l, n, rfl, hg, by lia, by exact hm1, by exact hm2⟩⟩
  · rintro P' m' M' s' hle hj F
    obtain ⟨l, n, rfl, hg, hl, hm1, hm2⟩ := hj
    repeat kspl_open e
    have F9 := F.freeze
    refine h _ _ _ (l.map (·.1)) F9.ret (.list Part.set_self (.ofStrs l)) (by simpa using hg) ?_
    have := hra.length
    simp at this ⊢; lia
end
end
section
open PySem PySem.W PyProof.Rows
open Builtin Builtin.Str
set_option autoImplicit false
set_option linter.unusedVariables false
set_option maxRecDepth 100000
set_option maxHeartbeats 1000000
noncomputable def dotL (x : List Nat) : List Nat := if x.take 1 = [46] then 46 :: x else x
noncomputable def quotedL (ns : List (List Nat)) : List Nat := (ns.map fun n => dotL n ++ [13, 10]).flatten
noncomputable def dotS (n : Str) : Str := ⟨(dotL (cp n) ++ [13, 10]).toArray⟩
theorem cp_dotS (n : Str) : cp (dotS n) = dotL (cp n) ++ [13, 10] := rfl
noncomputable def onStr (f : Str → Str) : PyData → Option PyData
  | .str n => some (.str (f n))
  | _ => none
theorem filterMap_onStr (f : Str → Str) (l : List Str) : (l.map PyData.str).filterMap (onStr f) = (l.map f).map .str := by
  induction l with
  | nil => rfl
  | cons a l ih => simp only [List.map_cons, List.filterMap_cons, onStr, ih]
theorem join_ok {x : Str} {l : List Str} (h : l.length ≤ 100) (hl : ∀ y ∈ l, y.length ≤ 1000) (hx : x.length ≤ 100 := by decide) : JoinOk x l = true := by
  have key : ∀ (l : List Str) (a : Nat), (∀ y ∈ l, y.length ≤ 1000) → l.foldl (fun a y => a + y.length + x.length) a ≤ a + l.length * 1100 := by
    intro l
    induction l with
    | nil => intro a _; simp
    | cons y l ih =>
      intro a hl
      have h1 := ih (a + y.length + x.length) fun z hz => hl z (.tail _ hz)
      have h2 := hl y (.head _)
      rw [List.foldl_cons, List.length_cons]
      lia
  have := key l 0 hl
  unfold JoinOk tooLong
  simp only [List.size_toArray, List.foldl_toArray']
  have e : sizeLine = 16777216 := by decide
  simp
  lia
theorem joinL_nil : ∀ l : List (List Nat), joinL [] l = l.flatten
  | [] => rfl
  | [x] => by simp [joinL]
  | x :: y :: l => by rw [joinL, joinL_nil (y :: l)]; simp
section
variable {prog : Program} {w : World} {mb : Str → Option Value} {A : Around} {E : Value → Shared → Prop} {s : Shared} {P : Part} {Q : Value → Shared → Prop}
theorem law_quoted_spec {v : Value} {names : List Str} (X : Bs w mb P) (hP : P.on s.heap) (hA : Rm A 5) (hr : Rep P v (.list (names.map .str))) (hn : names.length ≤ 100) (hl : ∀ x ∈ names, x.length ≤ 100)
    (h : ∀ x t P' s', Ret ⟨s, s.heap.get?, P⟩ P' s' → cp x = quotedL (names.map cp) → Q (.str x t) s') :
    wpAny (model prog w) A (call (.ref 227) [v]) Q E s := by
  refine enter (binds := [(Str.ofString "names", v)]) X (fun _ _ e => e) hP hA.lt (a := 227) rfl (by kernel_rfl) rfl rfl (by rfl) (by rfl) rfl rfl rfl ?_
  intro L s₁ E' F env
  have hA' : Rm (A.deeper env) 4 := hA.deeper
  repeat kspl_open e
  kspl_open gm
  repeat kspl_open e
  kspl_open comp
  repeat kspl_open e
  refine comp_list (g := onStr dotS) rfl rfl (fun _ => rfl) hA'.handled (sl_of (by simpa using Nat.le_trans hn (by decide))) (by assumption) hr ?_ (done_noneR ?_)
  · intro C c' v d P' m' M' s' E' hd hle hrd hc' hO F' hm
    obtain ⟨n, hnm, rfl⟩ := List.mem_map.mp hd
    have hln := hl n hnm
    obtain ⟨tn, rfl⟩ := hrd.str_inv
    refine tests_nil ?_
    rw [if_pos rfl]
    repeat kspl_open e
    kspl_open slS
    repeat kspl_open e
    kspl_open p
    repeat kspl_open e
    kspl_open p
    repeat kspl_open e
    refine z_slS (lo := none) (hi := some (1, _)) (by assumption) rfl rfl (sl_of (by lia)) fun t₁ s₂ F₂ => ?_
    repeat kspl_open e
    have e1 : Txt.slice n none (some ((1 : Nat) : Int)) = Str.ofString "." ↔ (cp n).take 1 = [46] := by
      rw [← slS_take]
      constructor
      · intro e; rw [e]; rfl
      · intro e; exact str_ext (e.trans rfl)
    by_cases hdot : (cp n).take 1 = [46]
    · rw [if_pos (by simpa using e1.mpr hdot)]
      repeat kspl_open e
      refine z_adds ‹_› (sl_of ?_) fun t₃ s₃ F₃ => ?_
      · show 1 + n.length ≤ _; lia
      repeat kspl_open e
      refine z_adds ‹_› (sl_of ?_) fun t₃ s₃ F₃ => ⟨_, _, _, Part.le_refl _, F₃, .str _ _, ?_⟩
      · rw [← cp_length, cp_append, List.length_append, cp_length n]; show 1 + n.length + 2 ≤ _; lia
      show some _ = some _
      congr 2
      refine str_ext ?_
      rw [cp_append, cp_append, cp_dotS, dotL, if_pos hdot]; rfl
    · rw [if_neg (by simpa using fun e => hdot (e1.mp e))]
      repeat kspl_open e
      refine z_adds ‹_› (sl_of ?_) fun t₃ s₃ F₃ => ⟨_, _, _, Part.le_refl _, F₃, .str _ _, ?_⟩
      · show n.length + 2 ≤ _; lia
      show some _ = some _
      congr 2
      refine str_ext ?_
      rw [cp_append, cp_dotS, dotL, if_neg hdot]; rfl
  · intro v' P' s' hle hr' F'
    rw [filterMap_onStr] at hr'
    repeat kspl_open e
    refine z_join F' hr' (join_ok (by rw [List.length_map]; lia) fun y hy => ?_) fun t₃ s₃ F₃ => h _ _ _ _ F₃.ret ?_
    · obtain ⟨x, hx, rfl⟩ := List.mem_map.mp hy
      have := hl x hx
      rw [← cp_length, cp_dotS, List.length_append, dotL]
      split <;> simp only [List.length_cons, List.length_nil, cp_length] <;> lia
    · rw [cp_join]
      have e0 : cp (Str.ofString "") = [] := rfl
      rw [e0, joinL_nil, List.map_map]
      unfold quotedL
      rw [List.map_map]
      rfl
end
end
section
open PySem PySem.W PyProof.Rows
open Builtin Builtin.Str
set_option autoImplicit false
set_option linter.unusedVariables false
set_option maxRecDepth 100000
set_option maxHeartbeats 1000000
noncomputable def undotL (x : List Nat) : List Nat := if x.take 1 = [46] then x.drop 1 else x
noncomputable def undotS (x : Str) : Str := ⟨(undotL (cp x)).toArray⟩
theorem cp_undotS (n : Str) : cp (undotS n) = undotL (cp n) := rfl
section
variable {prog : Program} {w : World} {mb : Str → Option Value} {A : Around} {E : Value → Shared → Prop} {s : Shared} {P : Part} {Q : Value → Shared → Prop}
theorem e_slT {env : Env} {value : Expr} {lo up : Option Expr} {p pos : Pos}
    (h : wpAny (model prog w) A (eval value env) (fun o s₁ => wpAny (model prog w) A (evalPart lo env) (fun l s₂ => wpAny (model prog w) A (evalPart up env) (fun u s₃ => SlL prog w A E o l u .none Q s₃) E s₂) E s₁) E s) :
    wpAny (model prog w) A (eval (.Subscript value (.Slice lo up none p) pos) env) Q E s := by
  refine Subscript_ (wpAny_mono h (fun o s₁ h₁ => wpAny_Slice (wpAny_mono h₁ (fun l s₂ h₂ => wpAny_mono h₂ (fun u s₃ h₃ => ?_) fun _ _ e => e) fun _ _ e => e)) fun _ _ e => e)
  rw [evalPart_none]
  refine wpAny_pure ?_
  obtain ⟨hT, hg⟩ := slL_tail h₃
  unfold subscriptTail
  refine wpAny_bind ?_
  rw [getitemInPython_of_ne hT.not_modules]
  refine wpAny_bind (wpAny_specialOf hT slot_list_getitem.lookup ?_)
  have fin : wpAny (model prog w) A (subscripted (.Slice lo up none p) false o (.ref s₃.heap.objs.size)) (fun r s₃ => wpAny (model prog w) A (letTemporaryGo value o r >>= fun _ => pure r) Q E s₃) E { s₃ with heap := s₃.heap.push { cls := .type "slice", data := .fields #[l, u, .none] } } := by
    show wpAny (model prog w) A (operate [.ref s₃.heap.objs.size, o] (getItem o (.ref s₃.heap.objs.size))) _ E _
    exact wpAny_operating (wpAny_mono hg (fun r s₃ h₃ => wpAny_bind (temp_go (wpAny_pure h₃))) fun _ _ x => x)
  first
    | exact wpAny_pure (wpAny_bind fin)
    | exact wpAny_bind (wpAny_pure (wpAny_bind fin))
    | exact wpAny_bind fin
theorem z_neg {c : Cx} {L : Addr} {m : Str → Option Value} {M : List (Addr × Obj)} {a : Int} {t : Tok} (F : Fm c P L m M s) (h : ∀ t s', Fm c P L m M s' → Q (.int (-a) t) s') : wpAny (model prog w) A (unaryOp .USub (.int a t)) Q E s := by with_reducible exact _root_.PySem.P.neg_int (h _ _ (F.toks _))
theorem law_read_spec {x : Str} {t : Tok} (X : Bs w mb P) (hP : P.on s.heap) (hA : Rm A 5) (hx : x.length ≤ 9000)
    (h : ∀ v P' s', Ret ⟨s, s.heap.get?, P⟩ P' s' → Rep P' v (.list ((((Txt.split x (Str.ofString "\r\n")).dropLast).map undotS).map .str)) → Q v s') :
    wpAny (model prog w) A (call (.ref 232) [.str x t]) Q E s := by
  refine enter (binds := [(Str.ofString "letter", .str x t)]) X (fun _ _ e => e) hP hA.lt (a := 232) rfl (by kernel_rfl) rfl rfl (by rfl) (by rfl) rfl rfl rfl ?_
  intro L s₁ E' F env
  have hA' : Rm (A.deeper env) 4 := hA.deeper
  have hlen := split_le x (Str.ofString "\r\n")
  repeat kspl_open e
  kspl_open comp
  refine e_slT ?_
  repeat kspl_open e
  kspl_open gm
  repeat kspl_open e
  refine z_split (by assumption) rfl (by have e : sizeLine = 16777216 := by decide
                                         lia) fun v₂ P₂ s₂ hle₂ hr₂ F₂ => ?_
  kspl_open p
  repeat kspl_open e
  kspl_open p
  refine UnaryOp_ ?_
  repeat kspl_open e
  refine z_neg (by assumption) fun t₃ s₃ F₃ => ?_
  refine z_sl F₃ hr₂ .none (.int _ _) .none (by decide) (sl_of (by rw [List.length_map]; lia)) (fun vs hv => pick_last hv) fun v₄ P₄ s₄ hle₄ hr₄ F₄ => ?_
  rw [← List.map_dropLast] at hr₄
  refine comp_list (g := onStr undotS) rfl rfl (fun _ => rfl) hA'.handled (sl_of (by rw [List.length_map, List.length_dropLast]; lia)) F₄ hr₄ ?_ (done_noneR ?_)
  · intro C c' v d P' m' M' s' E' hd hle hrd hc' hO F' hm
    obtain ⟨n, hnm, rfl⟩ := List.mem_map.mp hd
    have hln : n.length ≤ x.length := part_short ((List.dropLast_sublist _).subset hnm)
    obtain ⟨tn, rfl⟩ := hrd.str_inv
    refine tests_nil ?_
    rw [if_pos rfl]
    repeat kspl_open e
    kspl_open slS
    repeat kspl_open e
    kspl_open p
    repeat kspl_open e
    kspl_open p
    repeat kspl_open e
    refine z_slS (lo := none) (hi := some (1, _)) (by assumption) rfl rfl (sl_of (by lia)) fun t₁ s₂ F₂ => ?_
    repeat kspl_open e
    have e1 : Txt.slice n none (some ((1 : Nat) : Int)) = Str.ofString "." ↔ (cp n).take 1 = [46] := by
      rw [← slS_take]
      constructor
      · intro e; rw [e]; rfl
      · intro e; exact str_ext (e.trans rfl)
    by_cases hdot : (cp n).take 1 = [46]
    · rw [if_pos (by simpa using e1.mpr hdot)]
      kspl_open slS
      repeat kspl_open e
      kspl_open p
      repeat kspl_open e
      kspl_open p
      refine z_slS (lo := some (1, _)) (hi := none) (by assumption) rfl rfl (sl_of (by lia)) fun t₃ s₃ F₃ => ⟨_, _, _, Part.le_refl _, F₃, .str _ _, ?_⟩
      show some _ = some _
      congr 2
      refine str_ext ?_
      have := slS_drop n 1
      rw [cp_undotS, undotL, if_pos hdot, ← this]; rfl
    · rw [if_neg (by simpa using fun e => hdot (e1.mp e))]
      repeat kspl_open e
      refine ⟨_, _, _, Part.le_refl _, ‹_›, .str _ _, ?_⟩
      show some _ = some _
      congr 2
      refine str_ext ?_
      rw [cp_undotS, undotL, if_neg hdot]
  · intro v' P' s' hle hr' F'
    rw [filterMap_onStr] at hr'
    repeat kspl_open e
    exact h _ _ _ F'.ret hr'
end
end
section
open PySem PySem.W PyProof.Rows
open Builtin Builtin.Str
set_option autoImplicit false
set_option linter.unusedVariables false
set_option maxRecDepth 100000
set_option maxHeartbeats 1000000
section
variable {prog : Program} {w : World} {mb : Str → Option Value} {A : Around} {E : Value → Shared → Prop} {s : Shared} {P : Part} {Q : Value → Shared → Prop}
theorem issub_one {k : Value} {dep : Int} {tk : Tok} {Q : PySem.Fin → Shared → Prop} (hk : k = .int dep tk) (hq : Q (.done (.ret (.bool true))) s) :
    wpAny (model prog w) A (Builtin.«issubclass.nested» ⟨[.type "str", .type "str", k], []⟩) Q E s := by
  subst hk
  have hm := F.isi_meta_str
  have hself := F.isi_self_str
  repeat (any_goals (first | assumption | (rw [if_pos hm]) | (rw [hself]) | wp_step))
theorem issub_tup {a : Addr} {k : Value} {dep : Int} {tk : Tok} {Q : PySem.Fin → Shared → Prop} (hk : k = .int dep tk) (hd : dep = 0) (ht : IsTup s.heap a #[.type "str", .type "bytes"]) (hq : Q (.done (.ret (.bool true))) s) :
    wpAny (model prog w) A (Builtin.«issubclass.nested» ⟨[.type "str", .ref a, k], []⟩) Q E s := by
  subst hk
  subst hd
  have hT : s.TypeIs (.ref a) "tuple" := ht.typeIs
  obtain ⟨o, ho, hc, ne, hd⟩ := ht
  unfold Builtin.«issubclass.nested»
  dsimp only
  refine wpAny_bind (wpAny_typeOf hT ?_)
  rw [if_neg (by decide)]
  refine wpAny_bind ?_
  unfold Builtins.unionMembers
  refine wpAny_bind (wpAny_typeOf hT ?_)
  rw [if_neg (by decide)]
  refine wpAny_pure ?_
  refine wpAny_bind (wpAny_isInstance hT (F.sub_tuple_tuple) ?_)
  rw [if_pos rfl, if_neg (by decide)]
  refine wpAny_bind (wpAny_seqItems ho hd ?_)
  dsimp only [Option.getD]
  rw [← Array.forIn_toList, List.forIn_cons]
  refine wpAny_bind (wpAny_bind (wpAny_bind (Calls.call_function_entry (by decide +kernel) (by decide +kernel) F.entry_issubclass_nested (by unfold argsOk; kernel_rfl) (issub_one rfl ⟨_, rfl, wpAny_bind (wpAny_truthy_bool ?_)⟩))))
  rw [if_pos rfl]
  refine wpAny_bind (wpAny_pure (wpAny_pure ?_))
  dsimp only
  refine wpAny_pure ?_
  exact wpAny_pure hq
theorem issub_call {a : Addr} {Q : Value → Shared → Prop} (ht : IsTup s.heap a #[.type "str", .type "bytes"]) (hq : Q (.bool true) s) : wpAny (model prog w) A (call (.builtin "issubclass") [.type "str", .ref a]) Q E s :=
  call_issubclass (S := fun _ R s' => s'.heap = s.heap ∧ R (.ok (.ret (.bool true))) s') (fun _ _ _ _ s' hs => issubclass_outer (issub_tup rfl rfl (by rw [hs.1]; exact ht) hs.2)) ⟨rfl, hq⟩
theorem fspath_spec {x : Str} {t : Tok} (X : Bs w mb P) (hP : P.on s.heap) (hA : Rm A 2) (h : ∀ P' s', Ret ⟨s, s.heap.get?, P⟩ P' s' → Q (.str x t) s') :
    wpAny (model prog w) A (call (.ref 111) [.str x t]) Q E s := by
  refine enter (binds := [(Str.ofString "path", .str x t)]) X (fun _ _ e => e) hP hA.lt (a := 111) rfl (by kernel_rfl) rfl rfl (by rfl) (by rfl) rfl rfl rfl ?_
  intro L s₁ E' F env
  have hA' : Rm (A.deeper env) 1 := hA.deeper
  repeat kspl_open e
  refine z_type ?_
  repeat kspl_open e
  refine wpAny_newTuple ?_ (sl_of (Nat.le_of_ble_eq_true rfl))
  kspl_open e
  refine issub_call ⟨_, Heap.get?_push_size _ rfl, rfl, 0, rfl⟩ ?_
  have F₂ := Fm.push (by assumption) { cls := Value.type "tuple", data := Data.seq [Value.type "str", Value.type "bytes"].toArray }
  repeat kspl_open e
  exact h _ _ F₂.ret
end
end
section
open PySem PySem.W PyProof.Rows
open Builtin Builtin.Str
set_option autoImplicit false
set_option linter.unusedVariables false
set_option maxRecDepth 100000
set_option maxHeartbeats 1000000
noncomputable def pathL (ns : List (List Nat)) : List Nat := 47 :: joinL [47] ns
theorem joinL_snoc (sep : List Nat) : ∀ (ns : List (List Nat)) (b : List Nat), ns ≠ [] → joinL sep (ns ++ [b]) = joinL sep ns ++ sep ++ b
  | [], b, h => absurd rfl h
  | [x], b, _ => by simp [joinL]
  | x :: y :: l, b, _ => by
    show x ++ sep ++ joinL sep ((y :: l) ++ [b]) = _
    rw [joinL_snoc sep (y :: l) b (by simp)]
    simp [joinL]
theorem pathL_snoc (ns : List (List Nat)) (b : List Nat) (h : ns ≠ []) : pathL (ns ++ [b]) = pathL ns ++ [47] ++ b := by
  unfold pathL; rw [joinL_snoc _ _ _ h]; simp
theorem pathL_one (b : List Nat) : pathL [b] = [47] ++ b := rfl
theorem joinL_last (sep : List Nat) : ∀ (ns : List (List Nat)) (b : List Nat), b ≠ [] → (joinL sep (ns ++ [b])).getLast? = b.getLast?
  | [], b, _ => rfl
  | x :: l, b, h => by
    rw [joinL_snoc sep (x :: l) b (by simp), List.getLast?_append]
    obtain ⟨c, hc⟩ := List.exists_mem_of_ne_nil b h
    cases hb : b.getLast? with
    | none => rw [List.getLast?_eq_none_iff] at hb; exact absurd hb h
    | some z => rfl
theorem pathL_last (ns : List (List Nat)) (b : List Nat) (h : b ≠ []) : (pathL (ns ++ [b])).getLast? = b.getLast? := by
  unfold pathL
  have := joinL_last [47] ns b h
  cases hb : b.getLast? with
  | none => rw [List.getLast?_eq_none_iff] at hb; exact absurd hb h
  | some z => rw [hb] at this; rw [List.getLast?_cons, this]; rfl
theorem joinL_len : ∀ (ns : List (List Nat)) (k : Nat), (∀ x ∈ ns, x.length ≤ k) → (joinL [47] ns).length ≤ ns.length * (k + 1)
  | [], k, _ => by simp [joinL]
  | [x], k, h => by have := h x (.head _); simp [joinL]; lia
  | x :: y :: l, k, h => by
    have h1 := h x (.head _)
    have h2 := joinL_len (y :: l) k fun z hz => h z (.tail _ hz)
    simp only [joinL, List.length_append, List.length_cons] at h2 ⊢
    have : (l.length + 1 + 1) * (k + 1) = (l.length + 1) * (k + 1) + (k + 1) := by rw [Nat.add_mul (l.length + 1) 1, Nat.one_mul]
    simp only [List.length_nil]
    lia
theorem sw_one (x : Str) (c : Nat) : Txt.startswith x ⟨#[c]⟩ = decide ((cp x)[0]? = some c) := by
  have h := StrLaws.subAt_one x c 0
  unfold Txt.startswith
  rw [Bool.eq_iff_iff, decide_eq_true_eq, Bool.and_eq_true, decide_eq_true_eq]
  exact h
theorem ew_one (x : Str) (c : Nat) : Txt.endswith x ⟨#[c]⟩ = decide ((cp x).getLast? = some c) := by
  have h := StrLaws.subAt_one x c (x.length - 1)
  unfold Txt.endswith
  have h1 : (⟨#[c]⟩ : Str).length = 1 := rfl
  rw [Bool.eq_iff_iff, decide_eq_true_eq, Bool.and_eq_true, decide_eq_true_eq, List.getLast?_eq_getElem?, cp_length]
  refine Iff.trans ?_ h
  rw [h1]
  constructor
  · exact fun ⟨a, b⟩ => ⟨by lia, b⟩
  · exact fun ⟨a, b⟩ => ⟨by lia, b⟩
section
variable {prog : Program} {w : World} {mb : Str → Option Value} {A : Around} {E : Value → Shared → Prop} {s : Shared} {P : Part} {Q : Value → Shared → Prop}
theorem get_sep_spec {x : Str} {t : Tok} (X : Bs w mb P) (hP : P.on s.heap) (hA : Rm A 2) (h : ∀ t P' s', Ret ⟨s, s.heap.get?, P⟩ P' s' → Q (.str (Str.ofString "/") t) s') :
    wpAny (model prog w) A (call (.ref 125) [.str x t]) Q E s := by
  refine enter (binds := [(Str.ofString "path", .str x t)]) X (fun _ _ e => e) hP hA.lt (a := 125) rfl (by kernel_rfl) rfl rfl (by rfl) (by rfl) rfl rfl rfl ?_
  intro L s₁ E' F env
  have hA' : Rm (A.deeper env) 1 := hA.deeper
  repeat kspl_open e
  refine IsiPair.str_bytes ?_
  have F₂ := Fm.toks (by assumption) (s₁.toks + 1)
  repeat kspl_open e
  exact h _ _ _ (Fm.ret ‹_›)
/-- entering a def with a star at its end -/
theorem enterV {a : Addr} {fd : FuncData} {body : List Stmt} {vals rest : List Value} {binds : Value → List (Str × Value)} {O P : Part} {Q : Value → Shared → Prop}
    (X : Bs w mb P) (hO : O.on s.heap) (hP : P.on s.heap) (hroom : A.depth < recursionLimit) {oc : Value} {od : Option Addr} {osl : Array (Option Value)} (ho : (KK w.params).lookup a = some ⟨oc, od, .func fd, osl⟩)
    (hcd : codeK fd.code fd.qualname = true) (hbody : fd.body = .stmts body) (hbind : bindArgs fd ⟨vals, []⟩ = (do let t ← newTuple rest; pure (binds t))) (hsz : rest.length ≤ sizeLine)
    (hcell : (fd.scope.names.all fun x => x.2 != .cell) = true) (hloc : ∀ t, ((binds t).all fun x => fd.scope.names.lookup x.1 == some .local) = true)
    (hco : fd.scope.isCoroutine = false) (hgen : fd.scope.isGenerator = false) (hk : fd.scope.kind = .function)
    (h : ∀ L s₁ E' t P', P.le P' → P' t = some (tpl rest.toArray 0) → Fm ⟨s, O, P⟩ P' L (fun x => (binds (.ref t)).reverse.lookup x) [] s₁ →
      let env := callEnv fd L a
      wpAny (model prog w) (A.deeper env) (execs body env) (fun f s' => Q (match f with | .ret v => v | _ => .none) s') E' s₁) :
    wpAny (model prog w) A (call (.ref a) vals) Q E s := by
  have hk0 := hP _ _ (X.k _ _ ho)
  refine wpAny_call (codeAny_call_function hroom hk0 rfl hco hgen hbody (codeK_rec (X.code _ hP) hcd) ?_)
  rw [hbind]
  refine wpAny_bind (wpAny_newTuple ?_ hsz)
  refine wpAny_pure ?_
  have grow : ∀ b o, s.heap.get? b = some o → (s.heap.push (tpl rest.toArray 0)).get? b = some o := fun b o e => Heap.get?_push_of_some _ e
  have hlim : ({ s with heap := s.heap.push (tpl rest.toArray 0) } : Shared).heap.NoLimit := X.lim _ fun b o e => grow b o (hP b o e)
  refine wpAny_newFunctionEnv (fun x hx => by have := List.all_eq_true.mp hcell x hx; simpa using this) (fun x hx => by have := List.all_eq_true.mp (hloc _) x hx; simpa using this) (fun h₀ hns hsb => ⟨hlim.fresh _ hsb, codeAny_func ?_⟩) hk
  have keep : ∀ b o, s.heap.get? b = some o → h₀.get? b = some o := fun b o e =>
    hsb.extBut b o (Nat.ne_of_lt (by show b < (s.heap.push (tpl rest.toArray 0)).objs.size; rw [Heap.size_push]; exact Nat.lt_succ_of_lt (Heap.lt_size e))) (Heap.get?_push_of_some _ (grow b o e))
  have sz : (s.heap.push (tpl rest.toArray 0)).objs.size = s.heap.objs.size + 1 := Heap.size_push ..
  have none_of : ∀ {R : Part}, R.on s.heap → ∀ a, s.heap.objs.size ≤ a → R a = none := fun {R} hR a ha => by
    cases e : R a with
    | none => rfl
    | some o => exact absurd (Heap.lt_size (hR _ _ e)) (Nat.not_lt.mpr ha)
  have hle : P.le (P.set s.heap.objs.size (tpl rest.toArray 0)) := Part.le_set (none_of hP _ (Nat.le_refl _))
  refine h (s.heap.push (tpl rest.toArray 0)).objs.size _ _ s.heap.objs.size _ hle Part.set_self ⟨⟨_, _, rfl⟩, hns, fun b o e => keep b o (hO b o e), hle, ?_, ?_, ?_, ?_, (fun p hp => nomatch hp), (fun p hp => nomatch hp), List.Pairwise.nil⟩
  · intro b o e
    unfold Part.set at e
    split at e
    · rename_i q
      cases e
      rw [q]
      exact hsb.extBut _ _ (by show s.heap.objs.size ≠ (s.heap.push (tpl rest.toArray 0)).objs.size; rw [sz]; exact Nat.ne_of_lt (Nat.lt_succ_self _)) (Heap.get?_push_of_some _ (Heap.get?_push_size _ rfl))
    · exact keep b o (hP b o e)
  · intro b o e
    unfold Part.set at e
    split at e
    · rename_i q
      rw [q]; exact .inr (none_of hO _ (Nat.le_refl _))
    · exact .inl e
  · unfold Part.set
    rw [sz, if_neg (Nat.ne_of_gt (Nat.lt_succ_self _))]
    exact none_of hP _ (Nat.le_succ _)
  · rw [sz]; exact none_of hO _ (Nat.le_succ _)
theorem x_try {env : Env} {body orelse rest : List Stmt} {h₀ : ExceptHandler} {hs : List ExceptHandler} {pos : Pos} {Q : Flow → Shared → Prop}
    (h : ∀ E' : Value → Shared → Prop, wpAny (model prog w) A (execs body env) (fun f s₁ => match f with | .next => wpAny (model prog w) A (execs orelse env) (fun f s' => match f with | .next => wpAny (model prog w) A (execs rest env) Q E s' | f => Q f s') E s₁ | .ret v => Q (.ret v) s₁ | .brk => Q .brk s₁ | .cont => Q .cont s₁) E' s) :
    wpAny (model prog w) A (execs (.Try body (h₀ :: hs) orelse [] pos :: rest) env) Q E s := by
  refine wpAny_execs_cons (wpAny_Try_except (wpAny_mono (h _) (fun f s₁ h₁ => ?_) fun _ _ e => e))
  cases f <;> exact h₁
inductive JnJ (tp₃ : Tok) (l : List (Str × Tok)) (i : Nat) (P' : Part) (m' : Str → Option Value) (M' : List (Addr × Obj)) : Prop
  | mk : M' = [] → m' "sep" = some (.str (Str.ofString "/") tp₃) → ∀ x t, m' "path" = some (.str x t) → cp x = pathL ((l.take i).map fun p => cp p.1) → JnJ tp₃ l i P' m' M'
theorem join_spec {l : List (Str × Tok)} {t₀ : Tok} (X : Bs w mb P) (hP : P.on s.heap) (hA : Rm A 4) (hn : l.length ≤ 50) (hl : ∀ p ∈ l, (cp p.1).length ≤ 100 ∧ cp p.1 ≠ [] ∧ 47 ∉ cp p.1)
    (h : ∀ x t P' s', Ret ⟨s, s.heap.get?, P⟩ P' s' → cp x = pathL (l.map fun p => cp p.1) → Q (.str x t) s') :
    wpAny (model prog w) A (call (.ref 132) (.str (Str.ofString "/") t₀ :: strValues l)) Q E s := by
  refine enterV (rest := strValues l) (binds := fun t => [(Str.ofString "a", .str (Str.ofString "/") t₀), (Str.ofString "p", t)]) X (fun _ _ e => e) hP hA.lt (a := 132) rfl (by kernel_rfl) rfl ?_ (sl_of (by simp [strValues]; lia)) (by rfl) (fun _ => by rfl) rfl rfl rfl ?_
  · cases l with
    | nil => rfl
    | cons p l => rfl
  intro L s₁ E' tp P₁ hle₁ htp F env
  have hA' : Rm (A.deeper env) 3 := hA.deeper
  have X₁ := X.mono hle₁
  repeat kspl_open e
  refine ⟨F.K X, fspath_spec X₁ F.on (hA'.mono (by decide)) fun P₂ s₂ R₂ => ?_⟩
  have F₂ := F.call R₂
  have X₂ := X₁.mono R₂.le
  repeat kspl_open e
  refine ⟨Fm.K ‹_› X, get_sep_spec X₂ (Fm.on ‹_›) (hA'.mono (by decide)) fun tp₃ P₃ s₃ R₃ => ?_⟩
  have F₃ := Fm.call (by assumption) R₃
  have X₃ := X₂.mono R₃.le
  repeat kspl_open e
  refine x_try fun E₂ => ?_
  kspl_open fo
  repeat kspl_open e
  have htp₃ := R₃.le _ _ (R₂.le _ _ htp)
  refine iter_tup (by assumption) htp₃ hA'.handled (JnJ tp₃ l) ⟨rfl, rfl, _, _, rfl, rfl⟩ ?_ ?_
  · rintro i v P' m' M' I oI s' E'' hi hle ⟨rfl, hm1, x, tx, hm2, hx⟩ F'
    obtain ⟨⟨b, tb⟩, hb, rfl⟩ : ∃ p : Str × Tok, l[i]? = some p ∧ v = .str p.1 p.2 := by
      simp only [strValues, List.getElem?_map] at hi
      cases hp : l[i]? with
      | none => rw [hp] at hi; cases hi
      | some p => rw [hp] at hi; exact ⟨p, rfl, by cases hi; rfl⟩
    obtain ⟨hb1, hb2, hb3⟩ := hl _ (List.mem_of_getElem? hb)
    have hil : i < l.length := (List.getElem?_eq_some_iff.mp hb).1
    have X' := (X₃.mono hle)
    have hxl : x.length ≤ 6000 := by
      rw [← cp_length, hx, pathL, List.length_cons]
      have := joinL_len ((l.take i).map fun p => cp p.1) 100 fun y hy => by
        obtain ⟨p, hp, rfl⟩ := List.mem_map.mp hy
        exact (hl p (List.mem_of_mem_take hp)).1
      rw [List.length_map, List.length_take] at this
      have : min i l.length * (100 + 1) ≤ 50 * 101 := Nat.mul_le_mul (by lia) (Nat.le_refl _)
      lia
    have hbl : b.length ≤ 100 := cp_length b ▸ hb1
    have snoc : (l.take (i + 1)).map (fun p => cp p.1) = (l.take i).map (fun p => cp p.1) ++ [cp b] := by
      rw [List.take_add_one, hb, List.map_append]; rfl
    refine as_name F' rfl rfl rfl fun s₄ F₄ => ?_
    repeat kspl_open e
    refine ⟨F₄.K X, fspath_spec X' F₄.on (hA'.mono (by decide)) fun P₅ s₅ R₅ => ?_⟩
    have F₅ := F₄.call R₅
    repeat kspl_open e
    kspl_open gm
    repeat kspl_open e
    refine z_sw ?_
    rw [show Txt.startswith b (Str.ofString "/") = Txt.startswith b ⟨#[47]⟩ from rfl, sw_one, decide_eq_false fun e => hb3 (List.mem_of_getElem? e)]
    repeat kspl_open e
    have hx0 : x.length ≠ 0 := by rw [← cp_length, hx, pathL, List.length_cons]; lia
    refine z_ts (by assumption) (sl_of (by lia)) fun s₆ F₆ => ?_
    rw [show ((x.length : Int) != 0) = true by simp; lia]
    repeat kspl_open e
    kspl_open gm
    repeat kspl_open e
    refine z_ew ?_
    rw [show Txt.endswith x (Str.ofString "/") = Txt.endswith x ⟨#[47]⟩ from rfl, ew_one, hx]
    repeat kspl_open e
    by_cases hi0 : i = 0
    · subst hi0
      rw [if_pos (by simp [pathL, joinL])]
      repeat kspl_open e
      refine z_iadds (by assumption) ?_ fun t₇ s₇ F₇ => ?_
      · exact sl_of (by show x.length + b.length ≤ _; lia)
      repeat kspl_open e
      refine ⟨_, _, _, R₅.le, ‹_›, rfl, ?_, x ++ b, t₇, ?_, ?_⟩
      · exact hm1
      · exact if_pos rfl
      rw [cp_append, hx, snoc]; rfl
    · obtain ⟨l₁, y, hy, hyn, hy47⟩ : ∃ l₁ y, (l.take i).map (fun p => cp p.1) = l₁ ++ [y] ∧ y ≠ [] ∧ 47 ∉ y := by
        obtain ⟨j, rfl⟩ : ∃ j, i = j + 1 := ⟨i - 1, by lia⟩
        have hj : j < l.length := by lia
        obtain ⟨_, h2, h3⟩ := hl l[j] (List.getElem_mem hj)
        exact ⟨(l.take j).map (fun p => cp p.1), cp l[j].1, by rw [List.take_add_one, List.getElem?_eq_getElem hj, List.map_append]; rfl, h2, h3⟩
      rw [if_neg (by
        rw [hy, pathL_last _ _ hyn, decide_eq_true_eq]
        exact fun e => hy47 (List.mem_of_getLast? e))]
      repeat kspl_open e
      refine z_adds (by assumption) ?_ fun t₇ s₇ F₇ => ?_
      · exact sl_of (by show 1 + b.length ≤ _; lia)
      refine z_iadds (by assumption) ?_ fun t₈ s₈ F₈ => ?_
      · refine sl_of ?_
        rw [← cp_length (_ ++ _), cp_append, List.length_append, cp_length b]; show x.length + (1 + b.length) ≤ _; lia
      repeat kspl_open e
      refine ⟨_, _, _, R₅.le, ‹_›, rfl, ?_, x ++ (Str.ofString "/" ++ b), t₈, ?_, ?_⟩
      · exact hm1
      · exact if_pos rfl
      rw [cp_append, cp_append, hx, snoc, pathL_snoc _ _ (by rw [hy]; simp), List.append_assoc]; rfl
  · rintro P' m' M' s' hle ⟨rfl, hm1, x, tx, hm2, hx⟩ F'
    repeat kspl_open e
    refine h _ _ _ _ F'.ret ?_
    rw [hx, show (strValues l).length = l.length by simp [strValues], List.take_length]
end
end
section
set_option autoImplicit false
set_option linter.unusedVariables false
/-! heaps, plainly -/
structure Ord3 (α : Type) where
  D : α → Prop
  lt : α → α → Bool
  tr : ∀ {a b c}, D a → D b → D c → lt b a = false → lt c b = false → lt c a = false
  as : ∀ {a b}, D a → D b → lt a b = true → lt b a = false
noncomputable def Ord3.flip {α : Type} (O : Ord3 α) : Ord3 α where
  D := O.D
  lt := fun a b => O.lt b a
  tr := fun ha hb hc h1 h2 => O.tr hc hb ha h2 h1
  as := fun ha hb h => O.as hb ha h
noncomputable def par (k : Nat) : Nat := (k - 1) / 2
theorem par_lt {k : Nat} (h : 1 ≤ k) : par k < k := by unfold par; lia
section
variable {α : Type} (O : Ord3 α)
noncomputable def Le (a b : α) : Prop := O.lt b a = false
variable {O}
theorem Le.trans {a b c : α} (ha : O.D a) (hb : O.D b) (hc : O.D c) (h1 : Le O a b) (h2 : Le O b c) : Le O a c := O.tr ha hb hc h1 h2
theorem Le.of_lt {a b : α} (ha : O.D a) (hb : O.D b) (h : O.lt a b = true) : Le O a b := O.as ha hb h
theorem Le.refl {a : α} (ha : O.D a) : Le O a a := by
  cases h : O.lt a a with
  | false => exact h
  | true => have := O.as ha ha h; rw [h] at this; cases this
inductive Desc (i : Nat) : Nat → Prop
  | refl : Desc i i
  | step {k : Nat} : 1 ≤ k → Desc i (par k) → Desc i k
theorem Desc.le {i k : Nat} (h : Desc i k) : i ≤ k := by
  induction h with
  | refl => exact Nat.le_refl _
  | step h1 _ ih => unfold par at ih; lia
variable (O)
noncomputable def AllD (g : List α) : Prop := ∀ x ∈ g, O.D x
/-- no edge at or below i is upside down -/
noncomputable def HeapFrom (i : Nat) (g : List α) : Prop := ∀ k a b, 1 ≤ k → i ≤ par k → g[par k]? = some a → g[k]? = some b → Le O a b
structure UpInv (i : Nat) (g : List α) (pos : Nat) : Prop where
  edge : ∀ k a b, 1 ≤ k → i ≤ par k → k ≠ pos → g[par k]? = some a → g[k]? = some b → Le O a b
  grand : 1 ≤ pos → i ≤ par pos → ∀ c a b, 1 ≤ c → par c = pos → g[par pos]? = some a → g[c]? = some b → Le O a b
structure DownInv (i : Nat) (g : List α) (pos : Nat) : Prop where
  edge : ∀ k a b, 1 ≤ k → i ≤ par k → k ≠ pos → par k ≠ pos → g[par k]? = some a → g[k]? = some b → Le O a b
  grand : 1 ≤ pos → i ≤ par pos → ∀ c a b, 1 ≤ c → par c = pos → g[par pos]? = some a → g[c]? = some b → Le O a b
variable {O}
theorem HeapFrom.down {i : Nat} {g : List α} (h : HeapFrom O (i + 1) g) : DownInv O i g i where
  edge := fun k a b h1 h2 _ h3 => h k a b h1 (by lia)
  grand := fun h1 h2 => absurd h2 (by have := par_lt h1; lia)
theorem DownInv.up {i pos : Nat} {g : List α} (h : DownInv O i g pos) (hl : g.length ≤ 2 * pos + 1) : UpInv O i g pos where
  edge := fun k a b h1 h2 h3 h4 h5 => by
    by_cases hp : par k = pos
    · have := (List.getElem?_eq_some_iff.mp h5).1
      unfold par at hp; lia
    · exact h.edge k a b h1 h2 h3 hp h4 h5
  grand := h.grand
noncomputable def swp (g : List α) (a b : Nat) : List α := match g[a]?, g[b]? with
  | some x, some y => (g.set a y).set b x
  | _, _ => g
theorem swp_perm (g : List α) (a b : Nat) : (swp g a b).Perm g := by
  unfold swp
  split
  · rename_i x y hx hy
    obtain ⟨ha, rfl⟩ := List.getElem?_eq_some_iff.mp hx
    obtain ⟨hb, rfl⟩ := List.getElem?_eq_some_iff.mp hy
    exact List.set_set_perm ha hb
  · exact .refl _
theorem swp_get {g : List α} {a b : Nat} {x y : α} (hx : g[a]? = some x) (hy : g[b]? = some y) (k : Nat) : (swp g a b)[k]? = if k = b then some x else if k = a then some y else g[k]? := by
  have ha := (List.getElem?_eq_some_iff.mp hx).1
  have hb := (List.getElem?_eq_some_iff.mp hy).1
  unfold swp
  rw [hx, hy]
  dsimp only
  rw [List.getElem?_set]
  split
  · rename_i e; subst e; rw [if_pos (by rw [List.length_set]; exact hb), if_pos rfl]
  · rename_i e
    rw [if_neg (Ne.symm e), List.getElem?_set]
    split
    · rename_i e2; subst e2; simp [ha]
    · rename_i e2; rw [if_neg (Ne.symm e2)]
theorem swp_length (g : List α) (a b : Nat) : (swp g a b).length = g.length := (swp_perm g a b).length_eq
theorem AllD.perm {g g' : List α} (h : AllD O g) (p : g'.Perm g) : AllD O g' := fun x hx => h x (p.mem_iff.mp hx)
theorem AllD.get {g : List α} (h : AllD O g) {k : Nat} {a : α} (e : g[k]? = some a) : O.D a := h a (List.mem_of_getElem? e)
theorem DownInv.step {i pos c : Nat} {g : List α} {x y : α} (h : DownInv O i g pos) (hc : par c = pos) (h1 : 1 ≤ c) (hi : i ≤ pos) (hx : g[pos]? = some x) (hy : g[c]? = some y)
    (hs : ∀ k b, 1 ≤ k → par k = pos → k ≠ c → g[k]? = some b → Le O y b) : DownInv O i (swp g pos c) c where
  edge := fun k a b k1 k2 k3 k4 ha hb => by
    have hcp : c ≠ pos := by have := par_lt h1; lia
    rw [swp_get hx hy] at ha hb
    rw [if_neg k4] at ha
    rw [if_neg k3] at hb
    by_cases e1 : k = pos
    · subst e1
      rw [if_pos rfl] at hb
      cases hb
      rw [if_neg (Nat.ne_of_lt (par_lt k1))] at ha
      exact h.grand k1 k2 c a y h1 hc ha hy
    · rw [if_neg e1] at hb
      by_cases e2 : par k = pos
      · rw [if_pos e2] at ha; cases ha
        exact hs k b k1 e2 k3 hb
      · rw [if_neg e2] at ha
        exact h.edge k a b k1 k2 e1 e2 ha hb
  grand := fun _ _ d a b d1 d2 ha hb => by
    have hcp : c ≠ pos := by have := par_lt h1; lia
    have hd := par_lt d1
    have hcc := par_lt h1
    rw [swp_get hx hy] at ha hb
    rw [hc, if_neg (Ne.symm hcp), if_pos rfl] at ha
    cases ha
    rw [if_neg (by lia), if_neg (by lia)] at hb
    exact h.edge d y b d1 (by lia) (by lia) (by lia) (by rw [d2]; exact hy) hb
theorem UpInv.step {i pos : Nat} {g : List α} {x y : α} (hD : AllD O g) (h : UpInv O i g pos) (hi : i < pos) (hip : i ≤ par pos) (hx : g[pos]? = some x) (hy : g[par pos]? = some y) (hlt : O.lt x y = true) :
    UpInv O i (swp g (par pos) pos) (par pos) where
  edge := fun k a b k1 k2 k3 ha hb => by
    have hp : par pos < pos := par_lt (by lia)
    rw [swp_get hy hx] at ha hb
    by_cases e1 : k = pos
    · subst e1
      rw [if_pos rfl] at hb
      cases hb
      rw [if_neg (Nat.ne_of_lt hp), if_pos rfl] at ha
      cases ha
      exact Le.of_lt (hD.get hx) (hD.get hy) hlt
    · rw [if_neg e1, if_neg k3] at hb
      by_cases e2 : par k = pos
      · rw [if_pos e2] at ha; cases ha
        exact h.grand (by lia) hip k y b k1 e2 hy hb
      · rw [if_neg e2] at ha
        by_cases e3 : par k = par pos
        · rw [if_pos e3] at ha; cases ha
          have h2 := h.edge k y b k1 k2 e1 (by rw [e3]; exact hy) hb
          exact Le.trans (hD.get hx) (hD.get hy) (hD.get hb) (Le.of_lt (hD.get hx) (hD.get hy) hlt) h2
        · rw [if_neg e3] at ha
          exact h.edge k a b k1 k2 e1 ha hb
  grand := fun hp1 hip' c a b c1 c2 ha hb => by
    have hp : par pos < pos := par_lt (by lia)
    have hpp : par (par pos) < par pos := par_lt hp1
    rw [swp_get hy hx] at ha hb
    rw [if_neg (by lia), if_neg (by lia)] at ha
    have top := h.edge (par pos) a y hp1 hip' (by lia) ha hy
    by_cases e1 : c = pos
    · subst e1
      rw [if_pos rfl] at hb; cases hb
      exact top
    · rw [if_neg e1, if_neg (by have := par_lt c1; lia)] at hb
      exact Le.trans (hD.get ha) (hD.get hy) (hD.get hb) top (h.edge c y b c1 (by lia) e1 (by rw [c2]; exact hy) hb)
theorem UpInv.done {i pos : Nat} {g : List α} (h : UpInv O i g pos) (he : 1 ≤ pos → i ≤ par pos → ∀ a b, g[par pos]? = some a → g[pos]? = some b → Le O a b) : HeapFrom O i g := fun k a b k1 k2 ha hb => by
  by_cases e : k = pos
  · subst e; exact he k1 k2 a b ha hb
  · exact h.edge k a b k1 k2 e ha hb
theorem HeapFrom.min {g : List α} {d : α} (hD : AllD O g) (h : HeapFrom O 0 g) (h0 : g[0]? = some d) : ∀ (k : Nat) (b : α), g[k]? = some b → Le O d b := by
  intro k
  induction k using Nat.strongRecOn with
  | ind k ih =>
    intro b hb
    by_cases hk : k = 0
    · subst hk; rw [h0] at hb; cases hb; exact Le.refl (hD.get h0)
    · have hp := par_lt (k := k) (by lia)
      have hpl : par k < g.length := Nat.lt_trans hp (List.getElem?_eq_some_iff.mp hb).1
      have ha : g[par k]? = some g[par k] := List.getElem?_eq_getElem hpl
      exact Le.trans (hD.get h0) (hD.get ha) (hD.get hb) (ih _ hp _ ha) (h k _ _ (by lia) (Nat.zero_le _) ha hb)
theorem HeapFrom.of_big {g : List α} {i : Nat} (h : g.length ≤ 2 * i + 1) : HeapFrom O i g := fun k a b k1 k2 _ hb => by
  have := (List.getElem?_eq_some_iff.mp hb).1
  unfold par at k2; lia
theorem HeapFrom.last {g : List α} {x : α} (h : HeapFrom O 0 (g ++ [x])) : HeapFrom O 0 g := fun k a b k1 k2 ha hb => by
  have h1 := (List.getElem?_eq_some_iff.mp ha).1
  have h2 := (List.getElem?_eq_some_iff.mp hb).1
  exact h k a b k1 k2 (by rw [List.getElem?_append_left h1]; exact ha) (by rw [List.getElem?_append_left h2]; exact hb)
theorem HeapFrom.set0 {g : List α} {x : α} (h : HeapFrom O 0 g) : HeapFrom O 1 (g.set 0 x) := fun k a b k1 k2 ha hb => by
  rw [List.getElem?_set_ne (by lia)] at ha
  rw [List.getElem?_set_ne (by lia)] at hb
  exact h k a b k1 (Nat.zero_le _) ha hb
end
end
section
open PySem PySem.W PyProof.Rows
open Builtin Builtin.Str
set_option autoImplicit false
set_option linter.unusedVariables false
set_option maxRecDepth 100000
set_option maxHeartbeats 1000000
section
variable {prog : Program} {w : World} {mb : Str → Option Value} {A : Around} {E : Value → Shared → Prop} {s : Shared} {P : Part} {Q : Value → Shared → Prop} {env : Env}
variable {c : Cx} {L : Addr} {m : Str → Option Value} {M : List (Addr × Obj)}
noncomputable def mI (m : Str → Option Value) (x : Str) (k : Int) : Prop := ∃ t, m x = some (.int k t)
/-- less than, on what a heap holds -/
noncomputable def LtRule (prog : Program) (w : World) (O : Ord3 PyData) : Prop :=
  ∀ {A : Around} {E : Value → Shared → Prop} {s : Shared} {c : Cx} {P : Part} {L : Addr} {m : Str → Option Value} {M : List (Addr × Obj)} {v1 v2 : Value} {d1 d2 : PyData} {Q : Value → Shared → Prop},
    Rm A 1 → O.D d1 → O.D d2 → Fm c P L m M s → Rep P v1 d1 → Rep P v2 d2 → (∀ s', Fm c P L m M s' → Q (.bool (O.lt d1 d2)) s') → wpAny (model prog w) A (compareOp .Lt v1 v2) Q E s
noncomputable def GtRule (prog : Program) (w : World) (O : Ord3 PyData) : Prop :=
  ∀ {A : Around} {E : Value → Shared → Prop} {s : Shared} {c : Cx} {P : Part} {L : Addr} {m : Str → Option Value} {M : List (Addr × Obj)} {v1 v2 : Value} {d1 d2 : PyData} {Q : Value → Shared → Prop},
    Rm A 1 → O.D d1 → O.D d2 → Fm c P L m M s → Rep P v1 d1 → Rep P v2 d2 → (∀ s', Fm c P L m M s' → Q (.bool (O.lt d1 d2)) s') → wpAny (model prog w) A (compareOp .Lt v2 v1) Q E s
theorem LtRule.flip {prog : Program} {w : World} {O : Ord3 PyData} (R : LtRule prog w O) : GtRule prog w O.flip := fun hA h1 h2 F r1 r2 h => R hA h2 h1 F r2 r1 h
noncomputable def LO (o : Obj) (vs : List Value) : Prop := ∃ n, o = lst vs.toArray n
theorem LO.isList {o : Obj} {vs : List Value} {a : Addr} {h : Heap} (hl : LO o vs) (ho : h.get? a = some o) : h.IsList a vs.toArray := by
  obtain ⟨n, rfl⟩ := hl
  exact ⟨_, ho, rfl, n, rfl⟩
theorem Fm.hide {a : Addr} {o : Obj} {s₁ : Shared} (F : Fm ⟨s, s.heap.get?, P⟩ P L m [] s₁) (ha : s.heap.get? a = some o) (hPa : P a = none) : Fm ⟨s, hid s.heap a, P⟩ P L m [(a, o)] s₁ where
  same := F.same
  ns := F.ns
  old := fun b o e => F.old b o (hid_on _ _ b o e)
  le := F.le
  on := F.on
  new := fun b o e => .inl e
  offL := F.offL
  newL := by
    show (if L = a then none else s.heap.get? L) = none
    split
    · rfl
    · exact F.newL
  mu := fun p hp => by rw [List.mem_singleton.mp hp]; exact F.old a o ha
  off := fun p hp => by
    rw [List.mem_singleton.mp hp]
    exact ⟨fun e => (by have := F.newL; rw [← e] at this; dsimp only at this; rw [ha] at this; cases this), hPa, hid_self⟩
  nd := List.pairwise_singleton _ _
theorem x_asgS {o i value : Expr} {pos' pos : Pos} {rest : List Stmt} {Q : Flow → Shared → Prop}
    (h : wpAny (model prog w) A (eval value env) (fun v s₁ => wpAny (model prog w) A (eval o env) (fun ov s₂ => wpAny (model prog w) A (eval i env) (fun iv s₃ =>
      wpAny (model prog w) A (setItem ov iv v) (fun _ s₄ => wpAny (model prog w) A (execs rest env) Q E s₄) E s₃) E s₂) E s₁) E s)
    (hs : swapsWith value (some (.Subscript o i pos')) pos.line env = pure false) : wpAny (model prog w) A (execs (.Assign [.Subscript o i pos'] value pos :: rest) env) Q E s :=
  wpAny_execs_cons (wpAny_Assign_Subscript (by exact h) hs)
theorem z_setM {a : Addr} {o : Obj} {vs : List Value} {k : Int} {i : Nat} {t : Tok} {v : Value} {Q : Unit → Shared → Prop} (F : Fm c P L m ((a, o) :: M) s) (hl : LO o vs) (hk : k = (i : Int)) (hi : i < vs.length) (hsz : vs.length ≤ 10000)
    (h : ∀ s' o', LO o' (vs.set i v) → Fm c P L m ((a, o') :: M) s' → Q () s') : wpAny (model prog w) A (setItem (.ref a) (.int k t) v) Q E s := by
  have L₀ := hl.isList (mu0 F)
  obtain ⟨n, rfl⟩ := hl
  have ho : IsL s.heap a vs.toArray n := mu0 F
  unfold setItem
  with_reducible refine wpAny_holding ?_
  refine wpAny_bind (wpAny_sequenceKey L₀.typeIs (by decide) ?_)
  refine wpAny_bind (wpAny_callSpecial?_slot (name := Str.ofString "__setitem__") L₀.typeIs slot_list_setitem
    (wpAny_call_entry slot_list_setitem L₀.typeIs entry_list_setitem ?_ (args_list_setitem _ _ _)))
  show wpAny _ _ (Builtin.List.listSubscript? (.int k t) >>= _) _ _ s
  refine wpAny_bind (wpAny_listSubscript_int (fitsIndex_of (by lia) (by lia)) ?_)
  subst hk
  have hx' : vs.toArray[i]? = some vs[i] := by simp [hi]
  show wpAny _ _ ((seqItemAt a i >>= fun r => pure (r.map (i, ·))) >>= _) _ _ s
  refine wpAny_bind (wpAny_bind (wpAny_seqItemAt ho rfl (wpAny_pure ?_)))
  rw [hx']
  show wpAny _ _ (setSeqItemAt a i v >>= _) _ _ s
  refine wpAny_bind (wpAny_setSeqItemAt ho rfl ?_)
  have fin := h _ (lst (vs.set i v).toArray _) ⟨_, rfl⟩ (F.upd0 (tk := s.toks) (by have := IsL.update ho (·.setIfInBounds i v); simpa using this) (Heap.SameBut.extBut (Heap.SameBut.update ..)))
  first
    | exact wpAny_bind (wpAny_pure (wpAny_pure ⟨.none, rfl, wpAny_pure fin⟩))
    | exact wpAny_pure ⟨.none, rfl, wpAny_pure fin⟩
theorem RepAll.swp {vs : List Value} {g : List PyData} (h : RepAll P vs g) (a b : Nat) : RepAll P (swp vs a b) (swp g a b) := by
  unfold Mine.swp
  cases ha : g[a]? with
  | none =>
    have : vs[a]? = none := by rw [List.getElem?_eq_none_iff] at ha ⊢; rw [h.length]; exact ha
    rw [this]; exact h
  | some x =>
    cases hb : g[b]? with
    | none =>
      have : vs[b]? = none := by rw [List.getElem?_eq_none_iff] at hb ⊢; rw [h.length]; exact hb
      rw [this]
      obtain ⟨u, hu, _⟩ := h.get ha
      rw [hu]; exact h
    | some y =>
      obtain ⟨u, hu, ru⟩ := h.get ha
      obtain ⟨v, hv, rv⟩ := h.get hb
      rw [hu, hv]
      exact (h.set rv).set ru
theorem List.set_getElem?_self' {α : Type} {l : List α} {i : Nat} {x : α} (h : l[i]? = some x) : l.set i x = l := by
  obtain ⟨hi, rfl⟩ := List.getElem?_eq_some_iff.mp h
  exact List.set_getElem_self hi
theorem swp_hole {vs : List Value} {pos q : Nat} {x y : Value} (hp : pos < vs.length) (hne : q ≠ pos) (hy : vs[q]? = some y) : swp (vs.set pos x) q pos = (vs.set pos y).set q x := by
  unfold swp
  rw [List.getElem?_set_ne hne.symm, hy, List.getElem?_set_self hp]
  dsimp only
  rw [List.set_comm _ _ hne.symm, List.set_set]
  rw [List.set_comm _ _ hne.symm]
theorem swp_hole' {vs : List Value} {pos q : Nat} {x y : Value} (hp : pos < vs.length) (hne : q ≠ pos) (hy : vs[q]? = some y) : swp (vs.set pos x) pos q = (vs.set pos y).set q x := by
  unfold swp
  rw [List.getElem?_set_ne hne.symm, hy, List.getElem?_set_self hp]
  dsimp only
  rw [List.set_set]
inductive SdR (O : Ord3 PyData) (c : Cx) (P : Part) (L a : Addr) (vs : List Value) (g : List PyData) (i : Nat) (x : Value) (r : Except Value Flow) (s' : Shared) : Prop
  | mk (k) (m') (o') (vs') (g') (t') : r = .ok .next → Fm c P L m' [(a, o')] s' → LO o' vs' → RepAll P (vs'.set k x) g' → vs'.length = vs.length → k < vs.length → HeapFrom O i g' → g'.Perm g → m' "pos" = some (.int (k : Int) t') → m' "heap" = some (.ref a) → m' "newitem" = some x → SdR O c P L a vs g i x r s'
inductive SdI (O : Ord3 PyData) (c : Cx) (P : Part) (L a : Addr) (vs : List Value) (g : List PyData) (i : Nat) (x : Value) (ti : Tok) (k : Nat) (s' : Shared) : Prop
  | mk (m') (o') (vs') (g') (t') : Fm c P L m' [(a, o')] s' → LO o' vs' → RepAll P (vs'.set k x) g' → vs'.length = vs.length → k < vs.length → Desc i k → UpInv O i g' k → g'.Perm g → m' "pos" = some (.int (k : Int) t') → m' "heap" = some (.ref a) → m' "startpos" = some (.int i ti) → m' "newitem" = some x → SdI O c P L a vs g i x ti k s'
theorem siftdown_spec {O : Ord3 PyData} (R : LtRule prog w O) {a : Addr} {o : Obj} {vs : List Value} {g : List PyData} {i pos : Nat} {ti tp : Tok} (X : Bs w mb P) (hP : P.on s.heap) (hA : Rm A 3)
    (ha : s.heap.get? a = some o) (hPa : P a = none) (hl : LO o vs) (hr : RepAll P vs g) (hD : AllD O g) (hsz : vs.length ≤ 10000) (hpos : pos < vs.length) (hdesc : Desc i pos) (hu : UpInv O i g pos)
    (h : ∀ s' o' vs' g', Ret ⟨s, hid s.heap a, P⟩ P s' → s'.heap.get? a = some o' → LO o' vs' → RepAll P vs' g' → g'.Perm g → HeapFrom O i g' → Q .none s') :
    wpAny (model prog w) A (call (.ref 172) [.ref a, .int i ti, .int pos tp]) Q E s := by
  refine enter (binds := [(Str.ofString "heap", .ref a), (Str.ofString "startpos", .int i ti), (Str.ofString "pos", .int pos tp)]) X (fun _ _ e => e) hP hA.lt (a := 172) rfl (by kernel_rfl) rfl rfl (by rfl) (by rfl) rfl rfl rfl ?_
  intro L s₁ E' F₀ env
  have F := F₀.hide ha hPa
  clear F₀
  have hA' : Rm (A.deeper env) 2 := hA.deeper
  repeat kspl_open e
  obtain ⟨x, hx⟩ : ∃ x, vs[pos]? = some x := ⟨_, List.getElem?_eq_getElem hpos⟩
  refine z_item (hl.isList (mu0 F)) rfl (sl_of hsz) hx ?_ rfl
  repeat kspl_open e
  refine x_while fun E₂ => ?_
  refine codeAny_mono (R := SdR O ⟨s, hid s.heap a, P⟩ P L a vs g i x) ?_ ?_
  rotate_left
  · rintro r s' ⟨k, m', o', vs', g', t', rfl, F', hl', hr', hlen, hk, hh, hpm, m1, m2, m4⟩
    try dsimp only
    with_reducible refine x_asgS ?_ rfl
    repeat kspl_open e
    refine z_setM F' hl' rfl (by lia) (by lia) fun s₃ o₃ hl₃ F₃ => ?_
    repeat kspl_open e
    exact h _ _ _ _ F₃.tail.ret (mu0 F₃) hl₃ hr' hpm hh
  refine codeAny_whileLoop (SdI O ⟨s, hid s.heap a, P⟩ P L a vs g i x ti) ?_ pos ?_
  · rintro k s' ⟨m', o', vs', g', t', F', hl', hr', hlen, hk, hde, hup, hpm, m1, m2, m3, m4⟩
    repeat kspl_open e
    by_cases hki : i < k
    · rw [if_pos (by simpa using hki)]
      repeat kspl_open e
      refine z_shr1 (by assumption) fun t₃ s₃ F₃ => ?_
      have hpk : ((k : Int) - 1) / 2 = ((par k : Nat) : Int) := by unfold par; lia
      have hpl := par_lt (k := k) (by lia)
      rw [hpk]
      repeat kspl_open e
      obtain ⟨y, hy⟩ : ∃ y, vs'[par k]? = some y := ⟨_, List.getElem?_eq_getElem (by lia)⟩
      refine z_item (i := par k) (hl'.isList (mu0 ‹_›)) rfl (sl_of (by lia)) hy ?_ rfl
      repeat kspl_open e
      obtain ⟨d1, hd1, hr1⟩ := hr'.getV (i := k) (v := x) (List.getElem?_set_self (by lia))
      obtain ⟨d2, hd2, hr2⟩ := hr'.getV (i := par k) (v := y) (by rw [List.getElem?_set_ne (by lia)]; exact hy)
      have hD' : AllD O g' := hD.perm hpm
      refine R (hA'.mono (by decide)) (hD'.get hd1) (hD'.get hd2) (by assumption) hr1 hr2 fun s₅ F₅ => ?_
      repeat kspl_open e
      have hip : i ≤ par k := by
        cases hde with
        | refl => exact absurd hki (Nat.lt_irrefl _)
        | step _ h2 => exact h2.le
      by_cases hlt : O.lt d1 d2 = true
      · rw [if_pos hlt]
        with_reducible refine x_asgS ?_ rfl
        repeat kspl_open e
        refine z_setM F₅ hl' rfl (by lia) (by lia) fun s₆ o₆ hl₆ F₆ => ?_
        repeat kspl_open e
        refine ⟨par k, hpl, _, o₆, vs'.set k y, swp g' (par k) k, t₃, ‹_›, hl₆, ?_, by simpa using hlen, by lia, ?_, hup.step hD' hki hip hd1 hd2 hlt, (swp_perm _ _ _).trans hpm, ?_, ?_, ?_, ?_⟩
        · rw [← swp_hole (by lia) (by lia) hy]; exact hr'.swp _ _
        · cases hde with
          | refl => exact absurd hki (Nat.lt_irrefl _)
          | step _ h2 => exact h2
        · exact if_pos rfl
        · exact m2
        · exact m3
        · exact m4
      · rw [if_neg hlt]
        repeat kspl_open e
        refine ⟨k, _, o', vs', g', t', rfl, F₅, hl', hr', hlen, hk, hup.done fun _ _ a b ea eb => ?_, hpm, ?_, ?_, ?_⟩
        · rw [hd2] at ea; rw [hd1] at eb; cases ea; cases eb
          unfold Le; simpa using hlt
        · exact m1
        · exact m2
        · exact m4
    · rw [if_neg (by simpa using hki)]
      repeat kspl_open e
      have := hde.le
      obtain rfl : k = i := by lia
      refine ⟨k, _, o', vs', g', t', rfl, ‹_›, hl', hr', hlen, hk, hup.done fun h1 h2 => absurd h2 (by have := par_lt h1; lia), hpm, m1, m2, m4⟩
  · refine ⟨_, o, vs, g, tp, ‹_›, hl, ?_, rfl, hpos, hdesc, hu, .refl _, rfl, rfl, rfl, rfl⟩
    rw [List.set_getElem?_self' hx]; exact hr
end
end
section
open PySem PySem.W PyProof.Rows
open Builtin Builtin.Str
set_option autoImplicit false
set_option linter.unusedVariables false
set_option maxRecDepth 100000
set_option maxHeartbeats 1000000
section
variable {prog : Program} {w : World} {mb : Str → Option Value} {A : Around} {E : Value → Shared → Prop} {s : Shared} {P : Part} {Q : Value → Shared → Prop} {env : Env}
variable {c : Cx} {L : Addr} {m : Str → Option Value} {M : List (Addr × Obj)}
inductive SuR (O : Ord3 PyData) (c : Cx) (P : Part) (L a : Addr) (vs : List Value) (g : List PyData) (i : Nat) (x : Value) (ti : Tok) (r : Except Value Flow) (s' : Shared) : Prop
  | mk (k) (m') (o') (vs') (g') : r = .ok .next → Fm c P L m' [(a, o')] s' → LO o' vs' → RepAll P (vs'.set k x) g' → vs'.length = vs.length → k < vs.length → Desc i k → UpInv O i g' k → g'.Perm g → mI m' "pos" k → m' "heap" = some (.ref a) → m' "newitem" = some x → m' "startpos" = some (.int i ti) → SuR O c P L a vs g i x ti r s'
inductive SuI (O : Ord3 PyData) (c : Cx) (P : Part) (L a : Addr) (vs : List Value) (g : List PyData) (i : Nat) (x : Value) (ti tn : Tok) (j : Nat) (s' : Shared) : Prop
  | mk (k) (m') (o') (vs') (g') : j = vs.length - k → Fm c P L m' [(a, o')] s' → LO o' vs' → RepAll P (vs'.set k x) g' → vs'.length = vs.length → k < vs.length → Desc i k → DownInv O i g' k → g'.Perm g → mI m' "pos" k → m' "heap" = some (.ref a) → m' "newitem" = some x → m' "startpos" = some (.int i ti) → mI m' "childpos" ((2 * k + 1 : Nat) : Int) → m' "endpos" = some (.int vs.length tn) → SuI O c P L a vs g i x ti tn j s'
theorem siftup_spec {O : Ord3 PyData} (R : LtRule prog w O) {a : Addr} {o : Obj} {vs : List Value} {g : List PyData} {i : Nat} {ti : Tok} (X : Bs w mb P) (hP : P.on s.heap) (hA : Rm A 5)
    (ha : s.heap.get? a = some o) (hPa : P a = none) (hl : LO o vs) (hr : RepAll P vs g) (hD : AllD O g) (hsz : vs.length ≤ 10000) (hpos : i < vs.length) (hu : HeapFrom O (i + 1) g)
    (h : ∀ s' o' vs' g', Ret ⟨s, hid s.heap a, P⟩ P s' → s'.heap.get? a = some o' → LO o' vs' → RepAll P vs' g' → g'.Perm g → HeapFrom O i g' → Q .none s') :
    wpAny (model prog w) A (call (.ref 179) [.ref a, .int i ti]) Q E s := by
  refine enter (binds := [(Str.ofString "heap", .ref a), (Str.ofString "pos", .int i ti)]) X (fun _ _ e => e) hP hA.lt (a := 179) rfl (by kernel_rfl) rfl rfl (by rfl) (by rfl) rfl rfl rfl ?_
  intro L s₁ E' F₀ env
  have F := F₀.hide ha hPa
  clear F₀
  have hA' : Rm (A.deeper env) 4 := hA.deeper
  repeat kspl_open e
  refine z_len (by assumption) (hl.isList (mu0 F)) (sl_of hsz) fun tn s₂ F₂ => ?_
  repeat kspl_open e
  obtain ⟨x, hx⟩ : ∃ x, vs[i]? = some x := ⟨_, List.getElem?_eq_getElem hpos⟩
  refine z_item (hl.isList (mu0 ‹_›)) rfl (sl_of hsz) hx ?_ rfl
  repeat kspl_open e
  refine z_mul2 (by assumption) (.of_left (by decide)) fun t₃ s₃ F₃ => ?_
  repeat kspl_open e
  refine x_while fun E₂ => ?_
  refine codeAny_mono (R := SuR O ⟨s, hid s.heap a, P⟩ P L a vs g i x ti) ?_ ?_
  rotate_left
  · rintro r s' ⟨k, m', o', vs', g', rfl, F', hl', hr', hlen, hk, hde, hh, hpm, ⟨t', m1⟩, m2, m4, m5⟩
    try dsimp only
    with_reducible refine x_asgS ?_ rfl
    repeat kspl_open e
    refine z_setM F' hl' rfl (by lia) (by lia) fun s₃ o₃ hl₃ F₃ => ?_
    repeat kspl_open e
    refine ⟨F₃.K X, siftdown_spec R X F₃.on (hA'.mono (by decide)) (mu0 F₃) (F₃.off _ (.head _)).2.1 hl₃ hr' (hD.perm hpm) (by rw [List.length_set]; lia) (by rw [List.length_set]; lia) hde hh fun s₄ o₄ vs₄ g₄ R₄ h1 h2 h3 h4 h5 => ⟨rfl, ?_⟩⟩
    have F₄ := F₃.callM R₄ h1 (F₃.off _ (.head _)).2.1
    repeat kspl_open e
    exact h _ _ _ _ F₄.tail.ret (mu0 F₄) h2 h3 (h4.trans hpm) h5
  refine codeAny_whileLoop (SuI O ⟨s, hid s.heap a, P⟩ P L a vs g i x ti tn) ?_ (vs.length - i) ?_
  · rintro j s' ⟨k, m', o', vs', g', rfl, F', hl', hr', hlen, hk, hde, hdn, hpm, ⟨t', m1⟩, m2, m3, m4, ⟨t'', m5⟩, m6⟩
    have hgl : g'.length = vs.length := by rw [← hr'.length, List.length_set, hlen]
    repeat kspl_open e
    by_cases hc : 2 * k + 1 < vs.length
    · rw [if_pos (by rw [decide_eq_true_eq]; lia)]
      repeat kspl_open e
      have hik := hde.le
      have hD' : AllD O g' := hD.perm hpm
      obtain ⟨d0, hd0, hr0⟩ := hr'.getV (i := k) (v := x) (List.getElem?_set_self (by lia))
      obtain ⟨y1, hy1⟩ : ∃ y, vs'[2 * k + 1]? = some y := ⟨_, List.getElem?_eq_getElem (by lia)⟩
      obtain ⟨d1, hd1, hr1⟩ := hr'.getV (i := 2 * k + 1) (v := y1) (by rw [List.getElem?_set_ne (by lia)]; exact hy1)
      by_cases hc2 : 2 * k + 2 < vs.length
      · rw [if_pos (by rw [decide_eq_true_eq]; lia)]
        repeat kspl_open e
        refine z_item (i := 2 * k + 1) (hl'.isList (mu0 ‹_›)) rfl (sl_of (by lia)) hy1 ?_ rfl
        repeat kspl_open e
        obtain ⟨y2, hy2⟩ : ∃ y, vs'[2 * k + 2]? = some y := ⟨_, List.getElem?_eq_getElem (by lia)⟩
        obtain ⟨d2, hd2, hr2⟩ := hr'.getV (i := 2 * k + 2) (v := y2) (by rw [List.getElem?_set_ne (by lia)]; exact hy2)
        refine z_item (i := 2 * k + 2) (hl'.isList (mu0 ‹_›)) (by lia) (sl_of (by lia)) hy2 ?_ rfl
        repeat kspl_open e
        refine R (hA'.mono (by decide)) (hD'.get hd1) (hD'.get hd2) (by assumption) hr1 hr2 fun s₅ F₅ => ?_
        repeat kspl_open e
        cases hlt : O.lt d1 d2 with
        | true =>
          rw [if_neg (by decide)]
          repeat kspl_open e
          with_reducible refine x_asgS ?_ rfl
          repeat kspl_open e
          refine z_item (i := 2 * k + 1) (hl'.isList (mu0 ‹_›)) (by lia) (sl_of (by lia)) hy1 ?_ rfl
          repeat kspl_open e
          refine z_setM (by assumption) hl' rfl (by lia) (by lia) fun s₆ o₆ hl₆ F₆ => ?_
          repeat kspl_open e
          refine z_mul2 (by assumption) (.of_left (by decide)) fun t₇ s₇ F₇ => ?_
          repeat kspl_open e
          refine ⟨vs.length - (2 * k + 1), by lia, 2 * k + 1, _, o₆, vs'.set k y1, swp g' k (2 * k + 1), rfl, ‹_›, hl₆, ?_, by simpa using hlen, by lia, .step (by lia) ?_, hdn.step ?_ (by lia) hik hd0 hd1 ?_, (swp_perm _ _ _).trans hpm, ?_, ?_, ?_, ?_, ?_, ?_⟩
          · rw [← swp_hole' (by lia) (by lia) hy1]; exact hr'.swp _ _
          · rw [show par (2 * k + 1) = k by unfold par; lia]; exact hde
          · unfold par; lia
          · intro j b h1 h2 h3 h4
            obtain rfl : j = 2 * k + 2 := by unfold par at h2; lia
            rw [hd2] at h4; cases h4
            exact Le.of_lt (hD'.get hd1) (hD'.get hd2) hlt
          · exact ⟨_, rfl⟩
          · exact m2
          · exact m3
          · exact m4
          · exact ⟨_, congrArg (fun z => some (Value.int z _)) (by lia)⟩
          · exact m6
        | false =>
          rw [if_pos (by decide)]
          repeat kspl_open e
          with_reducible refine x_asgS ?_ rfl
          repeat kspl_open e
          refine z_item (i := 2 * k + 2) (hl'.isList (mu0 ‹_›)) (by lia) (sl_of (by lia)) hy2 ?_ rfl
          repeat kspl_open e
          refine z_setM (by assumption) hl' rfl (by lia) (by lia) fun s₆ o₆ hl₆ F₆ => ?_
          repeat kspl_open e
          refine z_mul2 (by assumption) (.of_left (by decide)) fun t₇ s₇ F₇ => ?_
          repeat kspl_open e
          refine ⟨vs.length - (2 * k + 2), by lia, 2 * k + 2, _, o₆, vs'.set k y2, swp g' k (2 * k + 2), rfl, ‹_›, hl₆, ?_, by simpa using hlen, by lia, .step (by lia) ?_, hdn.step ?_ (by lia) hik hd0 hd2 ?_, (swp_perm _ _ _).trans hpm, ?_, ?_, ?_, ?_, ?_, ?_⟩
          · rw [← swp_hole' (by lia) (by lia) hy2]; exact hr'.swp _ _
          · rw [show par (2 * k + 2) = k by unfold par; lia]; exact hde
          · unfold par; lia
          · intro j b h1 h2 h3 h4
            obtain rfl : j = 2 * k + 1 := by unfold par at h2; lia
            rw [hd1] at h4; cases h4
            exact hlt
          · exact ⟨_, congrArg (fun z => some (Value.int z _)) (show ((2 * k + 1 : Nat) : Int) + 1 = ((2 * k + 2 : Nat) : Int) by lia)⟩
          · exact m2
          · exact m3
          · exact m4
          · exact ⟨_, congrArg (fun z => some (Value.int z _)) (by lia)⟩
          · exact m6
      · rw [if_neg (by rw [decide_eq_true_eq]; lia)]
        repeat kspl_open e
        try dsimp only
        with_reducible refine x_asgS ?_ rfl
        repeat kspl_open e
        refine z_item (i := 2 * k + 1) (hl'.isList (mu0 ‹_›)) (by lia) (sl_of (by lia)) hy1 ?_ rfl
        repeat kspl_open e
        refine z_setM (by assumption) hl' rfl (by lia) (by lia) fun s₆ o₆ hl₆ F₆ => ?_
        repeat kspl_open e
        refine z_mul2 (by assumption) (.of_left (by decide)) fun t₇ s₇ F₇ => ?_
        repeat kspl_open e
        refine ⟨vs.length - (2 * k + 1), by lia, 2 * k + 1, _, o₆, vs'.set k y1, swp g' k (2 * k + 1), rfl, ‹_›, hl₆, ?_, by simpa using hlen, by lia, .step (by lia) ?_, hdn.step ?_ (by lia) hik hd0 hd1 ?_, (swp_perm _ _ _).trans hpm, ?_, ?_, ?_, ?_, ?_, ?_⟩
        · rw [← swp_hole' (by lia) (by lia) hy1]; exact hr'.swp _ _
        · rw [show par (2 * k + 1) = k by unfold par; lia]; exact hde
        · unfold par; lia
        · intro j b h1 h2 h3 h4
          have := (List.getElem?_eq_some_iff.mp h4).1
          unfold par at h2; lia
        · exact ⟨_, rfl⟩
        · exact m2
        · exact m3
        · exact m4
        · exact ⟨_, congrArg (fun z => some (Value.int z _)) (by lia)⟩
        · exact m6
    · rw [if_neg (by rw [decide_eq_true_eq]; lia)]
      repeat kspl_open e
      exact ⟨k, _, o', vs', g', rfl, ‹_›, hl', hr', hlen, hk, hde, hdn.up (by lia), hpm, ⟨t', m1⟩, m2, m3, m4⟩
  · refine ⟨i, _, o, vs, g, rfl, ‹_›, hl, ?_, rfl, hpos, .refl, hu.down, .refl _, ⟨_, rfl⟩, rfl, rfl, rfl, ⟨_, rfl⟩, rfl⟩
    rw [List.set_getElem?_self' hx]; exact hr
end
end
section
open PySem PySem.W PyProof.Rows
open Builtin Builtin.Str
set_option autoImplicit false
set_option linter.unusedVariables false
set_option maxRecDepth 100000
set_option maxHeartbeats 1000000
section
variable {prog : Program} {w : World} {mb : Str → Option Value} {A : Around} {E : Value → Shared → Prop} {s : Shared} {P : Part} {Q : Value → Shared → Prop} {env : Env}
variable {c : Cx} {L : Addr} {m : Str → Option Value} {M : List (Addr × Obj)}
theorem siftdown_max_spec {O : Ord3 PyData} (R : GtRule prog w O) {a : Addr} {o : Obj} {vs : List Value} {g : List PyData} {i pos : Nat} {ti tp : Tok} (X : Bs w mb P) (hP : P.on s.heap) (hA : Rm A 3)
    (ha : s.heap.get? a = some o) (hPa : P a = none) (hl : LO o vs) (hr : RepAll P vs g) (hD : AllD O g) (hsz : vs.length ≤ 10000) (hpos : pos < vs.length) (hdesc : Desc i pos) (hu : UpInv O i g pos)
    (h : ∀ s' o' vs' g', Ret ⟨s, hid s.heap a, P⟩ P s' → s'.heap.get? a = some o' → LO o' vs' → RepAll P vs' g' → g'.Perm g → HeapFrom O i g' → Q .none s') :
    wpAny (model prog w) A (call (.ref 186) [.ref a, .int i ti, .int pos tp]) Q E s := by
  refine enter (binds := [(Str.ofString "heap", .ref a), (Str.ofString "startpos", .int i ti), (Str.ofString "pos", .int pos tp)]) X (fun _ _ e => e) hP hA.lt (a := 186) rfl (by kernel_rfl) rfl rfl (by rfl) (by rfl) rfl rfl rfl ?_
  intro L s₁ E' F₀ env
  have F := F₀.hide ha hPa
  clear F₀
  have hA' : Rm (A.deeper env) 2 := hA.deeper
  repeat kspl_open e
  obtain ⟨x, hx⟩ : ∃ x, vs[pos]? = some x := ⟨_, List.getElem?_eq_getElem hpos⟩
  refine z_item (hl.isList (mu0 F)) rfl (sl_of hsz) hx ?_ rfl
  repeat kspl_open e
  refine x_while fun E₂ => ?_
  refine codeAny_mono (R := SdR O ⟨s, hid s.heap a, P⟩ P L a vs g i x) ?_ ?_
  rotate_left
  · rintro r s' ⟨k, m', o', vs', g', t', rfl, F', hl', hr', hlen, hk, hh, hpm, m1, m2, m4⟩
    try dsimp only
    with_reducible refine x_asgS ?_ rfl
    repeat kspl_open e
    refine z_setM F' hl' rfl (by lia) (by lia) fun s₃ o₃ hl₃ F₃ => ?_
    repeat kspl_open e
    exact h _ _ _ _ F₃.tail.ret (mu0 F₃) hl₃ hr' hpm hh
  refine codeAny_whileLoop (SdI O ⟨s, hid s.heap a, P⟩ P L a vs g i x ti) ?_ pos ?_
  · rintro k s' ⟨m', o', vs', g', t', F', hl', hr', hlen, hk, hde, hup, hpm, m1, m2, m3, m4⟩
    repeat kspl_open e
    by_cases hki : i < k
    · rw [if_pos (by simpa using hki)]
      repeat kspl_open e
      refine z_shr1 (by assumption) fun t₃ s₃ F₃ => ?_
      have hpk : ((k : Int) - 1) / 2 = ((par k : Nat) : Int) := by unfold par; lia
      have hpl := par_lt (k := k) (by lia)
      rw [hpk]
      repeat kspl_open e
      obtain ⟨y, hy⟩ : ∃ y, vs'[par k]? = some y := ⟨_, List.getElem?_eq_getElem (by lia)⟩
      refine z_item (i := par k) (hl'.isList (mu0 ‹_›)) rfl (sl_of (by lia)) hy ?_ rfl
      repeat kspl_open e
      obtain ⟨d1, hd1, hr1⟩ := hr'.getV (i := k) (v := x) (List.getElem?_set_self (by lia))
      obtain ⟨d2, hd2, hr2⟩ := hr'.getV (i := par k) (v := y) (by rw [List.getElem?_set_ne (by lia)]; exact hy)
      have hD' : AllD O g' := hD.perm hpm
      refine R (hA'.mono (by decide)) (hD'.get hd1) (hD'.get hd2) (by assumption) hr1 hr2 fun s₅ F₅ => ?_
      repeat kspl_open e
      have hip : i ≤ par k := by
        cases hde with
        | refl => exact absurd hki (Nat.lt_irrefl _)
        | step _ h2 => exact h2.le
      by_cases hlt : O.lt d1 d2 = true
      · rw [if_pos hlt]
        with_reducible refine x_asgS ?_ rfl
        repeat kspl_open e
        refine z_setM F₅ hl' rfl (by lia) (by lia) fun s₆ o₆ hl₆ F₆ => ?_
        repeat kspl_open e
        refine ⟨par k, hpl, _, o₆, vs'.set k y, swp g' (par k) k, t₃, ‹_›, hl₆, ?_, by simpa using hlen, by lia, ?_, hup.step hD' hki hip hd1 hd2 hlt, (swp_perm _ _ _).trans hpm, ?_, ?_, ?_, ?_⟩
        · rw [← swp_hole (by lia) (by lia) hy]; exact hr'.swp _ _
        · cases hde with
          | refl => exact absurd hki (Nat.lt_irrefl _)
          | step _ h2 => exact h2
        · exact if_pos rfl
        · exact m2
        · exact m3
        · exact m4
      · rw [if_neg hlt]
        repeat kspl_open e
        refine ⟨k, _, o', vs', g', t', rfl, F₅, hl', hr', hlen, hk, hup.done fun _ _ a b ea eb => ?_, hpm, ?_, ?_, ?_⟩
        · rw [hd2] at ea; rw [hd1] at eb; cases ea; cases eb
          unfold Le; simpa using hlt
        · exact m1
        · exact m2
        · exact m4
    · rw [if_neg (by simpa using hki)]
      repeat kspl_open e
      have := hde.le
      obtain rfl : k = i := by lia
      refine ⟨k, _, o', vs', g', t', rfl, ‹_›, hl', hr', hlen, hk, hup.done fun h1 h2 => absurd h2 (by have := par_lt h1; lia), hpm, m1, m2, m4⟩
  · refine ⟨_, o, vs, g, tp, ‹_›, hl, ?_, rfl, hpos, hdesc, hu, .refl _, rfl, rfl, rfl, rfl⟩
    rw [List.set_getElem?_self' hx]; exact hr
theorem siftup_max_spec {O : Ord3 PyData} (R : GtRule prog w O) {a : Addr} {o : Obj} {vs : List Value} {g : List PyData} {i : Nat} {ti : Tok} (X : Bs w mb P) (hP : P.on s.heap) (hA : Rm A 5)
    (ha : s.heap.get? a = some o) (hPa : P a = none) (hl : LO o vs) (hr : RepAll P vs g) (hD : AllD O g) (hsz : vs.length ≤ 10000) (hpos : i < vs.length) (hu : HeapFrom O (i + 1) g)
    (h : ∀ s' o' vs' g', Ret ⟨s, hid s.heap a, P⟩ P s' → s'.heap.get? a = some o' → LO o' vs' → RepAll P vs' g' → g'.Perm g → HeapFrom O i g' → Q .none s') :
    wpAny (model prog w) A (call (.ref 193) [.ref a, .int i ti]) Q E s := by
  refine enter (binds := [(Str.ofString "heap", .ref a), (Str.ofString "pos", .int i ti)]) X (fun _ _ e => e) hP hA.lt (a := 193) rfl (by kernel_rfl) rfl rfl (by rfl) (by rfl) rfl rfl rfl ?_
  intro L s₁ E' F₀ env
  have F := F₀.hide ha hPa
  clear F₀
  have hA' : Rm (A.deeper env) 4 := hA.deeper
  repeat kspl_open e
  refine z_len (by assumption) (hl.isList (mu0 F)) (sl_of hsz) fun tn s₂ F₂ => ?_
  repeat kspl_open e
  obtain ⟨x, hx⟩ : ∃ x, vs[i]? = some x := ⟨_, List.getElem?_eq_getElem hpos⟩
  refine z_item (hl.isList (mu0 ‹_›)) rfl (sl_of hsz) hx ?_ rfl
  repeat kspl_open e
  refine z_mul2 (by assumption) (.of_left (by decide)) fun t₃ s₃ F₃ => ?_
  repeat kspl_open e
  refine x_while fun E₂ => ?_
  refine codeAny_mono (R := SuR O ⟨s, hid s.heap a, P⟩ P L a vs g i x ti) ?_ ?_
  rotate_left
  · rintro r s' ⟨k, m', o', vs', g', rfl, F', hl', hr', hlen, hk, hde, hh, hpm, ⟨t', m1⟩, m2, m4, m5⟩
    try dsimp only
    with_reducible refine x_asgS ?_ rfl
    repeat kspl_open e
    refine z_setM F' hl' rfl (by lia) (by lia) fun s₃ o₃ hl₃ F₃ => ?_
    repeat kspl_open e
    refine ⟨F₃.K X, siftdown_max_spec R X F₃.on (hA'.mono (by decide)) (mu0 F₃) (F₃.off _ (.head _)).2.1 hl₃ hr' (hD.perm hpm) (by rw [List.length_set]; lia) (by rw [List.length_set]; lia) hde hh fun s₄ o₄ vs₄ g₄ R₄ h1 h2 h3 h4 h5 => ⟨rfl, ?_⟩⟩
    have F₄ := F₃.callM R₄ h1 (F₃.off _ (.head _)).2.1
    repeat kspl_open e
    exact h _ _ _ _ F₄.tail.ret (mu0 F₄) h2 h3 (h4.trans hpm) h5
  refine codeAny_whileLoop (SuI O ⟨s, hid s.heap a, P⟩ P L a vs g i x ti tn) ?_ (vs.length - i) ?_
  · rintro j s' ⟨k, m', o', vs', g', rfl, F', hl', hr', hlen, hk, hde, hdn, hpm, ⟨t', m1⟩, m2, m3, m4, ⟨t'', m5⟩, m6⟩
    have hgl : g'.length = vs.length := by rw [← hr'.length, List.length_set, hlen]
    repeat kspl_open e
    by_cases hc : 2 * k + 1 < vs.length
    · rw [if_pos (by rw [decide_eq_true_eq]; lia)]
      repeat kspl_open e
      have hik := hde.le
      have hD' : AllD O g' := hD.perm hpm
      obtain ⟨d0, hd0, hr0⟩ := hr'.getV (i := k) (v := x) (List.getElem?_set_self (by lia))
      obtain ⟨y1, hy1⟩ : ∃ y, vs'[2 * k + 1]? = some y := ⟨_, List.getElem?_eq_getElem (by lia)⟩
      obtain ⟨d1, hd1, hr1⟩ := hr'.getV (i := 2 * k + 1) (v := y1) (by rw [List.getElem?_set_ne (by lia)]; exact hy1)
      by_cases hc2 : 2 * k + 2 < vs.length
      · rw [if_pos (by rw [decide_eq_true_eq]; lia)]
        repeat kspl_open e
        obtain ⟨y2, hy2⟩ : ∃ y, vs'[2 * k + 2]? = some y := ⟨_, List.getElem?_eq_getElem (by lia)⟩
        obtain ⟨d2, hd2, hr2⟩ := hr'.getV (i := 2 * k + 2) (v := y2) (by rw [List.getElem?_set_ne (by lia)]; exact hy2)
        refine z_item (i := 2 * k + 2) (hl'.isList (mu0 ‹_›)) (by lia) (sl_of (by lia)) hy2 ?_ rfl
        repeat kspl_open e
        refine z_item (i := 2 * k + 1) (hl'.isList (mu0 ‹_›)) rfl (sl_of (by lia)) hy1 ?_ rfl
        repeat kspl_open e
        refine R (hA'.mono (by decide)) (hD'.get hd1) (hD'.get hd2) (by assumption) hr1 hr2 fun s₅ F₅ => ?_
        repeat kspl_open e
        cases hlt : O.lt d1 d2 with
        | true =>
          rw [if_neg (by decide)]
          repeat kspl_open e
          with_reducible refine x_asgS ?_ rfl
          repeat kspl_open e
          refine z_item (i := 2 * k + 1) (hl'.isList (mu0 ‹_›)) (by lia) (sl_of (by lia)) hy1 ?_ rfl
          repeat kspl_open e
          refine z_setM (by assumption) hl' rfl (by lia) (by lia) fun s₆ o₆ hl₆ F₆ => ?_
          repeat kspl_open e
          refine z_mul2 (by assumption) (.of_left (by decide)) fun t₇ s₇ F₇ => ?_
          repeat kspl_open e
          refine ⟨vs.length - (2 * k + 1), by lia, 2 * k + 1, _, o₆, vs'.set k y1, swp g' k (2 * k + 1), rfl, ‹_›, hl₆, ?_, by simpa using hlen, by lia, .step (by lia) ?_, hdn.step ?_ (by lia) hik hd0 hd1 ?_, (swp_perm _ _ _).trans hpm, ?_, ?_, ?_, ?_, ?_, ?_⟩
          · rw [← swp_hole' (by lia) (by lia) hy1]; exact hr'.swp _ _
          · rw [show par (2 * k + 1) = k by unfold par; lia]; exact hde
          · unfold par; lia
          · intro j b h1 h2 h3 h4
            obtain rfl : j = 2 * k + 2 := by unfold par at h2; lia
            rw [hd2] at h4; cases h4
            exact Le.of_lt (hD'.get hd1) (hD'.get hd2) hlt
          · exact ⟨_, rfl⟩
          · exact m2
          · exact m3
          · exact m4
          · exact ⟨_, congrArg (fun z => some (Value.int z _)) (by lia)⟩
          · exact m6
        | false =>
          rw [if_pos (by decide)]
          repeat kspl_open e
          with_reducible refine x_asgS ?_ rfl
          repeat kspl_open e
          refine z_item (i := 2 * k + 2) (hl'.isList (mu0 ‹_›)) (by lia) (sl_of (by lia)) hy2 ?_ rfl
          repeat kspl_open e
          refine z_setM (by assumption) hl' rfl (by lia) (by lia) fun s₆ o₆ hl₆ F₆ => ?_
          repeat kspl_open e
          refine z_mul2 (by assumption) (.of_left (by decide)) fun t₇ s₇ F₇ => ?_
          repeat kspl_open e
          refine ⟨vs.length - (2 * k + 2), by lia, 2 * k + 2, _, o₆, vs'.set k y2, swp g' k (2 * k + 2), rfl, ‹_›, hl₆, ?_, by simpa using hlen, by lia, .step (by lia) ?_, hdn.step ?_ (by lia) hik hd0 hd2 ?_, (swp_perm _ _ _).trans hpm, ?_, ?_, ?_, ?_, ?_, ?_⟩
          · rw [← swp_hole' (by lia) (by lia) hy2]; exact hr'.swp _ _
          · rw [show par (2 * k + 2) = k by unfold par; lia]; exact hde
          · unfold par; lia
          · intro j b h1 h2 h3 h4
            obtain rfl : j = 2 * k + 1 := by unfold par at h2; lia
            rw [hd1] at h4; cases h4
            exact hlt
          · exact ⟨_, congrArg (fun z => some (Value.int z _)) (show ((2 * k + 1 : Nat) : Int) + 1 = ((2 * k + 2 : Nat) : Int) by lia)⟩
          · exact m2
          · exact m3
          · exact m4
          · exact ⟨_, congrArg (fun z => some (Value.int z _)) (by lia)⟩
          · exact m6
      · rw [if_neg (by rw [decide_eq_true_eq]; lia)]
        repeat kspl_open e
        try dsimp only
        with_reducible refine x_asgS ?_ rfl
        repeat kspl_open e
        refine z_item (i := 2 * k + 1) (hl'.isList (mu0 ‹_›)) (by lia) (sl_of (by lia)) hy1 ?_ rfl
        repeat kspl_open e
        refine z_setM (by assumption) hl' rfl (by lia) (by lia) fun s₆ o₆ hl₆ F₆ => ?_
        repeat kspl_open e
        refine z_mul2 (by assumption) (.of_left (by decide)) fun t₇ s₇ F₇ => ?_
        repeat kspl_open e
        refine ⟨vs.length - (2 * k + 1), by lia, 2 * k + 1, _, o₆, vs'.set k y1, swp g' k (2 * k + 1), rfl, ‹_›, hl₆, ?_, by simpa using hlen, by lia, .step (by lia) ?_, hdn.step ?_ (by lia) hik hd0 hd1 ?_, (swp_perm _ _ _).trans hpm, ?_, ?_, ?_, ?_, ?_, ?_⟩
        · rw [← swp_hole' (by lia) (by lia) hy1]; exact hr'.swp _ _
        · rw [show par (2 * k + 1) = k by unfold par; lia]; exact hde
        · unfold par; lia
        · intro j b h1 h2 h3 h4
          have := (List.getElem?_eq_some_iff.mp h4).1
          unfold par at h2; lia
        · exact ⟨_, rfl⟩
        · exact m2
        · exact m3
        · exact m4
        · exact ⟨_, congrArg (fun z => some (Value.int z _)) (by lia)⟩
        · exact m6
    · rw [if_neg (by rw [decide_eq_true_eq]; lia)]
      repeat kspl_open e
      exact ⟨k, _, o', vs', g', rfl, ‹_›, hl', hr', hlen, hk, hde, hdn.up (by lia), hpm, ⟨t', m1⟩, m2, m3, m4⟩
  · refine ⟨i, _, o, vs, g, rfl, ‹_›, hl, ?_, rfl, hpos, .refl, hu.down, .refl _, ⟨_, rfl⟩, rfl, rfl, rfl, ⟨_, rfl⟩, rfl⟩
    rw [List.set_getElem?_self' hx]; exact hr
end
end
section
open PySem PySem.W PyProof.Rows
open Builtin Builtin.Str
set_option autoImplicit false
set_option linter.unusedVariables false
set_option maxRecDepth 100000
set_option maxHeartbeats 1000000
section
variable {prog : Program} {w : World} {mb : Str → Option Value} {A : Around} {E : Value → Shared → Prop} {s : Shared} {P : Part} {Q : Value → Shared → Prop} {env : Env}
variable {c : Cx} {L : Addr} {m : Str → Option Value} {M : List (Addr × Obj)}
theorem call_range_reversed {r : Addr} {b : Int} {t u v : Tok} {Q : Value → Shared → Prop} (hr : s.heap.get? r = some (rng 0 b 1 t u v)) (hb : 0 ≤ b) (hb2 : b < 1000000)
    (h : Q (.ref s.heap.objs.size) { s with heap := s.heap.push { cls := .type "range_iterator", data := .fields #[rawInt (b - 1), rawInt b, rawInt (-1)] } }) : wpAny (model prog w) A (call (.builtin "range.__reversed__") [.ref r]) Q E s := by
  have hT : s.TypeIs (.ref r) "range" := ⟨_, hr, rfl⟩
  refine wpAny_call_entry F.slot_range_reversed hT F.entry_range_reversed ?_ (F.args_range_reversed_1 _)
  unfold Builtin.«range.__reversed__»
  refine wpAny_bind (wpAny_of_eq (a := Value.ref r) rfl ?_)
  refine wpAny_bind ?_
  unfold Builtin.Range.rangeFields
  refine wpAny_bind (wpAny_field hr rfl (x := .int 0 t) rfl ?_)
  refine wpAny_bind (wpAny_of_eq (a := some 0) rfl ?_)
  refine wpAny_bind (wpAny_field hr rfl (x := .int b u) rfl ?_)
  refine wpAny_bind (wpAny_of_eq (a := some b) rfl ?_)
  refine wpAny_bind (wpAny_field hr rfl (x := .int 1 v) rfl ?_)
  refine wpAny_bind (wpAny_of_eq (a := some 1) rfl ?_)
  dsimp only
  refine wpAny_pure ?_
  dsimp only
  have e1 : Range.rangeSize 0 b 1 = b := by rw [rangeSize_nat]; lia
  have e2 : (Range.rangeFitsLong 0 && Range.rangeFitsLong b && Range.rangeFitsLong 1 && Range.rangeFitsLong (-1) && Range.rangeFitsLong (0 - 1) && Range.rangeFitsLong b) = true := by
    unfold Range.rangeFitsLong; simp; lia
  rw [e1, e2]
  rw [if_neg (by decide), if_pos rfl]
  refine wpAny_bind (wpAny_newObj_type (wpAny_pure ⟨_, rfl, ?_⟩))
  rw [show (0 : Int) + (b - 1) * 1 = b - 1 by lia]
  exact h
theorem code_reversed_range {r : Addr} {b : Int} {t u v : Tok} {Q₁ : Value → Shared → Prop} (hr : s.heap.get? r = some (rng 0 b 1 t u v)) (hb : 0 ≤ b) (hb2 : b < 1000000)
    (h : Q₁ (.ref s.heap.objs.size) { s with heap := s.heap.push { cls := .type "range_iterator", data := .fields #[rawInt (b - 1), rawInt b, rawInt (-1)] } }) :
    codeAny (model prog w) A (.call (.builtin "reversed.__new__") ⟨[.type "reversed", .ref r], []⟩) (wants Q₁ E) s := by
  have hT : s.TypeIs (.ref r) "range" := ⟨_, hr, rfl⟩
  refine codeAny_of_tree ?_
  show wpAny _ A.in1 (do checkBuiltinCall "reversed.__new__" ⟨[.type "reversed", .ref r], []⟩; again (.builtin "reversed.__new__" ⟨[.type "reversed", .ref r], []⟩)) _ _ s
  refine wpAny_bind (wpAny_of_eq (F.newCall_reversed_1 _) (wpAny_pure ⟨plainId_quiet F.plain_reversed_new _, codeAny_builtin F.entry_reversed_new ?_⟩))
  rw [Around.under_plainId F.plain_reversed_new _]
  unfold Builtin.«reversed.__new__»
  refine wpAny_bind (wpAny_of_eq (newClass_reversed _) ?_)
  dsimp only
  refine wpAny_bind (wpAny_of_eq (a := ()) (by first | rfl | kernel_rfl) ?_)
  refine wpAny_bind (wpAny_of_eq (a := ()) (by first | rfl | kernel_rfl) ?_)
  refine wpAny_bind (wpAny_specialOf hT F.slot_range_reversed.lookup ?_)
  dsimp only
  refine wpAny_bind (wpAny_of_eq (F.slot_range_reversed.bind _) ?_)
  dsimp only
  rw [if_neg (show ¬ ((Value.builtin "range.__reversed__" == Value.none) = true) from Bool.false_ne_true)]
  refine wpAny_bind (wpAny_rule ?_)
  refine wpAny_bind (m := runValue (.call (.builtin "range.__reversed__") ⟨[.ref r], []⟩)) (show wpAny _ _ (call (.builtin "range.__reversed__") [.ref r]) _ _ _ from call_range_reversed hr hb hb2 ?_)
  first
  | exact wpAny_pure h
  | exact wpAny_bind (wpAny_pure (wpAny_pure h))
theorem sub_ri_reversed : isSubtype (.type "range_iterator") (.type "reversed") = pure false := by rw [isSubtype_type]; kernel_rfl
theorem call_reversed_range {r : Addr} {b : Int} {t u v : Tok} {Q : Value → Shared → Prop} (hr : s.heap.get? r = some (rng 0 b 1 t u v)) (hb : 0 ≤ b) (hb2 : b < 1000000)
    (h : Q (.ref s.heap.objs.size) { s with heap := s.heap.push { cls := .type "range_iterator", data := .fields #[rawInt (b - 1), rawInt b, rawInt (-1)] } }) : wpAny (model prog w) A (call (.type "reversed") [.ref r]) Q E s := by
  refine callType_other (U := "range_iterator") (Q₁ := fun obj s₁ => obj = .ref s.heap.objs.size ∧ s₁ = { s with heap := s.heap.push { cls := .type "range_iterator", data := .fields #[rawInt (b - 1), rawInt b, rawInt (-1)] } }) (by decide +kernel) F.create_reversed ⟨_, _, F.mro_reversed⟩
    F.made_reversed sub_ri_reversed (F.typeCall_reversed_1 _) (code_reversed_range hr hb hb2 ⟨rfl, rfl⟩) ?_
  rintro obj s₁ ⟨rfl, rfl⟩
  exact ⟨⟨_, Heap.get?_push_size _ rfl, rfl⟩, h⟩
/-- for i in reversed(range(b)) -/
theorem iter_rev {R : Result → Shared → Prop} {body : List Stmt} {r : Addr} {b : Int} {t u v : Tok} {x : Str} {px : Pos} (F : Fm c P L m M s) (h : P r = some (rng 0 b 1 t u v)) (hb : 0 ≤ b) (hb2 : b < 1000000)
    (hA : A.handled = none) (J : Nat → Part → (Str → Option Value) → List (Addr × Obj) → Prop) (hJ : J 0 P m M)
    (turn : ∀ (i : Nat) t P' m' M' I oI s' E', i < b.toNat → P.le P' → J i P' m' M' → Fm c P' L m' ((I, oI) :: M') s' →
      wpAny (model prog w) A (assign (.Name x px) env (.int (b - 1 - (i : Int)) t)) (fun _ s₂ =>
        wpAny (model prog w) A (execs body env) (Tn c P' L I oI J i R) E' s₂) E' s')
    (done : ∀ P' m' M' s', P.le P' → J b.toNat P' m' M' → Fm c P' L m' M' s' → R (.ok .next) s') :
    wpAny (model prog w) A (call (.type "reversed") [.ref r]) (fun v s₁ => wpAny (model prog w) A (pyIter v) (fun it s₂ => codeAny (model prog w) A (.forLoop (.Name x px) it body [] env) R s₂) E s₁) E s := by
  refine call_reversed_range (F.on _ _ h) hb hb2 ?_
  have W := Walks.range (prog := prog) (w := w) hA s.heap.objs.size (b - 1) (-1) b.toNat
  have st : IsRangeIter (s.heap.push { cls := .type "range_iterator", data := .fields #[rawInt (b - 1), rawInt b, rawInt (-1)] }) s.heap.objs.size (b - 1 + ((0 : Nat) : Int) * (-1)) ((b.toNat : Int) - ((0 : Nat) : Int)) (-1) := by
    show (s.heap.push _).get? _ = _
    rw [Heap.get?_push_size _ rfl, show b - 1 + ((0 : Nat) : Int) * (-1) = b - 1 by lia, show (b.toNat : Int) - ((0 : Nat) : Int) = b by lia]
  refine W.self 0 _ _ _ st ?_
  refine loop_for W (fun i h hst => ⟨_, hst⟩) (fun b hb => .inl (List.mem_singleton.mp hb)) J (F.allocM _) st hJ (fun i v P' m' M' oI s' E' hi hv hle hj F' => ?_) done
  obtain ⟨t, rfl⟩ := hv
  rw [show b - 1 + (i : Int) * (-1) = b - 1 - (i : Int) by lia]
  exact wpAny_pure (turn i t P' m' M' _ oI s' E' hi hle hj F')
inductive HpJ (O : Ord3 PyData) (a : Addr) (vs : List Value) (g : List PyData) (i : Nat) (P' : Part) (m' : Str → Option Value) (M' : List (Addr × Obj)) : Prop
  | mk : ∀ o' vs' g', M' = [(a, o')] → LO o' vs' → RepAll P' vs' g' → vs'.length = vs.length → g'.Perm g → HeapFrom O (vs.length / 2 - i) g' → m' "x" = some (.ref a) → HpJ O a vs g i P' m' M'
theorem heapify_spec {O : Ord3 PyData} (R : LtRule prog w O) {a : Addr} {o : Obj} {vs : List Value} {g : List PyData} (X : Bs w mb P) (hP : P.on s.heap) (hA : Rm A 7)
    (ha : s.heap.get? a = some o) (hPa : P a = none) (hl : LO o vs) (hr : RepAll P vs g) (hD : AllD O g) (hsz : vs.length ≤ 10000)
    (h : ∀ P' s' o' vs' g', P.le P' → Ret ⟨s, hid s.heap a, P⟩ P' s' → s'.heap.get? a = some o' → P' a = none → LO o' vs' → RepAll P' vs' g' → g'.Perm g → HeapFrom O 0 g' → Q .none s') :
    wpAny (model prog w) A (call (.ref 151) [.ref a]) Q E s := by
  refine enter (binds := [(Str.ofString "x", .ref a)]) X (fun _ _ e => e) hP hA.lt (a := 151) rfl (by kernel_rfl) rfl rfl (by rfl) (by rfl) rfl rfl rfl ?_
  intro L s₁ E' F₀ env
  have F := F₀.hide ha hPa
  clear F₀
  have hA' : Rm (A.deeper env) 6 := hA.deeper
  repeat kspl_open e
  refine z_len (by assumption) (hl.isList (mu0 F)) (sl_of hsz) fun tn s₂ F₂ => ?_
  repeat kspl_open e
  kspl_open fo
  repeat kspl_open e
  refine z_range1 (by assumption) fun r P₂ s₃ t₃ u₃ v₃ hle₂ hr₂ F₃ => ?_
  repeat kspl_open e
  have hlen := hr.length
  refine iter_rev (by assumption) hr₂ (by lia) (by lia) hA'.handled (HpJ O a vs g)
    ⟨o, vs, g, rfl, hl, hr.mono hle₂, rfl, .refl _, .of_big (by lia), rfl⟩ ?_ ?_
  · rintro i t P' m' M' I oI s' E'' hi hle ⟨o', vs', g', rfl, hl', hr', hlen', hpm, hh, hm⟩ F'
    rw [show (vs.length : Int) / 2 - 1 - (i : Int) = ((vs.length / 2 - 1 - i : Nat) : Int) by lia]
    refine as_name F' rfl rfl rfl fun s₄ F₄ => ?_
    kspl_open exp
    repeat kspl_open e
    have X' := (X.mono hle₂).mono hle
    have F₅ := Fm.swap (by assumption)
    refine ⟨F₅.K X, siftup_spec R X' F₅.on (hA'.mono (by decide)) (mu0 F₅) (F₅.off _ (.head _)).2.1 hl' hr' (hD.perm hpm) (by lia) (by lia) ?_ fun s₆ o₆ vs₆ g₆ R₆ h1 h2 h3 h4 h5 => ⟨rfl, ?_⟩⟩
    · rw [show vs.length / 2 - 1 - i + 1 = vs.length / 2 - i by lia]; exact hh
    have F₆ := (F₅.callM R₆ h1 (F₅.off _ (.head _)).2.1).swap
    repeat kspl_open e
    refine ⟨P', _, _, Part.le_refl _, F₆, o₆, vs₆, g₆, rfl, h2, h3, ?_, h4.trans hpm, ?_, ?_⟩
    · rw [h3.length, h4.length_eq, ← hr'.length, hlen']
    · rw [show vs.length / 2 - (i + 1) = vs.length / 2 - 1 - i by lia]; exact h5
    · exact hm
  · rintro P' m' M' s' hle ⟨o', vs', g', rfl, hl', hr', hlen', hpm, hh, hm⟩ F'
    repeat kspl_open e
    refine h P' _ o' vs' g' (Part.le_trans hle₂ hle) F'.tail.ret (mu0 F') (F'.off _ (.head _)).2.1 hl' hr' hpm ?_
    rw [show vs.length / 2 - ((vs.length : Int) / 2).toNat = 0 by lia] at hh
    exact hh
end
end
section
open PySem PySem.W PyProof.Rows
open Builtin Builtin.Str
set_option autoImplicit false
set_option linter.unusedVariables false
set_option maxRecDepth 100000
set_option maxHeartbeats 1000000
section
variable {prog : Program} {w : World} {mb : Str → Option Value} {A : Around} {E : Value → Shared → Prop} {s : Shared} {P : Part} {Q : Value → Shared → Prop} {env : Env}
variable {c : Cx} {L : Addr} {m : Str → Option Value} {M : List (Addr × Obj)}
theorem erase_last {vs : List Value} : (vs.toArray.eraseIdxIfInBounds (vs.toArray.size - 1)) = vs.dropLast.toArray := by
  apply Array.toList_inj.mp
  rw [Array.toList_eraseIdxIfInBounds]
  simp [List.eraseIdx_length_sub_one]
theorem LO.get {a : Addr} {o : Obj} {vs : List Value} {name : Str} {id : String} {pl : Sem Bool} {Q : Value × List Value → Shared → Prop} (hl : LO o vs) (ho : s.heap.get? a = some o) (slot : Slot "list" name id) (ty : typeOf (.builtin id) = pure (.type "method_descriptor"))
    (h : Q (.builtin id, [.ref a]) s) : wpAny (model prog w) A (getMethod (.ref a) name pl) Q E s :=
by
  obtain ⟨n, rfl⟩ := hl
  exact meth_list ho slot ty h
theorem z_popM {a : Addr} {o : Obj} {vs : List Value} {y : Value} {pos : Pos} (F : Fm c P L m ((a, o) :: M) s) (hl : LO o vs) (hy : vs.getLast? = some y) (hsz : vs.length ≤ 10000)
    (h : ∀ s' o', LO o' vs.dropLast → Fm c P L m ((a, o') :: M) s' → Q y s') : wpAny (model prog w) A (callWith pos (.builtin "list.pop") [.ref a] (backTo pos (starEach [] env)) []) Q E s := by
  obtain ⟨n, rfl⟩ := hl
  have ho : IsL s.heap a vs.toArray n := mu0 F
  have up := IsL.update ho (fun xs => xs.eraseIdxIfInBounds (vs.toArray.size - 1))
  have key := h _ (lst vs.dropLast.toArray _) ⟨_, rfl⟩ (F.upd0 (tk := s.toks) (by rw [erase_last] at up; exact up) (Heap.SameBut.extBut (Heap.SameBut.update ..)))
  exact _root_.PySem.P.pop_list ho (y := y) (by simpa [List.getLast?_eq_getElem?] using hy) key (sl_of (by simpa using hsz))
theorem Fm.it (F : Fm c P L m M s) : Fm c P L m M s := F
theorem heappop_spec {O : Ord3 PyData} (R : LtRule prog w O) {a : Addr} {o : Obj} {vs : List Value} {g : List PyData} (X : Bs w mb P) (hP : P.on s.heap) (hA : Rm A 7)
    (ha : s.heap.get? a = some o) (hPa : P a = none) (hl : LO o vs) (hr : RepAll P vs g) (hD : AllD O g) (hsz : vs.length ≤ 10000) (hne : g ≠ []) (hh : HeapFrom O 0 g)
    (h : ∀ v d s' o' vs' g', Ret ⟨s, hid s.heap a, P⟩ P s' → s'.heap.get? a = some o' → LO o' vs' → RepAll P vs' g' → Rep P v d → (d :: g').Perm g → (∀ b ∈ g', Le O d b) → HeapFrom O 0 g' → Q v s') :
    wpAny (model prog w) A (call (.ref 144) [.ref a]) Q E s := by
  refine enter (binds := [(Str.ofString "heap", .ref a)]) X (fun _ _ e => e) hP hA.lt (a := 144) rfl (by kernel_rfl) rfl rfl (by rfl) (by rfl) rfl rfl rfl ?_
  intro L s₁ E' F₀ env
  have F := F₀.hide ha hPa
  clear F₀
  have hA' : Rm (A.deeper env) 6 := hA.deeper
  have hlen := hr.length
  have hg0 : 0 < g.length := List.length_pos_iff.mpr hne
  obtain ⟨y, hy⟩ : ∃ y, vs.getLast? = some y := by
    cases e : vs.getLast? with
    | none => rw [List.getLast?_eq_none_iff] at e; rw [e] at hlen; simp at hlen; lia
    | some y => exact ⟨y, rfl⟩
  obtain ⟨dl, hdl, hrl⟩ := hr.getV (i := vs.length - 1) (v := y) (by rw [← List.getLast?_eq_getElem?]; exact hy)
  rw [hlen, ← List.getLast?_eq_getElem?] at hdl
  have hgs : g = g.dropLast ++ [dl] := by
    obtain ⟨ys, e⟩ := List.getLast?_eq_some_iff.mp hdl
    rw [e, List.dropLast_concat]
  have hr₂ : RepAll P vs.dropLast g.dropLast := by rw [List.dropLast_eq_take, List.dropLast_eq_take, hlen]; exact hr.take _
  repeat kspl_open e
  refine hl.get (mu0 F) PySem.F.slot_list_pop PySem.F.type_list_pop ?_
  refine z_popM (by assumption) hl hy hsz fun s₂ o₂ hl₂ F₂ => ?_
  repeat kspl_open e
  refine z_tl (by assumption) (hl₂.isList (mu0 ‹_›)) (sl_of (by rw [List.length_dropLast]; lia)) fun s₃ F₃ => ?_
  repeat kspl_open e
  have hvl : vs.dropLast.length = g.dropLast.length := hr₂.length
  have hvl2 : vs.dropLast.length + 1 = vs.length := by rw [List.length_dropLast]; lia
  have hh₂ : HeapFrom O 0 g.dropLast := HeapFrom.last (x := dl) (by rw [← hgs]; exact hh)
  by_cases hemp : g.dropLast = []
  · have hv0 : vs.dropLast = [] := by rw [hemp] at hvl; exact List.length_eq_zero_iff.mp (by simpa using hvl)
    rw [if_neg (by rw [hv0]; simp)]
    repeat kspl_open e
    have F₄ := Fm.it (by assumption)
    refine h y dl _ o₂ vs.dropLast g.dropLast F₄.tail.ret (mu0 F₄) hl₂ hr₂ hrl ?_ ?_ hh₂
    · rw [hemp]; rw [hemp] at hgs; rw [hgs]; exact .refl _
    · rw [hemp]; intro b hb; cases hb
  · obtain ⟨d0, rest, hd0⟩ : ∃ d0 rest, g.dropLast = d0 :: rest := by
      cases e : g.dropLast with
      | nil => exact absurd e hemp
      | cons a b => exact ⟨a, b, rfl⟩
    have hv1 : 0 < vs.dropLast.length := by rw [hvl, hd0]; simp
    rw [if_pos (by
      cases e : vs.dropLast with
      | nil => rw [e] at hv1; simp at hv1
      | cons a b => simp)]
    repeat kspl_open e
    obtain ⟨y0, hy0, hr0⟩ := hr₂.get (i := 0) (d := d0) (by rw [hd0]; rfl)
    refine z_item (i := 0) (hl₂.isList (mu0 ‹_›)) rfl (sl_of (by lia)) hy0 ?_ rfl
    repeat kspl_open e
    with_reducible refine x_asgS ?_ rfl
    repeat kspl_open e
    refine z_setM (i := 0) (by assumption) hl₂ rfl hv1 (by lia) fun s₅ o₅ hl₅ F₅ => ?_
    repeat kspl_open e
    have F₆ := Fm.it (by assumption)
    have hg₅ : g.dropLast.set 0 dl = dl :: rest := by rw [hd0]; rfl
    have hpm : (d0 :: dl :: rest).Perm g := by
      rw [hgs, hd0]
      exact (List.Perm.cons _ ((List.perm_append_comm (l₁ := rest) (l₂ := [dl])).symm))
    have hD₅ : AllD O (g.dropLast.set 0 dl) := by
      rw [hg₅]
      intro b hb
      exact hD b (hpm.mem_iff.mp (.tail _ hb))
    refine ⟨F₆.K X, siftup_spec R (i := 0) X F₆.on (hA'.mono (by decide)) (mu0 F₆) (F₆.off _ (.head _)).2.1 hl₅ (hr₂.set (i := 0) hrl) hD₅ (by rw [List.length_set]; lia) (by rw [List.length_set]; lia) hh₂.set0 fun s₇ o₇ vs₇ g₇ R₇ h1 h2 h3 h4 h5 => ⟨rfl, ?_⟩⟩
    have F₇ := F₆.callM R₇ h1 (F₆.off _ (.head _)).2.1
    repeat kspl_open e
    rw [hg₅] at h4
    have hp₂ : (d0 :: g₇).Perm g := (h4.cons _).trans hpm
    refine h y0 d0 _ o₇ vs₇ g₇ F₇.tail.ret (mu0 F₇) h2 h3 hr0 hp₂ (fun b hb => ?_) h5
    have hb' : b ∈ g := hp₂.mem_iff.mp (.tail _ hb)
    obtain ⟨k, hk, hkb⟩ := List.getElem_of_mem hb'
    have h0 : g[0]? = some d0 := by rw [hgs, hd0]; rfl
    exact hh.min hD h0 k b (by rw [List.getElem?_eq_getElem hk, hkb])
end
end
section
open PySem PySem.W PyProof.Rows
open Builtin Builtin.Str
set_option autoImplicit false
set_option linter.unusedVariables false
set_option maxRecDepth 100000
set_option maxHeartbeats 1000000
section
variable {prog : Program} {w : World} {mb : Str → Option Value} {A : Around} {E : Value → Shared → Prop} {s : Shared} {P : Part} {Q : Value → Shared → Prop} {env : Env}
variable {c : Cx} {L : Addr} {m : Str → Option Value} {M : List (Addr × Obj)}
theorem heapify_max_spec {O : Ord3 PyData} (R : GtRule prog w O) {a : Addr} {o : Obj} {vs : List Value} {g : List PyData} (X : Bs w mb P) (hP : P.on s.heap) (hA : Rm A 7)
    (ha : s.heap.get? a = some o) (hPa : P a = none) (hl : LO o vs) (hr : RepAll P vs g) (hD : AllD O g) (hsz : vs.length ≤ 10000)
    (h : ∀ P' s' o' vs' g', P.le P' → Ret ⟨s, hid s.heap a, P⟩ P' s' → s'.heap.get? a = some o' → P' a = none → LO o' vs' → RepAll P' vs' g' → g'.Perm g → HeapFrom O 0 g' → Q .none s') :
    wpAny (model prog w) A (call (.ref 165) [.ref a]) Q E s := by
  refine enter (binds := [(Str.ofString "x", .ref a)]) X (fun _ _ e => e) hP hA.lt (a := 165) rfl (by kernel_rfl) rfl rfl (by rfl) (by rfl) rfl rfl rfl ?_
  intro L s₁ E' F₀ env
  have F := F₀.hide ha hPa
  clear F₀
  have hA' : Rm (A.deeper env) 6 := hA.deeper
  repeat kspl_open e
  refine z_len (by assumption) (hl.isList (mu0 F)) (sl_of hsz) fun tn s₂ F₂ => ?_
  repeat kspl_open e
  kspl_open fo
  repeat kspl_open e
  refine z_range1 (by assumption) fun r P₂ s₃ t₃ u₃ v₃ hle₂ hr₂ F₃ => ?_
  repeat kspl_open e
  have hlen := hr.length
  refine iter_rev (by assumption) hr₂ (by lia) (by lia) hA'.handled (HpJ O a vs g)
    ⟨o, vs, g, rfl, hl, hr.mono hle₂, rfl, .refl _, .of_big (by lia), rfl⟩ ?_ ?_
  · rintro i t P' m' M' I oI s' E'' hi hle ⟨o', vs', g', rfl, hl', hr', hlen', hpm, hh, hm⟩ F'
    rw [show (vs.length : Int) / 2 - 1 - (i : Int) = ((vs.length / 2 - 1 - i : Nat) : Int) by lia]
    refine as_name F' rfl rfl rfl fun s₄ F₄ => ?_
    kspl_open exp
    repeat kspl_open e
    have X' := (X.mono hle₂).mono hle
    have F₅ := Fm.swap (by assumption)
    refine ⟨F₅.K X, siftup_max_spec R X' F₅.on (hA'.mono (by decide)) (mu0 F₅) (F₅.off _ (.head _)).2.1 hl' hr' (hD.perm hpm) (by lia) (by lia) ?_ fun s₆ o₆ vs₆ g₆ R₆ h1 h2 h3 h4 h5 => ⟨rfl, ?_⟩⟩
    · rw [show vs.length / 2 - 1 - i + 1 = vs.length / 2 - i by lia]; exact hh
    have F₆ := (F₅.callM R₆ h1 (F₅.off _ (.head _)).2.1).swap
    repeat kspl_open e
    refine ⟨P', _, _, Part.le_refl _, F₆, o₆, vs₆, g₆, rfl, h2, h3, ?_, h4.trans hpm, ?_, ?_⟩
    · rw [h3.length, h4.length_eq, ← hr'.length, hlen']
    · rw [show vs.length / 2 - (i + 1) = vs.length / 2 - 1 - i by lia]; exact h5
    · exact hm
  · rintro P' m' M' s' hle ⟨o', vs', g', rfl, hl', hr', hlen', hpm, hh, hm⟩ F'
    repeat kspl_open e
    refine h P' _ o' vs' g' (Part.le_trans hle₂ hle) F'.tail.ret (mu0 F') (F'.off _ (.head _)).2.1 hl' hr' hpm ?_
    rw [show vs.length / 2 - ((vs.length : Int) / 2).toNat = 0 by lia] at hh
    exact hh
theorem heappop_max_spec {O : Ord3 PyData} (R : GtRule prog w O) {a : Addr} {o : Obj} {vs : List Value} {g : List PyData} (X : Bs w mb P) (hP : P.on s.heap) (hA : Rm A 7)
    (ha : s.heap.get? a = some o) (hPa : P a = none) (hl : LO o vs) (hr : RepAll P vs g) (hD : AllD O g) (hsz : vs.length ≤ 10000) (hne : g ≠ []) (hh : HeapFrom O 0 g)
    (h : ∀ v d s' o' vs' g', Ret ⟨s, hid s.heap a, P⟩ P s' → s'.heap.get? a = some o' → LO o' vs' → RepAll P vs' g' → Rep P v d → (d :: g').Perm g → (∀ b ∈ g', Le O d b) → HeapFrom O 0 g' → Q v s') :
    wpAny (model prog w) A (call (.ref 158) [.ref a]) Q E s := by
  refine enter (binds := [(Str.ofString "heap", .ref a)]) X (fun _ _ e => e) hP hA.lt (a := 158) rfl (by kernel_rfl) rfl rfl (by rfl) (by rfl) rfl rfl rfl ?_
  intro L s₁ E' F₀ env
  have F := F₀.hide ha hPa
  clear F₀
  have hA' : Rm (A.deeper env) 6 := hA.deeper
  have hlen := hr.length
  have hg0 : 0 < g.length := List.length_pos_iff.mpr hne
  obtain ⟨y, hy⟩ : ∃ y, vs.getLast? = some y := by
    cases e : vs.getLast? with
    | none => rw [List.getLast?_eq_none_iff] at e; rw [e] at hlen; simp at hlen; lia
    | some y => exact ⟨y, rfl⟩
  obtain ⟨dl, hdl, hrl⟩ := hr.getV (i := vs.length - 1) (v := y) (by rw [← List.getLast?_eq_getElem?]; exact hy)
  rw [hlen, ← List.getLast?_eq_getElem?] at hdl
  have hgs : g = g.dropLast ++ [dl] := by
    obtain ⟨ys, e⟩ := List.getLast?_eq_some_iff.mp hdl
    rw [e, List.dropLast_concat]
  have hr₂ : RepAll P vs.dropLast g.dropLast := by rw [List.dropLast_eq_take, List.dropLast_eq_take, hlen]; exact hr.take _
  repeat kspl_open e
  refine hl.get (mu0 F) PySem.F.slot_list_pop PySem.F.type_list_pop ?_
  refine z_popM (by assumption) hl hy hsz fun s₂ o₂ hl₂ F₂ => ?_
  repeat kspl_open e
  refine z_tl (by assumption) (hl₂.isList (mu0 ‹_›)) (sl_of (by rw [List.length_dropLast]; lia)) fun s₃ F₃ => ?_
  repeat kspl_open e
  have hvl : vs.dropLast.length = g.dropLast.length := hr₂.length
  have hvl2 : vs.dropLast.length + 1 = vs.length := by rw [List.length_dropLast]; lia
  have hh₂ : HeapFrom O 0 g.dropLast := HeapFrom.last (x := dl) (by rw [← hgs]; exact hh)
  by_cases hemp : g.dropLast = []
  · have hv0 : vs.dropLast = [] := by rw [hemp] at hvl; exact List.length_eq_zero_iff.mp (by simpa using hvl)
    rw [if_neg (by rw [hv0]; simp)]
    repeat kspl_open e
    have F₄ := Fm.it (by assumption)
    refine h y dl _ o₂ vs.dropLast g.dropLast F₄.tail.ret (mu0 F₄) hl₂ hr₂ hrl ?_ ?_ hh₂
    · rw [hemp]; rw [hemp] at hgs; rw [hgs]; exact .refl _
    · rw [hemp]; intro b hb; cases hb
  · obtain ⟨d0, rest, hd0⟩ : ∃ d0 rest, g.dropLast = d0 :: rest := by
      cases e : g.dropLast with
      | nil => exact absurd e hemp
      | cons a b => exact ⟨a, b, rfl⟩
    have hv1 : 0 < vs.dropLast.length := by rw [hvl, hd0]; simp
    rw [if_pos (by
      cases e : vs.dropLast with
      | nil => rw [e] at hv1; simp at hv1
      | cons a b => simp)]
    repeat kspl_open e
    obtain ⟨y0, hy0, hr0⟩ := hr₂.get (i := 0) (d := d0) (by rw [hd0]; rfl)
    refine z_item (i := 0) (hl₂.isList (mu0 ‹_›)) rfl (sl_of (by lia)) hy0 ?_ rfl
    repeat kspl_open e
    with_reducible refine x_asgS ?_ rfl
    repeat kspl_open e
    refine z_setM (i := 0) (by assumption) hl₂ rfl hv1 (by lia) fun s₅ o₅ hl₅ F₅ => ?_
    repeat kspl_open e
    have F₆ := Fm.it (by assumption)
    have hg₅ : g.dropLast.set 0 dl = dl :: rest := by rw [hd0]; rfl
    have hpm : (d0 :: dl :: rest).Perm g := by
      rw [hgs, hd0]
      exact (List.Perm.cons _ ((List.perm_append_comm (l₁ := rest) (l₂ := [dl])).symm))
    have hD₅ : AllD O (g.dropLast.set 0 dl) := by
      rw [hg₅]
      intro b hb
      exact hD b (hpm.mem_iff.mp (.tail _ hb))
    refine ⟨F₆.K X, siftup_max_spec R (i := 0) X F₆.on (hA'.mono (by decide)) (mu0 F₆) (F₆.off _ (.head _)).2.1 hl₅ (hr₂.set (i := 0) hrl) hD₅ (by rw [List.length_set]; lia) (by rw [List.length_set]; lia) hh₂.set0 fun s₇ o₇ vs₇ g₇ R₇ h1 h2 h3 h4 h5 => ⟨rfl, ?_⟩⟩
    have F₇ := F₆.callM R₇ h1 (F₆.off _ (.head _)).2.1
    repeat kspl_open e
    rw [hg₅] at h4
    have hp₂ : (d0 :: g₇).Perm g := (h4.cons _).trans hpm
    refine h y0 d0 _ o₇ vs₇ g₇ F₇.tail.ret (mu0 F₇) h2 h3 hr0 hp₂ (fun b hb => ?_) h5
    have hb' : b ∈ g := hp₂.mem_iff.mp (.tail _ hb)
    obtain ⟨k, hk, hkb⟩ := List.getElem_of_mem hb'
    have h0 : g[0]? = some d0 := by rw [hgs, hd0]; rfl
    exact hh.min hD h0 k b (by rw [List.getElem?_eq_getElem hk, hkb])
end
end
section
open PySem PySem.W PyProof.Rows
open Builtin Builtin.Str
open MeetsSeq MeetsSeq2 MeetsSeq3 SeqRoads2 SeqAt
set_option autoImplicit false
set_option linter.unusedVariables false
set_option maxRecDepth 100000
set_option maxHeartbeats 1000000
theorem drop_get {α : Type} {l : List α} {i : Nat} {x : α} {r : List α} (h : l.drop i = x :: r) : l[i]? = some x ∧ l.drop (i + 1) = r := by
  have h1 : (l.drop i)[0]? = some x := by rw [h]; rfl
  rw [List.getElem?_drop] at h1
  refine ⟨h1, ?_⟩
  have h2 : (l.drop i).drop 1 = r := by rw [h]; rfl
  rw [List.drop_drop] at h2
  exact h2
theorem drop_none {α : Type} {l : List α} {i : Nat} (h : l.drop i = []) : l[i]? = none := by
  rw [List.getElem?_eq_none_iff]; exact List.drop_eq_nil_iff.mp h
theorem drop_size {items : Array Value} {i : Nat} (h : items.toList.drop i = []) : items.size ≤ i := by
  have := List.drop_eq_nil_iff.mp h; rwa [Array.length_toList] at this
theorem drop_size' {items : Array Value} {i : Nat} {v : Value} {vs : List Value} (h : items.toList.drop i = v :: vs) : i < items.size ∧ items[((i : Nat) : Int).toNat]? = some v := by
  have h1 := (drop_get h).1
  have h2 := (List.getElem?_eq_some_iff.mp h1).1
  rw [Array.length_toList] at h2
  exact ⟨h2, by rw [Int.toNat_natCast, ← Array.getElem?_toList]; exact h1⟩
theorem z_items {prog : Program} {w : World} {A : Around} {E : Value → Shared → Prop} {s : Shared} {l : Addr} {items : Array Value} {n : Nat} {Q : Array Value → Shared → Prop} (hl : s.heap.get? l = some (lst items n)) (h : Q items s) :
    wpAny (model prog w) A (Builtin.List.listItems (.ref l)) Q E s := by
  unfold Builtin.List.listItems
  exact wpAny_bind (wpAny_seqItems hl rfl (wpAny_pure h))
noncomputable def LtAt (A : Around) (s : Shared) (y x : Value) (b : Bool) : Prop :=
  ∀ (prog : Program) (w : World) (E : Value → Shared → Prop) (Q : Value → Shared → Prop), Q (.bool b) s → wpAny (model prog w) A (richCompare .Lt y x) Q E s
inductive LtV (A : Around) (s : Shared) : List Value → List Value → Bool → Prop
  | nil {ws : List Value} : LtV A s [] ws (!ws.isEmpty)
  | nil2 {v : Value} {vs : List Value} : LtV A s (v :: vs) [] false
  | eq {v u : Value} {vs ws : List Value} {b : Bool} : EqAt A s v u true → LtV A s vs ws b → LtV A s (v :: vs) (u :: ws) b
  | ne {v u : Value} {vs ws : List Value} {b : Bool} : EqAt A s v u false → LtAt A s v u b → LtV A s (v :: vs) (u :: ws) b
theorem list_lt_loop {prog : Program} {w : World} {A : Around} {R : Result → Shared → Prop} {s : Shared} (l b : Addr) (items items2 : Array Value) (n n2 : Nat) (r : Bool) (vs ws : List Value) (hl : s.heap.get? l = some (lst items n)) (hb : s.heap.get? b = some (lst items2 n2))
    (hv : LtV A.in1 s vs ws r) (h : R (.ok (.ret (.bool r))) s) :
    ∀ i : Nat, items.toList.drop i = vs → items2.toList.drop i = ws → i ≤ items.size → i ≤ items2.size → codeAny (model prog w) A (.builtin "list.__eq__.loop" ⟨[.ref l, .ref b, rawInt i, rawInt 0], []⟩) R s := by
  induction hv with
  | @nil ws =>
    intro i h1 h2 hi hi2
    refine codeAny_builtin entry_eq_loop ?_
    unfold Builtin.«list.__eq__.loop»
    dsimp only [rawInt]
    refine wpAny_bind (z_items hl (wpAny_bind (z_items hb ?_)))
    have g1 : items[((i : Nat) : Int).toNat]? = none := by have := drop_none h1; rw [Int.toNat_natCast]; simpa using this
    rw [g1]
    refine wpAny_bind (z_items hl (wpAny_bind (z_items hb (wpAny_pure ?_))))
    have s1 := drop_size h1
    have e : (!ws.isEmpty) = decide (items.size < items2.size) := by
      cases ws with
      | nil => have := drop_size h2; simp; lia
      | cons w ws => have := (drop_size' h2).1; simp; lia
    rw [e] at h; exact h
  | nil2 =>
    intro i h1 h2 hi hi2
    refine codeAny_builtin entry_eq_loop ?_
    unfold Builtin.«list.__eq__.loop»
    dsimp only [rawInt]
    refine wpAny_bind (z_items hl (wpAny_bind (z_items hb ?_)))
    have g2 : items2[((i : Nat) : Int).toNat]? = none := by have := drop_none h2; rw [Int.toNat_natCast]; simpa using this
    have g1 := drop_size' h1
    rw [g1.2, g2]
    refine wpAny_bind (z_items hl (wpAny_bind (z_items hb (wpAny_pure ?_))))
    have s2 := drop_size h2
    have e : false = decide (items.size < items2.size) := by
      simp; lia
    rw [e] at h; exact h
  | @eq v u vs ws b' e _ ih =>
    intro i h1 h2 hi hi2
    refine codeAny_builtin entry_eq_loop ?_
    rw [Around.under_plainId plain_eq_loop _]
    unfold Builtin.«list.__eq__.loop»
    dsimp only [rawInt]
    refine wpAny_bind (z_items hl (wpAny_bind (z_items hb ?_)))
    have g1 := drop_size' h1
    have g2 := drop_size' h2
    rw [g1.2, g2.2]
    refine wpAny_bind (e prog w _ _ ?_)
    exact wpAny_pure ⟨plainId_quiet plain_eq_loop _, ih h (i + 1) (drop_get h1).2 (drop_get h2).2 g1.1 g2.1⟩
  | @ne v u vs ws b' e lt =>
    intro i h1 h2 hi hi2
    refine codeAny_builtin entry_eq_loop ?_
    rw [Around.under_plainId plain_eq_loop _]
    unfold Builtin.«list.__eq__.loop»
    dsimp only [rawInt]
    refine wpAny_bind (z_items hl (wpAny_bind (z_items hb ?_)))
    have g1 := drop_size' h1
    have g2 := drop_size' h2
    rw [g1.2, g2.2]
    refine wpAny_bind (e prog w _ _ ?_)
    refine wpAny_bind (z_items hl (wpAny_bind (z_items hb ?_)))
    rw [g1.2, g2.2]
    exact wpAny_bind (lt prog w _ _ (wpAny_pure h))
theorem list_lt (l b : Addr) (items items2 : Array Value) (n n2 : Nat) (r : Bool) :
    Meets (Builtin.«list.__lt__» ⟨[.ref l, .ref b], []⟩)
      (fun A R s => s.heap.get? l = some (lst items n) ∧ s.heap.get? b = some (lst items2 n2) ∧ LtV A.in1 s items.toList items2.toList r ∧ R (.ok (.ret (.bool r))) s) := by
  rintro prog w A R s ⟨hl, hb, hv, h⟩
  have hT : s.TypeIs (.ref b) "list" := ⟨_, hb, rfl⟩
  unfold Builtin.«list.__lt__»
  refine wpAny_bind (wpAny_pure ?_)
  refine wpAny_bind (wpAny_isInstance hT AutoSeq1.sub_list_list ?_)
  exact wpAny_pure ⟨plainId_quiet plain_eq_loop _, list_lt_loop l b items items2 n n2 r _ _ hl hb hv h 0 rfl rfl (Nat.zero_le _) (Nat.zero_le _)⟩
theorem lists_lt {prog : Program} {w : World} {A : Around} {E : Value → Shared → Prop} {s : Shared} {Q : Value → Shared → Prop} {l b : Addr} {vs us : List Value} {n n2 : Nat} {r : Bool} (hl : s.heap.get? l = some (lst vs.toArray n)) (hb : s.heap.get? b = some (lst us.toArray n2)) (hu : A.units < cLine)
    (hv : LtV A.in1 s vs us r) (h : Q (.bool r) s) : wpAny (model prog w) A (compareOp .Lt (.ref l) (.ref b)) Q E s :=
  richCompare_meets_room (op := .Lt) ⟨_, hl, rfl⟩ ⟨_, hb, rfl⟩ F.slot_list_lt F.entry_list_lt (F.args_list_lt_2 _ _) (list_lt l b vs.toArray us.toArray n n2 r)
    ⟨hl, hb, hv, show Value.bool r ≠ Value.notImplemented ∧ Q (.bool r) s from ⟨(fun x => nomatch x), h⟩⟩ hu
noncomputable def GtAt (A : Around) (s : Shared) (y x : Value) (b : Bool) : Prop :=
  ∀ (prog : Program) (w : World) (E : Value → Shared → Prop) (Q : Value → Shared → Prop), Q (.bool b) s → wpAny (model prog w) A (richCompare .Gt y x) Q E s
inductive GtV (A : Around) (s : Shared) : List Value → List Value → Bool → Prop
  | nil {ws : List Value} : GtV A s [] ws false
  | nil2 {v : Value} {vs : List Value} : GtV A s (v :: vs) [] true
  | eq {v u : Value} {vs ws : List Value} {b : Bool} : EqAt A s v u true → GtV A s vs ws b → GtV A s (v :: vs) (u :: ws) b
  | ne {v u : Value} {vs ws : List Value} {b : Bool} : EqAt A s v u false → GtAt A s v u b → GtV A s (v :: vs) (u :: ws) b
theorem list_gt_loop {prog : Program} {w : World} {A : Around} {R : Result → Shared → Prop} {s : Shared} (l b : Addr) (items items2 : Array Value) (n n2 : Nat) (r : Bool) (vs ws : List Value) (hl : s.heap.get? l = some (lst items n)) (hb : s.heap.get? b = some (lst items2 n2))
    (hv : GtV A.in1 s vs ws r) (h : R (.ok (.ret (.bool r))) s) :
    ∀ i : Nat, items.toList.drop i = vs → items2.toList.drop i = ws → i ≤ items.size → i ≤ items2.size → codeAny (model prog w) A (.builtin "list.__eq__.loop" ⟨[.ref l, .ref b, rawInt i, rawInt 4], []⟩) R s := by
  induction hv with
  | @nil ws =>
    intro i h1 h2 hi hi2
    refine codeAny_builtin entry_eq_loop ?_
    unfold Builtin.«list.__eq__.loop»
    dsimp only [rawInt]
    refine wpAny_bind (z_items hl (wpAny_bind (z_items hb ?_)))
    have g1 : items[((i : Nat) : Int).toNat]? = none := by have := drop_none h1; rw [Int.toNat_natCast]; simpa using this
    rw [g1]
    refine wpAny_bind (z_items hl (wpAny_bind (z_items hb (wpAny_pure ?_))))
    have s1 := drop_size h1
    have e : false = decide (items.size > items2.size) := by
      rw [eq_comm, decide_eq_false_iff_not]; lia
    rw [e] at h; exact h
  | nil2 =>
    intro i h1 h2 hi hi2
    refine codeAny_builtin entry_eq_loop ?_
    unfold Builtin.«list.__eq__.loop»
    dsimp only [rawInt]
    refine wpAny_bind (z_items hl (wpAny_bind (z_items hb ?_)))
    have g2 : items2[((i : Nat) : Int).toNat]? = none := by have := drop_none h2; rw [Int.toNat_natCast]; simpa using this
    have g1 := drop_size' h1
    rw [g1.2, g2]
    refine wpAny_bind (z_items hl (wpAny_bind (z_items hb (wpAny_pure ?_))))
    have s2 := drop_size h2
    have e : true = decide (items.size > items2.size) := by
      have := g1.1; rw [eq_comm, decide_eq_true_iff]; lia
    rw [e] at h; exact h
  | @eq v u vs ws b' e _ ih =>
    intro i h1 h2 hi hi2
    refine codeAny_builtin entry_eq_loop ?_
    rw [Around.under_plainId plain_eq_loop _]
    unfold Builtin.«list.__eq__.loop»
    dsimp only [rawInt]
    refine wpAny_bind (z_items hl (wpAny_bind (z_items hb ?_)))
    have g1 := drop_size' h1
    have g2 := drop_size' h2
    rw [g1.2, g2.2]
    refine wpAny_bind (e prog w _ _ ?_)
    exact wpAny_pure ⟨plainId_quiet plain_eq_loop _, ih h (i + 1) (drop_get h1).2 (drop_get h2).2 g1.1 g2.1⟩
  | @ne v u vs ws b' e lt =>
    intro i h1 h2 hi hi2
    refine codeAny_builtin entry_eq_loop ?_
    rw [Around.under_plainId plain_eq_loop _]
    unfold Builtin.«list.__eq__.loop»
    dsimp only [rawInt]
    refine wpAny_bind (z_items hl (wpAny_bind (z_items hb ?_)))
    have g1 := drop_size' h1
    have g2 := drop_size' h2
    rw [g1.2, g2.2]
    refine wpAny_bind (e prog w _ _ ?_)
    refine wpAny_bind (z_items hl (wpAny_bind (z_items hb ?_)))
    rw [g1.2, g2.2]
    exact wpAny_bind (lt prog w _ _ (wpAny_pure h))
theorem list_gt (l b : Addr) (items items2 : Array Value) (n n2 : Nat) (r : Bool) :
    Meets (Builtin.«list.__gt__» ⟨[.ref l, .ref b], []⟩)
      (fun A R s => s.heap.get? l = some (lst items n) ∧ s.heap.get? b = some (lst items2 n2) ∧ GtV A.in1 s items.toList items2.toList r ∧ R (.ok (.ret (.bool r))) s) := by
  rintro prog w A R s ⟨hl, hb, hv, h⟩
  have hT : s.TypeIs (.ref b) "list" := ⟨_, hb, rfl⟩
  unfold Builtin.«list.__gt__»
  refine wpAny_bind (wpAny_pure ?_)
  refine wpAny_bind (wpAny_isInstance hT AutoSeq1.sub_list_list ?_)
  exact wpAny_pure ⟨plainId_quiet plain_eq_loop _, list_gt_loop l b items items2 n n2 r _ _ hl hb hv h 0 rfl rfl (Nat.zero_le _) (Nat.zero_le _)⟩
theorem lists_gt {prog : Program} {w : World} {A : Around} {E : Value → Shared → Prop} {s : Shared} {Q : Value → Shared → Prop} {l b : Addr} {vs us : List Value} {n n2 : Nat} {r : Bool} (hl : s.heap.get? l = some (lst vs.toArray n)) (hb : s.heap.get? b = some (lst us.toArray n2)) (hu : A.units < cLine)
    (hv : GtV A.in1 s vs us r) (h : Q (.bool r) s) : wpAny (model prog w) A (compareOp .Gt (.ref l) (.ref b)) Q E s :=
  richCompare_meets_room (op := .Gt) ⟨_, hl, rfl⟩ ⟨_, hb, rfl⟩ F.slot_list_gt F.entry_list_gt (F.args_list_gt_2 _ _) (list_gt l b vs.toArray us.toArray n n2 r)
    ⟨hl, hb, hv, show Value.bool r ≠ Value.notImplemented ∧ Q (.bool r) s from ⟨(fun x => nomatch x), h⟩⟩ hu
end
section
open PySem PySem.W PyProof.Rows
open Builtin Builtin.Str
open MeetsSeq MeetsSeq2 MeetsSeq3 SeqRoads2 SeqAt
set_option autoImplicit false
set_option linter.unusedVariables false
set_option maxRecDepth 100000
set_option maxHeartbeats 1000000
theorem tuple_lt (l b : Addr) (items items2 : Array Value) (n n2 : Nat) (r : Bool) :
    Meets (Builtin.«tuple.__lt__» ⟨[.ref l, .ref b], []⟩)
      (fun A R s => s.heap.get? l = some (tpl items n) ∧ s.heap.get? b = some (tpl items2 n2) ∧ LtV A.in1 s items.toList items2.toList r ∧ R (.ok (.ret (.bool r))) s) :=
  .of_wp fun prog w A R s h => by
    obtain ⟨hp, g, d, tk, os⟩ := s; obtain ⟨hl, hb, he, h⟩ := h
    have f2 := AutoSeq1.sub_tuple_tuple
    wp_walk using wpAny_loadPart' hl, wpAny_loadPart' hb, wpAny_forIn_list _ (fun rest b s' => b.1 = none ∧ s' = ⟨hp, g, d, tk, os⟩ ∧ ∃ vs ws, rest = vs.zip ws ∧ LtV A.in1 ⟨hp, g, d, tk, os⟩ vs ws r ∧ vs.length + items2.size = ws.length + items.size) _
    case turn =>
      rintro ⟨y, x⟩ rest b s' ⟨hb', rfl, vs, ws, hz, hv, hlen⟩
      cases hv with
      | nil => cases hz
      | nil2 => cases hz
      | eq e hv' =>
        obtain ⟨⟨⟩, rfl⟩ := List.cons.inj hz
        refine wpAny_bind (e prog w _ _ ?_)
        wp_walk
        exact ⟨rfl, rfl, _, _, rfl, hv', by simp only [List.length_cons] at hlen; lia⟩
      | ne e lt =>
        obtain ⟨⟨⟩, rfl⟩ := List.cons.inj hz
        refine wpAny_bind (e prog w _ _ ?_)
        rw [if_pos (by decide)]
        refine wpAny_bind (wpAny_rule (wpAny_bind (lt prog w _ _ ?_)))
        refine wpAny_bind (wpAny_pure (wpAny_pure ?_))
        exact wpAny_pure ⟨_, rfl, h⟩
    case fin =>
      rintro ⟨b1, b2⟩ s' ⟨hb', rfl, vs, ws, hz, hv, hlen⟩
      simp only at hb'
      subst hb'
      wp_walk
      refine ⟨_, rfl, ?_⟩
      have e : r = decide (items.size < items2.size) := by
        cases hv with
        | @nil ws =>
          cases ws with
          | nil => simp only [List.length_nil] at hlen; simp; lia
          | cons w ws => simp only [List.length_nil, List.length_cons] at hlen; simp; lia
        | nil2 => simp only [List.length_nil, List.length_cons] at hlen; simp; lia
        | eq _ _ => cases hz
        | ne _ _ => cases hz
      rw [e] at h
      exact h
    case h =>
      exact ⟨rfl, rfl, _, _, rfl, he, by simp; lia⟩
theorem tuples_lt {prog : Program} {w : World} {A : Around} {E : Value → Shared → Prop} {s : Shared} {Q : Value → Shared → Prop} {l b : Addr} {vs us : List Value} {n n2 : Nat} {r : Bool} (hl : s.heap.get? l = some (tpl vs.toArray n)) (hb : s.heap.get? b = some (tpl us.toArray n2)) (hu : A.units < cLine)
    (hv : LtV A.in1 s vs us r) (h : Q (.bool r) s) : wpAny (model prog w) A (compareOp .Lt (.ref l) (.ref b)) Q E s :=
  richCompare_meets_room (op := .Lt) ⟨_, hl, rfl⟩ ⟨_, hb, rfl⟩ F.slot_tuple_lt F.entry_tuple_lt (F.args_tuple_lt_2 _ _) (tuple_lt l b vs.toArray us.toArray n n2 r)
    ⟨hl, hb, hv, show Value.bool r ≠ Value.notImplemented ∧ Q (.bool r) s from ⟨(fun x => nomatch x), h⟩⟩ hu
theorem LtAt.str {A : Around} {s : Shared} (x y : Str) (t u : Tok) : LtAt A s (.str x t) (.str y u) (decide (x.cps.toList < y.cps.toList)) := fun prog w E Q h => _root_.PySem.P.lt_str h
theorem LtAt.int {A : Around} {s : Shared} (x y : Int) (t u : Tok) : LtAt A s (.int x t) (.int y u) (decide (x < y)) := fun prog w E Q h => _root_.PySem.P.lt_int h
/-- rows of names in order -/
noncomputable def ltRows : List (List Nat) → List (List Nat) → Bool
  | [], ys => !ys.isEmpty
  | _ :: _, [] => false
  | x :: xs, y :: ys => if x = y then ltRows xs ys else decide (x < y)
theorem LtV.strs {A : Around} {s : Shared} : ∀ (l k : List (Str × Tok)), LtV A s (strValues l) (strValues k) (ltRows (l.map fun p => cp p.1) (k.map fun p => cp p.1))
  | [], k => by
    have : (!(k.map fun p => cp p.1).isEmpty) = !(strValues k).isEmpty := by cases k <;> rfl
    show LtV A s [] (strValues k) (!(k.map fun p => cp p.1).isEmpty)
    rw [this]; exact .nil
  | _ :: _, [] => .nil2
  | (x, t) :: l, (y, u) :: k => by
    have e : ((x == y) = true) ↔ cp x = cp y := by
      rw [← str_beq]
      exact beq_iff_eq
    show LtV A s (.str x t :: strValues l) (.str y u :: strValues k) (if cp x = cp y then ltRows (l.map fun p => cp p.1) (k.map fun p => cp p.1) else decide (cp x < cp y))
    by_cases h : cp x = cp y
    · rw [if_pos h]
      exact .eq (by have := EqAt.str_str (A := A) (s := s) x t y u; rwa [e.mpr h] at this) (LtV.strs l k)
    · rw [if_neg h]
      exact .ne (by
        have := EqAt.str_str (A := A) (s := s) x t y u
        rwa [show (x == y) = false from by cases hb : (x == y) with
          | false => rfl
          | true => exact absurd (e.mp hb) h] at this) (LtAt.str x y t u)
noncomputable def lt3 (a b : Int × Int × Int) : Bool := if a.1 = b.1 then (if a.2.1 = b.2.1 then decide (a.2.2 < b.2.2) else decide (a.2.1 < b.2.1)) else decide (a.1 < b.1)
theorem EqAt.int' {A : Around} {s : Shared} {x y : Int} {t u : Tok} {b : Bool} (h : (x == y) = b) : EqAt A s (.int x t) (.int y u) b := h ▸ EqAt.int_int x t y u
theorem LtV.ints3 {A : Around} {s : Shared} (a b : Int × Int × Int) (t1 t2 t3 u1 u2 u3 : Tok) :
    LtV A s [.int a.1 t1, .int a.2.1 t2, .int a.2.2 t3] [.int b.1 u1, .int b.2.1 u2, .int b.2.2 u3] (lt3 a b) := by
  unfold lt3
  by_cases h1 : a.1 = b.1
  · rw [if_pos h1]
    refine .eq (EqAt.int' (by simpa using h1)) ?_
    by_cases h2 : a.2.1 = b.2.1
    · rw [if_pos h2]
      refine .eq (EqAt.int' (by simpa using h2)) ?_
      by_cases h3 : a.2.2 = b.2.2
      · rw [decide_eq_false (by lia)]
        exact .eq (EqAt.int' (by simpa using h3)) .nil
      · exact .ne (EqAt.int' (by simpa using h3)) (LtAt.int _ _ _ _)
    · rw [if_neg h2]
      exact .ne (EqAt.int' (by simpa using h2)) (LtAt.int _ _ _ _)
  · rw [if_neg h1]
    exact .ne (EqAt.int' (by simpa using h1)) (LtAt.int _ _ _ _)
theorem GtAt.str {A : Around} {s : Shared} (x y : Str) (t u : Tok) : GtAt A s (.str x t) (.str y u) (decide (y.cps.toList < x.cps.toList)) := fun prog w E Q h => _root_.PySem.P.gt_str h
theorem GtV.strs {A : Around} {s : Shared} : ∀ (l k : List (Str × Tok)), GtV A s (strValues l) (strValues k) (ltRows (k.map fun p => cp p.1) (l.map fun p => cp p.1))
  | [], [] => .nil
  | [], _ :: _ => .nil
  | _ :: _, [] => .nil2
  | (x, t) :: l, (y, u) :: k => by
    have e : ((x == y) = true) ↔ cp y = cp x := by
      rw [← str_beq]
      exact beq_iff_eq.trans eq_comm
    show GtV A s (.str x t :: strValues l) (.str y u :: strValues k) (if cp y = cp x then ltRows (k.map fun p => cp p.1) (l.map fun p => cp p.1) else decide (cp y < cp x))
    by_cases h : cp y = cp x
    · rw [if_pos h]
      exact .eq (by have := EqAt.str_str (A := A) (s := s) x t y u; rwa [e.mpr h] at this) (GtV.strs l k)
    · rw [if_neg h]
      exact .ne (by
        have := EqAt.str_str (A := A) (s := s) x t y u
        rwa [show (x == y) = false from by cases hb : (x == y) with
          | false => rfl
          | true => exact absurd (e.mp hb) h] at this) (GtAt.str x y t u)
end
section
open PySem PySem.W PyProof.Rows
open Builtin Builtin.Str
set_option autoImplicit false
set_option linter.unusedVariables false
set_option maxRecDepth 100000
set_option maxHeartbeats 1000000
theorem nat_lists_tr {a b c : List Nat} (h1 : ¬ b < a) (h2 : ¬ c < b) : ¬ c < a := by
  rw [List.not_lt] at *
  exact List.le_trans h1 h2
noncomputable def strLt : PyData → PyData → Bool
  | .str x, .str y => decide (cp x < cp y)
  | _, _ => false
noncomputable def oStr : Ord3 PyData where
  D := fun d => ∃ x, d = .str x
  lt := strLt
  tr := by
    rintro _ _ _ ⟨x, rfl⟩ ⟨y, rfl⟩ ⟨z, rfl⟩ h1 h2
    simp only [strLt, decide_eq_false_iff_not] at *
    exact nat_lists_tr h1 h2
  as := by
    rintro _ _ ⟨x, rfl⟩ ⟨y, rfl⟩ h1
    simp only [strLt, decide_eq_false_iff_not, decide_eq_true_eq] at *
    exact List.lt_asymm h1
theorem ltRule_str (prog : Program) (w : World) : LtRule prog w oStr := by
  rintro A E s c P L m M v1 v2 _ _ Q hA ⟨x, rfl⟩ ⟨y, rfl⟩ F r1 r2 h
  obtain ⟨t, rfl⟩ := r1.str_inv
  obtain ⟨u, rfl⟩ := r2.str_inv
  exact z_lts (h _ F)
noncomputable def tri (a : Int × Int × Int) : PyData := .tuple [.int a.1, .int a.2.1, .int a.2.2]
theorem lt3_iff (a b c d e f : Int) : lt3 (a, b, c) (d, e, f) = true ↔ a < d ∨ (a = d ∧ (b < e ∨ (b = e ∧ c < f))) := by
  unfold lt3
  by_cases h : a = d
  · by_cases k : b = e
    · simp [h, k]
    · simp [h, k]
  · simp [h]
noncomputable def triOf : PyData → Option (Int × Int × Int)
  | .tuple [.int a, .int b, .int c] => some (a, b, c)
  | _ => none
noncomputable def triLt (x y : PyData) : Bool := match triOf x, triOf y with
  | some a, some b => lt3 a b
  | _, _ => false
noncomputable def oTri : Ord3 PyData where
  D := fun d => ∃ x, d = tri x
  lt := triLt
  tr := by
    rintro _ _ _ ⟨⟨a1, a2, a3⟩, rfl⟩ ⟨⟨b1, b2, b3⟩, rfl⟩ ⟨⟨c1, c2, c3⟩, rfl⟩ h1 h2
    have h1 : lt3 (b1, b2, b3) (a1, a2, a3) = false := h1
    have h2 : lt3 (c1, c2, c3) (b1, b2, b3) = false := h2
    show lt3 (c1, c2, c3) (a1, a2, a3) = false
    rw [Bool.eq_false_iff, ne_eq, lt3_iff] at *
    lia
  as := by
    rintro _ _ ⟨⟨a1, a2, a3⟩, rfl⟩ ⟨⟨b1, b2, b3⟩, rfl⟩ h1
    have h1 : lt3 (a1, a2, a3) (b1, b2, b3) = true := h1
    show lt3 (b1, b2, b3) (a1, a2, a3) = false
    rw [lt3_iff] at h1
    rw [Bool.eq_false_iff, ne_eq, lt3_iff]
    lia
theorem ltRule_tri (prog : Program) (w : World) : LtRule prog w oTri := by
  rintro A E s c P L m M v1 v2 _ _ Q hA ⟨⟨a1, a2, a3⟩, rfl⟩ ⟨⟨b1, b2, b3⟩, rfl⟩ F r1 r2 h
  obtain ⟨l, vs, n, rfl, hl, q1⟩ := r1.tuple_inv
  obtain ⟨k, us, n2, rfl, hk, q2⟩ := r2.tuple_inv
  have inv : ∀ {vs : List Value} {x y z : Int}, RepAll P vs [.int x, .int y, .int z] → ∃ t1 t2 t3, vs = [.int x t1, .int y t2, .int z t3] := by
    intro vs x y z q
    cases q with | cons h1 q => cases q with | cons h2 q => cases q with | cons h3 q => cases q with | nil =>
      obtain ⟨t1, rfl⟩ := h1.int_inv
      obtain ⟨t2, rfl⟩ := h2.int_inv
      obtain ⟨t3, rfl⟩ := h3.int_inv
      exact ⟨t1, t2, t3, rfl⟩
  obtain ⟨t1, t2, t3, rfl⟩ := inv q1
  obtain ⟨u1, u2, u3, rfl⟩ := inv q2
  exact tuples_lt (F.on _ _ hl) (F.on _ _ hk) hA.cl (LtV.ints3 (a1, a2, a3) (b1, b2, b3) t1 t2 t3 u1 u2 u3) (h _ F)
end
section
open PySem PySem.W PyProof.Rows
open Builtin Builtin.Str
set_option autoImplicit false
set_option linter.unusedVariables false
set_option maxRecDepth 100000
set_option maxHeartbeats 1000000
section
variable {prog : Program} {w : World} {mb : Str → Option Value} {A : Around} {E : Value → Shared → Prop} {s : Shared} {P : Part} {Q : Value → Shared → Prop} {env : Env}
variable {c : Cx} {L : Addr} {m : Str → Option Value} {M : List (Addr × Obj)}
/-- a, b, c = a tuple of three -/
theorem as_tup3 {a : Addr} {n k : Nat} {v1 v2 v3 : Value} {x y z : Str} {px py pz pos : Pos} {Q : Unit → Shared → Prop} (F : Fm c P L m M s) (hA : A.handled = none) (ht : P a = some (tpl [v1, v2, v3].toArray n))
    (hL : env.locals = L) (hk : env.scope.kind = .function) (hx : env.kindOf x = some .local) (hy : env.kindOf y = some .local) (hz : env.kindOf z = some .local)
    (h : ∀ s', Fm c P L (fun q => if q = z then some v3 else if q = y then some v2 else if q = x then some v1 else m q) M s' → Q () s') :
    wpAny (model prog w) A (assign (.Tuple [.Name x px, .Name y py, .Name z pz] k pos) env (.ref a)) Q E s := by
  refine wpAny_assign_Tuple hA ⟨_, F.on _ _ ht, rfl, n, rfl⟩ rfl rfl fun h' he => ?_
  have F₁ := F.keeps (h' := h') (tk := s.toks) fun b o e => he b o (Nat.ne_of_lt (Heap.lt_size e)) e
  show wpAny (model prog w) A (assignInOrder [fun v => assign (.Name x px) env v, fun v => assign (.Name y py) env v, fun v => assign (.Name z pz) env v] [v1, v2, v3]) Q E _
  refine wpAny_bind (wpAny_holding (as_name F₁ hL hk hx fun s₂ F₂ => ?_))
  refine wpAny_bind (wpAny_holding (as_name F₂ hL hk hy fun s₃ F₃ => ?_))
  refine wpAny_bind (wpAny_holding (as_name F₃ hL hk hz fun s₄ F₄ => ?_))
  exact wpAny_pure (h _ F₄)
/-- a, b = a tuple of two -/
theorem as_tup2 {a : Addr} {n k : Nat} {v1 v2 : Value} {x y : Str} {px py pos : Pos} {Q : Unit → Shared → Prop} (F : Fm c P L m M s) (hA : A.handled = none) (ht : P a = some (tpl [v1, v2].toArray n))
    (hL : env.locals = L) (hk : env.scope.kind = .function) (hx : env.kindOf x = some .local) (hy : env.kindOf y = some .local)
    (h : ∀ s', Fm c P L (fun q => if q = y then some v2 else if q = x then some v1 else m q) M s' → Q () s') :
    wpAny (model prog w) A (assign (.Tuple [.Name x px, .Name y py] k pos) env (.ref a)) Q E s := by
  refine wpAny_assign_Tuple hA ⟨_, F.on _ _ ht, rfl, n, rfl⟩ rfl rfl fun h' he => ?_
  have F₁ := F.keeps (h' := h') (tk := s.toks) fun b o e => he b o (Nat.ne_of_lt (Heap.lt_size e)) e
  show wpAny (model prog w) A (assignInOrder [fun v => assign (.Name x px) env v, fun v => assign (.Name y py) env v] [v1, v2]) Q E _
  refine wpAny_bind (wpAny_holding (as_name F₁ hL hk hx fun s₂ F₂ => ?_))
  refine wpAny_bind (wpAny_holding (as_name F₂ hL hk hy fun s₃ F₃ => ?_))
  exact wpAny_pure (h _ F₃)
/-- a for over a list whose target may be a tuple -/
inductive TlI (c : Cx) (P : Part) (L a I : Addr) (vs : List Value) (J : Nat → Part → (Str → Option Value) → List (Addr × Obj) → Prop) (j : Nat) (s' : Shared) : Prop
  | mk : ∀ i P' m' M' oI', P.le P' → J i P' m' M' → Fm c P' L m' ((I, oI') :: M') s' → (s'.heap.IsListIter I a i ∧ s'.heap.IsList a vs.toArray) → i ≤ vs.length → j = vs.length + 1 - i → TlI c P L a I vs J j s'
theorem iter_listT {R : Result → Shared → Prop} {body : List Stmt} {a : Addr} {vs : List Value} {n : Nat} {elts : List Expr} {k : Nat} {tpos : Pos} (F : Fm c P L m M s) (h : P a = some (lst vs.toArray n)) (hA : A.handled = none)
    (href : ∀ v ∈ vs, ∃ t, v = .ref t) (J : Nat → Part → (Str → Option Value) → List (Addr × Obj) → Prop) (hJ : J 0 P m M)
    (turn : ∀ i v P' m' M' I oI s' E', vs[i]? = some v → P.le P' → J i P' m' M' → Fm c P' L m' ((I, oI) :: M') s' →
      wpAny (model prog w) A (assign (.Tuple elts k tpos) env v) (fun _ s₂ =>
        wpAny (model prog w) A (execs body env) (Tn c P' L I oI J i R) E' s₂) E' s')
    (done : ∀ P' m' M' s', P.le P' → J vs.length P' m' M' → Fm c P' L m' M' s' → R (.ok .next) s') :
    wpAny (model prog w) A (pyIter (.ref a)) (fun it s₂ => codeAny (model prog w) A (.forLoop (.Tuple elts k tpos) it body [] env) R s₂) E s := by
  have hl := heap_list F h
  have ha := F.on _ _ h
  refine wpAny_pyIter_list hl ?_
  have W := Walks.list (prog := prog) (w := w) hA s.heap.objs.size a (new_ne ha) vs.toArray
  rw [List.size_toArray] at W
  have hst : (s.heap.push { cls := .type "list_iterator", data := .fields #[.ref a, rawInt 0] }).IsListIter s.heap.objs.size a 0 ∧ (s.heap.push { cls := .type "list_iterator", data := .fields #[.ref a, rawInt 0] }).IsList a vs.toArray :=
    ⟨⟨_, Heap.get?_push_size _ rfl, rfl, rfl⟩, hl.at fun o e => Heap.get?_push_of_some _ e⟩
  refine codeAny_forLoop_any (TlI c P L a s.heap.objs.size vs J) ?_ (vs.length + 1)
    ⟨0, P, m, M, _, Part.le_refl _, hJ, F.allocM _, hst, Nat.zero_le _, rfl⟩
  rintro j s' ⟨i, P', m', M', oI', hle, hJi, F', hsti, hi, rfl⟩
  by_cases hlt : i < vs.length
  · refine W.item i _ _ _ hlt hsti fun v h' tk hPv hst' hk => ?_
    obtain ⟨⟨o', ho', hoc, hod⟩, _⟩ := id hst'
    have F₁ : Fm c P' L m' ((s.heap.objs.size, o') :: M') { s' with heap := h', toks := tk } := F'.upd0 ho' fun b o hb e => hk b o (by simpa using hb) e
    have hv : vs[i]? = some v := by simpa using hPv
    obtain ⟨t, rfl⟩ := href v (List.mem_of_getElem? hv)
    refine wpAny_letOwnedTupleGo_listiter hst'.1 ?_
    refine wpAny_mono (turn i _ P' m' M' _ o' _ _ hv hle hJi F₁) (fun _ s₂ h₂ => wpAny_mono h₂ (fun f s₃ h₃ => ?_) fun _ _ e => e) fun _ _ e => e
    have next : TnI c P' L s.heap.objs.size o' J i s₃ →
        ∃ m₁, m₁ < vs.length + 1 - i ∧ TlI c P L a s.heap.objs.size vs J m₁ s₃ := by
      rintro ⟨P'', m'', M'', hle'', F'', hJ''⟩
      exact ⟨vs.length + 1 - (i + 1), by omega, i + 1, P'', m'', M'', o', Part.le_trans hle hle'', hJ'', F'', ⟨⟨o', mu0 F'', hoc, hod⟩, heap_list F'' (hle'' _ _ (hle _ _ h))⟩, hlt, rfl⟩
    cases f with
    | next => exact next h₃
    | cont => exact next h₃
    | brk => exact h₃
    | ret v => exact h₃
  · have hin : i = vs.length := by omega
    subst hin
    refine W.done _ _ _ hsti fun h' tk hk => wpAny_execs_nil ?_
    exact done P' m' M' _ hle hJi (F'.tail.other (F'.off _ (.head _)).1 (F'.off _ (.head _)).2.1 (F'.off _ (.head _)).2.2 (fun p hp => ((List.pairwise_cons.mp F'.nd).1 p hp).symm) fun b o hb e => hk b o (by simpa using hb) e)
end
end
section
open PySem PySem.W PyProof.Rows
open Builtin Builtin.Str
set_option autoImplicit false
set_option linter.unusedVariables false
set_option maxRecDepth 100000
set_option maxHeartbeats 1000000
noncomputable def natD (n : Nat) : PyData := .int (n : Int)
noncomputable def triN (p : Nat × Nat × Nat) : PyData := tri ((p.1 : Int), (p.2.1 : Int), (p.2.2 : Int))
noncomputable def IsMin (M : Nat) (l : List Nat) : Prop := M ∈ l ∧ ∀ a ∈ l, M ≤ a
theorem IsMin.uniq {M M' : Nat} {l : List Nat} (h : IsMin M l) (k : IsMin M' l) : M = M' := Nat.le_antisymm (h.2 _ k.1) (k.2 _ h.1)
section
variable {prog : Program} {w : World} {mb : Str → Option Value} {A : Around} {E : Value → Shared → Prop} {s : Shared} {P : Part} {Q : Value → Shared → Prop} {env : Env}
variable {c : Cx} {L : Addr} {m : Str → Option Value} {M : List (Addr × Obj)}
theorem z_bool {b : Bool} {k : Nat} {pos : Pos} (h : Q (.bool b) s) : wpAny (model prog w) A (eval (.Constant (.bool b) k pos) env) Q E s := wpAny_pure h
theorem RepAll.ints {vs : List Value} : ∀ {ns : List Int}, RepAll P vs (ns.map .int) → IntsAre vs ns := by
  induction vs with
  | nil => intro ns h; cases ns with
    | nil => exact .nil
    | cons n ns => cases h
  | cons v vs ih =>
    intro ns h
    cases ns with
    | nil => cases h
    | cons n ns =>
      cases h with
      | cons h r =>
        obtain ⟨t, rfl⟩ := h.int_inv
        exact .cons n t (ih r)
theorem z_minl {v : Value} {ns : List Nat} (F : Fm c P L m M s) (hA : A.handled = none) (hr : Rep P v (.list (ns.map natD))) (hne : ns ≠ []) (h : ∀ k t s', IsMin k ns → Fm c P L m M s' → Q (.int (k : Int) t) s') :
    wpAny (model prog w) A (call (.builtin "min") [v]) Q E s := by
  obtain ⟨a, vs, n, rfl, ha, hr⟩ := hr.list_inv
  have e : ns.map natD = (ns.map fun n : Nat => (n : Int)).map PyData.int := by rw [List.map_map]; rfl
  rw [e] at hr
  refine min_list_N hA F.fr (news_all _ _) (heap_list F ha) hr.ints (by rw [List.length_map]; exact List.length_pos_iff.mpr hne) fun h' K t tk F' N hm hle => ?_
  obtain ⟨k, hk, rfl⟩ := List.mem_map.mp hm
  exact h k t _ ⟨hk, fun a ha => by have := hle _ (List.mem_map_of_mem ha); lia⟩ (F.of_fr F' N)
theorem law_least_spec {v1 v2 : Value} {ps : List (Nat × Nat × Nat)} {near : List Nat} (X : Bs w mb P) (hP : P.on s.heap) (hA : Rm A 3) (h1 : Rep P v1 (.list (ps.map triN))) (h2 : Rep P v2 (.list (near.map natD)))
    (hn : near.length ≤ 100) (hmin : ∀ p ∈ ps, p.2.1 < p.2.2 ∧ p.2.2 ≤ near.length ∧ IsMin p.1 ((near.drop p.2.1).take (p.2.2 - p.2.1)))
    (h : ∀ P' s', Ret ⟨s, s.heap.get?, P⟩ P' s' → Q (.bool true) s') :
    wpAny (model prog w) A (call (.ref 246) [v1, v2]) Q E s := by
  refine enter (binds := [(Str.ofString "pairs", v1), (Str.ofString "near", v2)]) X (fun _ _ e => e) hP hA.lt (a := 246) rfl (by kernel_rfl) rfl rfl (by rfl) (by rfl) rfl rfl rfl ?_
  intro L s₁ E' F env
  have hA' : Rm (A.deeper env) 2 := hA.deeper
  kspl_open fo
  repeat kspl_open e
  obtain ⟨a, vs, n, rfl, ha, hr⟩ := h1.list_inv
  have hget : ∀ {i : Nat} {v : Value}, vs[i]? = some v → ∃ p t k t1 t2 t3, ps[i]? = some p ∧ v = .ref t ∧ P t = some (tpl [.int (p.1 : Int) t1, .int (p.2.1 : Int) t2, .int (p.2.2 : Int) t3].toArray k) := by
    intro i v hv
    obtain ⟨d, hd, hrd⟩ := hr.getV hv
    rw [List.getElem?_map] at hd
    cases hp : ps[i]? with
    | none => rw [hp] at hd; cases hd
    | some p =>
      rw [hp] at hd
      cases hd
      obtain ⟨t, us, k, rfl, ht, hra⟩ := hrd.tuple_inv
      cases hra with | cons q1 hra => cases hra with | cons q2 hra => cases hra with | cons q3 hra => cases hra with | nil =>
        obtain ⟨t1, rfl⟩ := q1.int_inv
        obtain ⟨t2, rfl⟩ := q2.int_inv
        obtain ⟨t3, rfl⟩ := q3.int_inv
        exact ⟨p, t, k, t1, t2, t3, rfl, rfl, ht⟩
  refine iter_listT (by assumption) ha hA'.handled (fun v hv => by
    obtain ⟨i, hi⟩ := List.getElem?_of_mem hv
    obtain ⟨p, t, _, _, _, _, _, e, _⟩ := hget hi
    exact ⟨t, e⟩) (fun i P' m' M' => M' = [] ∧ m' "near" = some v2) ⟨rfl, rfl⟩ ?_ ?_
  · rintro i v P' m' M' I oI s' E'' hi hle ⟨rfl, hm⟩ F'
    obtain ⟨p, t, k, t1, t2, t3, hp, rfl, ht⟩ := hget hi
    obtain ⟨hp1, hp2, hp3⟩ := hmin p (List.mem_of_getElem? hp)
    refine as_tup3 F' hA'.handled (hle _ _ ht) rfl rfl rfl rfl rfl fun s₂ F₂ => ?_
    repeat kspl_open e
    kspl_open slL
    repeat kspl_open e
    kspl_open p
    repeat kspl_open e
    kspl_open p
    repeat kspl_open e
    refine z_sl (by assumption) (h2.mono hle) (.int _ _) (.int _ _) .none (by decide) (sl_of (by rw [List.length_map]; lia)) (fun vs hv => pick_mid (by lia) (by lia) (by rw [List.length_map]; lia) hv) fun v₃ P₃ s₃ hle₃ hr₃ F₃ => ?_
    repeat kspl_open e
    rw [Int.toNat_natCast, Int.toNat_natCast, ← List.map_drop, ← List.map_take] at hr₃
    refine z_minl F₃ hA'.handled hr₃ (fun e => by rw [e] at hp3; cases hp3.1) fun q t₄ s₄ hq F₄ => ?_
    obtain rfl := hq.uniq hp3
    repeat kspl_open e
    rw [if_neg (by simp)]
    repeat kspl_open e
    exact ⟨P₃, _, _, hle₃, ‹_›, rfl, by exact hm⟩
  · rintro P' m' M' s' hle ⟨rfl, hm⟩ F'
    repeat kspl_open e
    refine z_bool ?_
    exact h _ _ F'.ret
end
end
section
open PySem PySem.W PyProof.Rows
set_option autoImplicit false
set_option linter.unusedVariables false
set_option maxRecDepth 100000
/-! the regex machine, driven to its end -/
noncomputable def itS : Nat → Sre.M → Sre.M
  | 0, m => m
  | n + 1, m => itS n m.step
theorem step_done {m : Sre.M} (h : m.outcome.isSome = true) : m.step = m := by
  unfold Sre.M.step
  rw [if_pos h]
theorem itS_done : ∀ (n : Nat) {m : Sre.M}, m.outcome.isSome = true → itS n m = m
  | 0, _, _ => rfl
  | n + 1, m, h => by rw [itS, step_done h]; exact itS_done n h
theorem runFor_it : ∀ (n : Nat) (m : Sre.M), Sre.M.runFor n m = itS n m
  | 0, _ => rfl
  | n + 1, m => by
    rw [Sre.M.runFor]
    by_cases h : m.outcome.isSome = true
    · rw [if_pos h, itS_done _ h]
    · rw [if_neg h, runFor_it n, itS]
theorem itS_add : ∀ (a b : Nat) (m : Sre.M), itS (a + b) m = itS b (itS a m)
  | 0, b, m => by rw [Nat.zero_add]; rfl
  | a + 1, b, m => by rw [Nat.add_right_comm, itS, itS, itS_add a b]
section
variable {M : Model} {A : Around} {E : Value → Shared → Prop} {s : Shared}
theorem drive {Q : Sre.M → Shared → Prop} : ∀ (t n : Nat) (m r : Sre.M), itS n m = r → r.outcome.isSome = true → n < t → Q r s → wpAny M A (Builtin.Re.reDrive t m) Q E s
  | 0, n, m, r, _, _, h, _ => absurd h (Nat.not_lt_zero _)
  | t + 1, n, m, r, hr, hd, hn, hq => by
    unfold Builtin.Re.reDrive
    dsimp only
    rw [runFor_it]
    show wpAny M A (if (itS 4 m).outcome.isSome = true then pure (itS 4 m) else do rule "sre.turn"; Builtin.Re.reDrive t (itS 4 m)) Q E s
    by_cases h : (itS 4 m).outcome.isSome = true
    · rw [if_pos h]
      have e : itS 4 m = r := by
        rcases Nat.le_total n 4 with q | q
        · have := itS_add n (4 - n) m
          rw [show n + (4 - n) = 4 by omega, hr, itS_done _ hd] at this
          exact this
        · have := itS_add 4 (n - 4) m
          rw [show 4 + (n - 4) = n by omega, hr, itS_done _ h] at this
          exact this.symm
      rw [e]; exact wpAny_pure hq
    · rw [if_neg h]
      have hn4 : 4 < n := by
        rcases Nat.lt_or_ge 4 n with q | q
        · exact q
        · have := itS_add n (4 - n) m
          rw [show n + (4 - n) = 4 by omega, hr, itS_done _ hd] at this
          rw [this] at h; exact absurd hd h
      refine wpAny_bind (wpAny_rule (drive t (n - 4) (itS 4 m) r ?_ hd (by omega) hq))
      rw [← itS_add, show 4 + (n - 4) = n by omega, hr]
theorem say_rules {Q : PUnit → Shared → Prop} (f : Nat → Bool) (g : Nat → String) (h : Q ⟨⟩ s) : ∀ l : List Nat, wpAny M A (forIn l PUnit.unit fun i _ => (if f i = true then do rule (g i); pure (ForInStep.yield PUnit.unit) else pure (ForInStep.yield PUnit.unit) : Sem (ForInStep PUnit))) Q E s
  | [] => by rw [List.forIn_nil]; exact wpAny_pure h
  | i :: l => by
    rw [List.forIn_cons]
    refine wpAny_bind ?_
    by_cases hf : f i = true
    · rw [if_pos hf]
      exact wpAny_bind (wpAny_rule (wpAny_pure (say_rules f g h l)))
    · rw [if_neg hf]
      exact wpAny_pure (say_rules f g h l)
theorem run_end {Q : Option Sre.M → Shared → Prop} {n : Nat} {m r : Sre.M} (hr : itS n m = r) (hn : n < 2 ^ 64) (h : (r.outcome = some .matched ∧ Q (some r) s) ∨ (r.outcome = some .failed ∧ Q none s)) :
    wpAny M A (Builtin.Re.reRunToEnd m) Q E s := by
  unfold Builtin.Re.reRunToEnd
  refine wpAny_bind (drive (2 ^ 64) n m r hr (by rcases h with ⟨e, _⟩ | ⟨e, _⟩ <;> rw [e] <;> rfl) hn ?_)
  refine wpAny_bind (say_rules (fun i => r.seen.has i) (fun i => Sre.names.getD i "") ?_ _)
  rcases h with ⟨e, h⟩ | ⟨e, h⟩
  · rw [e]; exact wpAny_pure h
  · rw [e]; exact wpAny_pure h
end
end
section
open PySem PySem.W PyProof.Rows
set_option autoImplicit false
set_option linter.unusedVariables false
set_option maxRecDepth 100000
noncomputable def code1 : Array Nat := #[14, 4, 0, 1, 1, 6, 1, 16, 46, 1]
noncomputable def code2 : Array Nat := #[14, 9, 4, 1, 2, 16, 10, 16, 13, 0, 7, 7, 16, 13, 16, 10, 15, 18, 5, 16, 10, 15, 13, 11, 16, 13, 5, 5, 0, 16, 10, 1, 15, 2, 0, 1]
/-- the machine ends within k steps, and what it ends as has Φ -/
noncomputable def Ends (k : Nat) (m : Sre.M) (Φ : Sre.M → Prop) : Prop := ∃ n, n ≤ k ∧ Φ (itS n m)
theorem Ends.step {k : Nat} {m m' : Sre.M} {Φ : Sre.M → Prop} (e : m.step = m') (h : Ends k m' Φ) : Ends (k + 1) m Φ := by
  obtain ⟨n, hn, h⟩ := h
  exact ⟨n + 1, Nat.succ_le_succ hn, by rw [itS, e]; exact h⟩
theorem Ends.now {k : Nat} {m : Sre.M} {Φ : Sre.M → Prop} (h : Φ m) : Ends k m Φ := ⟨0, Nat.zero_le _, h⟩
theorem Ends.le {k k' : Nat} {m : Sre.M} {Φ : Sre.M → Prop} (h : Ends k m Φ) (hk : k ≤ k') : Ends k' m Φ := by
  obtain ⟨n, hn, h⟩ := h
  exact ⟨n, Nat.le_trans hn hk, h⟩
noncomputable def fr0 (pc s : Nat) (first : Bool) : Sre.Frame := { wait := .nextStart, pc := pc, pos := s, outermost := first }
noncomputable def st (code T : Array Nat) (L s : Nat) (must : Bool) (pc pos handed : Nat) (out : Bool) (fs : List Sre.Frame) (ans : Option Bool) (sn : Sre.Seen) : Sre.M :=
  { code := code, text := T, lim := L, start := s, lastStart := L, mustAdvance := must, pc := pc, pos := pos, handed := handed, outermost := out, marks := #[], frames := fs, weight := fs.length, answer := ans, seen := sn }
/-- what a search ends as -/
noncomputable def Found (o : Option (Nat × Nat)) (m : Sre.M) : Prop := match o with
  | some (a, b) => m.outcome = some .matched ∧ m.start = a ∧ m.handed = b
  | none => m.outcome = some .failed
section
variable {code T : Array Nat} {L s pc pos handed : Nat} {out must : Bool} {fs : List Sre.Frame} {sn : Sre.Seen}
theorem s_jump (h1 : pc < code.size) (h2 : Sre.ops[code.getD pc 0]? = some .JUMP) : ∃ sn', (st code T L s must pc pos handed out fs none sn).step = st code T L s must (pc + 1 + code.getD (pc + 1) 0) pos handed out fs none sn' := by
  refine ⟨?_, ?_⟩
  rotate_left
  · unfold st Sre.M.step
    simp only [Option.isSome, Bool.false_eq_true, if_false, if_pos h1]
    unfold Sre.M.exec Sre.M.word
    simp only [Nat.add_zero, h2]
    rfl
theorem s_lit_end (h1 : pc < code.size) (h2 : Sre.ops[code.getD pc 0]? = some .LITERAL) (h3 : L ≤ pos) : ∃ sn', (st code T L s must pc pos handed out fs none sn).step = st code T L s must pc pos handed out fs (some false) sn' := by
  refine ⟨?_, ?_⟩
  rotate_left
  · unfold st Sre.M.step
    simp only [Option.isSome, Bool.false_eq_true, if_false, if_pos h1]
    unfold Sre.M.exec Sre.M.word
    simp only [Nat.add_zero, h2, ge_iff_le, if_pos h3]
    rfl
theorem s_lit_yes (h1 : pc < code.size) (h2 : Sre.ops[code.getD pc 0]? = some .LITERAL) (h3 : pos < L) (h4 : T.getD pos 0 = code.getD (pc + 1) 0) :
    ∃ sn', (st code T L s must pc pos handed out fs none sn).step = st code T L s must (pc + 2) (pos + 1) handed out fs none sn' := by
  refine ⟨?_, ?_⟩
  rotate_left
  · unfold st Sre.M.step
    simp only [Option.isSome, Bool.false_eq_true, if_false, if_pos h1]
    unfold Sre.M.exec Sre.M.word
    have h3' : ¬ L ≤ pos := Nat.not_le.mpr h3
    simp only [Nat.add_zero, h2, ge_iff_le, if_neg h3']
    unfold Sre.accepts Sre.itemWidth
    simp only [h2, h4, beq_self_eq_true]
    rfl
theorem s_lit_no (h1 : pc < code.size) (h2 : Sre.ops[code.getD pc 0]? = some .LITERAL) (h3 : pos < L) (h4 : T.getD pos 0 ≠ code.getD (pc + 1) 0) :
    ∃ sn', (st code T L s must pc pos handed out fs none sn).step = st code T L s must pc pos handed out fs (some false) sn' := by
  refine ⟨?_, ?_⟩
  rotate_left
  · unfold st Sre.M.step
    simp only [Option.isSome, Bool.false_eq_true, if_false, if_pos h1]
    unfold Sre.M.exec Sre.M.word
    have h3' : ¬ L ≤ pos := Nat.not_le.mpr h3
    have h4' : (T.getD pos 0 == code.getD (pc + 1) 0) = false := by simpa using h4
    simp only [Nat.add_zero, h2, ge_iff_le, if_neg h3']
    unfold Sre.accepts Sre.itemWidth
    simp only [h2, h4']
    rfl
theorem s_at (h1 : pc < code.size) (h2 : Sre.ops[code.getD pc 0]? = some .AT) (h3 : code.getD (pc + 1) 0 = 1) :
    ∃ sn', (st code T L s must pc pos handed out fs none sn).step = if (pos == 0 || T.getD (pos - 1) 0 == 10) = true then st code T L s must (pc + 2) pos handed out fs none sn' else st code T L s must pc pos handed out fs (some false) sn' := by
  refine ⟨?_, ?_⟩
  rotate_left
  · unfold st Sre.M.step
    simp only [Option.isSome, Bool.false_eq_true, if_false, if_pos h1]
    unfold Sre.M.exec Sre.M.word
    simp only [Nat.add_zero, h2, h3]
    unfold Sre.M.isAt
    simp only
    rfl
theorem s_success (h1 : pc < code.size) (h2 : Sre.ops[code.getD pc 0]? = some .SUCCESS) (h3 : (must && pos == s) = false) :
    ∃ sn', (st code T L s must pc pos handed out fs none sn).step = st code T L s must pc pos pos out fs (some true) sn' := by
  refine ⟨?_, ?_⟩
  rotate_left
  · unfold st Sre.M.step
    simp only [Option.isSome, Bool.false_eq_true, if_false, if_pos h1]
    unfold Sre.M.exec Sre.M.word
    simp only [Nat.add_zero, h2, h3, Bool.false_and, Bool.or_false, Bool.and_false, Bool.false_eq_true, if_false]
    rfl
theorem s_matched : (st code T L s must pc pos handed out [] (some true) sn).step = { st code T L s must pc pos handed out [] (some true) sn with outcome := some .matched } := rfl
theorem s_failed : (st code T L s must pc pos handed out [] (some false) sn).step = { st code T L s must pc pos handed out [] (some false) sn with outcome := some .failed } := rfl
theorem s_next_yes {b q : Nat} {o : Bool} : (st code T L s must pc pos handed out (fr0 b q o :: fs) (some true) sn).step = st code T L s must b q handed o fs (some true) sn := by
  show Sre.M.say _ true = _
  unfold Sre.M.say st
  simp [fr0]
theorem s_next_end {b q : Nat} {o : Bool} (h : L ≤ q) : (st code T L s must pc pos handed out (fr0 b q o :: fs) (some false) sn).step = st code T L s must b q handed o fs (some false) sn := by
  have hn : ¬ q < L := Nat.not_lt.mpr h
  show (if q < L then _ else Sre.M.say _ false) = _
  rw [if_neg hn]
  unfold Sre.M.say st
  simp [fr0]
theorem s_next_no {b q : Nat} {o : Bool} (h : q < L) : (st code T L s must pc pos handed out (fr0 b q o :: fs) (some false) sn).step = (st code T L s false b q handed o fs none sn).attemptFrom (q + 1) false := by
  show (if q < L then Sre.M.attemptFrom _ (q + 1) false else _) = _
  rw [if_pos h]
  congr 1
theorem attempt_eq {m : Sre.M} {f : Sre.Frame} {t q : Nat} {o : Bool} (h : ¬ (m.weight + 1 + f.kept.marks.size > 16777216)) :
    m.attempt f t q o = { m with frames := f :: m.frames, weight := m.weight + 1 + f.kept.marks.size, pc := t, pos := q, handed := q, outermost := o } := if_neg h
theorem s_attempt (hfs : fs.length ≤ 1000) {q : Nat} {o : Bool} : (st code T L s must pc pos handed out fs none sn).attemptAt q o = st code T L q must pc q q o (fr0 pc q o :: fs) none sn := by
  refine (attempt_eq ?_).trans ?_
  · show ¬ fs.length + 1 + 0 > 16777216; lia
  · rfl
/-! branches, looks -/
noncomputable def kp0 : Sre.Kept := { lastmark := -1, lastindex := -1, whole := false, marks := #[] }
noncomputable def frB (pc pos : Nat) (o : Bool) : Sre.Frame := { wait := .nextBranch, pc := pc, pos := pos, outermost := o, kept := kp0 }
noncomputable def frN (pc pos : Nat) (o : Bool) : Sre.Frame := { wait := .lookNot, pc := pc, pos := pos, outermost := o, kept := kp0 }
theorem s_branch (hfs : fs.length ≤ 1000) (h1 : pc < code.size) (h2 : Sre.ops[code.getD pc 0]? = some .BRANCH) (h3 : (code.getD (pc + 1) 0 == 0) = false) :
    ∃ sn', (st code T L s must pc pos handed out fs none sn).step = st code T L s must (pc + 2) pos pos out (frB (pc + 1) pos out :: fs) none sn' := by
  refine ⟨?_, ?_⟩
  rotate_left
  · unfold st Sre.M.step
    simp only [Option.isSome, Bool.false_eq_true, if_false, if_pos h1]
    unfold Sre.M.exec Sre.M.word
    simp only [Nat.add_zero, h2]
    unfold Sre.M.alternative
    simp only [h3, Bool.false_eq_true, if_false]
    refine (attempt_eq ?_).trans ?_
    · show ¬ fs.length + 1 + 0 > 16777216; lia
    · rfl
theorem s_branch_yes {b q : Nat} {o : Bool} : (st code T L s must pc pos handed out (frB b q o :: fs) (some true) sn).step = st code T L s must b q handed o fs (some true) sn := by
  show Sre.M.say _ true = _
  unfold Sre.M.say st
  simp [frB, kp0]
theorem s_branch_no (hfs : fs.length ≤ 1000) {b q : Nat} {o : Bool} (h3 : (code.getD (b + code.getD b 0) 0 == 0) = false) : (st code T L s must pc pos handed out (frB b q o :: fs) (some false) sn).step =
    st code T L s must (b + code.getD b 0 + 1) q q o (frB (b + code.getD b 0) q o :: fs) none sn := by
  show Sre.M.alternative _ _ _ = _
  refine (if_neg (fun q => absurd (show (code.getD (b + code.getD b 0) 0 == 0) = true from q) (by rw [h3]; decide))).trans ((attempt_eq ?_).trans ?_)
  · show ¬ ((fs.length + 1) - (1 + 0)) + 1 + 0 > 16777216; lia
  · unfold st
    simp [frB, kp0, Sre.M.putBack, Sre.M.frame]
theorem s_look (hfs : fs.length ≤ 1000) (h1 : pc < code.size) (h2 : Sre.ops[code.getD pc 0]? = some .ASSERT_NOT) (h3 : code.getD (pc + 2) 0 = 0) :
    ∃ sn', (st code T L s must pc pos handed out fs none sn).step = st code T L s must (pc + 3) pos pos false (frN pc pos out :: fs) none sn' := by
  refine ⟨?_, ?_⟩
  rotate_left
  · unfold st Sre.M.step
    simp only [Option.isSome, Bool.false_eq_true, if_false, if_pos h1]
    unfold Sre.M.exec Sre.M.word
    simp only [Nat.add_zero, h2, h3, Nat.not_lt_zero, if_false, Nat.sub_zero]
    refine (attempt_eq ?_).trans ?_
    · show ¬ fs.length + 1 + 0 > 16777216; lia
    · rfl
theorem s_look_no {b q : Nat} {o : Bool} : (st code T L s must pc pos handed out (frN b q o :: fs) (some false) sn).step =
    st code T L s must (b + 1 + code.getD (b + 1) 0) q handed o fs none sn := by
  show ({ Sre.M.putBack _ _ with pc := _ } : Sre.M) = _
  unfold st
  simp [frN, kp0, Sre.M.putBack, Sre.M.word]
/-! the first set of the second pattern -/
theorem set2 (c : Nat) (sn : Sre.Seen) : ∃ sn', Sre.inSet code2 c code2.size 5 true sn = .ok (c == 10 || c == 13, sn') := by
  by_cases h : c = 10
  · subst h; exact ⟨_, rfl⟩
  · by_cases h2 : c = 13
    · subst h2; exact ⟨_, rfl⟩
    · have e1 : (c == 10) = false := by simpa using h
      have e2 : (c == 13) = false := by simpa using h2
      refine ⟨((sn.add 16).add 16).add 0, ?_⟩
      show (if (c == 10) = true then _ else (if (c == 13) = true then _ else _)) = _
      rw [e1, e2]
      rfl
theorem admitted2 : ∀ (fuel q : Nat) (m : Sre.M) (sn : Sre.Seen), m.code = code2 → m.lim < fuel + q → (∃ a sn', q ≤ a ∧ a < m.lim ∧ (m.text.getD a 0 = 10 ∨ m.text.getD a 0 = 13) ∧ (∀ i, q ≤ i → i < a → m.text.getD i 0 ≠ 10 ∧ m.text.getD i 0 ≠ 13) ∧ Sre.M.admitted m fuel q sn = .ok (some a, sn')) ∨
    ((∀ i, q ≤ i → i < m.lim → m.text.getD i 0 ≠ 10 ∧ m.text.getD i 0 ≠ 13) ∧ ∃ sn', Sre.M.admitted m fuel q sn = .ok (none, sn'))
  | 0, q, m, sn, _, h => .inr ⟨fun i h1 h2 => by lia, sn, rfl⟩
  | fuel + 1, q, m, sn, hc, h => by
    rw [Sre.M.admitted]
    by_cases hq : q ≥ m.lim
    · rw [if_pos hq]
      exact .inr ⟨fun i h1 h2 => by lia, sn, rfl⟩
    · rw [if_neg hq, hc]
      obtain ⟨sn', e⟩ := set2 (m.text.getD q 0) sn
      rw [e]
      by_cases h1 : m.text.getD q 0 = 10 ∨ m.text.getD q 0 = 13
      · have : (m.text.getD q 0 == 10 || m.text.getD q 0 == 13) = true := by simpa using h1
        rw [this]
        exact .inl ⟨q, sn', Nat.le_refl _, by lia, h1, fun i h1 h2 => by lia, rfl⟩
      · have : (m.text.getD q 0 == 10 || m.text.getD q 0 == 13) = false := by simpa using h1
        rw [this]
        have hn : m.text.getD q 0 ≠ 10 ∧ m.text.getD q 0 ≠ 13 := ⟨fun e => h1 (.inl e), fun e => h1 (.inr e)⟩
        rcases admitted2 fuel (q + 1) m sn' hc (by lia) with ⟨a, sn₂, r1, r2, r3, r4, r5⟩ | ⟨r1, r2⟩
        · refine .inl ⟨a, sn₂, by lia, r2, r3, fun i i1 i2 => ?_, r5⟩
          by_cases hi : i = q
          · subst hi; exact hn
          · exact r4 i (by lia) i2
        · refine .inr ⟨fun i i1 i2 => ?_, r2⟩
          by_cases hi : i = q
          · subst hi; exact hn
          · exact r1 i (by lia) i2
end
end
section
open PySem PySem.W PyProof.Rows
set_option autoImplicit false
set_option linter.unusedVariables false
set_option maxRecDepth 100000
/-- what a sub yields, from a place on -/
noncomputable def Cut (g : Nat → List Nat) (T : Array Nat) (repl : List Nat) (p : Nat) (o : Option (Nat × Nat)) : Prop := match o with
  | some (a, b) => p ≤ a ∧ a < b ∧ b ≤ T.size ∧ g p = (T.toList.drop p).take (a - p) ++ repl ++ g b
  | none => g p = T.toList.drop p
theorem drop_getD {T : Array Nat} {s : Nat} (h : s < T.size) : T.toList.drop s = T.getD s 0 :: T.toList.drop (s + 1) := by
  rw [List.drop_eq_getElem_cons (by simpa using h)]
  congr 1
  simp [Array.getD, h]
theorem Cut.skip {g : Nat → List Nat} {T : Array Nat} {repl : List Nat} {s : Nat} {o : Option (Nat × Nat)} (hs : s < T.size) (hg : g s = T.getD s 0 :: g (s + 1)) (h : Cut g T repl (s + 1) o) : Cut g T repl s o := by
  cases o with
  | none =>
    show g s = _
    rw [hg, drop_getD hs, show g (s + 1) = _ from h]
  | some p =>
    obtain ⟨a, b⟩ := p
    obtain ⟨h1, h2, h3, h4⟩ := h
    refine ⟨by lia, h2, h3, ?_⟩
    rw [hg, h4, drop_getD hs, show a - s = (a - (s + 1)) + 1 by lia, List.take_succ_cons]
    rfl
theorem Cut.skips {g : Nat → List Nat} {T : Array Nat} {repl : List Nat} {o : Option (Nat × Nat)} : ∀ (k s : Nat), s + k ≤ T.size → (∀ i, s ≤ i → i < s + k → g i = T.getD i 0 :: g (i + 1)) → Cut g T repl (s + k) o → Cut g T repl s o
  | 0, s, _, _, h => h
  | k + 1, s, hs, hg, h => Cut.skip (by lia) (hg s (Nat.le_refl _) (by lia)) (Cut.skips k (s + 1) (by lia) (fun i h1 h2 => hg i (by lia) (by lia)) (by rw [show s + 1 + k = s + (k + 1) by lia]; exact h))
/-- a dot more at a line's beginning -/
noncomputable def dots (bol : Bool) : List Nat → List Nat
  | [] => []
  | c :: r => if bol = true ∧ c = 46 then 46 :: 46 :: dots false r else c :: dots (c == 10) r
noncomputable def g1 (T : Array Nat) (p : Nat) : List Nat := dots (p == 0 || T.getD (p - 1) 0 == 10) (T.toList.drop p)
/-- every line end as a return and a feed -/
noncomputable def crlf : List Nat → List Nat
  | 13 :: 10 :: r => 13 :: 10 :: crlf r
  | c :: r => if c = 13 ∨ c = 10 then 13 :: 10 :: crlf r else c :: crlf r
  | [] => []
noncomputable def g2 (T : Array Nat) (p : Nat) : List Nat := crlf (T.toList.drop p)
theorem crlf_other {c : Nat} {r : List Nat} (h1 : c ≠ 13) (h2 : c ≠ 10) : crlf (c :: r) = c :: crlf r := by
  rw [crlf]
  · rw [if_neg (by simp [h1, h2])]
  · intro r' e; exact absurd e h1
theorem crlf_10 {r : List Nat} : crlf (10 :: r) = 13 :: 10 :: crlf r := by
  rw [crlf]
  · rw [if_pos (.inr rfl)]
  · intro r' e; exact absurd e (by decide)
theorem crlf_13 {r : List Nat} (h : ∀ r', r ≠ 10 :: r') : crlf (13 :: r) = 13 :: 10 :: crlf r := by
  rw [crlf]
  · rw [if_pos (.inl rfl)]
  · intro r' _ e; exact absurd e (h r')
section
variable {T : Array Nat} {s pos : Nat} {must first : Bool} {sn : Sre.Seen}
theorem first1 (m : Sre.M) (hc : m.code = code1) (q : Nat) (o : Bool) : m.attemptFrom q o = m.attemptAt q o := by
  have e : m.hasFirstSet = false := by unfold Sre.M.hasFirstSet; rw [hc]; rfl
  unfold Sre.M.attemptFrom
  rw [e]; rfl
theorem search1 : ∀ (k s : Nat) (must first : Bool) (sn : Sre.Seen), s + k = T.size → (must = true → first = true) → ∃ o, Ends (4 * k + 6) (st code1 T T.size s must 5 s s first [fr0 5 s first] none sn) (Found o) ∧ Cut (g1 T) T [46, 46] s o
  | 0, s, must, first, sn, hk, hm => by
    have hs : T.size ≤ s := by lia
    refine ⟨none, ?_, ?_⟩
    · obtain ⟨sn₁, e⟩ := s_at (code := code1) (T := T) (L := T.size) (s := s) (must := must) (pc := 5) (pos := s) (handed := s) (out := first) (fs := [fr0 5 s first]) (sn := sn) (by decide) rfl rfl
      refine .step e ?_
      by_cases hb : (s == 0 || T.getD (s - 1) 0 == 10) = true
      · rw [if_pos hb]
        obtain ⟨sn₂, e⟩ := s_lit_end (code := code1) (T := T) (L := T.size) (s := s) (must := must) (pc := 7) (pos := s) (handed := s) (out := first) (fs := [fr0 5 s first]) (sn := sn₁) (by decide) rfl hs
        exact .step e (.step (s_next_end hs) (.step s_failed (.now rfl)))
      · rw [if_neg hb]
        exact .step (s_next_end hs) (.step s_failed (.now rfl))
    · show g1 T s = _
      unfold g1
      rw [List.drop_of_length_le (by simpa using hs)]; rfl
  | k + 1, s, must, first, sn, hk, hm => by
    have hs : s < T.size := by lia
    obtain ⟨sn₁, e⟩ := s_at (code := code1) (T := T) (L := T.size) (s := s) (must := must) (pc := 5) (pos := s) (handed := s) (out := first) (fs := [fr0 5 s first]) (sn := sn) (by decide) rfl rfl
    have next : ∀ (pc pos handed : Nat) (out : Bool) (sn₁ : Sre.Seen), g1 T s = T.getD s 0 :: g1 T (s + 1) →
        ∃ o, Ends (4 * k + 7) (st code1 T T.size s must pc pos handed out [fr0 5 s first] (some false) sn₁) (Found o) ∧ Cut (g1 T) T [46, 46] s o := by
      intro pc pos handed out sn₁ hg
      obtain ⟨o, h1, h2⟩ := search1 k (s + 1) false false sn₁ (by lia) (fun h => nomatch h)
      refine ⟨o, .step ((s_next_no hs).trans ((first1 _ rfl _ _).trans (s_attempt (Nat.zero_le _)))) h1, h2.skip hs hg⟩
    by_cases hb : (s == 0 || T.getD (s - 1) 0 == 10) = true
    · rw [if_pos hb] at e
      by_cases hd : T.getD s 0 = 46
      · refine ⟨some (s, s + 1), .step e ?_, Nat.le_refl _, Nat.lt_succ_self _, hs, ?_⟩
        · obtain ⟨sn₂, e⟩ := s_lit_yes (code := code1) (T := T) (L := T.size) (s := s) (must := must) (pc := 7) (pos := s) (handed := s) (out := first) (fs := [fr0 5 s first]) (sn := sn₁) (by decide) rfl hs hd
          refine .step e ?_
          obtain ⟨sn₃, e⟩ := s_success (code := code1) (T := T) (L := T.size) (s := s) (must := must) (pc := 9) (pos := s + 1) (handed := s) (out := first) (fs := [fr0 5 s first]) (sn := sn₂) (by decide) rfl (by simp)
          exact .step e (.step s_next_yes (.step s_matched (.now ⟨rfl, rfl, rfl⟩)))
        · have hg : g1 T s = 46 :: 46 :: g1 T (s + 1) := by
            unfold g1
            rw [drop_getD hs, hd, hb, dots, if_pos ⟨rfl, rfl⟩]
            have : ((s + 1 == 0) || T.getD (s + 1 - 1) 0 == 10) = false := by rw [Nat.add_sub_cancel, hd]; rfl
            rw [this]
          rw [hg, Nat.sub_self, List.take_zero]; rfl
      · obtain ⟨sn₂, e₂⟩ := s_lit_no (code := code1) (T := T) (L := T.size) (s := s) (must := must) (pc := 7) (pos := s) (handed := s) (out := first) (fs := [fr0 5 s first]) (sn := sn₁) (by decide) rfl hs hd
        obtain ⟨o, h1, h2⟩ := next 7 s s first sn₂ (by
          unfold g1
          rw [drop_getD hs, dots, if_neg (fun h => hd h.2)]
          rw [Nat.add_sub_cancel]; rfl)
        exact ⟨o, .step e (.step e₂ (h1.le (by lia))), h2⟩
    · rw [if_neg hb] at e
      obtain ⟨o, h1, h2⟩ := next 5 s s first sn₁ (by
          unfold g1
          rw [drop_getD hs, dots, if_neg (fun h => hb h.1)]
          rw [Nat.add_sub_cancel]; rfl)
      exact ⟨o, .step e (h1.le (by lia)), h2⟩
theorem alt1 {a : Nat} (ha : a < T.size) (h : T.getD a 0 = 13) (h1 : a + 1 < T.size) (h2 : T.getD (a + 1) 0 = 10) : Ends 30 (st code2 T T.size a false 10 a a first [fr0 10 a first] none sn) (Found (some (a, a + 2))) := by
  obtain ⟨sn₁, e⟩ := s_branch (code := code2) (T := T) (L := T.size) (s := a) (must := false) (pc := 10) (pos := a) (handed := a) (out := first) (fs := [fr0 10 a first]) (sn := sn) (by simp) (by decide) rfl rfl
  refine .step e ?_
  obtain ⟨sn₂, e⟩ := s_lit_yes (code := code2) (T := T) (L := T.size) (s := a) (must := false) (pc := 12) (pos := a) (handed := a) (out := first) (fs := [frB 11 a first, fr0 10 a first]) (sn := sn₁) (by decide) rfl ha h
  refine .step e ?_
  obtain ⟨sn₃, e⟩ := s_lit_yes (code := code2) (T := T) (L := T.size) (s := a) (must := false) (pc := 14) (pos := a + 1) (handed := a) (out := first) (fs := [frB 11 a first, fr0 10 a first]) (sn := sn₂) (by decide) rfl h1 h2
  refine .step e ?_
  obtain ⟨sn₄, e⟩ := s_jump (code := code2) (T := T) (L := T.size) (s := a) (must := false) (pc := 16) (pos := a + 2) (handed := a) (out := first) (fs := [frB 11 a first, fr0 10 a first]) (sn := sn₃) (by decide) rfl
  refine .step e ?_
  obtain ⟨sn₅, e⟩ := s_success (code := code2) (T := T) (L := T.size) (s := a) (must := false) (pc := 35) (pos := a + 2) (handed := a) (out := first) (fs := [frB 11 a first, fr0 10 a first]) (sn := sn₄) (by decide) rfl rfl
  exact .step e (.step s_branch_yes (.step s_next_yes (.step s_matched (.now ⟨rfl, rfl, rfl⟩))))
/-- the first way fails -/
theorem alt1_no {a k : Nat} {Φ : Sre.M → Prop} (ha : a < T.size) (h : T.getD a 0 = 13 → a + 1 < T.size → T.getD (a + 1) 0 ≠ 10)
    (hk : ∀ sn, Ends k (st code2 T T.size a false 19 a a first [frB 18 a first, fr0 10 a first] none sn) Φ) : Ends (k + 5) (st code2 T T.size a false 10 a a first [fr0 10 a first] none sn) Φ := by
  obtain ⟨sn₁, e⟩ := s_branch (code := code2) (T := T) (L := T.size) (s := a) (must := false) (pc := 10) (pos := a) (handed := a) (out := first) (fs := [fr0 10 a first]) (sn := sn) (by simp) (by decide) rfl rfl
  refine .step e ?_
  have back : ∀ (pc pos : Nat) (sn : Sre.Seen), Ends (k + 1) (st code2 T T.size a false pc pos a first [frB 11 a first, fr0 10 a first] (some false) sn) Φ := fun pc pos sn =>
    .step (s_branch_no (code := code2) (b := 11) (by simp) rfl) (hk sn)
  by_cases h0 : T.getD a 0 = 13
  · obtain ⟨sn₂, e⟩ := s_lit_yes (code := code2) (T := T) (L := T.size) (s := a) (must := false) (pc := 12) (pos := a) (handed := a) (out := first) (fs := [frB 11 a first, fr0 10 a first]) (sn := sn₁) (by decide) rfl ha h0
    refine .step e ?_
    by_cases h1 : a + 1 < T.size
    · obtain ⟨sn₃, e⟩ := s_lit_no (code := code2) (T := T) (L := T.size) (s := a) (must := false) (pc := 14) (pos := a + 1) (handed := a) (out := first) (fs := [frB 11 a first, fr0 10 a first]) (sn := sn₂) (by decide) rfl h1 (h h0 h1)
      exact .step e ((back _ _ _).le (by lia))
    · obtain ⟨sn₃, e⟩ := s_lit_end (code := code2) (T := T) (L := T.size) (s := a) (must := false) (pc := 14) (pos := a + 1) (handed := a) (out := first) (fs := [frB 11 a first, fr0 10 a first]) (sn := sn₂) (by decide) rfl (by lia)
      exact .step e ((back _ _ _).le (by lia))
  · obtain ⟨sn₂, e⟩ := s_lit_no (code := code2) (T := T) (L := T.size) (s := a) (must := false) (pc := 12) (pos := a) (handed := a) (out := first) (fs := [frB 11 a first, fr0 10 a first]) (sn := sn₁) (by decide) rfl ha h0
    exact .step e ((back _ _ _).le (by lia))
theorem alt2 {a : Nat} (ha : a < T.size) (h : T.getD a 0 = 10) : Ends 30 (st code2 T T.size a false 10 a a first [fr0 10 a first] none sn) (Found (some (a, a + 1))) := by
  refine (alt1_no (k := 20) ha (fun e => by rw [h] at e; exact absurd e (by decide)) fun sn => ?_).le (by decide)
  obtain ⟨sn₂, e⟩ := s_lit_yes (code := code2) (T := T) (L := T.size) (s := a) (must := false) (pc := 19) (pos := a) (handed := a) (out := first) (fs := [frB 18 a first, fr0 10 a first]) (sn := sn) (by decide) rfl ha h
  refine .step e ?_
  obtain ⟨sn₄, e⟩ := s_jump (code := code2) (T := T) (L := T.size) (s := a) (must := false) (pc := 21) (pos := a + 1) (handed := a) (out := first) (fs := [frB 18 a first, fr0 10 a first]) (sn := sn₂) (by decide) rfl
  refine .step e ?_
  obtain ⟨sn₅, e⟩ := s_success (code := code2) (T := T) (L := T.size) (s := a) (must := false) (pc := 35) (pos := a + 1) (handed := a) (out := first) (fs := [frB 18 a first, fr0 10 a first]) (sn := sn₄) (by decide) rfl rfl
  exact .step e (.step s_branch_yes (.step s_next_yes (.step s_matched (.now ⟨rfl, rfl, rfl⟩))))
theorem alt3 {a : Nat} (ha : a < T.size) (h : T.getD a 0 = 13) (h2 : a + 1 < T.size → T.getD (a + 1) 0 ≠ 10) : Ends 30 (st code2 T T.size a false 10 a a first [fr0 10 a first] none sn) (Found (some (a, a + 1))) := by
  refine (alt1_no (k := 20) ha (fun _ => h2) fun sn => ?_).le (by decide)
  obtain ⟨sn₂, e⟩ := s_lit_no (code := code2) (T := T) (L := T.size) (s := a) (must := false) (pc := 19) (pos := a) (handed := a) (out := first) (fs := [frB 18 a first, fr0 10 a first]) (sn := sn) (by decide) rfl ha (by rw [h]; decide)
  refine .step e (.step (s_branch_no (code := code2) (b := 18) (by simp) rfl) ?_)
  obtain ⟨sn₃, e⟩ := s_lit_yes (code := code2) (T := T) (L := T.size) (s := a) (must := false) (pc := 24) (pos := a) (handed := a) (out := first) (fs := [frB 23 a first, fr0 10 a first]) (sn := sn₂) (by decide) rfl ha h
  refine .step e ?_
  obtain ⟨sn₄, e⟩ := s_look (code := code2) (T := T) (L := T.size) (s := a) (must := false) (pc := 26) (pos := a + 1) (handed := a) (out := first) (fs := [frB 23 a first, fr0 10 a first]) (sn := sn₃) (by simp) (by decide) rfl rfl
  refine .step e ?_
  have tail : ∀ (pc : Nat) (sn : Sre.Seen), Ends 12 (st code2 T T.size a false pc (a + 1) (a + 1) false [frN 26 (a + 1) first, frB 23 a first, fr0 10 a first] (some false) sn) (Found (some (a, a + 1))) := by
    intro pc sn
    refine .step s_look_no ?_
    obtain ⟨sn₄, e⟩ := s_jump (code := code2) (T := T) (L := T.size) (s := a) (must := false) (pc := 32) (pos := a + 1) (handed := a + 1) (out := first) (fs := [frB 23 a first, fr0 10 a first]) (sn := sn) (by decide) rfl
    refine .step e ?_
    obtain ⟨sn₅, e⟩ := s_success (code := code2) (T := T) (L := T.size) (s := a) (must := false) (pc := 35) (pos := a + 1) (handed := a + 1) (out := first) (fs := [frB 23 a first, fr0 10 a first]) (sn := sn₄) (by decide) rfl rfl
    exact .step e (.step s_branch_yes (.step s_next_yes (.step s_matched (.now ⟨rfl, rfl, rfl⟩))))
  by_cases h1 : a + 1 < T.size
  · obtain ⟨sn₅, e⟩ := s_lit_no (code := code2) (T := T) (L := T.size) (s := a) (must := false) (pc := 29) (pos := a + 1) (handed := a + 1) (out := false) (fs := [frN 26 (a + 1) first, frB 23 a first, fr0 10 a first]) (sn := sn₄) (by decide) rfl h1 (h2 h1)
    exact .step e ((tail _ _).le (by decide))
  · obtain ⟨sn₅, e⟩ := s_lit_end (code := code2) (T := T) (L := T.size) (s := a) (must := false) (pc := 29) (pos := a + 1) (handed := a + 1) (out := false) (fs := [frN 26 (a + 1) first, frB 23 a first, fr0 10 a first]) (sn := sn₄) (by decide) rfl (by lia)
    exact .step e ((tail _ _).le (by decide))
theorem hit2 {a : Nat} (ha : a < T.size) (h : T.getD a 0 = 10 ∨ T.getD a 0 = 13) : ∃ b, (∀ first sn, Ends 30 (st code2 T T.size a false 10 a a first [fr0 10 a first] none sn) (Found (some (a, b)))) ∧ a < b ∧ b ≤ T.size ∧ g2 T a = [13, 10] ++ g2 T b := by
  rcases h with h | h
  · refine ⟨a + 1, fun first sn => alt2 ha h, Nat.lt_succ_self _, ha, ?_⟩
    unfold g2
    rw [drop_getD ha, h, crlf_10]; rfl
  · by_cases h2 : a + 1 < T.size ∧ T.getD (a + 1) 0 = 10
    · refine ⟨a + 2, fun first sn => alt1 ha h h2.1 h2.2, by lia, h2.1, ?_⟩
      unfold g2
      rw [drop_getD ha, h, drop_getD h2.1, h2.2, crlf]; rfl
    · have h3 : a + 1 < T.size → T.getD (a + 1) 0 ≠ 10 := fun q r => h2 ⟨q, r⟩
      refine ⟨a + 1, fun first sn => alt3 ha h h3, Nat.lt_succ_self _, ha, ?_⟩
      unfold g2
      rw [drop_getD ha, h, crlf_13]
      · rfl
      · intro r' e
        by_cases h1 : a + 1 < T.size
        · rw [drop_getD h1] at e
          exact h3 h1 (List.cons.inj e).1
        · rw [List.drop_of_length_le (by simpa using Nat.not_lt.mp h1)] at e
          cases e
theorem from_some {m : Sre.M} {q a : Nat} {f : Bool} {sn : Sre.Seen} (hf : m.hasFirstSet = true) (e : Sre.M.admitted m (m.lim + 1 - q) q m.seen = .ok (some a, sn)) : m.attemptFrom q f = ({ m with mustAdvance := false, seen := sn } : Sre.M).attemptAt a f := by
  unfold Sre.M.attemptFrom
  rw [hf, e]; rfl
theorem from_none {m : Sre.M} {q : Nat} {f : Bool} {sn : Sre.Seen} (hf : m.hasFirstSet = true) (e : Sre.M.admitted m (m.lim + 1 - q) q m.seen = .ok (none, sn)) : m.attemptFrom q f = ({ m with seen := sn } : Sre.M).say false := by
  unfold Sre.M.attemptFrom
  rw [hf, e]; rfl
/-- a search with the first pattern -/
theorem find1 {p : Nat} (hp : p ≤ T.size) : ∃ o, Ends (4 * T.size + 10) (Sre.forSearch code1 T 0 p T.size false) (Found o) ∧ Cut (g1 T) T [46, 46] p o := by
  by_cases h : p < T.size
  · obtain ⟨o, h1, h2⟩ := search1 (T := T) (T.size - p) p false true (({} : Sre.Seen).add 14) (by lia) (fun h => nomatch h)
    refine ⟨o, Ends.le ?_ (show 4 * (T.size - p) + 6 ≤ _ by lia), h2⟩
    have e : Sre.forSearch code1 T 0 p T.size false = st code1 T T.size p false 5 p p true [fr0 5 p true] none (({} : Sre.Seen).add 14) := by
      unfold Sre.forSearch
      have hn : ¬ ((decide (p > T.size) || decide (T.size - p < 1)) = true) := by simp; lia
      refine (if_neg hn).trans ?_
      exact (first1 _ rfl _ _).trans (s_attempt (code := code1) (T := T) (L := T.size) (s := p) (must := false) (pc := 5) (pos := p) (handed := p) (out := true) (fs := []) (Nat.zero_le _))
    rw [e]; exact h1
  · have e : p = T.size := by lia
    subst e
    refine ⟨none, ?_, ?_⟩
    · have e : Sre.forSearch code1 T 0 T.size T.size false = { st code1 T T.size T.size false 5 T.size T.size true [] (some false) (({} : Sre.Seen).add 14) with lastStart := 0 } := by
        unfold Sre.forSearch
        have hn : (decide (T.size > T.size) || decide (T.size - T.size < 1)) = true := by simp
        exact (if_pos hn).trans rfl
      rw [e]
      exact .step rfl (.now rfl)
    · show g1 T _ = _
      unfold g1
      rw [List.drop_of_length_le (by simp)]; rfl
/-- a search with the second pattern -/
theorem find2 {p : Nat} (hp : p ≤ T.size) : ∃ o, Ends (4 * T.size + 40) (Sre.forSearch code2 T 0 p T.size false) (Found o) ∧ Cut (g2 T) T [13, 10] p o := by
  have skip : ∀ i, i < T.size → T.getD i 0 ≠ 10 ∧ T.getD i 0 ≠ 13 → g2 T i = T.getD i 0 :: g2 T (i + 1) := fun i hi h => by
    unfold g2
    rw [drop_getD hi, crlf_other h.2 h.1]
  have none_ok : (∀ i, p ≤ i → i < T.size → T.getD i 0 ≠ 10 ∧ T.getD i 0 ≠ 13) → Cut (g2 T) T [13, 10] p none := fun hn => by
    refine Cut.skips (T.size - p) p (by lia) (fun i h1 h2 => skip i (by lia) (hn i h1 (by lia))) ?_
    show g2 T _ = _
    unfold g2
    rw [List.drop_of_length_le (by simp; lia)]; rfl
  by_cases h : p < T.size
  · have e : Sre.forSearch code2 T 0 p T.size false = (st code2 T T.size p false 10 p p true [] none (({} : Sre.Seen).add 14)).attemptFrom p true := by
      unfold Sre.forSearch
      have hn : ¬ ((decide (p > T.size) || decide (T.size - p < 1)) = true) := by simp; lia
      exact (if_neg hn).trans rfl
    rw [e]
    rcases admitted2 (T.size + 1 - p) p (st code2 T T.size p false 10 p p true [] none (({} : Sre.Seen).add 14)) (({} : Sre.Seen).add 14) rfl (show T.size < _ by lia) with ⟨a, sn', r1, r2, r3, r4, r5⟩ | ⟨r1, sn', r2⟩
    · have r2' : a < T.size := r2
      have r3' : T.getD a 0 = 10 ∨ T.getD a 0 = 13 := r3
      obtain ⟨b, hb, b1, b2, b3⟩ := hit2 r2' r3'
      refine ⟨some (a, b), ?_, ?_⟩
      · rw [from_some rfl r5]
        refine Ends.le ?_ (show 30 ≤ _ by lia)
        have := hb true sn'
        rw [← s_attempt (code := code2) (T := T) (L := T.size) (s := p) (must := false) (pc := 10) (pos := p) (handed := p) (out := true) (fs := []) (sn := sn') (Nat.zero_le _)] at this
        exact this
      · have hlt : p + (a - p) = a := by lia
        refine Cut.skips (a - p) p (by lia) (fun i h1 h2 => skip i (by lia) (r4 i h1 (by lia))) ?_
        rw [hlt]
        exact ⟨Nat.le_refl _, b1, b2, by rw [b3, Nat.sub_self, List.take_zero]; rfl⟩
    · refine ⟨none, ?_, none_ok r1⟩
      rw [from_none rfl r2]
      refine .step (m' := { (st code2 T T.size p false 10 p p true [] (some false) sn') with outcome := some .failed }) ?_ (.now rfl)
      exact s_failed
  · have e : p = T.size := by lia
    subst e
    refine ⟨none, ?_, none_ok fun i h1 h2 => by lia⟩
    have e : Sre.forSearch code2 T 0 T.size T.size false = { st code2 T T.size T.size false 10 T.size T.size true [] (some false) (({} : Sre.Seen).add 14) with lastStart := 0 } := by
      unfold Sre.forSearch
      have hn : (decide (T.size > T.size) || decide (T.size - T.size < 1)) = true := by simp
      exact (if_pos hn).trans rfl
    rw [e]
    exact .step rfl (.now rfl)
end
end
section
open PySem PySem.W PyProof.Rows
open Builtin Builtin.Re Builtin.Str
set_option autoImplicit false
set_option linter.unusedVariables false
set_option maxRecDepth 100000
noncomputable def patObj (src fl : Value) (ca : Addr) : Obj := { cls := .type "re.Pattern", data := .fields #[src, fl, .int 0 0, .none, .none, .ref ca, .int 0 0] }
noncomputable def codeObj (code : Array Nat) : Obj := { cls := .type "tuple", data := .seq (code.toList.map fun n : Nat => Value.int (n : Int) 0).toArray }
section
variable {M : Model} {A : Around} {E : Value → Shared → Prop} {s : Shared}
theorem raw_code (code : Array Nat) : ((code.toList.map fun n : Nat => Value.int (n : Int) 0).toArray.map reRawOf).map (·.toNat) = code := by
  obtain ⟨l⟩ := code
  simp only [List.map_toArray, List.map_map]
  congr 1
  conv => rhs; rw [← List.map_id l]
  congr 1
theorem whole_target {pa ca : Addr} {src fl : Value} {code : Array Nat} {x : Str} {t : Tok} {Q : ReTarget → Shared → Prop} (hp : s.heap.get? pa = some (patObj src fl ca)) (hc : s.heap.get? ca = some (codeObj code))
    (h : Q ⟨.ref pa, .str x t, code, x.cps, 0, 0, 0, x.cps.size⟩ s) : wpAny M A (reWholeTarget (.ref pa) (.str x t)) Q E s := by
  unfold reWholeTarget
  refine wpAny_bind (wpAny_fieldsOf hp rfl ?_)
  refine wpAny_bind ?_
  refine wpAny_pure ?_
  dsimp only
  refine wpAny_bind (wpAny_pure ?_)
  unfold reRawItems
  refine wpAny_bind (wpAny_bind ?_)
  refine wpAny_seqItems hc rfl (wpAny_pure ?_)
  refine wpAny_pure ?_
  have e : ((((some (code.toList.map fun n : Nat => Value.int (n : Int) 0).toArray).getD #[]).map reRawOf).map (·.toNat)) = code := raw_code code
  rw [e]
  exact h
theorem next_found {T code : Array Nat} {K p : Nat} {o : Option (Nat × Nat)} {t : ReTarget} {Q : Option Sre.M → Shared → Prop} (ht : t.code = code ∧ t.text = T ∧ t.groups = 0 ∧ t.lim = T.size) (hK : K < 2 ^ 64) (hf : Ends K (Sre.forSearch code T 0 p T.size false) (Found o))
    (h : match o with | some (a, b) => ∀ m : Sre.M, m.start = a → m.handed = b → Q (some m) s | none => Q none s) : wpAny M A (reNextFound t p false) Q E s := by
  obtain ⟨h1, h2, h3, h4⟩ := ht
  unfold reNextFound
  rw [h1, h2, h3, h4]
  obtain ⟨n, hn, hf⟩ := hf
  refine run_end (n := n) rfl (Nat.lt_of_le_of_lt hn hK) ?_
  cases o with
  | none => exact .inr ⟨hf, h⟩
  | some p => obtain ⟨a, b⟩ := p; exact .inl ⟨hf.1, h _ hf.2.1 hf.2.2⟩
end
theorem entry_sub_loop : entryFor table "re.Pattern.sub.loop" = some Builtin.«re.Pattern.sub.loop» := entryFor_of_tree (by kernel_rfl)
theorem plain_sub_loop : plainId "re.Pattern.sub.loop" = true := by decide +kernel
theorem join_ok2 {x : Str} {l : List Str} (h : (l.map fun y => y.length).sum ≤ 1000000) (hx : x.length = 0) : JoinOk x l = true := by
  have key : ∀ (l : List Str) (a : Nat), l.foldl (fun a y => a + y.length + x.length) a = a + (l.map fun y => y.length).sum := by
    intro l
    induction l with
    | nil => intro a; rfl
    | cons y l ih => intro a; rw [List.foldl_cons, ih, List.map_cons, List.sum_cons, hx]; lia
  have := key l 0
  unfold JoinOk tooLong
  simp only [List.size_toArray, List.foldl_toArray']
  have e : sizeLine = 16777216 := by decide
  simp
  lia
section
variable {prog : Program} {w : World} {A : Around} {E : Value → Shared → Prop} {s : Shared}
/-- what a push makes of the list -/
theorem push_piece {l : Addr} {acc : List (Str × Tok)} {n0 : Nat} {v : Str} {t : Tok} {Q : Unit → Shared → Prop} (hl : s.heap.get? l = some (lst (strValues acc).toArray n0)) (hz : acc.length ≤ 1000000)
    (h : ∀ h' n', h'.get? l = some (lst (strValues (acc ++ [(v, t)])).toArray n') → Heap.ExtBut l s.heap h' → Q () { s with heap := h' }) : wpAny (model prog w) A (updateSeq l (·.push (.str v t))) Q E s := by
  have e : sizeLine = 16777216 := by decide
  have sz : (strValues acc).toArray.size ≤ 1000000 := by simpa [strValues] using hz
  have up := IsL.update (show IsL s.heap l (strValues acc).toArray n0 from hl) (·.push (.str v t))
  have e2 : (strValues (acc ++ [(v, t)])).toArray = (strValues acc).toArray.push (.str v t) := by simp [strValues]
  exact wpAny_updateSeq hl rfl (h _ _ (by rw [e2]; exact up) (Heap.SameBut.update ..).extBut) (by lia) (by simp only [Array.size_push]; lia)
noncomputable def lens (acc : List (Str × Tok)) : Nat := (acc.map fun p => p.1.length).sum
noncomputable def flat (acc : List (Str × Tok)) : List Nat := (acc.map fun p => cp p.1).flatten
theorem lens_snoc (acc : List (Str × Tok)) (v : Str) (t : Tok) : lens (acc ++ [(v, t)]) = lens acc + v.length := by simp [lens]
theorem flat_snoc (acc : List (Str × Tok)) (v : Str) (t : Tok) : flat (acc ++ [(v, t)]) = flat acc ++ cp v := by simp [flat]
theorem extract_cp (x : Str) (a b : Nat) : cp ⟨x.cps.extract a b⟩ = ((cp x).drop a).take (b - a) := by
  show (x.cps.extract a b).toList = _
  rw [Array.toList_extract, List.extract_eq_take_drop]
theorem piece {x : Str} {a b : Nat} {Q : Value → Shared → Prop} (hx : x.length ≤ 10000) (hb : b ≤ x.length) (h : ∀ y t tk, cp y = ((cp x).drop a).take (b - a) → y.length = b - a → Q (.str y t) { s with toks := tk }) :
    wpAny (model prog w) A (reSlice x.cps 0 a b) Q E s := by
  show wpAny _ _ (mkStr _) _ _ _
  have hl : (⟨x.cps.extract a b⟩ : Str).length = b - a := by
    show (x.cps.extract a b).size = _
    rw [Array.size_extract]
    have : x.length = x.cps.size := rfl
    lia
  refine wpAny_mkStr (h _ _ _ (extract_cp x a b) hl) ?_
  have e : sizeLine = 16777216 := by decide
  lia
theorem sub_loop {pa ca l : Addr} {src fl : Value} {code : Array Nat} {x y : Str} {tx ty : Tok} {g : Nat → List Nat} {K : Nat} (hK : K < 2 ^ 64) (hx : x.length ≤ 10000) (hy : y.length ≤ 2) (hpl : pa ≠ l) (hcl : ca ≠ l)
    (find : ∀ p, p ≤ x.cps.size → ∃ o, Ends K (Sre.forSearch code x.cps 0 p x.cps.size false) (Found o) ∧ Cut g x.cps (cp y) p o) :
    ∀ (k p n n0 : Nat) (acc : List (Str × Tok)) (s : Shared) (R : Result → Shared → Prop), x.cps.size < p + k → p ≤ x.cps.size → s.heap.get? pa = some (patObj src fl ca) → s.heap.get? ca = some (codeObj code) → s.heap.get? l = some (lst (strValues acc).toArray n0) →
      acc.length ≤ 2 * p → lens acc ≤ 2 * p →
      (∀ out t h' tk, Heap.ExtBut l s.heap h' → cp out = flat acc ++ g p → R (.ok (.ret (.str out t))) { s with heap := h', toks := tk }) →
      codeAny (model prog w) A (.builtin "re.Pattern.sub.loop" ⟨[.ref pa, .str x tx, .str y ty, rawInt 0, rawInt 0, rawInt n, rawInt p, rawInt p, .bool false, .ref l, .bool false], []⟩) R s
  | 0, p, n, n0, acc, s, R, hk, hp', _, _, _, _, _, _ => absurd hk (by lia)
  | k + 1, p, n, n0, acc, s, R, hk, hp', hp, hc, hl, ha, hle, h => by
    have hsz : x.length = x.cps.size := rfl
    refine codeAny_builtin entry_sub_loop ?_
    unfold Builtin.«re.Pattern.sub.loop»
    dsimp only [rawInt]
    refine wpAny_bind (whole_target hp hc ?_)
    unfold reLiteralCannotBeTurned
    refine wpAny_bind (wpAny_pure ?_)
    obtain ⟨o, hf, hcut⟩ := find p hp'
    refine wpAny_bind (next_found ⟨rfl, rfl, rfl, rfl⟩ hK (by rw [Int.toNat_natCast]; exact hf) ?_)
    cases o with
    | none =>
      have hg : g p = (cp x).drop p := hcut
      dsimp only
      rw [Int.toNat_natCast]
      have fin : ∀ (s₁ : Shared) (acc₁ : List (Str × Tok)) (n₁ : Nat) (Φ : PySem.Fin → Shared → Prop) (E₁ : Value → Shared → Prop) (A₁ : Around), s₁.heap.get? l = some (lst (strValues acc₁).toArray n₁) → lens acc₁ ≤ 1000000 → (∀ out t tk, cp out = flat acc₁ → Φ (.done (.ret (.str out t))) { s₁ with toks := tk }) →
          wpAny (model prog w) A₁ (do
            let joiner ← reSlice x.cps 0 0 0
            let items ← seqItems? (.ref l)
            if (items.getD #[]).isEmpty = true then do
                let text ← pure joiner
                if false = true then do
                    let r ← holding [text] do
                          let k ← mkInt (n : Int)
                          newTuple [text, k]
                    ret r
                  else ret text
              else do
                let text ← call (.builtin (if ((0 : Int) == 0) = true then "str.join" else "bytes.join")) [joiner, .ref l]
                if false = true then do
                    let r ← holding [text] do
                          let k ← mkInt (n : Int)
                          newTuple [text, k]
                    ret r
                  else ret text) Φ E₁ s₁ := by
        intro s₁ acc₁ n₁ Φ E₁ A₁ hl₁ hs₁ hΦ
        refine wpAny_bind (piece hx (Nat.zero_le _) fun j tj tk hj hjl => ?_)
        refine wpAny_bind (wpAny_seqItems hl₁ rfl ?_)
        cases acc₁ with
        | nil =>
          refine wpAny_bind (wpAny_pure (wpAny_pure ?_))
          exact hΦ _ _ _ (hj.trans (by simp [flat]))
        | cons p₁ acc₁ =>
          have hli : ({ s₁ with toks := tk } : Shared).heap.IsList l (strValues (p₁ :: acc₁)).toArray := ⟨_, hl₁, rfl, n₁, rfl⟩
          refine wpAny_bind (SC.join (texts := (p₁ :: acc₁).map (·.1)) hli rfl (join_ok2 (by rw [List.map_map]; exact hs₁) (by lia)) fun t' k' => wpAny_pure ?_)
          rw [show Txt.join j ((p₁ :: acc₁).map (·.1)) = Str.join j ((p₁ :: acc₁).map (·.1)) from StrLaws.glued_eq_join _ _]
          refine hΦ _ _ _ ?_
          rw [cp_join, show cp j = [] by rw [hj]; simp, joinL_nil, List.map_map]
          rfl
      by_cases hlt : p < x.cps.size
      · rw [if_pos hlt]
        refine wpAny_bind (piece hx (Nat.le_refl _) fun v tv tk hv hvl => ?_)
        refine wpAny_bind (push_piece hl (by lia) fun h' n' hl' hk' => ?_)
        refine fin _ (acc ++ [(v, tv)]) n' _ _ _ hl' (by rw [lens_snoc]; lia) fun out t tk hout => h _ _ _ _ hk' ?_
        rw [hout, flat_snoc, hv, hg, List.take_of_length_le (by rw [List.length_drop, cp_length]; lia)]
      · rw [if_neg hlt]
        refine fin _ acc n0 _ _ _ hl (by lia) fun out t tk hout => h _ _ s.heap _ (Heap.ExtBut.refl _ _) ?_
        rw [hout, hg, List.drop_of_length_le (by rw [cp_length]; lia), List.append_nil]
    | some q =>
      obtain ⟨a, b⟩ := q
      obtain ⟨q1, q2, q3, q4⟩ := hcut
      intro m hma hmb
      dsimp only
      have hba : (b == a) = false := by simp; lia
      rw [hma, hmb, Int.toNat_natCast, hba]
      have tail : ∀ (s₁ : Shared) (acc₁ : List (Str × Tok)) (n₁ : Nat) (A₁ : Around), s₁.heap.get? l = some (lst (strValues acc₁).toArray n₁) → s₁.heap.get? pa = some (patObj src fl ca) → s₁.heap.get? ca = some (codeObj code) →
          acc₁.length + 1 ≤ 2 * b → lens acc₁ + 2 ≤ 2 * b → (∀ out t h' tk, Heap.ExtBut l s₁.heap h' → cp out = flat acc₁ ++ cp y ++ g b → R (.ok (.ret (.str out t))) { s₁ with heap := h', toks := tk }) →
          wpAny (model prog w) A₁ (do
            updateSeq l (·.push (.str y ty))
            again (.builtin "re.Pattern.sub.loop" ⟨[.ref pa, .str x tx, .str y ty, .int 0 0, .int 0 0, .int ((n : Int) + 1) 0, .int (b : Int) 0, .int (b : Int) 0, .bool false, .ref l, .bool false], []⟩))
            (fun fin s' => match fin with | .done f => R (.ok f) s' | .again c' => c'.quiet = true ∧ codeAny (model prog w) A c' R s') (fun e s' => R (.error e) s') s₁ := by
        intro s₁ acc₁ n₁ A₁ hl₁ hp₁ hc₁ h1 h2 h3
        refine wpAny_bind (push_piece hl₁ (by lia) fun h' n' hl' hk' => wpAny_pure ⟨plainId_quiet plain_sub_loop _, ?_⟩)
        refine sub_loop hK hx hy hpl hcl find k b (n + 1) n' (acc₁ ++ [(y, ty)]) _ R (by lia) q3 (hk' _ _ hpl hp₁) (hk' _ _ hcl hc₁) hl' (by simp; lia) (by rw [lens_snoc]; lia) fun out t h'' tk hk'' hout => h3 _ _ _ _ (hk'.trans hk'') ?_
        rw [hout, flat_snoc]
      by_cases hlt : p < a
      · rw [if_pos hlt]
        refine wpAny_bind (piece hx (by lia) fun v tv tk hv hvl => ?_)
        refine wpAny_bind (push_piece hl (by lia) fun h' n' hl' hk' => ?_)
        refine tail _ (acc ++ [(v, tv)]) n' _ hl' (hk' _ _ hpl hp) (hk' _ _ hcl hc) (by simp; lia) (by rw [lens_snoc]; lia) fun out t h'' tk hk'' hout => h _ _ _ _ (hk'.trans hk'') ?_
        rw [hout, flat_snoc, hv, q4]; simp
      · rw [if_neg hlt]
        refine tail _ acc n0 _ hl hp hc (by lia) (by lia) fun out t h'' tk hk'' hout => h _ _ _ _ hk'' ?_
        rw [hout, q4, show a - p = 0 by lia]; simp
end
end
section
open PySem PySem.W PyProof.Rows
open Builtin Builtin.Re Builtin.Str
set_option autoImplicit false
set_option linter.unusedVariables false
set_option maxRecDepth 100000
theorem plainAttrs_pat : PlainAttrs "re.Pattern" :=
  ⟨⟨"object.__getattribute__", by rw [typeLookup_type, builtinLookup_eq_fast]; kernel_rfl, by decide +kernel⟩, by rw [typeLookup_type, builtinLookup_eq_fast]; kernel_rfl⟩
theorem slot_pat_sub : Slot "re.Pattern" "sub" "re.Pattern.sub" :=
  .of (owner := "re.Pattern") (n := "sub") (by rw [typeLookup_type, builtinLookup_eq_fast]; kernel_rfl) (by decide +kernel) (by decide +kernel) (by decide +kernel)
    (by first | exact .inl (by decide +kernel) | exact .inr (by decide +kernel)) (by rw [isSubtype_type]; kernel_rfl)
theorem type_pat_sub : typeOf (.builtin "re.Pattern.sub") = pure (.type "method_descriptor") := by show builtinType _ = _; rw [builtinType_eq_fast]; kernel_rfl
theorem entry_pat_sub : entryFor table "re.Pattern.sub" = some Builtin.«re.Pattern.sub» := entryFor_of_tree (by kernel_rfl)
theorem args_pat_sub (a b c : Value) : argsOk "re.Pattern.sub" ⟨[a, b, c], []⟩ := by unfold argsOk; kernel_rfl
theorem no_call_str : typeLookup (.type "str") "__call__" = pure none := by rw [typeLookup_type, builtinLookup_eq_fast]; kernel_rfl
theorem named_sub (id : String) (a b : Value) : reNamed id "sub" ["repl", "string", "count"] 2 [a, b] [] = pure [some a, some b, none] := rfl
end
section
open PySem PySem.W PyProof.Rows
open Builtin Builtin.Re Builtin.Str
set_option autoImplicit false
set_option linter.unusedVariables false
set_option maxRecDepth 100000
section
variable {prog : Program} {w : World} {A : Around} {E : Value → Shared → Prop} {s : Shared}
theorem sub_call {pa ca : Addr} {src fl : Value} {code : Array Nat} {x y : Str} {tx ty : Tok} {g : Nat → List Nat} {K : Nat} {Q : Value → Shared → Prop} (hK : K < 2 ^ 64) (hx : x.length ≤ 10000) (hy : y.length ≤ 2) (hb : y.cps.contains 92 = false)
    (hp : s.heap.get? pa = some (patObj src fl ca)) (hc : s.heap.get? ca = some (codeObj code))
    (find : ∀ p, p ≤ x.cps.size → ∃ o, Ends K (Sre.forSearch code x.cps 0 p x.cps.size false) (Found o) ∧ Cut g x.cps (cp y) p o)
    (h : ∀ out t h' tk, (∀ b o, s.heap.get? b = some o → h'.get? b = some o) → cp out = g 0 → Q (.str out t) { s with heap := h', toks := tk }) :
    wpAny (model prog w) A (call (.builtin "re.Pattern.sub") [.ref pa, .str y ty, .str x tx]) Q E s := by
  have hT : s.TypeIs (.ref pa) "re.Pattern" := ⟨_, hp, rfl⟩
  refine wpAny_call (codeAny_call_builtin slot_pat_sub.plain entry_pat_sub (slot_pat_sub.check _ _ _ _ _ _ _ _ hT (args_pat_sub _ _ _) ?_))
  unfold Builtin.«re.Pattern.sub» reSubstitute
  refine wpAny_bind (wpAny_of_eq (named_sub _ _ _) ?_)
  refine wpAny_bind (wpAny_pure ?_)
  refine wpAny_bind (wpAny_specialOf (typeIs_str s y ty) no_call_str ?_)
  refine wpAny_bind (wpAny_pure ?_)
  refine wpAny_bind (wpAny_pure ?_)
  rw [hb]
  refine wpAny_bind (wpAny_pure ?_)
  refine wpAny_bind (wpAny_holding (whole_target hp hc ?_))
  refine wpAny_bind (wpAny_newList ?_ (Nat.zero_le _))
  refine wpAny_pure ?_
  have hlp : pa ≠ s.heap.objs.size := Nat.ne_of_lt (Heap.lt_size hp)
  have hlc : ca ≠ s.heap.objs.size := Nat.ne_of_lt (Heap.lt_size hc)
  refine ⟨plainId_quiet plain_sub_loop _, ?_⟩
  refine sub_loop hK hx hy hlp hlc find (x.cps.size + 1) 0 0 0 [] _ _ (by lia) (Nat.zero_le _) (Heap.get?_push_of_some _ hp) (Heap.get?_push_of_some _ hc) (Heap.get?_push_size _ rfl) (Nat.zero_le _) (Nat.zero_le _) fun out t h' tk hk hout => ?_
  refine h out t h' tk (fun b o e => hk b o (Nat.ne_of_lt (Heap.lt_size e)) (Heap.get?_push_of_some _ e)) (by rw [hout]; rfl)
end
end
section
open PySem PySem.W PyProof.Rows
open Builtin Builtin.Str
set_option autoImplicit false
set_option linter.unusedVariables false
set_option maxRecDepth 100000
set_option maxHeartbeats 1000000
theorem crlf_len : ∀ l : List Nat, (crlf l).length ≤ 2 * l.length
  | [] => by rw [crlf]; exact Nat.zero_le _
  | [c] => by
    by_cases h : c = 13 ∨ c = 10
    · rcases h with rfl | rfl
      · rw [crlf_13 (by intro r' e; cases e), crlf]; simp
      · rw [crlf_10, crlf]; simp
    · rw [crlf_other (fun e => h (.inl e)) (fun e => h (.inr e)), crlf]; simp
  | c :: d :: r => by
    have h1 := crlf_len (d :: r)
    have h2 := crlf_len r
    by_cases h : c = 13
    · subst h
      by_cases h' : d = 10
      · subst h'
        rw [crlf]; simp; lia
      · rw [crlf_13 (by intro r' e; exact h' (List.cons.inj e).1)]
        simp at h1 ⊢; lia
    · by_cases h' : c = 10
      · subst h'
        rw [crlf_10]
        simp at h1 ⊢; lia
      · rw [crlf_other h h']
        simp at h1 ⊢; lia
theorem mg_CRLF (w : World) : mgK w (Str.ofString "CRLF") = some (.str (Str.ofString "\r\n") 575) := by kernel_rfl
theorem pat_198 (w : World) : ∃ src fl, (KK w.params).lookup 198 = some (patObj src fl 197) := ⟨_, _, rfl⟩
theorem pat_203 (w : World) : ∃ src fl, (KK w.params).lookup 203 = some (patObj src fl 202) := ⟨_, _, rfl⟩
theorem pat_197 (w : World) : (KK w.params).lookup 197 = some (codeObj code1) := rfl
theorem pat_202 (w : World) : (KK w.params).lookup 202 = some (codeObj code2) := rfl
section
variable {prog : Program} {w : World} {mb : Str → Option Value} {A : Around} {E : Value → Shared → Prop} {s : Shared} {P : Part} {Q : Value → Shared → Prop}
theorem quotedata_spec {x : Str} {t : Tok} (X : Bs w mb P) (hP : P.on s.heap) (hA : Rm A 4) (hx : x.length ≤ 5000)
    (h : ∀ y t P' s', Ret ⟨s, s.heap.get?, P⟩ P' s' → cp y = dots true (crlf (cp x)) → Q (.str y t) s') :
    wpAny (model prog w) A (call (.ref 210) [.str x t]) Q E s := by
  refine enter (binds := [(Str.ofString "data", .str x t)]) X (fun _ _ e => e) hP hA.lt (a := 210) rfl (by kernel_rfl) rfl rfl (by rfl) (by rfl) rfl rfl rfl ?_
  intro L s₁ E' F env
  have hA' : Rm (A.deeper env) 3 := hA.deeper
  repeat kspl_open e
  obtain ⟨src1, fl1, p1⟩ := pat_198 w
  obtain ⟨src2, fl2, p2⟩ := pat_203 w
  have K := F.K X
  refine getMethod_builtin ⟨_, K _ _ p1, rfl⟩ plainAttrs_pat slot_pat_sub type_pat_sub (fun a e => by cases e; exact ⟨_, K _ _ p1, rfl⟩) ?_
  repeat kspl_open e
  have K := Fm.K ‹_› X
  refine getMethod_builtin ⟨_, K _ _ p2, rfl⟩ plainAttrs_pat slot_pat_sub type_pat_sub (fun a e => by cases e; exact ⟨_, K _ _ p2, rfl⟩) ?_
  repeat kspl_open e
  refine ldG X (by assumption) rfl rfl rfl (mg_CRLF w) ?_ rfl
  repeat kspl_open e
  have K := Fm.K ‹_› X
  refine sub_call (y := Str.ofString "\r\n") (g := g2 x.cps) (K := 4 * x.cps.size + 40) (by have : x.length = x.cps.size := rfl; lia) (by lia) (by decide) (by decide +kernel) (K _ _ p2) (K _ _ (pat_202 w)) (fun p hp => find2 hp) fun out t₂ h' tk hk hout => ?_
  have F₂ := Fm.keeps ‹_› (tk := tk) hk
  have hl : out.length ≤ 10000 := by
    have e1 : cp out = crlf (cp x) := hout
    have := crlf_len (cp x)
    rw [← e1, cp_length, cp_length] at this
    lia
  repeat kspl_open e
  have K := Fm.K ‹_› X
  refine sub_call (y := Str.ofString "..") (g := g1 out.cps) (K := 4 * out.cps.size + 10) (by have : out.length = out.cps.size := rfl; lia) (by lia) (by decide) (by decide +kernel) (K _ _ p1) (K _ _ (pat_197 w)) (fun p hp => find1 hp) fun out' t₃ h'' tk' hk' hout' => ?_
  have F₃ := Fm.keeps ‹_› (tk := tk') hk'
  refine h _ _ _ _ F₃.ret ?_
  have e1 : cp out = crlf (cp x) := hout
  rw [hout', ← e1]; rfl
end
end
section
open PySem PySem.W PyProof.Rows
open Builtin Builtin.Str
set_option autoImplicit false
set_option linter.unusedVariables false
set_option maxRecDepth 100000
set_option maxHeartbeats 1000000
/-! the facts of map -/
theorem sub_map : isSubtype (.type "map") (.type "map") = pure true := by rw [isSubtype_type]; kernel_rfl
theorem mro_map : mroOf (.type "map") = pure [.type "map", .type "object"] := by rw [mroOf_type]; kernel_rfl
theorem lookup_map_new : typeLookup (.type "map") "__new__" = pure (some (.builtin "map.__new__")) := by rw [typeLookup_type, builtinLookup_eq_fast]; kernel_rfl
theorem slot_map_init : Slot "map" "__init__" "object.__init__" :=
  .of (owner := "object") (n := "__init__") (by rw [typeLookup_type, builtinLookup_eq_fast]; kernel_rfl) (by decide +kernel) (by decide +kernel) (by decide +kernel)
    (by first | exact .inl (by decide +kernel) | exact .inr (by decide +kernel)) (by rw [isSubtype_type]; kernel_rfl)
theorem slot_map_iter : Slot "map" "__iter__" "map.__iter__" :=
  .of (owner := "map") (n := "__iter__") (by rw [typeLookup_type, builtinLookup_eq_fast]; kernel_rfl) (by decide +kernel) (by decide +kernel) (by decide +kernel)
    (by first | exact .inl (by decide +kernel) | exact .inr (by decide +kernel)) (by rw [isSubtype_type]; kernel_rfl)
theorem slot_map_next : Slot "map" "__next__" "map.__next__" :=
  .of (owner := "map") (n := "__next__") (by rw [typeLookup_type, builtinLookup_eq_fast]; kernel_rfl) (by decide +kernel) (by decide +kernel) (by decide +kernel)
    (by first | exact .inl (by decide +kernel) | exact .inr (by decide +kernel)) (by rw [isSubtype_type]; kernel_rfl)
theorem entry_map_new : entryFor table "map.__new__" = some Builtin.«map.__new__» := entryFor_of_tree (by kernel_rfl)
theorem entry_map_next : entryFor table "map.__next__" = some Builtin.«map.__next__» := entryFor_of_tree (by kernel_rfl)
theorem entry_map_iter : entryFor table "map.__iter__" = some Builtin.«dict_keyiterator.__iter__» :=
  entryFor_alias (id' := "dict_keyiterator.__iter__") (by kernel_rfl) (by first | rfl | decide +kernel | (unfold String.splitOn; simp +decide [String.splitOnAux])) (by decide +kernel) (by kernel_rfl)
theorem args_map_next (a : Value) : argsOk "map.__next__" ⟨[a], []⟩ := by unfold argsOk; kernel_rfl
theorem args_map_iter (a : Value) : argsOk "map.__iter__" ⟨[a], []⟩ := by unfold argsOk; kernel_rfl
theorem called_map : TypeCalled "map" "map.__new__" "object.__init__" :=
  ⟨by decide +kernel, by decide +kernel, ⟨_, _, mro_map⟩, madeBy_type mro_map lookup_map_new (by decide +kernel), by decide +kernel, by rw [isSubtype_type]; kernel_rfl, slot_map_init⟩
theorem typeCall_map_2 (a b : Value) : checkTypeCall "map" ⟨[a, b], []⟩ = pure () := by kernel_rfl
theorem newCall_map_2 (a b : Value) : checkBuiltinCall "map.__new__" ⟨[.type "map", a, b], []⟩ = pure () := by kernel_rfl
theorem args_object_init_3 (a b c : Value) : argsOk "object.__init__" ⟨[a, b, c], []⟩ := by unfold argsOk; kernel_rfl
theorem map_no_len : typeLookup (.type "map") "__len__" = pure none := by rw [typeLookup_type, builtinLookup_eq_fast]; kernel_rfl
theorem map_no_hint : typeLookup (.type "map") "__length_hint__" = pure none := by rw [typeLookup_type, builtinLookup_eq_fast]; kernel_rfl
end
section
open PySem PySem.W PyProof.Rows
open Builtin Builtin.Str
set_option autoImplicit false
set_option linter.unusedVariables false
set_option maxRecDepth 100000
set_option maxHeartbeats 1000000
noncomputable def mapObj (t : Addr) (f : Value) : Obj := { cls := .type "map", data := .fields #[.ref t, f] }
section
variable {prog : Program} {w : World} {A : Around} {E : Value → Shared → Prop} {s : Shared}
theorem push3 {h : Heap} {o1 o2 o3 : Obj} (f1 : o1.isFreed = false) (f2 : o2.isFreed = false) (f3 : o3.isFreed = false) :
    ((h.push o1).push o2).objs.size = h.objs.size + 2 ∧ (((h.push o1).push o2).push o3).get? h.objs.size = some o1 ∧ (((h.push o1).push o2).push o3).get? (h.objs.size + 1) = some o2 ∧ (((h.push o1).push o2).push o3).get? (h.objs.size + 2) = some o3 ∧
      (((h.push o1).push o2).push o3).objs.size = h.objs.size + 3 ∧ ∀ b o, h.get? b = some o → (((h.push o1).push o2).push o3).get? b = some o := by
  have s1 : (h.push o1).objs.size = h.objs.size + 1 := Heap.size_push ..
  have s2 : ((h.push o1).push o2).objs.size = h.objs.size + 2 := (Heap.size_push ..).trans (by rw [s1])
  refine ⟨s2, ?_, ?_, ?_, (Heap.size_push ..).trans (by rw [s2]), fun b o e => Heap.get?_push_of_some _ (Heap.get?_push_of_some _ (Heap.get?_push_of_some _ e))⟩
  · exact Heap.get?_push_of_some _ (Heap.get?_push_of_some _ (Heap.get?_push_size _ f1))
  · rw [← s1]; exact Heap.get?_push_of_some _ (Heap.get?_push_size _ f2)
  · rw [← s2]; exact Heap.get?_push_size _ f3
theorem meets_map_new (f : Value) (l : Addr) (items : Array Value) (n : Nat) :
    Meets (Builtin.«map.__new__» ⟨[.type "map", f, .ref l], []⟩) (fun _ R s => s.heap.get? l = some (lst items n) ∧
      (∀ h', h'.get? s.heap.objs.size = some { cls := .type "list_iterator", data := .fields #[.ref l, .int 0 0] } → h'.get? (s.heap.objs.size + 1) = some (tpl #[.ref s.heap.objs.size] 0) →
        h'.get? (s.heap.objs.size + 2) = some (mapObj (s.heap.objs.size + 1) f) → h'.objs.size = s.heap.objs.size + 3 → (∀ b o, s.heap.get? b = some o → h'.get? b = some o) →
        R (.ok (.ret (.ref (s.heap.objs.size + 2)))) { s with heap := h' })) :=
  .of_wp fun prog w A R s ⟨hl, h⟩ => by
    have hL : s.heap.IsList l items := ⟨_, hl, rfl, n, rfl⟩
    unfold Builtin.«map.__new__»
    refine wpAny_bind ?_
    unfold SmallTypes.newClass
    refine wpAny_bind (wpAny_pure ?_)
    refine wpAny_bind (wpAny_of_eq sub_map (wpAny_pure ?_))
    refine wpAny_bind (wpAny_pure ?_)
    refine wpAny_bind (wpAny_bind (wpAny_bind ?_))
    refine wpAny_bind (wpAny_holding (wpAny_pyIter_list hL ?_))
    refine wpAny_pure (wpAny_pure (wpAny_pure ?_))
    refine wpAny_bind (wpAny_newTuple (items := [.ref s.heap.objs.size]) ?_ (sl_of (show 1 ≤ 10000 by decide)))
    refine wpAny_bind ?_
    show wpAny _ _ (newObj (.type "map") (.fields #[.ref _, f])) _ _ _
    refine wpAny_newObj_type ?_ (by size_fits)
    refine wpAny_pure ⟨_, rfl, ?_⟩
    obtain ⟨e1, e2, e3, e4, e5, e6⟩ := push3 (h := s.heap) (o1 := { cls := .type "list_iterator", data := .fields #[.ref l, .int 0 0] }) (o2 := tpl #[.ref s.heap.objs.size] 0) (o3 := mapObj (s.heap.objs.size + 1) f) rfl rfl rfl
    have e0 : (s.heap.push { cls := .type "list_iterator", data := .fields #[.ref l, .int 0 0] }).objs.size = s.heap.objs.size + 1 := Heap.size_push ..
    show R (.ok (.ret (.ref ((s.heap.push { cls := .type "list_iterator", data := .fields #[.ref l, .int 0 0] }).push (tpl #[.ref s.heap.objs.size] 0)).objs.size)))
      { s with heap := ((s.heap.push { cls := .type "list_iterator", data := .fields #[.ref l, .int 0 0] }).push (tpl #[.ref s.heap.objs.size] 0)).push (mapObj (s.heap.push { cls := .type "list_iterator", data := .fields #[.ref l, .int 0 0] }).objs.size f) }
    rw [e1, e0]
    exact h _ e2 e3 e4 e5 e6
theorem call_map {f : Value} {l : Addr} {items : Array Value} {n : Nat} {Q : Value → Shared → Prop} (hl : s.heap.get? l = some (lst items n))
    (h : ∀ h', h'.get? s.heap.objs.size = some { cls := .type "list_iterator", data := .fields #[.ref l, .int 0 0] } → h'.get? (s.heap.objs.size + 1) = some (tpl #[.ref s.heap.objs.size] 0) →
        h'.get? (s.heap.objs.size + 2) = some (mapObj (s.heap.objs.size + 1) f) → h'.objs.size = s.heap.objs.size + 3 → (∀ b o, s.heap.get? b = some o → h'.get? b = some o) → Q (.ref (s.heap.objs.size + 2)) { s with heap := h' }) :
    wpAny (model prog w) A (call (.type "map") [f, .ref l]) Q E s := by
  refine callType_new called_map (by decide) (typeCall_map_2 _ _) (newCall_map_2 _ _) (fun obj => args_object_init_3 obj _ _) entry_map_new (meets_map_new f l items n) ⟨hl, fun h' e1 e2 e3 e4 e5 => ?_⟩
  exact ⟨⟨_, e3, rfl⟩, h h' e1 e2 e3 e4 e5⟩
/-- one more item of a map over a list -/
theorem map_next_item {I T it l : Addr} {f : Value} {i : Nat} {items : Array Value} {x : Value} {k : Nat} {Q : Option Value → Shared → Prop}
    (hI : s.heap.get? I = some (mapObj T f)) (hT : s.heap.get? T = some (tpl #[.ref it] k)) (hit : s.heap.IsListIter it l i) (hl : s.heap.IsList l items) (hx : items[i]? = some x) (hne : I ≠ it)
    (hf : ∀ h' E₁, h'.IsListIter it l (i + 1) → Heap.SameBut it s.heap h' → wpAny (model prog w) A.in1 (call f [x]) (fun v s' => Q (some v) s') E₁ { s with heap := h' }) :
    wpAny (model prog w) A (pyNext (.ref I)) Q E s := by
  have hTy : s.TypeIs (.ref I) "map" := ⟨_, hI, rfl⟩
  unfold pyNext
  refine wpAny_bind (wpAny_attempt (wpAny_callSpecial?_slot (name := Str.ofString "__next__") hTy slot_map_next
    (wpAny_call_entry slot_map_next hTy entry_map_next ?_ (args_map_next _))))
  show wpAny _ _ (field (.ref I) 0 >>= _) _ _ s
  refine wpAny_bind (wpAny_field hI rfl (x := .ref T) rfl ?_)
  refine wpAny_bind (wpAny_seqItems hT rfl ?_)
  dsimp only
  rw [← Array.forIn_toList, List.forIn_cons]
  refine wpAny_bind (wpAny_bind (wpAny_bind (wpAny_holding (wpAny_nextOf_list_item hit hl hx fun h' hit' hs' => ?_))))
  refine wpAny_pure ?_
  dsimp only
  rw [List.forIn_nil]
  refine wpAny_pure ?_
  refine wpAny_bind (wpAny_field ((hs'.2 I hne).trans hI) rfl (x := f) rfl ?_)
  refine wpAny_bind (wpAny_holding (wpAny_mono (hf h' _ hit' hs') (fun v s' hq => ?_) fun _ _ e => e))
  refine wpAny_bind (wpAny_letGo (wpAny_pure ⟨_, rfl, wpAny_pure hq⟩))
/-- the end of a map over a list -/
theorem map_next_end {I T it l : Addr} {f : Value} {i : Nat} {items : Array Value} {k : Nat} {Q : Option Value → Shared → Prop} (hh : A.handled = none)
    (hI : s.heap.get? I = some (mapObj T f)) (hT : s.heap.get? T = some (tpl #[.ref it] k)) (hit : s.heap.IsListIter it l i) (hl : s.heap.IsList l items) (hx : items[i]? = none)
    (hQ : ∀ h', Heap.ExtBut it s.heap h' → Q none { s with heap := h' }) :
    wpAny (model prog w) A (pyNext (.ref I)) Q E s := by
  have hTy : s.TypeIs (.ref I) "map" := ⟨_, hI, rfl⟩
  unfold pyNext
  refine wpAny_bind (wpAny_attempt (wpAny_callSpecial?_slot (name := Str.ofString "__next__") hTy slot_map_next
    (wpAny_call_entry slot_map_next hTy entry_map_next ?_ (args_map_next _))))
  show wpAny _ _ (field (.ref I) 0 >>= _) _ _ s
  refine wpAny_bind (wpAny_field hI rfl (x := .ref T) rfl ?_)
  refine wpAny_bind (wpAny_seqItems hT rfl ?_)
  dsimp only
  rw [← Array.forIn_toList, List.forIn_cons]
  refine wpAny_bind (wpAny_bind (wpAny_bind (wpAny_holding (wpAny_nextOf_list_end hh hit hl hx fun h' x he' hx' => ?_))))
  obtain ⟨o, ho, hc⟩ := hx'
  refine wpAny_bind (wpAny_isInstance (T := "StopIteration") (b := true) ⟨o, ho, hc⟩ isSubtype_stop ?_)
  exact wpAny_pure (hQ _ he')
theorem iter_map {I T : Addr} {f : Value} {Q : Value → Shared → Prop} (hI : s.heap.get? I = some (mapObj T f)) (h : Q (.ref I) s) : wpAny (model prog w) A (pyIter (.ref I)) Q E s := by
  have hT : s.TypeIs (.ref I) "map" := ⟨_, hI, rfl⟩
  refine wpAny_pyIter_slot hT slot_map_iter (wpAny_call_entry slot_map_iter hT entry_map_iter ?_ (args_map_iter _))
  show wpAny _ _ (ret (.ref I)) _ _ s
  exact wpAny_pure ⟨_, rfl, "map", _, hT, slot_map_next.lookup, h⟩
end
end
section
open PySem PySem.W PyProof.Rows
open Builtin Builtin.Str
set_option autoImplicit false
set_option linter.unusedVariables false
set_option maxRecDepth 100000
set_option maxHeartbeats 1000000
section
variable {prog : Program} {w : World} {mb : Str → Option Value} {A : Around} {E : Value → Shared → Prop} {s : Shared} {P : Part} {env : Env}
variable {c : Cx} {L : Addr} {m : Str → Option Value} {M : List (Addr × Obj)} {Q : Value → Shared → Prop}
noncomputable def itObj (l : Addr) : Obj := { cls := .type "list_iterator", data := .fields #[.ref l, .int 0 0] }
/-- map(f, a list), three new objects -/
theorem z_map {f : Value} {l : Addr} {vs : List Value} {n : Nat} (F : Fm c P L m M s) (hl : P l = some (lst vs.toArray n))
    (h : ∀ I T it s', it ≠ l → Fm c P L m ((I, mapObj T f) :: (T, tpl #[.ref it] 0) :: (it, itObj l) :: M) s' → Q (.ref I) s') : wpAny (model prog w) A (call (.type "map") [f, .ref l]) Q E s := by
  refine call_map (F.on _ _ hl) fun h' e1 e2 e3 e4 e5 => ?_
  have F₀ := F.keeps (tk := s.toks) e5
  have hlt : ∀ b o, s.heap.get? b = some o → b < s.heap.objs.size := fun b o e => Heap.lt_size e
  have out : ∀ k, c.O (s.heap.objs.size + k) = none ∧ P (s.heap.objs.size + k) = none ∧ s.heap.objs.size + k ≠ L ∧ ∀ p ∈ M, p.1 ≠ s.heap.objs.size + k := fun k => by
    refine ⟨?_, ?_, ?_, fun p hp q => ?_⟩
    · cases e : c.O (s.heap.objs.size + k) with
      | none => rfl
      | some o => exact absurd (hlt _ _ (F.old _ _ e)) (Nat.not_lt.mpr (Nat.le_add_right _ _))
    · cases e : P (s.heap.objs.size + k) with
      | none => rfl
      | some o => exact absurd (hlt _ _ (F.on _ _ e)) (Nat.not_lt.mpr (Nat.le_add_right _ _))
    · intro e
      have := F.ns.lt
      rw [← e] at this
      exact absurd this (Nat.not_lt.mpr (Nat.le_add_right _ _))
    · have := hlt _ _ (F.mu p hp)
      rw [q] at this
      exact absurd this (Nat.not_lt.mpr (Nat.le_add_right _ _))
  have o0 := out 0
  have o1 := out 1
  have o2 := out 2
  have F₁ := F₀.learnM (a := s.heap.objs.size) e1 o0.2.1 o0.1 o0.2.2.1 o0.2.2.2
  have F₂ := F₁.learnM (a := s.heap.objs.size + 1) e2 o1.2.1 o1.1 o1.2.2.1 (fun p hp => by
    rcases List.mem_cons.mp hp with rfl | hp
    · exact Nat.ne_of_lt (Nat.lt_succ_self _)
    · exact o1.2.2.2 p hp)
  have F₃ := F₂.learnM (a := s.heap.objs.size + 2) e3 o2.2.1 o2.1 o2.2.2.1 (fun p hp => by
    rcases List.mem_cons.mp hp with rfl | hp
    · exact Nat.ne_of_lt (Nat.lt_succ_self _)
    · rcases List.mem_cons.mp hp with rfl | hp
      · exact Nat.ne_of_lt (Nat.lt_succ_of_lt (Nat.lt_succ_self _))
      · exact o2.2.2.2 p hp)
  exact h _ _ _ _ (Nat.ne_of_gt (hlt _ _ (F.on _ _ hl))) F₃
theorem collect_map {A : Around} {I : Addr} {T : Addr} {f : Value} {fp wr : List Addr} {G : Array GenState → Array GenState → Prop} {n : Nat} {Pv : Nat → Value → Prop} {St : Nat → Shared → Prop} {Q : List Value → Shared → Prop}
    (W : WalksS prog w A.in1 I fp wr G n Pv St) (hT : ∀ i s, St i s → s.heap.get? I = some (mapObj T f)) (hst : St 0 s) (hfp : ∀ b ∈ fp, b < s.heap.objs.size) (hI : I ∈ fp) (hn : n ≤ sizeLine)
    (hQ : ∀ s' acc, Moved wr G s s' → ItemsOf Pv acc n → Q acc.toList s') : wpAny (model prog w) A (collect (.ref I)) Q E s := by
  have hSf : s.heap.objs.size ∉ fp := fun hm => Nat.lt_irrefl _ (hfp _ hm)
  have hSI : s.heap.objs.size ≠ I := fun e => hSf (e ▸ hI)
  unfold collect
  refine wpAny_bind (wpAny_runValue (codeAny_builtin PySem.F.entry_proto_collect ?_))
  rw [Around.under_plainId PySem.F.plain_proto_collect _]
  refine wpAny_bind (wpAny_newList (items := []) ?_ (Nat.zero_le _))
  refine wpAny_pure ⟨plainId_quiet PySem.F.plain_list_iadd _, codeAny_builtin PySem.F.entry_list_iadd ?_⟩
  rw [Around.under_plainId PySem.F.plain_list_iadd _]
  have st₁ := W.frame 0 s (s.heap.push (lst #[] 0)) s.toks hst (Nat.le_refl _) fun b _ o e => Heap.get?_push_of_some _ e
  have ty₁ : ({ s with heap := s.heap.push (lst #[] 0) } : Shared).TypeIs (.ref I) "map" := ⟨_, hT 0 _ st₁, rfl⟩
  show wpAny _ A.in1 (Builtin.List.listExtendWith (.ref s.heap.objs.size) (.ref I) (.ref s.heap.objs.size)) _ _ _
  unfold Builtin.List.listExtendWith
  refine wpAny_bind (wpAny_typeOf ty₁ ?_)
  have hs : Builtin.List.listSameRef (.ref s.heap.objs.size) (.ref I) = false := by simp [Builtin.List.listSameRef, hSI]
  have n1 : (Value.type "map" == Value.type "list") = false := by decide
  have n2 : (Value.type "map" == Value.type "tuple") = false := by decide
  simp only [hs, n1, n2, Bool.or_false, Bool.false_eq_true, if_false]
  refine wpAny_bind (W.self 0 _ _ _ st₁ ?_)
  refine wpAny_bind (wpAny_holding ?_)
  unfold Builtin.List.listLengthHint
  refine wpAny_bind (wpAny_specialOf ty₁ map_no_len ?_)
  show wpAny _ A.in1 (specialOf (Value.ref I) (Str.ofString "__length_hint__") >>= _) _ _ _
  refine wpAny_bind (wpAny_specialOf ty₁ map_no_hint (wpAny_pure ?_))
  show wpAny _ A.in1 (rule "list.extend.makes-room" >>= fun _ => Builtin.List.listTouch (.ref s.heap.objs.size) >>= fun _ => again (.builtin "list.extend.loop" ⟨[.ref s.heap.objs.size, .ref I, .ref s.heap.objs.size], []⟩)) _ _ _
  refine wpAny_bind (wpAny_rule (wpAny_bind ?_))
  have l₁ : (s.heap.push (lst #[] 0)).get? s.heap.objs.size = some (lst #[] 0) := Heap.get?_push_size _ rfl
  show wpAny _ A.in1 (updateSeq s.heap.objs.size (·.push .none) >>= fun _ => updateSeq s.heap.objs.size (·.pop)) _ _ _
  refine wpAny_bind (wpAny_updateSeq l₁ rfl ?_ (by decide) (by decide))
  have l₂ := IsL.update (show IsL (s.heap.push (lst #[] 0)) s.heap.objs.size #[] 0 from l₁) (·.push .none)
  refine wpAny_updateSeq l₂ rfl ?_ (by decide) (by decide)
  have l₃ := IsL.update l₂ (·.pop)
  have oth : Heap.ExtBut s.heap.objs.size (s.heap.push (lst #[] 0)) (((s.heap.push (lst #[] 0)).update s.heap.objs.size (Obj.mapSeq (·.push .none))).update s.heap.objs.size (Obj.mapSeq (·.pop))) :=
    (Heap.SameBut.update ..).extBut.trans (Heap.SameBut.update ..).extBut
  refine wpAny_pure ⟨plainId_quiet PySem.F.plain_extend_loop _, codeAny_extend_loopS W hn _ hSf _ n 0 _ _ _ rfl (Nat.zero_le _)
    (W.frame 0 ({ s with heap := s.heap.push (lst #[] 0) } : Shared) _ s.toks st₁ (Nat.le_refl _) fun b hb o e => oth b o (fun q => hSf (q ▸ hb)) e) l₃ (ItemsOf.nil Pv) fun s' acc' c' hm hS' hacc => ?_⟩
  show wpAny _ A (load s.heap.objs.size >>= _) _ _ s'
  refine wpAny_bind (wpAny_load hS' (wpAny_pure ?_))
  refine hQ s' acc' ⟨fun b o hb e => ?_, hm.gens, hm.drawn, hm.os, hm.toks⟩ hacc
  have hbs : b ≠ s.heap.objs.size := Nat.ne_of_lt (Heap.lt_size e)
  exact hm.heap b o (fun hmem => (List.mem_cons.mp hmem).elim hbs hb) (oth b o hbs (Heap.get?_push_of_some _ e))
theorem tuple_new_map {A : Around} {I : Addr} {T : Addr} {f : Value} {fp wr : List Addr} {G : Array GenState → Array GenState → Prop} {n : Nat} {Pv : Nat → Value → Prop} {St : Nat → Shared → Prop} {Q : Value → Shared → Prop}
    (W : WalksS prog w A.in1.in1.in1 I fp wr G n Pv St) (hT : ∀ i s, St i s → s.heap.get? I = some (mapObj T f)) (hst : St 0 s) (hfp : ∀ b ∈ fp, b < s.heap.objs.size) (hI : I ∈ fp) (hn : n ≤ sizeLine)
    (hQ : ∀ s' (vs : List Value), Moved wr G s s' → ItemsOf Pv vs.toArray n → Q (.ref s'.heap.objs.size) { s' with heap := s'.heap.push (tpl vs.toArray 0) }) : wpAny (model prog w) A (call (.type "tuple") [.ref I]) Q E s := by
  refine callType_codes (Q₁ := fun obj s₁ => s₁.TypeIs obj "tuple" ∧ Q obj s₁) PySem.F.called_tuple (PySem.F.typeCall_tuple_1 _) PySem.F.entry_object_init (codeAny_of_tree ?_)
    fun obj s₁ h₁ => ⟨h₁.1, PySem.F.args_object_init_2 obj _, object_init_meets PySem.F.called_tuple.init.lookup PySem.F.called_tuple.made (by decide) prog w A.in1 _ s₁ ⟨h₁.1, rfl, h₁.2⟩⟩
  show wpAny _ A.in1.in1 (do checkBuiltinCall "tuple.__new__" ⟨[.type "tuple", .ref I], []⟩; again (.builtin "tuple.__new__" ⟨[.type "tuple", .ref I], []⟩)) _ _ s
  refine wpAny_bind (wpAny_of_eq (PySem.F.newCall_tuple_1 _) (wpAny_pure ⟨plainId_quiet PySem.F.plain_tuple_new _, codeAny_builtin PySem.F.entry_tuple_new ?_⟩))
  rw [Around.under_plainId PySem.F.plain_tuple_new _]
  have ty : s.TypeIs (.ref I) "map" := ⟨_, hT 0 _ hst, rfl⟩
  unfold Builtin.«tuple.__new__»
  refine wpAny_bind (wpAny_pure ?_)
  refine wpAny_bind (wpAny_of_eq sub_tuple_self ?_)
  have hno : ¬ (((Manifest.find? "tuple").elim false fun x => x.noNew) = true) := by decide +kernel
  refine (wpAny_ite (c := ((Manifest.find? "tuple").elim false fun x => x.noNew) = true) ?_)
  rw [if_neg hno]
  refine wpAny_bind (wpAny_of_eq madeHere_tuple ?_)
  refine wpAny_bind (wpAny_of_eq init_tuple_lookup ?_)
  refine wpAny_bind (wpAny_pure ?_)
  refine wpAny_bind (wpAny_pure ?_)
  refine wpAny_bind ?_
  unfold Tuple.tupleIsExact
  refine wpAny_bind (wpAny_typeOf ty (wpAny_pure ?_))
  rw [show (Value.type "map" == Value.type "tuple") = false by decide, if_neg (by decide)]
  refine wpAny_bind (collect_map (A := A.in1.in1) W hT hst hfp hI hn fun s' acc hm hacc => wpAny_bind (wpAny_pure ?_))
  refine wpAny_bind ?_
  unfold Tuple.tupleExact
  refine wpAny_newObj_type ?_ (by show acc.toList.toArray.size ≤ sizeLine; simp only [Array.toArray_toList]; rw [hacc.1]; exact hn)
  exact wpAny_pure ⟨⟨_, Heap.get?_push_size _ rfl, rfl⟩, hQ s' acc.toList hm (by simpa using hacc)⟩
/-- tuple(map(fspath, a list of strs)) -/
theorem z_tupleMap {I T it l : Addr} {xs : List (Str × Tok)} {n : Nat} {k : Nat} (X : Bs w mb c.P₀) (hA : Rm A 6) (hl : P l = some (lst (strValues xs).toArray n)) (hn : xs.length ≤ 1000) (hitl : it ≠ l)
    (F : Fm c P L m ((I, mapObj T (.ref 111)) :: (T, tpl #[.ref it] k) :: (it, itObj l) :: M) s)
    (h : ∀ a P' s', P.le P' → P' a = some (tpl (strValues xs).toArray 0) → Fm c P' L m M s' → Q (.ref a) s') : wpAny (model prog w) A (call (.type "tuple") [.ref I]) Q E s := by
  have nd1 := List.pairwise_cons.mp F.nd
  have nd2 := List.pairwise_cons.mp nd1.2
  have hI := F.mu _ (.head _)
  have hT := F.mu _ (.tail _ (.head _))
  have hit := F.mu _ (.tail _ (.tail _ (.head _)))
  have hIit : I ≠ it := nd1.1 _ (.tail _ (.head _))
  have hTit : T ≠ it := nd2.1 _ (.head _)
  have hPit : P it = none := (F.off _ (.tail _ (.tail _ (.head _)))).2.1
  have hl' := F.on _ _ hl
  have hA4 : Rm A.in1.in1.in1 3 := ((hA.in1).in1).in1
  have W : WalksS prog w A.in1.in1.in1 I (List.range s.heap.objs.size) [it] (fun a b => b = a) xs.length (fun i v => (strValues xs)[i]? = some v)
      (fun i s₁ => (∀ b o, b ≠ it → s.heap.get? b = some o → s₁.heap.get? b = some o) ∧ s₁.heap.IsListIter it l i) := {
    sub := fun b hb => by
      rw [List.mem_singleton.mp hb]
      exact List.mem_range.mpr (Heap.lt_size hit)
    grefl := fun _ => rfl
    gtrans := fun _ _ _ h1 h2 => h2.trans h1
    frame := fun i s₁ h' tk st _ hk => ⟨fun b o hb e => hk b (List.mem_range.mpr (Heap.lt_size e)) o (st.1 b o hb e), st.2.at fun o e => hk it (List.mem_range.mpr (Heap.lt_size hit)) o e⟩
    item := fun i s₁ Q₁ E₁ hi st hQ => by
      obtain ⟨⟨x, tx⟩, hx⟩ : ∃ p, xs[i]? = some p := ⟨xs[i], List.getElem?_eq_getElem hi⟩
      have hxv : (strValues xs)[i]? = some (.str x tx) := by simp [strValues, hx]
      have hl₁ : s₁.heap.IsList l (strValues xs).toArray := ⟨_, st.1 l _ (Ne.symm hitl) hl', rfl, n, rfl⟩
      refine wpAny_with_toks (Nat.le_refl s₁.toks) (map_next_item (st.1 I _ hIit hI) (st.1 T _ hTit hT) st.2 hl₁ (by rw [List.getElem?_toArray]; exact hxv) hIit fun h' E₂ hit' hs' => ?_)
      have on' : P.on h' := fun b o e => (hs'.2 b fun q => by rw [q, hPit] at e; cases e).trans (st.1 b o (fun q => by rw [q, hPit] at e; cases e) (F.on b o e))
      refine fspath_spec (X.mono F.le) on' (hA4.in1.mono (by decide)) fun P' s' R htk => ?_
      obtain ⟨h₃, tk₃, e₃⟩ := R.same
      refine hQ _ s' hxv ⟨fun b o hb e => R.old b o ((hs'.2 b hb).trans (st.1 b o hb e)), hit'.at fun o e => R.old it o e⟩ ⟨fun b o hb e => R.old b o ((hs'.2 b (by simpa using hb)).trans e), by rw [e₃], by rw [e₃], by rw [e₃], htk⟩
    done := fun s₁ Q₁ E₁ st hQ => by
      have hl₁ : s₁.heap.IsList l (strValues xs).toArray := ⟨_, st.1 l _ (Ne.symm hitl) hl', rfl, n, rfl⟩
      refine wpAny_with_toks (Nat.le_refl s₁.toks) (map_next_end (hA4.handled) (st.1 I _ hIit hI) (st.1 T _ hTit hT) st.2 hl₁ (by simp [strValues]) fun h' hk htk => ?_)
      exact hQ _ ⟨fun b o hb e => hk b o (by simpa using hb) e, rfl, rfl, rfl, htk⟩
    self := fun i s₁ Q₁ E₁ st hq => iter_map (st.1 I _ hIit hI) hq }
  refine tuple_new_map W (fun i s₁ st => st.1 I _ hIit hI) ⟨fun b o _ e => e, ⟨_, hit, rfl, rfl⟩⟩ (fun b hb => List.mem_range.mp hb) (List.mem_range.mpr (Heap.lt_size hI)) (sl_of (by lia)) fun s' vs hm hv => ?_
  have hvs : vs = strValues xs := by
    apply List.ext_getElem?
    intro i
    by_cases hi : i < vs.length
    · have := hv.2 i vs[i] (by simp [hi])
      rw [this, List.getElem?_eq_getElem hi]
    · have h1 : vs.length = xs.length := by simpa using hv.1
      rw [List.getElem?_eq_none (by lia), List.getElem?_eq_none (by simp [strValues]; lia)]
  subst hvs
  have F₀ : Fm c P L m M s' := by
    have off := F.off _ (.tail _ (.tail _ (.head _)))
    have e : s' = { s with heap := s'.heap, toks := s'.toks } := by
      obtain ⟨hp, g, d, tk, os⟩ := s'
      have h1 : g = s.gens := hm.gens
      have h2 : d = s.drawn := hm.drawn
      have h3 : os = s.os := hm.os
      rw [h1, h2, h3]
    rw [e]
    exact F.tail.tail.tail.other (a := it) off.1 off.2.1 off.2.2 (fun p hp => ((List.pairwise_cons.mp (List.pairwise_cons.mp nd1.2).2).1 p hp).symm) fun b o hb e => hm.heap b o (by simpa using hb) e
  exact h _ _ _ (F₀.le_alloc _) Part.set_self (F₀.alloc _)
end
end
section
open PySem PySem.W PyProof.Rows
open Builtin Builtin.Str
set_option autoImplicit false
set_option linter.unusedVariables false
set_option maxRecDepth 100000
noncomputable abbrev SetLast (e elt target : Expr) (d : Nat) (ip : Pos) (D : Addr) (cenv : Env) : Prop := ∀ it, compTurn e d it (.ref D) cenv = (standAt ip >>= fun _ => pyNext it >>= fun r => match r with
  | none => pure (.done .next)
  | some v => letOwnedTupleGo target it v >>= fun _ => assign target cenv v >>= fun _ =>
    (eval elt cenv >>= fun x => standAt elt.pos >>= fun _ => call (.builtin "set.add") [.ref D, x] >>= fun _ => pure ()) >>= fun _ => again (.compLoop e d it (.ref D) cenv))
theorem setLast0 (elt target iter : Expr) (scope : Scope) (pos : Pos) (D : Addr) (cenv : Env) : SetLast (.SetComp elt [⟨target, iter, [], 0⟩] scope pos) elt target 0 iter.pos D cenv := fun _ => rfl
theorem setLast1 (elt target iter : Expr) (g : Comprehension) (scope : Scope) (pos : Pos) (D : Addr) (cenv : Env) : SetLast (.SetComp elt [g, ⟨target, iter, [], 0⟩] scope pos) elt target 1 iter.pos D cenv := fun _ => rfl
theorem setFirst (elt target iter t1 i1 : Expr) (scope : Scope) (pos : Pos) (it acc : Value) (cenv : Env) :
    compTurn (.SetComp elt [⟨target, iter, [], 0⟩, ⟨t1, i1, [], 0⟩] scope pos) 0 it acc cenv = (standAt iter.pos >>= fun _ => pyNext it >>= fun r => match r with
  | none => pure (.done .next)
  | some v => letOwnedTupleGo target it v >>= fun _ => assign target cenv v >>= fun _ =>
    eval i1 cenv >>= fun x => standAt i1.pos >>= fun _ => foldedSetIterable i1 cenv x >>= fun x => holding [x] (pyIter x) >>= fun it1 =>
      runOwn (.compStart (.SetComp elt [⟨target, iter, [], 0⟩, ⟨t1, i1, [], 0⟩] scope pos) 1 it1 acc cenv) cenv >>= fun _ => again (.compLoop (.SetComp elt [⟨target, iter, [], 0⟩, ⟨t1, i1, [], 0⟩] scope pos) 0 it acc cenv)) := rfl
section
variable {prog : Program} {w : World} {mb : Str → Option Value} {A : Around} {E : Value → Shared → Prop} {s : Shared} {env : Env}
variable {c : Cx} {P P' : Part} {L : Addr} {m : Str → Option Value} {M MX MX' : List (Addr × Obj)} {Q : Value → Shared → Prop} {R : Result → Shared → Prop} {target : Expr}
inductive SrI (c : Cx) (P : Part) (L D I : Addr) (M : List (Addr × Obj)) (n : Nat) (St : Nat → Heap → Prop) (J : Nat → Part → (Str → Option Value) → Obj → Prop) (j : Nat) (s' : Shared) : Prop
  | mk : ∀ i P' m' oD' oI', P.le P' → J i P' m' oD' → Fm c P' L m' ((D, oD') :: (I, oI') :: M) s' → St i s'.heap → i ≤ n → j = n + 1 - i → SrI c P L D I M n St J j s'
/-- the last clause of a set's comprehension -/
theorem set_run {elt t0 : Expr} {gens : List Comprehension} {scope : Scope} {pos ip : Pos} {d : Nat} {cenv : Env} {I D : Addr} {oI oD : Obj} {fp : List Addr} {n : Nat} {Pv : Nat → Value → Prop} {St : Nat → Heap → Prop}
    (hT : SetLast (.SetComp elt gens scope pos) elt target d ip D cenv)
    (W : Walks prog w A I fp [I] n Pv St) (hI : ∀ i h, St i h → ∃ o, h.get? I = some o) (hfp : ∀ b ∈ fp, b = I ∨ ∃ o, P b = some o) (ht : ∀ v, letOwnedTupleGo target (.ref I) v = pure ())
    (J : Nat → Part → (Str → Option Value) → Obj → Prop) (F : Fm c P L m ((D, oD) :: (I, oI) :: M) s) (hst : St 0 s.heap) (hJ : J 0 P m oD)
    (turn : ∀ i v P' m' oD' oI' s' E', i < n → Pv i v → P.le P' → J i P' m' oD' → Fm c P' L m' ((D, oD') :: (I, oI') :: M) s' →
      wpAny (model prog w) A (assign target cenv v) (fun _ s₂ => wpAny (model prog w) A (eval elt cenv) (fun y s₃ => wpAny (model prog w) A (call (.builtin "set.add") [.ref D, y]) (fun _ s₄ =>
        ∃ P'' m'' oD'', P'.le P'' ∧ Fm c P'' L m'' ((D, oD'') :: (I, oI') :: M) s₄ ∧ J (i + 1) P'' m'' oD'') E' s₃) E' s₂) E' s')
    (done : ∀ P' m' oD' s', P.le P' → J n P' m' oD' → Fm c P' L m' ((D, oD') :: M) s' → R (.ok .next) s') :
    codeAny (model prog w) A (.compLoop (.SetComp elt gens scope pos) d (.ref I) (.ref D) cenv) R s := by
  refine codeAny_loop rfl (SrI c P L D I M n St J) ?_ (n + 1)
    ⟨0, P, m, oD, oI, Part.le_refl _, hJ, F, hst, Nat.zero_le _, rfl⟩
  rintro j s' ⟨i, P', m', oD', oI', hle, hJi, F', hsti, hi, rfl⟩
  show wpAny _ A ((compTurn (.SetComp elt gens scope pos) d (.ref I) (.ref D) cenv).onRaise (fun x => do noteFrame x cenv; theTreesLotGoes x)) _ _ s'
  refine wpAny_noted ?_
  rw [hT]
  refine wpAny_bind (wpAny_standAt (wpAny_bind ?_))
  by_cases hlt : i < n
  · refine W.item i _ _ _ hlt hsti fun v h' tk hPv hst' hk => ?_
    obtain ⟨o', ho'⟩ := hI _ _ hst'
    have F₁ : Fm c P' L m' ((D, oD') :: (I, o') :: M) { s' with heap := h', toks := tk } := F'.upd1 ho' fun b o hb e => hk b o (by simpa using hb) e
    refine wpAny_bind (wpAny_of_eq (ht v) ?_)
    refine wpAny_bind (wpAny_mono (turn i v P' m' oD' o' _ _ hlt hPv hle hJi F₁) (fun _ s₂ h₂ => wpAny_bind (wpAny_bind (wpAny_mono h₂ (fun y s₃ h₃ => wpAny_bind (wpAny_standAt (wpAny_bind (wpAny_mono h₃ (fun _ s₄ h₄ => wpAny_pure (wpAny_pure ⟨rfl, ?_⟩)) fun _ _ e => e)))) fun _ _ e => e))) fun _ _ e => e)
    obtain ⟨P'', m'', oD'', hle'', F'', hJ''⟩ := h₄
    refine ⟨n + 1 - (i + 1), by omega, i + 1, P'', m'', oD'', o', Part.le_trans hle hle'', hJ'', F'', ?_, hlt, rfl⟩
    refine W.frame _ _ _ hst' fun b hb o e => ?_
    rcases hfp b hb with rfl | ⟨o₂, h₂⟩
    · rw [ho'] at e; cases e
      exact mu1 F''
    · have h3 := F₁.on b o₂ (hle _ _ h₂)
      have h4 : h'.get? b = some o₂ := h3
      rw [h4] at e; cases e
      exact F''.on b _ (hle'' _ _ (hle _ _ h₂))
  · have hin : i = n := by omega
    subst hin
    refine W.done _ _ _ hsti fun h' tk hk => wpAny_pure ?_
    have F₂ := F'.swap
    exact done P' m' oD' _ hle hJi (F₂.tail.other (a := I) (F₂.off _ (.head _)).1 (F₂.off _ (.head _)).2.1 (F₂.off _ (.head _)).2.2 (fun p hp => ((List.pairwise_cons.mp F₂.nd).1 p hp).symm) fun b o hb e => hk b o (by simpa using hb) e)
/-- the first of two clauses -/
theorem set_run0 {elt t0 i0 t1 i1 : Expr} {scope : Scope} {pos : Pos} {cenv : Env} {I D : Addr} {oI oD : Obj} {fp : List Addr} {n : Nat} {Pv : Nat → Value → Prop} {St : Nat → Heap → Prop}
    (W : Walks prog w A I fp [I] n Pv St) (hI : ∀ i h, St i h → ∃ o, h.get? I = some o) (hfp : ∀ b ∈ fp, b = I ∨ ∃ o, P b = some o) (ht : ∀ v, letOwnedTupleGo t0 (.ref I) v = pure ()) (hs : ∀ x, foldedSetIterable i1 cenv x = pure x)
    (J : Nat → Part → (Str → Option Value) → Obj → Prop) (F : Fm c P L m ((D, oD) :: (I, oI) :: M) s) (hst : St 0 s.heap) (hJ : J 0 P m oD)
    (turn : ∀ i v P' m' oD' oI' s' E', i < n → Pv i v → P.le P' → J i P' m' oD' → Fm c P' L m' ((D, oD') :: (I, oI') :: M) s' →
      wpAny (model prog w) A (assign t0 cenv v) (fun _ s₂ => wpAny (model prog w) A (eval i1 cenv) (fun x s₃ => wpAny (model prog w) A (pyIter x) (fun it s₄ =>
        codeAny (model prog w) (A.mark none) (.compStart (.SetComp elt [⟨t0, i0, [], 0⟩, ⟨t1, i1, [], 0⟩] scope pos) 1 it (.ref D) cenv) (fun r s₅ => (∃ f, r = .ok f) ∧
        ∃ P'' m'' oD'', P'.le P'' ∧ Fm c P'' L m'' ((D, oD'') :: (I, oI') :: M) s₅ ∧ J (i + 1) P'' m'' oD'') s₄) E' s₃) E' s₂) E' s')
    (done : ∀ P' m' oD' s', P.le P' → J n P' m' oD' → Fm c P' L m' ((D, oD') :: M) s' → R (.ok .next) s') :
    codeAny (model prog w) A (.compLoop (.SetComp elt [⟨t0, i0, [], 0⟩, ⟨t1, i1, [], 0⟩] scope pos) 0 (.ref I) (.ref D) cenv) R s := by
  refine codeAny_loop rfl (SrI c P L D I M n St J) ?_ (n + 1)
    ⟨0, P, m, oD, oI, Part.le_refl _, hJ, F, hst, Nat.zero_le _, rfl⟩
  rintro j s' ⟨i, P', m', oD', oI', hle, hJi, F', hsti, hi, rfl⟩
  show wpAny _ A ((compTurn (.SetComp elt [⟨t0, i0, [], 0⟩, ⟨t1, i1, [], 0⟩] scope pos) 0 (.ref I) (.ref D) cenv).onRaise (fun x => do noteFrame x cenv; theTreesLotGoes x)) _ _ s'
  refine wpAny_noted ?_
  rw [setFirst]
  refine wpAny_bind (wpAny_standAt (wpAny_bind ?_))
  by_cases hlt : i < n
  · refine W.item i _ _ _ hlt hsti fun v h' tk hPv hst' hk => ?_
    obtain ⟨o', ho'⟩ := hI _ _ hst'
    have F₁ : Fm c P' L m' ((D, oD') :: (I, o') :: M) { s' with heap := h', toks := tk } := F'.upd1 ho' fun b o hb e => hk b o (by simpa using hb) e
    refine wpAny_bind (wpAny_of_eq (ht v) ?_)
    refine wpAny_bind (wpAny_mono (turn i v P' m' oD' o' _ _ hlt hPv hle hJi F₁) (fun _ s₂ h₂ => wpAny_bind (wpAny_mono h₂ (fun x s₃ h₃ => wpAny_bind (wpAny_standAt (wpAny_bind (wpAny_of_eq (hs x) (wpAny_bind (wpAny_holding (wpAny_mono h₃ (fun it s₄ h₄ => wpAny_bind (wpAny_runOwn (codeAny_mono h₄ fun r s₅ h₅ => ?_) (by intro x; cases x))) fun _ _ e => e))))))) fun _ _ e => e)) fun _ _ e => e)
    obtain ⟨⟨f, rfl⟩, P'', m'', oD'', hle'', F'', hJ''⟩ := h₅
    refine wpAny_pure ⟨rfl, ?_⟩
    refine ⟨n + 1 - (i + 1), by omega, i + 1, P'', m'', oD'', o', Part.le_trans hle hle'', hJ'', F'', ?_, hlt, rfl⟩
    refine W.frame _ _ _ hst' fun b hb o e => ?_
    rcases hfp b hb with rfl | ⟨o₂, h₂⟩
    · rw [ho'] at e; cases e
      exact mu1 F''
    · have h3 := F₁.on b o₂ (hle _ _ h₂)
      have h4 : h'.get? b = some o₂ := h3
      rw [h4] at e; cases e
      exact F''.on b _ (hle'' _ _ (hle _ _ h₂))
  · have hin : i = n := by omega
    subst hin
    refine W.done _ _ _ hsti fun h' tk hk => wpAny_pure ?_
    have F₂ := F'.swap
    exact done P' m' oD' _ hle hJi (F₂.tail.other (a := I) (F₂.off _ (.head _)).1 (F₂.off _ (.head _)).2.1 (F₂.off _ (.head _)).2.2 (fun p hp => ((List.pairwise_cons.mp F₂.nd).1 p hp).symm) fun b o hb e => hk b o (by simpa using hb) e)
/-- the start of a clause -/
theorem set_start {elt : Expr} {gens : List Comprehension} {scope : Scope} {pos : Pos} {d : Nat} {it acc : Value} (hcl : ((gens[d]?).elim false (·.is_async != 0)) = false)
    (h0 : codeAny (model prog w) A (.compLoop (.SetComp elt gens scope pos) d it acc env) R s)
    (h : ∀ E', wpAny (model prog w) A (pyIter it) (fun it' s' => codeAny (model prog w) A (.compLoop (.SetComp elt gens scope pos) d it' acc env) R s') E' s) :
    codeAny (model prog w) A (.compStart (.SetComp elt gens scope pos) d it acc env) R s := by
  refine codeAny_of_tree ?_
  show wpAny _ _ ((compStart (.SetComp elt gens scope pos) d it acc env).onRaise (fun x => do noteFrame x env; standAt theWindowsPlace)) _ _ s
  refine wpAny_notedAt ?_
  unfold compStart
  rw [show (((clausesOf (.SetComp elt gens scope pos))[d]?).elim false (·.is_async != 0)) = false from hcl]
  refine wpAny_bind (wpAny_askSetting (wpAny_ite ?_))
  split
  · exact wpAny_pure ⟨rfl, h0⟩
  · refine wpAny_bind (wpAny_rule ?_)
    have fin : ∀ E', wpAny (model prog w) A (pyIter it >>= fun it' => again (.compLoop (.SetComp elt gens scope pos) d it' acc env)) (fun fin s' => match fin with
        | .done f => R (.ok f) s'
        | .again c' => c'.quiet = true ∧ codeAny (model prog w) A c' R s') E' s := fun E' => wpAny_bind (wpAny_mono (h E') (fun it' s' h' => wpAny_pure ⟨rfl, h'⟩) fun _ _ e => e)
    show wpAny _ A (match gens[d]? with | some g => _ | x => _) _ _ s
    cases gens[d]? with
    | none => exact fin _
    | some g => exact wpAny_bind (wpAny_standAt (fin _))
/-- a new object and a new frame for a comprehension -/
theorem comp_in {scope : Scope} {cl : List (Str × Addr)} {I : Addr} {oI oD : Obj} {RR : Value → Env → Shared → Prop}
    (hcell : ∀ y ∈ scope.names, y.2 ≠ .cell) (hkind : scope.kind = .function) (hf : oD.isFreed = false) (F : Fm c P L m ((I, oI) :: M) s)
    (h : ∀ D C s₁, (∀ b o, s.heap.get? b = some o → s₁.heap.get? b = some o) → Fm ⟨s, hidL s.heap [I], P⟩ P C (fun _ => none) [(D, oD), (I, oI)] s₁ →
      (∀ P' m' oD' s', Fm ⟨s, hidL s.heap [I], P⟩ P' C m' [(D, oD')] s' → ∃ oC mC, Fm c P' L m ((C, oC) :: (D, oD') :: M) s' ∧ s'.heap.Ns C mC) → RR (.ref D) { compEnvC scope cl C env with scope := relabel scope env } s₁) :
    wpAny (model prog w) A (newFunctionEnv scope env.globals cl [] env.qual none .none (some env)) (fun cenv s₄ => RR (.ref s.heap.objs.size) { cenv with scope := relabel scope env } s₄) E { s with heap := s.heap.push oD } := by
  refine wpAny_newFunctionEnv hcell (by intro y hy; simp at hy) (fun h₁ hns₁ hsb₁ => ?_) hkind
  dsimp only at hns₁ hsb₁ ⊢
  generalize hH2 : s.heap.push oD = H2 at hns₁ hsb₁ ⊢
  have hC : H2.objs.size = s.heap.objs.size + 1 := by rw [← hH2, Heap.size_push]
  have below : ∀ b, b < s.heap.objs.size → b ≠ H2.objs.size ∧ b ≠ s.heap.objs.size := fun b hb => ⟨by rw [hC]; exact Nat.ne_of_lt (Nat.lt_succ_of_lt hb), Nat.ne_of_lt hb⟩
  have hDC : s.heap.objs.size ≠ H2.objs.size := by rw [hC]; exact Nat.ne_of_lt (Nat.lt_succ_self _)
  have old : ∀ b o, s.heap.get? b = some o → h₁.get? b = some o := fun b o e => hsb₁.extBut b o (below b (Heap.lt_size e)).1 (Heap.get?_push_of_some _ (hH2 ▸ Heap.get?_push_of_some _ e))
  have hacc : h₁.get? s.heap.objs.size = some oD := hsb₁.extBut _ _ hDC (Heap.get?_push_of_some _ (hH2 ▸ Heap.get?_push_size _ hf))
  have fresh : ∀ (K : Part), K.on s.heap → ∀ a, s.heap.objs.size ≤ a → K a = none := fun K hK a ha => by
    cases e : K a with
    | none => rfl
    | some o' => exact absurd (Heap.lt_size (hK _ _ e)) (Nat.not_lt.mpr ha)
  have hCle : s.heap.objs.size ≤ H2.objs.size := by rw [hC]; exact Nat.le_succ _
  have hIlt : I < s.heap.objs.size := Heap.lt_size (mu0 F)
  refine h s.heap.objs.size H2.objs.size _ old ?_ ?_
  · exact {
      same := ⟨_, _, rfl⟩
      ns := by simpa using hns₁
      old := fun b o e => old b o (hidL_on _ _ b o e)
      le := Part.le_refl _
      on := fun b o e => old b o (F.on b o e)
      new := fun b o e => .inl e
      offL := fresh P F.on _ hCle
      newL := fresh _ (hidL_on _ _) _ hCle
      mu := fun p hp => by
        rcases List.mem_cons.mp hp with rfl | hp
        · exact hacc
        · rw [List.mem_singleton.mp hp]; exact old _ _ (mu0 F)
      off := fun p hp => by
        rcases List.mem_cons.mp hp with rfl | hp
        · exact ⟨hDC, fresh P F.on _ (Nat.le_refl _), fresh _ (hidL_on _ _) _ (Nat.le_refl _)⟩
        · rw [List.mem_singleton.mp hp]
          exact ⟨(below _ hIlt).1, (F.off _ (.head _)).2.1, hidL_in (.head _)⟩
      nd := List.pairwise_cons.mpr ⟨fun p hp => by rw [List.mem_singleton.mp hp]; exact (below _ hIlt).2.symm, List.pairwise_cons.mpr ⟨(fun p hp => nomatch hp), .nil⟩⟩ }
  · intro P' m' oD' s' F'
    have G := (F.tail).callL (MX := []) (MX' := []) (as := [I]) F'.ret (fun a ha => by
      rw [List.mem_singleton.mp ha]
      exact .inr ⟨(F.off _ (.head _)).1, (F.off _ (.head _)).2.2, fun p hp => ((List.pairwise_cons.mp F.nd).1 p hp).symm⟩) rfl fun p hp => nomatch hp
    have lows : ∀ p ∈ M, p.1 < s.heap.objs.size := fun p hp => Heap.lt_size (F.mu p (.tail _ hp))
    have hL := F.ns.lt
    have hO : ∀ a, s.heap.objs.size ≤ a → c.O a = none := fun a ha => fresh _ F.old a ha
    have G₁ := G.learnM (a := s.heap.objs.size) (o := oD') (mu0 F') (F'.off _ (.head _)).2.1 (hO _ (Nat.le_refl _)) (Nat.ne_of_gt hL) fun p hp => Nat.ne_of_lt (lows p hp)
    obtain ⟨oC, es, ep, hoC, hr⟩ := F'.ns
    have G₂ := G₁.learnM (a := H2.objs.size) (o := oC) hoC F'.offL (hO _ hCle) (Nat.ne_of_gt (Nat.lt_of_lt_of_le hL hCle)) (fun p hp => by
      rcases List.mem_cons.mp hp with rfl | hp
      · exact hDC
      · exact Nat.ne_of_lt (Nat.lt_of_lt_of_le (lows p hp) hCle))
    exact ⟨oC, m', G₂, oC, es, ep, hoC, hr⟩
end
end
section
open PySem PySem.W PyProof.Rows
open Builtin Builtin.Str
set_option autoImplicit false
set_option linter.unusedVariables false
set_option maxRecDepth 100000
noncomputable def setObj (es : Array (Int × Value)) (ep : Nat) (t : SetTable) : Obj := { cls := .type "set", data := .set es ep t }
noncomputable def tabT (led : Bool) : SetTable := { mask := 7, place := #[1], dummies := #[], finger := 0, led := led, moves := 0, plain := true }
noncomputable def ledOf (w : World) : Bool := !w.params.followText "set-order"
noncomputable def set0 (w : World) : Obj := setObj #[] 0 (.fresh 0 0 (ledOf w))
noncomputable def setT (w : World) : Obj := setObj #[(1, .bool true)] 1 (tabT (ledOf w))
theorem lay_true (led : Bool) : layNew (SetTable.fresh 0 0 led) #[] 1 (.bool true) = (#[(1, .bool true)], tabT led, false, false) := by kernel_rfl
theorem not_full (led : Bool) : (tabT led).tooFull = false := by kernel_rfl
section
variable {prog : Program} {w : World} {A : Around} {E : Value → Shared → Prop} {s : Shared}
theorem z_newSet {Q : Value → Shared → Prop} (h : Q (.ref s.heap.objs.size) { s with heap := s.heap.push (set0 w) }) : wpAny (model prog w) A (newSet (.type "set")) Q E s := by
  unfold newSet setsByText
  refine wpAny_bind (wpAny_bind (wpAny_askSetting (wpAny_pure ?_)))
  exact wpAny_newObj_type h (Nat.zero_le _)
theorem hash_true {Q : Int → Shared → Prop} (h : Q 1 { s with toks := s.toks + 1 }) : wpAny (model prog w) A (pyHash (.bool true)) Q E s := by
  have hT : s.TypeIs (.bool true) "bool" := rfl
  show wpAny _ _ (pyHashByItsType (.bool true)) _ _ _
  unfold pyHashByItsType
  refine wpAny_bind ?_
  have hv : [Value.bool true].any Value.onHeap = false := rfl
  rw [cRoomFor, if_neg (by rw [hv]; exact Bool.false_ne_true)]
  refine wpAny_pure ?_
  refine wpAny_bind (wpAny_specialOf hT PySem.F.slot_bool_hash.lookup ?_)
  show wpAny _ _ (if (some (Value.builtin "int.__hash__") == some Value.none) = true then _ else _) Q E s
  rw [if_neg (by rw [beq_builtin_none]; exact Bool.false_ne_true)]
  refine wpAny_bind (wpAny_specialOf hT PySem.F.slot_bool_hash.lookup ?_)
  show wpAny _ _ (callSpecialIfBoundUnlessNone? (.bool true) "__hash__" _ >>= _) Q E s
  refine wpAny_bind (wpAny_callSpecialIfBoundUnlessNone?_slot hT PySem.F.slot_bool_hash
    (wpAny_call_entry PySem.F.slot_bool_hash hT PySem.F.entry_int_hash
      (show wpAny _ _ (do ret (← mkInt 1)) _ _ s from wpAny_ret_mkInt ?_) (PySem.F.args_int_hash_1 _)))
  show wpAny _ _ (if (decide (-(2 : Int) ^ 63 ≤ 1) && decide ((1 : Int) < 2 ^ 63)) = true then _ else _) Q E _
  rw [if_pos (by decide)]
  exact wpAny_pure h
theorem eq_true_true {Q : Bool → Shared → Prop} (h : Q true s) : wpAny (model prog w) A (eqBool (.bool true) (.bool true)) Q E s := by
  unfold eqBool
  refine wpAny_holding ?_
  rw [if_pos (by decide)]
  exact wpAny_bind (wpAny_rule (wpAny_pure h))
/-- True into a set that holds nothing or True -/
theorem add_true {D : Addr} {o : Obj} {Q : Value → Shared → Prop} (ho : s.heap.get? D = some o) (hc : o = set0 w ∨ o = setT w)
    (h : ∀ h' tk, h'.get? D = some (setT w) → Heap.SameBut D s.heap h' → Q .none { s with heap := h', toks := tk }) : wpAny (model prog w) A (call (.builtin "set.add") [.ref D, .bool true]) Q E s := by
  have hT : s.TypeIs (.ref D) "set" := ⟨o, ho, by rcases hc with rfl | rfl <;> rfl⟩
  refine wpAny_call_entry PySem.F.slot_set_add hT PySem.F.entry_set_add ?_ (PySem.F.args_set_add_2 _ _)
  unfold Builtin.«set.add» Builtin.Frozenset.oneOther
  simp only [List.isEmpty_nil, bind_assoc]
  unfold Builtin.Frozenset.addrOf setAdd
  refine wpAny_bind (wpAny_pure ?_)
  refine wpAny_bind (wpAny_pure ?_)
  refine wpAny_bind (wpAny_holding (wpAny_bind (hash_true ?_)))
  unfold setAddHashed setAddHashedIn
  rcases hc with rfl | rfl
  · refine wpAny_holding (wpAny_bind (wpAny_setState_of (s := { s with toks := s.toks + 1 }) ho rfl rfl ?_))
    dsimp only
    rw [show byScan (.bool true) #[] = true by decide +kernel, if_pos rfl]
    unfold setAddByScan
    refine wpAny_bind (wpAny_bind (wpAny_rule (wpAny_bind (wpAny_pure ?_))))
    dsimp only
    rw [show layNew (SetTable.fresh 0 0 (ledOf w)) #[] 1 (.bool true) = _ from lay_true _]
    refine wpAny_bind (wpAny_pure ?_)
    refine wpAny_bind (wpAny_pure ?_)
    refine wpAny_bind (wpAny_storeSet_of (s := { s with toks := s.toks + 1 }) (o := set0 w) (t' := tabT (ledOf w)) (es' := #[(1, .bool true)]) ho rfl ?_ (by decide))
    refine wpAny_ite ?_
    refine Eq.mpr (if_neg ?_) ?_
    · exact fun hh => absurd (show (tabT (ledOf w)).tooFull = true from hh) (by rw [not_full]; decide)
    · refine wpAny_pure (wpAny_pure (wpAny_pure ⟨_, rfl, h _ _ ?_ (Heap.SameBut.update ..)⟩))
      exact Heap.get?_update_self _ ho rfl
  · refine wpAny_holding (wpAny_bind (wpAny_setState_of (s := { s with toks := s.toks + 1 }) ho rfl rfl ?_))
    dsimp only
    rw [show byScan (.bool true) #[(1, .bool true)] = true by decide +kernel, if_pos rfl]
    unfold setAddByScan
    refine wpAny_bind (wpAny_bind (wpAny_rule (wpAny_bind ?_)))
    show wpAny _ _ (setScanFrom D (.bool true) 1 true [(1, .bool true)] 0) _ _ _
    unfold setScanFrom
    refine wpAny_ite ?_
    rw [if_pos (by decide)]
    unfold setEpoch
    refine wpAny_bind (wpAny_bind (wpAny_setState_of (s := { s with toks := s.toks + 1 }) ho rfl rfl (wpAny_pure ?_)))
    refine wpAny_bind (eq_true_true ?_)
    refine wpAny_pure ?_
    refine wpAny_pure (wpAny_pure (wpAny_pure ⟨_, rfl, h _ _ ho (Heap.SameBut.refl _ _)⟩))
end
end
section
open PySem PySem.W PyProof.Rows
open Builtin Builtin.Str
set_option autoImplicit false
set_option linter.unusedVariables false
set_option maxRecDepth 100000
theorem slot_setiter_next : Slot "set_iterator" "__next__" "set_iterator.__next__" :=
  .of (owner := "set_iterator") (n := "__next__") (by rw [typeLookup_type, builtinLookup_eq_fast]; kernel_rfl) (by decide +kernel) (by decide +kernel) (by decide +kernel)
    (by first | exact .inl (by decide +kernel) | exact .inr (by decide +kernel)) (by rw [isSubtype_type]; kernel_rfl)
theorem entry_setiter_next : entryFor table "set_iterator.__next__" = some Builtin.«set_iterator.__next__» := entryFor_of_tree (by kernel_rfl)
theorem args_setiter_next (a : Value) : argsOk "set_iterator.__next__" ⟨[a], []⟩ := by unfold argsOk; kernel_rfl
theorem entry_set_iter : entryFor table "set.__iter__" = some Builtin.«frozenset.__iter__» :=
  entryFor_alias (id' := "frozenset.__iter__") (by kernel_rfl) rfl (by decide +kernel) (by kernel_rfl)
noncomputable def sitObj (D : Addr) (slot given : Int) : Obj := { cls := .type "set_iterator", data := .fields #[.int slot 0, .int given 0, .ref D, .int 1 0, .int 1 0] }
theorem pick_one (next : Nat → Nat) (x : Int × Value) : pickOrder next #[x] = #[x] := by
  unfold pickOrder
  simp [pickOrder.go, Nat.mod_one]
theorem below0 (led : Bool) : SetTable.below (tabT led).place 0 = 0 := by kernel_rfl
theorem below2 (led : Bool) : SetTable.below (tabT led).place 2 = 1 := by kernel_rfl
section
variable {prog : Program} {w : World} {A : Around} {E : Value → Shared → Prop} {s : Shared} {D : Addr}
theorem iter_setT {Q : Value → Shared → Prop} (ho : s.heap.get? D = some (setT w)) (h : Q (.ref s.heap.objs.size) { s with heap := s.heap.push (sitObj D 0 0) }) : wpAny (model prog w) A (pyIter (.ref D)) Q E s := by
  have hT : s.TypeIs (.ref D) "set" := ⟨_, ho, rfl⟩
  refine wpAny_pyIter_slot hT PySem.F.slot_set_iter (wpAny_call_entry PySem.F.slot_set_iter hT entry_set_iter ?_ (PySem.F.args_set_iter_1 _))
  unfold Builtin.«frozenset.__iter__»
  refine wpAny_bind (wpAny_pure ?_)
  unfold Builtin.Frozenset.sizeOf
  refine wpAny_bind (wpAny_bind ?_)
  unfold setEntries
  refine wpAny_bind (wpAny_setState_of ho rfl rfl (wpAny_pure (wpAny_pure ?_)))
  refine wpAny_bind ?_
  unfold setDrawn
  refine wpAny_bind (wpAny_setState_of ho rfl rfl ?_)
  unfold setsByText
  refine wpAny_bind (wpAny_bind (wpAny_askSetting (wpAny_pure (wpAny_pure ?_))))
  refine wpAny_ite ?_
  refine Eq.mpr (if_neg ?_) ?_
  · exact fun hh => Bool.noConfusion (show false = true from (Bool.and_eq_true_iff.mp hh).2)
  refine wpAny_bind (wpAny_pure ?_)
  unfold setEpoch
  refine wpAny_bind (wpAny_bind (wpAny_setState_of ho rfl rfl (wpAny_pure ?_)))
  refine wpAny_bind (wpAny_newObj_type ?_ (by size_fits))
  exact wpAny_pure ⟨_, rfl, "set_iterator", _, ⟨_, Heap.get?_push_size _ rfl, rfl⟩, slot_setiter_next.lookup, h⟩
/-- what the set hands out at a place -/
theorem set_next {slot given : Nat} {Q : Option (Value × Nat) → Shared → Prop} (ho : s.heap.get? D = some (setT w))
    (hk : slot = 0 ∧ given = 0 ∨ given = 1 ∧ (w.params.followText "set-order" = false → slot = 2))
    (h : ∀ k, (given = 1 → w.params.followText "set-order" = false → k = 2) → (given = 0 → w.params.followText "set-order" = false → k = 2) → Q (if given = 0 then some (.bool true, k) else none) s) : wpAny (model prog w) A (setNext D slot given 1) Q E s := by
  unfold setNext
  refine wpAny_bind (wpAny_setState_of ho rfl rfl ?_)
  unfold setsByText
  refine wpAny_bind (wpAny_bind (wpAny_askSetting (wpAny_pure ?_)))
  cases hb : w.params.followText "set-order" with
  | true =>
    refine wpAny_ite ?_
    refine Eq.mpr (if_pos hb) ?_
    refine wpAny_ite ?_
    refine Eq.mpr (if_neg (by decide)) ?_
    unfold setWalk
    refine wpAny_bind (wpAny_bind (wpAny_setState_of ho rfl rfl ?_))
    unfold setsByText
    refine wpAny_bind (wpAny_bind (wpAny_askSetting (wpAny_pure ?_)))
    refine wpAny_ite ?_
    refine Eq.mpr (if_pos hb) ?_
    refine wpAny_bind (wpAny_askSetting (wpAny_pure (wpAny_pure ?_)))
    rw [pick_one]
    rcases hk with ⟨rfl, rfl⟩ | ⟨rfl, _⟩
    · exact h 0 (by rw [hb]; intro _ e; cases e) (by rw [hb]; intro _ e; cases e)
    · exact h 0 (by rw [hb]; intro _ e; cases e) (by rw [hb]; intro _ e; cases e)
  | false =>
    refine wpAny_ite ?_
    refine Eq.mpr (if_neg (fun e => Bool.noConfusion (hb.symm.trans (show w.params.followText "set-order" = true from e)))) ?_
    refine wpAny_ite ?_
    refine Eq.mpr (if_neg (fun e => Bool.noConfusion (show false = true from e))) ?_
    refine wpAny_bind ?_
    refine wpAny_ite ?_
    refine Eq.mpr (if_neg (fun e => ?_)) ?_
    · have e1 : (!ledOf w) = true := (Bool.and_eq_true_iff.mp e).1
      unfold ledOf at e1
      rw [hb] at e1; cases e1
    refine wpAny_pure (wpAny_pure ?_)
    rcases hk with ⟨rfl, rfl⟩ | ⟨rfl, hs⟩
    · rw [below0]
      exact h 2 (fun _ _ => rfl) (fun _ _ => rfl)
    · rw [hs hb, below2]
      exact h 2 (fun _ _ => rfl) (fun _ _ => rfl)
/-- the one element -/
theorem setiter_item {I : Addr} {Q : Option Value → Shared → Prop} (ho : s.heap.get? D = some (setT w)) (hI : s.heap.get? I = some (sitObj D 0 0))
    (h : ∀ h' (k : Nat), h'.get? I = some (sitObj D k 1) → (w.params.followText "set-order" = false → k = 2) → Heap.SameBut I s.heap h' → Q (some (.bool true)) { s with heap := h' }) : wpAny (model prog w) A (pyNext (.ref I)) Q E s := by
  have hT : s.TypeIs (.ref I) "set_iterator" := ⟨_, hI, rfl⟩
  unfold pyNext
  refine wpAny_bind (wpAny_attempt (wpAny_callSpecial?_slot (name := Str.ofString "__next__") hT slot_setiter_next
    (wpAny_call_entry slot_setiter_next hT entry_setiter_next ?_ (args_setiter_next _))))
  unfold Builtin.«set_iterator.__next__»
  refine wpAny_bind (wpAny_pure ?_)
  refine wpAny_bind (wpAny_fieldsOf hI rfl ?_)
  dsimp only
  unfold setEntries
  refine wpAny_bind (wpAny_bind (wpAny_setState_of ho rfl rfl (wpAny_pure ?_)))
  refine wpAny_ite ?_
  refine Eq.mpr (if_neg (fun e => Bool.noConfusion (show false = true from e))) ?_
  refine wpAny_bind (set_next (slot := 0) (given := 0) ho (.inl ⟨rfl, rfl⟩) fun k _ hk => ?_)
  rw [if_pos rfl]
  refine wpAny_bind (wpAny_setField_rec hI (by simp) fun h₁ e₁ s₁ => ?_)
  refine wpAny_bind (wpAny_setField_rec e₁ (by simp) fun h₂ e₂ s₂ => ?_)
  exact wpAny_pure ⟨_, rfl, wpAny_pure (h h₂ k e₂ (hk rfl) (s₁.trans s₂))⟩
/-- and no more -/
theorem setiter_end {I : Addr} {k : Nat} {Q : Option Value → Shared → Prop} (hh : A.handled = none) (ho : s.heap.get? D = some (setT w)) (hI : s.heap.get? I = some (sitObj D k 1)) (hk : w.params.followText "set-order" = false → k = 2)
    (h : ∀ h', Heap.ExtBut I s.heap h' → Q none { s with heap := h' }) : wpAny (model prog w) A (pyNext (.ref I)) Q E s := by
  have hT : s.TypeIs (.ref I) "set_iterator" := ⟨_, hI, rfl⟩
  unfold pyNext
  refine wpAny_bind (wpAny_attempt (wpAny_callSpecial?_slot (name := Str.ofString "__next__") hT slot_setiter_next
    (wpAny_call_entry slot_setiter_next hT entry_setiter_next ?_ (args_setiter_next _))))
  unfold Builtin.«set_iterator.__next__»
  refine wpAny_bind (wpAny_pure ?_)
  refine wpAny_bind (wpAny_fieldsOf hI rfl ?_)
  dsimp only
  unfold setEntries
  refine wpAny_bind (wpAny_bind (wpAny_setState_of ho rfl rfl (wpAny_pure ?_)))
  refine wpAny_ite ?_
  refine Eq.mpr (if_neg (fun e => Bool.noConfusion (show false = true from e))) ?_
  refine wpAny_bind (set_next (slot := k) (given := 1) ho (.inr ⟨rfl, hk⟩) fun k _ _ => ?_)
  rw [if_neg (by decide)]
  refine wpAny_bind (wpAny_setField_rec hI (by simp) fun h₁ e₁ s₁ => ?_)
  show wpAny _ _ (newExc (.type "StopIteration") [] >>= _) _ _ _
  refine wpAny_bind ?_
  simp only [newExc, newTuple]
  refine wpAny_bind (wpAny_newObj_type ?_ (by size_fits))
  refine wpAny_bind (m := firstArgMember _ _) (wpAny_of_eq (a := Value.none) (by first | rfl | (simp only [firstArgMember]; rfl)) ?_)
  refine wpAny_newObj_type ?_ (by size_fits)
  simp only [raiseNew]
  refine wpAny_bind (wpAny_handled ?_)
  rw [show A.in1.handled = none from hh]
  refine wpAny_bind (wpAny_pure (wpAny_throw ?_))
  refine wpAny_bind (wpAny_isInstance (T := "StopIteration") (b := true) ⟨_, Heap.get?_push_size _ rfl, rfl⟩ isSubtype_stop ?_)
  exact wpAny_pure (h _ ((s₁.extBut.push _).push _))
/-- x, = a set that holds True -/
theorem as_setT {c : Cx} {P : Part} {L : Addr} {m : Str → Option Value} {M : List (Addr × Obj)} {env : Env} {x : Str} {px pos : Pos} {k : Nat} {Q : Unit → Shared → Prop} (F : Fm c P L m M s) (hA : A.handled = none) (ho : s.heap.get? D = some (setT w))
    (hL : env.locals = L) (hk : env.scope.kind = .function) (hx : env.kindOf x = some .local)
    (h : ∀ s', Fm c P L (fun q => if q = x then some (.bool true) else m q) M s' → Q () s') : wpAny (model prog w) A (assign (.Tuple [.Name x px] k pos) env (.ref D)) Q E s := by
  have hT : s.TypeIs (.ref D) "set" := ⟨_, ho, rfl⟩
  rw [arm_assign_Tuple]
  refine wpAny_bind (wpAny_standAt ?_)
  unfold unpack
  refine wpAny_bind (wpAny_holding ?_)
  show wpAny _ _ (unpackItems (.ref D) 1 none) _ _ _
  unfold unpackItems notIterableAtAll
  refine wpAny_bind (wpAny_bind (wpAny_specialOf hT PySem.F.slot_set_iter.lookup (wpAny_pure ?_)))
  refine wpAny_bind (wpAny_holding (iter_setT ho ?_))
  have hDI : D ≠ s.heap.objs.size := Nat.ne_of_lt (Heap.lt_size ho)
  refine wpAny_bind (wpAny_holding ?_)
  show wpAny _ _ (pyNext _ >>= _) _ _ _
  refine wpAny_bind (setiter_item (w := w) (D := D) (Heap.get?_push_of_some _ ho) (Heap.get?_push_size _ rfl) fun h₁ k₁ i₁ hk₁ s₁ => ?_)
  refine wpAny_bind (wpAny_holding (wpAny_pure (wpAny_pure ?_)))
  refine wpAny_ite ?_
  refine Eq.mpr (if_neg (by decide)) ?_
  refine wpAny_bind (wpAny_holding (setiter_end (w := w) (D := D) hA ((s₁.2 D hDI).trans (Heap.get?_push_of_some _ ho)) i₁ hk₁ fun h₂ s₂ => ?_))
  refine wpAny_ite ?_
  refine Eq.mpr (if_neg (by decide)) ?_
  refine wpAny_pure ?_
  have F₂ : Fm c P L m M { s with heap := h₂, toks := s.toks } := F.keeps fun b o e => s₂ b o (Nat.ne_of_lt (Heap.lt_size e)) ((s₁.2 b (Nat.ne_of_lt (Heap.lt_size e))).trans (Heap.get?_push_of_some _ e))
  show wpAny _ _ (assignInOrder [fun v => assign (.Name x px) env v] [.bool true]) _ _ _
  refine wpAny_bind (wpAny_holding (as_name F₂ hL hk hx fun s₃ F₃ => ?_))
  exact wpAny_pure (h _ F₃)
end
end
section
open PySem PySem.W PyProof.Rows
open Builtin Builtin.Str
set_option autoImplicit false
set_option linter.unusedVariables false
set_option maxRecDepth 100000
section
variable {prog : Program} {w : World} {mb : Str → Option Value} {A : Around} {E : Value → Shared → Prop} {s : Shared} {env : Env}
variable {c : Cx} {P P' : Part} {L : Addr} {m : Str → Option Value} {M : List (Addr × Obj)} {Q : Value → Shared → Prop} {R : Result → Shared → Prop} {target : Expr}
theorem x_asgTup {ts : List Expr} {k : Nat} {tp pos : Pos} {value : Expr} {rest : List Stmt} {Q : Flow → Shared → Prop}
    (h : wpAny (model prog w) A (eval value env) (fun v s₁ => wpAny (model prog w) A (assign (.Tuple ts k tp) env v) (fun _ s₂ => wpAny (model prog w) A (execs rest env) Q E s₂) E s₁) E s)
    (hs : swapsWith value (some (.Tuple ts k tp)) pos.line env = pure false) (hss : swappedStores [.Tuple ts k tp] value env = pure none) :
    wpAny (model prog w) A (execs (.Assign [.Tuple ts k tp] value pos :: rest) env) Q E s := by
  refine wpAny_execs_cons ?_
  show wpAny _ A (standAt pos >>= fun _ => swapsWith value (some (.Tuple ts k tp)) pos.line env >>= fun b => if b = true then (evalThenUse value env (fun v => assignAll v ((assignEach [.Tuple ts k tp] env).map (·.2))) >>= fun _ => pure .next)
    else (eval value env >>= fun v => swappedStores [.Tuple ts k tp] value env >>= fun sw => assignStores env v sw ((assignEach [.Tuple ts k tp] env).map (·.2)))) _ _ _
  rw [hs, hss]
  refine wpAny_bind (wpAny_standAt (wpAny_bind (wpAny_pure ?_)))
  rw [if_neg (by decide)]
  refine wpAny_bind (wpAny_mono h (fun v s₁ h₁ => wpAny_bind (wpAny_pure ?_)) fun _ _ e => e)
  show wpAny _ A (assign (.Tuple ts k tp) env v >>= fun _ => (pure Flow.next : Sem Flow)) _ _ _
  exact wpAny_bind (wpAny_mono h₁ (fun _ s₂ h₂ => wpAny_pure h₂) fun _ _ e => e)
theorem e_scomp {elt iter : Expr} {gs : List Comprehension} {scope : Scope} {cl : List (Str × Addr)} {pos : Pos}
    (hs : ∀ x, foldedSetIterable iter env x = pure x) (hclos : closureFor scope env = pure cl) (hkind : scope.kind = .function) (hnames : (scope.names.all fun x => x.2 != .local || scope.names.lookup x.1 == some .local) = true)
    (h : wpAny (model prog w) A (eval iter env) (fun x s₁ => wpAny (model prog w) A (pyIter x) (fun it s₂ => wpAny (model prog w) A (newSet (.type "set")) (fun acc s₃ =>
      wpAny (model prog w) A (newFunctionEnv scope env.globals cl [] env.qual none .none (some env)) (fun cenv s₄ =>
        codeAny (model prog w) A (.compStart (.SetComp elt (⟨target, iter, [], 0⟩ :: gs) scope pos) 0 it acc { cenv with scope := relabel scope env }) (compPost (model prog w) A E none Q acc cenv.locals) s₄) E s₃) E s₂) E s₁) E s) :
    wpAny (model prog w) A (eval (.SetComp elt (⟨target, iter, [], 0⟩ :: gs) scope pos) env) Q E s := by
  show wpAny _ A (comprehension (.SetComp elt (⟨target, iter, [], 0⟩ :: gs) scope pos) scope env _ (newSet (.type "set")) false (eval iter env)) _ _ _
  exact wpAny_comprehension_free (use := none) rfl hs hclos hkind (fun x hx hl => by have := List.all_eq_true.mp hnames x hx; rw [hl] at this; simpa using this) h
theorem x_scomp {y : Str} {py : Pos} {elt iter : Expr} {gs : List Comprehension} {scope : Scope} {cl : List (Str × Addr)} {pos spos : Pos} {rest : List Stmt} {Q : Flow → Shared → Prop}
    (hsw : swapsWith (.SetComp elt (⟨target, iter, [], 0⟩ :: gs) scope pos) (some (.Name y py)) spos.line env = pure true)
    (hs : ∀ x, foldedSetIterable iter env x = pure x) (hclos : closureFor scope env = pure cl) (hkind : scope.kind = .function) (hnames : (scope.names.all fun x => x.2 != .local || scope.names.lookup x.1 == some .local) = true)
    (h : wpAny (model prog w) A (eval iter env) (fun x s₁ => wpAny (model prog w) A (pyIter x) (fun it s₂ => wpAny (model prog w) A (newSet (.type "set")) (fun acc s₃ =>
      wpAny (model prog w) A (newFunctionEnv scope env.globals cl [] env.qual none .none (some env)) (fun cenv s₄ =>
        codeAny (model prog w) A (.compStart (.SetComp elt (⟨target, iter, [], 0⟩ :: gs) scope pos) 0 it acc { cenv with scope := relabel scope env })
          (compPost (model prog w) A E (some (assign (.Name y py) env)) (fun _ s' => wpAny (model prog w) A (execs rest env) Q E s') acc cenv.locals) s₄) E s₃) E s₂) E s₁) E s) :
    wpAny (model prog w) A (execs (.Assign [.Name y py] (.SetComp elt (⟨target, iter, [], 0⟩ :: gs) scope pos) spos :: rest) env) Q E s := by
  refine wpAny_execs_cons ?_
  rw [exec_Assign_Name_used _ _ _ _ hsw]
  refine wpAny_bind (wpAny_standAt (wpAny_bind ?_))
  show wpAny _ A (do let _ ← comprehension (.SetComp elt (⟨target, iter, [], 0⟩ :: gs) scope pos) scope env _ (newSet (.type "set")) false (eval iter env) (some (assign (.Name y py) env))) _ _ s
  refine wpAny_bind (wpAny_mono (wpAny_comprehension_free (use := some (assign (.Name y py) env)) (Q := fun _ s' => wpAny (model prog w) A (execs rest env) Q E s') rfl hs hclos hkind
    (fun x hx hl => by have := List.all_eq_true.mp hnames x hx; rw [hl] at this; simpa using this) h) (fun _ s' hq => wpAny_pure (wpAny_pure hq)) fun _ _ e => e)
/-- { .. for x in a tuple }: one clause -/
theorem scomp_tup {elt iter : Expr} {scope : Scope} {cl : List (Str × Addr)} {x : Str} {px pos : Pos} {a : Addr} {vs : List Value} {n : Nat} {RR : Value → Addr → Result → Shared → Prop}
    (hcell : (scope.names.all fun y => y.2 != .cell) = true) (hkind : scope.kind = .function) (hx : ∀ C, (compEnvC scope cl C env).kindOf x = some .local) (hA : A.handled = none)
    (F : Fm c P L m M s) (ha : P a = some (tpl vs.toArray n)) (J : Nat → Obj → Prop) (hJ : J 0 (set0 w))
    (turn : ∀ C D I i v P' m' oD' oI' c' s' E', vs[i]? = some v → P.le P' → c'.P₀ = P → J i oD' → Fm c' P' C m' [(D, oD'), (I, oI')] s' → m' x = some v →
      wpAny (model prog w) A (eval elt (compEnvC scope cl C env)) (fun y s₃ => wpAny (model prog w) A (call (.builtin "set.add") [.ref D, y]) (fun _ s₄ =>
        ∃ P'' m'' oD'', P'.le P'' ∧ Fm c' P'' C m'' [(D, oD''), (I, oI')] s₄ ∧ J (i + 1) oD'') E' s₃) E' s')
    (done : ∀ D C oC mC P' oD s', P.le P' → J vs.length oD → Fm c P' L m ((C, oC) :: (D, oD) :: M) s' → s'.heap.Ns C mC → RR (.ref D) C (.ok .next) s') :
    wpAny (model prog w) A (pyIter (.ref a)) (fun it s₂ => wpAny (model prog w) A (newSet (.type "set")) (fun acc s₃ => wpAny (model prog w) A (newFunctionEnv scope env.globals cl [] env.qual none .none (some env)) (fun cenv s₄ =>
      codeAny (model prog w) A (.compStart (.SetComp elt [⟨.Name x px, iter, [], 0⟩] scope pos) 0 it acc { cenv with scope := relabel scope env }) (RR acc cenv.locals) s₄) E s₃) E s₂) E s := by
  have hl : s.heap.IsTuple a vs.toArray := ⟨_, F.on _ _ ha, rfl, n, rfl⟩
  have han := new_ne (F.on _ _ ha)
  refine wpAny_pyIter_tuple hl ?_
  have W := Walks.tuple (prog := prog) (w := w) hA s.heap.objs.size a han vs.toArray
  rw [List.size_toArray] at W
  have F₁ := F.allocM { cls := .type "tuple_iterator", data := .fields #[.ref a, rawInt 0] }
  refine z_newSet ?_
  refine comp_in (RR := fun acc cenv s₄ => codeAny (model prog w) A (.compStart (.SetComp elt [⟨.Name x px, iter, [], 0⟩] scope pos) 0 (.ref s.heap.objs.size) acc cenv) (RR acc cenv.locals) s₄)
    (fun y hy hc => by have := List.all_eq_true.mp hcell y hy; rw [hc] at this; simp at this) hkind rfl F₁ fun D C s₁ hold Fi out => ?_
  have hst : (s.heap.push { cls := .type "tuple_iterator", data := .fields #[.ref a, rawInt 0] }).IsTupleIter s.heap.objs.size a 0 ∧ (s.heap.push { cls := .type "tuple_iterator", data := .fields #[.ref a, rawInt 0] }).IsTuple a vs.toArray :=
    ⟨⟨_, Heap.get?_push_size _ rfl, rfl, rfl⟩, hl.at fun o e => Heap.get?_push_of_some _ e⟩
  have hst₁ := W.frame 0 _ s₁.heap hst fun b _ o e => hold b o e
  have loop : codeAny (model prog w) A (.compLoop (.SetComp elt [⟨.Name x px, iter, [], 0⟩] scope pos) 0 (.ref s.heap.objs.size) (.ref D) (compEnvC scope cl C env)) (RR (.ref D) C) s₁ := by
    refine set_run (t0 := elt) (setLast0 _ _ _ _ _ _ _) W (fun i h st => ?_) (fun b hb => ?_) (fun _ => rfl) (fun i P' m' oD => J i oD) Fi hst₁ hJ ?_ ?_
    · obtain ⟨⟨o, ho, _⟩, _⟩ := st; exact ⟨o, ho⟩
    · simp only [List.mem_cons, List.mem_nil_iff, or_false] at hb
      rcases hb with rfl | rfl
      · exact .inl rfl
      · exact .inr ⟨_, ha⟩
    · intro i v P' m' oD' oI' s' E' hi hv hle hj F'
      have hv' : vs[i]? = some v := by simpa using hv
      refine as_name F' rfl hkind (hx C) fun s₂ F₂ => ?_
      exact turn C D _ i v P' _ oD' oI' _ s₂ E' hv' hle rfl hj F₂ (if_pos rfl)
    · intro P' m' oD' s' hle hj F'
      obtain ⟨oC, mC, G, hn⟩ := out P' m' oD' s' F'
      exact done D C oC mC P' oD' s' hle hj G hn
  exact set_start rfl loop fun E' => W.self 0 _ _ _ hst₁ loop
end
end
section
open PySem PySem.W PyProof.Rows
open Builtin Builtin.Str
set_option autoImplicit false
set_option linter.unusedVariables false
set_option maxRecDepth 100000
/-- what a loop over a list may turn -/
noncomputable def Fz (I S : Addr) (s s₁ : Shared) : Prop := (∃ h tk, s₁ = { s with heap := h, toks := tk }) ∧ ∀ a o, a ≠ I → a ≠ S → s.heap.get? a = some o → s₁.heap.get? a = some o
theorem Fz.trans {I S : Addr} {s s₁ s₂ : Shared} (h : Fz I S s s₁) (k : Fz I S s₁ s₂) : Fz I S s s₂ := by
  obtain ⟨⟨h1, t1, rfl⟩, h2⟩ := h
  obtain ⟨⟨h3, t3, rfl⟩, h4⟩ := k
  exact ⟨⟨h3, t3, rfl⟩, fun a o ha hb e => h4 a o ha hb (h2 a o ha hb e)⟩
theorem Fz.refl {I S : Addr} {s : Shared} : Fz I S s s := ⟨⟨s.heap, s.toks, rfl⟩, fun _ _ _ _ e => e⟩
structure Ord (lt : Nat → Nat → Bool) : Prop where
  tr : ∀ {a b c}, lt a b = true → lt b c = true → lt a c = true
  ir : ∀ a, lt a a = false
section
variable {prog : Program} {w : World} {A : Around} {E : Value → Shared → Prop}
theorem min_loop {R : Result → Shared → Prop} {l I S : Addr} {vs : List Value} {n0 : Nat} {s : Shared} {lt : Nat → Nat → Bool} (O : Ord lt) (hA : A.handled = none) (hl : s.heap.get? l = some (lst vs.toArray n0)) (hlI : l ≠ I) (hlS : l ≠ S) (hIS : I ≠ S)
    (cmp : ∀ i j vi vj s₁ (Q E : Value → Shared → Prop), Fz I S s s₁ → vs[i]? = some vi → vs[j]? = some vj → Q (.bool (lt i j)) s₁ → wpAny (model prog w) A.in1 (richCompare .Lt vi vj) Q E s₁)
    (h : ∀ s' b vb, vs[b]? = some vb → (∀ i, i < vs.length → lt i b = false) → Fz I S s s' → R (.ok (.ret vb)) s') :
    ∀ (k j b : Nat) (vb : Value) (cnt : Nat) (s₁ : Shared), j + 1 + k = vs.length → Fz I S s s₁ → s₁.heap.IsListIter I l (j + 1) → s₁.heap.get? S = some (lst #[vb, vb] cnt) → vs[b]? = some vb → (∀ i, i ≤ j → lt i b = false) →
      codeAny (model prog w) A (.builtin "min.loop" ⟨[.ref I, .none, .ref S], []⟩) R s₁
  | 0, j, b, vb, cnt, s₁, hk, hz, hit, hS, hb, hbest => by
    refine codeAny_builtin PySem.F.entry_min_loop ?_
    rw [Around.under_plainId PySem.F.plain_min_loop _]
    have W := Walks.list (prog := prog) (w := w) (A := A.in1) hA I l hlI vs.toArray
    have hl₁ : s₁.heap.IsList l vs.toArray := ⟨_, hz.2 l _ hlI hlS hl, rfl, n0, rfl⟩
    show wpAny _ A.in1 (seqItems? (.ref S) >>= _) _ _ s₁
    refine wpAny_bind (wpAny_seqItems hS rfl ?_)
    show wpAny _ A.in1 (tryCatch (pyNext (.ref I)) _ >>= _) _ _ s₁
    refine wpAny_bind (wpAny_tryCatch (W.done s₁ _ _ ⟨by rw [List.size_toArray, ← hk]; exact hit, hl₁⟩ fun h' tk hk' => ?_))
    have hS' := hk' S _ (by simpa using hIS.symm) hS
    show wpAny _ A.in1 (updateSeq S (fun _ => #[]) >>= _) _ _ _
    refine wpAny_bind (wpAny_updateSeq hS' rfl (wpAny_bind (wpAny_letGo (wpAny_pure ?_))))
    refine h _ b vb hb (fun i hi => hbest i (by lia)) (hz.trans ⟨⟨_, _, rfl⟩, fun a o ha hs e => ?_⟩)
    exact (Heap.SameBut.update ..).extBut a o hs (hk' a o (by simpa using ha) e)
  | k + 1, j, b, vb, cnt, s₁, hk, hz, hit, hS, hb, hbest => by
    refine codeAny_builtin PySem.F.entry_min_loop ?_
    rw [Around.under_plainId PySem.F.plain_min_loop _]
    have W := Walks.list (prog := prog) (w := w) (A := A.in1) hA I l hlI vs.toArray
    have hl₁ : s₁.heap.IsList l vs.toArray := ⟨_, hz.2 l _ hlI hlS hl, rfl, n0, rfl⟩
    have hname : (toString "min" ++ toString ".loop" : String) = "min.loop" := by decide
    show wpAny _ A.in1 (seqItems? (.ref S) >>= _) _ _ s₁
    refine wpAny_bind (wpAny_seqItems hS rfl ?_)
    show wpAny _ A.in1 (tryCatch (pyNext (.ref I)) _ >>= _) _ _ s₁
    refine wpAny_bind (wpAny_tryCatch (W.item (j + 1) s₁ _ _ (by rw [List.size_toArray]; lia) ⟨hit, hl₁⟩ fun v h' tk hP hst' hk' => ?_))
    have hS' := hk' S _ (by simpa using hIS.symm) hS
    have hv : vs[j + 1]? = some v := by simpa using hP
    have hz' : Fz I S s { s₁ with heap := h', toks := tk } := hz.trans ⟨⟨_, _, rfl⟩, fun a o ha hs e => hk' a o (by simpa using ha) e⟩
    show wpAny _ A.in1 (tryCatch (holding [v, v] (richCompare .Lt v vb >>= _)) _ >>= _) _ _ _
    refine wpAny_bind (wpAny_tryCatch (wpAny_holding (wpAny_bind (cmp (j + 1) b v vb _ _ _ hz' hv hb ?_))))
    refine wpAny_bind (wpAny_holding (wpAny_truthy_bool ?_))
    refine wpAny_bind (wpAny_letGo (wpAny_pure ?_))
    cases hlt : lt (j + 1) b with
    | true =>
      simp only [if_true]
      refine wpAny_bind (wpAny_updateSeq hS' rfl (wpAny_bind (wpAny_letGo ?_)))
      rw [hname]
      have up := IsL.update (show IsL h' S #[vb, vb] cnt from hS') (fun _ => #[v, v])
      refine wpAny_pure ⟨plainId_quiet PySem.F.plain_min_loop _, min_loop O hA hl hlI hlS hIS cmp h k (j + 1) (j + 1) v _ _ (by lia) (hz'.trans ⟨⟨_, _, rfl⟩, fun a o ha hs e => (Heap.SameBut.update ..).extBut a o hs e⟩) ?_ up hv ?_⟩
      · exact hst'.1.extBut (Heap.SameBut.update ..).extBut hIS
      · intro i hi
        by_cases e : i = j + 1
        · subst e; exact O.ir _
        · cases q : lt i (j + 1) with
          | false => rfl
          | true => have := O.tr q hlt; rw [hbest i (by lia)] at this; cases this
    | false =>
      simp only [Bool.false_eq_true, if_false]
      refine wpAny_bind (wpAny_letGo ?_)
      rw [hname]
      refine wpAny_pure ⟨plainId_quiet PySem.F.plain_min_loop _, min_loop O hA hl hlI hlS hIS cmp h k (j + 1) b vb cnt _ (by lia) hz' hst'.1 hS' hb ?_⟩
      intro i hi
      by_cases e : i = j + 1
      · subst e; exact hlt
      · exact hbest i (by lia)
theorem call_min {s : Shared} {l : Addr} {vs : List Value} {n0 : Nat} {lt : Nat → Nat → Bool} {Q : Value → Shared → Prop} (O : Ord lt) (hA : A.handled = none) (hl : s.heap.get? l = some (lst vs.toArray n0)) (hne : vs ≠ [])
    (cmp : ∀ i j vi vj s₁ (Q E : Value → Shared → Prop), (∀ a o, s.heap.get? a = some o → s₁.heap.get? a = some o) → (∃ h tk, s₁ = { s with heap := h, toks := tk }) → vs[i]? = some vi → vs[j]? = some vj → Q (.bool (lt i j)) s₁ → wpAny (model prog w) A.in1 (richCompare .Lt vi vj) Q E s₁)
    (h : ∀ h' tk b vb, vs[b]? = some vb → (∀ i, i < vs.length → lt i b = false) → (∀ a o, s.heap.get? a = some o → h'.get? a = some o) → Q vb { s with heap := h', toks := tk }) :
    wpAny (model prog w) A (call (.builtin "min") [.ref l]) Q E s := by
  have hname : (toString "min" ++ toString ".loop" : String) = "min.loop" := by decide
  refine call_function_tree PySem.F.kind_min PySem.F.plain_min PySem.F.entry_min (PySem.F.args_min1 _) ?_
  show wpAny _ A.in1 (Builtin.Builtins.bindParams "min" ["key", "default"] 0 ⟨[], []⟩ >>= _) _ _ s
  refine wpAny_bind (wpAny_of_eq (show Builtin.Builtins.bindParams "min" ["key", "default"] 0 ⟨[], []⟩ = pure [none, none] from rfl) ?_)
  refine wpAny_bind (wpAny_pure ?_)
  have hL : s.heap.IsList l vs.toArray := ⟨_, hl, rfl, n0, rfl⟩
  refine wpAny_bind (wpAny_pyIter_list hL ?_)
  refine wpAny_bind (wpAny_newList (items := []) ?_ (Nat.zero_le _))
  rw [hname]
  have hlt : l < s.heap.objs.size := Heap.lt_size hl
  obtain ⟨e1, e2, e3, e4, e5⟩ : ((s.heap.push { cls := .type "list_iterator", data := .fields #[.ref l, .int 0 0] }).objs.size = s.heap.objs.size + 1) ∧ ((s.heap.push { cls := .type "list_iterator", data := .fields #[.ref l, .int 0 0] }).push (lst #[] 0)).get? s.heap.objs.size = some { cls := .type "list_iterator", data := .fields #[.ref l, .int 0 0] } ∧
      ((s.heap.push { cls := .type "list_iterator", data := .fields #[.ref l, .int 0 0] }).push (lst #[] 0)).get? (s.heap.objs.size + 1) = some (lst #[] 0) ∧ (∀ a o, s.heap.get? a = some o → ((s.heap.push { cls := .type "list_iterator", data := .fields #[.ref l, .int 0 0] }).push (lst #[] 0)).get? a = some o) ∧ s.heap.objs.size ≠ s.heap.objs.size + 1 := by
    have e1 : (s.heap.push { cls := .type "list_iterator", data := .fields #[.ref l, .int 0 0] }).objs.size = s.heap.objs.size + 1 := Heap.size_push ..
    refine ⟨e1, Heap.get?_push_of_some _ (Heap.get?_push_size _ rfl), ?_, fun a o e => Heap.get?_push_of_some _ (Heap.get?_push_of_some _ e), Nat.ne_of_lt (Nat.lt_succ_self _)⟩
    rw [← e1]; exact Heap.get?_push_size _ rfl
  rw [show (Value.ref ({ s with heap := s.heap.push { cls := .type "list_iterator", data := .fields #[.ref l, .int 0 0] } } : Shared).heap.objs.size) = Value.ref (s.heap.objs.size + 1) from congrArg Value.ref e1]
  refine wpAny_pure ⟨plainId_quiet PySem.F.plain_min_loop _, ?_⟩
  have old : ∀ a o, s.heap.get? a = some o → a ≠ s.heap.objs.size ∧ a ≠ s.heap.objs.size + 1 := fun a o e => ⟨Nat.ne_of_lt (Heap.lt_size e), Nat.ne_of_lt (Nat.lt_succ_of_lt (Heap.lt_size e))⟩
  -- the first item
  refine codeAny_builtin PySem.F.entry_min_loop ?_
  rw [Around.under_plainId PySem.F.plain_min_loop _]
  have W := Walks.list (prog := prog) (w := w) (A := A.in1) hA s.heap.objs.size l (old l _ hl).1 vs.toArray
  have hpos : 0 < vs.length := List.length_pos_iff.mpr hne
  show wpAny _ A.in1 (seqItems? (.ref (s.heap.objs.size + 1)) >>= _) _ _ _
  refine wpAny_bind (wpAny_seqItems e3 rfl ?_)
  show wpAny _ A.in1 (tryCatch (pyNext (.ref s.heap.objs.size)) _ >>= _) _ _ _
  refine wpAny_bind (wpAny_tryCatch (W.item 0 _ _ _ (by rw [List.size_toArray]; exact hpos) ⟨⟨_, e2, rfl, rfl⟩, ⟨_, e4 _ _ hl, rfl, n0, rfl⟩⟩ fun v h' tk hP hst' hk' => ?_))
  have hS' := hk' (s.heap.objs.size + 1) _ (by simp) e3
  have hv : vs[0]? = some v := by simpa using hP
  show wpAny _ A.in1 (updateSeq (s.heap.objs.size + 1) (fun _ => #[v, v]) >>= _) _ _ _
  have up := IsL.update (show IsL h' (s.heap.objs.size + 1) #[] 0 from hS') (fun _ => #[v, v])
  refine wpAny_bind (wpAny_updateSeq hS' rfl ?_)
  rw [hname]
  have keep : ∀ a o, s.heap.get? a = some o → (h'.update (s.heap.objs.size + 1) (Obj.mapSeq fun _ => #[v, v])).get? a = some o := fun a o e =>
    (Heap.SameBut.update ..).extBut a o (old a o e).2 (hk' a o (by simpa using (old a o e).1) (e4 a o e))
  refine wpAny_pure ⟨plainId_quiet PySem.F.plain_min_loop _, min_loop (s := { s with heap := h'.update (s.heap.objs.size + 1) (Obj.mapSeq fun _ => #[v, v]), toks := tk }) O hA (keep _ _ hl) (old l _ hl).1 (old l _ hl).2 e5 (fun i j vi vj s₁ Q E hz hi hj hq => ?_) (fun s' b vb hb hbest hz => ?_) (vs.length - 1) 0 0 v _ _ (by lia) Fz.refl ?_ up hv fun i hi => ?_⟩
  · obtain ⟨⟨h2, t2, rfl⟩, h3⟩ := hz
    exact cmp i j vi vj _ Q E (fun a o e => h3 a o (old a o e).1 (old a o e).2 (keep a o e)) ⟨_, _, rfl⟩ hi hj hq
  · obtain ⟨⟨h2, t2, rfl⟩, h3⟩ := hz
    exact h _ _ b vb hb hbest fun a o e => h3 a o (old a o e).1 (old a o e).2 (keep a o e)
  · exact hst'.1.extBut (Heap.SameBut.update ..).extBut e5
  · have : i = 0 := by lia
    subst this; exact O.ir _
theorem max_loop {R : Result → Shared → Prop} {l I S : Addr} {vs : List Value} {n0 : Nat} {s : Shared} {lt : Nat → Nat → Bool} (O : Ord lt) (hA : A.handled = none) (hl : s.heap.get? l = some (lst vs.toArray n0)) (hlI : l ≠ I) (hlS : l ≠ S) (hIS : I ≠ S)
    (cmp : ∀ i j vi vj s₁ (Q E : Value → Shared → Prop), Fz I S s s₁ → vs[i]? = some vi → vs[j]? = some vj → Q (.bool (lt i j)) s₁ → wpAny (model prog w) A.in1 (richCompare .Gt vi vj) Q E s₁)
    (h : ∀ s' b vb, vs[b]? = some vb → (∀ i, i < vs.length → lt i b = false) → Fz I S s s' → R (.ok (.ret vb)) s') :
    ∀ (k j b : Nat) (vb : Value) (cnt : Nat) (s₁ : Shared), j + 1 + k = vs.length → Fz I S s s₁ → s₁.heap.IsListIter I l (j + 1) → s₁.heap.get? S = some (lst #[vb, vb] cnt) → vs[b]? = some vb → (∀ i, i ≤ j → lt i b = false) →
      codeAny (model prog w) A (.builtin "max.loop" ⟨[.ref I, .none, .ref S], []⟩) R s₁
  | 0, j, b, vb, cnt, s₁, hk, hz, hit, hS, hb, hbest => by
    refine codeAny_builtin PySem.F.entry_max_loop ?_
    rw [Around.under_plainId PySem.F.plain_max_loop _]
    have W := Walks.list (prog := prog) (w := w) (A := A.in1) hA I l hlI vs.toArray
    have hl₁ : s₁.heap.IsList l vs.toArray := ⟨_, hz.2 l _ hlI hlS hl, rfl, n0, rfl⟩
    show wpAny _ A.in1 (seqItems? (.ref S) >>= _) _ _ s₁
    refine wpAny_bind (wpAny_seqItems hS rfl ?_)
    show wpAny _ A.in1 (tryCatch (pyNext (.ref I)) _ >>= _) _ _ s₁
    refine wpAny_bind (wpAny_tryCatch (W.done s₁ _ _ ⟨by rw [List.size_toArray, ← hk]; exact hit, hl₁⟩ fun h' tk hk' => ?_))
    have hS' := hk' S _ (by simpa using hIS.symm) hS
    show wpAny _ A.in1 (updateSeq S (fun _ => #[]) >>= _) _ _ _
    refine wpAny_bind (wpAny_updateSeq hS' rfl (wpAny_bind (wpAny_letGo (wpAny_pure ?_))))
    refine h _ b vb hb (fun i hi => hbest i (by lia)) (hz.trans ⟨⟨_, _, rfl⟩, fun a o ha hs e => ?_⟩)
    exact (Heap.SameBut.update ..).extBut a o hs (hk' a o (by simpa using ha) e)
  | k + 1, j, b, vb, cnt, s₁, hk, hz, hit, hS, hb, hbest => by
    refine codeAny_builtin PySem.F.entry_max_loop ?_
    rw [Around.under_plainId PySem.F.plain_max_loop _]
    have W := Walks.list (prog := prog) (w := w) (A := A.in1) hA I l hlI vs.toArray
    have hl₁ : s₁.heap.IsList l vs.toArray := ⟨_, hz.2 l _ hlI hlS hl, rfl, n0, rfl⟩
    have hname : (toString "max" ++ toString ".loop" : String) = "max.loop" := by decide
    show wpAny _ A.in1 (seqItems? (.ref S) >>= _) _ _ s₁
    refine wpAny_bind (wpAny_seqItems hS rfl ?_)
    show wpAny _ A.in1 (tryCatch (pyNext (.ref I)) _ >>= _) _ _ s₁
    refine wpAny_bind (wpAny_tryCatch (W.item (j + 1) s₁ _ _ (by rw [List.size_toArray]; lia) ⟨hit, hl₁⟩ fun v h' tk hP hst' hk' => ?_))
    have hS' := hk' S _ (by simpa using hIS.symm) hS
    have hv : vs[j + 1]? = some v := by simpa using hP
    have hz' : Fz I S s { s₁ with heap := h', toks := tk } := hz.trans ⟨⟨_, _, rfl⟩, fun a o ha hs e => hk' a o (by simpa using ha) e⟩
    show wpAny _ A.in1 (tryCatch (holding [v, v] (richCompare .Gt v vb >>= _)) _ >>= _) _ _ _
    refine wpAny_bind (wpAny_tryCatch (wpAny_holding (wpAny_bind (cmp (j + 1) b v vb _ _ _ hz' hv hb ?_))))
    refine wpAny_bind (wpAny_holding (wpAny_truthy_bool ?_))
    refine wpAny_bind (wpAny_letGo (wpAny_pure ?_))
    cases hlt : lt (j + 1) b with
    | true =>
      simp only [if_true]
      refine wpAny_bind (wpAny_updateSeq hS' rfl (wpAny_bind (wpAny_letGo ?_)))
      rw [hname]
      have up := IsL.update (show IsL h' S #[vb, vb] cnt from hS') (fun _ => #[v, v])
      refine wpAny_pure ⟨plainId_quiet PySem.F.plain_max_loop _, max_loop O hA hl hlI hlS hIS cmp h k (j + 1) (j + 1) v _ _ (by lia) (hz'.trans ⟨⟨_, _, rfl⟩, fun a o ha hs e => (Heap.SameBut.update ..).extBut a o hs e⟩) ?_ up hv ?_⟩
      · exact hst'.1.extBut (Heap.SameBut.update ..).extBut hIS
      · intro i hi
        by_cases e : i = j + 1
        · subst e; exact O.ir _
        · cases q : lt i (j + 1) with
          | false => rfl
          | true => have := O.tr q hlt; rw [hbest i (by lia)] at this; cases this
    | false =>
      simp only [Bool.false_eq_true, if_false]
      refine wpAny_bind (wpAny_letGo ?_)
      rw [hname]
      refine wpAny_pure ⟨plainId_quiet PySem.F.plain_max_loop _, max_loop O hA hl hlI hlS hIS cmp h k (j + 1) b vb cnt _ (by lia) hz' hst'.1 hS' hb ?_⟩
      intro i hi
      by_cases e : i = j + 1
      · subst e; exact hlt
      · exact hbest i (by lia)
theorem call_max {s : Shared} {l : Addr} {vs : List Value} {n0 : Nat} {lt : Nat → Nat → Bool} {Q : Value → Shared → Prop} (O : Ord lt) (hA : A.handled = none) (hl : s.heap.get? l = some (lst vs.toArray n0)) (hne : vs ≠ [])
    (cmp : ∀ i j vi vj s₁ (Q E : Value → Shared → Prop), (∀ a o, s.heap.get? a = some o → s₁.heap.get? a = some o) → (∃ h tk, s₁ = { s with heap := h, toks := tk }) → vs[i]? = some vi → vs[j]? = some vj → Q (.bool (lt i j)) s₁ → wpAny (model prog w) A.in1 (richCompare .Gt vi vj) Q E s₁)
    (h : ∀ h' tk b vb, vs[b]? = some vb → (∀ i, i < vs.length → lt i b = false) → (∀ a o, s.heap.get? a = some o → h'.get? a = some o) → Q vb { s with heap := h', toks := tk }) :
    wpAny (model prog w) A (call (.builtin "max") [.ref l]) Q E s := by
  have hname : (toString "max" ++ toString ".loop" : String) = "max.loop" := by decide
  refine call_function_tree PySem.F.kind_max PySem.F.plain_max PySem.F.entry_max (PySem.F.args_max1 _) ?_
  show wpAny _ A.in1 (Builtin.Builtins.bindParams "max" ["key", "default"] 0 ⟨[], []⟩ >>= _) _ _ s
  refine wpAny_bind (wpAny_of_eq (show Builtin.Builtins.bindParams "max" ["key", "default"] 0 ⟨[], []⟩ = pure [none, none] from rfl) ?_)
  refine wpAny_bind (wpAny_pure ?_)
  have hL : s.heap.IsList l vs.toArray := ⟨_, hl, rfl, n0, rfl⟩
  refine wpAny_bind (wpAny_pyIter_list hL ?_)
  refine wpAny_bind (wpAny_newList (items := []) ?_ (Nat.zero_le _))
  rw [hname]
  have hlt : l < s.heap.objs.size := Heap.lt_size hl
  obtain ⟨e1, e2, e3, e4, e5⟩ : ((s.heap.push { cls := .type "list_iterator", data := .fields #[.ref l, .int 0 0] }).objs.size = s.heap.objs.size + 1) ∧ ((s.heap.push { cls := .type "list_iterator", data := .fields #[.ref l, .int 0 0] }).push (lst #[] 0)).get? s.heap.objs.size = some { cls := .type "list_iterator", data := .fields #[.ref l, .int 0 0] } ∧
      ((s.heap.push { cls := .type "list_iterator", data := .fields #[.ref l, .int 0 0] }).push (lst #[] 0)).get? (s.heap.objs.size + 1) = some (lst #[] 0) ∧ (∀ a o, s.heap.get? a = some o → ((s.heap.push { cls := .type "list_iterator", data := .fields #[.ref l, .int 0 0] }).push (lst #[] 0)).get? a = some o) ∧ s.heap.objs.size ≠ s.heap.objs.size + 1 := by
    have e1 : (s.heap.push { cls := .type "list_iterator", data := .fields #[.ref l, .int 0 0] }).objs.size = s.heap.objs.size + 1 := Heap.size_push ..
    refine ⟨e1, Heap.get?_push_of_some _ (Heap.get?_push_size _ rfl), ?_, fun a o e => Heap.get?_push_of_some _ (Heap.get?_push_of_some _ e), Nat.ne_of_lt (Nat.lt_succ_self _)⟩
    rw [← e1]; exact Heap.get?_push_size _ rfl
  rw [show (Value.ref ({ s with heap := s.heap.push { cls := .type "list_iterator", data := .fields #[.ref l, .int 0 0] } } : Shared).heap.objs.size) = Value.ref (s.heap.objs.size + 1) from congrArg Value.ref e1]
  refine wpAny_pure ⟨plainId_quiet PySem.F.plain_max_loop _, ?_⟩
  have old : ∀ a o, s.heap.get? a = some o → a ≠ s.heap.objs.size ∧ a ≠ s.heap.objs.size + 1 := fun a o e => ⟨Nat.ne_of_lt (Heap.lt_size e), Nat.ne_of_lt (Nat.lt_succ_of_lt (Heap.lt_size e))⟩
  -- the first item
  refine codeAny_builtin PySem.F.entry_max_loop ?_
  rw [Around.under_plainId PySem.F.plain_max_loop _]
  have W := Walks.list (prog := prog) (w := w) (A := A.in1) hA s.heap.objs.size l (old l _ hl).1 vs.toArray
  have hpos : 0 < vs.length := List.length_pos_iff.mpr hne
  show wpAny _ A.in1 (seqItems? (.ref (s.heap.objs.size + 1)) >>= _) _ _ _
  refine wpAny_bind (wpAny_seqItems e3 rfl ?_)
  show wpAny _ A.in1 (tryCatch (pyNext (.ref s.heap.objs.size)) _ >>= _) _ _ _
  refine wpAny_bind (wpAny_tryCatch (W.item 0 _ _ _ (by rw [List.size_toArray]; exact hpos) ⟨⟨_, e2, rfl, rfl⟩, ⟨_, e4 _ _ hl, rfl, n0, rfl⟩⟩ fun v h' tk hP hst' hk' => ?_))
  have hS' := hk' (s.heap.objs.size + 1) _ (by simp) e3
  have hv : vs[0]? = some v := by simpa using hP
  show wpAny _ A.in1 (updateSeq (s.heap.objs.size + 1) (fun _ => #[v, v]) >>= _) _ _ _
  have up := IsL.update (show IsL h' (s.heap.objs.size + 1) #[] 0 from hS') (fun _ => #[v, v])
  refine wpAny_bind (wpAny_updateSeq hS' rfl ?_)
  rw [hname]
  have keep : ∀ a o, s.heap.get? a = some o → (h'.update (s.heap.objs.size + 1) (Obj.mapSeq fun _ => #[v, v])).get? a = some o := fun a o e =>
    (Heap.SameBut.update ..).extBut a o (old a o e).2 (hk' a o (by simpa using (old a o e).1) (e4 a o e))
  refine wpAny_pure ⟨plainId_quiet PySem.F.plain_max_loop _, max_loop (s := { s with heap := h'.update (s.heap.objs.size + 1) (Obj.mapSeq fun _ => #[v, v]), toks := tk }) O hA (keep _ _ hl) (old l _ hl).1 (old l _ hl).2 e5 (fun i j vi vj s₁ Q E hz hi hj hq => ?_) (fun s' b vb hb hbest hz => ?_) (vs.length - 1) 0 0 v _ _ (by lia) Fz.refl ?_ up hv fun i hi => ?_⟩
  · obtain ⟨⟨h2, t2, rfl⟩, h3⟩ := hz
    exact cmp i j vi vj _ Q E (fun a o e => h3 a o (old a o e).1 (old a o e).2 (keep a o e)) ⟨_, _, rfl⟩ hi hj hq
  · obtain ⟨⟨h2, t2, rfl⟩, h3⟩ := hz
    exact h _ _ b vb hb hbest fun a o e => h3 a o (old a o e).1 (old a o e).2 (keep a o e)
  · exact hst'.1.extBut (Heap.SameBut.update ..).extBut e5
  · have : i = 0 := by lia
    subst this; exact O.ir _
end
end
section
open PySem PySem.W PyProof.Rows
open Builtin Builtin.Str
set_option autoImplicit false
set_option linter.unusedVariables false
set_option maxRecDepth 100000
theorem ltRows_law : ∀ a b, ltRows a b = Law.ltRows a b
  | [], ys => rfl
  | _ :: _, [] => rfl
  | x :: xs, y :: ys => by rw [ltRows, Law.ltRows, ltRows_law xs ys]
theorem ltRows_ord (f : Nat → List (List Nat)) : Ord (fun i j => ltRows (f i) (f j)) := by
  simp only [ltRows_law]
  exact ⟨fun h1 h2 => Law.lt_le h1 (Law.lt_asymm h2), fun a => Law.LeR.refl _⟩
section
variable {prog : Program} {w : World} {A : Around} {E : Value → Shared → Prop} {s : Shared}
variable {c : Cx} {P : Part} {L : Addr} {m : Str → Option Value} {M : List (Addr × Obj)} {Q : Value → Shared → Prop}
theorem row_at {vs : List Value} {rows : List (List Str)} (h : RepAll P vs (rowsD rows)) {i : Nat} {v : Value} (hi : vs[i]? = some v) :
    ∃ r a l n, rows[i]? = some r ∧ v = .ref a ∧ P a = some (lst (strValues l).toArray n) ∧ l.map (·.1) = r := by
  obtain ⟨d, hd, hr⟩ := h.getV hi
  unfold rowsD at hd
  rw [List.getElem?_map] at hd
  cases hx : rows[i]? with
  | none => rw [hx] at hd; cases hd
  | some r =>
    rw [hx] at hd; cases hd
    obtain ⟨a, us, n, rfl, ha, hr⟩ := hr.list_inv
    obtain ⟨l, rfl, e⟩ := hr.strs
    exact ⟨r, a, l, n, rfl, rfl, ha, e⟩
theorem rep_row {a : Addr} {l : List (Str × Tok)} {n : Nat} {r : List Str} (ha : P a = some (lst (strValues l).toArray n)) (e : l.map (·.1) = r) : Rep P (.ref a) (.list (r.map .str)) := by
  subst e; exact .list ha (.ofStrs l)
theorem z_minR {v : Value} {rows : List (List Str)} (F : Fm c P L m M s) (hA : Rm A 2) (hr : Rep P v (.list (rowsD rows))) (hne : rows ≠ [])
    (h : ∀ u r s', r ∈ rows → (∀ r' ∈ rows, ltRows (r'.map cp) (r.map cp) = false) → Rep P u (.list (r.map .str)) → Fm c P L m M s' → Q u s') : wpAny (model prog w) A (call (.builtin "min") [v]) Q E s := by
  obtain ⟨a, vs, n, rfl, ha, hra⟩ := hr.list_inv
  have hlen : vs.length = rows.length := by rw [hra.length]; simp [rowsD]
  refine call_min (lt := fun i j => ltRows ((rows.getD i []).map cp) ((rows.getD j []).map cp)) (ltRows_ord fun i => (rows.getD i []).map cp) hA.handled (F.on _ _ ha) (fun e => hne (by rw [← List.length_eq_zero_iff, ← hlen, e]; rfl)) (fun i j vi vj s₁ Q E hk hs hi hj hq => ?_) (fun h' tk b vb hb hbest hk => ?_)
  · obtain ⟨r1, a1, l1, n1, x1, rfl, p1, e1⟩ := row_at hra hi
    obtain ⟨r2, a2, l2, n2, x2, rfl, p2, e2⟩ := row_at hra hj
    refine lists_lt (hk _ _ (F.on _ _ p1)) (hk _ _ (F.on _ _ p2)) (hA.in1.cl) (LtV.strs l1 l2) ?_
    rw [List.getD_eq_getElem?_getD, List.getD_eq_getElem?_getD, x1, x2] at hq
    subst e1; subst e2
    simpa [List.map_map, Function.comp_def] using hq
  · obtain ⟨r1, a1, l1, n1, x1, rfl, p1, e1⟩ := row_at hra hb
    refine h _ r1 _ (List.mem_of_getElem? x1) (fun r' hr' => ?_) (rep_row p1 e1) (F.keeps hk)
    obtain ⟨i, hi⟩ := List.getElem?_of_mem hr'
    have := hbest i (by rw [hlen]; exact (List.getElem?_eq_some_iff.mp hi).1)
    rw [List.getD_eq_getElem?_getD, List.getD_eq_getElem?_getD, x1, hi] at this
    exact this
theorem z_maxR {v : Value} {rows : List (List Str)} (F : Fm c P L m M s) (hA : Rm A 2) (hr : Rep P v (.list (rowsD rows))) (hne : rows ≠ [])
    (h : ∀ u r s', r ∈ rows → (∀ r' ∈ rows, ltRows (r.map cp) (r'.map cp) = false) → Rep P u (.list (r.map .str)) → Fm c P L m M s' → Q u s') : wpAny (model prog w) A (call (.builtin "max") [v]) Q E s := by
  obtain ⟨a, vs, n, rfl, ha, hra⟩ := hr.list_inv
  have hlen : vs.length = rows.length := by rw [hra.length]; simp [rowsD]
  have O := ltRows_ord fun i => (rows.getD i []).map cp
  refine call_max (lt := fun i j => ltRows ((rows.getD j []).map cp) ((rows.getD i []).map cp)) ⟨fun h1 h2 => O.tr h2 h1, O.ir⟩ hA.handled (F.on _ _ ha) (fun e => hne (by rw [← List.length_eq_zero_iff, ← hlen, e]; rfl)) (fun i j vi vj s₁ Q E hk hs hi hj hq => ?_) (fun h' tk b vb hb hbest hk => ?_)
  · obtain ⟨r1, a1, l1, n1, x1, rfl, p1, e1⟩ := row_at hra hi
    obtain ⟨r2, a2, l2, n2, x2, rfl, p2, e2⟩ := row_at hra hj
    refine lists_gt (hk _ _ (F.on _ _ p1)) (hk _ _ (F.on _ _ p2)) (hA.in1.cl) (GtV.strs l1 l2) ?_
    rw [List.getD_eq_getElem?_getD, List.getD_eq_getElem?_getD, x1, x2] at hq
    subst e1; subst e2
    simpa [List.map_map, Function.comp_def] using hq
  · obtain ⟨r1, a1, l1, n1, x1, rfl, p1, e1⟩ := row_at hra hb
    refine h _ r1 _ (List.mem_of_getElem? x1) (fun r' hr' => ?_) (rep_row p1 e1) (F.keeps hk)
    obtain ⟨i, hi⟩ := List.getElem?_of_mem hr'
    have := hbest i (by rw [hlen]; exact (List.getElem?_eq_some_iff.mp hi).1)
    rw [List.getD_eq_getElem?_getD, List.getD_eq_getElem?_getD, x1, hi] at this
    exact this
end
end
section
open PySem PySem.W PyProof.Rows
open Builtin Builtin.Str
set_option autoImplicit false
set_option linter.unusedVariables false
set_option maxRecDepth 100000
set_option maxHeartbeats 1000000
section
variable {prog : Program} {w : World} {A : Around} {E : Value → Shared → Prop} {s : Shared} {P : Part} {Q : Value → Shared → Prop} {env : Env}
variable {c : Cx} {L : Addr} {m : Str → Option Value} {M : List (Addr × Obj)}
noncomputable def enumObj (it : Addr) (i : Int) (old : Value) : Obj := { cls := .type "enumerate", dict := none, data := .fields #[.none, .bool false, .ref it, rawInt i, .none, old], slots := #[] }
theorem z_enum {l : Addr} {vs : List Value} {n : Nat} (F : Fm c P L m M s) (hl : P l = some (lst vs.toArray n))
    (h : ∀ e it oi s', it ≠ l → s'.heap.IsListIter it l 0 → Fm c P L m ((e, enumObj it 0 .none) :: (it, oi) :: M) s' → Q (.ref e) s') : wpAny (model prog w) A (call (.type "enumerate") [.ref l]) Q E s := by
  refine call_enumerate_1 (F.on _ _ hl) fun h' e1 e2 e3 e4 => ?_
  have F₀ := F.keeps (tk := s.toks) e4
  have hlt : ∀ b o, s.heap.get? b = some o → b < s.heap.objs.size := fun b o e => Heap.lt_size e
  have out : ∀ k, c.O (s.heap.objs.size + k) = none ∧ P (s.heap.objs.size + k) = none ∧ s.heap.objs.size + k ≠ L ∧ ∀ p ∈ M, p.1 ≠ s.heap.objs.size + k := fun k => by
    refine ⟨?_, ?_, ?_, fun p hp q => ?_⟩
    · cases e : c.O (s.heap.objs.size + k) with
      | none => rfl
      | some o => exact absurd (hlt _ _ (F.old _ _ e)) (Nat.not_lt.mpr (Nat.le_add_right _ _))
    · cases e : P (s.heap.objs.size + k) with
      | none => rfl
      | some o => exact absurd (hlt _ _ (F.on _ _ e)) (Nat.not_lt.mpr (Nat.le_add_right _ _))
    · intro e
      have := F.ns.lt
      rw [← e] at this
      exact absurd this (Nat.not_lt.mpr (Nat.le_add_right _ _))
    · have := hlt _ _ (F.mu p hp)
      rw [q] at this
      exact absurd this (Nat.not_lt.mpr (Nat.le_add_right _ _))
  have o0 := out 0
  have o1 := out 1
  obtain ⟨oi, hoi, r⟩ := id e2
  have F₁ := F₀.learnM (a := s.heap.objs.size) hoi o0.2.1 o0.1 o0.2.2.1 o0.2.2.2
  have F₂ := F₁.learnM (a := s.heap.objs.size + 1) e1 o1.2.1 o1.1 o1.2.2.1 (fun p hp => by
    rcases List.mem_cons.mp hp with rfl | hp
    · exact Nat.ne_of_lt (Nat.lt_succ_self _)
    · exact o1.2.2.2 p hp)
  exact h _ _ _ _ (Nat.ne_of_gt (hlt _ _ (F.on _ _ hl))) e2 F₂
/-- for i, v in enumerate(a list) -/
inductive EnI (c : Cx) (P : Part) (L e it l : Addr) (vs : List Value) (J : Nat → Part → (Str → Option Value) → List (Addr × Obj) → Prop) (j : Nat) (s' : Shared) : Prop
  | mk : ∀ i P' m' M' old oi', P.le P' → J i P' m' M' → Fm c P' L m' ((e, enumObj it (i : Int) old) :: (it, oi') :: M') s' → s'.heap.IsListIter it l i → i ≤ vs.length → j = vs.length + 1 - i → EnI c P L e it l vs J j s'
theorem iter_enum {R : Result → Shared → Prop} {body : List Stmt} {l e it : Addr} {oi : Obj} {vs : List Value} {n k : Nat} {x y : Str} {px py tpos : Pos} (hl : P l = some (lst vs.toArray n)) (hA : A.handled = none) (hitl : it ≠ l)
    (F : Fm c P L m ((e, enumObj it 0 .none) :: (it, oi) :: M) s) (hit : s.heap.IsListIter it l 0) (hL : env.locals = L) (hk : env.scope.kind = .function) (hx : env.kindOf x = some .local) (hy : env.kindOf y = some .local)
    (J : Nat → Part → (Str → Option Value) → List (Addr × Obj) → Prop) (hJ : J 0 P m M)
    (turn : ∀ i v t P' Pt m' M' oe oi s' E', vs[i]? = some v → P.le P' → P'.le Pt → J i P' m' M' → Fm c Pt L (fun q => if q = y then some v else if q = x then some (.int i t) else m' q) ((e, oe) :: (it, oi) :: M') s' →
        wpAny (model prog w) A (execs body env) (fun f s₃ => match f with
          | .next | .cont => ∃ P'' m'' M'', Pt.le P'' ∧ Fm c P'' L m'' ((e, oe) :: (it, oi) :: M'') s₃ ∧ J (i + 1) P'' m'' M''
          | .brk => R (.ok .next) s₃
          | .ret v => R (.ok (.ret v)) s₃) E' s')
    (done : ∀ P' m' M' s', P.le P' → J vs.length P' m' M' → Fm c P' L m' M' s' → R (.ok .next) s') :
    wpAny (model prog w) A (pyIter (.ref e)) (fun it s₂ => codeAny (model prog w) A (.forLoop (.Tuple [.Name x px, .Name y py] k tpos) it body [] env) R s₂) E s := by
  have hei : e ≠ it := (List.pairwise_cons.mp F.nd).1 _ (.head _)
  refine wpAny_pyIter_enum (it := it) (i := 0) (old := .none) (mu0 F) ?_
  refine codeAny_forLoop_any (EnI c P L e it l vs J) ?_ (vs.length + 1)
    ⟨0, P, m, M, .none, oi, Part.le_refl _, hJ, F, hit, Nat.zero_le _, rfl⟩
  rintro j s' ⟨i, P', m', M', old, oi', hle, hJi, F', hit', hi, rfl⟩
  have hl' : s'.heap.IsList l vs.toArray := ⟨_, F'.on _ _ (hle _ _ hl), rfl, n, rfl⟩
  by_cases hlt : i < vs.length
  · have hv : vs[i]? = some vs[i] := List.getElem?_eq_getElem hlt
    refine wpAny_pyNext_enum_item (items := vs.toArray) (mu0 F') hit' hl' (x := vs[i]) (by rw [List.getElem?_toArray]; exact hv) hei fun h₁ o₁ i₁ t₁ z₁ k₁ => ?_
    refine wpAny_letOwnedTupleGo_enum o₁ fun h₂ e₂ s₂ => ?_
    have it₂ : h₂.IsListIter it l (i + 1) := i₁.extBut s₂.extBut hei.symm
    obtain ⟨oi₂, hoi₂, roi₂⟩ := id it₂
    have G : Fm c P' L m' ((e, enumObj it ((i + 1 : Nat) : Int) vs[i]) :: (it, oi₂) :: M') { s' with heap := h₂, toks := s'.toks + 1 } := by
      have G1 : Fm c P' L m' ((e, enumObj it ((i + 1 : Nat) : Int) vs[i]) :: (it, oi₂) :: M') { s' with heap := h₂, toks := s'.toks + 1 } := {
        same := let ⟨_, _, q⟩ := F'.same; ⟨h₂, s'.toks + 1, by rw [q]⟩
        ns := F'.ns.at' fun o q => s₂.extBut _ _ (F'.off _ (.head _)).1.symm (k₁ _ _ (F'.off _ (.head _)).1.symm (F'.off _ (.tail _ (.head _))).1.symm q)
        old := fun b o q => by
          have h1 : b ≠ e := fun r => by rw [r, (F'.off _ (.head _)).2.2] at q; cases q
          have h2 : b ≠ it := fun r => by rw [r, (F'.off _ (.tail _ (.head _))).2.2] at q; cases q
          exact s₂.extBut _ _ h1 (k₁ _ _ h1 h2 (F'.old b o q))
        le := F'.le
        on := fun b o q => by
          have h1 : b ≠ e := fun r => by rw [r, (F'.off _ (.head _)).2.1] at q; cases q
          have h2 : b ≠ it := fun r => by rw [r, (F'.off _ (.tail _ (.head _))).2.1] at q; cases q
          exact s₂.extBut _ _ h1 (k₁ _ _ h1 h2 (F'.on b o q))
        new := F'.new
        offL := F'.offL
        newL := F'.newL
        mu := fun p hp => by
          rcases List.mem_cons.mp hp with rfl | hp
          · exact e₂
          · rcases List.mem_cons.mp hp with rfl | hp
            · exact hoi₂
            · have n1 := List.pairwise_cons.mp F'.nd
              have h1 : p.1 ≠ e := (n1.1 p (.tail _ hp)).symm
              have h2 : p.1 ≠ it := ((List.pairwise_cons.mp n1.2).1 p hp).symm
              exact s₂.extBut _ _ h1 (k₁ _ _ h1 h2 (F'.mu p (.tail _ (.tail _ hp))))
        off := fun p hp => by
          rcases List.mem_cons.mp hp with rfl | hp
          · exact F'.off (e, enumObj it (i : Int) old) (.head _)
          · rcases List.mem_cons.mp hp with rfl | hp
            · exact F'.off (it, oi') (.tail _ (.head _))
            · exact F'.off p (.tail _ (.tail _ hp))
        nd := by
          have n1 := List.pairwise_cons.mp F'.nd
          have n2 := List.pairwise_cons.mp n1.2
          refine List.pairwise_cons.mpr ⟨fun p hp => ?_, List.pairwise_cons.mpr ⟨fun p hp => n2.1 p hp, n2.2⟩⟩
          rcases List.mem_cons.mp hp with rfl | hp
          · exact hei
          · exact n1.1 p (.tail _ hp) }
      exact G1
    have hTe : s'.heap.objs.size ≠ e := Nat.ne_of_gt (Heap.lt_size (mu0 F'))
    have hT₂ : h₂.get? s'.heap.objs.size = some (tpl [.int (i : Int) s'.toks, vs[i]].toArray 0) := s₂.extBut _ _ hTe t₁
    have hO : c.O s'.heap.objs.size = none := F'.size_O
    have G₂ := G.learn (a := s'.heap.objs.size) hT₂ hO (F'.size_L) (fun p hp => by
      rcases List.mem_cons.mp hp with rfl | hp
      · exact hTe.symm
      · rcases List.mem_cons.mp hp with rfl | hp
        · exact F'.size_M (it, oi') (.tail _ (.head _))
        · exact F'.size_M p (.tail _ (.tail _ hp)))
    have hle₂ : P'.le (P'.set s'.heap.objs.size (tpl [.int (i : Int) s'.toks, vs[i]].toArray 0)) := Part.le_set F'.size_P
    refine as_tup2 G₂ hA Part.set_self hL hk hx hy fun s₃ F₃ => ?_
    refine wpAny_mono (turn i vs[i] _ P' _ m' M' _ _ s₃ _ hv hle hle₂ hJi F₃) (fun f s₄ h₄ => ?_) fun _ _ e => e
    have next : (∃ P'' m'' M'', (P'.set s'.heap.objs.size (tpl [.int (i : Int) s'.toks, vs[i]].toArray 0)).le P'' ∧ Fm c P'' L m'' ((e, enumObj it ((i + 1 : Nat) : Int) vs[i]) :: (it, oi₂) :: M'') s₄ ∧ J (i + 1) P'' m'' M'') →
        ∃ m₁, m₁ < vs.length + 1 - i ∧ EnI c P L e it l vs J m₁ s₄ := by
      rintro ⟨P'', m'', M'', hle'', F'', hJ''⟩
      exact ⟨vs.length + 1 - (i + 1), by omega, i + 1, P'', m'', M'', vs[i], oi₂, Part.le_trans hle (Part.le_trans hle₂ hle''), hJ'', F'', ⟨oi₂, F''.mu _ (.tail _ (.head _)), roi₂⟩, hlt, rfl⟩
    cases f with
    | next => exact next h₄
    | cont => exact next h₄
    | brk => exact h₄
    | ret v => exact h₄
  · have hin : i = vs.length := by omega
    subst hin
    refine wpAny_pyNext_enum_end hA (mu0 F') hit' hl' (by simp) fun h' hk' => wpAny_execs_nil ?_
    have F₂ := F'.tail
    exact done P' m' M' _ hle hJi (F₂.tail.other (a := it) (F₂.off _ (.head _)).1 (F₂.off _ (.head _)).2.1 (F₂.off _ (.head _)).2.2 (fun p hp => ((List.pairwise_cons.mp F₂.nd).1 p hp).symm) (tk := s'.toks) hk')
end
end
section
open PySem PySem.W PyProof.Rows
open Builtin Builtin.Str
set_option autoImplicit false
set_option linter.unusedVariables false
set_option maxRecDepth 100000
set_option maxHeartbeats 2000000
section
variable {prog : Program} {w : World} {mb : Str → Option Value} {A : Around} {E : Value → Shared → Prop} {s : Shared} {P : Part} {Q : Value → Shared → Prop}
theorem z_tt {c : Cx} {L : Addr} {m : Str → Option Value} {M : List (Addr × Obj)} {a : Addr} {vs : List Value} {Q : Bool → Shared → Prop} (F : Fm c P L m M s) (ht : IsTup s.heap a vs.toArray) (hsz : vs.length ≤ sizeLine)
    (h : ∀ s', Fm c P L m M s' → Q (!vs.isEmpty) s') : wpAny (model prog w) A (truthy (.ref a)) Q E s := by
  have e : sizeLine = 16777216 := by decide
  exact truthy_tuple ht (by simp only [List.size_toArray]; lia) (by simpa using h _ (F.toks _))
theorem z_isb {c : Cx} {L : Addr} {m : Str → Option Value} {M : List (Addr × Obj)} {x : Str} {t : Tok} {Q : Value → Shared → Prop} (F : Fm c P L m M s) (h : ∀ s', Fm c P L m M s' → Q (.bool false) s') :
    wpAny (model prog w) A (call (.builtin "isinstance") [.str x t, .type "bytes"]) Q E s := IsiPair.str_bytes (h _ (F.toks _))
noncomputable def splitD : PyData → Option PyData
  | .str x => some (.list ((Txt.split x (Str.ofString "/")).map .str))
  | _ => none
theorem splitD_map (l : List Str) : (l.map PyData.str).filterMap splitD = rowsD (l.map fun x => Txt.split x (Str.ofString "/")) := by
  induction l with
  | nil => rfl
  | cons a l ih => simp only [List.map_cons, List.filterMap_cons, splitD, ih]; rfl
noncomputable def keepS (c : Str) : Bool := decide (cp c ≠ [] ∧ cp c ≠ [46])
noncomputable def keepD : PyData → Option PyData
  | .str c => if keepS c = true then some (.str c) else none
  | _ => none
theorem keepD_map (l : List Str) : (l.map PyData.str).filterMap keepD = (l.filter keepS).map .str := by
  induction l with
  | nil => rfl
  | cons a l ih =>
    rw [List.map_cons, List.filterMap_cons, keepD]
    cases h : keepS a with
    | true => simp only [if_true, ih, List.filter_cons, h, List.map_cons]
    | false => simp only [Bool.false_eq_true, if_false, ih, List.filter_cons, h]
noncomputable def keepR : PyData → Option PyData
  | .list ds => some (.list (ds.filterMap keepD))
  | _ => none
theorem keepR_map (rows : List (List Str)) : (rowsD rows).filterMap keepR = rowsD (rows.map fun r => r.filter keepS) := by
  unfold rowsD
  induction rows with
  | nil => rfl
  | cons a l ih => rw [List.map_cons, List.filterMap_cons, keepR, keepD_map, ih]; rfl
theorem join_ok3 {x : Str} {l : List Str} (h : l.length ≤ 2000) (hl : ∀ y ∈ l, y.length ≤ 1000) (hx : x.length ≤ 100 := by decide) : JoinOk x l = true := by
  have key : ∀ (l : List Str) (a : Nat), (∀ y ∈ l, y.length ≤ 1000) → l.foldl (fun a y => a + y.length + x.length) a ≤ a + l.length * 1100 := by
    intro l
    induction l with
    | nil => intro a _; simp
    | cons y l ih =>
      intro a hl
      have h1 := ih (a + y.length + x.length) fun z hz => hl z (.tail _ hz)
      have h2 := hl y (.head _)
      rw [List.foldl_cons, List.length_cons]
      lia
  have := key l 0 hl
  unfold JoinOk tooLong
  simp only [List.size_toArray, List.foldl_toArray']
  have e : sizeLine = 16777216 := by decide
  simp
  lia
/-- the rows that paths fall into -/
noncomputable def rowsOf (l : List Str) : List Law.Row := l.map fun x => ((Txt.split x (Str.ofString "/")).filter keepS).map cp
inductive CmR (c : Cx) (P₉ : Part) (L : Addr) (r₁ r₂ : List Str) (r : Except Value Flow) (s' : Shared) : Prop
  | mk : r = .ok .next → ∀ P' m' v, P₉.le P' → Fm c P' L m' [] s' → m' (Str.ofString "common") = some v → m' (Str.ofString "isabs") = some (.bool true) → Rep P' v (.list ((r₁.take (Law.lcp (r₁.map cp) (r₂.map cp))).map .str)) → CmR c P₉ L r₁ r₂ r s'
inductive CmJ (a1 a2 : Addr) (r₁ r₂ : List Str) (i : Nat) (P' : Part) (m' : Str → Option Value) (M' : List (Addr × Obj)) : Prop
  | mk : M' = [] → (r₁.map cp).take i = (r₂.map cp).take i → m' (Str.ofString "s1") = some (.ref a1) → m' (Str.ofString "s2") = some (.ref a2) → m' (Str.ofString "common") = some (.ref a1) → m' (Str.ofString "isabs") = some (.bool true) → CmJ a1 a2 r₁ r₂ i P' m' M'
theorem commonpath_spec {l : List (Str × Tok)} {n : Nat} {a : Addr} (X : Bs w mb P) (hP : P.on s.heap) (hA : Rm A 9) (ha : P a = some (lst (strValues l).toArray n)) (hl : l ≠ []) (hn : l.length ≤ 50) (hx : ∀ p ∈ l, p.1.length ≤ 1000) (hsw : ∀ p ∈ l, (cp p.1)[0]? = some 47)
    (h : ∀ y t P' s' r₁ r₂, Ret ⟨s, s.heap.get?, P⟩ P' s' → r₁ ∈ rowsOf (l.map (·.1)) → r₂ ∈ rowsOf (l.map (·.1)) → (∀ r ∈ rowsOf (l.map (·.1)), Law.LeR r₁ r) → (∀ r ∈ rowsOf (l.map (·.1)), Law.LeR r r₂) →
      cp y = pathL (r₁.take (Law.lcp r₁ r₂)) → Q (.str y t) s') :
    wpAny (model prog w) A (call (.ref 137) [.ref a]) Q E s := by
  refine enterC (binds := [(Str.ofString "paths", .ref a)]) X (fun _ _ e => e) hP hA.lt (a := 137) rfl (by kernel_rfl) rfl rfl rfl (by intro L; rfl) rfl rfl rfl ?_
  intro L s₁ E' env F hcell
  have hA' : Rm (A.deeper env) 8 := hA.deeper
  obtain ⟨o1, ho1, hd1, hL1, hP1, hO1⟩ := hcell (Str.ofString "sep") (L + 1) rfl
  obtain ⟨o2, ho2, hd2, hL2, hP2, hO2⟩ := hcell (Str.ofString "curdir") (L + 2) rfl
  clear hcell
  have F₁ := F.learnM ho2 hP2 hO2 (Nat.ne_of_gt hL2) (fun p hp => nomatch hp)
  have F₂ := F₁.learnM ho1 hP1 hO1 (Nat.ne_of_gt hL1) (fun p hp => by rw [List.mem_singleton.mp hp]; exact Nat.ne_of_gt (Nat.lt_succ_self _))
  have hd1' : o1.data = .cell none := hd1
  have hd2' : o2.data = .cell none := hd2
  clear hd1 hd2 F F₁
  repeat kspl_open e
  refine z_map (by assumption) ha fun I T it s₂ hit F₂ => ?_
  repeat kspl_open e
  refine z_tupleMap (X.mono (Part.le_refl _)) (hA'.mono (by decide)) ha (by lia) hit (by assumption) fun tp P₃ s₃ hle₃ htp F₃ => ?_
  repeat kspl_open e
  have hsl : sizeLine = 16777216 := by decide
  have hsz : (strValues l).length = l.length := by simp [strValues]
  refine z_tt (by assumption) (heap_tup (by assumption) htp) (by lia) fun s₄ F₄ => ?_
  obtain ⟨⟨x0, t0⟩, l', rfl⟩ := List.exists_cons_of_ne_nil hl
  rw [show (!(strValues ((x0, t0) :: l')).isEmpty) = true from rfl]
  repeat kspl_open e
  refine z_itemT (i := 0) (heap_tup (by assumption) htp) rfl (by lia) rfl ?_ rfl
  repeat kspl_open e
  refine z_isb (by assumption) fun s₅ F₅ => ?_
  repeat kspl_open e
  refine stC (by assumption) rfl rfl rfl hd1' fun s₆ o1' hc1 F₆ => ?_
  have G₆ := F₆.freeze
  have le₆ := F₆.le_freeze
  repeat kspl_open e
  refine stC (by assumption) rfl rfl rfl hd2' fun s₇ o2' hc2 F₇ => ?_
  have G₇ := F₇.freeze
  have le₇ := F₇.le_freeze
  repeat kspl_open e
  have p1 : _ = some o1' := le₇ (L + 1) o1' Part.set_self
  have p2 : _ = some o2' := Part.set_self (P := Part.set P₃ (L + 1) o1') (a := L + 2) (o := o2')
  have tp₇ := le₇ _ _ (le₆ _ _ htp)
  have le₃₇ := Part.le_trans le₆ le₇
  clear le₆ le₇ F₆ F₇
  generalize Part.set (Part.set P₃ (L + 1) o1') (L + 2) o2' = P₇ at G₇ p1 p2 tp₇ le₃₇
  show wpAny (model prog w) (A.deeper env) (execs _ env) _ E' _
  refine x_try fun E₂ => ?_
  kspl_open xcomp
  repeat kspl_open e
  have hrT : Rep P₇ (.ref tp) (.tuple ((((x0, t0) :: l').map (·.1)).map .str)) := .tuple tp₇ (.ofStrs _)
  have hlen : ((((x0, t0) :: l').map (·.1)).map PyData.str).length ≤ 50 := by simpa using hn
  refine comp_tup (g := splitD) rfl rfl (fun _ => rfl) hA'.handled (by lia) (by assumption) hrT ?_ (done_useR rfl rfl rfl ?_)
  · intro C c' v d P' m' M' s' E'' hd hle hrd hc' hO F' hm
    obtain ⟨x, hxm, rfl⟩ := List.mem_map.mp hd
    obtain ⟨p, hp, rfl⟩ := List.mem_map.mp hxm
    have hxl := hx p hp
    obtain ⟨tx, rfl⟩ := hrd.str_inv
    refine tests_nil ?_
    rw [if_pos rfl]
    repeat kspl_open e
    kspl_open gm
    repeat kspl_open e
    refine ldC rfl rfl rfl ⟨o1', Fm.on ‹_› _ _ (hle _ _ p1), hc1⟩ ?_ rfl
    repeat kspl_open e
    refine z_split (by assumption) rfl (by lia) fun v₂ P₂ s₂ hle₂ hr₂ F₂ => ⟨_, _, _, hle₂, F₂, hr₂, rfl⟩
  · intro v₈ P₈ s₈ hle₈ hr₈ F₈
    rw [splitD_map] at hr₈
    repeat kspl_open e
    refine x_try fun E₃ => ?_
    refine x_asgTup ?_ rfl rfl
    refine e_scomp (fun _ => rfl) rfl rfl rfl ?_
    repeat kspl_open e
    refine scomp_tup rfl rfl (fun _ => rfl) hA'.handled (by assumption) (hle₈ _ _ tp₇) (fun i oD => (i = 0 ∧ oD = set0 w) ∨ (0 < i ∧ oD = setT w)) (.inl ⟨rfl, rfl⟩) ?_ ?_
    · intro C D I i v P' m' oD' oI' c' s' E'' hv hle hc' hj F' hm
      obtain ⟨⟨x, tx⟩, hp, rfl⟩ : ∃ p : Str × Tok, p ∈ (x0, t0) :: l' ∧ v = .str p.1 p.2 := by
        have := List.mem_of_getElem? hv
        obtain ⟨p, hp, e⟩ := List.mem_map.mp this
        exact ⟨p, hp, e.symm⟩
      repeat kspl_open e
      kspl_open gm
      repeat kspl_open e
      refine ldC rfl rfl rfl ⟨o1', Fm.on ‹_› _ _ (hle _ _ (hle₈ _ _ p1)), hc1⟩ ?_ rfl
      repeat kspl_open e
      refine z_sw ?_
      rw [show Txt.startswith x (Str.ofString "/") = Txt.startswith x ⟨#[47]⟩ from rfl, sw_one, decide_eq_true (hsw _ hp)]
      refine add_true (mu0 F') (hj.imp And.right And.right) fun h' tk hD hsb => ⟨P', m', setT w, Part.le_refl _, F'.upd0 hD hsb.extBut, .inr ⟨Nat.succ_pos _, rfl⟩⟩
    · intro D C oC mC P' oD s' hle hj F' hn'
      refine done_none F' hn' fun s₉ F₉ => ?_
      have hoD : oD = setT w := by
        rcases hj with ⟨h0, _⟩ | ⟨_, h0⟩
        · simp [strValues] at h0
        · exact h0
      subst hoD
      refine as_setT F₉ hA'.handled (mu0 F₉) rfl rfl rfl fun s₁₀ F₁₀ => ?_
      have G₁₀ := F₁₀.tail
      clear F₁₀ F₉ F'
      repeat kspl_open e
      show wpAny (model prog w) (A.deeper env) (execs _ env) _ E₂ _
      kspl_open xcomp
      repeat kspl_open e
      refine comp_list (g := keepR) rfl rfl (fun _ => rfl) hA'.handled (by rw [rowsD, List.length_map, List.length_map, List.length_map]; lia) (by assumption) (hr₈.mono hle) ?_ (done_useR rfl rfl rfl ?_)
      · intro C c' v d P₁ m' M' s' E'' hd hle₁ hrd hc' hO F' hm
        obtain ⟨r, hr, rfl⟩ := List.mem_map.mp hd
        obtain ⟨x, hxm, rfl⟩ := List.mem_map.mp hr
        obtain ⟨p, hp, rfl⟩ := List.mem_map.mp hxm
        have hxl := hx p hp
        refine tests_nil ?_
        rw [if_pos rfl]
        kspl_open comp
        repeat kspl_open e
        refine comp_list (g := keepD) rfl rfl (fun _ => rfl) hA'.handled (by have := split_le p.1 (Str.ofString "/"); rw [List.length_map]; lia) (by assumption) hrd ?_ (done_noneR ?_)
        · intro C₂ c₂ v₂ d₂ P₂ m₂ M₂ s₂ E₂ hd₂ hle₂ hrd₂ hc₂ hO₂ F₂ hm₂
          obtain ⟨c, hc, rfl⟩ := List.mem_map.mp hd₂
          have hcl : c.length ≤ p.1.length := part_short hc
          obtain ⟨tc, rfl⟩ := hrd₂.str_inv
          refine tests_one ?_
          repeat kspl_open e
          refine z_ts (by assumption) (by lia) fun s₃ F₃ => ?_
          by_cases hce : cp c = []
          · have h0 : c.length = 0 := by rw [← cp_length, hce]; rfl
            rw [show ((c.length : Int) != 0) = false by rw [h0]; rfl]
            repeat kspl_open e
            refine ⟨_, _, Part.le_refl _, F₃, ?_⟩
            rw [keepD, if_neg]
            unfold keepS
            rw [decide_eq_false (fun h => h.1 hce)]; decide
          · have h0 : c.length ≠ 0 := fun e => hce (List.length_eq_zero_iff.mp (by rw [cp_length]; exact e))
            rw [show ((c.length : Int) != 0) = true by simp; lia]
            repeat kspl_open e
            refine ldC rfl rfl rfl ⟨o2', Fm.on ‹_› _ _ (hle₂ _ _ (hle₁ _ _ (hle _ _ (hle₈ _ _ p2)))), hc2⟩ ?_ rfl
            repeat kspl_open e
            have edot : c = Str.ofString "." ↔ cp c = [46] := ⟨fun e => by rw [e]; rfl, fun e => str_ext (e.trans rfl)⟩
            by_cases hcd : cp c = [46]
            · rw [show (!decide (c = Str.ofString ".")) = false by rw [decide_eq_true (edot.mpr hcd)]; rfl]
              repeat kspl_open e
              refine ⟨_, _, Part.le_refl _, ‹_›, ?_⟩
              rw [keepD, if_neg]
              unfold keepS
              rw [decide_eq_false (fun h => h.2 hcd)]; decide
            · rw [show (!decide (c = Str.ofString ".")) = true by rw [decide_eq_false (fun e => hcd (edot.mp e))]; rfl]
              repeat kspl_open e
              refine ⟨_, _, _, Part.le_refl _, ‹_›, .str _ _, ?_⟩
              rw [keepD, if_pos]
              unfold keepS
              exact decide_eq_true ⟨hce, hcd⟩
        · intro v₃ P₃ s₃ hle₃ hr₃ F₃
          exact ⟨P₃, _, _, hle₃, F₃, hr₃, rfl⟩
      · intro v₉ P₉ s₉ hle₉ hr₉ F₉
        rw [keepR_map] at hr₉
        generalize hrows : List.map (fun r => List.filter keepS r) (List.map (fun x => Txt.split x (Str.ofString "/")) (List.map (fun x => x.fst) ((x0, t0) :: l'))) = rows at hr₉
        have hne : rows ≠ [] := by rw [← hrows]; simp
        have hrl : ∀ r ∈ rows, r.length ≤ 1002 ∧ ∀ c ∈ r, c.length ≤ 1000 := by
          intro r hr
          rw [← hrows] at hr
          obtain ⟨r', hr', rfl⟩ := List.mem_map.mp hr
          obtain ⟨x, hx', rfl⟩ := List.mem_map.mp hr'
          obtain ⟨p, hp, rfl⟩ := List.mem_map.mp hx'
          have h1 := hx p hp
          have h2 := split_le p.1 (Str.ofString "/")
          have h3 := List.length_filter_le keepS (Txt.split p.1 (Str.ofString "/"))
          refine ⟨by lia, fun c hc => ?_⟩
          have := part_short (List.mem_filter.mp hc).1
          lia
        repeat kspl_open e
        refine z_minR (by assumption) (hA'.mono (by decide)) hr₉ hne fun u₁ r₁ s₁₁ hr₁m hr₁b hr₁ F₁₁ => ?_
        repeat kspl_open e
        refine z_maxR (by assumption) (hA'.mono (by decide)) hr₉ hne fun u₂ r₂ s₁₂ hr₂m hr₂b hr₂ F₁₂ => ?_
        obtain ⟨a1, vs1, n1, rfl, ha1, hra1⟩ := hr₁.list_inv
        obtain ⟨l1, rfl, hl1⟩ := hra1.strs
        obtain ⟨a2, vs2, n2, rfl, ha2, hra2⟩ := hr₂.list_inv
        obtain ⟨l2, rfl, hl2⟩ := hra2.strs
        repeat kspl_open e
        kspl_open fo
        repeat kspl_open e
        refine z_enum (by assumption) ha1 fun ee it oi s₁₃ hitl hit F₁₃ => ?_
        have e1 : (l1.map fun p => cp p.1) = r₁.map cp := by rw [← hl1, List.map_map]; rfl
        have e2 : (l2.map fun p => cp p.1) = r₂.map cp := by rw [← hl2, List.map_map]; rfl
        have hle12 : Law.ltRows (r₂.map cp) (r₁.map cp) = false := by rw [← ltRows_law]; exact hr₁b r₂ hr₂m
        have hn1 : l1.length ≤ 6000 := by have := (hrl r₁ hr₁m).1; rw [← hl1] at this; simp at this; lia
        have hn2 : l2.length ≤ 6000 := by have := (hrl r₂ hr₂m).1; rw [← hl2] at this; simp at this; lia
        refine wpAny_mono (iter_enum (R := CmR ⟨s, s.heap.get?, P⟩ P₉ L r₁ r₂)
          ha1 hA'.handled hitl F₁₃ hit rfl rfl rfl rfl (CmJ a1 a2 r₁ r₂)
          ⟨rfl, rfl, rfl, rfl, rfl, rfl⟩ ?_ ?_) (fun it' s' hit' => codeAny_mono hit' ?_) fun _ _ e => e
        · rintro i v t P' Pt m' M' oe oi' s' E'' hv hle hle₂ ⟨rfl, htk, hm1, hm2, hm3, hm4⟩ F'
          have hi : i < l1.length := by have := (List.getElem?_eq_some_iff.mp hv).1; simpa [strValues] using this
          obtain ⟨⟨x, tx⟩, hxi⟩ : ∃ p, l1[i]? = some p := ⟨l1[i], List.getElem?_eq_getElem hi⟩
          have hxv : v = .str x tx := by simp [strValues, hxi] at hv; exact hv.symm
          subst hxv
          have hi2 : i < l2.length := by
            have := Law.le_next _ _ i hle12 htk (by rw [← e1]; simpa using hi)
            rw [← e2] at this; simpa using this
          obtain ⟨⟨y, ty⟩, hyi⟩ : ∃ p, l2[i]? = some p := ⟨l2[i], List.getElem?_eq_getElem hi2⟩
          have hx1 : (r₁.map cp)[i]? = some (cp x) := by rw [← e1]; simp [hxi]
          have hy1 : (r₂.map cp)[i]? = some (cp y) := by rw [← e2]; simp [hyi]
          repeat kspl_open e
          refine z_item (i := i) (v := .str y ty) (heap_list (by assumption) (hle₂ _ _ (hle _ _ ha2))) rfl (by rw [show (strValues l2).length = l2.length by simp [strValues]]; lia) (by simp [strValues, hyi]) ?_ rfl
          repeat kspl_open e
          by_cases hxy : x = y
          · rw [decide_eq_true hxy]
            repeat kspl_open e
            refine ⟨Pt, _, _, Part.le_refl _, ‹_›, rfl, ?_, by exact hm1, by exact hm2, by exact hm3, by exact hm4⟩
            rw [List.take_add_one, List.take_add_one, htk, hx1, hy1, hxy]
          · rw [decide_eq_false hxy]
            repeat kspl_open e
            kspl_open slL
            repeat kspl_open e
            kspl_open p
            repeat kspl_open e
            kspl_open p
            repeat kspl_open e
            refine z_sl (by assumption) (rep_row (hle₂ _ _ (hle _ _ ha1)) hl1) .none (.int _ _) .none (by decide) (by have := (hrl r₁ hr₁m).1; rw [List.length_map]; lia) (fun vs hv => pick_take (Int.natCast_nonneg _) hv) fun v₄ P₄ s₄ hle₄ hr₄ F₄ => ?_
            repeat kspl_open e
            refine ⟨rfl, P₄, _, v₄, Part.le_trans hle (Part.le_trans hle₂ hle₄), Fm.tail (Fm.tail ‹_›), by rfl, by exact hm4, ?_⟩
            rw [Law.lcp_at _ _ i (cp x) (cp y) htk hx1 hy1 (fun e => hxy (str_ext e)), List.map_take]
            rw [Int.toNat_natCast] at hr₄
            exact hr₄
        · rintro P' m' M' s' hle ⟨rfl, htk, hm1, hm2, hm3, hm4⟩ F'
          refine ⟨rfl, P', m', _, hle, F', hm3, hm4, ?_⟩
          have hlen : (strValues l1).length = (r₁.map cp).length := by rw [← e1]; simp [strValues]
          rw [hlen] at htk
          rw [Law.lcp_full _ _ htk, List.length_map, List.take_length]
          exact rep_row (hle _ _ ha1) hl1
        · rintro r s' ⟨rfl, P', m', v, hlx, F', hm3, hm4, hrv⟩
          have hsep := hlx _ _ (hle₉ _ _ (hle _ _ (hle₈ _ _ p1)))
          repeat kspl_open e
          refine ldC rfl rfl rfl ⟨o1', Fm.on ‹_› _ _ hsep, hc1⟩ ?_ rfl
          repeat kspl_open e
          refine ldC rfl rfl rfl ⟨o1', Fm.on ‹_› _ _ hsep, hc1⟩ ?_ rfl
          repeat kspl_open e
          kspl_open gm
          repeat kspl_open e
          have hr1l := hrl r₁ hr₁m
          have htl := List.length_take_le (Law.lcp (r₁.map cp) (r₂.map cp)) r₁
          have hjl : (r₁.take (Law.lcp (r₁.map cp) (r₂.map cp))).length ≤ 1002 := by have := List.length_take_le' (Law.lcp (r₁.map cp) (r₂.map cp)) r₁; lia
          have hjc : ∀ y ∈ r₁.take (Law.lcp (r₁.map cp) (r₂.map cp)), y.length ≤ 1000 := fun y hy => hr1l.2 y (List.mem_of_mem_take hy)
          refine z_join (by assumption) hrv (join_ok3 (by lia) hjc) fun tj sj Fj => ?_
          have hcj := cp_join (Str.ofString "/") (r₁.take (Law.lcp (r₁.map cp) (r₂.map cp)))
          have hjlen : (Str.join (Str.ofString "/") (r₁.take (Law.lcp (r₁.map cp) (r₂.map cp)))).length ≤ 1100000 := by
            rw [← cp_length, hcj]
            have := joinL_len ((r₁.take (Law.lcp (r₁.map cp) (r₂.map cp))).map cp) 1000 fun z hz => by
              obtain ⟨y, hy, rfl⟩ := List.mem_map.mp hz
              rw [cp_length]; exact hjc y hy
            rw [List.length_map] at this
            have h2 := Nat.mul_le_mul hjl (Nat.le_refl (1000 + 1))
            have h3 : (joinL (cp (Str.ofString "/")) ((r₁.take (Law.lcp (r₁.map cp) (r₂.map cp))).map cp)).length = (joinL [47] ((r₁.take (Law.lcp (r₁.map cp) (r₂.map cp))).map cp)).length := rfl
            lia
          refine z_adds (by assumption) (by show 1 + _ ≤ _; lia) fun tr sr Fr => ?_
          repeat kspl_open e
          have inR : ∀ r, r ∈ rows → r.map cp ∈ rowsOf (((x0, t0) :: l').map (·.1)) := fun r hr => by
            rw [← hrows] at hr
            obtain ⟨r', hr', rfl⟩ := List.mem_map.mp hr
            obtain ⟨x, hx', rfl⟩ := List.mem_map.mp hr'
            exact List.mem_map.mpr ⟨x, hx', rfl⟩
          have ofR : ∀ r, r ∈ rowsOf (((x0, t0) :: l').map (·.1)) → ∃ r', r' ∈ rows ∧ r = r'.map cp := fun r hr => by
            obtain ⟨x, hx', rfl⟩ := List.mem_map.mp hr
            refine ⟨_, ?_, rfl⟩
            rw [← hrows]
            exact List.mem_map.mpr ⟨_, List.mem_map.mpr ⟨x, hx', rfl⟩, rfl⟩
          refine h _ _ P' _ (r₁.map cp) (r₂.map cp) ?_ (inR _ hr₁m) (inR _ hr₂m) (fun r hr => ?_) (fun r hr => ?_) ?_
          · exact Fm.ret Fr
          · obtain ⟨r', hr', rfl⟩ := ofR r hr
            show Law.ltRows _ _ = false
            rw [← ltRows_law]; exact hr₁b r' hr'
          · obtain ⟨r', hr', rfl⟩ := ofR r hr
            show Law.ltRows _ _ = false
            rw [← ltRows_law]; exact hr₂b r' hr'
          · rw [cp_append, hcj, List.map_take]; rfl
end
end
section
open PySem PySem.W PyProof.Rows
open Builtin Builtin.Str
set_option autoImplicit false
set_option linter.unusedVariables false
theorem joinL_law (sep : List Nat) : ∀ l, joinL sep l = Law.joinL sep l
  | [] => rfl
  | [x] => rfl
  | x :: y :: l => by rw [joinL, Law.joinL, joinL_law sep (y :: l)]
/-- a row as a path has it -/
noncomputable def GoodN (n : List Nat) : Prop := n ≠ [] ∧ n ≠ [46] ∧ 47 ∉ n
noncomputable def rowD (r : Law.Row) : List Str := r.map fun n => ⟨n.toArray⟩
theorem split_nonempty (x y : Str) : Txt.split x y ≠ [] := by
  intro h
  unfold Txt.split at h
  split at h
  · cases h
  · skip
    generalize occurrences x y 0 x.length (x.length + 1) = o at h
    split at h
    · cases h
    · unfold partsBetween at h
      cases o <;> simp at h
theorem split_path {x : Str} {row : Law.Row} (hx : cp x = pathL row) (hg : ∀ n ∈ row, GoodN n) : ((Txt.split x (Str.ofString "/")).filter keepS).map cp = row := by
  have e0 : (Str.ofString "/") = ⟨#[47]⟩ := rfl
  rw [e0]
  have hj := congrArg cp (StrLaws.join_split x ⟨#[47]⟩)
  rw [cp_join, hx] at hj
  have hfree : ∀ p ∈ (Txt.split x ⟨#[47]⟩).map cp, 47 ∉ p := fun p hp => by
    obtain ⟨q, hq, rfl⟩ := List.mem_map.mp hp
    exact StrLaws.split_free x 47 q hq
  have hne : (Txt.split x ⟨#[47]⟩).map cp ≠ [] := fun e => split_nonempty x ⟨#[47]⟩ (List.map_eq_nil_iff.mp e)
  have hk : ((Txt.split x ⟨#[47]⟩).filter keepS).map cp = ((Txt.split x ⟨#[47]⟩).map cp).filter fun n => decide (n ≠ [] ∧ n ≠ [46]) := by
    rw [List.filter_map]; rfl
  rw [hk]
  have hj' : Law.joinL [47] ((Txt.split x ⟨#[47]⟩).map cp) = pathL row := by rw [← joinL_law]; exact hj
  cases row with
  | nil =>
    have e := Law.join_inj (c := 47) (k := [[], []]) hne (by simp) hfree (by simp) (hj'.trans rfl)
    rw [e]; rfl
  | cons a row =>
    have e := Law.join_inj (c := 47) (k := [] :: a :: row) hne (by simp) hfree (by
      intro n hn
      rcases List.mem_cons.mp hn with rfl | hn
      · simp
      · exact (hg n hn).2.2) (hj'.trans (by unfold pathL; rw [joinL_law]; rfl))
    rw [e, List.filter_cons, if_neg (by simp)]
    exact List.filter_eq_self.mpr fun n hn => decide_eq_true ⟨(hg n hn).1, (hg n hn).2.1⟩
end
section
open PySem PySem.W PyProof.Rows
open Builtin Builtin.Str
open SeqAt
set_option autoImplicit false
set_option linter.unusedVariables false
section
variable {prog : Program} {w : World} {A : Around} {E : Value → Shared → Prop} {s : Shared} {P : Part} {Q : Value → Shared → Prop}
variable {c : Cx} {L : Addr} {m : Str → Option Value} {M : List (Addr × Obj)}
/-- two values of like data do not differ -/
theorem z_same {v u : Value} {d : PyData} {k : Nat} (F : Fm c P L m M s) (hA : Rm A k) (h1 : Rep P v d) (h2 : Rep P u d) (hd : d.canLay0 = true) (hk : d.depth < 10 * k) (h : Q (.bool false) s) : wpAny (model prog w) A (compareOp .NotEq v u) Q E s := by
  obtain ⟨_, r1⟩ := h1.reads F.on
  obtain ⟨_, r2⟩ := h2.reads F.on
  refine compareNe_reads r1 r2 hd hd (by have := hA.units; lia) ?_
  rw [eqv_refl d hd]; exact h
theorem lay_strs : ∀ (l : List Str), (∀ x ∈ l, PyData.strOk x = true) → PyData.canLayAll0 (l.map .str) = true
  | [], _ => rfl
  | x :: l, h => by
    rw [List.map_cons, PyData.canLayAll0, PyData.canLay0, h x (.head _), lay_strs l fun y hy => h y (.tail _ hy)]; rfl
theorem depth_strs : ∀ (l : List Str), PyData.depthAll (l.map PyData.str) = 0
  | [] => rfl
  | x :: l => by rw [List.map_cons, PyData.depthAll, depth_strs l]; rfl
theorem GoodName.ok {x : Str} (h : GoodName x) : PyData.strOk x = true := by
  unfold PyData.strOk
  rw [Array.all_eq_true]
  intro i hi
  rw [decide_eq_true_eq]
  exact h.hi _ (by simp)
theorem GoodName.goodN {x : Str} (h : GoodName x) : GoodN (cp x) := ⟨h.ne, h.dot, fun e => (h.sg 47 e).2 rfl⟩
theorem lay_rows : ∀ (rows : List (List Str)), (∀ r ∈ rows, ∀ x ∈ r, PyData.strOk x = true) → PyData.canLayAll0 (rowsD rows) = true
  | [], _ => rfl
  | r :: rows, h => by
    show PyData.canLayAll0 (.list (r.map .str) :: rowsD rows) = true
    rw [PyData.canLayAll0, PyData.canLay0, lay_strs r (h r (.head _)), lay_rows rows fun q hq => h q (.tail _ hq)]; rfl
end
end
section
open PySem PySem.W PyProof.Rows
open Builtin Builtin.Str
set_option autoImplicit false
set_option linter.unusedVariables false
theorem Fm.perm {c : Cx} {P : Part} {L : Addr} {m : Str → Option Value} {M M' : List (Addr × Obj)} {s : Shared} (F : Fm c P L m M s) (h : M'.Perm M) : Fm c P L m M' s :=
  { F with
    mu := fun p hp => F.mu p (h.mem_iff.mp hp)
    off := fun p hp => F.off p (h.mem_iff.mp hp)
    nd := (h.pairwise_iff (fun e => Ne.symm e)).mpr F.nd }
theorem map_cp_inj {a b : List Str} (h : a.map cp = b.map cp) : a = b := by
  induction a generalizing b with
  | nil => cases b with
    | nil => rfl
    | cons y b => cases h
  | cons x a ih =>
    cases b with
    | nil => cases h
    | cons y b =>
      rw [List.map_cons, List.map_cons, List.cons.injEq] at h
      rw [str_ext h.1, ih h.2]
theorem cnt_count (c : Nat) : ∀ l : List Nat, cnt c l = (l.count c : Int)
  | [] => rfl
  | n :: l => by
    rw [cnt_cons, cnt_count c l, List.count_cons]
    by_cases h : n = c
    · subst h; simp; lia
    · rw [if_neg h, if_neg (by simpa using h)]; lia
theorem count_path {z : Str} {ns : Law.Row} (hz : cp z = pathL ns) (hne : ns ≠ []) (hg : ∀ n ∈ ns, 47 ∉ n) : Txt.count z (Str.ofString "/") = (ns.length : Int) := by
  have e0 : (Str.ofString "/") = ⟨#[47]⟩ := rfl
  rw [e0, count_is]
  show cnt 47 (cp z) = _
  rw [cnt_count, hz, pathL, List.count_cons, joinL_law, Law.count_join hg]
  have := List.length_pos_iff.mpr hne
  simp; lia
theorem pathL_root {ns : Law.Row} (hg : ∀ n ∈ ns, n ≠ []) : pathL ns = [47] ↔ ns = [] := by
  constructor
  · intro h
    cases ns with
    | nil => rfl
    | cons a ns =>
      unfold pathL at h
      have h1 := (List.cons.inj h).2
      cases ns with
      | nil => exact absurd h1 (hg a (.head _))
      | cons b ns => simp [joinL] at h1
  · rintro rfl; rfl
section
variable {prog : Program} {w : World} {mb : Str → Option Value} {A : Around} {E : Value → Shared → Prop} {s : Shared} {P : Part} {Q : Value → Shared → Prop}
variable {c : Cx} {L : Addr} {m : Str → Option Value} {M : List (Addr × Obj)}
theorem z_append2 {p q : Addr × Obj} {a : Addr} {vs : List Value} {n : Nat} {v : Value} (F : Fm c P L m (p :: q :: (a, lst vs.toArray n) :: M) s) (hsz : vs.length ≤ sizeLine)
    (h : ∀ s' n', Fm c P L m (p :: q :: (a, lst (vs ++ [v]).toArray n') :: M) s' → Q .none s') : wpAny (model prog w) A (call (.builtin "list.append") [.ref a, v]) Q E s :=
  z_append (F.perm (M' := (a, lst vs.toArray n) :: p :: q :: M) (((List.Perm.swap _ _ _).trans ((List.Perm.swap _ _ _).cons _)))) hsz fun s' n' F' => h s' n' (F'.perm (((List.Perm.swap _ _ _).cons _).trans (List.Perm.swap _ _ _)))
theorem z_joint {e : Sem Value} {K : Int} (F : Fm c P L m M s) (h : wpAny (model prog w) A e (fun v s' => ∃ t, v = .int K t ∧ Fm c P L m M s') E s) (k : ∀ t s', Fm c P L m M s' → Q (.int K t) s') : wpAny (model prog w) A e Q E s :=
  wpAny_mono h (fun v s' ⟨t, e, F⟩ => e ▸ k t s' F) fun _ _ e => e
theorem z_jointV {e : Sem Value} (Φ : PyData → Prop) (F : Fm c P L m M s) (h : wpAny (model prog w) A e (fun v s' => ∃ P' d, P.le P' ∧ Φ d ∧ Rep P' v d ∧ Fm c P' L m M s') E s)
    (k : ∀ v P' d s', P.le P' → Φ d → Rep P' v d → Fm c P' L m M s' → Q v s') : wpAny (model prog w) A e Q E s :=
  wpAny_mono h (fun v s' ⟨P', d, h1, h2, h3, F⟩ => k v P' d s' h1 h2 h3 F) fun _ _ e => e
theorem z_tn' {a : Int} {t : Tok} {Q : Bool → Shared → Prop} (h : Q (a != 0) s) : wpAny (model prog w) A (truthy (.int a t)) Q E s := by with_reducible exact _root_.PySem.P.truthy_int h
theorem path_short {r : List Str} (hg : ∀ x ∈ r, GoodName x) (hl : r.length ≤ 60) {x : Str} (hx : cp x = pathL (r.map cp)) : x.length ≤ 300 := by
  rw [← cp_length, hx, pathL, List.length_cons]
  have := joinL_len (r.map cp) 3 fun y hy => by
    obtain ⟨n, hn, rfl⟩ := List.mem_map.mp hy
    exact (hg n hn).len
  rw [List.length_map] at this
  lia
theorem mem_rows2 {x y : Str} {rx ry : Law.Row} (hx : cp x = pathL rx) (hy : cp y = pathL ry) (gx : ∀ n ∈ rx, GoodN n) (gy : ∀ n ∈ ry, GoodN n) : rowsOf [x, y] = [rx, ry] := by
  unfold rowsOf
  rw [List.map_cons, List.map_cons, split_path hx gx, split_path hy gy]; rfl
/-- the beginning that two paths share -/
theorem common2 {u : Value} {x y : Str} {rx ry : Law.Row} (X : Bs w mb P) (hP : P.on s.heap) (hA : Rm A 9) (hr : Rep P u (.list [.str x, .str y])) (hxl : x.length ≤ 1000) (hyl : y.length ≤ 1000)
    (hx : cp x = pathL rx) (hy : cp y = pathL ry) (gx : ∀ n ∈ rx, GoodN n) (gy : ∀ n ∈ ry, GoodN n)
    (h : ∀ z t P' s', Ret ⟨s, s.heap.get?, P⟩ P' s' → cp z = pathL (rx.take (Law.lcp rx ry)) → Q (.str z t) s') : wpAny (model prog w) A (call (.ref 137) [u]) Q E s := by
  obtain ⟨a, vs, n, rfl, ha, hra⟩ := hr.list_inv
  obtain ⟨l, rfl, hl⟩ := RepAll.strs [x, y] hra
  have hm : ∀ p ∈ l, p.1 = x ∨ p.1 = y := fun p hp => by
    have : p.1 ∈ l.map (·.1) := List.mem_map_of_mem hp
    rw [hl] at this; simpa using this
  have hlen : l.length = 2 := by have := congrArg List.length hl; simpa using this
  refine commonpath_spec X hP hA ha (fun e => by rw [e] at hlen; cases hlen) (by lia) (fun p hp => by rcases hm p hp with e | e <;> rw [e] <;> assumption) (fun p hp => by
    rcases hm p hp with e | e <;> rw [e]
    · rw [hx]; rfl
    · rw [hy]; rfl) fun z t P' s' r₁ r₂ R m1 m2 b1 b2 hz => h z t P' s' R ?_
  rw [hl, mem_rows2 hx hy gx gy] at m1 m2 b1 b2
  rw [hz]
  congr 1
  have b1x := b1 rx (by simp)
  have b1y := b1 ry (by simp)
  have b2x := b2 rx (by simp)
  have b2y := b2 ry (by simp)
  simp only [List.mem_cons, List.mem_nil_iff, or_false] at m1 m2
  rcases m1 with rfl | rfl <;> rcases m2 with rfl | rfl
  · have e := Law.LeR.antisymm b1y b2y; subst e; rfl
  · rfl
  · rw [Law.lcp_comm r₂ r₁, Law.lcp_take r₁ r₂ _ (Nat.le_refl _)]
  · have e := Law.LeR.antisymm b1x b2x; subst e; rfl
theorem common2' {u : Value} {d : PyData} {x y : Str} {rx ry : Law.Row} (X : Bs w mb P) (hP : P.on s.heap) (hA : Rm A 9) (hr : Rep P u d) (hd : d = .list [.str x, .str y] ∨ d = .list [.str y, .str x]) (hxl : x.length ≤ 1000) (hyl : y.length ≤ 1000)
    (hx : cp x = pathL rx) (hy : cp y = pathL ry) (gx : ∀ n ∈ rx, GoodN n) (gy : ∀ n ∈ ry, GoodN n)
    (h : ∀ z t P' s', Ret ⟨s, s.heap.get?, P⟩ P' s' → cp z = pathL (rx.take (Law.lcp rx ry)) → Q (.str z t) s') : wpAny (model prog w) A (call (.ref 137) [u]) Q E s := by
  rcases hd with rfl | rfl
  · exact common2 X hP hA hr hxl hyl hx hy gx gy h
  · refine common2 X hP hA hr hyl hxl hy hx gy gx fun z t P' s' R hz => h z t P' s' R ?_
    rw [hz, Law.lcp_comm ry rx, Law.lcp_take rx ry _ (Nat.le_refl _)]
end
end
section
open PySem PySem.W PyProof.Rows
open Builtin Builtin.Str
set_option autoImplicit false
set_option linter.unusedVariables false
set_option maxRecDepth 100000
set_option maxHeartbeats 2000000
section
variable {prog : Program} {w : World} {mb : Str → Option Value} {A : Around} {E : Value → Shared → Prop} {s : Shared} {P : Part} {Q : Value → Shared → Prop}
noncomputable def cpR (r : List Str) : Law.Row := r.map cp
noncomputable def rowAt (rs : List (List Str)) (i : Nat) : List Str := rs.getD i []
noncomputable def pairAt (rs : List (List Str)) (i j : Nat) : Nat × Nat × Nat := (Law.lcp (cpR (rowAt rs i)) (cpR (rowAt rs j)), i, j)
noncomputable def pairsTo (rs : List (List Str)) (n : Nat) : List (Nat × Nat × Nat) := (List.range n).flatMap fun j => (List.range j).map fun i => pairAt rs i j
theorem pairsTo_succ (rs : List (List Str)) (n : Nat) : pairsTo rs (n + 1) = pairsTo rs n ++ (List.range n).map fun i => pairAt rs i n := by
  unfold pairsTo
  rw [List.range_succ, List.flatMap_append]; simp
theorem pairsTo_len (rs : List (List Str)) : ∀ n, (pairsTo rs n).length ≤ n * n
  | 0 => by simp [pairsTo]
  | n + 1 => by
    rw [pairsTo_succ, List.length_append, List.length_map, List.length_range]
    have := pairsTo_len rs n
    rw [Nat.add_mul, Nat.mul_add]; lia
/-- what the two lists hold -/
structure Chain (P : Part) (v1 v2 : Value) (rs : List (List Str)) (a1 a2 : Addr) (l : List (Str × Tok)) (n1 n2 : Nat) (us : List Value) : Prop where
  e1 : v1 = .ref a1
  e2 : v2 = .ref a2
  p1 : P a1 = some (lst (strValues l).toArray n1)
  p2 : P a2 = some (lst us.toArray n2)
  hl : l.map (fun p => cp p.1) = rs.map fun r => pathL (cpR r)
  hr : RepAll P us (rowsD rs)
  good : ∀ r ∈ rs, ∀ x ∈ r, GoodName x
  few : rs.length ≤ 12
  short : ∀ r ∈ rs, r.length ≤ 60
inductive PrJ (rs : List (List Str)) (D a1 a2 : Addr) (j : Nat) (P' : Part) (m' : Str → Option Value) (M' : List (Addr × Obj)) : Prop
  | mk : ∀ (ps : List Value) (n : Nat), M' = [(D, lst ps.toArray n)] → RepAll P' ps ((pairsTo rs j).map triN) → m' (Str.ofString "pairs") = some (.ref D) → m' (Str.ofString "chain") = some (.ref a1) → m' (Str.ofString "rising") = some (.ref a2) → PrJ rs D a1 a2 j P' m' M'
inductive PrI (rs : List (List Str)) (D a1 a2 I : Addr) (oI : Obj) (j : Nat) (tj : Tok) (i : Nat) (P'' : Part) (m'' : Str → Option Value) (M'' : List (Addr × Obj)) : Prop
  | mk : ∀ (ps : List Value) (n : Nat), M'' = [(I, oI), (D, lst ps.toArray n)] → RepAll P'' ps ((pairsTo rs j ++ (List.range i).map fun i => pairAt rs i j).map triN) → m'' (Str.ofString "pairs") = some (.ref D) → m'' (Str.ofString "chain") = some (.ref a1) → m'' (Str.ofString "rising") = some (.ref a2) → m'' (Str.ofString "j") = some (.int (j : Int) tj) → PrI rs D a1 a2 I oI j tj i P'' m'' M''
theorem law_pairs_spec {v1 v2 : Value} {rs : List (List Str)} {a1 a2 : Addr} {l : List (Str × Tok)} {n1 n2 : Nat} {us : List Value} (X : Bs w mb P) (hP : P.on s.heap) (hA : Rm A 11) (H : Chain P v1 v2 rs a1 a2 l n1 n2 us)
    (h : ∀ v P' s', Ret ⟨s, s.heap.get?, P⟩ P' s' → Rep P' v (.list ((pairsTo rs rs.length).map triN)) → Q v s') :
    wpAny (model prog w) A (call (.ref 239) [v1, v2]) Q E s := by
  obtain ⟨rfl, rfl, p1, p2, hl, hr, good, few, short⟩ := H
  have hln : l.length = rs.length := by have := congrArg List.length hl; simpa using this
  have hun : us.length = rs.length := by rw [hr.length]; simp [rowsD]
  have hsl : sizeLine = 16777216 := by decide
  refine enter (binds := [(Str.ofString "chain", .ref a1), (Str.ofString "rising", .ref a2)]) X (fun _ _ e => e) hP hA.lt (a := 239) rfl (by kernel_rfl) rfl rfl (by rfl) (by rfl) rfl rfl rfl ?_
  intro L s₁ E' F env
  have hA' : Rm (A.deeper env) 10 := hA.deeper
  repeat kspl_open e
  with_reducible refine z_newM ‹_› (sl_of (by decide)) fun D s₂ F₂ => ?_
  repeat kspl_open e
  kspl_open fo
  repeat kspl_open e
  refine z_len (by assumption) (heap_list (by assumption) p1) (by simp [strValues]; lia) fun t₃ s₃ F₃ => ?_
  repeat kspl_open e
  refine z_range1 (by assumption) fun r P₄ s₄ t u v hle₄ hr₄ F₄ => ?_
  repeat kspl_open e
  rw [show (strValues l).length = rs.length by simp [strValues]; lia] at hr₄
  refine iter_range (by assumption) hr₄ (by lia) (by lia) (by lia) (by lia) hA'.handled (PrJ rs D a1 a2)
    ⟨[], 0, rfl, .nil, rfl, rfl, rfl⟩ ?_ ?_
  · rintro j tj P' m' M' I oI s' E'' hj hle ⟨ps, n, rfl, hps, hm1, hm2, hm3⟩ F'
    rw [Int.zero_add]
    have hjn : j < rs.length := by lia
    refine as_name F' rfl rfl rfl fun s₅ F₅ => ?_
    kspl_open fo
    repeat kspl_open e
    refine z_range1 (by assumption) fun r₂ P₆ s₆ t₂ u₂ v₂ hle₆ hr₆ F₆ => ?_
    repeat kspl_open e
    have hps' := hps.mono hle₆
    refine iter_range (by assumption) hr₆ (by lia) (by lia) (by lia) (by lia) hA'.handled (PrI rs D a1 a2 I oI j tj) ⟨ps, n, rfl, by simpa using hps', by exact hm1, by exact hm2, by exact hm3, by rfl⟩ ?_ ?_
    · rintro i ti P₇ m₇ M₇ I₂ oI₂ s₇ E₇ hi hle₇ ⟨ps₇, n₇, rfl, hps₇, k1, k2, k3, k4⟩ F₇
      rw [Int.zero_add]
      have hij : i < j := by lia
      have le₇ : P.le P₇ := Part.le_trans hle₄ (Part.le_trans hle (Part.le_trans hle₆ hle₇))
      obtain ⟨⟨x, tx⟩, hxi⟩ : ∃ p, l[i]? = some p := ⟨l[i], List.getElem?_eq_getElem (by lia)⟩
      obtain ⟨⟨y, ty⟩, hyj⟩ : ∃ p, l[j]? = some p := ⟨l[j], List.getElem?_eq_getElem (by lia)⟩
      have hri : rs[i]? = some (rowAt rs i) := by unfold rowAt; rw [List.getD_eq_getElem?_getD, List.getElem?_eq_getElem (by lia)]; rfl
      have hrj : rs[j]? = some (rowAt rs j) := by unfold rowAt; rw [List.getD_eq_getElem?_getD, List.getElem?_eq_getElem (by lia)]; rfl
      have hxp : cp x = pathL (cpR (rowAt rs i)) := by have := congrArg (·[i]?) hl; simp [hxi, hri] at this; exact this
      have hyp : cp y = pathL (cpR (rowAt rs j)) := by have := congrArg (·[j]?) hl; simp [hyj, hrj] at this; exact this
      have mi := List.mem_of_getElem? hri
      have mj := List.mem_of_getElem? hrj
      refine as_name F₇ rfl rfl rfl fun s₈ F₈ => ?_
      have hxs := path_short (good _ mi) (short _ mi) hxp
      have hys := path_short (good _ mj) (short _ mj) hyp
      repeat kspl_open e
      refine z_item (i := i) (v := .str x tx) (heap_list (by assumption) (le₇ _ _ p1)) rfl (by simp [strValues]; lia) (by simp [strValues, hxi]) ?_ rfl
      repeat kspl_open e
      refine z_item (i := j) (v := .str y ty) (heap_list (by assumption) (le₇ _ _ p1)) rfl (by simp [strValues]; lia) (by simp [strValues, hyj]) ?_ rfl
      repeat kspl_open e
      kspl_open nl
      intro vb P₉ s₉ hle₉ hrb F₉
      repeat kspl_open e0
      refine z_jointV (fun d => d = .list [.str x, .str y] ∨ d = .list [.str y, .str x]) (by assumption) ?_ fun u P₁₀ d s₁₀ hle₁₀ hd hru F₁₀ => ?_
      · refine e_ife ?_
        repeat kspl_open e
        refine z_tn' ?_
        split
        · repeat kspl_open e
          exact ⟨_, _, Part.le_refl _, .inl rfl, hrb, by assumption⟩
        · refine e_slL3 ?_ (fun _ _ => rfl)
          repeat kspl_open e
          kspl_open p
          kspl_open p
          refine UnaryOp_ ?_
          repeat kspl_open e
          refine z_neg (by assumption) fun t₃ s₃ F₃ => ?_
          refine z_sl F₃ hrb .none .none (.int _ _) (by decide) (by show 2 ≤ _; lia) (fun vs hv => pick_rev hv) fun v₄ P₄ s₄ hle₄ hr₄ F₄ => ?_
          exact ⟨_, _, hle₄, .inr rfl, hr₄, F₄⟩
      repeat kspl_open e
      have X₁₀ := X.mono (Part.le_trans le₇ (Part.le_trans hle₉ hle₁₀))
      refine ⟨Fm.K ‹_› X, common2' X₁₀ (Fm.on ‹_›) (hA'.mono (by decide)) hru hd (by lia) (by lia) hxp hyp (fun n hn => by
        obtain ⟨q, hq, rfl⟩ := List.mem_map.mp hn
        exact (good _ mi q hq).goodN) (fun n hn => by
        obtain ⟨q, hq, rfl⟩ := List.mem_map.mp hn
        exact (good _ mj q hq).goodN) fun z tz P₁₁ s₁₁ R₁₁ hz => ?_⟩
      have F₁₁ := Fm.call (by assumption) R₁₁
      generalize hk : Law.lcp (cpR (rowAt rs i)) (cpR (rowAt rs j)) = k at hz
      have hkl : k ≤ (rowAt rs i).length := by rw [← hk]; have := Law.lcp_le_left (cpR (rowAt rs i)) (cpR (rowAt rs j)); rwa [cpR, List.length_map] at this
      have gN : ∀ n ∈ (cpR (rowAt rs i)).take k, GoodN n := fun n hn => by
        obtain ⟨q, hq, rfl⟩ := List.mem_map.mp (List.mem_of_mem_take hn)
        exact (good _ mi q hq).goodN
      have htk : ((cpR (rowAt rs i)).take k).length = k := by rw [List.length_take, cpR, List.length_map]; exact Nat.min_eq_left hkl
      have hroot : z = Str.ofString "/" ↔ k = 0 := by
        constructor
        · intro e
          rw [e] at hz
          have := (pathL_root fun n hn => (gN n hn).1).mp (hz.symm.trans rfl)
          have h2 := congrArg List.length this
          rw [htk] at h2
          exact h2
        · intro e; subst e; exact str_ext (hz.trans rfl)
      repeat kspl_open e0
      refine z_joint (K := (k : Int)) (by assumption) ?_ fun td s₁₂ F₁₂ => ?_
      · refine e_ife ?_
        repeat kspl_open e
        by_cases hk0 : k = 0
        · rw [if_pos (by rw [decide_eq_true (hroot.mpr hk0)])]
          repeat kspl_open e
          exact ⟨_, by rw [hk0]; rfl, by assumption⟩
        · rw [if_neg (by rw [decide_eq_false (fun e => hk0 (hroot.mp e))]; decide)]
          kspl_open met
          repeat kspl_open e
          kspl_open gm
          repeat kspl_open e
          refine z_cnt (by assumption) fun tc sc Fc => ⟨tc, ?_, Fc⟩
          rw [count_path hz (fun e => hk0 (by
            have h2 := congrArg List.length e
            rw [htk] at h2
            exact h2)) (fun n hn => (gN n hn).2.2), htk]
      obtain ⟨ui, hui, hrui⟩ := hr.get (i := i) (d := .list ((rowAt rs i).map .str)) (by simp [rowsD, hri])
      obtain ⟨uj, huj, hruj⟩ := hr.get (i := j) (d := .list ((rowAt rs j).map .str)) (by simp [rowsD, hrj])
      have lex : P.le P₁₁ := Part.le_trans le₇ (Part.le_trans hle₉ (Part.le_trans hle₁₀ R₁₁.le))
      have hsi := short _ mi
      have hsj := short _ mj
      repeat kspl_open e
      kspl_open gm
      repeat kspl_open e
      refine e_slT ?_
      repeat kspl_open e
      refine z_item (i := i) (v := ui) (heap_list (by assumption) (lex _ _ p2)) rfl (by lia) hui ?_ rfl
      kspl_open p
      kspl_open p
      repeat kspl_open e
      refine z_sl (by assumption) (hrui.mono lex) .none (.int _ _) .none (by decide) (by rw [List.length_map]; lia) (fun vs hv => pick_take (Int.natCast_nonneg _) hv) fun v₁₃ P₁₃ s₁₃ hle₁₃ hr₁₃ F₁₃ => ?_
      rw [Int.toNat_natCast, ← List.map_take] at hr₁₃
      repeat kspl_open e
      have tkl : ((rowAt rs i).take k).length ≤ 60 := by have := List.length_take_le' k (rowAt rs i); lia
      have tkc : ∀ y ∈ (rowAt rs i).take k, y.length ≤ 1000 := fun y hy => by
        have := (good _ mi y (List.mem_of_mem_take hy)).len
        have e : y.length = y.cps.toList.length := (cp_length y).symm
        lia
      refine z_join (by assumption) hr₁₃ (join_ok3 (by lia) tkc) fun tj' sj Fj => ?_
      have hcj : cp (Str.ofString "/" ++ Str.join (Str.ofString "/") ((rowAt rs i).take k)) = cp z := by
        rw [cp_append, cp_join, hz, cpR, ← List.map_take]; rfl
      have hzl : (Str.ofString "/" ++ Str.join (Str.ofString "/") ((rowAt rs i).take k)).length ≤ 1000 := by
        rw [← cp_length, hcj, cp_length]
        have := path_short (r := (rowAt rs i).take k) (fun x hx => good _ mi x (List.mem_of_mem_take hx)) tkl (x := z) (by rw [hz, cpR, List.map_take])
        lia
      refine z_adds (by assumption) (by
        rw [← cp_length (_ ++ _), cp_append, List.length_append, cp_length, cp_length] at hzl; lia) fun tk' sk Fk => ?_
      repeat kspl_open e
      rw [show (!decide (z = Str.ofString "/" ++ Str.join (Str.ofString "/") ((rowAt rs i).take k))) = false by rw [decide_eq_true (str_ext hcj.symm)]; rfl]
      repeat kspl_open e
      have lex₂ := Part.le_trans lex hle₁₃
      refine e_slT ?_
      repeat kspl_open e
      refine z_item (i := i) (v := ui) (heap_list (by assumption) (lex₂ _ _ p2)) rfl (by lia) hui ?_ rfl
      kspl_open p
      kspl_open p
      repeat kspl_open e
      refine z_sl (by assumption) (hrui.mono lex₂) .none (.int _ _) .none (by decide) (by rw [List.length_map]; lia) (fun vs hv => pick_take (Int.natCast_nonneg _) hv) fun v₁₄ P₁₄ s₁₄ hle₁₄ hr₁₄ F₁₄ => ?_
      rw [Int.toNat_natCast, ← List.map_take] at hr₁₄
      have lex₃ := Part.le_trans lex₂ hle₁₄
      refine e_slT ?_
      repeat kspl_open e
      refine z_item (i := j) (v := uj) (heap_list (by assumption) (lex₃ _ _ p2)) rfl (by lia) huj ?_ rfl
      kspl_open p
      kspl_open p
      repeat kspl_open e
      refine z_sl (by assumption) (hruj.mono lex₃) .none (.int _ _) .none (by decide) (by rw [List.length_map]; lia) (fun vs hv => pick_take (Int.natCast_nonneg _) hv) fun v₁₅ P₁₅ s₁₅ hle₁₅ hr₁₅ F₁₅ => ?_
      rw [Int.toNat_natCast, ← List.map_take] at hr₁₅
      have etk : (rowAt rs j).take k = (rowAt rs i).take k := map_cp_inj (by
        have := Law.lcp_take (cpR (rowAt rs i)) (cpR (rowAt rs j)) k (by rw [hk]; exact Nat.le_refl _)
        rw [List.map_take, List.map_take]; exact this.symm)
      rw [etk] at hr₁₅
      refine z_same (k := 5) F₁₅ (hA'.mono (by decide)) (hr₁₄.mono hle₁₅) hr₁₅ (by
        rw [PyData.canLay0]; exact lay_strs _ fun x hx => (good _ mi x (List.mem_of_mem_take hx)).ok) (by rw [PyData.depth, depth_strs]; decide) ?_
      repeat kspl_open e
      refine meth_list (Fm.mu (by assumption) (D, _) (.tail _ (.tail _ (.head _)))) slot_list_append type_list_append ?_
      repeat kspl_open e
      kspl_open nt
      intro v₁₆ P₁₆ s₁₆ hle₁₆ hr₁₆ F₁₆
      repeat kspl_open e
      have few₂ : ps₇.length ≤ 300 := by
        have h1 := hps₇.length
        rw [List.length_map, List.length_append, List.length_map, List.length_range] at h1
        have h2 := pairsTo_len rs j
        have h3 := Nat.mul_le_mul (show j ≤ 12 by lia) (show j ≤ 12 by lia)
        lia
      refine z_append2 (by assumption) (by lia) fun s₁₇ n₁₇ F₁₇ => ⟨rfl, ?_⟩
      repeat kspl_open e
      have lel := Part.le_trans hle₉ (Part.le_trans hle₁₀ (Part.le_trans R₁₁.le (Part.le_trans hle₁₃ (Part.le_trans hle₁₄ (Part.le_trans hle₁₅ hle₁₆)))))
      refine ⟨P₁₆, _, _, lel, F₁₇, _, n₁₇, rfl, ?_, by exact k1, by exact k2, by exact k3, by exact k4⟩
      rw [List.range_succ, List.map_append (f := fun i => pairAt rs i j), List.map_cons, List.map_nil, ← List.append_assoc, List.map_append]
      refine (hps₇.mono lel).append (.one ?_)
      show Rep P₁₆ v₁₆ (triN (pairAt rs i j))
      have e : triN (pairAt rs i j) = .tuple [.int (k : Int), .int (i : Int), .int (j : Int)] := by unfold pairAt; rw [hk]; rfl
      rw [e]; exact hr₁₆
    · rintro P'' m'' M'' s'' hle₈ ⟨ps₈, n₈, rfl, hps₈, k1, k2, k3, k4⟩ F₈
      repeat kspl_open e
      refine ⟨P'', _, _, Part.le_trans hle₆ hle₈, F₈, ps₈, n₈, rfl, ?_, k1, k2, k3⟩
      rw [pairsTo_succ]
      simpa using hps₈
  · rintro P' m' M' s' hle ⟨ps, n, rfl, hps, hm1, hm2, hm3⟩ F'
    repeat kspl_open e
    have F9 := F'.freeze
    refine h _ _ _ F9.ret (.list Part.set_self (hps.mono F'.le_freeze))
end
end
section
open PySem PySem.W PyProof.Rows
open Builtin Builtin.Str
set_option autoImplicit false
set_option linter.unusedVariables false
set_option maxRecDepth 100000
set_option maxHeartbeats 2000000
section
variable {prog : Program} {w : World} {mb : Str → Option Value} {A : Around} {E : Value → Shared → Prop} {s : Shared} {P : Part} {Q : Value → Shared → Prop}
theorem rows_getElem {rs : List (List Str)} {i : Nat} (hi : i < rs.length) : (rs.map cpR)[i]'(by rw [List.length_map]; exact hi) = cpR (rowAt rs i) := by
  rw [List.getElem_map]; unfold rowAt; rw [List.getD_eq_getElem?_getD, List.getElem?_eq_getElem hi]; rfl
theorem rowsOf_chain {l : List (Str × Tok)} {rs : List (List Str)} (hl : l.map (fun p => cp p.1) = rs.map fun r => pathL (cpR r)) (good : ∀ r ∈ rs, ∀ x ∈ r, GoodName x) : rowsOf (l.map (·.1)) = rs.map cpR := by
  induction l generalizing rs with
  | nil => cases rs with
    | nil => rfl
    | cons r rs => cases hl
  | cons p l ih =>
    cases rs with
    | nil => cases hl
    | cons r rs =>
      rw [List.map_cons, List.map_cons, List.cons.injEq] at hl
      have h1 := split_path hl.1 (fun n hn => by
        obtain ⟨q, hq, rfl⟩ := List.mem_map.mp hn
        exact (good r (.head _) q hq).goodN)
      have h2 := ih hl.2 fun r hr => good r (.tail _ hr)
      unfold rowsOf at h2 ⊢
      rw [List.map_cons, List.map_cons, List.map_cons, h1, h2]
theorem mem_turn {rows : List Law.Row} {n : Nat} {r : Law.Row} (h : r ∈ (rows.drop 1).take n ++ rows.take 1) : ∃ k, ∃ hk : k < rows.length, k ≤ n ∧ rows[k] = r := by
  rcases List.mem_append.mp h with h | h
  · obtain ⟨j, hj, e⟩ := List.getElem_of_mem h
    rw [List.length_take, List.length_drop] at hj
    refine ⟨1 + j, by lia, by lia, ?_⟩
    rw [List.getElem_take, List.getElem_drop] at e
    exact e
  · obtain ⟨j, hj, e⟩ := List.getElem_of_mem h
    rw [List.length_take] at hj
    have : j = 0 := by lia
    subst this
    exact ⟨0, by lia, Nat.zero_le _, by rw [List.getElem_take] at e; exact e⟩
theorem turn_mem {rows : List Law.Row} {n k : Nat} (hk : k < rows.length) (hn : k ≤ n) : rows[k] ∈ (rows.drop 1).take n ++ rows.take 1 := by
  cases k with
  | zero =>
    refine List.mem_append_right _ ?_
    cases rows with
    | nil => cases hk
    | cons r rows => simp
  | succ k =>
    refine List.mem_append_left _ ?_
    have h : k < ((rows.drop 1).take n).length := by rw [List.length_take, List.length_drop]; lia
    have e : ((rows.drop 1).take n)[k] = rows[k + 1] := by
      rw [List.getElem_take, List.getElem_drop]; congr 1; lia
    rw [← e]; exact List.getElem_mem h
inductive HdJ (v3 : Value) (a1 a2 : Addr) (i : Nat) (P' : Part) (m' : Str → Option Value) (M' : List (Addr × Obj)) : Prop
  | mk : M' = [] → m' (Str.ofString "near") = some v3 → m' (Str.ofString "chain") = some (.ref a1) → m' (Str.ofString "rising") = some (.ref a2) → HdJ v3 a1 a2 i P' m' M'
theorem law_heads_spec {v1 v2 v3 : Value} {rs : List (List Str)} {a1 a2 : Addr} {l : List (Str × Tok)} {n1 n2 : Nat} {us : List Value} (X : Bs w mb P) (hP : P.on s.heap) (hA : Rm A 11) (H : Chain P v1 v2 rs a1 a2 l n1 n2 us)
    (hs : Law.Sorted (rs.map cpR)) (h3 : Rep P v3 (.list ((Law.nearOf (rs.map cpR)).map natD))) (h : ∀ P' s', Ret ⟨s, s.heap.get?, P⟩ P' s' → Q (.bool true) s') :
    wpAny (model prog w) A (call (.ref 253) [v1, v2, v3]) Q E s := by
  obtain ⟨rfl, rfl, p1, p2, hl, hr, good, few, short⟩ := H
  have hln : l.length = rs.length := by have := congrArg List.length hl; simpa using this
  have hun : us.length = rs.length := by rw [hr.length]; simp [rowsD]
  have hsl : sizeLine = 16777216 := by decide
  refine enter (binds := [(Str.ofString "chain", .ref a1), (Str.ofString "rising", .ref a2), (Str.ofString "near", v3)]) X (fun _ _ e => e) hP hA.lt (a := 253) rfl (by kernel_rfl) rfl rfl (by rfl) (by rfl) rfl rfl rfl ?_
  intro L s₁ E' F env
  have hA' : Rm (A.deeper env) 10 := hA.deeper
  kspl_open fo
  repeat kspl_open e
  refine z_len (by assumption) (heap_list (by assumption) p1) (by simp [strValues]; lia) fun t₃ s₃ F₃ => ?_
  repeat kspl_open e
  refine z_range2 (by assumption) fun r P₄ s₄ t u v hle₄ hr₄ F₄ => ?_
  repeat kspl_open e
  rw [show ((strValues l).length : Int) = (rs.length : Int) by simp [strValues]; lia] at hr₄
  refine iter_range (by assumption) hr₄ (by lia) (by lia) (by lia) (by lia) hA'.handled (HdJ v3 a1 a2)
    ⟨rfl, rfl, rfl, rfl⟩ ?_ ?_
  · rintro i ti P' m' M' I oI s' E'' hi hle ⟨rfl, hm1, hm2, hm3'⟩ F'
    have hin : i + 3 ≤ rs.length := by lia
    have le₅ : P.le P' := Part.le_trans hle₄ hle
    have h0 : rs[0]? = some (rowAt rs 0) := by unfold rowAt; rw [List.getD_eq_getElem?_getD, List.getElem?_eq_getElem (by lia)]; rfl
    have m0 := List.mem_of_getElem? h0
    obtain ⟨u0, hu0, hru0⟩ := hr.get (i := 0) (d := .list ((rowAt rs 0).map .str)) (by simp [rowsD, h0])
    have hs0 := short _ m0
    have hnl : (Law.nearOf (rs.map cpR)).length = rs.length - 1 := by rw [Law.nearOf_length, List.length_map]
    refine as_name F' rfl rfl rfl fun s₅ F₅ => ?_
    repeat kspl_open e
    refine e_slT ?_
    repeat kspl_open e
    refine z_item (i := 0) (v := u0) (heap_list (by assumption) (le₅ _ _ p2)) rfl (by lia) hu0 ?_ rfl
    kspl_open p
    kspl_open p
    repeat kspl_open e
    kspl_open slL
    repeat kspl_open e
    kspl_open p
    kspl_open p
    repeat kspl_open e
    refine z_sl (by assumption) (h3.mono le₅) .none (.int _ _) .none (by decide) (by rw [List.length_map]; lia) (fun vs hv => pick_take (by lia) hv) fun v₆ P₆ s₆ hle₆ hr₆ F₆ => ?_
    rw [show (3 + (i : Int) - 1).toNat = i + 2 by lia, ← List.map_take] at hr₆
    repeat kspl_open e
    have hmin := Law.lcp_min hs 0 (i + 1) (by rw [List.length_map]; lia)
    rw [List.drop_zero, rows_getElem (by lia), rows_getElem (by lia), show 0 + (i + 1) + 1 = i + 2 by lia, show i + 1 + 1 = i + 2 by lia] at hmin
    refine z_minl F₆ hA'.handled hr₆ (fun e => by rw [e] at hmin; cases hmin.1) fun k t₇ s₇ hk₇ F₇ => ?_
    have hk : k = Law.lcp (cpR (rowAt rs 0)) (cpR (rowAt rs (i + 2))) := hk₇.uniq ⟨hmin.1, hmin.2⟩
    have hkl : k ≤ (rowAt rs 0).length := by rw [hk]; have := Law.lcp_le_left (cpR (rowAt rs 0)) (cpR (rowAt rs (i + 2))); rwa [cpR, List.length_map] at this
    refine z_sl (by assumption) (hru0.mono (Part.le_trans le₅ hle₆)) .none (.int _ _) .none (by decide) (by rw [List.length_map]; lia) (fun vs hv => pick_take (Int.natCast_nonneg _) hv) fun v₈ P₈ s₈ hle₈ hr₈ F₈ => ?_
    rw [Int.toNat_natCast, ← List.map_take] at hr₈
    have le₈ := Part.le_trans le₅ (Part.le_trans hle₆ hle₈)
    repeat kspl_open e
    have hrl : RepAll P (strValues l) ((l.map (·.1)).map .str) := .ofStrs l
    have hrL : ∀ {P₂ : Part}, P.le P₂ → Rep P₂ (.ref a1) (.list ((l.map (·.1)).map .str)) := fun hq => .list (hq _ _ p1) (hrl.mono hq)
    kspl_open slL
    repeat kspl_open e
    kspl_open p
    repeat kspl_open e
    kspl_open p
    repeat kspl_open e
    refine z_sl (by assumption) (hrL le₈) (.int _ _) (.int _ _) .none (by decide) (by simp; lia) (fun vs hv => pick_mid (by lia) (by lia) (by simp; lia) hv) fun v₉ P₉ s₉ hle₉ hr₉ F₉ => ?_
    rw [show (1 : Int).toNat = 1 from rfl, show (3 + (i : Int)).toNat - 1 = i + 2 by lia, ← List.map_drop, ← List.map_take] at hr₉
    kspl_open slL
    repeat kspl_open e
    kspl_open p
    kspl_open p
    repeat kspl_open e
    refine z_sl (by assumption) (hrL (Part.le_trans le₈ hle₉)) .none (.int _ _) .none (by decide) (by simp; lia) (fun vs hv => pick_take (by decide) hv) fun v₁₀ P₁₀ s₁₀ hle₁₀ hr₁₀ F₁₀ => ?_
    rw [show (1 : Int).toNat = 1 from rfl, ← List.map_take] at hr₁₀
    obtain ⟨b1, us1, k1, rfl, q1, hq1⟩ := (hr₉.mono hle₁₀).list_inv
    obtain ⟨b2, us2, k2, rfl, q2, hq2⟩ := hr₁₀.list_inv
    refine z_addl (by assumption) (Fm.on (by assumption) _ _ q1) (Fm.on (by assumption) _ _ q2) hq1 hq2 (by
      rw [hq1.length, hq2.length]; simp; lia) fun v₁₁ P₁₁ s₁₁ hle₁₁ hr₁₁ F₁₁ => ?_
    rw [← List.map_append] at hr₁₁
    obtain ⟨b3, us3, k3, rfl, q3, hq3⟩ := hr₁₁.list_inv
    obtain ⟨l3, rfl, hl3⟩ := RepAll.strs _ hq3
    have hX := rowsOf_chain hl good
    have hX3 : rowsOf (l3.map (·.1)) = ((rs.map cpR).drop 1).take (i + 2) ++ (rs.map cpR).take 1 := by
      rw [hl3, ← hX]
      unfold rowsOf
      rw [List.map_append, List.map_take, List.map_drop, List.map_take]
    have hm3 : ∀ p ∈ l3, ∃ q ∈ l, q.1 = p.1 := fun p hp => by
      have h1 : p.1 ∈ l3.map (·.1) := List.mem_map_of_mem hp
      rw [hl3] at h1
      have h2 : p.1 ∈ l.map (·.1) := by
        rcases List.mem_append.mp h1 with h | h
        · exact List.mem_of_mem_drop (List.mem_of_mem_take h)
        · exact List.mem_of_mem_take h
      obtain ⟨q, hq, e⟩ := List.mem_map.mp h2
      exact ⟨q, hq, e⟩
    have hp3 : ∀ q ∈ l, ∃ r ∈ rs, cp q.1 = pathL (cpR r) := fun q hq => by
      have h1 : cp q.1 ∈ l.map (fun p => cp p.1) := List.mem_map_of_mem (f := fun p : Str × Tok => cp p.1) hq
      rw [hl] at h1
      obtain ⟨r, hr, e⟩ := List.mem_map.mp h1
      exact ⟨r, hr, e.symm⟩
    have hlen3 : l3.length ≤ 12 ∧ l3 ≠ [] := by
      have h1 := congrArg List.length hl3
      rw [List.length_map, List.length_append, List.length_take, List.length_take, List.length_drop, List.length_map] at h1
      refine ⟨by lia, fun e => ?_⟩
      rw [e] at h1; simp at h1; lia
    repeat kspl_open e
    have X₁₁ := X.mono (Part.le_trans le₈ (Part.le_trans hle₉ (Part.le_trans hle₁₀ hle₁₁)))
    refine ⟨Fm.K ‹_› X, commonpath_spec X₁₁ (Fm.on ‹_›) (hA'.mono (by decide)) q3 hlen3.2 (by lia) (fun p hp => ?_) (fun p hp => ?_) fun z tz P₁₂ s₁₂ r₁ r₂ R₁₂ c1 c2 b1 b2 hz => ?_⟩
    · obtain ⟨q, hq, e⟩ := hm3 p hp
      obtain ⟨r, hr, e2⟩ := hp3 q hq
      rw [← e]
      have := path_short (good r hr) (short r hr) e2
      lia
    · obtain ⟨q, hq, e⟩ := hm3 p hp
      obtain ⟨r, hr, e2⟩ := hp3 q hq
      rw [← e, e2]; rfl
    have F₁₂ := Fm.call (by assumption) R₁₂
    rw [hX3] at c1 c2 b1 b2
    have hz' : cp z = pathL ((cpR (rowAt rs 0)).take k) := by
      obtain ⟨j1, hj1, hj1n, rfl⟩ := mem_turn c1
      obtain ⟨j2, hj2, hj2n, rfl⟩ := mem_turn c2
      have m0' := b1 _ (turn_mem (rows := rs.map cpR) (n := i + 2) (k := 0) (by rw [List.length_map]; lia) (Nat.zero_le _))
      have m2' := b2 _ (turn_mem (rows := rs.map cpR) (n := i + 2) (k := i + 2) (by rw [List.length_map]; lia) (Nat.le_refl _))
      have g0 := hs.get (i := 0) (j := j1) (Nat.zero_le _) hj1
      have g2 := hs.get (i := j2) (j := i + 2) hj2n (by rw [List.length_map]; lia)
      have e0 := Law.LeR.antisymm m0' g0
      have e2 := Law.LeR.antisymm m2' g2
      rw [hz, e0, ← e2, rows_getElem (by lia), rows_getElem (by lia), ← hk]
    have tkl : ((rowAt rs 0).take k).length ≤ 60 := by have := List.length_take_le' k (rowAt rs 0); lia
    have tkc : ∀ y ∈ (rowAt rs 0).take k, y.length ≤ 1000 := fun y hy => by
      have := (good _ m0 y (List.mem_of_mem_take hy)).len
      have e : y.length = y.cps.toList.length := (cp_length y).symm
      lia
    have hcj : cp (Str.ofString "/" ++ Str.join (Str.ofString "/") ((rowAt rs 0).take k)) = cp z := by
      rw [cp_append, cp_join, hz', cpR, ← List.map_take]; rfl
    have hzl : (Str.ofString "/" ++ Str.join (Str.ofString "/") ((rowAt rs 0).take k)).length ≤ 1000 := by
      rw [← cp_length, hcj, cp_length]
      have := path_short (r := (rowAt rs 0).take k) (fun x hx => good _ m0 x (List.mem_of_mem_take hx)) tkl (x := z) (by rw [hz', cpR, List.map_take])
      lia
    repeat kspl_open e
    kspl_open gm
    repeat kspl_open e
    refine z_join (by assumption) (hr₈.mono (Part.le_trans hle₉ (Part.le_trans hle₁₀ (Part.le_trans hle₁₁ R₁₂.le)))) (join_ok3 (by lia) tkc) fun tj' sj Fj => ?_
    refine z_adds (by assumption) (by
      rw [← cp_length (_ ++ _), cp_append, List.length_append, cp_length, cp_length] at hzl; lia) fun tk' sk Fk => ?_
    repeat kspl_open e
    rw [show (!decide (z = Str.ofString "/" ++ Str.join (Str.ofString "/") ((rowAt rs 0).take k))) = false by rw [decide_eq_true (str_ext hcj.symm)]; rfl]
    repeat kspl_open e
    exact ⟨P₁₂, _, _, Part.le_trans hle₆ (Part.le_trans hle₈ (Part.le_trans hle₉ (Part.le_trans hle₁₀ (Part.le_trans hle₁₁ R₁₂.le)))), by assumption, rfl, by exact hm1, by exact hm2, by exact hm3'⟩
  · rintro P' m' M' s' hle ⟨rfl, hm1, hm2, hm3⟩ F'
    repeat kspl_open e
    refine z_bool ?_
    exact h _ _ F'.ret
end
end
section
open PySem PySem.W PyProof.Rows
open Builtin Builtin.Str
set_option autoImplicit false
set_option linter.unusedVariables false
set_option maxRecDepth 100000
set_option maxHeartbeats 2000000
section
variable {prog : Program} {w : World} {mb : Str → Option Value} {A : Around} {E : Value → Shared → Prop} {s : Shared} {P : Part} {Q : Value → Shared → Prop} {env : Env}
variable {c : Cx} {L : Addr} {m : Str → Option Value} {M : List (Addr × Obj)}
theorem z_listR {r : Addr} {n : Nat} {t u v : Tok} (F : Fm c P L m M s) (hA : A.handled = none) (hr : P r = some (rng 0 (n : Int) 1 t u v)) (hn : n ≤ 1000)
    (h : ∀ v P' s', P.le P' → Rep P' v (.list ((List.range n).map natD)) → Fm c P' L m M s' → Q v s') : wpAny (model prog w) A (call (.type "list") [.ref r]) Q E s := by
  refine call_list_range (n := n) hA (F.on _ _ hr) (small_of (by decide) (by decide) (by lia) (by lia)) (by rw [rangeSize_nat]; lia) (by lia) fun h' tk acc' c' hk hS' hacc => ?_
  have F₁ := (F.keeps (tk := tk) hk).learn (a := s.heap.objs.size) (o := lst acc' c') hS' F.size_O F.size_L F.size_M
  have hle : P.le (P.set s.heap.objs.size (lst acc' c')) := Part.le_set F.size_P
  refine h _ _ _ hle (.list (vs := acc'.toList) (n := c') ?_ ?_) F₁
  · have := Part.set_self (P := P) (a := s.heap.objs.size) (o := lst acc' c')
    rw [this, Array.toArray_toList]
  · have key : ∀ (k : Nat) (vs : List Value), vs.length = k → (∀ (j : Nat) v, vs[j]? = some v → ∃ t, v = Value.int (j : Int) t) → RepAll (P.set s.heap.objs.size (lst acc' c')) vs ((List.range k).map natD) := by
      intro k
      induction k with
      | zero => intro vs h1 _; rw [List.length_eq_zero_iff.mp h1]; exact .nil
      | succ k ih =>
        intro vs h1 h2
        have hne : vs ≠ [] := fun e => by rw [e] at h1; cases h1
        rw [← List.dropLast_concat_getLast hne, List.range_succ, List.map_append]
        refine (ih _ (by rw [List.length_dropLast, h1]; rfl) fun j v hv => h2 j v ?_).append (.one ?_)
        · rw [List.getElem?_dropLast] at hv
          split at hv
          · exact hv
          · cases hv
        · obtain ⟨t, e⟩ := h2 k (vs.getLast hne) (by rw [← List.getLast?_eq_some_getLast hne, List.getLast?_eq_getElem?, h1]; rfl)
          rw [e]; exact .int _ _
    refine key n acc'.toList (by rw [Array.length_toList]; exact hacc.1) fun j v hv => ?_
    obtain ⟨t, e⟩ := hacc.2 j v (by rw [← Array.getElem?_toList]; exact hv)
    exact ⟨t, by rw [e]; congr 1; lia⟩
/-- a slice that may turn -/
theorem z_slM {a : Addr} {vs us : List Value} {n : Nat} {l u st : Value} {lo hi stp : Option Int} (F : Fm c P L m M s) (ho : s.heap.get? a = some (lst vs.toArray n)) (p1 : IsPart l lo) (p2 : IsPart u hi) (p3 : IsPart st stp) (h0 : stp ≠ some 0) (hsz : vs.length ≤ sizeLine)
    (hp : slicePick vs.toArray lo hi stp = us.toArray) (h : ∀ D s', Fm c P L m ((D, lst us.toArray 0) :: M) s' → Q (.ref D) s') : SlL prog w A E (.ref a) l u st Q s := by
  refine ⟨a, _, n, lo, hi, stp, rfl, ho, p1, p2, p3, h0, by simpa using hsz, ?_⟩
  rw [hp]
  have e : (s.heap.push { cls := .type "slice", data := .fields #[l, u, st] }).objs.size = s.heap.objs.size + 1 := Heap.size_push ..
  have F₁ := (F.push { cls := .type "slice", data := .fields #[l, u, st] }).allocM (lst us.toArray 0)
  rw [show ({ s with heap := s.heap.push { cls := .type "slice", data := .fields #[l, u, st] } } : Shared).heap.objs.size = s.heap.objs.size + 1 from e] at F₁
  exact h _ _ F₁
/-- a, b = a tuple of two, both cells -/
theorem as_tup2C {a C1 C2 : Addr} {o1 o2 : Obj} {x1 x2 : Option Value} {n k : Nat} {v1 v2 : Value} {x y : Str} {px py pos : Pos} {Q : Unit → Shared → Prop} (F : Fm c P L m ((C1, o1) :: (C2, o2) :: M) s) (hA : A.handled = none) (ht : P a = some (tpl [v1, v2].toArray n))
    (hk : env.scope.kind = .function) (hx : env.kindOf x = some .cell) (hy : env.kindOf y = some .cell) (hc1 : env.cells.lookup x = some C1) (hc2 : env.cells.lookup y = some C2) (d1 : o1.data = .cell x1) (d2 : o2.data = .cell x2)
    (h : ∀ s' o1' o2', o1'.data = .cell (some v1) → o2'.data = .cell (some v2) → Fm c P L m ((C1, o1') :: (C2, o2') :: M) s' → Q () s') :
    wpAny (model prog w) A (assign (.Tuple [.Name x px, .Name y py] k pos) env (.ref a)) Q E s := by
  refine wpAny_assign_Tuple hA ⟨_, F.on _ _ ht, rfl, n, rfl⟩ rfl rfl fun h' he => ?_
  have F₁ := F.keeps (h' := h') (tk := s.toks) fun b o e => he b o (Nat.ne_of_lt (Heap.lt_size e)) e
  show wpAny (model prog w) A (assignInOrder [fun v => assign (.Name x px) env v, fun v => assign (.Name y py) env v] [v1, v2]) Q E _
  refine wpAny_bind (wpAny_holding (wpAny_assign_Name (stC F₁ hk hx hc1 d1 fun s₂ o1' e1 F₂ => ?_)))
  refine wpAny_bind (wpAny_holding (wpAny_assign_Name (stC F₂.swap hk hy hc2 d2 fun s₃ o2' e2 F₃ => ?_)))
  exact wpAny_pure (h _ o1' o2' e1 e2 F₃.swap)
theorem triN_inj {p q : Nat × Nat × Nat} (h : triN p = triN q) : p = q := by
  obtain ⟨a, b, c⟩ := p
  obtain ⟨d, e, f⟩ := q
  unfold triN tri at h
  injection h with h
  simp at h
  obtain ⟨h1, h2, h3⟩ := h
  have h1' : a = d := by lia
  have h2' : b = e := by lia
  have h3' : c = f := by lia
  rw [h1', h2', h3']
theorem tri_inv {v : Value} {t : Nat × Nat × Nat} (h : Rep P v (triN t)) : ∃ a n t1 t2 t3, v = .ref a ∧ P a = some (tpl ([.int (t.1 : Int) t1, .int (t.2.1 : Int) t2, .int (t.2.2 : Int) t3] : List Value).toArray n) := by
  obtain ⟨a, vs, n, rfl, ha, hr⟩ := Rep.tuple_inv h
  cases hr with | cons h1 r => cases r with | cons h2 r => cases r with | cons h3 r => cases r with | nil =>
    obtain ⟨t1, rfl⟩ := h1.int_inv
    obtain ⟨t2, rfl⟩ := h2.int_inv
    obtain ⟨t3, rfl⟩ := h3.int_inv
    exact ⟨a, n, t1, t2, t3, rfl, ha⟩
/-- the largest tie comes first -/
theorem pop_tri {g : List PyData} {ts : List (Nat × Nat × Nat)} {d : PyData} {g' : List PyData} (hg : g.Perm (ts.map triN)) (hp : (d :: g').Perm g) (hb : ∀ b ∈ g', Le oTri.flip d b) :
    ∃ t ts', d = triN t ∧ ts.Perm (t :: ts') ∧ g'.Perm (ts'.map triN) ∧ ∀ b ∈ ts', b.1 ≤ t.1 := by
  have hd : d ∈ ts.map triN := (hp.trans hg).mem_iff.mp (.head _)
  obtain ⟨t, ht, rfl⟩ := List.mem_map.mp hd
  have h1 := List.perm_cons_erase ht
  have h2 : (triN t :: g').Perm (triN t :: (ts.erase t).map triN) := (hp.trans hg).trans (h1.map triN)
  have h3 := h2.cons_inv
  refine ⟨t, ts.erase t, rfl, h1, h3, fun b hb' => ?_⟩
  have h4 := hb _ (h3.mem_iff.mpr (List.mem_map_of_mem hb'))
  unfold Le at h4
  have h5 : lt3 ((t.1 : Int), (t.2.1 : Int), (t.2.2 : Int)) ((b.1 : Int), (b.2.1 : Int), (b.2.2 : Int)) = false := h4
  unfold lt3 at h5
  split at h5
  · rename_i h; simp at h; lia
  · simp at h5; lia
noncomputable def relabD (old new : Nat) : PyData → Option PyData
  | .int x => some (.int (if x = (old : Int) then (new : Int) else x))
  | _ => none
theorem relabD_map (old new : Nat) (l : List Nat) : (l.map natD).filterMap (relabD old new) = (l.map (Law.relab old new)).map natD := by
  induction l with
  | nil => rfl
  | cons a l ih =>
    have e : relabD old new (natD a) = some (natD (Law.relab old new a)) := by
      show some (PyData.int (if (a : Int) = (old : Int) then (new : Int) else (a : Int))) = _
      unfold natD Law.relab
      by_cases h : a = old
      · rw [if_pos h, if_pos (by lia)]
      · rw [if_neg h, if_neg (by lia)]
    rw [List.map_cons, List.filterMap_cons, e, List.map_cons, List.map_cons, ih]
end
end
section
open PySem PySem.W PyProof.Rows
open Builtin Builtin.Str
set_option autoImplicit false
set_option linter.unusedVariables false
set_option maxRecDepth 100000
set_option maxHeartbeats 2000000
section
variable {prog : Program} {w : World} {mb : Str → Option Value} {A : Around} {E : Value → Shared → Prop} {s : Shared} {P : Part} {Q : Value → Shared → Prop}
inductive NetI (c : Cx) (L D : Addr) (ps : List (Nat × Nat × Nat)) (many k : Nat) (s' : Shared) : Prop
  | mk (P' m' o' oc1 oc2 vs' g' ts' done W tw vg G) : Fm c P' L m' [(D, o'), (L + 1, oc1), (L + 2, oc2)] s' → LO o' vs' → RepAll P' vs' g' → g'.Perm (ts'.map triN) → k = ts'.length → HeapFrom oTri.flip 0 g' →
      (done ++ ts').Perm ps → done.Pairwise (fun a b => b.1 ≤ a.1) → (∀ a ∈ done, ∀ b ∈ ts', b.1 ≤ a.1) → Rep P' vg (.list (G.map natD)) → G.length = many → (∀ rest, Law.netF (done ++ rest) (List.range many) 0 = Law.netF rest G W) →
      (∃ x, oc1.data = .cell x) → (∃ x, oc2.data = .cell x) →
      m' (Str.ofString "weight") = some (.int (W : Int) tw) → m' (Str.ofString "group") = some vg → m' (Str.ofString "ties") = some (.ref D) → NetI c L D ps many k s'
inductive NetR (c : Cx) (L : Addr) (ps : List (Nat × Nat × Nat)) (many : Nat) (r : Except Value Flow) (s' : Shared) : Prop
  | mk (P' m' M' t' order) : r = .ok .next → Fm c P' L m' M' s' → order.Perm ps → order.Pairwise (fun a b => b.1 ≤ a.1) → m' (Str.ofString "weight") = some (.int (Law.netF order (List.range many) 0 : Int) t') → NetR c L ps many r s'
theorem law_net_spec {v1 : Value} {ps : List (Nat × Nat × Nat)} {many : Nat} {tm : Tok} (X : Bs w mb P) (hP : P.on s.heap) (hA : Rm A 11) (h1 : Rep P v1 (.list (ps.map triN))) (hn : ps.length ≤ 1000) (hm : many ≤ 20)
    (hi : ∀ p ∈ ps, p.2.1 < many ∧ p.2.2 < many)
    (h : ∀ t P' s' order, Ret ⟨s, s.heap.get?, P⟩ P' s' → order.Perm ps → order.Pairwise (fun a b => b.1 ≤ a.1) → Q (.int (Law.netF order (List.range many) 0 : Int) t) s') :
    wpAny (model prog w) A (call (.ref 258) [v1, .int (many : Int) tm]) Q E s := by
  have hsl : sizeLine = 16777216 := by decide
  refine enterC (binds := [(Str.ofString "pairs", v1), (Str.ofString "many", .int (many : Int) tm)]) X (fun _ _ e => e) hP hA.lt (a := 258) rfl (by kernel_rfl) rfl rfl rfl (by intro L; rfl) rfl rfl rfl ?_
  intro L s₁ E' env F hcell
  have hA' : Rm (A.deeper env) 10 := hA.deeper
  obtain ⟨o1, ho1, hd1, hL1, hP1, hO1⟩ := hcell (Str.ofString "old") (L + 1) rfl
  obtain ⟨o2, ho2, hd2, hL2, hP2, hO2⟩ := hcell (Str.ofString "new") (L + 2) rfl
  clear hcell
  have F₁ := F.learnM ho2 hP2 hO2 (Nat.ne_of_gt hL2) (fun p hp => nomatch hp)
  have F₂ := F₁.learnM ho1 hP1 hO1 (Nat.ne_of_gt hL1) (fun p hp => by rw [List.mem_singleton.mp hp]; exact Nat.ne_of_gt (Nat.lt_succ_self _))
  have hd1' : ∃ x, o1.data = .cell x := ⟨_, hd1⟩
  have hd2' : ∃ x, o2.data = .cell x := ⟨_, hd2⟩
  clear hd1 hd2 F F₁
  obtain ⟨a, vs, n, rfl, ha, hr⟩ := h1.list_inv
  have hvl : vs.length = ps.length := by rw [hr.length, List.length_map]
  repeat kspl_open e
  kspl_open slL
  repeat kspl_open e
  kspl_open p
  kspl_open p
  refine z_slM (by assumption) (Fm.on (by assumption) _ _ ha) .none .none .none (by decide) (by lia) (slicePick_all _) fun D s₃ F₃ => ?_
  repeat kspl_open e
  rename_i F₄
  have allD : ∀ {g : List PyData}, g.Perm (ps.map triN) → AllD oTri.flip g := fun hp x hx => by
    obtain ⟨p, _, rfl⟩ := List.mem_map.mp (hp.mem_iff.mp hx)
    exact ⟨_, rfl⟩
  refine ⟨F₄.K X, heapify_max_spec (@LtRule.flip prog w oTri (ltRule_tri prog w)) X F₄.on (hA'.mono (by decide)) (mu0 F₄) (F₄.off _ (.head _)).2.1 ⟨0, rfl⟩ hr (allD (.refl _)) (by lia) fun P₅ s₅ o₅ vs₅ g₅ hle₅ R₅ ho₅ hP₅ hl₅ hr₅ hp₅ hh₅ => ⟨rfl, ?_⟩⟩
  have F₅ := F₄.callM R₅ ho₅ hP₅
  repeat kspl_open e
  refine z_range1 (by assumption) fun r P₆ s₆ t u v hle₆ hr₆ F₆ => ?_
  repeat kspl_open e
  refine z_listR F₆ hA'.handled hr₆ (by lia) fun vg P₇ s₇ hle₇ hrg F₇ => ?_
  repeat kspl_open e
  refine x_while fun E₂ => ?_
  refine codeAny_mono (R := NetR ⟨s, s.heap.get?, P⟩ L ps many) ?_ ?_
  rotate_left
  · rintro r s' ⟨P', m', M', t', order, rfl, F', hperm, hsort, hm'⟩
    repeat kspl_open e
    exact h _ _ _ order F'.ret hperm hsort
  refine codeAny_whileLoop (NetI ⟨s, s.heap.get?, P⟩ L D ps many) ?_ ps.length
    ⟨P₇, _, o₅, o1, o2, vs₅, g₅, ps, [], 0, _, vg, List.range many, by assumption, hl₅, hr₅.mono (Part.le_trans hle₆ hle₇), hp₅, rfl, hh₅, .refl _, .nil, (fun a ha => nomatch ha), hrg, by simp, (fun rest => rfl), hd1', hd2', by rfl, by rfl, by rfl⟩
  rintro k s' ⟨P', m', o', oc1, oc2, vs', g', ts', done, W, tw, vg', G, F', hl', hr', hg', rfl, hh', hdt, hds, hdl, hrG, hGl, hnet, hc1, hc2, m1, m2, m3⟩
  repeat kspl_open e
  have hvl' : vs'.length = ts'.length := by rw [hr'.length, hg'.length_eq, List.length_map]
  have htl : ts'.length ≤ ps.length := by have := hdt.length_eq; rw [List.length_append] at this; lia
  refine z_tl (by assumption) (hl'.isList (mu0 (by assumption))) (by lia) fun s₈ F₈ => ?_
  cases ts' with
  | nil =>
    have e : vs' = [] := List.length_eq_zero_iff.mp hvl'
    subst e
    rw [show (!([] : List Value).isEmpty) = false from rfl]
    repeat kspl_open e
    refine ⟨P', m', _, tw, done, rfl, F₈, by simpa using hdt, hds, ?_⟩
    have := hnet []
    rw [List.append_nil] at this
    rw [this]; exact m1
  | cons t0 ts'' =>
    have hne : vs' ≠ [] := fun e => by rw [e] at hvl'; cases hvl'
    rw [show (!vs'.isEmpty) = true by cases vs' with
      | nil => exact absurd rfl hne
      | cons _ _ => rfl]
    repeat kspl_open e
    refine x_asgTup ?_ rfl rfl
    repeat kspl_open e
    have X' := X.mono F₈.le
    have hAllD : AllD oTri.flip g' := fun x hx => by
      obtain ⟨p, _, rfl⟩ := List.mem_map.mp (hg'.mem_iff.mp hx)
      exact ⟨_, rfl⟩
    refine ⟨F₈.K X, heappop_max_spec (@LtRule.flip prog w oTri (ltRule_tri prog w)) X' F₈.on (hA'.mono (by decide)) (mu0 F₈) (F₈.off _ (.head _)).2.1 hl' hr' hAllD (by lia) (fun e => by rw [e] at hg'; have := hg'.length_eq; simp at this) hh' fun vp d s₉ o₉ vs₉ g₉ R₉ ho₉ hl₉ hr₉ hrd hp₉ hb₉ hh₉ => ?_⟩
    have F₉ := F₈.callM R₉ ho₉ (F₈.off _ (.head _)).2.1
    obtain ⟨t, ts₉, rfl, hts, hg₉, hmax⟩ := pop_tri hg' hp₉ hb₉
    obtain ⟨ta, tn, t1, t2, t3, rfl, hta⟩ := tri_inv hrd
    have htm : t ∈ ps := hdt.mem_iff.mp (List.mem_append_right _ (hts.mem_iff.mpr (.head _)))
    obtain ⟨hi1, hi2⟩ := hi t htm
    refine as_tup3 F₉ hA'.handled hta rfl rfl rfl rfl rfl fun s₁₀ F₁₀ => ?_
    refine x_asgTup ?_ rfl rfl
    obtain ⟨ga, gvs, gn, rfl, hga, hgr⟩ := hrG.list_inv
    have hgl : gvs.length = many := by rw [hgr.length, List.length_map, hGl]
    obtain ⟨vi, hvi, hrvi⟩ := hgr.get (i := t.2.1) (d := natD (G.getD t.2.1 0)) (by rw [List.getElem?_map, List.getD_eq_getElem?_getD, List.getElem?_eq_getElem (by lia)]; rfl)
    obtain ⟨vj, hvj, hrvj⟩ := hgr.get (i := t.2.2) (d := natD (G.getD t.2.2 0)) (by rw [List.getElem?_map, List.getD_eq_getElem?_getD, List.getElem?_eq_getElem (by lia)]; rfl)
    obtain ⟨tvi, rfl⟩ := hrvi.int_inv
    obtain ⟨tvj, rfl⟩ := hrvj.int_inv
    repeat kspl_open e
    refine z_item (i := t.2.1) (heap_list (by assumption) hga) rfl (by lia) hvi ?_ rfl
    repeat kspl_open e
    refine z_item (i := t.2.2) (heap_list (by assumption) hga) rfl (by lia) hvj ?_ rfl
    repeat kspl_open e
    kspl_open nt
    intro vt P₁₁ s₁₁ hle₁₁ hrt F₁₁
    obtain ⟨ta2, tvs2, tn2, rfl, hta2, hra2⟩ := hrt.tuple_inv
    obtain ⟨x1, hc1⟩ := hc1
    obtain ⟨x2, hc2⟩ := hc2
    have inv2 : ∃ u1 u2, tvs2 = [.int (G.getD t.2.1 0 : Int) u1, .int (G.getD t.2.2 0 : Int) u2] := by
      cases hra2 with | cons q1 r => cases r with | cons q2 r => cases r with | nil =>
        obtain ⟨u1, rfl⟩ := q1.int_inv
        obtain ⟨u2, rfl⟩ := q2.int_inv
        exact ⟨u1, u2, rfl⟩
    obtain ⟨u1, u2, rfl⟩ := inv2
    have G₁₁ := F₁₁.perm (M' := [(L + 1, oc1), (L + 2, oc2), (D, o₉)]) (((List.Perm.swap _ _ _).cons _).trans (List.Perm.swap _ _ _))
    refine as_tup2C G₁₁ hA'.handled hta2 rfl rfl rfl rfl rfl hc1 hc2 fun s₁₂ oc1' oc2' hc1' hc2' F₁₂ => ?_
    repeat kspl_open e
    refine ldC rfl rfl rfl ⟨oc1', Fm.mu (by assumption) (L + 1, oc1') (.head _), hc1'⟩ ?_ rfl
    repeat kspl_open e
    refine ldC rfl rfl rfl ⟨oc2', Fm.mu (by assumption) (L + 2, oc2') (.tail _ (.head _)), hc2'⟩ ?_ rfl
    repeat kspl_open e
    have hdt' : ((done ++ [t]) ++ ts₉).Perm ps := by
      rw [List.append_assoc]
      exact ((hts.symm.append_left done)).trans hdt
    have hds' : (done ++ [t]).Pairwise (fun a b => b.1 ≤ a.1) := List.pairwise_append.mpr ⟨hds, List.pairwise_singleton _ _, fun a ha b hb => by
      rw [List.mem_singleton.mp hb]; exact hdl a ha t (hts.mem_iff.mpr (.head _))⟩
    have hdl' : ∀ a ∈ done ++ [t], ∀ b ∈ ts₉, b.1 ≤ a.1 := fun a ha b hb => by
      rcases List.mem_append.mp ha with ha | ha
      · exact hdl a ha b (hts.mem_iff.mpr (.tail _ hb))
      · rw [List.mem_singleton.mp ha]; exact hmax b hb
    have hlt : ts₉.length < (t0 :: ts'').length := by have := hts.length_eq; rw [List.length_cons (as := ts₉)] at this; lia
    by_cases he : G.getD t.2.1 0 = G.getD t.2.2 0
    · rw [if_neg (by rw [he]; simp)]
      repeat kspl_open e
      have G₁₃ := F₁₂.perm (M' := [(D, o₉), (L + 1, oc1'), (L + 2, oc2')]) (((List.Perm.swap _ _ _)).trans ((List.Perm.swap _ _ _).cons _))
      refine ⟨ts₉.length, hlt, P₁₁, _, o₉, oc1', oc2', vs₉, _, ts₉, done ++ [t], W, tw, .ref ga, G, G₁₃, hl₉, hr₉.mono hle₁₁, hg₉, rfl, hh₉, hdt', hds', hdl', hrG.mono hle₁₁, hGl, fun rest => ?_, ⟨_, hc1'⟩, ⟨_, hc2'⟩, by exact m1, by exact m2, by exact m3⟩
      rw [List.append_assoc, hnet]
      show (if G.getD t.2.1 0 = G.getD t.2.2 0 then _ else _) = _
      rw [if_pos he]; rfl
    · rw [if_pos (by rw [bne_iff_ne]; intro e; exact he (Int.ofNat_inj.mp e))]
      repeat kspl_open e
      kspl_open xcomp
      repeat kspl_open e
      rename_i F₁₃
      refine comp_list (g := relabD (G.getD t.2.1 0) (G.getD t.2.2 0)) rfl rfl (fun _ => rfl) hA'.handled (by rw [List.length_map, hGl]; lia) F₁₃ (hrG.mono hle₁₁) ?_ (done_useR rfl rfl rfl ?_)
      · intro C c' v d P₁₄ m₁₄ M₁₄ s₁₄ E₁₄ hd₁₄ hle₁₄ hrd₁₄ hc₁₄ hO₁₄ F₁₄ hm₁₄
        obtain ⟨x, hx, rfl⟩ := List.mem_map.mp hd₁₄
        obtain ⟨tx, rfl⟩ := hrd₁₄.int_inv
        refine tests_nil ?_
        rw [if_pos rfl]
        repeat kspl_open e
        have co1 := hO₁₄ _ _ (F₁₃.mu (L + 1, oc1') (.head _))
        have co2 := hO₁₄ _ _ (F₁₃.mu (L + 2, oc2') (.tail _ (.head _)))
        refine ldC rfl rfl rfl ⟨oc1', Fm.old (by assumption) _ _ co1, hc1'⟩ ?_ rfl
        repeat kspl_open e
        by_cases hxo : (x : Int) = (G.getD t.2.1 0 : Int)
        · rw [if_pos (by rw [hxo]; exact beq_self_eq_true _)]
          refine ldC rfl rfl rfl ⟨oc2', Fm.old (by assumption) _ _ co2, hc2'⟩ ?_ rfl
          refine ⟨_, _, _, Part.le_refl _, by assumption, .int _ _, ?_⟩
          show some (PyData.int (if (x : Int) = (G.getD t.2.1 0 : Int) then _ else _)) = _
          rw [if_pos hxo]
        · rw [if_neg (by rw [beq_iff_eq]; exact hxo)]
          repeat kspl_open e
          refine ⟨_, _, _, Part.le_refl _, by assumption, .int _ _, ?_⟩
          show some (PyData.int (if (x : Int) = (G.getD t.2.1 0 : Int) then _ else _)) = _
          rw [if_neg hxo]
      · intro v₁₅ P₁₅ s₁₅ hle₁₅ hr₁₅ F₁₅
        rw [relabD_map] at hr₁₅
        repeat kspl_open e
        have G₁₅ := F₁₅.perm (M' := [(D, o₉), (L + 1, oc1'), (L + 2, oc2')]) (((List.Perm.swap _ _ _)).trans ((List.Perm.swap _ _ _).cons _))
        refine ⟨ts₉.length, hlt, P₁₅, _, o₉, oc1', oc2', vs₉, _, ts₉, done ++ [t], W + t.1, _, v₁₅, G.map (Law.relab (G.getD t.2.1 0) (G.getD t.2.2 0)), G₁₅, hl₉, hr₉.mono (Part.le_trans hle₁₁ hle₁₅), hg₉, rfl, hh₉, hdt', hds', hdl', hr₁₅, by rw [List.length_map]; exact hGl, fun rest => ?_, ⟨_, hc1'⟩, ⟨_, hc2'⟩, by rfl, by rfl, by exact m3⟩
        rw [List.append_assoc, hnet]
        show (if G.getD t.2.1 0 = G.getD t.2.2 0 then _ else _) = _
        rw [if_neg he]; rfl
end
end
section
open PySem PySem.W PyProof.Rows
open Builtin Builtin.Str
set_option autoImplicit false
set_option linter.unusedVariables false
set_option maxRecDepth 100000
section
variable {prog : Program} {w : World} {A : Around} {E : Value → Shared → Prop} {s : Shared} {P : Part} {Q : Value → Shared → Prop}
variable {c : Cx} {L : Addr} {m : Str → Option Value} {M : List (Addr × Obj)}
theorem z_sumv {a : Addr} {vs : List Value} {ns : List Int} (F : Fm c P L m M s) (hA : A.handled = none) (hl : s.heap.IsList a vs.toArray) (hi : IntsAre vs ns) (h : ∀ t s', Fm c P L m M s' → Q (.int ns.sum t) s') :
    wpAny (model prog w) A (call (.builtin "sum") [.ref a]) Q E s := by
  obtain ⟨xs, e⟩ := hi.allInts.items
  have hn := hi.numsOf
  rw [e] at hl
  refine sum_intListG hA hl fun h' tk t' hk => ?_
  have e2 : preSum (numAt xs) xs.size = ns.sum := by
    rw [preSum_eq, List.take_of_length_le (by simp), ← nums_intItems, ← e, ← hn]
  rw [e2]
  exact h _ _ (F.keeps hk)
theorem z_suml {v : Value} {ns : List Int} (F : Fm c P L m M s) (hA : A.handled = none) (hr : Rep P v (.list (ns.map .int))) (h : ∀ t s', Fm c P L m M s' → Q (.int ns.sum t) s') :
    wpAny (model prog w) A (call (.builtin "sum") [v]) Q E s := by
  obtain ⟨a, vs, n, rfl, ha, hr⟩ := hr.list_inv
  exact z_sumv F hA (heap_list F ha) hr.ints h
/-- a str into a set of strs -/
theorem add_str {D : Addr} {o : Obj} {l : List Str} {x : Str} {t : Tok} (F : Fm c P L m ((D, o) :: M) s) (ho : o.SetObjOf (PySem.strKind prog w) (fun k => decide (k ∈ l)) (Law.dcG l)) (hn : Law.dcG l ≤ 4000)
    (h : ∀ s' o', o'.SetObjOf (PySem.strKind prog w) (fun k => decide (k ∈ x :: l)) (Law.dcG (x :: l)) → Fm c P L m ((D, o') :: M) s' → Q .none s') :
    wpAny (model prog w) A (call (.builtin "set.add") [.ref D, .str x t]) Q E s := by
  have hb : (4096 : Nat) = scanBound := rfl
  refine call_set_add (knd := PySem.strKind prog w) (k := x) (by simp [PySem.strKind, Value.isStrOf]) rfl (ho.setOf (mu0 F) (by lia)) (by lia) fun h' hs hS => ?_
  obtain ⟨o', ho', hso⟩ := hS.objOf
  refine h _ o' ?_ (F.upd0 ho' hs.extBut)
  have e1 : (fun k' => decide (k' ∈ l) || decide (k' = x)) = fun k => decide (k ∈ x :: l) := by
    funext k
    rw [Bool.eq_iff_iff]
    simp [List.mem_cons, or_comm]
  have e2 : (if decide (x ∈ l) = true then Law.dcG l else Law.dcG l + 1) = Law.dcG (x :: l) := by
    rw [Law.dcG]
    by_cases hx : x ∈ l
    · rw [if_pos (decide_eq_true hx), if_pos hx]
    · rw [if_neg (by rw [decide_eq_false hx]; decide), if_neg hx]
  rw [← e1, ← e2]; exact hso
theorem z_lens {D : Addr} {o : Obj} {S : Str → Bool} {n : Nat} (F : Fm c P L m M s) (hD : s.heap.get? D = some o) (ho : o.SetObjOf (PySem.strKind prog w) S n) (hn : n ≤ 4000) (h : ∀ t s', Fm c P L m M s' → Q (.int (n : Int) t) s') :
    wpAny (model prog w) A (call (.builtin "len") [.ref D]) Q E s := by
  obtain ⟨hex, es, ep, t, hd, _, _, hsz, hf⟩ := ho
  refine call_len_set hD hex hd hf (by lia) ?_
  rw [hsz]
  exact h _ _ (F.toks _)
end
theorem dcG_map_inj {α β : Type} [DecidableEq α] [DecidableEq β] (f : α → β) : ∀ l : List α, (∀ x ∈ l, ∀ y ∈ l, f x = f y → x = y) → Law.dcG (l.map f) = Law.dcG l
  | [], _ => rfl
  | a :: l, h => by
    rw [List.map_cons, Law.dcG, Law.dcG, dcG_map_inj f l fun x hx y hy => h x (.tail _ hx) y (.tail _ hy)]
    have : f a ∈ l.map f ↔ a ∈ l := by
      constructor
      · intro h1
        obtain ⟨b, hb, e⟩ := List.mem_map.mp h1
        rw [h a (.head _) b (.tail _ hb) e.symm]; exact hb
      · exact fun h1 => List.mem_map_of_mem h1
    simp only [this]
theorem dcG_le_len {α : Type} [DecidableEq α] : ∀ l : List α, Law.dcG l ≤ l.length
  | [] => Nat.le_refl _
  | a :: l => by
    have := dcG_le_len l
    rw [Law.dcG, List.length_cons]
    split <;> lia
end
section
open PySem PySem.W PyProof.Rows
open Builtin Builtin.Str
set_option autoImplicit false
set_option linter.unusedVariables false
set_option maxRecDepth 100000
set_option maxHeartbeats 2000000
theorem no_cell {ns : List (Str × NameKind)} (h : (ns.all fun y => y.2 != .cell) = true) : ∀ y ∈ ns, y.2 ≠ .cell := fun y hy hc => by
  have := List.all_eq_true.mp h y hy
  rw [hc] at this; simp at this
noncomputable def headS (r : List Str) (d : Nat) : Str := Str.join (Str.ofString "/") (r.take (d + 1))
noncomputable def headsS (r : List Str) (n : Nat) : List Str := (List.range n).map (headS r)
theorem headsS_succ (r : List Str) (n : Nat) : headsS r (n + 1) = headsS r n ++ [headS r n] := by
  unfold headsS; rw [List.range_succ, List.map_append]; rfl
noncomputable def lenD : PyData → Option PyData
  | .list ds => some (.int (ds.length : Int))
  | _ => none
theorem lenD_map (rs : List (List Str)) : (rowsD rs).filterMap lenD = (rs.map fun r => (r.length : Int)).map .int := by
  unfold rowsD
  induction rs with
  | nil => rfl
  | cons a l ih =>
    have e : lenD (.list (a.map .str)) = some (.int (a.length : Int)) := by show some (PyData.int _) = _; rw [List.length_map]
    rw [List.map_cons, List.filterMap_cons, e, ih]; rfl
section
variable {prog : Program} {w : World} {mb : Str → Option Value} {A : Around} {E : Value → Shared → Prop} {s : Shared} {P : Part} {Q : Value → Shared → Prop}
inductive DsJ (prog : Program) (w : World) (rs : List (List Str)) (i : Nat) (P' : Part) (m' : Str → Option Value) (oD : Obj) : Prop
  | mk : ∀ l, oD.SetObjOf (PySem.strKind prog w) (fun k => decide (k ∈ l)) (Law.dcG l) → l = ((rs.take i).flatMap fun r => headsS r r.length).reverse → l.length ≤ i * 60 → DsJ prog w rs i P' m' oD
inductive DsI (prog : Program) (w : World) (r : List Str) (ra : Addr) (l : List Str) (d : Nat) (P'' : Part) (m'' : Str → Option Value) (oD'' : Obj) : Prop
  | mk : ∀ l₂, oD''.SetObjOf (PySem.strKind prog w) (fun k => decide (k ∈ l₂)) (Law.dcG l₂) → l₂ = (headsS r d).reverse ++ l → m'' (Str.ofString "names") = some (.ref ra) → DsI prog w r ra l d P'' m'' oD''
theorem law_spared_spec {v : Value} {rs : List (List Str)} (X : Bs w mb P) (hP : P.on s.heap) (hA : Rm A 11) (hr : Rep P v (.list (rowsD rs))) (few : rs.length ≤ 12) (short : ∀ r ∈ rs, r.length ≤ 60) (good : ∀ r ∈ rs, ∀ x ∈ r, GoodName x)
    (h : ∀ t P' s', Ret ⟨s, s.heap.get?, P⟩ P' s' → Q (.int ((rs.map fun r => (r.length : Int)).sum - (Law.dcG (rs.flatMap fun r => headsS r r.length).reverse : Int)) t) s') :
    wpAny (model prog w) A (call (.ref 263) [v]) Q E s := by
  have hsl : sizeLine = 16777216 := by decide
  refine enter (binds := [(Str.ofString "paths", v)]) X (fun _ _ e => e) hP hA.lt (a := 263) rfl (by kernel_rfl) rfl rfl (by rfl) (by rfl) rfl rfl rfl ?_
  intro L s₁ E' F env
  have hA' : Rm (A.deeper env) 10 := hA.deeper
  obtain ⟨a, vs, n, rfl, ha, hra⟩ := hr.list_inv
  have hvl : vs.length = rs.length := by rw [hra.length]; simp [rowsD]
  refine x_scomp rfl (fun _ => rfl) rfl rfl rfl ?_
  repeat kspl_open e
  have hl := heap_list F ha
  refine wpAny_pyIter_list hl ?_
  have W := Walks.list (prog := prog) (w := w) (A := A.deeper env) hA'.handled s₁.heap.objs.size a (new_ne (F.on _ _ ha)) vs.toArray
  rw [List.size_toArray] at W
  have F₁ := F.allocM { cls := .type "list_iterator", data := .fields #[.ref a, rawInt 0] }
  refine z_newSet ?_
  refine comp_in (RR := fun acc cenv s₄ => codeAny (model prog w) (A.deeper env) (.compStart _ 0 (.ref s₁.heap.objs.size) acc cenv) (compPost (model prog w) (A.deeper env) E' (some (assign _ env)) (fun _ s' => wpAny (model prog w) (A.deeper env) (execs _ env) _ E' s') acc cenv.locals) s₄)
    (no_cell rfl) rfl rfl F₁ fun D C s₂ hold Fi out => ?_
  · have hst : (s₁.heap.push { cls := .type "list_iterator", data := .fields #[.ref a, rawInt 0] }).IsListIter s₁.heap.objs.size a 0 ∧ (s₁.heap.push { cls := .type "list_iterator", data := .fields #[.ref a, rawInt 0] }).IsList a vs.toArray :=
      ⟨⟨_, Heap.get?_push_size _ rfl, rfl, rfl⟩, hl.at fun o e => Heap.get?_push_of_some _ e⟩
    have hst₂ := W.frame 0 _ s₂.heap hst fun b _ o e => hold b o e
    refine (fun loop => set_start rfl loop fun E₃ => W.self 0 _ _ _ hst₂ loop) ?_
    refine set_run0 W (fun i h st => ?_) (fun b hb => ?_) (fun _ => rfl) (fun _ => rfl) (DsJ prog w rs) Fi hst₂
      ⟨[], setObjOf_fresh _, rfl, Nat.zero_le _⟩ ?_ ?_
    · obtain ⟨⟨o, ho, _⟩, _⟩ := st; exact ⟨o, ho⟩
    · simp only [List.mem_cons, List.mem_nil_iff, or_false] at hb
      rcases hb with rfl | rfl
      · exact .inl rfl
      · exact .inr ⟨_, ha⟩
    · rintro i vr P' m' oD oI s₃ E₃ hi hv hle ⟨l, hso, hll, hln⟩ F₃
      have hvi : vs[i]? = some vr := by simpa using hv
      obtain ⟨r, ra, rl, rn, hri, rfl, hra', hrl⟩ := row_at hra hvi
      have mi := List.mem_of_getElem? hri
      have hrs := short r mi
      refine as_name F₃ rfl rfl rfl fun s₄ F₄ => ?_
      repeat kspl_open e
      refine z_len (by assumption) (heap_list (by assumption) (hle _ _ hra')) (by simp [strValues]; have := congrArg List.length hrl; simp at this; lia) fun t₅ s₅ F₅ => ?_
      repeat kspl_open e
      refine z_range1 (by assumption) fun rr P₆ s₆ t u v hle₆ hr₆ F₆ => ?_
      have hrlen : (strValues rl).length = r.length := by simp [strValues]; have := congrArg List.length hrl; simpa using this
      rw [hrlen] at hr₆
      have hA₂ : Rm ((A.deeper env).mark none) 10 := ⟨hA'.handled, hA'.depth, hA'.units⟩
      refine wpAny_pyIter_range (Fm.on F₆ _ _ hr₆) (small_of (by decide) (by decide) (by lia) (by lia)) ?_
      have F₇ := F₆.allocM { cls := .type "range_iterator", data := .fields #[rawInt 0, rawInt (Builtin.Range.rangeSize 0 (r.length : Int) 1), rawInt 1] }
      have W₂ := Walks.range (prog := prog) (w := w) (A := (A.deeper env).mark none) hA₂.handled s₆.heap.objs.size 0 1 r.length
      have F₈ := F₇.swap
      have st₈ : IsRangeIter (s₆.heap.push { cls := .type "range_iterator", data := .fields #[rawInt 0, rawInt (Builtin.Range.rangeSize 0 (r.length : Int) 1), rawInt 1] }) s₆.heap.objs.size (0 + ((0 : Nat) : Int) * 1) ((r.length : Int) - ((0 : Nat) : Int)) 1 := by
        show (s₆.heap.push _).get? _ = _
        rw [Heap.get?_push_size _ rfl, rangeSize_nat]
        simp
      refine (fun loop => set_start rfl loop fun E₉ => W₂.self 0 _ _ _ st₈ loop) ?_
      refine set_run (t0 := .Constant .none 0 default) (setLast1 _ _ _ _ _ _ _ _) W₂ (fun j h st => ⟨_, st⟩) (fun b hb => .inl (List.mem_singleton.mp hb)) (fun _ => rfl)
        (DsI prog w r ra l) F₈ st₈ ⟨l, hso, rfl, by rfl⟩ ?_ ?_
      · rintro d vd P₉ m₉ oD₉ oI₉ s₉ E₉ hd ⟨td, rfl⟩ hle₉ ⟨l₂, hso₂, hl₂, hm₂⟩ F₉
        rw [show (0 + (d : Int) * 1) = (d : Int) by lia]
        refine as_name F₉ rfl rfl rfl fun s₁₀ F₁₀ => ?_
        repeat kspl_open e
        kspl_open gm
        repeat kspl_open e
        kspl_open slL
        repeat kspl_open e
        kspl_open p
        kspl_open p
        repeat kspl_open e
        have le₉ := Part.le_trans hle (Part.le_trans hle₆ hle₉)
        refine z_sl (by assumption) (rep_row (le₉ _ _ hra') hrl) .none (.int _ _) .none (by decide) (by rw [List.length_map]; lia) (fun vs hv => pick_take (by lia) hv) fun v₁₁ P₁₁ s₁₁ hle₁₁ hr₁₁ F₁₁ => ?_
        rw [show ((d : Int) + 1).toNat = d + 1 by lia, ← List.map_take] at hr₁₁
        repeat kspl_open e
        have tkc : ∀ y ∈ r.take (d + 1), y.length ≤ 1000 := fun y hy => by
          have := (good r mi y (List.mem_of_mem_take hy)).len
          have e : y.length = y.cps.toList.length := (cp_length y).symm
          lia
        refine z_join (by assumption) hr₁₁ (join_ok3 (by have := List.length_take_le' (d + 1) r; lia) tkc) fun tj sj Fj => ?_
        refine add_str Fj hso₂ (by
          have h1 := dcG_le_len l₂
          have h3 : l₂.length = d + l.length := by rw [hl₂, List.length_append, List.length_reverse, headsS, List.length_map, List.length_range]
          have h4 := (List.getElem?_eq_some_iff.mp hvi).1
          have h2 := Nat.mul_le_mul (show i ≤ 12 by lia) (Nat.le_refl 60)
          lia) fun s₁₂ o₁₂ hso₁₂ F₁₂ => ?_
        refine ⟨P₁₁, _, o₁₂, hle₁₁, F₁₂, _, hso₁₂, ?_, by exact hm₂⟩
        rw [headsS_succ, List.reverse_append, hl₂]; rfl
      · rintro P₉ m₉ oD₉ s₉ hle₉ ⟨l₂, hso₂, hl₂, hm₂⟩ F₉
        refine ⟨⟨_, rfl⟩, P₉, m₉, oD₉, Part.le_trans hle₆ hle₉, F₉, l₂, hso₂, ?_, ?_⟩
        · rw [hl₂, hll, List.take_add_one, hri, List.flatMap_append, List.reverse_append]
          simp
        · rw [hl₂, List.length_append, List.length_reverse, headsS, List.length_map, List.length_range, Nat.add_mul]; lia
    · rintro P' m' oD s' hle ⟨l, hso, hll, hln⟩ F'
      obtain ⟨oC, mC, G, hn⟩ := out P' m' oD s' F'
      refine done_use G hn rfl rfl rfl fun s₃ F₃ => ?_
      simp only [List.size_toArray, hvl, List.take_length] at hll hln
      repeat kspl_open e
      kspl_open comp
      repeat kspl_open e
      refine comp_list (g := lenD) rfl rfl (fun _ => rfl) hA'.handled (by simp [rowsD]; lia) (by assumption) (hr.mono (Part.le_refl _) |>.mono hle) ?_ (done_noneR ?_)
      · intro C₂ c₂ v₂ d P₂ m₂ M₂ s₄ E₄ hd hle₂ hrd hc₂ hO₂ F₄ hm₂
        obtain ⟨r, mr, rfl⟩ := List.mem_map.mp hd
        have hrs := short r mr
        obtain ⟨ra, rvs, rn, rfl, hra', hrr⟩ := hrd.list_inv
        have hrvl : rvs.length = r.length := by rw [hrr.length, List.length_map]
        have X₂ : Bs w mb c₂.P₀ := by rw [hc₂]; exact X.mono hle
        refine tests_nil ?_
        rw [if_pos rfl]
        repeat kspl_open e
        refine z_len (by assumption) (heap_list (by assumption) hra') (by lia) fun t₅ s₅ F₅ => ⟨_, _, _, Part.le_refl _, F₅, .int _ _, ?_⟩
        show some (PyData.int _) = some (PyData.int _)
        rw [List.length_map, hrvl]
      · intro v₃ P₃ s₄ hle₃ hr₃ F₄
        rw [lenD_map] at hr₃
        repeat kspl_open e
        refine z_suml (by assumption) hA'.handled hr₃ fun t₅ s₅ F₅ => ?_
        repeat kspl_open e
        refine z_lens (by assumption) (Fm.mu (by assumption) (D, oD) (.head _)) hso (by have := dcG_le_len l; lia) fun t₆ s₆ F₆ => ?_
        repeat kspl_open e
        rename_i F₇
        rw [hll]
        exact h _ _ _ F₇.ret
end
end
section
open PySem PySem.W PyProof.Rows
open Builtin Builtin.Str
set_option autoImplicit false
set_option linter.unusedVariables false
set_option maxRecDepth 100000
set_option maxHeartbeats 2000000
theorem idx_rep {P : Part} {vs : List Value} {ns : List Int} (h : RepAll P vs (ns.map .int)) : ∀ l : List Nat, ∃ es : List Int, RepAll P (l.filterMap (vs[·]?)) (es.map .int)
  | [] => ⟨[], .nil⟩
  | i :: l => by
    obtain ⟨es, hes⟩ := idx_rep h l
    cases hv : vs[i]? with
    | none => exact ⟨es, by simpa [hv] using hes⟩
    | some v =>
      obtain ⟨d, hd, hr⟩ := h.getV hv
      obtain ⟨n, -, rfl⟩ := List.mem_map.mp (List.mem_of_getElem? hd)
      exact ⟨n :: es, by simpa [hv] using .cons hr hes⟩
theorem pick_ints {P : Part} {vs : List Value} {ns : List Int} {lo hi st : Option Int} (h : RepAll P vs (ns.map .int)) : ∃ us, ∃ es : List Int, slicePick vs.toArray lo hi st = us.toArray ∧ RepAll P us (es.map .int) := by
  unfold slicePick
  simp only [List.size_toArray, List.getElem?_toArray]
  obtain ⟨es, hes⟩ := idx_rep h (sliceRange (sliceBounds lo hi st vs.length).1 (sliceBounds lo hi st vs.length).2.1 (sliceBounds lo hi st vs.length).2.2)
  exact ⟨_, es, rfl, hes⟩
section
variable {prog : Program} {w : World} {mb : Str → Option Value} {A : Around} {E : Value → Shared → Prop} {s : Shared} {P : Part} {Q : Value → Shared → Prop}
noncomputable def PathsOk (rs : List (List Str)) : Prop := rs ≠ [] ∧ (∀ r ∈ rs, ∀ x ∈ r, GoodName x) ∧ (∀ r ∈ rs, r ≠ [])
inductive PtJ (D : Addr) (i : Nat) (P' : Part) (m' : Str → Option Value) (M' : List (Addr × Obj)) : Prop
  | mk : ∀ (ps : List Value) (n : Nat) (rs : List (List Str)), M' = [(D, lst ps.toArray n)] → RepAll P' ps (rowsD rs) → rs.length = 1 + i → (∀ r ∈ rs, ∀ x ∈ r, GoodName x) → (∀ r ∈ rs, r.length ≤ 2 * (1 + i)) → m' (Str.ofString "paths") = some (.ref D) → PtJ D i P' m' M'
theorem law_paths_spec {v : Value} {ns : List Int} (X : Bs w mb P) (hP : P.on s.heap) (hA : Rm A 11) (hr : Rep P v (.list (ns.map .int))) (hn : ns.length ≤ 100000)
    (h : ∀ u P' s' (rs : List (List Str)), Ret ⟨s, s.heap.get?, P⟩ P' s' → Rep P' u (.list (rowsD rs)) → 4 ≤ rs.length → rs.length ≤ 9 → (∀ r ∈ rs, ∀ x ∈ r, GoodName x) → (∀ r ∈ rs, r.length ≤ 20) → Q u s') :
    wpAny (model prog w) A (call (.ref 222) [v]) Q E s := by
  have hsl : sizeLine = 16777216 := by decide
  refine enterC (binds := [(Str.ofString "script", v)]) X (fun _ _ e => e) hP hA.lt (a := 222) rfl (by kernel_rfl) rfl rfl rfl (by intro L; rfl) rfl rfl rfl ?_
  intro L s₁ E' env F hcell
  have hA' : Rm (A.deeper env) 10 := hA.deeper
  obtain ⟨o1, ho1, hd1, hL1, hP1, hO1⟩ := hcell (Str.ofString "script") (L + 1) rfl
  clear hcell
  have F₁ := F.learn ho1 hO1 (Nat.ne_of_gt hL1) (fun p hp => nomatch hp)
  have le₁ := Part.le_set (P := P) (o := o1) hP1
  have p1 : (P.set (L + 1) o1) (L + 1) = some o1 := Part.set_self
  generalize P.set (L + 1) o1 = P₁ at F₁ le₁ p1
  have hd1' : o1.data = .cell (some v) := hd1
  clear F hd1
  obtain ⟨a, vs, n, rfl, ha, hra⟩ := hr.list_inv
  have hvl : vs.length = ns.length := by rw [hra.length, List.length_map]
  repeat kspl_open e
  kspl_open nl
  intro v₂ P₂ s₂ hle₂ hr₂ F₂
  have hr₂' : Rep P₂ v₂ (.list (([Str.ofString "a", Str.ofString ".a"] : List Str).map .str)) := hr₂
  clear hr₂
  repeat kspl_open e
  refine z_newM (by assumption) (by show 1 ≤ _; lia) fun D s₃ F₃ => ?_
  repeat kspl_open e
  kspl_open fo
  repeat kspl_open e
  kspl_open nl
  intro v₄ P₄ s₄ hle₄ hr₄ F₄
  kspl_open comp
  repeat kspl_open e
  refine ldC rfl rfl rfl ⟨o1, Fm.on ‹_› _ _ (hle₄ _ _ (hle₂ _ _ p1)), hd1'⟩ ?_ rfl
  repeat kspl_open e
  refine z_len (by assumption) (heap_list (by assumption) (hle₄ _ _ (hle₂ _ _ (le₁ _ _ ha)))) (by lia) fun t₅ s₅ F₅ => ?_
  repeat kspl_open e
  refine z_min2 (by assumption) hA'.handled fun t₆ s₆ F₆ => ?_
  repeat kspl_open e
  refine z_range1 (by assumption) fun r P₇ s₇ t u v hle₇ hr₇ F₇ => ?_
  obtain ⟨k, hk, hk5⟩ : ∃ k : Nat, min (5 : Int) (vs.length : Int) = (k : Int) ∧ k ≤ 5 := ⟨min 5 vs.length, by lia, by lia⟩
  rw [hk] at hr₇
  refine wpAny_pyIter_range (Fm.on F₇ _ _ hr₇) (small_of (by decide) (by decide) (by lia) (by lia)) ?_
  have F₈ := F₇.allocM { cls := .type "range_iterator", data := .fields #[rawInt 0, rawInt (Builtin.Range.rangeSize 0 (k : Int) 1), rawInt 1] }
  have W₂ := Walks.range (prog := prog) (w := w) (A := A.deeper env) hA'.handled s₇.heap.objs.size 0 1 k
  have st₈ : IsRangeIter (s₇.heap.push { cls := .type "range_iterator", data := .fields #[rawInt 0, rawInt (Builtin.Range.rangeSize 0 (k : Int) 1), rawInt 1] }) s₇.heap.objs.size (0 + ((0 : Nat) : Int) * 1) ((k : Int) - ((0 : Nat) : Int)) 1 := by
    show (s₇.heap.push _).get? _ = _
    rw [Heap.get?_push_size _ rfl, rangeSize_nat]
    simp
  have le₇ : P₁.le P₇ := Part.le_trans hle₂ (Part.le_trans hle₄ hle₇)
  refine comp_at (acc₀ := .none) (MX := []) (M := [(D, _)]) (no_cell rfl) rfl W₂ (fun j h st => ⟨_, st⟩) (fun b hb => .inl (List.mem_singleton.mp hb)) (by lia) (fun _ => rfl)
    (fun i P' ys MX' => MX' = [] ∧ ∃ es : List Int, es.length = i ∧ RepAll P' ys (es.map .int)) F₈ st₈ ⟨rfl, [], rfl, .nil⟩ (fun _ _ _ _ h => by rw [h.1]) ?_ ?_
  · rintro C i v₉ P' m' MX' ys kk D₉ oI' s' E' hi ⟨td, rfl⟩ hle ⟨rfl, es, hel, hys⟩ F'
    refine as_name F' rfl rfl rfl fun s₁₀ F₁₀ => ?_
    refine tests_nil ?_
    rw [if_pos rfl]
    have X₂ : Bs w mb P₇ := X.mono (Part.le_trans le₁ le₇)
    repeat kspl_open e
    refine e_slL3 ?_ (fun _ _ => rfl)
    refine ldC rfl rfl rfl ⟨o1, Fm.on ‹_› _ _ (hle _ _ (le₇ _ _ p1)), hd1'⟩ ?_ rfl
    kspl_open p
    repeat kspl_open e
    kspl_open p
    repeat kspl_open e
    obtain ⟨us, es', hus, hrus⟩ := pick_ints (lo := some (0 + (i : Int) * 1)) (hi := none) (st := some 5) (hra.mono (Part.le_trans le₁ (Part.le_trans le₇ hle)))
    refine z_slv (by assumption) (Fm.on ‹_› _ _ (hle _ _ (le₇ _ _ (le₁ _ _ ha)))) (.int _ _) .none (.int _ _) (by decide) (by lia) hus hrus fun v₁₁ P₁₁ s₁₁ hle₁₁ hr₁₁ F₁₁ => ?_
    repeat kspl_open e
    refine z_suml (by assumption) hA'.handled hr₁₁ fun t₁₂ s₁₂ F₁₂ => ?_
    refine ⟨P₁₁, _, [], hle₁₁, F₁₂, rfl, es ++ [es'.sum], by simp [hel], ?_⟩
    rw [List.map_append]
    show RepAll P₁₁ _ (es.map PyData.int ++ [PyData.int es'.sum])
    exact (hys.mono hle₁₁).append (.one (.int _ _))
  · rintro D₉ C oC mC P' MX' ys kk s' hle ⟨rfl, es, hel, hys⟩ F' hn'
    refine done_none F' hn' fun s₁₀ F₁₀ => ?_
    have F₁₁ := F₁₀.freeze
    obtain ⟨b, us, n₁, rfl, hb, hrb⟩ := (hr₄.mono (Part.le_trans hle₇ (Part.le_trans hle F₁₀.le_freeze))).list_inv
    have hul : us.length = 3 := hrb.length
    have hyl : ys.length = k := by rw [hys.length, List.length_map, hel]
    refine z_addl F₁₁ (F₁₁.on _ _ hb) (F₁₁.on _ _ Part.set_self) hrb (hys.mono F₁₀.le_freeze) (by lia) fun v₁₂ P₁₂ s₁₂ hle₁₂ hr₁₂ F₁₂ => ?_
    obtain ⟨c₁, ws, n₂, rfl, hc₁, hrc⟩ := hr₁₂.list_inv
    have hints : ∀ i y, ws[i]? = some y → ∃ (z : Int) (t : Tok), y = Value.int z t := fun i y hy => by
      obtain ⟨d, hd, hrd⟩ := hrc.getV hy
      rcases List.mem_append.mp (List.mem_of_getElem? hd) with hd | hd
      · simp only [List.map_cons, List.map_nil, datOf, List.mem_cons, List.mem_nil_iff, or_false] at hd
        rcases hd with rfl | rfl | rfl <;> exact ⟨_, hrd.int_inv⟩
      · obtain ⟨z, -, rfl⟩ := List.mem_map.mp hd
        exact ⟨_, hrd.int_inv⟩
    have hwl : ws.length = 3 + k := by rw [hrc.length, List.length_append, ← hrb.length, hul, List.length_map, hel]
    have le₁₂ : P₁.le P₁₂ := Part.le_trans le₇ (Part.le_trans hle (Part.le_trans F₁₀.le_freeze hle₁₂))
    have hr₂'' := hr₂'.mono (Part.le_trans hle₄ (Part.le_trans hle₇ (Part.le_trans hle (Part.le_trans F₁₀.le_freeze hle₁₂))))
    refine iter_list F₁₂ hc₁ hA'.handled (PtJ D)
      ⟨[v₂], 0, [[Str.ofString "a", Str.ofString ".a"]], rfl, .one hr₂'', rfl, ?_, ?_, by rfl⟩ ?_ ?_
    · intro r hr x hx
      rw [List.mem_singleton.mp hr] at hx
      simp only [List.mem_cons, List.mem_nil_iff, or_false] at hx
      rcases hx with rfl | rfl <;> exact good_lit (by decide +kernel)
    · intro r hr; rw [List.mem_singleton.mp hr]; exact Nat.le_refl _
    · rintro i y P₁₃ m₁₃ M₁₃ I oI s₁₃ E₁₃ hi hle₁₃ ⟨ps, np, rs, rfl, hps, hrl, hgood, hshort, hm₁⟩ F₁₃
      obtain ⟨z, tz, rfl⟩ := hints i y hi
      have hil := (List.getElem?_eq_some_iff.mp hi).1
      have hpl : ps.length = 1 + i := by rw [hps.length, rowsD, List.length_map, hrl]
      refine as_name F₁₃ rfl rfl rfl fun s₁₄ F₁₄ => ?_
      repeat kspl_open e
      refine z_abs (by assumption) fun t₁₅ s₁₅ F₁₅ => ?_
      repeat kspl_open e
      refine z_pow (by assumption) (by decide) (by decide) (by decide) fun t₁₆ s₁₆ F₁₆ => ?_
      refine z_mod (by assumption) (by decide) fun t₁₇ s₁₇ F₁₇ => ?_
      obtain ⟨v, hv⟩ : ∃ v : Nat, (if z < 0 then -z else z) % (10 ^ (7 : Int).toNat) = (v : Int) := ⟨_, (Int.toNat_of_nonneg (Int.emod_nonneg _ (by decide))).symm⟩
      rw [hv]
      repeat kspl_open e
      refine z_len (by assumption) (heap_listM (by assumption) (.tail _ (.head _))) (by lia) fun t₁₈ s₁₈ F₁₈ => ?_
      refine z_mod (by assumption) (by lia) fun t₁₉ s₁₉ F₁₉ => ?_
      have hmod : v % ps.length < ps.length := Nat.mod_lt _ (by lia)
      obtain ⟨rv, hrv, hrr⟩ := hps.get (i := v % ps.length) (d := .list ((rs.getD (v % ps.length) []).map .str)) (by
        rw [rowsD, List.getElem?_map, List.getD_eq_getElem?_getD, List.getElem?_eq_getElem (by lia)]; rfl)
      have mrow : rs.getD (v % ps.length) [] ∈ rs := by
        rw [List.getD_eq_getElem?_getD, List.getElem?_eq_getElem (by lia)]; exact List.getElem_mem _
      generalize rs.getD (v % ps.length) [] = row at hrr mrow
      refine z_item (i := v % ps.length) (v := rv) (heap_listM (by assumption) (.tail _ (.head _))) (by simp) (by lia) hrv ?_ rfl
      obtain ⟨ra, rvs, rn, rfl, hra₂, hrra⟩ := hrr.list_inv
      have hrvl : rvs.length = row.length := by rw [hrra.length, List.length_map]
      have hrows := hshort row mrow
      have hi8 : i < 8 := by lia
      repeat kspl_open e
      refine z_len (by assumption) (heap_listM (by assumption) (.tail _ (.head _))) (by lia) fun t₂₀ s₂₀ F₂₀ => ?_
      refine z_div (by assumption) (by lia) (by lia) fun t₂₁ s₂₁ F₂₁ => ?_
      obtain ⟨u, hu⟩ : ∃ u : Nat, (v : Int) / (ps.length : Int) = (u : Int) := ⟨v / ps.length, by simp⟩
      rw [hu]
      repeat kspl_open e
      kspl_open ap
      repeat kspl_open e
      kspl_open slL
      repeat kspl_open e
      kspl_open p
      kspl_open p
      repeat kspl_open e
      refine z_len (by assumption) (heap_list (by assumption) hra₂) (by lia) fun t₂₂ s₂₂ F₂₂ => ?_
      repeat kspl_open e
      rename_i F₂₃
      refine z_mod F₂₃ (by lia) fun t₂₃ s₂₃ F₂₄ => ?_
      obtain ⟨e, he⟩ : ∃ e : Nat, (u : Int) % ((rvs.length : Int) + 1) = (e : Int) := ⟨u % (rvs.length + 1), by simp⟩
      rw [he]
      refine z_sl F₂₄ (.list hra₂ hrra) .none (.int _ _) .none (by decide) (by rw [List.length_map]; lia) (fun vs hv => pick_take (by lia) hv) fun v₂₅ P₂₅ s₂₅ hle₂₅ hr₂₅ F₂₅ => ?_
      repeat kspl_open e
      refine z_len (by assumption) (heap_list (by assumption) (hle₂₅ _ _ hra₂)) (by lia) fun t₂₆ s₂₆ F₂₆ => ?_
      repeat kspl_open e
      rename_i F₂₆'
      refine z_div F₂₆' (by lia) (by lia) fun t₂₇ s₂₇ F₂₇ => ?_
      repeat kspl_open e
      refine ⟨F₂₇.K X, law_names_spec (X.mono F₂₇.le) F₂₇.on (hA'.mono (by decide)) (Int.ediv_nonneg (by lia) (by lia)) fun v₂₈ P₂₈ s₂₈ names R₂₈ hr₂₈ hgn hnl => ?_⟩
      have F₂₈ := F₂₇.call R₂₈
      obtain ⟨xa, xs, xn, rfl, hxa, hxr⟩ := (hr₂₅.mono R₂₈.le).list_inv
      obtain ⟨ya, ys', yn, rfl, hya, hyr⟩ := hr₂₈.list_inv
      have hxl : xs.length ≤ row.length := by rw [hxr.length, List.length_take, List.length_map]; lia
      have hyl : ys'.length ≤ 2 := by rw [hyr.length, List.length_map]; lia
      refine z_addl F₂₈ (F₂₈.on _ _ hxa) (F₂₈.on _ _ hya) hxr hyr (by lia) fun v₂₉ P₂₉ s₂₉ hle₂₉ hr₂₉ F₂₉ => ?_
      rw [← List.map_take, ← List.map_append] at hr₂₉
      repeat kspl_open e
      refine z_append1 F₂₉ (by lia) fun s₃₀ n₃₀ F₃₀ => ⟨rfl, ?_⟩
      repeat kspl_open e
      have le₃₀ := Part.le_trans hle₂₅ (Part.le_trans R₂₈.le hle₂₉)
      refine ⟨P₂₉, _, _, le₃₀, F₃₀, ps ++ [v₂₉], _, rs ++ [row.take (e : Int).toNat ++ names], rfl, ?_, by rw [List.length_append, hrl]; rfl, ?_, ?_, by exact hm₁⟩
      · rw [rowsD, List.map_append]
        exact (hps.mono le₃₀).append (.one hr₂₉)
      · intro r hr x hx
        rcases List.mem_append.mp hr with hr | hr
        · exact hgood r hr x hx
        · rw [List.mem_singleton.mp hr] at hx
          rcases List.mem_append.mp hx with hx | hx
          · exact hgood row mrow x (List.mem_of_mem_take hx)
          · exact hgn x hx
      · intro r hr
        rcases List.mem_append.mp hr with hr | hr
        · have := hshort r hr; lia
        · rw [List.mem_singleton.mp hr, List.length_append, List.length_take]; lia
    · rintro P₁₃ m₁₃ M₁₃ s₁₃ hle₁₃ ⟨ps, np, rs, rfl, hps, hrl, hgood, hshort, hm₁⟩ F₁₃
      repeat kspl_open e
      have F₁₅ := F₁₃.freeze
      exact h _ _ _ rs F₁₅.ret (.list Part.set_self (hps.mono F₁₃.le_freeze)) (by lia) (by lia) hgood (fun r hr => Nat.le_trans (hshort r hr) (by lia))
end
end
section
open PySem PySem.W PyProof.Rows
open Builtin Builtin.Str
set_option autoImplicit false
set_option linter.unusedVariables false
set_option maxRecDepth 10000
set_option maxHeartbeats 1000000
theorem GoodName.law {x : Str} (h : GoodName x) : Law.Good (cp x) := ⟨h.ne, h.dot, h.sg⟩
theorem dotL_law (x : List Nat) : dotL x = Law.dot x := rfl
theorem quotedL_law (ns : List (List Nat)) : quotedL ns = Law.quoted ns := rfl
/-- the letter of a row -/
noncomputable def LQ (r : List Str) : Str := ⟨(quotedL (r.map cp)).toArray⟩
theorem cp_LQ (r : List Str) : cp (LQ r) = quotedL (r.map cp) := rfl
theorem quotedL_cons (n : List Nat) (ns : List (List Nat)) : quotedL (n :: ns) = dotL n ++ 13 :: 10 :: quotedL ns := by
  rw [quotedL, List.map_cons, List.flatten_cons, List.append_assoc]; rfl
/-! the dots and the line ends -/
theorem crlf_sg : ∀ {x : List Nat} (r : List Nat), (∀ c ∈ x, 13 < c) → crlf (x ++ r) = x ++ crlf r
  | [], _, _ => rfl
  | c :: x, r, h => by
    have hc := h c (.head _)
    show crlf (c :: (x ++ r)) = c :: (x ++ crlf r)
    rw [crlf_other (by lia) (by lia), crlf_sg r fun d hd => h d (.tail _ hd)]
theorem crlf_end {e : List Nat} (he : e = [10] ∨ e = [13] ∨ e = [13, 10]) {r : List Nat} (hr : r = [] ∨ ∃ c t, r = c :: t ∧ 13 < c) : crlf (e ++ r) = 13 :: 10 :: crlf r := by
  rcases he with rfl | rfl | rfl
  · show crlf (10 :: r) = _
    rw [crlf]
    · rw [if_pos (Or.inr rfl)]
    · intro r' e; cases e
  · show crlf (13 :: r) = _
    rw [crlf]
    · rw [if_pos (Or.inl rfl)]
    · intro r' _ e
      rcases hr with rfl | ⟨c, t, rfl, hc⟩
      · cases e
      · cases e; lia
  · show crlf (13 :: 10 :: r) = _
    rw [crlf]
theorem body_head {e : List Nat} {ns : List (List Nat)} (h : ∀ n ∈ ns, n ≠ [] ∧ ∀ c ∈ n, 13 < c) : (ns.map fun n => n ++ e).flatten = [] ∨ ∃ c t, (ns.map fun n => n ++ e).flatten = c :: t ∧ 13 < c := by
  cases ns with
  | nil => exact .inl rfl
  | cons n ns =>
    obtain ⟨h1, h2⟩ := h n (.head _)
    cases n with
    | nil => exact absurd rfl h1
    | cons c n => exact .inr ⟨c, _, rfl, h2 c (.head _)⟩
theorem crlf_body {e : List Nat} (he : e = [10] ∨ e = [13] ∨ e = [13, 10]) : ∀ {ns : List (List Nat)}, (∀ n ∈ ns, n ≠ [] ∧ ∀ c ∈ n, 13 < c) → crlf ((ns.map fun n => n ++ e).flatten) = (ns.map fun n => n ++ [13, 10]).flatten
  | [], _ => by rw [List.map_nil, List.flatten_nil, crlf]; rfl
  | n :: ns, h => by
    rw [List.map_cons, List.flatten_cons, List.append_assoc, crlf_sg _ (h n (.head _)).2, crlf_end he (body_head fun m hm => h m (.tail _ hm)), crlf_body he fun m hm => h m (.tail _ hm), List.map_cons, List.flatten_cons, List.append_assoc]; rfl
theorem dots_sg : ∀ {x : List Nat} (r : List Nat), (∀ c ∈ x, 13 < c) → dots false (x ++ 13 :: 10 :: r) = x ++ 13 :: 10 :: dots true r
  | [], r, _ => by
    show dots false (13 :: 10 :: r) = _
    rw [dots, if_neg (by simp), dots, if_neg (by simp)]; rfl
  | c :: x, r, h => by
    have hc := h c (.head _)
    show dots false (c :: (x ++ 13 :: 10 :: r)) = _
    rw [dots, if_neg (by simp), show (c == 10) = false by rw [beq_eq_false_iff_ne]; lia, dots_sg r fun d hd => h d (.tail _ hd)]; rfl
theorem dots_name {x : List Nat} (hne : x ≠ []) (h : ∀ c ∈ x, 13 < c) (r : List Nat) : dots true (x ++ 13 :: 10 :: r) = dotL x ++ 13 :: 10 :: dots true r := by
  cases x with
  | nil => exact absurd rfl hne
  | cons c x =>
    have hc := h c (.head _)
    have hx := fun d hd => h d (.tail c hd)
    show dots true (c :: (x ++ 13 :: 10 :: r)) = _
    rw [dots]
    unfold dotL
    by_cases e : c = 46
    · subst e
      rw [if_pos ⟨rfl, rfl⟩, if_pos (by simp), dots_sg r hx]; rfl
    · rw [if_neg (by simp [e]), if_neg (by simp [e]), show (c == 10) = false by rw [beq_eq_false_iff_ne]; lia, dots_sg r hx]; rfl
theorem dots_body : ∀ {ns : List (List Nat)}, (∀ n ∈ ns, n ≠ [] ∧ ∀ c ∈ n, 13 < c) → dots true ((ns.map fun n => n ++ [13, 10]).flatten) = quotedL ns
  | [], _ => rfl
  | n :: ns, h => by
    rw [List.map_cons, List.flatten_cons, List.append_assoc]
    show dots true (n ++ 13 :: 10 :: (ns.map fun n => n ++ [13, 10]).flatten) = _
    rw [dots_name (h n (.head _)).1 (h n (.head _)).2, dots_body fun m hm => h m (.tail _ hm), quotedL_cons]
theorem body_quoted {ns : List (List Nat)} {e : List Nat} (he : e = [10] ∨ e = [13] ∨ e = [13, 10]) (h : ∀ n ∈ ns, n ≠ [] ∧ ∀ c ∈ n, 13 < c) : dots true (crlf ((ns.map fun n => n ++ e).flatten)) = quotedL ns := by
  rw [crlf_body he h, dots_body h]
/-! the order of the letters -/
theorem pop_order {C : List Str} {rs R : List (List Str)} (good : ∀ r ∈ rs, ∀ x ∈ r, GoodName x) (hR : R.Perm rs) (hs : Law.Sorted (R.map cpR)) (hC : C.Perm (rs.map LQ)) (hCs : C.Pairwise fun a b => ¬ cp b < cp a) : C = R.map LQ := by
  have hq : (C.map cp).Perm ((R.map LQ).map cp) := (hC.trans (hR.map LQ).symm).map cp
  have inj : ∀ {a b : Str}, cp a = cp b → a = b := fun e => str_ext e
  have h1 : (C.map cp).Pairwise fun a b => ¬ b < a := List.pairwise_map.mpr hCs
  have h2 : ((R.map LQ).map cp).Pairwise fun a b => ¬ b < a := by
    refine List.pairwise_map.mpr (List.pairwise_map.mpr ?_)
    have := List.pairwise_map.mp hs
    refine this.imp_of_mem fun {a b} ha hb hab => ?_
    have ga : ∀ x ∈ cpR a, Law.Good x := fun x hx => by
      obtain ⟨n, hn, rfl⟩ := List.mem_map.mp hx
      exact (good a (hR.mem_iff.mp ha) n hn).law
    have gb : ∀ x ∈ cpR b, Law.Good x := fun x hx => by
      obtain ⟨n, hn, rfl⟩ := List.mem_map.mp hx
      exact (good b (hR.mem_iff.mp hb) n hn).law
    intro hlt
    have := (Law.quoted_lt gb ga).mp hlt
    unfold Law.LeR at hab
    rw [hab] at this; cases this
  have e := hq.eq_of_pairwise (le := fun a b => ¬ b < a) (fun a b _ _ h k => by
    rw [List.not_lt] at h k
    exact List.le_antisymm h k) h1 h2
  exact (List.map_inj_right fun a b e => inj e).mp e
end
section
open PySem PySem.W PyProof.Rows
open Builtin Builtin.Str
set_option autoImplicit false
set_option linter.unusedVariables false
set_option maxRecDepth 10000
set_option maxHeartbeats 1000000
noncomputable def Free2 (l : List Nat) : Prop := ∀ j, ¬ (l[j]? = some 13 ∧ l[j + 1]? = some 10)
theorem Free2.tail {a : Nat} {l : List Nat} (h : Free2 (a :: l)) : Free2 l := fun j hj => h (j + 1) (by simpa using hj)
theorem part_free2 (x : Str) (a b : Nat) (hb : b ≤ x.length) (hn : ∀ k, a ≤ k → k < b → ¬ StrLaws.At x ⟨#[13, 10]⟩ x.length k) : Free2 (cp (strSub x a b)) := by
  rintro j ⟨h1, h2⟩
  have e : cp (strSub x a b) = (x.cps.toList.drop a).take (b - a) := StrLaws.strSub_toList x a b
  rw [e] at h1 h2
  have hlt : j + 1 < b - a := by
    have h3 : j + 1 < ((x.cps.toList.drop a).take (b - a)).length := (List.getElem?_eq_some_iff.mp h2).1
    simp at h3
    lia
  rw [List.getElem?_take_of_lt (by lia), List.getElem?_drop] at h1
  rw [List.getElem?_take_of_lt hlt, List.getElem?_drop] at h2
  refine hn (a + j) (by lia) (by lia) ⟨by show a + j + 2 ≤ _; lia, ?_⟩
  rw [StrLaws.subAt_eq]
  show (((x.cps.toList.drop (a + j)).take 2) == [13, 10]) = true
  rw [beq_iff_eq]
  refine List.ext_getElem? fun i => ?_
  match i with
  | 0 => rw [List.getElem?_take_of_lt (by lia), List.getElem?_drop]; simpa using h1
  | 1 => rw [List.getElem?_take_of_lt (by lia), List.getElem?_drop]; simpa [Nat.add_assoc] using h2
  | i + 2 => simp; lia
theorem parts_free2 (x : Str) : ∀ (cuts : List Nat) (a f : Nat), StrLaws.ChainG x ⟨#[13, 10]⟩ x.length a cuts f → (∀ k, f ≤ k → ¬ StrLaws.At x ⟨#[13, 10]⟩ x.length k) → ∀ p ∈ StrLaws.partsFrom x (⟨#[13, 10]⟩ : Str).length a cuts, Free2 (cp p)
  | [], a, f, h, hn, p, hp => by
    have e : f = a := h
    subst e
    rw [List.mem_singleton.mp hp]
    exact part_free2 x f x.length (Nat.le_refl _) fun k h1 _ => hn k h1
  | d :: r, a, f, h, hn, p, hp => by
    rcases List.mem_cons.mp hp with rfl | hp'
    · exact part_free2 x a d (by have : d + 2 ≤ x.length := h.2.1.1; lia) h.2.2.1
    · exact parts_free2 x r _ f h.2.2.2 hn p hp'
theorem kind2 (x : Str) : ¬ Builtin.Str.strKind x < Builtin.Str.strKind ⟨#[13, 10]⟩ := by
  unfold Builtin.Str.strKind
  simp
  repeat' split
  all_goals lia
theorem split_free2 (x : Str) : ∀ p ∈ Txt.split x ⟨#[13, 10]⟩, Free2 (cp p) := by
  obtain ⟨f, hG, hn⟩ := StrLaws.occ_tight x ⟨#[13, 10]⟩ (by decide)
  have whole : (∀ k, ¬ StrLaws.At x ⟨#[13, 10]⟩ x.length k) → Free2 (cp x) := fun h => by
    have := part_free2 x 0 x.length (Nat.le_refl _) fun k _ _ => h k
    rwa [StrLaws.sub_whole] at this
  unfold Txt.split
  split
  · rename_i hc
    intro p hp
    rw [List.mem_singleton.mp hp]
    refine whole fun k hA => ?_
    rw [Bool.or_eq_true, decide_eq_true_eq, decide_eq_true_eq] at hc
    rcases hc with h | h
    · have : k + 2 ≤ x.length := hA.1
      have : x.length < 2 := h
      lia
    · exact kind2 x h
  · split
    · rename_i he
      intro p hp
      rw [List.mem_singleton.mp hp]
      have e0 : occurrences x ⟨#[13, 10]⟩ 0 x.length (x.length + 1) = [] := List.isEmpty_iff.mp he
      rw [e0] at hG
      have ef : f = 0 := hG
      subst ef
      exact whole fun k => hn k (Nat.zero_le _)
    · rw [StrLaws.partsBetween_eq]
      exact parts_free2 x _ 0 f hG hn
theorem app_crlf : ∀ {x n r r' : List Nat}, Free2 x → 13 ∉ n → x ++ 13 :: 10 :: r = n ++ 13 :: 10 :: r' → x = n ∧ r = r'
  | [], [], _, _, _, _, h => ⟨rfl, (List.cons.inj (List.cons.inj h).2).2⟩
  | [], c :: n, _, _, _, hn, h => absurd (List.cons.inj h).1 fun e => hn (e ▸ .head _)
  | [a], [], _, _, _, _, h => by
    have h2 := (List.cons.inj (List.cons.inj h).2).1
    lia
  | a :: b :: x, [], _, _, hx, _, h => by
    have h1 := (List.cons.inj h).1
    have h2 := (List.cons.inj (List.cons.inj h).2).1
    exact absurd ⟨by rw [h1]; rfl, by rw [h2]; rfl⟩ (hx 0)
  | a :: x, c :: n, _, _, hx, hn, h => by
    obtain ⟨h1, h2⟩ := List.cons.inj h
    obtain ⟨e1, e2⟩ := app_crlf hx.tail (fun q => hn (.tail _ q)) h2
    exact ⟨by rw [h1, e1], e2⟩
theorem join_crlf : ∀ {ns l : List (List Nat)}, l ≠ [] → (∀ p ∈ l, Free2 p) → (∀ n ∈ ns, 13 ∉ n) → joinL [13, 10] l = (ns.map fun n => n ++ [13, 10]).flatten → l = ns ++ [[]]
  | _, [], h, _, _, _ => absurd rfl h
  | [], [x], _, _, _, h => by rw [show x = [] from h]; rfl
  | [], x :: y :: l, _, _, _, h => by
    have h' : x ++ [13, 10] ++ joinL [13, 10] (y :: l) = [] := h
    simp at h'
  | n :: ns, [x], _, hx, _, h => by
    have h' : x = n ++ 13 :: 10 :: (ns.map fun n => n ++ [13, 10]).flatten := by
      have : x = (n ++ [13, 10]) ++ (ns.map fun n => n ++ [13, 10]).flatten := h
      rw [this, List.append_assoc]; rfl
    refine absurd ⟨?_, ?_⟩ (hx x (.head _) n.length)
    · rw [h']; simp
    · rw [h', List.getElem?_append_right (by lia)]; simp
  | n :: ns, x :: y :: l, _, hx, hn, h => by
    have h' : x ++ 13 :: 10 :: joinL [13, 10] (y :: l) = n ++ 13 :: 10 :: (ns.map fun n => n ++ [13, 10]).flatten := by
      have : x ++ [13, 10] ++ joinL [13, 10] (y :: l) = (n ++ [13, 10]) ++ (ns.map fun n => n ++ [13, 10]).flatten := h
      rw [List.append_assoc, List.append_assoc] at this; exact this
    obtain ⟨e1, e2⟩ := app_crlf (hx x (.head _)) (hn n (.head _)) h'
    rw [e1, join_crlf (by simp) (fun p hp => hx p (.tail _ hp)) (fun m hm => hn m (.tail _ hm)) e2]; rfl
theorem undot_dot (x : List Nat) : undotL (dotL x) = x := by
  unfold dotL
  split
  · rfl
  · rename_i h
    unfold undotL
    rw [if_neg h]
theorem read_quoted {x : Str} {r : List Str} (good : ∀ n ∈ r, GoodName n) (hx : cp x = quotedL (r.map cp)) : ((Txt.split x (Str.ofString "\r\n")).dropLast).map undotS = r := by
  have e0 : Str.ofString "\r\n" = ⟨#[13, 10]⟩ := rfl
  rw [e0]
  have hj := congrArg cp (StrLaws.join_split x ⟨#[13, 10]⟩)
  rw [cp_join, hx] at hj
  have hq : quotedL (r.map cp) = ((r.map fun n => dotL (cp n)).map fun n => n ++ [13, 10]).flatten := by
    unfold quotedL; rw [List.map_map, List.map_map]; rfl
  have e := join_crlf (l := (Txt.split x ⟨#[13, 10]⟩).map cp) (ns := r.map fun n => dotL (cp n)) (fun e => split_nonempty x ⟨#[13, 10]⟩ (List.map_eq_nil_iff.mp e)) (fun p hp => by
    obtain ⟨q, hq, rfl⟩ := List.mem_map.mp hp
    exact split_free2 x q hq) (fun n hn => by
    obtain ⟨m, hm, rfl⟩ := List.mem_map.mp hn
    intro h13
    have := Law.dot_sg (fun c hc => ((good m hm).sg c hc).1) 13 h13
    lia) (hj.trans hq)
  refine (List.map_inj_right (f := cp) fun a b e => str_ext e).mp ?_
  have e2 : (((Txt.split x ⟨#[13, 10]⟩).dropLast).map undotS).map cp = (((Txt.split x ⟨#[13, 10]⟩).map cp).dropLast).map undotL := by
    rw [← List.map_dropLast, List.map_map, List.map_map]; rfl
  rw [e2, e, List.dropLast_concat, List.map_map]
  exact List.map_congr_left fun n _ => undot_dot (cp n)
end
section
open PySem PySem.W PyProof.Rows
open Builtin Builtin.Str
set_option autoImplicit false
set_option linter.unusedVariables false
set_option maxRecDepth 10000
set_option maxHeartbeats 1000000
noncomputable def nearF (p : Nat × Nat × Nat) : Option Nat := if p.2.2 = p.2.1 + 1 then some p.1 else none
theorem rows_get {rs : List (List Str)} {i : Nat} (hi : i < rs.length) : (rs.map cpR)[i]'(by rw [List.length_map]; exact hi) = cpR (rowAt rs i) := rows_getElem hi
theorem near_take (rs : List (List Str)) : ∀ n, n ≤ rs.length → (pairsTo rs n).filterMap nearF = (Law.nearOf (rs.map cpR)).take (n - 1)
  | 0, _ => by simp [pairsTo]
  | 1, _ => by simp [pairsTo]
  | n + 2, h => by
    rw [pairsTo_succ, List.filterMap_append, near_take rs (n + 1) (by lia), List.range_succ, List.map_append, List.filterMap_append]
    have e1 : ((List.range n).map fun i => pairAt rs i (n + 1)).filterMap nearF = [] := by
      rw [List.filterMap_eq_nil_iff]
      intro p hp
      obtain ⟨i, hi, rfl⟩ := List.mem_map.mp hp
      have := List.mem_range.mp hi
      unfold nearF pairAt
      rw [if_neg (by show ¬ n + 1 = i + 1; lia)]
    have e2 : (([n].map fun i => pairAt rs i (n + 1)).filterMap nearF) = [Law.lcp (cpR (rowAt rs n)) (cpR (rowAt rs (n + 1)))] := by
      rw [List.map_cons, List.map_nil, List.filterMap_cons]
      unfold nearF pairAt
      rw [if_pos rfl]; rfl
    rw [e1, e2, List.nil_append]
    have hg := Law.nearOf_get (rs.map cpR) n (by rw [List.length_map]; lia)
    rw [rows_get (by lia), rows_get (by lia)] at hg
    show (Law.nearOf (rs.map cpR)).take n ++ _ = (Law.nearOf (rs.map cpR)).take (n + 1)
    rw [List.take_add_one, hg]; rfl
theorem near_all (rs : List (List Str)) : (pairsTo rs rs.length).filterMap nearF = Law.nearOf (rs.map cpR) := by
  rw [near_take rs _ (Nat.le_refl _), List.take_of_length_le]
  rw [Law.nearOf_length, List.length_map]; exact Nat.le_refl _
theorem mem_pairs {rs : List (List Str)} {n : Nat} {p : Nat × Nat × Nat} : p ∈ pairsTo rs n ↔ ∃ i j, i < j ∧ j < n ∧ p = pairAt rs i j := by
  unfold pairsTo
  rw [List.mem_flatMap]
  constructor
  · rintro ⟨j, hj, hp⟩
    obtain ⟨i, hi, rfl⟩ := List.mem_map.mp hp
    exact ⟨i, j, List.mem_range.mp hi, List.mem_range.mp hj, rfl⟩
  · rintro ⟨i, j, hij, hj, rfl⟩
    exact ⟨j, List.mem_range.mpr hj, List.mem_map.mpr ⟨i, List.mem_range.mpr hij, rfl⟩⟩
theorem pairs_min {R : List (List Str)} (hs : Law.Sorted (R.map cpR)) : ∀ p ∈ pairsTo R R.length, p.2.1 < p.2.2 ∧ p.2.2 ≤ (Law.nearOf (R.map cpR)).length ∧ IsMin p.1 (((Law.nearOf (R.map cpR)).drop p.2.1).take (p.2.2 - p.2.1)) := by
  intro p hp
  obtain ⟨i, j, hij, hj, rfl⟩ := mem_pairs.mp hp
  obtain ⟨d, rfl⟩ : ∃ d, j = i + d + 1 := ⟨j - i - 1, by lia⟩
  have h := Law.lcp_min hs i d (by rw [List.length_map]; lia)
  rw [rows_get (by lia), rows_get (by lia)] at h
  refine ⟨hij, ?_, ?_⟩
  · show i + d + 1 ≤ _
    rw [Law.nearOf_length, List.length_map]; lia
  · show IsMin (Law.lcp (cpR (rowAt R i)) (cpR (rowAt R (i + d + 1)))) (((Law.nearOf (R.map cpR)).drop i).take (i + d + 1 - i))
    rw [show i + d + 1 - i = d + 1 by lia]
    exact h
theorem net_near {R : List (List Str)} (hne : R ≠ []) (hs : Law.Sorted (R.map cpR)) {order : List (Nat × Nat × Nat)} (hp : order.Perm (pairsTo R R.length)) (hd : order.Pairwise fun a b => b.1 ≤ a.1) :
    Law.netF order (List.range R.length) 0 = (Law.nearOf (R.map cpR)).sum := by
  have hpos : 0 < R.length := List.length_pos_iff.mpr hne
  have hl : (Law.nearOf (R.map cpR)).length + 1 = R.length := by rw [Law.nearOf_length, List.length_map]; lia
  have := Law.net_sum (Law.nearOf (R.map cpR)) order hd (fun p hpo => ?_) (fun k hk => ?_)
  · rw [hl] at this; exact this
  · obtain ⟨h1, h2, h3⟩ := pairs_min hs p (hp.mem_iff.mp hpo)
    refine ⟨h1, by lia, fun k h4 h5 => h3.2 _ ?_⟩
    refine List.mem_of_getElem? (i := k - p.2.1) ?_
    rw [List.getElem?_take_of_lt (by lia), List.getElem?_drop, show p.2.1 + (k - p.2.1) = k by lia, List.getD_eq_getElem?_getD, List.getElem?_eq_getElem (by lia)]; rfl
  · refine hp.mem_iff.mpr (mem_pairs.mpr ⟨k, k + 1, Nat.lt_succ_self _, by lia, ?_⟩)
    have hg := Law.nearOf_get (R.map cpR) k (by rw [List.length_map]; lia)
    rw [rows_get (by lia), rows_get (by lia)] at hg
    rw [List.getD_eq_getElem?_getD, hg]; rfl
theorem cpR_inj {a b : List Str} (h : cpR a = cpR b) : a = b := (List.map_inj_right (f := cp) fun a b e => str_ext e).mp h
theorem cpR_take (r : List Str) (k : Nat) : cpR (r.take k) = (cpR r).take k := List.map_take
noncomputable def headsR (rs : List (List Str)) : List (List Str) := rs.flatMap fun r => (List.range r.length).map fun d => r.take (d + 1)
theorem heads_cp (rs : List (List Str)) : (headsR rs).map cpR = Law.heads (rs.map cpR) := by
  unfold headsR Law.heads Law.pre
  rw [List.map_flatMap, List.flatMap_map]
  congr 1
  funext r
  rw [List.map_map, show (cpR r).length = r.length by rw [cpR, List.length_map]]
  exact List.map_congr_left fun d _ => cpR_take r (d + 1)
theorem heads_join (rs : List (List Str)) : (headsR rs).map (Str.join (Str.ofString "/")) = rs.flatMap fun r => headsS r r.length := by
  unfold headsR headsS headS
  rw [List.map_flatMap]
  congr 1
  funext r
  rw [List.map_map]; rfl
theorem spared_near {rs R : List (List Str)} (good : ∀ r ∈ rs, ∀ x ∈ r, GoodName x) (hR : R.Perm rs) (hs : Law.Sorted (R.map cpR)) :
    (rs.map fun r => (r.length : Int)).sum - (Law.dcG (rs.flatMap fun r => headsS r r.length).reverse : Int) = ((Law.nearOf (R.map cpR)).sum : Int) := by
  have e1 : Law.dcG (rs.flatMap fun r => headsS r r.length).reverse = Law.dcG (headsR rs) := by
    rw [Law.dcG_eq (l' := rs.flatMap fun r => headsS r r.length) fun x => List.mem_reverse, ← heads_join]
    refine dcG_map_inj _ _ fun a ha b hb e => ?_
    have key : ∀ a ∈ headsR rs, a ≠ [] ∧ ∀ x ∈ cpR a, 47 ∉ x := fun a ha => by
      obtain ⟨r, hr, h⟩ := List.mem_flatMap.mp ha
      obtain ⟨d, hd, rfl⟩ := List.mem_map.mp h
      have hd' := List.mem_range.mp hd
      refine ⟨fun e => ?_, fun x hx => ?_⟩
      · have h0 : (r.take (d + 1)).length = 0 := by rw [e]; rfl
        rw [List.length_take] at h0; lia
      · obtain ⟨n, hn, rfl⟩ := List.mem_map.mp hx
        intro h47
        exact ((good r hr n (List.mem_of_mem_take hn)).sg 47 h47).2 rfl
    obtain ⟨a1, a2⟩ := key a ha
    obtain ⟨b1, b2⟩ := key b hb
    have := congrArg cp e
    rw [cp_join, cp_join, joinL_law, joinL_law] at this
    exact cpR_inj (Law.join_inj (c := 47) (fun e => a1 (List.map_eq_nil_iff.mp e)) (fun e => b1 (List.map_eq_nil_iff.mp e)) a2 b2 this)
  have e2 : Law.dcG (headsR rs) = Law.dcG (Law.heads (R.map cpR)) := by
    rw [Law.heads_perm (hR.map cpR), ← heads_cp]
    exact (dcG_map_inj _ _ fun a _ b _ e => cpR_inj e).symm
  have e3 := Law.heads_count (R.map cpR) hs
  have e4 : (rs.map fun r => (r.length : Int)).sum = (((R.map cpR).map List.length).sum : Int) := by
    have p : ((R.map cpR).map List.length).Perm (rs.map List.length) := by
      rw [List.map_map]
      refine (hR.map _).trans (List.Perm.of_eq (List.map_congr_left fun r _ => ?_))
      show (cpR r).length = _; rw [cpR, List.length_map]
    rw [p.sum_nat]
    clear p e1 e2 e3 hR good
    induction rs with
    | nil => rfl
    | cons r rs ih => rw [List.map_cons, List.sum_cons, ih, List.map_cons, List.sum_cons]; lia
  rw [e1, e2, e4, ← e3]
  lia
end
section
open PySem PySem.W PyProof.Rows
open Builtin Builtin.Str
set_option autoImplicit false
set_option linter.unusedVariables false
set_option maxRecDepth 100000
set_option maxHeartbeats 1000000
section
variable {prog : Program} {w : World} {mb : Str → Option Value} {A : Around} {E : Value → Shared → Prop} {s : Shared} {env : Env}
variable {c : Cx} {P : Part} {L : Addr} {m : Str → Option Value} {M : List (Addr × Obj)} {Q : Value → Shared → Prop}
theorem oneLt_lists {l b : Addr} {vs us : List Value} {n n2 : Nat} {r : Bool} {Q : Bool → Shared → Prop} (hl : s.heap.get? l = some (lst vs.toArray n)) (hb : s.heap.get? b = some (lst us.toArray n2)) (hu : A.units < cLine)
    (hv : ∀ A', LtV A' s vs us r) (h : Q r s) : wpAny (model prog w) A (oneLt' true (.ref l) (.ref b)) Q E s := by
  rw [oneLt'_eq]
  simp only [if_true]
  refine wpAny_bind (wpAny_cRoomFor hu ?_)
  refine wpAny_bind (wpAny_callSpecialIfBound?_slot (T := "list") ⟨_, hl, rfl⟩ PySem.F.slot_list_lt (call_meets PySem.F.slot_list_lt ⟨_, hl, rfl⟩ PySem.F.entry_list_lt (PySem.F.args_list_lt_2 _ _) (list_lt l b vs.toArray us.toArray n n2 r) ⟨hl, hb, hv _, ?_⟩))
  exact wpAny_truthy_bool h
theorem ltRows_law' (a b : List (List Nat)) : ltRows a b = Law.ltRows a b := ltRows_law a b
theorem z_sortedR {v : Value} {rows : List (List Str)} (F : Fm c P L m M s) (hA : Rm A 4) (hr : Rep P v (.list (rowsD rows))) (h2 : 2 ≤ rows.length) (h64 : rows.length < 64)
    (h : ∀ u (R : List (List Str)) P' s', R.Perm rows → Law.Sorted (R.map cpR) → P.le P' → Rep P' u (.list (rowsD R)) → Fm c P' L m M s' → Q u s') : wpAny (model prog w) A (call (.builtin "sorted") [v]) Q E s := by
  obtain ⟨a, vs, n, rfl, ha, hra⟩ := hr.list_inv
  have hlen : vs.length = rows.length := by rw [hra.length]; simp [rowsD]
  have hn0 : 0 < vs.length := by lia
  have getv : ∀ i, i < vs.length → ∃ r a' l k, rows[i]? = some r ∧ vs.getD i Value.none = .ref a' ∧ P a' = some (lst (strValues l).toArray k) ∧ l.map (·.1) = r := fun i hi => by
    obtain ⟨r, a', l, k, x1, x2, x3, x4⟩ := row_at hra (List.getElem?_eq_getElem hi)
    exact ⟨r, a', l, k, x1, by rw [List.getD_eq_getElem?_getD, List.getElem?_eq_getElem hi]; exact x2, x3, x4⟩
  refine kas_sorted (T := .type "list") F.fr (news_all _ _) (heap_list F ha) (by lia) (by lia) (fun h₁ F₁ N₁ v hv => ?_) rfl fun D e1 h₁ F₁ N₁ hD => ?_
  · obtain ⟨i, hi⟩ := List.getElem?_of_mem hv
    obtain ⟨r, a', l, k, x1, rfl, x3, x4⟩ := row_at hra hi
    intro A₁ Q₁ E₁ s₁ keep hq
    have h0 : h₁.get? a' = some (lst (strValues l).toArray k) := (N₁ _ (mem_allBut.mpr ⟨fun e => (by rw [e, F.offL] at x3; cases x3), F.on _ _ x3⟩)).1
    exact wpAny_typeOf (T := "list") ⟨_, keep _ _ h0, rfl⟩ hq
  · have hDN := N₁ _ (.head _)
    have hdo : s.heap.get? D = none := by
      cases e : s.heap.get? D with
      | none => rfl
      | some o => exact absurd (hD _ (mem_allBut.mpr ⟨hDN.2.1, e⟩)) (Nat.lt_irrefl _)
    have keep : ∀ b o, P b = some o → h₁.get? b = some o := fun b o e => (N₁ _ (.tail _ (mem_allBut.mpr ⟨fun q => (by rw [q, F.offL] at e; cases e), F.on _ _ e⟩))).1
    let K : Nat → Nat := fun i => Law.rank (rows.map cpR) (cpR (rowAt rows i))
    have memr : ∀ i, i < rows.length → cpR (rowAt rows i) ∈ rows.map cpR := fun i hi => List.mem_map_of_mem (by
      unfold rowAt; rw [List.getD_eq_getElem?_getD, List.getElem?_eq_getElem hi]; exact List.getElem_mem _)
    refine Law.ask_run (lt := Law.ltK K) (R := fun _ => True) (fun i j C hi hj hC => ?_) _ (Law.sort_ask hn0) ?_
    · obtain ⟨r1, a1, l1, k1, x1, x2, x3, x4⟩ := getv i hi
      obtain ⟨r2, a2, l2, k2, y1, y2, y3, y4⟩ := getv j hj
      unfold kas_ask
      rw [x2, y2, keyLt'_oneType]
      refine oneLt_lists (keep _ _ x3) (keep _ _ y3) (hA.in1.in1).cl (fun A' => LtV.strs l1 l2) ?_
      have e1 : cpR (rowAt rows i) = l1.map fun p => cp p.1 := by unfold rowAt; rw [List.getD_eq_getElem?_getD, x1]; subst x4; simp [cpR]
      have e2 : cpR (rowAt rows j) = l2.map fun p => cp p.1 := by unfold rowAt; rw [List.getD_eq_getElem?_getD, y1]; subst y4; simp [cpR]
      have := Law.rank_iff (b := cpR (rowAt rows j)) (memr i (by lia))
      rw [← e1, ← e2, ltRows_law', this]
      exact hC
    · obtain ⟨hp, hu⟩ := Law.sort_run (K := K) vs.length (by lia)
      generalize Law.runT (Law.ltK K) (kas_sort vs.length) = p at hp hu
      have hps : p.size = vs.length := by have := hp.size_eq; simpa using this
      have hpl : p.toList.Perm (List.range vs.length) := by have := Array.perm_iff_toList_perm.mp hp; simpa using this
      have hlt : ∀ i ∈ p.toList, i < vs.length := fun i hi => List.mem_range.mp (hpl.mem_iff.mp hi)
      refine KasFin.intro F₁ N₁ (.head fun q hq => Nat.ne_of_lt (hD q hq)) fun h₂ cc F₂ N₂ => ?_
      obtain ⟨F₃, le₃⟩ := F.of_fr1 (tk := s.toks) F₂ N₂ hD hDN.2.1 hdo
      refine h _ (p.toList.map (rowAt rows)) _ _ ?_ ?_ le₃ (.list (n := cc) Part.set_self ?_) F₃
      · have := hpl.map (rowAt rows)
        refine this.trans (List.Perm.of_eq ?_)
        refine List.ext_getElem (by simp [hlen]) fun i h1 h2 => ?_
        simp [rowAt, List.getD_eq_getElem?_getD, List.getElem?_eq_getElem h2]
      · refine List.pairwise_iff_getElem.mpr fun i j hi hj hij => ?_
        simp only [List.length_map, Array.length_toList] at hi hj
        simp only [List.getElem_map, Array.getElem_toList]
        have hk := hu i j (by lia) (by lia)
        unfold Law.kp at hk
        rw [Array.getD_eq_getD_getElem?, Array.getD_eq_getD_getElem?, Array.getElem?_eq_getElem hi, Array.getElem?_eq_getElem hj] at hk
        exact Law.rank_le_iff (memr _ (by have := hlt p[j] (by simp); lia)) hk
      · have key : ∀ q : List Nat, (∀ i ∈ q, i < vs.length) → RepAll (P.set D (listOf (List.toArray (p.toList.map fun i => vs.getD i Value.none)) cc)) (q.map fun i => vs.getD i Value.none) (rowsD (q.map (rowAt rows))) := by
          intro q
          induction q with
          | nil => intro _; exact .nil
          | cons i q ih =>
            intro hq
            obtain ⟨r1, a1, l1, k1, x1, x2, x3, x4⟩ := getv i (hq i (.head _))
            have e1 : rowAt rows i = r1 := by unfold rowAt; rw [List.getD_eq_getElem?_getD, x1]; rfl
            rw [List.map_cons, x2, List.map_cons, e1]
            exact .cons ((rep_row x3 x4).mono le₃) (ih fun k hk => hq k (.tail _ hk))
        exact key _ hlt
end
end
section
open PySem PySem.W PyProof.Rows
open Builtin Builtin.Str
set_option autoImplicit false
set_option linter.unusedVariables false
set_option maxRecDepth 100000
set_option maxHeartbeats 4000000
noncomputable def unStr : PyData → Option Str
  | .str x => some x
  | _ => none
theorem unStr_map (r : List Str) : (r.map PyData.str).filterMap unStr = r := by
  induction r with
  | nil => rfl
  | cons x r ih => rw [List.map_cons, List.filterMap_cons]; show x :: _ = _; rw [ih]
noncomputable def letterD : PyData → Option PyData
  | .list ds => some (.str (LQ (ds.filterMap unStr)))
  | _ => none
theorem letterD_map (rs : List (List Str)) : (rowsD rs).filterMap letterD = (rs.map LQ).map .str := by
  unfold rowsD
  induction rs with
  | nil => rfl
  | cons r rs ih =>
    rw [List.map_cons, List.filterMap_cons]
    show PyData.str (LQ ((r.map PyData.str).filterMap unStr)) :: _ = _
    rw [unStr_map, ih]; rfl
noncomputable def endS (e : Str) (n : Str) : Str := n ++ e
theorem pop_str {g : List PyData} {ts : List Str} {d : PyData} {g' : List PyData} (hg : g.Perm (ts.map .str)) (hp : (d :: g').Perm g) (hb : ∀ b ∈ g', Le oStr d b) :
    ∃ t ts', d = .str t ∧ ts.Perm (t :: ts') ∧ g'.Perm (ts'.map .str) ∧ ∀ b ∈ ts', ¬ cp b < cp t := by
  have hd : d ∈ ts.map PyData.str := (hp.trans hg).mem_iff.mp (.head _)
  obtain ⟨t, ht, rfl⟩ := List.mem_map.mp hd
  have h1 := List.perm_cons_erase ht
  have h2 : (PyData.str t :: g').Perm (PyData.str t :: (ts.erase t).map PyData.str) := (hp.trans hg).trans (h1.map PyData.str)
  have h3 := h2.cons_inv
  refine ⟨t, ts.erase t, rfl, h1, h3, fun b hb' => ?_⟩
  have h4 := hb _ (h3.mem_iff.mpr (List.mem_map_of_mem hb'))
  unfold Le at h4
  exact of_decide_eq_false h4
theorem ok_of {x : Str} (h : ∀ c ∈ cp x, c < 1114112) : PyData.strOk x = true := by
  unfold PyData.strOk
  rw [Array.all_eq_true]
  intro i hi
  rw [decide_eq_true_eq]
  exact h _ (by unfold cp; simp)
theorem LQ_ok {r : List Str} (h : ∀ x ∈ r, GoodName x) : PyData.strOk (LQ r) = true := ok_of fun c hc => by
  rw [cp_LQ] at hc
  unfold quotedL at hc
  rw [List.map_map] at hc
  obtain ⟨l, hl, hc⟩ := List.mem_flatten.mp hc
  obtain ⟨x, hx, rfl⟩ := List.mem_map.mp hl
  have hh := (h x hx).hi
  rcases List.mem_append.mp hc with hc | hc
  · unfold dotL at hc
    split at hc
    · rcases List.mem_cons.mp hc with rfl | hc
      · decide
      · exact hh c hc
    · exact hh c hc
  · simp only [List.mem_cons, List.mem_nil_iff, or_false] at hc
    rcases hc with rfl | rfl <;> decide
/-- the path of a row -/
noncomputable def PQ (r : List Str) : Str := ⟨(pathL (r.map cp)).toArray⟩
theorem cp_PQ (r : List Str) : cp (PQ r) = pathL (r.map cp) := rfl
theorem joinL_hi : ∀ {ns : List (List Nat)}, (∀ n ∈ ns, ∀ c ∈ n, c < 1114112) → ∀ c ∈ joinL [47] ns, c < 1114112
  | [], _, c, hc => nomatch hc
  | [x], h, c, hc => h x (.head _) c hc
  | x :: y :: l, h, c, hc => by
    have hc' : c ∈ x ++ [47] ++ joinL [47] (y :: l) := hc
    rcases List.mem_append.mp hc' with hc | hc
    · rcases List.mem_append.mp hc with hc | hc
      · exact h x (.head _) c hc
      · rw [List.mem_singleton.mp hc]; decide
    · exact joinL_hi (fun n hn => h n (.tail _ hn)) c hc
theorem PQ_ok {r : List Str} (h : ∀ x ∈ r, GoodName x) : PyData.strOk (PQ r) = true := ok_of fun c hc => by
  rw [cp_PQ] at hc
  rcases List.mem_cons.mp hc with rfl | hc
  · decide
  · refine joinL_hi (fun n hn => ?_) c hc
    obtain ⟨x, hx, rfl⟩ := List.mem_map.mp hn
    exact (h x hx).hi
noncomputable def chainD : PyData → Option PyData
  | .str x => some (.str (PQ (((Txt.split x (Str.ofString "\r\n")).dropLast).map undotS)))
  | _ => none
theorem chainD_map {R : List (List Str)} (good : ∀ r ∈ R, ∀ x ∈ r, GoodName x) : ((R.map LQ).map PyData.str).filterMap chainD = (R.map PQ).map .str := by
  induction R with
  | nil => rfl
  | cons r R ih =>
    rw [List.map_cons, List.map_cons, List.filterMap_cons]
    show PyData.str (PQ (((Txt.split (LQ r) (Str.ofString "\r\n")).dropLast).map undotS)) :: _ = _
    rw [read_quoted (good r (.head _)) (cp_LQ r), ih fun q hq => good q (.tail _ hq)]; rfl
noncomputable def pathD : PyData → Option PyData
  | .list ds => some (.str (PQ (ds.filterMap unStr)))
  | _ => none
theorem pathD_map (rs : List (List Str)) : (rowsD rs).filterMap pathD = (rs.map PQ).map .str := by
  unfold rowsD
  induction rs with
  | nil => rfl
  | cons r rs ih =>
    rw [List.map_cons, List.filterMap_cons]
    show PyData.str (PQ ((r.map PyData.str).filterMap unStr)) :: _ = _
    rw [unStr_map, ih]; rfl
theorem Chain.mono {P P' : Part} {v1 v2 : Value} {rs : List (List Str)} {a1 a2 : Addr} {l : List (Str × Tok)} {n1 n2 : Nat} {us : List Value} (h : Chain P v1 v2 rs a1 a2 l n1 n2 us) (le : P.le P') : Chain P' v1 v2 rs a1 a2 l n1 n2 us :=
  { h with p1 := le _ _ h.p1, p2 := le _ _ h.p2, hr := h.hr.mono le }
theorem sum_cast : ∀ l : List Nat, (l.map fun n : Nat => (n : Int)).sum = (l.sum : Int)
  | [] => rfl
  | a :: l => by rw [List.map_cons, List.sum_cons, sum_cast l, List.sum_cons]; lia
theorem flat_le {k : Nat} : ∀ {ls : List (List Nat)}, (∀ l ∈ ls, l.length ≤ k) → ls.flatten.length ≤ ls.length * k
  | [], _ => Nat.zero_le _
  | l :: ls, h => by
    have h1 := h l (.head _)
    have h2 := flat_le fun m hm => h m (.tail _ hm)
    rw [List.flatten_cons, List.length_append, List.length_cons, Nat.add_mul]; lia
section
variable {prog : Program} {w : World} {mb : Str → Option Value} {A : Around} {E : Value → Shared → Prop} {s : Shared} {P : Part} {Q : Value → Shared → Prop}
inductive LtJ (rs : List (List Str)) (D : Addr) (i : Nat) (P' : Part) (zs : List Value) (MX' : List (Addr × Obj)) : Prop
  | mk : ∀ o' vs' g' (ts done : List Str), MX' = [(D, o')] → LO o' vs' → RepAll P' vs' g' → g'.Perm (ts.map .str) → HeapFrom oStr 0 g' → (done ++ ts).Perm (rs.map LQ) → done.Pairwise (fun a b => ¬ cp b < cp a) → (∀ a ∈ done, ∀ b ∈ ts, ¬ cp b < cp a) → RepAll P' zs (done.map .str) → done.length = i → LtJ rs D i P' zs MX'
theorem law_spec {v : Value} {ns : List Int} (X : Bs w mb P) (hP : P.on s.heap) (hA : Rm A 13) (hr : Rep P v (.list (ns.map .int))) (hn : ns.length ≤ 100000)
    (h : ∀ P' s', Ret ⟨s, s.heap.get?, P⟩ P' s' → Q (.bool true) s') :
    wpAny (model prog w) A (call (.ref 268) [v]) Q E s := by
  have hsl : sizeLine = 16777216 := by decide
  refine enterC (binds := [(Str.ofString "script", v)]) X (fun _ _ e => e) hP hA.lt (a := 268) rfl (by kernel_rfl) rfl rfl rfl (by intro L; rfl) rfl rfl rfl ?_
  intro L s₁ E' env F hcell
  have hA' : Rm (A.deeper env) 12 := hA.deeper
  obtain ⟨o1, ho1, hd1, hL1, hP1, hO1⟩ := hcell (Str.ofString "end") (L + 1) rfl
  obtain ⟨o2, ho2, hd2, hL2, hP2, hO2⟩ := hcell (Str.ofString "todo") (L + 2) rfl
  clear hcell
  have F₁ := F.learnM ho2 hP2 hO2 (Nat.ne_of_gt hL2) (fun p hp => nomatch hp)
  have F₂ := F₁.learnM ho1 hP1 hO1 (Nat.ne_of_gt hL1) (fun p hp => by rw [List.mem_singleton.mp hp]; exact Nat.ne_of_gt (Nat.lt_succ_self _))
  have hd1' : o1.data = .cell none := hd1
  have hd2' : o2.data = .cell none := hd2
  clear hd1 hd2 F F₁
  repeat kspl_open e
  refine ⟨F₂.K X, law_paths_spec (X.mono F₂.le) F₂.on (hA'.mono (by decide)) (hr.mono F₂.le) hn fun vp P₃ s₃ rs R₃ hrp h4 h9 good short => ?_⟩
  have F₃ := F₂.call R₃
  repeat kspl_open e
  kspl_open nt
  intro vt P₄ s₄ hle₄ hrt F₄
  obtain ⟨ta, tvs, tn, rfl, hta, htr⟩ := hrt.tuple_inv
  repeat kspl_open e
  refine z_suml (by assumption) hA'.handled (hr.mono (Part.le_trans R₃.le hle₄)) fun t₅ s₅ F₅ => ?_
  repeat kspl_open e
  rename_i F₆
  obtain ⟨k, hk, hk3⟩ : ∃ k : Nat, ns.sum % 3 = (k : Int) ∧ k < 3 := ⟨(ns.sum % 3).toNat, by lia, by lia⟩
  rw [hk]
  have hend : ∃ e : Str, ([.str (Str.ofString "\n"), .str (Str.ofString "\r"), .str (Str.ofString "\r\n")] : List PyData)[k]? = some (.str e) ∧ (cp e = [10] ∨ cp e = [13] ∨ cp e = [13, 10]) := by
    obtain rfl | rfl | rfl : k = 0 ∨ k = 1 ∨ k = 2 := by lia
    · exact ⟨_, rfl, .inl rfl⟩
    · exact ⟨_, rfl, .inr (.inl rfl)⟩
    · exact ⟨_, rfl, .inr (.inr rfl)⟩
  obtain ⟨e, he, hend⟩ := hend
  obtain ⟨ev, hev, hre⟩ := htr.get he
  obtain ⟨te, rfl⟩ := hre.str_inv
  refine z_itemT (i := k) (heap_tup (by assumption) hta) rfl (by have : tvs.length = 3 := htr.length; lia) hev ?_ rfl
  refine stC (by assumption) rfl rfl rfl hd1' fun s₇ o1' hc1 F₇ => ?_
  have G₇ := F₇.freeze
  have le₇ := F₇.le_freeze
  have p1 : (P₄.set (L + 1) o1') (L + 1) = some o1' := Part.set_self
  generalize P₄.set (L + 1) o1' = P₇ at G₇ le₇ p1
  have leP : P.le P₇ := Part.le_trans R₃.le (Part.le_trans hle₄ le₇)
  have hrp₇ := hrp.mono (Part.le_trans hle₄ le₇)
  clear F₂ F₃ F₄ F₅ F₆ F₇ hrt hta htr hev hre he hrp
  have hrsl : (rowsD rs).length ≤ sizeLine := by simp [rowsD]; lia
  first
    | kspl_open xcomp
    | (kspl_open asg
       kspl_open comp)
  repeat kspl_open e
  refine comp_list (g := letterD) rfl rfl (fun _ => rfl) hA'.handled hrsl G₇ hrp₇ ?_ ?_
  · intro C₂ c₂ v₂ d P₂ m₂ M₂ s₉ E₉ hd hle₂ hrd hc₂ hO₂ F₉ hm₂
    obtain ⟨r, mr, rfl⟩ := List.mem_map.mp hd
    have hrs := short r mr
    have hgr := good r mr
    have X₂ : Bs w mb c₂.P₀ := by rw [hc₂]; exact X.mono leP
    refine tests_nil ?_
    rw [if_pos rfl]
    repeat kspl_open e
    kspl_open gm
    repeat kspl_open e
    kspl_open comp
    repeat kspl_open e
    refine comp_list (g := onStr (endS e)) rfl rfl (fun _ => rfl) hA'.handled (by rw [List.length_map]; lia) (by assumption) hrd ?_ (done_noneR ?_)
    · intro C₃ c₃ v₃ d₃ P₁₀ m₁₀ M₁₀ s₁₀ E₁₀ hd₁₀ hle₁₀ hrd₁₀ hc₁₀ hO₁₀ F₁₀ hm₁₀
      obtain ⟨x, mx, rfl⟩ := List.mem_map.mp hd₁₀
      obtain ⟨tx, rfl⟩ := hrd₁₀.str_inv
      refine tests_nil ?_
      rw [if_pos rfl]
      repeat kspl_open e
      refine ldC rfl rfl rfl ⟨o1', Fm.on (by assumption) _ _ (hle₁₀ _ _ (hle₂ _ _ p1)), hc1⟩ ?_ rfl
      have hxl := (hgr x mx).len
      have hxl2 := cp_length x
      have hel : e.length ≤ 2 := by rw [← cp_length]; rcases hend with q | q | q <;> rw [q] <;> decide
      refine z_adds (by assumption) (by have : (cp x).length ≤ 3 := hxl; lia) fun t₁₁ s₁₁ F₁₁ => ⟨_, _, _, Part.le_refl _, F₁₁, .str _ _, rfl⟩
    · intro v₁₂ P₁₂ s₁₂ hle₁₂ hr₁₂ F₁₂
      rw [filterMap_onStr] at hr₁₂
      repeat kspl_open e
      refine z_join F₁₂ hr₁₂ (join_ok3 (by rw [List.length_map]; lia) fun y hy => ?_) fun t₁₃ s₁₃ F₁₃ => ?_
      · obtain ⟨x, mx, rfl⟩ := List.mem_map.mp hy
        have hxl : (cp x).length ≤ 3 := (hgr x mx).len
        have hel : (cp e).length ≤ 2 := by rcases hend with q | q | q <;> rw [q] <;> decide
        rw [← cp_length]; unfold endS; rw [cp_append, List.length_append]; lia
      repeat kspl_open e
      have hbody : cp (Str.join (Str.ofString "") (r.map (endS e))) = ((r.map cp).map fun n => n ++ cp e).flatten := by
        rw [cp_join, show cp (Str.ofString "") = [] from rfl, joinL_nil, List.map_map, List.map_map]
        congr 1
        exact List.map_congr_left fun x _ => cp_append x e
      have hbl : (Str.join (Str.ofString "") (r.map (endS e))).length ≤ 5000 := by
        rw [← cp_length, hbody]
        have hel : (cp e).length ≤ 2 := by rcases hend with q | q | q <;> rw [q] <;> decide
        have := flat_le (k := 5) (ls := (r.map cp).map fun n => n ++ cp e) fun l hl => by
          obtain ⟨n, hn, rfl⟩ := List.mem_map.mp hl
          obtain ⟨x, mx, rfl⟩ := List.mem_map.mp hn
          have hxl : (cp x).length ≤ 3 := (hgr x mx).len
          rw [List.length_append]; lia
        rw [List.length_map, List.length_map] at this
        lia
      refine ⟨Fm.K F₁₃ X₂, quotedata_spec (X₂.mono F₁₃.le) F₁₃.on (hA'.mono (by decide)) hbl fun y ty P₁₄ s₁₄ R₁₄ hy => ⟨P₁₄, _, _, Part.le_trans hle₁₂ R₁₄.le, F₁₃.call R₁₄, .str _ _, ?_⟩⟩
      show some (PyData.str (LQ ((r.map PyData.str).filterMap unStr))) = some (PyData.str y)
      rw [unStr_map]
      congr 2
      refine str_ext ?_
      rw [cp_LQ, hy, hbody]
      refine (body_quoted hend fun n hn => ?_).symm
      obtain ⟨x, mx, rfl⟩ := List.mem_map.mp hn
      exact ⟨(hgr x mx).ne, fun c hc => ((hgr x mx).sg c hc).1⟩
  · intro D C oC mC P' ys kk s' hle hys F' hn'
    rw [letterD_map] at hys
    refine done_none F' hn' fun s₉ F₉ => ?_
    refine stC F₉.swap rfl rfl rfl hd2' fun s₁₀ o2' hc2 F₁₀ => ?_
    have G₁₀ := F₁₀.freeze
    have le₁₀ := Part.le_trans hle F₁₀.le_freeze
    have p2 : (P'.set (L + 2) o2') (L + 2) = some o2' := Part.set_self
    have hys := hys.mono F₁₀.le_freeze
    generalize P'.set (L + 2) o2' = P₁₀ at G₁₀ le₁₀ p2 hys
    clear F' hn' F₉ F₁₀ G₇
    have hyl : ys.length = rs.length := by rw [hys.length, List.length_map, List.length_map]
    repeat kspl_open e
    refine ldC rfl rfl rfl ⟨o2', Fm.on (by assumption) _ _ p2, hc2⟩ ?_ rfl
    repeat kspl_open e
    have allS : ∀ {g : List PyData} {ts : List Str}, g.Perm (ts.map .str) → AllD oStr g := fun hp x hx => by
      obtain ⟨p, _, rfl⟩ := List.mem_map.mp (hp.mem_iff.mp hx)
      exact ⟨_, rfl⟩
    refine ⟨G₁₀.K X, heapify_spec (ltRule_str prog w) (X.mono G₁₀.le) G₁₀.on (hA'.mono (by decide)) (mu0 G₁₀) (G₁₀.off _ (.head _)).2.1 ⟨_, rfl⟩ hys (allS (.refl _)) (by lia) fun P₁₁ s₁₁ o₁₁ vs₁₁ g₁₁ hle₁₁ R₁₁ ho₁₁ hP₁₁ hl₁₁ hr₁₁ hp₁₁ hh₁₁ => ⟨rfl, ?_⟩⟩
    have F₁₁ := G₁₀.callM R₁₁ ho₁₁ hP₁₁
    have le₁₁ : P₇.le P₁₁ := Part.le_trans le₁₀ hle₁₁
    have q2 := hle₁₁ _ _ p2
    obtain ⟨pa, pvs, pn, rfl, hpa, hpr⟩ := (hrp₇.mono le₁₁).list_inv
    have hpl : pvs.length = rs.length := by rw [hpr.length, rowsD, List.length_map]
    kspl_open xcomp
    repeat kspl_open e
    have hpl' := heap_list F₁₁ hpa
    refine wpAny_pyIter_list hpl' ?_
    have W := Walks.list (prog := prog) (w := w) (A := A.deeper env) hA'.handled s₁₁.heap.objs.size pa (new_ne (F₁₁.on _ _ hpa)) pvs.toArray
    rw [List.size_toArray] at W
    have F₁₂ := F₁₁.allocM { cls := .type "list_iterator", data := .fields #[.ref pa, rawInt 0] }
    refine comp_at (acc₀ := .none) (MX := [(D, o₁₁)]) (M := []) (no_cell rfl) rfl W (fun i h hst => ?_) (fun b hb => ?_) (by first | lia | (rw [List.size_toArray]; lia)) (fun _ => rfl)
      (LtJ rs D)
      F₁₂ ⟨⟨_, Heap.get?_push_size _ rfl, rfl, rfl⟩, hpl'.at fun o e => Heap.get?_push_of_some _ e⟩ ⟨o₁₁, vs₁₁, g₁₁, rs.map LQ, [], rfl, hl₁₁, hr₁₁, hp₁₁, hh₁₁, .refl _, .nil, (fun a ha => nomatch ha), .nil, rfl⟩ (fun _ _ _ _ h => by obtain ⟨o', vs', g', ts, done, e, _⟩ := h; rw [e]; rfl) ?_ ?_
    · obtain ⟨⟨o, ho, _⟩, _⟩ := hst; exact ⟨o, ho⟩
    · simp only [List.mem_cons, List.mem_nil_iff, or_false] at hb
      rcases hb with rfl | rfl
      · exact .inl rfl
      · exact .inr ⟨_, hpa⟩
    · rintro C i v₁₃ P₁₃ m₁₃ MX' zs k₁₃ D₁₃ oI s₁₃ E₁₃ hi hv₁₃ hle₁₃ ⟨o', vs', g', ts, done, rfl, hl', hr', hg', hh', hperm, hds, hdl, hzs, hdn⟩ F₁₃
      refine as_name F₁₃ rfl rfl rfl fun s₁₄ F₁₄ => ?_
      refine tests_nil ?_
      rw [if_pos rfl]
      have X₁₄ : Bs w mb P₁₁ := X.mono (Part.le_trans leP le₁₁)
      repeat kspl_open e
      refine ldC rfl rfl rfl ⟨o2', Fm.on (by assumption) _ _ (hle₁₃ _ _ q2), hc2⟩ ?_ rfl
      repeat kspl_open e
      have tsl : done.length + ts.length = rs.length := by have := hperm.length_eq; rw [List.length_append, List.length_map] at this; exact this
      have hvl' : vs'.length = ts.length := by rw [hr'.length, hg'.length_eq, List.length_map]
      have K₁₄ := F₁₄.perm (M' := [(D, o'), (D₁₃, lst zs.toArray k₁₃), (s₁₁.heap.objs.size, oI)]) ((List.Perm.swap _ _ _).trans ((List.Perm.swap _ _ _).cons _))
      have hin : i < rs.length := by first | lia | (rw [List.size_toArray] at hi; lia)
      refine ⟨K₁₄.K X₁₄, heappop_spec (ltRule_str prog w) (X₁₄.mono K₁₄.le) K₁₄.on (hA'.mono (by decide)) (mu0 K₁₄) (K₁₄.off _ (.head _)).2.1 hl' hr' (allS hg') (by lia) (fun e => by rw [e] at hg'; have := hg'.length_eq; rw [List.length_map] at this; simp at this; lia) hh' fun vp d s₁₅ o₁₅ vs₁₅ g₁₅ R₁₅ ho₁₅ hl₁₅ hr₁₅ hrd hp₁₅ hb₁₅ hh₁₅ => ?_⟩
      have K₁₅ := K₁₄.callM R₁₅ ho₁₅ (K₁₄.off _ (.head _)).2.1
      obtain ⟨t, ts₁₅, rfl, hts, hg₁₅, hmin⟩ := pop_str hg' hp₁₅ hb₁₅
      have F₁₅ := K₁₅.perm (M' := [(D₁₃, lst zs.toArray k₁₃), (s₁₁.heap.objs.size, oI), (D, o₁₅)]) (((List.Perm.swap _ _ _).cons _).trans (List.Perm.swap _ _ _))
      refine ⟨P₁₃, _, [(D, o₁₅)], Part.le_refl _, F₁₅, o₁₅, vs₁₅, g₁₅, ts₁₅, done ++ [t], rfl, hl₁₅, hr₁₅, hg₁₅, hh₁₅, ?_, ?_, ?_, ?_, by rw [List.length_append, hdn]; rfl⟩
      · rw [List.append_assoc]
        exact (hts.symm.append_left done).trans hperm
      · exact List.pairwise_append.mpr ⟨hds, List.pairwise_singleton _ _, fun a ha b hb => by
          rw [List.mem_singleton.mp hb]; exact hdl a ha t (hts.mem_iff.mpr (.head _))⟩
      · intro a ha b hb
        rcases List.mem_append.mp ha with ha | ha
        · exact hdl a ha b (hts.mem_iff.mpr (.tail _ hb))
        · rw [List.mem_singleton.mp ha]; exact hmin b hb
      · rw [List.map_append]
        exact hzs.append (.one hrd)
    · rintro D₁₃ C oC mC P₁₃ MX' zs k₁₃ s₁₃ hle₁₃ ⟨o', vs', g', ts, done, rfl, hl', hr', hg', hh', hperm, hds, hdl, hzs, hdn⟩ F₁₃ hn₁₃
      have tsl : done.length + ts.length = rs.length := by have := hperm.length_eq; rw [List.length_append, List.length_map] at this; exact this
      have ts0 : ts = [] := List.length_eq_zero_iff.mp (by first | lia | (rw [List.size_toArray] at hdn; lia))
      subst ts0
      rw [List.append_nil] at hperm
      refine done_use F₁₃ hn₁₃ rfl rfl rfl fun s₁₄ F₁₄ => ?_
      have G₁₄ := F₁₄.freeze
      have hrc : Rep (P₁₃.set D₁₃ (lst zs.toArray k₁₃)) (.ref D₁₃) (.list (done.map .str)) := .list Part.set_self (hzs.mono F₁₄.le_freeze)
      have le₁₄ := Part.le_trans hle₁₃ F₁₄.le_freeze
      generalize P₁₃.set D₁₃ (lst zs.toArray k₁₃) = P₁₄ at G₁₄ hrc le₁₄
      clear F₁₃ hn₁₃ F₁₄
      repeat kspl_open e
      have le₇₁₄ := Part.le_trans le₁₁ le₁₄
      refine z_sortedR (by assumption) (hA'.mono (by decide)) (hrp₇.mono le₇₁₄) (by lia) (by lia) fun u R P₁₅ s₁₅ hRp hRs hle₁₅ hrR F₁₅ => ?_
      have goodR : ∀ r ∈ R, ∀ x ∈ r, GoodName x := fun r hr => good r (hRp.mem_iff.mp hr)
      have shortR : ∀ r ∈ R, r.length ≤ 20 := fun r hr => short r (hRp.mem_iff.mp hr)
      have hRl : R.length = rs.length := hRp.length_eq
      have hdone := pop_order good hRp hRs hperm hds
      subst hdone
      have hrc := hrc.mono hle₁₅
      have leP₁₅ : P.le P₁₅ := Part.le_trans leP (Part.le_trans le₇₁₄ hle₁₅)
      clear hdl hds hperm
      repeat kspl_open e
      kspl_open comp
      repeat kspl_open e
      refine comp_list (g := letterD) rfl rfl (fun _ => rfl) hA'.handled (by simp [rowsD]; lia) (by assumption) hrR ?_ (done_noneR ?_)
      · intro C₂ c₂ v₂ d P₂ m₂ M₂ s₁₆ E₁₆ hd hle₂ hrd hc₂ hO₂ F₁₆ hm₂
        obtain ⟨r, mr, rfl⟩ := List.mem_map.mp hd
        have hrs := shortR r mr
        have X₂ : Bs w mb c₂.P₀ := by rw [hc₂]; exact X.mono leP₁₅
        refine tests_nil ?_
        rw [if_pos rfl]
        repeat kspl_open e
        refine ⟨Fm.K (by assumption) X₂, law_quoted_spec (X₂.mono F₁₆.le) F₁₆.on (hA'.mono (by decide)) hrd (by lia) (fun x hx => by have h1 : (cp x).length ≤ 3 := (goodR r mr x hx).len; have := cp_length x; lia) fun x t P₁₇ s₁₇ R₁₇ hx => ⟨P₁₇, _, _, R₁₇.le, F₁₆.call R₁₇, .str _ _, ?_⟩⟩
        show some (PyData.str (LQ ((r.map PyData.str).filterMap unStr))) = some (PyData.str x)
        rw [unStr_map]
        congr 2
        exact str_ext hx.symm
      intro v₁₈ P₁₈ s₁₈ hle₁₈ hr₁₈ F₁₈
      rw [letterD_map] at hr₁₈
      repeat kspl_open e
      refine z_same (k := 5) (by assumption) (hA'.mono (by decide)) (hrc.mono hle₁₈) hr₁₈ (by
        rw [PyData.canLay0]
        refine lay_strs _ fun x hx => ?_
        obtain ⟨r, mr, rfl⟩ := List.mem_map.mp hx
        exact LQ_ok (goodR r mr)) (by rw [PyData.depth, depth_strs]; decide) ?_
      repeat kspl_open e
      have hrR₁₈ := hrR.mono hle₁₈
      have hrc₁₈ := hrc.mono hle₁₈
      have leP₁₈ := Part.le_trans leP₁₅ hle₁₈
      rename_i F₁₉
      clear hrR hrc hr₁₈
      show wpAny (model prog w) (A.deeper env) (execs _ env) _ E' _
      kspl_open xcomp
      repeat kspl_open e
      refine comp_list (g := chainD) rfl rfl (fun _ => rfl) hA'.handled (by simp; lia) (by assumption) hrc₁₈ ?_ (done_useR rfl rfl rfl ?_)
      · intro C₂ c₂ v₂ d P₂ m₂ M₂ s₂₀ E₂₀ hd hle₂ hrd hc₂ hO₂ F₂₀ hm₂
        obtain ⟨y, my, rfl⟩ := List.mem_map.mp hd
        obtain ⟨r, mr, rfl⟩ := List.mem_map.mp my
        obtain ⟨ty, rfl⟩ := hrd.str_inv
        have hrs := shortR r mr
        have gr := goodR r mr
        have X₂ : Bs w mb c₂.P₀ := by rw [hc₂]; exact X.mono leP₁₈
        refine tests_nil ?_
        rw [if_pos rfl]
        kspl_open cal
        repeat kspl_open e
        refine items_star ?_
        repeat kspl_open e
        rename_i F₂₁
        have hlq : (LQ r).length ≤ 9000 := by
          rw [← cp_length, cp_LQ]
          have := flat_le (k := 6) (ls := (r.map cp).map fun n => dotL n ++ [13, 10]) fun l hl => by
            obtain ⟨n, hn, rfl⟩ := List.mem_map.mp hl
            obtain ⟨x, mx, rfl⟩ := List.mem_map.mp hn
            have hxl : (cp x).length ≤ 3 := (gr x mx).len
            rw [List.length_append]
            unfold dotL
            split <;> simp only [List.length_cons, List.length_nil] <;> lia
          rw [List.length_map, List.length_map] at this
          unfold quotedL
          lia
        refine ⟨F₂₁.K X₂, law_read_spec (X₂.mono F₂₁.le) F₂₁.on (hA'.mono (by decide)) hlq fun vl P₂₂ s₂₂ R₂₂ hrl => ?_⟩
        rw [read_quoted gr (cp_LQ r)] at hrl
        have F₂₂ := F₂₁.call R₂₂
        obtain ⟨la, lvs, ln, rfl, hla, hlr⟩ := hrl.list_inv
        obtain ⟨ll, rfl, hll⟩ := hlr.strs
        have hlln : ll.length = r.length := by rw [← hll, List.length_map]
        have hla' : (la, lst (strValues ll).toArray ln) ∈ allBut s₂₂.heap C₂ := mem_allBut.mpr ⟨fun e => (by rw [e, F₂₂.offL] at hla; cases hla), F₂₂.on _ _ hla⟩
        refine star_seq (T := "list") F₂₂.fr (news_all _ _) hla' rfl rfl (.inl rfl) rfl (by simp [strValues]; lia) fun h₂₃ Fr₂₃ N₂₃ => ?_
        have F₂₃ := F₂₂.of_fr (tk := s₂₂.toks) Fr₂₃ N₂₃
        repeat kspl_open e
        refine ⟨F₂₃.K X₂, ?_⟩
        rw [List.append_nil]
        refine join_spec (X₂.mono F₂₃.le) F₂₃.on (hA'.mono (by decide)) (by lia) (fun p hp => ?_) fun y t P₂₄ s₂₄ R₂₄ hy => ⟨P₂₄, _, _, Part.le_trans R₂₂.le R₂₄.le, F₂₃.call R₂₄, .str _ _, ?_⟩
        · have mx : p.1 ∈ r := by rw [← hll]; exact List.mem_map_of_mem hp
          have g := gr _ mx
          have hxl : (cp p.1).length ≤ 3 := g.len
          exact ⟨by lia, g.ne, fun e => (g.sg 47 e).2 rfl⟩
        · show some (PyData.str (PQ (((Txt.split (LQ r) (Str.ofString "\r\n")).dropLast).map undotS))) = some (PyData.str y)
          rw [read_quoted gr (cp_LQ r)]
          congr 2
          refine str_ext ?_
          rw [cp_PQ, hy, ← hll, List.map_map]; rfl
      · intro v₂₀ P₂₀ s₂₀ hle₂₀ hr₂₀ F₂₀
        rw [chainD_map goodR] at hr₂₀
        repeat kspl_open e
        kspl_open comp
        repeat kspl_open e
        have hrR₂₀ := hrR₁₈.mono hle₂₀
        have leP₂₀ := Part.le_trans leP₁₈ hle₂₀
        refine comp_list (g := pathD) rfl rfl (fun _ => rfl) hA'.handled (by simp [rowsD]; lia) (by assumption) hrR₂₀ ?_ (done_noneR ?_)
        · intro C₂ c₂ v₂ d P₂ m₂ M₂ s₂₁ E₂₁ hd hle₂ hrd hc₂ hO₂ F₂₁ hm₂
          obtain ⟨r, mr, rfl⟩ := List.mem_map.mp hd
          have hrs := shortR r mr
          have gr := goodR r mr
          refine tests_nil ?_
          rw [if_pos rfl]
          repeat kspl_open e
          kspl_open gm
          repeat kspl_open e
          refine z_join (by assumption) hrd (join_ok3 (by lia) fun x hx => by have h1 : (cp x).length ≤ 3 := (gr x hx).len; have := cp_length x; lia) fun t₂₂ s₂₂ F₂₂ => ?_
          repeat kspl_open e
          refine z_adds (by assumption) ?_ fun t₂₃ s₂₃ F₂₃ => ⟨_, _, _, Part.le_refl _, F₂₃, .str _ _, ?_⟩
          · have h1 := path_short gr (by lia) (x := PQ r) (cp_PQ r)
            have h2 : (cp (Str.join (Str.ofString "/") r)).length + 1 = (cp (PQ r)).length := by rw [cp_join, cp_PQ]; rfl
            rw [cp_length, cp_length] at h2
            show 1 + (Str.join (Str.ofString "/") r).length ≤ _
            lia
          · show some (PyData.str (PQ ((r.map PyData.str).filterMap unStr))) = some (PyData.str _)
            rw [unStr_map]
            congr 2
            refine str_ext ?_
            rw [cp_append, cp_join, cp_PQ]; rfl
        intro v₂₄ P₂₄ s₂₄ hle₂₄ hr₂₄ F₂₄
        rw [pathD_map] at hr₂₄
        repeat kspl_open e
        refine z_same (k := 5) (by assumption) (hA'.mono (by decide)) (hr₂₀.mono hle₂₄) hr₂₄ (by
          rw [PyData.canLay0]
          refine lay_strs _ fun x hx => ?_
          obtain ⟨r, mr, rfl⟩ := List.mem_map.mp hx
          exact PQ_ok (goodR r mr)) (by rw [PyData.depth, depth_strs]; decide) ?_
        repeat kspl_open e
        have F₂₅ := F₂₄
        have hrR₂₄ := hrR₂₀.mono hle₂₄
        have hrC₂₄ := hr₂₀.mono hle₂₄
        have leP₂₄ := Part.le_trans leP₂₀ hle₂₄
        clear hrR₁₈ hrR₂₀ hr₂₀ hr₂₄ hrc₁₈
        obtain ⟨ca, cvs, cn, rfl, hca, hcr⟩ := hrC₂₄.list_inv
        obtain ⟨cl, rfl, hcl⟩ := hcr.strs
        obtain ⟨ra, rus, rn, rfl, hra, hrr⟩ := hrR₂₄.list_inv
        have H : Chain P₂₄ (.ref ca) (.ref ra) R ca ra cl cn rn rus := ⟨rfl, rfl, hca, hra, by
          have := congrArg (List.map cp) hcl
          rw [List.map_map, List.map_map] at this
          exact this, hrr, goodR, by lia, fun r hr => Nat.le_trans (shortR r hr) (by decide)⟩
        have hcll : cl.length = R.length := by have := congrArg List.length hcl; simpa using this
        have hRne : R ≠ [] := fun e => by rw [e] at hRl; simp at hRl; lia
        refine ⟨F₂₅.K X, law_pairs_spec (X.mono F₂₅.le) F₂₅.on (hA'.mono (by decide)) H fun vq P₂₆ s₂₆ R₂₆ hrq => ?_⟩
        have F₂₆ := F₂₅.call R₂₆
        repeat kspl_open e
        have hql : (pairsTo R R.length).length ≤ 100 := by
          have := pairsTo_len R R.length
          have h2 : R.length * R.length ≤ 9 * 9 := Nat.mul_le_mul (by lia) (by lia)
          lia
        obtain ⟨qa, qvs, qn, rfl, hqa, hqr⟩ := hrq.list_inv
        have hqvl : qvs.length = (pairsTo R R.length).length := by rw [hqr.length, List.length_map]
        kspl_open xcomp
        repeat kspl_open e
        rename_i s₂₇ F₂₇
        have hql' := heap_list F₂₇ hqa
        refine wpAny_pyIter_list hql' ?_
        have W := Walks.list (prog := prog) (w := w) (A := A.deeper env) hA'.handled s₂₇.heap.objs.size qa (new_ne (F₂₇.on _ _ hqa)) qvs.toArray
        rw [List.size_toArray] at W
        have F₂₈ := F₂₇.allocM { cls := .type "list_iterator", data := .fields #[.ref qa, rawInt 0] }
        refine comp_atG (acc₀ := .none) (MX := []) (M := [(D, o')]) (no_cell rfl) rfl W (fun i h hst => ?_) (fun b hb => ?_) (by first | lia | (rw [List.size_toArray]; lia)) (fun i v s' Q' E₁ hv hst hq => ?_)
          (fun i P' zs MX' => MX' = [] ∧ RepAll P' zs ((((pairsTo R R.length).take i).filterMap nearF).map natD))
          F₂₈ ⟨⟨_, Heap.get?_push_size _ rfl, rfl, rfl⟩, hql'.at fun o e => Heap.get?_push_of_some _ e⟩ ⟨rfl, .nil⟩ (fun _ _ _ _ h => by rw [h.1]) ?_ ?_
        · obtain ⟨⟨o, ho, _⟩, _⟩ := hst; exact ⟨o, ho⟩
        · simp only [List.mem_cons, List.mem_nil_iff, or_false] at hb
          rcases hb with rfl | rfl
          · exact .inl rfl
          · exact .inr ⟨_, hqa⟩
        · have hv' : qvs[i]? = some v := by simpa using hv
          obtain ⟨d, hd, hrd⟩ := hqr.getV hv'
          obtain ⟨p, hp, rfl⟩ := List.mem_map.mp (List.mem_of_getElem? hd)
          obtain ⟨tt, _, _, _, _, rfl, _⟩ := tri_inv hrd
          exact wpAny_letOwnedTupleGo_listiter hst.1 hq
        · rintro C i v P₂₉ m₂₉ MX' zs k₂₉ D₂₉ oI s₂₉ E₂₉ hi hv hle₂₉ ⟨rfl, hzs⟩ F₂₉
          have hv' : qvs[i]? = some v := by simpa using hv
          obtain ⟨d, hd, hrd⟩ := hqr.getV hv'
          rw [List.getElem?_map] at hd
          obtain ⟨p, hp, rfl⟩ : ∃ p, (pairsTo R R.length)[i]? = some p ∧ triN p = d := by
            cases e : (pairsTo R R.length)[i]? with
            | none => rw [e] at hd; cases hd
            | some p => rw [e] at hd; cases hd; exact ⟨p, rfl, rfl⟩
          obtain ⟨tt, tk, t1, t2, t3, rfl, htt⟩ := tri_inv hrd
          refine as_tup3 F₂₉ hA'.handled (hle₂₉ _ _ htt) rfl rfl rfl rfl rfl fun s₃₀ F₃₀ => ?_
          refine tests_one ?_
          repeat kspl_open e
          rename_i F₃₁
          have tk1 : ((pairsTo R R.length).take (i + 1)).filterMap nearF = ((pairsTo R R.length).take i).filterMap nearF ++ (nearF p).toList := by
            have e1 : [p].filterMap nearF = (nearF p).toList := by
              rw [List.filterMap_cons, List.filterMap_nil]; cases nearF p <;> rfl
            rw [List.take_add_one, hp, List.filterMap_append]
            exact congrArg (((pairsTo R R.length).take i).filterMap nearF ++ ·) e1
          by_cases hj : p.2.2 = p.2.1 + 1
          · rw [if_pos (by rw [beq_iff_eq]; lia)]
            repeat kspl_open e
            refine ⟨P₂₉, _, [], Part.le_refl _, F₃₁, rfl, ?_⟩
            rw [tk1, show nearF p = some p.1 from if_pos hj, List.map_append]
            exact hzs.append (.one (.int _ _))
          · rw [if_neg (by rw [beq_iff_eq]; lia)]
            refine ⟨P₂₉, _, [], Part.le_refl _, F₃₁, rfl, ?_⟩
            rw [tk1, show nearF p = none from if_neg hj, List.map_append]
            simpa using hzs
        · rintro D₃₁ C oC mC P₃₁ MX' zs k₃₁ s₃₁ hle₃₁ ⟨rfl, hzs⟩ F₃₁ hn₃₁
          have hzs' : RepAll P₃₁ zs ((Law.nearOf (R.map cpR)).map natD) := by
            rw [← near_all, ← List.take_length (l := pairsTo R R.length)]
            have e : qvs.length = (pairsTo R R.length).length := hqvl
            simpa [e] using hzs
          refine done_use F₃₁ hn₃₁ rfl rfl rfl fun s₃₂ F₃₂ => ?_
          have G₃₂ := F₃₂.freeze
          have hrn : Rep (P₃₁.set D₃₁ (lst zs.toArray k₃₁)) (.ref D₃₁) (.list ((Law.nearOf (R.map cpR)).map natD)) := .list Part.set_self (hzs'.mono F₃₂.le_freeze)
          have le₃₂ := Part.le_trans hle₃₁ F₃₂.le_freeze
          have p3 : (P₃₁.set D₃₁ (lst zs.toArray k₃₁)) D₃₁ = some (lst zs.toArray k₃₁) := Part.set_self
          generalize P₃₁.set D₃₁ (lst zs.toArray k₃₁) = P₃₂ at G₃₂ hrn le₃₂ p3
          have hnl : (Law.nearOf (R.map cpR)).length + 1 = R.length := by rw [Law.nearOf_length, List.length_map]; have := List.length_pos_iff.mpr hRne; lia
          have hzl : zs.length = (Law.nearOf (R.map cpR)).length := by rw [hzs'.length, List.length_map]
          clear F₃₁ hn₃₁ F₃₂
          have le₂₆ : P₂₄.le P₃₂ := Part.le_trans R₂₆.le le₃₂
          have H₃₂ := H.mono le₂₆
          have hrq₃₂ := hrq.mono le₃₂
          have few : R.length ≤ 9 := by lia
          repeat kspl_open e
          refine z_len (by assumption) (heap_list (by assumption) p3) (by lia) fun t₃₃ s₃₃ F₃₃ => ?_
          repeat kspl_open e
          refine z_len (by assumption) (heap_list (by assumption) (le₂₆ _ _ hca)) (by simp [strValues]; lia) fun t₃₄ s₃₄ F₃₄ => ?_
          repeat kspl_open e
          rw [if_neg (by rw [bne_iff_ne]; simp [strValues]; lia)]
          repeat kspl_open e
          refine ⟨F₃₄.K X, law_least_spec (X.mono F₃₄.le) F₃₄.on (hA'.mono (by decide)) hrq₃₂ hrn (by lia) (pairs_min hRs) fun P₃₅ s₃₅ R₃₅ => ?_⟩
          have F₃₅ := F₃₄.call R₃₅
          repeat kspl_open e
          refine ⟨F₃₅.K X, law_heads_spec (X.mono F₃₅.le) F₃₅.on (hA'.mono (by decide)) (H₃₂.mono R₃₅.le) hRs (hrn.mono R₃₅.le) fun P₃₆ s₃₆ R₃₆ => ?_⟩
          have F₃₆ := F₃₅.call R₃₆
          repeat kspl_open e
          have hsum : ((Law.nearOf (R.map cpR)).map natD) = ((Law.nearOf (R.map cpR)).map fun n : Nat => (n : Int)).map .int := by rw [List.map_map]; rfl
          have hsumI : ((Law.nearOf (R.map cpR)).map fun n : Nat => (n : Int)).sum = ((Law.nearOf (R.map cpR)).sum : Int) := sum_cast _
          have le₃₆ : P₃₂.le P₃₆ := Part.le_trans R₃₅.le R₃₆.le
          have hrn₃₆ := hrn.mono le₃₆
          rw [hsum] at hrn₃₆
          have le₇₃₆ : P₇.le P₃₆ := Part.le_trans le₇₁₄ (Part.le_trans hle₁₅ (Part.le_trans hle₁₈ (Part.le_trans hle₂₀ (Part.le_trans hle₂₄ (Part.le_trans le₂₆ le₃₆)))))
          refine wpAny_And2 ?_
          repeat kspl_open e
          refine z_suml (by assumption) hA'.handled hrn₃₆ fun t₃₇ s₃₇ F₃₇ => ?_
          repeat kspl_open e
          refine ⟨F₃₇.K X, law_spared_spec (X.mono F₃₇.le) F₃₇.on (hA'.mono (by decide)) (hrp₇.mono le₇₃₆) (by lia) (fun r hr => Nat.le_trans (short r hr) (by decide)) good fun t₃₈ P₃₈ s₃₈ R₃₈ => ?_⟩
          have F₃₈ := F₃₇.call R₃₈
          rw [spared_near good hRp hRs, hsumI]
          repeat kspl_open e
          rw [beq_self_eq_true]
          rw [if_pos rfl]
          repeat kspl_open e
          have paP := R₃₈.le _ _ ((Part.le_trans hle₁₅ (Part.le_trans hle₁₈ (Part.le_trans hle₂₀ (Part.le_trans hle₂₄ (Part.le_trans le₂₆ le₃₆))))) _ _ (le₁₄ _ _ hpa))
          refine z_len (by assumption) (heap_list (by assumption) paP) (by lia) fun t₃₉ s₃₉ F₃₉ => ?_
          rw [hpl, ← hRl]
          repeat kspl_open e
          refine ⟨F₃₉.K X, law_net_spec (X.mono F₃₉.le) F₃₉.on (hA'.mono (by decide)) ((hrq₃₂.mono le₃₆).mono R₃₈.le) (by lia) (by lia) (fun p hp => ?_) fun t₄₀ P₄₀ s₄₀ order R₄₀ hord hdesc => ?_⟩
          · obtain ⟨i, j, hij, hj, rfl⟩ := mem_pairs.mp hp
            exact ⟨Nat.lt_trans hij hj, hj⟩
          have F₄₀ := F₃₉.call R₄₀
          rw [net_near hRne hRs hord hdesc]
          repeat kspl_open e
          refine z_suml (by assumption) hA'.handled ((hrn₃₆.mono R₃₈.le).mono R₄₀.le) fun t₄₁ s₄₁ F₄₁ => ?_
          rw [hsumI]
          repeat kspl_open e
          rw [beq_self_eq_true]
          exact h _ _ F₄₁.ret
end
end
section
open PySem PySem.W PyProof.Rows
set_option autoImplicit false
set_option linter.unusedVariables false
set_option maxRecDepth 1000000
set_option maxHeartbeats 8000000
/-! the law is well said: part by part -/
theorem saidRow : PySem.Challenge.rw_il0020_01.row.wellSaid = true := by
  unfold OpenRow.wellSaid OpenRow.partSaid looksOpen
  repeat' with_reducible refine look_both ?_ ?_
  all_goals decide +kernel
theorem said : PySem.Challenge.rw_il0020_01.wellSaid = true := by
  unfold OpenLaw.wellSaid
  rw [saidRow]
  repeat' with_reducible refine look_both ?_ ?_
  all_goals decide +kernel
/-! the top's objects, as they stand between its pieces -/
noncomputable def stIn (i j : Nat) : Option Stmt := match PySem.Challenge.pw_il0020_01.main.body[i]? with
  | some (.ClassDef _ _ _ b _ _ _ _ _ _ _) => b[j]?
  | _ => none
noncomputable def rawO (i : Nat) : Obj := match PySem.Challenge.pw_il0020_01.main.body[i]? with
  | some (.FunctionDef n ps b _ _ _ sc _ _ _) => { cls := .none, data := .func { name := n, qualname := n, params := ps, body := .stmts b, scope := sc, globals := 0, closure := [], defaults := .none, kwdefaults := .none } }
  | _ => { cls := .none, data := .plain }
noncomputable def rawQ (s : Option Stmt) (q : Str) : Obj := match s with
  | some (.FunctionDef n ps b _ _ _ sc _ _ _) => { cls := .none, data := .func { name := n, qualname := q, params := ps, body := .stmts b, scope := sc, globals := 0, closure := [], defaults := .none, kwdefaults := .none } }
  | _ => { cls := .none, data := .plain }
noncomputable def finQ (s : Option Stmt) (q : Str) (m : Str) (t : Tok) (cd : Addr) : Obj := match s with
  | some (.FunctionDef n ps b _ _ _ sc _ _ _) => { cls := .type "function", data := .func { name := n, qualname := q, params := ps, body := .stmts b, scope := sc, globals := 3, closure := [], defaults := .none, kwdefaults := .none, pyModule := .str m t, code := .ref cd } }
  | _ => { cls := .none, data := .plain }
noncomputable def o41 (P : Params) : Obj := { cls := Value.type "dict", data := Data.dict #[ent P "__name__" 1 (Value.str (Str.ofString "builtins") 160), ent P "__doc__" 2 (Value.builtin "builtins.__doc__:str#opaque"), ent P "__package__" 3 (Value.builtin "builtins.__package__:str#opaque"), ent P "__loader__" 4 (Value.builtin "builtins.__loader__:shared#opaque"), ent P "__spec__" 5 (Value.builtin "builtins.__spec__#opaque"), ent P "__build_class__" 6 (Value.builtin "__build_class__"), ent P "__import__" 7 (Value.builtin "__import__"), ent P "abs" 8 (Value.builtin "abs"), ent P "all" 9 (Value.builtin "all"), ent P "any" 10 (Value.builtin "any"), ent P "ascii" 11 (Value.builtin "ascii"), ent P "bin" 12 (Value.builtin "bin"), ent P "breakpoint" 13 (Value.builtin "breakpoint"), ent P "callable" 14 (Value.builtin "callable"), ent P "chr" 15 (Value.builtin "chr"), ent P "compile" 16 (Value.builtin "compile"), ent P "delattr" 17 (Value.builtin "delattr"), ent P "dir" 18 (Value.builtin "dir"), ent P "divmod" 19 (Value.builtin "divmod"), ent P "eval" 20 (Value.builtin "eval"), ent P "exec" 21 (Value.builtin "exec"), ent P "format" 22 (Value.builtin "format"), ent P "getattr" 23 (Value.builtin "getattr"), ent P "globals" 24 (Value.builtin "globals"), ent P "hasattr" 25 (Value.builtin "hasattr"), ent P "hash" 26 (Value.builtin "hash"), ent P "hex" 27 (Value.builtin "hex"), ent P "id" 28 (Value.builtin "id"), ent P "input" 29 (Value.builtin "input"), ent P "isinstance" 30 (Value.builtin "isinstance"), ent P "issubclass" 31 (Value.builtin "issubclass"), ent P "iter" 32 (Value.builtin "iter"), ent P "aiter" 33 (Value.builtin "aiter"), ent P "len" 34 (Value.builtin "len"), ent P "locals" 35 (Value.builtin "locals"), ent P "max" 36 (Value.builtin "max"), ent P "min" 37 (Value.builtin "min"), ent P "next" 38 (Value.builtin "next"), ent P "anext" 39 (Value.builtin "anext"), ent P "oct" 40 (Value.builtin "oct"), ent P "ord" 41 (Value.builtin "ord"), ent P "pow" 42 (Value.builtin "pow"), ent P "print" 43 (Value.builtin "print"), ent P "repr" 44 (Value.builtin "repr"), ent P "round" 45 (Value.builtin "round"), ent P "setattr" 46 (Value.builtin "setattr"), ent P "sorted" 47 (Value.builtin "sorted"), ent P "sum" 48 (Value.builtin "sum"), ent P "vars" 49 (Value.builtin "vars"), ent P "None" 50 (Value.none), ent P "Ellipsis" 51 (Value.ellipsis), ent P "NotImplemented" 52 (Value.notImplemented), ent P "False" 53 (Value.bool false), ent P "True" 54 (Value.bool true), ent P "bool" 55 (Value.type "bool"), ent P "memoryview" 56 (Value.type "memoryview"), ent P "bytearray" 57 (Value.type "bytearray"), ent P "bytes" 58 (Value.type "bytes"), ent P "classmethod" 59 (Value.type "classmethod"), ent P "complex" 60 (Value.type "complex"), ent P "dict" 61 (Value.type "dict"), ent P "enumerate" 62 (Value.type "enumerate"), ent P "filter" 63 (Value.type "filter"), ent P "float" 64 (Value.type "float"), ent P "frozenset" 65 (Value.type "frozenset"), ent P "property" 66 (Value.type "property"), ent P "int" 67 (Value.type "int"), ent P "list" 68 (Value.type "list"), ent P "map" 69 (Value.type "map"), ent P "object" 70 (Value.type "object"), ent P "range" 71 (Value.type "range"), ent P "reversed" 72 (Value.type "reversed"), ent P "set" 73 (Value.type "set"), ent P "slice" 74 (Value.type "slice"), ent P "staticmethod" 75 (Value.type "staticmethod"), ent P "str" 76 (Value.type "str"), ent P "super" 77 (Value.type "super"), ent P "tuple" 78 (Value.type "tuple"), ent P "type" 79 (Value.type "type"), ent P "zip" 80 (Value.type "zip"), ent P "__debug__" 81 (Value.bool true), ent P "BaseException" 82 (Value.type "BaseException"), ent P "BaseExceptionGroup" 83 (Value.type "BaseExceptionGroup"), ent P "Exception" 84 (Value.type "Exception"), ent P "GeneratorExit" 85 (Value.type "GeneratorExit"), ent P "KeyboardInterrupt" 86 (Value.type "KeyboardInterrupt"), ent P "SystemExit" 87 (Value.type "SystemExit"), ent P "ArithmeticError" 88 (Value.type "ArithmeticError"), ent P "AssertionError" 89 (Value.type "AssertionError"), ent P "AttributeError" 90 (Value.type "AttributeError"), ent P "BufferError" 91 (Value.type "BufferError"), ent P "EOFError" 92 (Value.type "EOFError"), ent P "ImportError" 93 (Value.type "ImportError"), ent P "LookupError" 94 (Value.type "LookupError"), ent P "MemoryError" 95 (Value.type "MemoryError"), ent P "NameError" 96 (Value.type "NameError"), ent P "OSError" 97 (Value.type "OSError"), ent P "ReferenceError" 98 (Value.type "ReferenceError"), ent P "RuntimeError" 99 (Value.type "RuntimeError"), ent P "StopAsyncIteration" 100 (Value.type "StopAsyncIteration"), ent P "StopIteration" 101 (Value.type "StopIteration"), ent P "SyntaxError" 102 (Value.type "SyntaxError"), ent P "SystemError" 103 (Value.type "SystemError"), ent P "TypeError" 104 (Value.type "TypeError"), ent P "ValueError" 105 (Value.type "ValueError"), ent P "Warning" 106 (Value.type "Warning"), ent P "FloatingPointError" 107 (Value.type "FloatingPointError"), ent P "OverflowError" 108 (Value.type "OverflowError"), ent P "ZeroDivisionError" 109 (Value.type "ZeroDivisionError"), ent P "BytesWarning" 110 (Value.type "BytesWarning"), ent P "DeprecationWarning" 111 (Value.type "DeprecationWarning"), ent P "EncodingWarning" 112 (Value.type "EncodingWarning"), ent P "FutureWarning" 113 (Value.type "FutureWarning"), ent P "ImportWarning" 114 (Value.type "ImportWarning"), ent P "PendingDeprecationWarning" 115 (Value.type "PendingDeprecationWarning"), ent P "ResourceWarning" 116 (Value.type "ResourceWarning"), ent P "RuntimeWarning" 117 (Value.type "RuntimeWarning"), ent P "SyntaxWarning" 118 (Value.type "SyntaxWarning"), ent P "UnicodeWarning" 119 (Value.type "UnicodeWarning"), ent P "UserWarning" 120 (Value.type "UserWarning"), ent P "BlockingIOError" 121 (Value.type "BlockingIOError"), ent P "ChildProcessError" 122 (Value.type "ChildProcessError"), ent P "ConnectionError" 123 (Value.type "ConnectionError"), ent P "FileExistsError" 124 (Value.type "FileExistsError"), ent P "FileNotFoundError" 125 (Value.type "FileNotFoundError"), ent P "InterruptedError" 126 (Value.type "InterruptedError"), ent P "IsADirectoryError" 127 (Value.type "IsADirectoryError"), ent P "NotADirectoryError" 128 (Value.type "NotADirectoryError"), ent P "PermissionError" 129 (Value.type "PermissionError"), ent P "ProcessLookupError" 130 (Value.type "ProcessLookupError"), ent P "TimeoutError" 131 (Value.type "TimeoutError"), ent P "IndentationError" 132 (Value.type "IndentationError"), ent P "_IncompleteInputError" 133 (Value.type "_IncompleteInputError"), ent P "IndexError" 134 (Value.type "IndexError"), ent P "KeyError" 135 (Value.type "KeyError"), ent P "ModuleNotFoundError" 136 (Value.type "ModuleNotFoundError"), ent P "NotImplementedError" 137 (Value.type "NotImplementedError"), ent P "PythonFinalizationError" 138 (Value.type "PythonFinalizationError"), ent P "RecursionError" 139 (Value.type "RecursionError"), ent P "UnboundLocalError" 140 (Value.type "UnboundLocalError"), ent P "UnicodeError" 141 (Value.type "UnicodeError"), ent P "BrokenPipeError" 142 (Value.type "BrokenPipeError"), ent P "ConnectionAbortedError" 143 (Value.type "ConnectionAbortedError"), ent P "ConnectionRefusedError" 144 (Value.type "ConnectionRefusedError"), ent P "ConnectionResetError" 145 (Value.type "ConnectionResetError"), ent P "TabError" 146 (Value.type "TabError"), ent P "UnicodeDecodeError" 147 (Value.type "UnicodeDecodeError"), ent P "UnicodeEncodeError" 148 (Value.type "UnicodeEncodeError"), ent P "UnicodeTranslateError" 149 (Value.type "UnicodeTranslateError"), ent P "ExceptionGroup" 150 (Value.type "ExceptionGroup"), ent P "EnvironmentError" 151 (Value.type "OSError"), ent P "IOError" 152 (Value.type "OSError"), ent P "open" 153 (Value.builtin "open"), ent P "quit" 154 (Value.builtin "builtins.quit#opaque"), ent P "exit" 155 (Value.builtin "builtins.exit#opaque"), ent P "copyright" 156 (Value.builtin "builtins.copyright#opaque"), ent P "credits" 157 (Value.builtin "builtins.credits#opaque"), ent P "license" 158 (Value.builtin "builtins.license#opaque"), ent P "help" 159 (Value.builtin "builtins.help#opaque")] 159 }
noncomputable def o42 (P : Params) : Obj := { cls := Value.type "dict", data := Data.dict #[ent P "builtins" 162 (Value.ref 4), ent P "__main__" 163 (Value.ref 5), ent P "_sre" 244 (Value.ref 12)] 3 }
noncomputable def o43 (P : Params) : Obj := { cls := Value.none, data := Data.dict #[ent P ⟨#[105, 109, 112, 111, 114, 116, 46, 108, 111, 97, 100, 101, 100, 46, 95, 115, 114, 101]⟩ 183 (Value.bool true), ent P "class._frozen_importlib.BuiltinImporter" 185 (Value.ref 14), ent P ⟨#[119, 97, 116, 99, 104, 101, 100, 46, 105, 109, 112, 111, 114, 116]⟩ 206 (Value.ref 18), ent P "class._frozen_importlib.ModuleSpec" 216 (Value.ref 22), ent P "sys.modules.booked-epoch" 245 (Value.int 3 0), ent P ⟨#[105, 109, 112, 111, 114, 116, 46, 108, 97, 116, 101, 114, 45, 108, 97, 105, 100, 46, 95, 115, 114, 101]⟩ 270 (Value.bool true), ent P "watched.library" 272 (Value.ref 27), ent P "watched.library-objects" 0 (Value.str (Str.ofString "\x0c") 0), ent P "watched.library-deep._sre" 273 (Value.str (⟨#[4, 0, 0, 11, 4, 0, 0, 11, 4, 0, 0, 3, 4, 0, 0, 11, 8, 4, 100, 105, 99, 116, 2]⟩) 0)] 9 }
noncomputable def o44 (P : Params) : Obj := { cls := Value.type "dict", data := Data.dict #[ent P "__name__" 165 (Value.str (Str.ofString "__main__") 164), ent P "__doc__" 166 (Value.none), ent P "__package__" 167 (Value.none), ent P "__loader__" 168 (Value.builtin "__main__.__loader__#opaque"), ent P "__spec__" 169 (Value.none), ent P "__annotations__" 170 (Value.ref 6), ent P "__builtins__" 171 (Value.ref 4), ent P "__file__" 173 (Value.str (Str.ofString "/claim/cut.py") 172), ent P "__cached__" 174 (Value.none), ent P "_sre" 275 (Value.ref 12)] 10 }
noncomputable def o45 (P : Params) : Obj := { cls := Value.type "module", dict := some 0 }
noncomputable def o46 (P : Params) : Obj := { cls := Value.type "module", dict := some 3 }
noncomputable def o47 (P : Params) : Obj := { cls := Value.type "dict", data := Data.dict #[] }
noncomputable def o48 (P : Params) : Obj := { cls := Value.type "tuple", data := Data.seq #[] }
noncomputable def o49 (P : Params) : Obj := { cls := Value.none, data := Data.fields #[] }
noncomputable def o50 (P : Params) : Obj := { cls := Value.type "code", data := Data.fields #[Value.str (Str.ofString "<module>") 176, Value.str (Str.ofString "<module>") 177, Value.str (Str.ofString "/claim/cut.py") 178, Value.int 1 0, Value.int 0 0, Value.int 0 0, Value.int 0 0, Value.int 0 0, Value.ref 7, Value.bool false, Value.int 175 0, Value.ref 8, Value.none, Value.none, Value.none, Value.none, Value.int 179 0, Value.int 1 0, Value.str (Str.ofString "/claim/cut.py") 180] }
noncomputable def o51 (P : Params) : Obj := { cls := Value.type "frame", slots := #[some (Value.ref 9), some (Value.ref 3), some (Value.ref 3), none, some (Value.str (Str.ofString "__main__") 164), none, some (Value.ref 0)] }
noncomputable def o52 (P : Params) : Obj := { cls := Value.type "dict", data := Data.dict #[ent P "__name__" 247 (Value.str (Str.ofString "_sre") 246), ent P "__doc__" 248 (Value.none), ent P "__package__" 250 (Value.str (Str.ofString "") 249), ent P "__loader__" 251 (Value.builtin "off-the-table:_sre.__loader__:shared#opaque"), ent P "__spec__" 252 (Value.builtin "off-the-table:_sre.__spec__:shared#opaque"), ent P "compile" 253 (Value.builtin "_sre.compile"), ent P "template" 254 (Value.builtin "off-the-table:_sre.template:shared#opaque"), ent P "getcodesize" 255 (Value.builtin "off-the-table:_sre.getcodesize:shared#opaque"), ent P "ascii_iscased" 256 (Value.builtin "off-the-table:_sre.ascii_iscased:shared#opaque"), ent P "unicode_iscased" 257 (Value.builtin "off-the-table:_sre.unicode_iscased:shared#opaque"), ent P "ascii_tolower" 258 (Value.builtin "off-the-table:_sre.ascii_tolower:shared#opaque"), ent P "unicode_tolower" 259 (Value.builtin "off-the-table:_sre.unicode_tolower:shared#opaque"), ent P "MAGIC" 261 (Value.int 20230612 260), ent P "CODESIZE" 263 (Value.int 4 262), ent P "MAXREPEAT" 265 (Value.int 4294967295 264), ent P "MAXGROUPS" 267 (Value.int 1073741823 266), ent P "copyright" 269 (Value.str (Str.ofString " SRE 2.2.2 Copyright (c) 1997-2002 by Secret Labs AB ") 268)] 17 }
noncomputable def o53 (P : Params) : Obj := { cls := Value.type "module", dict := some 11 }
noncomputable def o54 (P : Params) : Obj := { cls := Value.type "dict", data := Data.dict #[ent P "__module__" 189 (Value.str (Str.ofString "_frozen_importlib") 186), ent P "__firstlineno__" 190 (Value.int 971 187), ent P "__doc__" 191 (Value.builtin "_frozen_importlib.BuiltinImporter.__doc__:str#opaque"), ent P "_ORIGIN" 192 (Value.str (Str.ofString "built-in") 188), ent P "find_spec" 193 (Value.builtin "_frozen_importlib.BuiltinImporter.find_spec#opaque"), ent P "create_module" 194 (Value.builtin "_frozen_importlib.BuiltinImporter.create_module#opaque"), ent P "exec_module" 195 (Value.builtin "_frozen_importlib.BuiltinImporter.exec_module#opaque"), ent P "get_code" 196 (Value.builtin "_frozen_importlib.BuiltinImporter.get_code#opaque"), ent P "get_source" 197 (Value.builtin "_frozen_importlib.BuiltinImporter.get_source#opaque"), ent P "is_package" 198 (Value.builtin "_frozen_importlib.BuiltinImporter.is_package#opaque"), ent P "load_module" 199 (Value.builtin "_frozen_importlib.BuiltinImporter.load_module#opaque"), ent P "__static_attributes__" 200 (Value.ref 15), ent P "__dict__" 202 (Value.ref 16), ent P "__weakref__" 204 (Value.ref 17)] 14 }
noncomputable def o55 (P : Params) : Obj := { cls := Value.type "type", data := Data.cls { name := Str.ofString "BuiltinImporter", bases := [Value.type "object"], mro := [Value.ref 14, Value.type "object"], ns := 13, qualname := Str.ofString "BuiltinImporter" } }
noncomputable def o56 (P : Params) : Obj := { cls := Value.type "tuple", data := Data.seq #[] }
noncomputable def o57 (P : Params) : Obj := { cls := Value.type "getset_descriptor", data := Data.fields #[Value.str (Str.ofString "__dict__") 201, Value.ref 14, Value.builtin "function.__dict__", Value.builtin "function.__dict__#set"] }
noncomputable def o58 (P : Params) : Obj := { cls := Value.type "getset_descriptor", data := Data.fields #[Value.str (Str.ofString "__weakref__") 203, Value.ref 14, Value.builtin "ExceptionGroup.__weakref__", Value.none] }
noncomputable def o59 (P : Params) : Obj := { cls := Value.none, data := Data.seq #[Value.int 13 0, Value.str (⟨#[6, 189, 10, 95, 95, 109, 111, 100, 117, 108, 101, 95, 95, 6, 186, 17, 95, 102, 114, 111, 122, 101, 110, 95, 105, 109, 112, 111, 114, 116, 108, 105, 98, 6, 190, 15, 95, 95, 102, 105, 114, 115, 116, 108, 105, 110, 101, 110, 111, 95, 95, 4, 187, 0, 971, 6, 191, 7, 95, 95, 100, 111, 99, 95, 95, 9, 52, 95, 102, 114, 111, 122, 101, 110, 95, 105, 109, 112, 111, 114, 116, 108, 105, 98, 46, 66, 117, 105, 108, 116, 105, 110, 73, 109, 112, 111, 114, 116, 101, 114, 46, 95, 95, 100, 111, 99, 95, 95, 58, 115, 116, 114, 35, 111, 112, 97, 113, 117, 101, 6, 192, 7, 95, 79, 82, 73, 71, 73, 78, 6, 188, 8, 98, 117, 105, 108, 116, 45, 105, 110, 6, 193, 9, 102, 105, 110, 100, 95, 115, 112, 101, 99, 9, 50, 95, 102, 114, 111, 122, 101, 110, 95, 105, 109, 112, 111, 114, 116, 108, 105, 98, 46, 66, 117, 105, 108, 116, 105, 110, 73, 109, 112, 111, 114, 116, 101, 114, 46, 102, 105, 110, 100, 95, 115, 112, 101, 99, 35, 111, 112, 97, 113, 117, 101, 6, 194, 13, 99, 114, 101, 97, 116, 101, 95, 109, 111, 100, 117, 108, 101, 9, 54, 95, 102, 114, 111, 122, 101, 110, 95, 105, 109, 112, 111, 114, 116, 108, 105, 98, 46, 66, 117, 105, 108, 116, 105, 110, 73, 109, 112, 111, 114, 116, 101, 114, 46, 99, 114, 101, 97, 116, 101, 95, 109, 111, 100, 117, 108, 101, 35, 111, 112, 97, 113, 117, 101, 6, 195, 11, 101, 120, 101, 99, 95, 109, 111, 100, 117, 108, 101, 9, 52, 95, 102, 114, 111, 122, 101, 110, 95, 105, 109, 112, 111, 114, 116, 108, 105, 98, 46, 66, 117, 105, 108, 116, 105, 110, 73, 109, 112, 111, 114, 116, 101, 114, 46, 101, 120, 101, 99, 95, 109, 111, 100, 117, 108, 101, 35, 111, 112, 97, 113, 117, 101, 6, 196, 8, 103, 101, 116, 95, 99, 111, 100, 101, 9, 49, 95, 102, 114, 111, 122, 101, 110, 95, 105, 109, 112, 111, 114, 116, 108, 105, 98, 46, 66, 117, 105, 108, 116, 105, 110, 73, 109, 112, 111, 114, 116, 101, 114, 46, 103, 101, 116, 95, 99, 111, 100, 101, 35, 111, 112, 97, 113, 117, 101, 6, 197, 10, 103, 101, 116, 95, 115, 111, 117, 114, 99, 101, 9, 51, 95, 102, 114, 111, 122, 101, 110, 95, 105, 109, 112, 111, 114, 116, 108, 105, 98, 46, 66, 117, 105, 108, 116, 105, 110, 73, 109, 112, 111, 114, 116, 101, 114, 46, 103, 101, 116, 95, 115, 111, 117, 114, 99, 101, 35, 111, 112, 97, 113, 117, 101, 6, 198, 10, 105, 115, 95, 112, 97, 99, 107, 97, 103, 101, 9, 51, 95, 102, 114, 111, 122, 101, 110, 95, 105, 109, 112, 111, 114, 116, 108, 105, 98, 46, 66, 117, 105, 108, 116, 105, 110, 73, 109, 112, 111, 114, 116, 101, 114, 46, 105, 115, 95, 112, 97, 99, 107, 97, 103, 101, 35, 111, 112, 97, 113, 117, 101, 6, 199, 11, 108, 111, 97, 100, 95, 109, 111, 100, 117, 108, 101, 9, 52, 95, 102, 114, 111, 122, 101, 110, 95, 105, 109, 112, 111, 114, 116, 108, 105, 98, 46, 66, 117, 105, 108, 116, 105, 110, 73, 109, 112, 111, 114, 116, 101, 114, 46, 108, 111, 97, 100, 95, 109, 111, 100, 117, 108, 101, 35, 111, 112, 97, 113, 117, 101, 6, 200, 21, 95, 95, 115, 116, 97, 116, 105, 99, 95, 97, 116, 116, 114, 105, 98, 117, 116, 101, 115, 95, 95, 4, 0, 0, 15, 6, 202, 8, 95, 95, 100, 105, 99, 116, 95, 95, 4, 0, 0, 16, 6, 204, 11, 95, 95, 119, 101, 97, 107, 114, 101, 102, 95, 95, 4, 0, 0, 17]⟩) 0, Value.bool true, Value.bool true, Value.str (Str.ofString "") 205, Value.int 21 0, Value.str (⟨#[6, 227, 10, 95, 95, 109, 111, 100, 117, 108, 101, 95, 95, 6, 217, 17, 95, 102, 114, 111, 122, 101, 110, 95, 105, 109, 112, 111, 114, 116, 108, 105, 98, 6, 228, 15, 95, 95, 102, 105, 114, 115, 116, 108, 105, 110, 101, 110, 111, 95, 95, 4, 218, 0, 562, 6, 229, 7, 95, 95, 100, 111, 99, 95, 95, 9, 47, 95, 102, 114, 111, 122, 101, 110, 95, 105, 109, 112, 111, 114, 116, 108, 105, 98, 46, 77, 111, 100, 117, 108, 101, 83, 112, 101, 99, 46, 95, 95, 100, 111, 99, 95, 95, 58, 115, 116, 114, 35, 111, 112, 97, 113, 117, 101, 6, 230, 8, 95, 95, 105, 110, 105, 116, 95, 95, 9, 44, 95, 102, 114, 111, 122, 101, 110, 95, 105, 109, 112, 111, 114, 116, 108, 105, 98, 46, 77, 111, 100, 117, 108, 101, 83, 112, 101, 99, 46, 95, 95, 105, 110, 105, 116, 95, 95, 35, 111, 112, 97, 113, 117, 101, 6, 231, 8, 95, 95, 114, 101, 112, 114, 95, 95, 9, 44, 95, 102, 114, 111, 122, 101, 110, 95, 105, 109, 112, 111, 114, 116, 108, 105, 98, 46, 77, 111, 100, 117, 108, 101, 83, 112, 101, 99, 46, 95, 95, 114, 101, 112, 114, 95, 95, 35, 111, 112, 97, 113, 117, 101, 6, 232, 6, 95, 95, 101, 113, 95, 95, 9, 42, 95, 102, 114, 111, 122, 101, 110, 95, 105, 109, 112, 111, 114, 116, 108, 105, 98, 46, 77, 111, 100, 117, 108, 101, 83, 112, 101, 99, 46, 95, 95, 101, 113, 95, 95, 35, 111, 112, 97, 113, 117, 101, 6, 233, 6, 99, 97, 99, 104, 101, 100, 9, 42, 95, 102, 114, 111, 122, 101, 110, 95, 105, 109, 112, 111, 114, 116, 108, 105, 98, 46, 77, 111, 100, 117, 108, 101, 83, 112, 101, 99, 46, 99, 97, 99, 104, 101, 100, 35, 111, 112, 97, 113, 117, 101, 6, 234, 6, 112, 97, 114, 101, 110, 116, 9, 42, 95, 102, 114, 111, 122, 101, 110, 95, 105, 109, 112, 111, 114, 116, 108, 105, 98, 46, 77, 111, 100, 117, 108, 101, 83, 112, 101, 99, 46, 112, 97, 114, 101, 110, 116, 35, 111, 112, 97, 113, 117, 101, 6, 235, 12, 104, 97, 115, 95, 108, 111, 99, 97, 116, 105, 111, 110, 9, 48, 95, 102, 114, 111, 122, 101, 110, 95, 105, 109, 112, 111, 114, 116, 108, 105, 98, 46, 77, 111, 100, 117, 108, 101, 83, 112, 101, 99, 46, 104, 97, 115, 95, 108, 111, 99, 97, 116, 105, 111, 110, 35, 111, 112, 97, 113, 117, 101, 6, 236, 21, 95, 95, 115, 116, 97, 116, 105, 99, 95, 97, 116, 116, 114, 105, 98, 117, 116, 101, 115, 95, 95, 4, 0, 0, 23, 6, 238, 8, 95, 95, 100, 105, 99, 116, 95, 95, 4, 0, 0, 24, 6, 240, 11, 95, 95, 119, 101, 97, 107, 114, 101, 102, 95, 95, 4, 0, 0, 25, 6, 241, 8, 95, 95, 104, 97, 115, 104, 95, 95, 0]⟩) 0, Value.bool true, Value.bool true, Value.str (Str.ofString "") 242] 1 }
noncomputable def o60 (P : Params) : Obj := { cls := Value.type "list", data := Data.seq #[] }
noncomputable def o61 (P : Params) : Obj := { cls := Value.type "dict", data := Data.dict #[ent P "name" 208 (Value.str (Str.ofString "_sre") 207), ent P "loader" 209 (Value.ref 14), ent P "origin" 210 (Value.str (Str.ofString "built-in") 184), ent P "loader_state" 211 (Value.none), ent P "submodule_search_locations" 212 (Value.none), ent P "_uninitialized_submodules" 213 (Value.ref 19), ent P "_set_fileattr" 214 (Value.bool false), ent P "_cached" 215 (Value.none), ent P "_initializing" 243 (Value.bool false)] 9 }
noncomputable def o62 (P : Params) : Obj := { cls := Value.type "dict", data := Data.dict #[ent P "__module__" 227 (Value.str (Str.ofString "_frozen_importlib") 217), ent P "__firstlineno__" 228 (Value.int 562 218), ent P "__doc__" 229 (Value.builtin "_frozen_importlib.ModuleSpec.__doc__:str#opaque"), ent P "__init__" 230 (Value.builtin "_frozen_importlib.ModuleSpec.__init__#opaque"), ent P "__repr__" 231 (Value.builtin "_frozen_importlib.ModuleSpec.__repr__#opaque"), ent P "__eq__" 232 (Value.builtin "_frozen_importlib.ModuleSpec.__eq__#opaque"), ent P "cached" 233 (Value.builtin "_frozen_importlib.ModuleSpec.cached#opaque"), ent P "parent" 234 (Value.builtin "_frozen_importlib.ModuleSpec.parent#opaque"), ent P "has_location" 235 (Value.builtin "_frozen_importlib.ModuleSpec.has_location#opaque"), ent P "__static_attributes__" 236 (Value.ref 23), ent P "__dict__" 238 (Value.ref 24), ent P "__weakref__" 240 (Value.ref 25), ent P "__hash__" 241 (Value.none)] 13 }
noncomputable def o63 (P : Params) : Obj := { cls := Value.type "type", data := Data.cls { name := Str.ofString "ModuleSpec", bases := [Value.type "object"], mro := [Value.ref 22, Value.type "object"], ns := 21, qualname := Str.ofString "ModuleSpec" } }
noncomputable def o64 (P : Params) : Obj := { cls := Value.type "tuple", data := Data.seq #[Value.str (Str.ofString "_cached") 219, Value.str (Str.ofString "_set_fileattr") 220, Value.str (Str.ofString "_uninitialized_submodules") 221, Value.str (Str.ofString "loader") 222, Value.str (Str.ofString "loader_state") 223, Value.str (Str.ofString "name") 224, Value.str (Str.ofString "origin") 225, Value.str (Str.ofString "submodule_search_locations") 226] }
noncomputable def o65 (P : Params) : Obj := { cls := Value.type "getset_descriptor", data := Data.fields #[Value.str (Str.ofString "__dict__") 237, Value.ref 22, Value.builtin "function.__dict__", Value.builtin "function.__dict__#set"] }
noncomputable def o66 (P : Params) : Obj := { cls := Value.type "getset_descriptor", data := Data.fields #[Value.str (Str.ofString "__weakref__") 239, Value.ref 22, Value.builtin "ExceptionGroup.__weakref__", Value.none] }
noncomputable def o67 (P : Params) : Obj := { cls := Value.ref 22, dict := some 20 }
noncomputable def o68 (P : Params) : Obj := { cls := Value.none, data := Data.seq #[Value.int 11 0, Value.str { cps := #[6, 247, 8, 95, 95, 110, 97, 109, 101, 95, 95, 6, 246, 4, 95, 115, 114, 101, 6, 248, 7, 95, 95, 100, 111, 99, 95, 95, 0, 6, 250, 11, 95, 95, 112, 97, 99, 107, 97, 103, 101, 95, 95, 6, 249, 0, 6, 251, 10, 95, 95, 108, 111, 97, 100, 101, 114, 95, 95, 4, 0, 0, 14, 6, 252, 8, 95, 95, 115, 112, 101, 99, 95, 95, 4, 0, 0, 26, 6, 253, 7, 99, 111, 109, 112, 105, 108, 101, 9, 12, 95, 115, 114, 101, 46, 99, 111, 109, 112, 105, 108, 101, 6, 254, 8, 116, 101, 109, 112, 108, 97, 116, 101, 9, 13, 95, 115, 114, 101, 46, 116, 101, 109, 112, 108, 97, 116, 101, 6, 255, 11, 103, 101, 116, 99, 111, 100, 101, 115, 105, 122, 101, 9, 16, 95, 115, 114, 101, 46, 103, 101, 116, 99, 111, 100, 101, 115, 105, 122, 101, 6, 256, 13, 97, 115, 99, 105, 105, 95, 105, 115, 99, 97, 115, 101, 100, 9, 18, 95, 115, 114, 101, 46, 97, 115, 99, 105, 105, 95, 105, 115, 99, 97, 115, 101, 100, 6, 257, 15, 117, 110, 105, 99, 111, 100, 101, 95, 105, 115, 99, 97, 115, 101, 100, 9, 20, 95, 115, 114, 101, 46, 117, 110, 105, 99, 111, 100, 101, 95, 105, 115, 99, 97, 115, 101, 100, 6, 258, 13, 97, 115, 99, 105, 105, 95, 116, 111, 108, 111, 119, 101, 114, 9, 18, 95, 115, 114, 101, 46, 97, 115, 99, 105, 105, 95, 116, 111, 108, 111, 119, 101, 114, 6, 259, 15, 117, 110, 105, 99, 111, 100, 101, 95, 116, 111, 108, 111, 119, 101, 114, 9, 20, 95, 115, 114, 101, 46, 117, 110, 105, 99, 111, 100, 101, 95, 116, 111, 108, 111, 119, 101, 114, 6, 261, 5, 77, 65, 71, 73, 67, 4, 260, 0, 20230612, 6, 263, 8, 67, 79, 68, 69, 83, 73, 90, 69, 4, 262, 0, 4, 6, 265, 9, 77, 65, 88, 82, 69, 80, 69, 65, 84, 4, 264, 0, 4294967295, 6, 267, 9, 77, 65, 88, 71, 82, 79, 85, 80, 83, 4, 266, 0, 1073741823, 6, 269, 9, 99, 111, 112, 121, 114, 105, 103, 104, 116, 6, 268, 53, 32, 83, 82, 69, 32, 50, 46, 50, 46, 50, 32, 67, 111, 112, 121, 114, 105, 103, 104, 116, 32, 40, 99, 41, 32, 49, 57, 57, 55, 45, 50, 48, 48, 50, 32, 98, 121, 32, 83, 101, 99, 114, 101, 116, 32, 76, 97, 98, 115, 32, 65, 66, 32] } 0, Value.bool true, Value.bool false, Value.str (Str.ofString "_sre") 271] }
noncomputable def o69 (P : Params) : Obj := { cls := Value.type "tuple", data := Data.seq #[] }
noncomputable def o70 (P : Params) : Obj := { cls := Value.none, data := Data.fields #[] }
noncomputable def o71 (P : Params) : Obj := { cls := Value.type "code", data := Data.fields #[Value.str (Str.ofString "<module>") 277, Value.str (Str.ofString "<module>") 278, Value.str (Str.ofString "/claim/cut.py") 279, Value.int 1 0, Value.int 0 0, Value.int 0 0, Value.int 0 0, Value.int 0 0, Value.ref 28, Value.bool false, Value.int 276 0, Value.ref 29, Value.none, Value.none, Value.none, Value.none, Value.int 280 0, Value.int 1 0, Value.str (Str.ofString "/claim/cut.py") 281] }
noncomputable def o72 (P : Params) : Obj := { cls := Value.type "frame", slots := #[some (Value.ref 30), some (Value.ref 3), some (Value.ref 3), none, some (Value.str (Str.ofString "__main__") 164), none, some (Value.ref 0)] }
noncomputable def o75 (P : Params) : Obj := { cls := Value.type "dict", data := Data.dict #[ent P "__name__" 165 (Value.str (Str.ofString "collections.abc") 326), ent P "__doc__" 166 (Value.none), ent P "__package__" 167 (Value.none), ent P "__loader__" 168 (Value.builtin "__main__.__loader__#opaque"), ent P "__spec__" 169 (Value.none), ent P "__annotations__" 170 (Value.ref 6), ent P "__builtins__" 171 (Value.ref 4), ent P "__file__" 173 (Value.str (Str.ofString "/claim/cut.py") 172), ent P "__cached__" 174 (Value.none), ent P "_sre" 275 (Value.ref 12), ent P "_wall" 288 (Value.ref 38), ent P "_plain_name" 299 (Value.ref 45), ent P "ABCMeta" 325 (Value.ref 62)] 13 }
noncomputable def o76 (P : Params) : Obj := { cls := Value.none, data := Data.fields #[Value.int 2 0, Value.int 0 0, Value.ref 37, Value.int 6 0, Value.int 0 0, Value.ref 44, Value.int 12 0, Value.int 0 0, Value.ref 51] }
noncomputable def o77 (P : Params) : Obj := { cls := Value.type "tuple", data := Data.seq #[] }
noncomputable def o78 (P : Params) : Obj := { cls := Value.none, data := Data.fields #[] }
noncomputable def o79 (P : Params) : Obj := { cls := Value.type "tuple", data := Data.seq #[Value.str (Str.ofString "k") 285] }
noncomputable def o80 (P : Params) : Obj := { cls := Value.type "tuple", data := Data.seq #[] }
noncomputable def o81 (P : Params) : Obj := rawO 1
noncomputable def o82 (P : Params) : Obj := { cls := Value.type "code", data := Data.fields #[Value.str (Str.ofString "_wall") 282, Value.str (Str.ofString "_wall") 283, Value.str (Str.ofString "/claim/cut.py") 284, Value.int 2 0, Value.int 1 0, Value.int 0 0, Value.int 0 0, Value.int 3 0, Value.ref 32, Value.bool true, Value.int 276 0, Value.ref 33, Value.none, Value.ref 34, Value.ref 35, Value.ref 36, Value.int 286 0, Value.int 2 0, Value.str (Str.ofString "/claim/cut.py") 287] }
noncomputable def o83 (P : Params) : Obj := fnO 1 "__main__" 164 37
noncomputable def o84 (P : Params) : Obj := { cls := Value.type "tuple", data := Data.seq #[] }
noncomputable def o85 (P : Params) : Obj := { cls := Value.none, data := Data.fields #[] }
noncomputable def o86 (P : Params) : Obj := { cls := Value.type "tuple", data := Data.seq #[Value.str (Str.ofString "x") 294, Value.str (Str.ofString "what") 295, Value.str (Str.ofString "kind") 296] }
noncomputable def o87 (P : Params) : Obj := { cls := Value.type "tuple", data := Data.seq #[] }
noncomputable def o88 (P : Params) : Obj := rawO 3
noncomputable def o89 (P : Params) : Obj := { cls := Value.type "code", data := Data.fields #[Value.str (Str.ofString "_plain_name") 291, Value.str (Str.ofString "_plain_name") 292, Value.str (Str.ofString "/claim/cut.py") 293, Value.int 6 0, Value.int 2 0, Value.int 0 0, Value.int 0 0, Value.int 3 0, Value.ref 39, Value.bool true, Value.int 276 0, Value.ref 40, Value.none, Value.ref 41, Value.ref 42, Value.ref 43, Value.int 297 0, Value.int 6 0, Value.str (Str.ofString "/claim/cut.py") 298] }
noncomputable def o90 (P : Params) : Obj := fnO 3 "os" 289 44
noncomputable def o91 (P : Params) : Obj := { cls := Value.type "tuple", data := Data.seq #[Value.type "type"] }
noncomputable def o92 (P : Params) : Obj := { cls := Value.type "builtin_function_or_method", data := Data.fields #[Value.builtin "type.__prepare__", Value.type "type"] }
noncomputable def o93 (P : Params) : Obj := { cls := Value.type "dict", data := Data.dict #[ent P "__module__" 309 (Value.str (Str.ofString "abc") 300), ent P "__qualname__" 311 (Value.str (Str.ofString "ABCMeta") 310), ent P "__firstlineno__" 313 (Value.int 12 312), ent P "register" 321 (Value.ref 59), ent P "__static_attributes__" 322 (Value.ref 60)] 5 }
noncomputable def o94 (P : Params) : Obj := { cls := Value.type "tuple", data := Data.seq #[] }
noncomputable def o95 (P : Params) : Obj := { cls := Value.none, data := Data.fields #[Value.int 14 0, Value.int 4 0, Value.ref 58] }
noncomputable def o96 (P : Params) : Obj := { cls := Value.type "code", data := Data.fields #[Value.str (Str.ofString "ABCMeta") 304, Value.str (Str.ofString "ABCMeta") 305, Value.str (Str.ofString "/claim/cut.py") 306, Value.int 12 0, Value.int 0 0, Value.int 0 0, Value.int 0 0, Value.int 0 0, Value.ref 49, Value.bool false, Value.int 276 0, Value.ref 50, Value.none, Value.none, Value.none, Value.none, Value.int 307 0, Value.int 12 0, Value.str (Str.ofString "/claim/cut.py") 308] }
noncomputable def o97 (P : Params) : Obj := { cls := Value.type "frame", slots := #[some (Value.ref 51), some (Value.ref 3), some (Value.ref 48), none, some (Value.str (Str.ofString "abc") 300), none, some (Value.ref 0)] }
noncomputable def o98 (P : Params) : Obj := { cls := Value.type "tuple", data := Data.seq #[] }
noncomputable def o99 (P : Params) : Obj := { cls := Value.none, data := Data.fields #[] }
noncomputable def o100 (P : Params) : Obj := { cls := Value.type "tuple", data := Data.seq #[Value.str (Str.ofString "cls") 317, Value.str (Str.ofString "subclass") 318] }
noncomputable def o101 (P : Params) : Obj := { cls := Value.type "tuple", data := Data.seq #[] }
noncomputable def o102 (P : Params) : Obj := rawQ (stIn 5 0) "ABCMeta.register"
noncomputable def o103 (P : Params) : Obj := { cls := Value.type "code", data := Data.fields #[Value.str (Str.ofString "register") 314, Value.str (Str.ofString "ABCMeta.register") 315, Value.str (Str.ofString "/claim/cut.py") 316, Value.int 14 0, Value.int 2 0, Value.int 0 0, Value.int 0 0, Value.int 3 0, Value.ref 53, Value.bool true, Value.int 276 0, Value.ref 54, Value.none, Value.ref 55, Value.ref 56, Value.ref 57, Value.int 319 0, Value.int 14 0, Value.str (Str.ofString "/claim/cut.py") 320] }
noncomputable def o104 (P : Params) : Obj := finQ (stIn 5 0) "ABCMeta.register" "abc" 300 58
noncomputable def o105 (P : Params) : Obj := { cls := Value.type "tuple", data := Data.seq #[] }
noncomputable def o106 (P : Params) : Obj := { cls := Value.type "dict", data := Data.dict #[ent P "__module__" 309 (Value.str (Str.ofString "abc") 300), ent P "__firstlineno__" 313 (Value.int 12 312), ent P "register" 321 (Value.ref 59), ent P "__static_attributes__" 322 (Value.ref 60), ent P "__doc__" 323 (Value.none)] 2 }
noncomputable def o107 (P : Params) : Obj := { cls := Value.type "type", data := Data.cls { name := Str.ofString "ABCMeta", bases := [Value.type "type"], mro := [Value.ref 62, Value.type "type", Value.type "object"], ns := 61, qualname := Str.ofString "ABCMeta" }, slots := #[some (Value.ref 46), none, some (Value.str (Str.ofString "ABCMeta") 302), some (Value.str (Str.ofString "ABCMeta") 310), some (Value.builtin "type.__new__"), some (Value.bool true)] }
noncomputable def o108 (P : Params) : Obj := { cls := Value.type "super", data := Data.fields #[Value.ref 62, Value.ref 62, Value.ref 62] }
noncomputable def o109 (P : Params) : Obj := { cls := Value.type "builtin_function_or_method", data := Data.fields #[Value.builtin "object.__init_subclass__", Value.ref 62] }
noncomputable def o110 (P : Params) : Obj := { cls := Value.type "dict", data := Data.dict #[ent P "__name__" 165 (Value.str (Str.ofString "cpy313.genericpath") 388), ent P "__doc__" 166 (Value.none), ent P "__package__" 167 (Value.none), ent P "__loader__" 168 (Value.builtin "__main__.__loader__#opaque"), ent P "__spec__" 169 (Value.none), ent P "__annotations__" 170 (Value.ref 6), ent P "__builtins__" 171 (Value.ref 4), ent P "__file__" 173 (Value.str (Str.ofString "/claim/cut.py") 172), ent P "__cached__" 174 (Value.none), ent P "_sre" 275 (Value.ref 12), ent P "_wall" 288 (Value.ref 38), ent P "_plain_name" 299 (Value.ref 45), ent P "ABCMeta" 325 (Value.ref 62), ent P "_ABCLike" 368 (Value.ref 95), ent P "_abc_plain_meta" 375 (Value.ref 104), ent P "fspath" 387 (Value.ref 111)] 16 }
noncomputable def o111 (P : Params) : Obj := { cls := Value.none, data := Data.fields #[Value.int 2 0, Value.int 0 0, Value.ref 37, Value.int 6 0, Value.int 0 0, Value.ref 44, Value.int 12 0, Value.int 0 0, Value.ref 51, Value.int 17 0, Value.int 0 0, Value.ref 70, Value.int 32 0, Value.int 0 0, Value.ref 103, Value.int 36 0, Value.int 0 0, Value.ref 110] }
noncomputable def o112 (P : Params) : Obj := { cls := Value.type "type", data := Data.cls { name := Str.ofString "ABCMeta", bases := [Value.type "type"], mro := [Value.ref 62, Value.type "type", Value.type "object"], ns := 61, qualname := Str.ofString "ABCMeta", subclasses := [Value.ref 95] }, slots := #[some (Value.ref 46), none, some (Value.str (Str.ofString "ABCMeta") 302), some (Value.str (Str.ofString "ABCMeta") 310), some (Value.builtin "type.__new__"), some (Value.bool true)] }
noncomputable def o113 (P : Params) : Obj := { cls := Value.type "tuple", data := Data.seq #[Value.ref 62] }
noncomputable def o114 (P : Params) : Obj := { cls := Value.type "builtin_function_or_method", data := Data.fields #[Value.builtin "type.__prepare__", Value.type "type"] }
noncomputable def o115 (P : Params) : Obj := { cls := Value.type "dict", data := Data.dict #[ent P "__module__" 335 (Value.str (Str.ofString "collections.abc") 326), ent P "__qualname__" 337 (Value.str (Str.ofString "_ABCLike") 336), ent P "__firstlineno__" 339 (Value.int 17 338), ent P "__instancecheck__" 348 (Value.ref 78), ent P "__subclasscheck__" 356 (Value.ref 85), ent P "register" 364 (Value.ref 92), ent P "__static_attributes__" 365 (Value.ref 93)] 7 }
noncomputable def o116 (P : Params) : Obj := { cls := Value.type "tuple", data := Data.seq #[] }
noncomputable def o117 (P : Params) : Obj := { cls := Value.none, data := Data.fields #[Value.int 19 0, Value.int 4 0, Value.ref 77, Value.int 25 0, Value.int 4 0, Value.ref 84, Value.int 30 0, Value.int 4 0, Value.ref 91] }
noncomputable def o118 (P : Params) : Obj := { cls := Value.type "code", data := Data.fields #[Value.str (Str.ofString "_ABCLike") 330, Value.str (Str.ofString "_ABCLike") 331, Value.str (Str.ofString "/claim/cut.py") 332, Value.int 17 0, Value.int 0 0, Value.int 0 0, Value.int 0 0, Value.int 0 0, Value.ref 68, Value.bool false, Value.int 276 0, Value.ref 69, Value.none, Value.none, Value.none, Value.none, Value.int 333 0, Value.int 17 0, Value.str (Str.ofString "/claim/cut.py") 334] }
noncomputable def o119 (P : Params) : Obj := { cls := Value.type "frame", slots := #[some (Value.ref 70), some (Value.ref 3), some (Value.ref 67), none, some (Value.str (Str.ofString "collections.abc") 326), none, some (Value.ref 0)] }
noncomputable def o120 (P : Params) : Obj := { cls := Value.type "tuple", data := Data.seq #[] }
noncomputable def o121 (P : Params) : Obj := { cls := Value.none, data := Data.fields #[] }
noncomputable def o122 (P : Params) : Obj := { cls := Value.type "tuple", data := Data.seq #[Value.str (Str.ofString "cls") 343, Value.str (⟨#[105, 110, 115, 116, 97, 110, 99, 101]⟩) 344, Value.str (Str.ofString "C") 345] }
noncomputable def o123 (P : Params) : Obj := { cls := Value.type "tuple", data := Data.seq #[] }
noncomputable def o124 (P : Params) : Obj := rawQ (stIn 7 0) "_ABCLike.__instancecheck__"
noncomputable def o125 (P : Params) : Obj := { cls := Value.type "code", data := Data.fields #[Value.str (Str.ofString "__instancecheck__") 340, Value.str (Str.ofString "_ABCLike.__instancecheck__") 341, Value.str (Str.ofString "/claim/cut.py") 342, Value.int 19 0, Value.int 2 0, Value.int 0 0, Value.int 0 0, Value.int 3 0, Value.ref 72, Value.bool true, Value.int 276 0, Value.ref 73, Value.none, Value.ref 74, Value.ref 75, Value.ref 76, Value.int 346 0, Value.int 19 0, Value.str (Str.ofString "/claim/cut.py") 347] }
noncomputable def o126 (P : Params) : Obj := finQ (stIn 7 0) "_ABCLike.__instancecheck__" "collections.abc" 326 77
noncomputable def o127 (P : Params) : Obj := { cls := Value.type "tuple", data := Data.seq #[] }
noncomputable def o128 (P : Params) : Obj := { cls := Value.none, data := Data.fields #[] }
noncomputable def o129 (P : Params) : Obj := { cls := Value.type "tuple", data := Data.seq #[Value.str (Str.ofString "cls") 352, Value.str (Str.ofString "C") 353] }
noncomputable def o130 (P : Params) : Obj := { cls := Value.type "tuple", data := Data.seq #[] }
noncomputable def o131 (P : Params) : Obj := rawQ (stIn 7 1) "_ABCLike.__subclasscheck__"
noncomputable def o132 (P : Params) : Obj := { cls := Value.type "code", data := Data.fields #[Value.str (Str.ofString "__subclasscheck__") 349, Value.str (Str.ofString "_ABCLike.__subclasscheck__") 350, Value.str (Str.ofString "/claim/cut.py") 351, Value.int 25 0, Value.int 2 0, Value.int 0 0, Value.int 0 0, Value.int 3 0, Value.ref 79, Value.bool true, Value.int 276 0, Value.ref 80, Value.none, Value.ref 81, Value.ref 82, Value.ref 83, Value.int 354 0, Value.int 25 0, Value.str (Str.ofString "/claim/cut.py") 355] }
noncomputable def o133 (P : Params) : Obj := finQ (stIn 7 1) "_ABCLike.__subclasscheck__" "collections.abc" 326 84
noncomputable def o134 (P : Params) : Obj := { cls := Value.type "tuple", data := Data.seq #[] }
noncomputable def o135 (P : Params) : Obj := { cls := Value.none, data := Data.fields #[] }
noncomputable def o136 (P : Params) : Obj := { cls := Value.type "tuple", data := Data.seq #[Value.str (Str.ofString "cls") 360, Value.str (Str.ofString "subclass") 361] }
noncomputable def o137 (P : Params) : Obj := { cls := Value.type "tuple", data := Data.seq #[] }
noncomputable def o138 (P : Params) : Obj := rawQ (stIn 7 2) "_ABCLike.register"
noncomputable def o139 (P : Params) : Obj := { cls := Value.type "code", data := Data.fields #[Value.str (Str.ofString "register") 357, Value.str (Str.ofString "_ABCLike.register") 358, Value.str (Str.ofString "/claim/cut.py") 359, Value.int 30 0, Value.int 2 0, Value.int 0 0, Value.int 0 0, Value.int 3 0, Value.ref 86, Value.bool true, Value.int 276 0, Value.ref 87, Value.none, Value.ref 88, Value.ref 89, Value.ref 90, Value.int 362 0, Value.int 30 0, Value.str (Str.ofString "/claim/cut.py") 363] }
noncomputable def o140 (P : Params) : Obj := finQ (stIn 7 2) "_ABCLike.register" "collections.abc" 326 91
noncomputable def o141 (P : Params) : Obj := { cls := Value.type "tuple", data := Data.seq #[] }
noncomputable def o142 (P : Params) : Obj := { cls := Value.type "dict", data := Data.dict #[ent P "__module__" 335 (Value.str (Str.ofString "collections.abc") 326), ent P "__firstlineno__" 339 (Value.int 17 338), ent P "__instancecheck__" 348 (Value.ref 78), ent P "__subclasscheck__" 356 (Value.ref 85), ent P "register" 364 (Value.ref 92), ent P "__static_attributes__" 365 (Value.ref 93), ent P "__doc__" 366 (Value.none)] 2 }
noncomputable def o143 (P : Params) : Obj := { cls := Value.type "type", data := Data.cls { name := Str.ofString "_ABCLike", bases := [Value.ref 62], mro := [Value.ref 95, Value.ref 62, Value.type "type", Value.type "object"], ns := 94, qualname := Str.ofString "_ABCLike" }, slots := #[some (Value.ref 65), none, some (Value.str (Str.ofString "_ABCLike") 328), some (Value.str (Str.ofString "_ABCLike") 336), some (Value.builtin "type.__new__"), some (Value.bool true)] }
noncomputable def o144 (P : Params) : Obj := { cls := Value.type "super", data := Data.fields #[Value.ref 95, Value.ref 95, Value.ref 95] }
noncomputable def o145 (P : Params) : Obj := { cls := Value.type "builtin_function_or_method", data := Data.fields #[Value.builtin "object.__init_subclass__", Value.ref 95] }
noncomputable def o146 (P : Params) : Obj := { cls := Value.type "tuple", data := Data.seq #[] }
noncomputable def o147 (P : Params) : Obj := { cls := Value.none, data := Data.fields #[] }
noncomputable def o148 (P : Params) : Obj := { cls := Value.type "tuple", data := Data.seq #[Value.str (Str.ofString "C") 372] }
noncomputable def o149 (P : Params) : Obj := { cls := Value.type "tuple", data := Data.seq #[] }
noncomputable def o150 (P : Params) : Obj := rawO 8
noncomputable def o151 (P : Params) : Obj := { cls := Value.type "code", data := Data.fields #[Value.str (Str.ofString "_abc_plain_meta") 369, Value.str (Str.ofString "_abc_plain_meta") 370, Value.str (Str.ofString "/claim/cut.py") 371, Value.int 32 0, Value.int 1 0, Value.int 0 0, Value.int 0 0, Value.int 3 0, Value.ref 98, Value.bool true, Value.int 276 0, Value.ref 99, Value.none, Value.ref 100, Value.ref 101, Value.ref 102, Value.int 373 0, Value.int 32 0, Value.str (Str.ofString "/claim/cut.py") 374] }
noncomputable def o152 (P : Params) : Obj := fnO 8 "collections.abc" 326 103
noncomputable def o153 (P : Params) : Obj := { cls := Value.type "tuple", data := Data.seq #[] }
noncomputable def o154 (P : Params) : Obj := { cls := Value.none, data := Data.fields #[] }
noncomputable def o155 (P : Params) : Obj := { cls := Value.type "tuple", data := Data.seq #[Value.str (Str.ofString "path") 381, Value.str (Str.ofString "kind") 382, Value.str (Str.ofString "hook") 383, Value.str (Str.ofString "given") 384] }
noncomputable def o156 (P : Params) : Obj := { cls := Value.type "tuple", data := Data.seq #[] }
noncomputable def o157 (P : Params) : Obj := rawO 10
noncomputable def o158 (P : Params) : Obj := { cls := Value.type "code", data := Data.fields #[Value.str (Str.ofString "fspath") 378, Value.str (Str.ofString "fspath") 379, Value.str (Str.ofString "/claim/cut.py") 380, Value.int 36 0, Value.int 1 0, Value.int 0 0, Value.int 0 0, Value.int 3 0, Value.ref 105, Value.bool true, Value.int 276 0, Value.ref 106, Value.none, Value.ref 107, Value.ref 108, Value.ref 109, Value.int 385 0, Value.int 36 0, Value.str (Str.ofString "/claim/cut.py") 386] }
noncomputable def o159 (P : Params) : Obj := fnO 10 "os" 376 110
noncomputable def o160 (P : Params) : Obj := { cls := Value.type "dict", data := Data.dict #[ent P "__name__" 165 (Value.str (Str.ofString "cpy313.heapq") 427), ent P "__doc__" 166 (Value.none), ent P "__package__" 167 (Value.none), ent P "__loader__" 168 (Value.builtin "__main__.__loader__#opaque"), ent P "__spec__" 169 (Value.none), ent P "__annotations__" 170 (Value.ref 6), ent P "__builtins__" 171 (Value.ref 4), ent P "__file__" 173 (Value.str (Str.ofString "/claim/cut.py") 172), ent P "__cached__" 174 (Value.none), ent P "_sre" 275 (Value.ref 12), ent P "_wall" 288 (Value.ref 38), ent P "_plain_name" 299 (Value.ref 45), ent P "ABCMeta" 325 (Value.ref 62), ent P "_ABCLike" 368 (Value.ref 95), ent P "_abc_plain_meta" 375 (Value.ref 104), ent P "fspath" 387 (Value.ref 111), ent P "_check_arg_types" 400 (Value.ref 118), ent P "_get_sep" 409 (Value.ref 125), ent P "join" 420 (Value.ref 132), ent P "commonpath" 426 (Value.ref 137), ent P "heappop" 437 (Value.ref 144), ent P "heapify" 446 (Value.ref 151), ent P "_heappop_max" 455 (Value.ref 158), ent P "_heapify_max" 464 (Value.ref 165), ent P "_siftdown" 476 (Value.ref 172), ent P "_siftup" 489 (Value.ref 179), ent P "_siftdown_max" 501 (Value.ref 186)] 27 }
noncomputable def o161 (P : Params) : Obj := { cls := Value.none, data := Data.fields #[Value.int 2 0, Value.int 0 0, Value.ref 37, Value.int 6 0, Value.int 0 0, Value.ref 44, Value.int 12 0, Value.int 0 0, Value.ref 51, Value.int 17 0, Value.int 0 0, Value.ref 70, Value.int 32 0, Value.int 0 0, Value.ref 103, Value.int 36 0, Value.int 0 0, Value.ref 110, Value.int 53 0, Value.int 0 0, Value.ref 117, Value.int 65 0, Value.int 0 0, Value.ref 124, Value.int 70 0, Value.int 0 0, Value.ref 131, Value.int 87 0, Value.int 0 0, Value.ref 136, Value.int 117 0, Value.int 0 0, Value.ref 143, Value.int 125 0, Value.int 0 0, Value.ref 150, Value.int 129 0, Value.int 0 0, Value.ref 157, Value.int 137 0, Value.int 0 0, Value.ref 164, Value.int 141 0, Value.int 0 0, Value.ref 171, Value.int 152 0, Value.int 0 0, Value.ref 178, Value.int 166 0, Value.int 0 0, Value.ref 185] }
noncomputable def o162 (P : Params) : Obj := { cls := Value.type "tuple", data := Data.seq #[] }
noncomputable def o163 (P : Params) : Obj := { cls := Value.none, data := Data.fields #[] }
noncomputable def o164 (P : Params) : Obj := { cls := Value.type "tuple", data := Data.seq #[Value.str (Str.ofString "funcname") 393, Value.str (Str.ofString "args") 394, Value.str (Str.ofString "hasstr") 395, Value.str (Str.ofString "hasbytes") 396, Value.str (Str.ofString "s") 397] }
noncomputable def o165 (P : Params) : Obj := { cls := Value.type "tuple", data := Data.seq #[] }
noncomputable def o166 (P : Params) : Obj := rawO 12
noncomputable def o167 (P : Params) : Obj := { cls := Value.type "code", data := Data.fields #[Value.str (Str.ofString "_check_arg_types") 390, Value.str (Str.ofString "_check_arg_types") 391, Value.str (Str.ofString "/claim/cut.py") 392, Value.int 53 0, Value.int 1 0, Value.int 0 0, Value.int 0 0, Value.int 7 0, Value.ref 112, Value.bool true, Value.int 276 0, Value.ref 113, Value.none, Value.ref 114, Value.ref 115, Value.ref 116, Value.int 398 0, Value.int 53 0, Value.str (Str.ofString "/claim/cut.py") 399] }
noncomputable def o168 (P : Params) : Obj := fnO 12 "cpy313.genericpath" 388 117
noncomputable def o169 (P : Params) : Obj := { cls := Value.type "tuple", data := Data.seq #[] }
noncomputable def o170 (P : Params) : Obj := { cls := Value.none, data := Data.fields #[] }
noncomputable def o171 (P : Params) : Obj := { cls := Value.type "tuple", data := Data.seq #[Value.str (Str.ofString "path") 406] }
noncomputable def o172 (P : Params) : Obj := { cls := Value.type "tuple", data := Data.seq #[] }
noncomputable def o173 (P : Params) : Obj := rawO 14
noncomputable def o174 (P : Params) : Obj := { cls := Value.type "code", data := Data.fields #[Value.str (Str.ofString "_get_sep") 403, Value.str (Str.ofString "_get_sep") 404, Value.str (Str.ofString "/claim/cut.py") 405, Value.int 65 0, Value.int 1 0, Value.int 0 0, Value.int 0 0, Value.int 3 0, Value.ref 119, Value.bool true, Value.int 276 0, Value.ref 120, Value.none, Value.ref 121, Value.ref 122, Value.ref 123, Value.int 407 0, Value.int 65 0, Value.str (Str.ofString "/claim/cut.py") 408] }
noncomputable def o175 (P : Params) : Obj := fnO 14 "cpy313.posixpath" 401 124
noncomputable def o176 (P : Params) : Obj := { cls := Value.type "tuple", data := Data.seq #[] }
noncomputable def o177 (P : Params) : Obj := { cls := Value.none, data := Data.fields #[] }
noncomputable def o178 (P : Params) : Obj := { cls := Value.type "tuple", data := Data.seq #[Value.str (Str.ofString "a") 413, Value.str (Str.ofString "p") 414, Value.str (Str.ofString "sep") 415, Value.str (Str.ofString "path") 416, Value.str (Str.ofString "b") 417] }
noncomputable def o179 (P : Params) : Obj := { cls := Value.type "tuple", data := Data.seq #[] }
noncomputable def o180 (P : Params) : Obj := rawO 15
noncomputable def o181 (P : Params) : Obj := { cls := Value.type "code", data := Data.fields #[Value.str (Str.ofString "join") 410, Value.str (Str.ofString "join") 411, Value.str (Str.ofString "/claim/cut.py") 412, Value.int 70 0, Value.int 1 0, Value.int 0 0, Value.int 0 0, Value.int 7 0, Value.ref 126, Value.bool true, Value.int 276 0, Value.ref 127, Value.none, Value.ref 128, Value.ref 129, Value.ref 130, Value.int 418 0, Value.int 70 0, Value.str (Str.ofString "/claim/cut.py") 419] }
noncomputable def o182 (P : Params) : Obj := fnO 15 "cpy313.posixpath" 401 131
noncomputable def o183 (P : Params) : Obj := { cls := Value.type "tuple", data := Data.seq #[] }
noncomputable def o184 (P : Params) : Obj := { cls := Value.none, data := Data.fields #[] }
noncomputable def o185 (P : Params) : Obj := rawO 16
noncomputable def o186 (P : Params) : Obj := { cls := Value.type "code", data := Data.fields #[Value.str (Str.ofString "commonpath") 421, Value.str (Str.ofString "commonpath") 422, Value.str (Str.ofString "/claim/cut.py") 423, Value.int 87 0, Value.int 1 0, Value.int 0 0, Value.int 0 0, Value.int 3 0, Value.ref 133, Value.bool true, Value.int 276 0, Value.ref 134, Value.none, Value.none, Value.none, Value.ref 135, Value.int 424 0, Value.int 87 0, Value.str (Str.ofString "/claim/cut.py") 425] }
noncomputable def o187 (P : Params) : Obj := fnO 16 "cpy313.posixpath" 401 136
noncomputable def o188 (P : Params) : Obj := { cls := Value.type "tuple", data := Data.seq #[] }
noncomputable def o189 (P : Params) : Obj := { cls := Value.none, data := Data.fields #[] }
noncomputable def o190 (P : Params) : Obj := { cls := Value.type "tuple", data := Data.seq #[Value.str (Str.ofString "heap") 432, Value.str (Str.ofString "lastelt") 433, Value.str (Str.ofString "returnitem") 434] }
noncomputable def o191 (P : Params) : Obj := { cls := Value.type "tuple", data := Data.seq #[] }
noncomputable def o192 (P : Params) : Obj := rawO 18
noncomputable def o193 (P : Params) : Obj := { cls := Value.type "code", data := Data.fields #[Value.str (Str.ofString "heappop") 429, Value.str (Str.ofString "heappop") 430, Value.str (Str.ofString "/claim/cut.py") 431, Value.int 117 0, Value.int 1 0, Value.int 0 0, Value.int 0 0, Value.int 3 0, Value.ref 138, Value.bool true, Value.int 276 0, Value.ref 139, Value.none, Value.ref 140, Value.ref 141, Value.ref 142, Value.int 435 0, Value.int 117 0, Value.str (Str.ofString "/claim/cut.py") 436] }
noncomputable def o194 (P : Params) : Obj := fnO 18 "cpy313.heapq" 427 143
noncomputable def o195 (P : Params) : Obj := { cls := Value.type "tuple", data := Data.seq #[] }
noncomputable def o196 (P : Params) : Obj := { cls := Value.none, data := Data.fields #[] }
noncomputable def o197 (P : Params) : Obj := { cls := Value.type "tuple", data := Data.seq #[Value.str (Str.ofString "x") 441, Value.str (Str.ofString "n") 442, Value.str (Str.ofString "i") 443] }
noncomputable def o198 (P : Params) : Obj := { cls := Value.type "tuple", data := Data.seq #[] }
noncomputable def o199 (P : Params) : Obj := rawO 19
noncomputable def o200 (P : Params) : Obj := { cls := Value.type "code", data := Data.fields #[Value.str (Str.ofString "heapify") 438, Value.str (Str.ofString "heapify") 439, Value.str (Str.ofString "/claim/cut.py") 440, Value.int 125 0, Value.int 1 0, Value.int 0 0, Value.int 0 0, Value.int 3 0, Value.ref 145, Value.bool true, Value.int 276 0, Value.ref 146, Value.none, Value.ref 147, Value.ref 148, Value.ref 149, Value.int 444 0, Value.int 125 0, Value.str (Str.ofString "/claim/cut.py") 445] }
noncomputable def o201 (P : Params) : Obj := fnO 19 "cpy313.heapq" 427 150
noncomputable def o202 (P : Params) : Obj := { cls := Value.type "tuple", data := Data.seq #[] }
noncomputable def o203 (P : Params) : Obj := { cls := Value.none, data := Data.fields #[] }
noncomputable def o204 (P : Params) : Obj := { cls := Value.type "tuple", data := Data.seq #[Value.str (Str.ofString "heap") 450, Value.str (Str.ofString "lastelt") 451, Value.str (Str.ofString "returnitem") 452] }
noncomputable def o205 (P : Params) : Obj := { cls := Value.type "tuple", data := Data.seq #[] }
noncomputable def o206 (P : Params) : Obj := rawO 20
noncomputable def o207 (P : Params) : Obj := { cls := Value.type "code", data := Data.fields #[Value.str (Str.ofString "_heappop_max") 447, Value.str (Str.ofString "_heappop_max") 448, Value.str (Str.ofString "/claim/cut.py") 449, Value.int 129 0, Value.int 1 0, Value.int 0 0, Value.int 0 0, Value.int 3 0, Value.ref 152, Value.bool true, Value.int 276 0, Value.ref 153, Value.none, Value.ref 154, Value.ref 155, Value.ref 156, Value.int 453 0, Value.int 129 0, Value.str (Str.ofString "/claim/cut.py") 454] }
noncomputable def o208 (P : Params) : Obj := fnO 20 "cpy313.heapq" 427 157
noncomputable def o209 (P : Params) : Obj := { cls := Value.type "tuple", data := Data.seq #[] }
noncomputable def o210 (P : Params) : Obj := { cls := Value.none, data := Data.fields #[] }
noncomputable def o211 (P : Params) : Obj := { cls := Value.type "tuple", data := Data.seq #[Value.str (Str.ofString "x") 459, Value.str (Str.ofString "n") 460, Value.str (Str.ofString "i") 461] }
noncomputable def o212 (P : Params) : Obj := { cls := Value.type "tuple", data := Data.seq #[] }
noncomputable def o213 (P : Params) : Obj := rawO 21
noncomputable def o214 (P : Params) : Obj := { cls := Value.type "code", data := Data.fields #[Value.str (Str.ofString "_heapify_max") 456, Value.str (Str.ofString "_heapify_max") 457, Value.str (Str.ofString "/claim/cut.py") 458, Value.int 137 0, Value.int 1 0, Value.int 0 0, Value.int 0 0, Value.int 3 0, Value.ref 159, Value.bool true, Value.int 276 0, Value.ref 160, Value.none, Value.ref 161, Value.ref 162, Value.ref 163, Value.int 462 0, Value.int 137 0, Value.str (Str.ofString "/claim/cut.py") 463] }
noncomputable def o215 (P : Params) : Obj := fnO 21 "cpy313.heapq" 427 164
noncomputable def o216 (P : Params) : Obj := { cls := Value.type "tuple", data := Data.seq #[] }
noncomputable def o217 (P : Params) : Obj := { cls := Value.none, data := Data.fields #[] }
noncomputable def o218 (P : Params) : Obj := { cls := Value.type "tuple", data := Data.seq #[Value.str (Str.ofString "heap") 468, Value.str (Str.ofString "startpos") 469, Value.str (Str.ofString "pos") 470, Value.str (Str.ofString "newitem") 471, Value.str (Str.ofString "parentpos") 472, Value.str (Str.ofString "parent") 473] }
noncomputable def o219 (P : Params) : Obj := { cls := Value.type "tuple", data := Data.seq #[] }
noncomputable def o220 (P : Params) : Obj := rawO 22
noncomputable def o221 (P : Params) : Obj := { cls := Value.type "code", data := Data.fields #[Value.str (Str.ofString "_siftdown") 465, Value.str (Str.ofString "_siftdown") 466, Value.str (Str.ofString "/claim/cut.py") 467, Value.int 141 0, Value.int 3 0, Value.int 0 0, Value.int 0 0, Value.int 3 0, Value.ref 166, Value.bool true, Value.int 276 0, Value.ref 167, Value.none, Value.ref 168, Value.ref 169, Value.ref 170, Value.int 474 0, Value.int 141 0, Value.str (Str.ofString "/claim/cut.py") 475] }
noncomputable def o222 (P : Params) : Obj := fnO 22 "cpy313.heapq" 427 171
noncomputable def o223 (P : Params) : Obj := { cls := Value.type "tuple", data := Data.seq #[] }
noncomputable def o224 (P : Params) : Obj := { cls := Value.none, data := Data.fields #[] }
noncomputable def o225 (P : Params) : Obj := { cls := Value.type "tuple", data := Data.seq #[Value.str (Str.ofString "heap") 480, Value.str (Str.ofString "pos") 481, Value.str (Str.ofString "endpos") 482, Value.str (Str.ofString "startpos") 483, Value.str (Str.ofString "newitem") 484, Value.str (Str.ofString "childpos") 485, Value.str (Str.ofString "rightpos") 486] }
noncomputable def o226 (P : Params) : Obj := { cls := Value.type "tuple", data := Data.seq #[] }
noncomputable def o227 (P : Params) : Obj := rawO 23
noncomputable def o228 (P : Params) : Obj := { cls := Value.type "code", data := Data.fields #[Value.str (Str.ofString "_siftup") 477, Value.str (Str.ofString "_siftup") 478, Value.str (Str.ofString "/claim/cut.py") 479, Value.int 152 0, Value.int 2 0, Value.int 0 0, Value.int 0 0, Value.int 3 0, Value.ref 173, Value.bool true, Value.int 276 0, Value.ref 174, Value.none, Value.ref 175, Value.ref 176, Value.ref 177, Value.int 487 0, Value.int 152 0, Value.str (Str.ofString "/claim/cut.py") 488] }
noncomputable def o229 (P : Params) : Obj := fnO 23 "cpy313.heapq" 427 178
noncomputable def o230 (P : Params) : Obj := { cls := Value.type "tuple", data := Data.seq #[] }
noncomputable def o231 (P : Params) : Obj := { cls := Value.none, data := Data.fields #[] }
noncomputable def o232 (P : Params) : Obj := { cls := Value.type "tuple", data := Data.seq #[Value.str (Str.ofString "heap") 493, Value.str (Str.ofString "startpos") 494, Value.str (Str.ofString "pos") 495, Value.str (Str.ofString "newitem") 496, Value.str (Str.ofString "parentpos") 497, Value.str (Str.ofString "parent") 498] }
noncomputable def o233 (P : Params) : Obj := { cls := Value.type "tuple", data := Data.seq #[] }
noncomputable def o234 (P : Params) : Obj := rawO 24
noncomputable def o235 (P : Params) : Obj := { cls := Value.type "code", data := Data.fields #[Value.str (Str.ofString "_siftdown_max") 490, Value.str (Str.ofString "_siftdown_max") 491, Value.str (Str.ofString "/claim/cut.py") 492, Value.int 166 0, Value.int 3 0, Value.int 0 0, Value.int 0 0, Value.int 3 0, Value.ref 180, Value.bool true, Value.int 276 0, Value.ref 181, Value.none, Value.ref 182, Value.ref 183, Value.ref 184, Value.int 499 0, Value.int 166 0, Value.str (Str.ofString "/claim/cut.py") 500] }
noncomputable def o236 (P : Params) : Obj := fnO 24 "cpy313.heapq" 427 185
noncomputable def o237 (P : Params) : Obj := { cls := Value.type "dict", data := Data.dict #[ent P "__name__" 165 (Value.str (Str.ofString "law_il0020_01") 584), ent P "__doc__" 166 (Value.none), ent P "__package__" 167 (Value.none), ent P "__loader__" 168 (Value.builtin "__main__.__loader__#opaque"), ent P "__spec__" 169 (Value.none), ent P "__annotations__" 170 (Value.ref 6), ent P "__builtins__" 171 (Value.ref 4), ent P "__file__" 173 (Value.str (Str.ofString "/claim/cut.py") 172), ent P "__cached__" 174 (Value.none), ent P "_sre" 275 (Value.ref 12), ent P "_wall" 288 (Value.ref 38), ent P "_plain_name" 299 (Value.ref 45), ent P "ABCMeta" 325 (Value.ref 62), ent P "_ABCLike" 368 (Value.ref 95), ent P "_abc_plain_meta" 375 (Value.ref 104), ent P "fspath" 387 (Value.ref 111), ent P "_check_arg_types" 400 (Value.ref 118), ent P "_get_sep" 409 (Value.ref 125), ent P "join" 420 (Value.ref 132), ent P "commonpath" 426 (Value.ref 137), ent P "heappop" 437 (Value.ref 144), ent P "heapify" 446 (Value.ref 151), ent P "_heappop_max" 455 (Value.ref 158), ent P "_heapify_max" 464 (Value.ref 165), ent P "_siftdown" 476 (Value.ref 172), ent P "_siftup" 489 (Value.ref 179), ent P "_siftdown_max" 501 (Value.ref 186), ent P "_siftup_max" 514 (Value.ref 193), ent P "_twin_re_1" 532 (Value.ref 198), ent P "_twin_re_2" 574 (Value.ref 203), ent P "CRLF" 576 (Value.str (Str.ofString "\x0d\n") 575), ent P "quotedata" 583 (Value.ref 210), ent P "_law_names" 595 (Value.ref 217), ent P "_law_paths" 601 (Value.ref 222), ent P "_law_quoted" 607 (Value.ref 227), ent P "_law_read" 613 (Value.ref 232), ent P "_law_pairs" 627 (Value.ref 239)] 37 }
noncomputable def o238 (P : Params) : Obj := { cls := Value.none, data := Data.fields #[Value.int 2 0, Value.int 0 0, Value.ref 37, Value.int 6 0, Value.int 0 0, Value.ref 44, Value.int 12 0, Value.int 0 0, Value.ref 51, Value.int 17 0, Value.int 0 0, Value.ref 70, Value.int 32 0, Value.int 0 0, Value.ref 103, Value.int 36 0, Value.int 0 0, Value.ref 110, Value.int 53 0, Value.int 0 0, Value.ref 117, Value.int 65 0, Value.int 0 0, Value.ref 124, Value.int 70 0, Value.int 0 0, Value.ref 131, Value.int 87 0, Value.int 0 0, Value.ref 136, Value.int 117 0, Value.int 0 0, Value.ref 143, Value.int 125 0, Value.int 0 0, Value.ref 150, Value.int 129 0, Value.int 0 0, Value.ref 157, Value.int 137 0, Value.int 0 0, Value.ref 164, Value.int 141 0, Value.int 0 0, Value.ref 171, Value.int 152 0, Value.int 0 0, Value.ref 178, Value.int 166 0, Value.int 0 0, Value.ref 185, Value.int 177 0, Value.int 0 0, Value.ref 192, Value.int 195 0, Value.int 0 0, Value.ref 209, Value.int 198 0, Value.int 0 0, Value.ref 216, Value.int 207 0, Value.int 0 0, Value.ref 221, Value.int 215 0, Value.int 0 0, Value.ref 226, Value.int 217 0, Value.int 0 0, Value.ref 231, Value.int 219 0, Value.int 0 0, Value.ref 238] }
noncomputable def o239 (P : Params) : Obj := { cls := Value.type "tuple", data := Data.seq #[] }
noncomputable def o240 (P : Params) : Obj := { cls := Value.none, data := Data.fields #[] }
noncomputable def o241 (P : Params) : Obj := { cls := Value.type "tuple", data := Data.seq #[Value.str (Str.ofString "heap") 505, Value.str (Str.ofString "pos") 506, Value.str (Str.ofString "endpos") 507, Value.str (Str.ofString "startpos") 508, Value.str (Str.ofString "newitem") 509, Value.str (Str.ofString "childpos") 510, Value.str (Str.ofString "rightpos") 511] }
noncomputable def o242 (P : Params) : Obj := { cls := Value.type "tuple", data := Data.seq #[] }
noncomputable def o243 (P : Params) : Obj := rawO 25
noncomputable def o244 (P : Params) : Obj := { cls := Value.type "code", data := Data.fields #[Value.str (Str.ofString "_siftup_max") 502, Value.str (Str.ofString "_siftup_max") 503, Value.str (Str.ofString "/claim/cut.py") 504, Value.int 177 0, Value.int 2 0, Value.int 0 0, Value.int 0 0, Value.int 3 0, Value.ref 187, Value.bool true, Value.int 276 0, Value.ref 188, Value.none, Value.ref 189, Value.ref 190, Value.ref 191, Value.int 512 0, Value.int 177 0, Value.str (Str.ofString "/claim/cut.py") 513] }
noncomputable def o245 (P : Params) : Obj := fnO 25 "cpy313.heapq" 427 192
noncomputable def o246 (P : Params) : Obj := { cls := Value.type "list", data := Data.seq #[Value.int 14 520, Value.int 4 521, Value.int 0 522, Value.int 1 523, Value.int 1 524, Value.int 6 525, Value.int 1 526, Value.int 16 527, Value.int 46 528, Value.int 1 529] }
noncomputable def o247 (P : Params) : Obj := { cls := Value.type "dict", data := Data.dict #[] }
noncomputable def o248 (P : Params) : Obj := { cls := Value.type "tuple", data := Data.seq #[Value.none] }
noncomputable def o249 (P : Params) : Obj := { cls := Value.type "tuple", data := Data.seq #[Value.int 14 0, Value.int 4 0, Value.int 0 0, Value.int 1 0, Value.int 1 0, Value.int 6 0, Value.int 1 0, Value.int 16 0, Value.int 46 0, Value.int 1 0] }
noncomputable def o250 (P : Params) : Obj := { cls := Value.type "re.Pattern", data := Data.fields #[Value.str (Str.ofString "(?m)^\\.") 518, Value.int 40 531, Value.int 0 0, Value.none, Value.none, Value.ref 197, Value.int 0 0] }
noncomputable def o251 (P : Params) : Obj := { cls := Value.type "list", data := Data.seq #[Value.int 14 536, Value.int 9 537, Value.int 4 538, Value.int 1 539, Value.int 2 540, Value.int 16 541, Value.int 10 542, Value.int 16 543, Value.int 13 544, Value.int 0 545, Value.int 7 546, Value.int 7 547, Value.int 16 548, Value.int 13 549, Value.int 16 550, Value.int 10 551, Value.int 15 552, Value.int 18 553, Value.int 5 554, Value.int 16 555, Value.int 10 556, Value.int 15 557, Value.int 13 558, Value.int 11 559, Value.int 16 560, Value.int 13 561, Value.int 5 562, Value.int 5 563, Value.int 0 564, Value.int 16 565, Value.int 10 566, Value.int 1 567, Value.int 15 568, Value.int 2 569, Value.int 0 570, Value.int 1 571] }
noncomputable def o252 (P : Params) : Obj := { cls := Value.type "dict", data := Data.dict #[] }
noncomputable def o253 (P : Params) : Obj := { cls := Value.type "tuple", data := Data.seq #[Value.none] }
noncomputable def o254 (P : Params) : Obj := { cls := Value.type "tuple", data := Data.seq #[Value.int 14 0, Value.int 9 0, Value.int 4 0, Value.int 1 0, Value.int 2 0, Value.int 16 0, Value.int 10 0, Value.int 16 0, Value.int 13 0, Value.int 0 0, Value.int 7 0, Value.int 7 0, Value.int 16 0, Value.int 13 0, Value.int 16 0, Value.int 10 0, Value.int 15 0, Value.int 18 0, Value.int 5 0, Value.int 16 0, Value.int 10 0, Value.int 15 0, Value.int 13 0, Value.int 11 0, Value.int 16 0, Value.int 13 0, Value.int 5 0, Value.int 5 0, Value.int 0 0, Value.int 16 0, Value.int 10 0, Value.int 1 0, Value.int 15 0, Value.int 2 0, Value.int 0 0, Value.int 1 0] }
noncomputable def o255 (P : Params) : Obj := { cls := Value.type "re.Pattern", data := Data.fields #[Value.str (Str.ofString "(?:\\r\\n|\\n|\\r(?!\\n))") 534, Value.int 32 573, Value.int 0 0, Value.none, Value.none, Value.ref 202, Value.int 0 0] }
noncomputable def o256 (P : Params) : Obj := { cls := Value.type "tuple", data := Data.seq #[] }
noncomputable def o257 (P : Params) : Obj := { cls := Value.none, data := Data.fields #[] }
noncomputable def o258 (P : Params) : Obj := { cls := Value.type "tuple", data := Data.seq #[Value.str (Str.ofString "data") 580] }
noncomputable def o259 (P : Params) : Obj := { cls := Value.type "tuple", data := Data.seq #[] }
noncomputable def o260 (P : Params) : Obj := rawO 30
noncomputable def o261 (P : Params) : Obj := { cls := Value.type "code", data := Data.fields #[Value.str (Str.ofString "quotedata") 577, Value.str (Str.ofString "quotedata") 578, Value.str (Str.ofString "/claim/cut.py") 579, Value.int 195 0, Value.int 1 0, Value.int 0 0, Value.int 0 0, Value.int 3 0, Value.ref 204, Value.bool true, Value.int 276 0, Value.ref 205, Value.none, Value.ref 206, Value.ref 207, Value.ref 208, Value.int 581 0, Value.int 195 0, Value.str (Str.ofString "/claim/cut.py") 582] }
noncomputable def o262 (P : Params) : Obj := fnO 30 "cpy313.smtplib" 515 209
noncomputable def o263 (P : Params) : Obj := { cls := Value.type "tuple", data := Data.seq #[] }
noncomputable def o264 (P : Params) : Obj := { cls := Value.none, data := Data.fields #[] }
noncomputable def o265 (P : Params) : Obj := { cls := Value.type "tuple", data := Data.seq #[Value.str (Str.ofString "u") 589, Value.str (Str.ofString "names") 590, Value.str (Str.ofString "digit") 591, Value.str (Str.ofString "code") 592] }
noncomputable def o266 (P : Params) : Obj := { cls := Value.type "tuple", data := Data.seq #[] }
noncomputable def o267 (P : Params) : Obj := rawO 32
noncomputable def o268 (P : Params) : Obj := { cls := Value.type "code", data := Data.fields #[Value.str (Str.ofString "_law_names") 586, Value.str (Str.ofString "_law_names") 587, Value.str (Str.ofString "/claim/cut.py") 588, Value.int 198 0, Value.int 1 0, Value.int 0 0, Value.int 0 0, Value.int 3 0, Value.ref 211, Value.bool true, Value.int 276 0, Value.ref 212, Value.none, Value.ref 213, Value.ref 214, Value.ref 215, Value.int 593 0, Value.int 198 0, Value.str (Str.ofString "/claim/cut.py") 594] }
noncomputable def o269 (P : Params) : Obj := fnO 32 "law_il0020_01" 584 216
noncomputable def o270 (P : Params) : Obj := { cls := Value.type "tuple", data := Data.seq #[] }
noncomputable def o271 (P : Params) : Obj := { cls := Value.none, data := Data.fields #[] }
noncomputable def o272 (P : Params) : Obj := rawO 33
noncomputable def o273 (P : Params) : Obj := { cls := Value.type "code", data := Data.fields #[Value.str (Str.ofString "_law_paths") 596, Value.str (Str.ofString "_law_paths") 597, Value.str (Str.ofString "/claim/cut.py") 598, Value.int 207 0, Value.int 1 0, Value.int 0 0, Value.int 0 0, Value.int 3 0, Value.ref 218, Value.bool true, Value.int 276 0, Value.ref 219, Value.none, Value.none, Value.none, Value.ref 220, Value.int 599 0, Value.int 207 0, Value.str (Str.ofString "/claim/cut.py") 600] }
noncomputable def o274 (P : Params) : Obj := fnO 33 "law_il0020_01" 584 221
noncomputable def o275 (P : Params) : Obj := { cls := Value.type "tuple", data := Data.seq #[] }
noncomputable def o276 (P : Params) : Obj := { cls := Value.none, data := Data.fields #[] }
noncomputable def o277 (P : Params) : Obj := rawO 34
noncomputable def o278 (P : Params) : Obj := { cls := Value.type "code", data := Data.fields #[Value.str (Str.ofString "_law_quoted") 602, Value.str (Str.ofString "_law_quoted") 603, Value.str (Str.ofString "/claim/cut.py") 604, Value.int 215 0, Value.int 1 0, Value.int 0 0, Value.int 0 0, Value.int 3 0, Value.ref 223, Value.bool true, Value.int 276 0, Value.ref 224, Value.none, Value.none, Value.none, Value.ref 225, Value.int 605 0, Value.int 215 0, Value.str (Str.ofString "/claim/cut.py") 606] }
noncomputable def o279 (P : Params) : Obj := fnO 34 "law_il0020_01" 584 226
noncomputable def o280 (P : Params) : Obj := { cls := Value.type "tuple", data := Data.seq #[] }
noncomputable def o281 (P : Params) : Obj := { cls := Value.none, data := Data.fields #[] }
noncomputable def o282 (P : Params) : Obj := rawO 35
noncomputable def o283 (P : Params) : Obj := { cls := Value.type "code", data := Data.fields #[Value.str (Str.ofString "_law_read") 608, Value.str (Str.ofString "_law_read") 609, Value.str (Str.ofString "/claim/cut.py") 610, Value.int 217 0, Value.int 1 0, Value.int 0 0, Value.int 0 0, Value.int 3 0, Value.ref 228, Value.bool true, Value.int 276 0, Value.ref 229, Value.none, Value.none, Value.none, Value.ref 230, Value.int 611 0, Value.int 217 0, Value.str (Str.ofString "/claim/cut.py") 612] }
noncomputable def o284 (P : Params) : Obj := fnO 35 "law_il0020_01" 584 231
noncomputable def o285 (P : Params) : Obj := { cls := Value.type "tuple", data := Data.seq #[] }
noncomputable def o286 (P : Params) : Obj := { cls := Value.none, data := Data.fields #[] }
noncomputable def o287 (P : Params) : Obj := { cls := Value.type "tuple", data := Data.seq #[Value.str (Str.ofString "chain") 617, Value.str (Str.ofString "rising") 618, Value.str (Str.ofString "pairs") 619, Value.str (Str.ofString "j") 620, Value.str (Str.ofString "i") 621, Value.str (Str.ofString "both") 622, Value.str (Str.ofString "common") 623, Value.str (Str.ofString "depth") 624] }
noncomputable def o288 (P : Params) : Obj := { cls := Value.type "tuple", data := Data.seq #[] }
noncomputable def o289 (P : Params) : Obj := rawO 36
noncomputable def o290 (P : Params) : Obj := { cls := Value.type "code", data := Data.fields #[Value.str (Str.ofString "_law_pairs") 614, Value.str (Str.ofString "_law_pairs") 615, Value.str (Str.ofString "/claim/cut.py") 616, Value.int 219 0, Value.int 2 0, Value.int 0 0, Value.int 0 0, Value.int 3 0, Value.ref 233, Value.bool true, Value.int 276 0, Value.ref 234, Value.none, Value.ref 235, Value.ref 236, Value.ref 237, Value.int 625 0, Value.int 219 0, Value.str (Str.ofString "/claim/cut.py") 626] }
noncomputable def o291 (P : Params) : Obj := fnO 36 "law_il0020_01" 584 238
noncomputable def o292 (P : Params) : Obj := { cls := Value.type "dict", data := Data.dict #[ent P "__name__" 165 (Value.str (Str.ofString "law_il0020_01") 584), ent P "__doc__" 166 (Value.none), ent P "__package__" 167 (Value.none), ent P "__loader__" 168 (Value.builtin "__main__.__loader__#opaque"), ent P "__spec__" 169 (Value.none), ent P "__annotations__" 170 (Value.ref 6), ent P "__builtins__" 171 (Value.ref 4), ent P "__file__" 173 (Value.str (Str.ofString "/claim/cut.py") 172), ent P "__cached__" 174 (Value.none), ent P "_sre" 275 (Value.ref 12), ent P "_wall" 288 (Value.ref 38), ent P "_plain_name" 299 (Value.ref 45), ent P "ABCMeta" 325 (Value.ref 62), ent P "_ABCLike" 368 (Value.ref 95), ent P "_abc_plain_meta" 375 (Value.ref 104), ent P "fspath" 387 (Value.ref 111), ent P "_check_arg_types" 400 (Value.ref 118), ent P "_get_sep" 409 (Value.ref 125), ent P "join" 420 (Value.ref 132), ent P "commonpath" 426 (Value.ref 137), ent P "heappop" 437 (Value.ref 144), ent P "heapify" 446 (Value.ref 151), ent P "_heappop_max" 455 (Value.ref 158), ent P "_heapify_max" 464 (Value.ref 165), ent P "_siftdown" 476 (Value.ref 172), ent P "_siftup" 489 (Value.ref 179), ent P "_siftdown_max" 501 (Value.ref 186), ent P "_siftup_max" 514 (Value.ref 193), ent P "_twin_re_1" 532 (Value.ref 198), ent P "_twin_re_2" 574 (Value.ref 203), ent P "CRLF" 576 (Value.str (Str.ofString "\x0d\n") 575), ent P "quotedata" 583 (Value.ref 210), ent P "_law_names" 595 (Value.ref 217), ent P "_law_paths" 601 (Value.ref 222), ent P "_law_quoted" 607 (Value.ref 227), ent P "_law_read" 613 (Value.ref 232), ent P "_law_pairs" 627 (Value.ref 239), ent P "_law_least" 638 (Value.ref 246), ent P "_law_heads" 649 (Value.ref 253), ent P "_law_net" 655 (Value.ref 258), ent P "_law_spared" 661 (Value.ref 263), ent P "law" 667 (Value.ref 268)] 42 }
noncomputable def o293 (P : Params) : Obj := { cls := Value.none, data := Data.fields #[Value.int 2 0, Value.int 0 0, Value.ref 37, Value.int 6 0, Value.int 0 0, Value.ref 44, Value.int 12 0, Value.int 0 0, Value.ref 51, Value.int 17 0, Value.int 0 0, Value.ref 70, Value.int 32 0, Value.int 0 0, Value.ref 103, Value.int 36 0, Value.int 0 0, Value.ref 110, Value.int 53 0, Value.int 0 0, Value.ref 117, Value.int 65 0, Value.int 0 0, Value.ref 124, Value.int 70 0, Value.int 0 0, Value.ref 131, Value.int 87 0, Value.int 0 0, Value.ref 136, Value.int 117 0, Value.int 0 0, Value.ref 143, Value.int 125 0, Value.int 0 0, Value.ref 150, Value.int 129 0, Value.int 0 0, Value.ref 157, Value.int 137 0, Value.int 0 0, Value.ref 164, Value.int 141 0, Value.int 0 0, Value.ref 171, Value.int 152 0, Value.int 0 0, Value.ref 178, Value.int 166 0, Value.int 0 0, Value.ref 185, Value.int 177 0, Value.int 0 0, Value.ref 192, Value.int 195 0, Value.int 0 0, Value.ref 209, Value.int 198 0, Value.int 0 0, Value.ref 216, Value.int 207 0, Value.int 0 0, Value.ref 221, Value.int 215 0, Value.int 0 0, Value.ref 226, Value.int 217 0, Value.int 0 0, Value.ref 231, Value.int 219 0, Value.int 0 0, Value.ref 238, Value.int 230 0, Value.int 0 0, Value.ref 245, Value.int 235 0, Value.int 0 0, Value.ref 252, Value.int 241 0, Value.int 0 0, Value.ref 257, Value.int 253 0, Value.int 0 0, Value.ref 262, Value.int 256 0, Value.int 0 0, Value.ref 267] }
noncomputable def o294 (P : Params) : Obj := { cls := Value.type "tuple", data := Data.seq #[] }
noncomputable def o295 (P : Params) : Obj := { cls := Value.none, data := Data.fields #[] }
noncomputable def o296 (P : Params) : Obj := { cls := Value.type "tuple", data := Data.seq #[Value.str (Str.ofString "pairs") 631, Value.str (Str.ofString "near") 632, Value.str (Str.ofString "depth") 633, Value.str (Str.ofString "i") 634, Value.str (Str.ofString "j") 635] }
noncomputable def o297 (P : Params) : Obj := { cls := Value.type "tuple", data := Data.seq #[] }
noncomputable def o298 (P : Params) : Obj := rawO 37
noncomputable def o299 (P : Params) : Obj := { cls := Value.type "code", data := Data.fields #[Value.str (Str.ofString "_law_least") 628, Value.str (Str.ofString "_law_least") 629, Value.str (Str.ofString "/claim/cut.py") 630, Value.int 230 0, Value.int 2 0, Value.int 0 0, Value.int 0 0, Value.int 3 0, Value.ref 240, Value.bool true, Value.int 276 0, Value.ref 241, Value.none, Value.ref 242, Value.ref 243, Value.ref 244, Value.int 636 0, Value.int 230 0, Value.str (Str.ofString "/claim/cut.py") 637] }
noncomputable def o300 (P : Params) : Obj := fnO 37 "law_il0020_01" 584 245
noncomputable def o301 (P : Params) : Obj := { cls := Value.type "tuple", data := Data.seq #[] }
noncomputable def o302 (P : Params) : Obj := { cls := Value.none, data := Data.fields #[] }
noncomputable def o303 (P : Params) : Obj := { cls := Value.type "tuple", data := Data.seq #[Value.str (Str.ofString "chain") 642, Value.str (Str.ofString "rising") 643, Value.str (Str.ofString "near") 644, Value.str (Str.ofString "many") 645, Value.str (Str.ofString "shared") 646] }
noncomputable def o304 (P : Params) : Obj := { cls := Value.type "tuple", data := Data.seq #[] }
noncomputable def o305 (P : Params) : Obj := rawO 38
noncomputable def o306 (P : Params) : Obj := { cls := Value.type "code", data := Data.fields #[Value.str (Str.ofString "_law_heads") 639, Value.str (Str.ofString "_law_heads") 640, Value.str (Str.ofString "/claim/cut.py") 641, Value.int 235 0, Value.int 3 0, Value.int 0 0, Value.int 0 0, Value.int 3 0, Value.ref 247, Value.bool true, Value.int 276 0, Value.ref 248, Value.none, Value.ref 249, Value.ref 250, Value.ref 251, Value.int 647 0, Value.int 235 0, Value.str (Str.ofString "/claim/cut.py") 648] }
noncomputable def o307 (P : Params) : Obj := fnO 38 "law_il0020_01" 584 252
noncomputable def o308 (P : Params) : Obj := { cls := Value.type "tuple", data := Data.seq #[] }
noncomputable def o309 (P : Params) : Obj := { cls := Value.none, data := Data.fields #[] }
noncomputable def o310 (P : Params) : Obj := rawO 39
noncomputable def o311 (P : Params) : Obj := { cls := Value.type "code", data := Data.fields #[Value.str (Str.ofString "_law_net") 650, Value.str (Str.ofString "_law_net") 651, Value.str (Str.ofString "/claim/cut.py") 652, Value.int 241 0, Value.int 2 0, Value.int 0 0, Value.int 0 0, Value.int 3 0, Value.ref 254, Value.bool true, Value.int 276 0, Value.ref 255, Value.none, Value.none, Value.none, Value.ref 256, Value.int 653 0, Value.int 241 0, Value.str (Str.ofString "/claim/cut.py") 654] }
noncomputable def o312 (P : Params) : Obj := fnO 39 "law_il0020_01" 584 257
noncomputable def o313 (P : Params) : Obj := { cls := Value.type "tuple", data := Data.seq #[] }
noncomputable def o314 (P : Params) : Obj := { cls := Value.none, data := Data.fields #[] }
noncomputable def o315 (P : Params) : Obj := rawO 40
noncomputable def o316 (P : Params) : Obj := { cls := Value.type "code", data := Data.fields #[Value.str (Str.ofString "_law_spared") 656, Value.str (Str.ofString "_law_spared") 657, Value.str (Str.ofString "/claim/cut.py") 658, Value.int 253 0, Value.int 1 0, Value.int 0 0, Value.int 0 0, Value.int 3 0, Value.ref 259, Value.bool true, Value.int 276 0, Value.ref 260, Value.none, Value.none, Value.none, Value.ref 261, Value.int 659 0, Value.int 253 0, Value.str (Str.ofString "/claim/cut.py") 660] }
noncomputable def o317 (P : Params) : Obj := fnO 40 "law_il0020_01" 584 262
noncomputable def o318 (P : Params) : Obj := { cls := Value.type "tuple", data := Data.seq #[] }
noncomputable def o319 (P : Params) : Obj := { cls := Value.none, data := Data.fields #[] }
noncomputable def o320 (P : Params) : Obj := rawO 41
noncomputable def o321 (P : Params) : Obj := { cls := Value.type "code", data := Data.fields #[Value.str (Str.ofString "law") 662, Value.str (Str.ofString "law") 663, Value.str (Str.ofString "/claim/cut.py") 664, Value.int 256 0, Value.int 1 0, Value.int 0 0, Value.int 0 0, Value.int 3 0, Value.ref 264, Value.bool true, Value.int 276 0, Value.ref 265, Value.none, Value.none, Value.none, Value.ref 266, Value.int 665 0, Value.int 256 0, Value.str (Str.ofString "/claim/cut.py") 666] }
noncomputable def o322 (P : Params) : Obj := fnO 41 "law_il0020_01" 584 267
noncomputable def T0 (P : Params) : BT := .node (o41 P) (.node (o42 P) (.node (o44 P) (.node (o48 P) (.node (o56 P) (.node (o72 P) .nil .nil) .nil) (.node (o64 P) .nil .nil)) (.node (o52 P) (.node (o60 P) .nil .nil) (.node (o68 P) .nil .nil))) (.node (o46 P) (.node (o50 P) (.node (o58 P) .nil .nil) (.node (o66 P) .nil .nil)) (.node (o54 P) (.node (o62 P) .nil .nil) (.node (o70 P) .nil .nil)))) (.node (o43 P) (.node (o45 P) (.node (o49 P) (.node (o57 P) .nil .nil) (.node (o65 P) .nil .nil)) (.node (o53 P) (.node (o61 P) .nil .nil) (.node (o69 P) .nil .nil))) (.node (o47 P) (.node (o51 P) (.node (o59 P) .nil .nil) (.node (o67 P) .nil .nil)) (.node (o55 P) (.node (o63 P) .nil .nil) (.node (o71 P) .nil .nil))))
noncomputable def T1 (P : Params) : BT := .node (o41 P) (.node (o42 P) (.node (o75 P) (.node (o48 P) (.node (o56 P) (.node (o72 P) (.node (o108 P) .nil .nil) .nil) (.node (o92 P) .nil .nil)) (.node (o64 P) (.node (o84 P) .nil .nil) (.node (o100 P) .nil .nil))) (.node (o52 P) (.node (o60 P) (.node (o80 P) .nil .nil) (.node (o96 P) .nil .nil)) (.node (o68 P) (.node (o88 P) .nil .nil) (.node (o104 P) .nil .nil)))) (.node (o46 P) (.node (o50 P) (.node (o58 P) (.node (o78 P) .nil .nil) (.node (o94 P) .nil .nil)) (.node (o66 P) (.node (o86 P) .nil .nil) (.node (o102 P) .nil .nil))) (.node (o54 P) (.node (o62 P) (.node (o82 P) .nil .nil) (.node (o98 P) .nil .nil)) (.node (o76 P) (.node (o90 P) .nil .nil) (.node (o106 P) .nil .nil))))) (.node (o43 P) (.node (o45 P) (.node (o49 P) (.node (o57 P) (.node (o77 P) (.node (o109 P) .nil .nil) .nil) (.node (o93 P) .nil .nil)) (.node (o65 P) (.node (o85 P) .nil .nil) (.node (o101 P) .nil .nil))) (.node (o53 P) (.node (o61 P) (.node (o81 P) .nil .nil) (.node (o97 P) .nil .nil)) (.node (o69 P) (.node (o89 P) .nil .nil) (.node (o105 P) .nil .nil)))) (.node (o47 P) (.node (o51 P) (.node (o59 P) (.node (o79 P) .nil .nil) (.node (o95 P) .nil .nil)) (.node (o67 P) (.node (o87 P) .nil .nil) (.node (o103 P) .nil .nil))) (.node (o55 P) (.node (o63 P) (.node (o83 P) .nil .nil) (.node (o99 P) .nil .nil)) (.node (o71 P) (.node (o91 P) .nil .nil) (.node (o107 P) .nil .nil)))))
noncomputable def T2 (P : Params) : BT := .node (o41 P) (.node (o42 P) (.node (o110 P) (.node (o48 P) (.node (o56 P) (.node (o72 P) (.node (o108 P) .nil .nil) (.node (o143 P) .nil .nil)) (.node (o92 P) (.node (o127 P) .nil .nil) (.node (o159 P) .nil .nil))) (.node (o64 P) (.node (o84 P) (.node (o119 P) .nil .nil) (.node (o151 P) .nil .nil)) (.node (o100 P) (.node (o135 P) .nil .nil) .nil))) (.node (o52 P) (.node (o60 P) (.node (o80 P) (.node (o115 P) .nil .nil) (.node (o147 P) .nil .nil)) (.node (o96 P) (.node (o131 P) .nil .nil) .nil)) (.node (o68 P) (.node (o88 P) (.node (o123 P) .nil .nil) (.node (o155 P) .nil .nil)) (.node (o104 P) (.node (o139 P) .nil .nil) .nil)))) (.node (o46 P) (.node (o50 P) (.node (o58 P) (.node (o78 P) (.node (o113 P) .nil .nil) (.node (o145 P) .nil .nil)) (.node (o94 P) (.node (o129 P) .nil .nil) .nil)) (.node (o66 P) (.node (o86 P) (.node (o121 P) .nil .nil) (.node (o153 P) .nil .nil)) (.node (o102 P) (.node (o137 P) .nil .nil) .nil))) (.node (o54 P) (.node (o62 P) (.node (o82 P) (.node (o117 P) .nil .nil) (.node (o149 P) .nil .nil)) (.node (o98 P) (.node (o133 P) .nil .nil) .nil)) (.node (o111 P) (.node (o90 P) (.node (o125 P) .nil .nil) (.node (o157 P) .nil .nil)) (.node (o106 P) (.node (o141 P) .nil .nil) .nil))))) (.node (o43 P) (.node (o45 P) (.node (o49 P) (.node (o57 P) (.node (o77 P) (.node (o109 P) .nil .nil) (.node (o144 P) .nil .nil)) (.node (o93 P) (.node (o128 P) .nil .nil) .nil)) (.node (o65 P) (.node (o85 P) (.node (o120 P) .nil .nil) (.node (o152 P) .nil .nil)) (.node (o101 P) (.node (o136 P) .nil .nil) .nil))) (.node (o53 P) (.node (o61 P) (.node (o81 P) (.node (o116 P) .nil .nil) (.node (o148 P) .nil .nil)) (.node (o97 P) (.node (o132 P) .nil .nil) .nil)) (.node (o69 P) (.node (o89 P) (.node (o124 P) .nil .nil) (.node (o156 P) .nil .nil)) (.node (o105 P) (.node (o140 P) .nil .nil) .nil)))) (.node (o47 P) (.node (o51 P) (.node (o59 P) (.node (o79 P) (.node (o114 P) .nil .nil) (.node (o146 P) .nil .nil)) (.node (o95 P) (.node (o130 P) .nil .nil) .nil)) (.node (o67 P) (.node (o87 P) (.node (o122 P) .nil .nil) (.node (o154 P) .nil .nil)) (.node (o103 P) (.node (o138 P) .nil .nil) .nil))) (.node (o55 P) (.node (o63 P) (.node (o83 P) (.node (o118 P) .nil .nil) (.node (o150 P) .nil .nil)) (.node (o99 P) (.node (o134 P) .nil .nil) .nil)) (.node (o71 P) (.node (o91 P) (.node (o126 P) .nil .nil) (.node (o158 P) .nil .nil)) (.node (o112 P) (.node (o142 P) .nil .nil) .nil)))))
noncomputable def T3 (P : Params) : BT := .node (o41 P) (.node (o42 P) (.node (o160 P) (.node (o48 P) (.node (o56 P) (.node (o72 P) (.node (o108 P) (.node (o177 P) .nil .nil) .nil) (.node (o143 P) (.node (o209 P) .nil .nil) .nil)) (.node (o92 P) (.node (o127 P) (.node (o193 P) .nil .nil) .nil) (.node (o159 P) (.node (o225 P) .nil .nil) .nil))) (.node (o64 P) (.node (o84 P) (.node (o119 P) (.node (o185 P) .nil .nil) .nil) (.node (o151 P) (.node (o217 P) .nil .nil) .nil)) (.node (o100 P) (.node (o135 P) (.node (o201 P) .nil .nil) .nil) (.node (o169 P) (.node (o233 P) .nil .nil) .nil)))) (.node (o52 P) (.node (o60 P) (.node (o80 P) (.node (o115 P) (.node (o181 P) .nil .nil) .nil) (.node (o147 P) (.node (o213 P) .nil .nil) .nil)) (.node (o96 P) (.node (o131 P) (.node (o197 P) .nil .nil) .nil) (.node (o165 P) (.node (o229 P) .nil .nil) .nil))) (.node (o68 P) (.node (o88 P) (.node (o123 P) (.node (o189 P) .nil .nil) .nil) (.node (o155 P) (.node (o221 P) .nil .nil) .nil)) (.node (o104 P) (.node (o139 P) (.node (o205 P) .nil .nil) .nil) (.node (o173 P) .nil .nil))))) (.node (o46 P) (.node (o50 P) (.node (o58 P) (.node (o78 P) (.node (o113 P) (.node (o179 P) .nil .nil) .nil) (.node (o145 P) (.node (o211 P) .nil .nil) .nil)) (.node (o94 P) (.node (o129 P) (.node (o195 P) .nil .nil) .nil) (.node (o163 P) (.node (o227 P) .nil .nil) .nil))) (.node (o66 P) (.node (o86 P) (.node (o121 P) (.node (o187 P) .nil .nil) .nil) (.node (o153 P) (.node (o219 P) .nil .nil) .nil)) (.node (o102 P) (.node (o137 P) (.node (o203 P) .nil .nil) .nil) (.node (o171 P) (.node (o235 P) .nil .nil) .nil)))) (.node (o54 P) (.node (o62 P) (.node (o82 P) (.node (o117 P) (.node (o183 P) .nil .nil) .nil) (.node (o149 P) (.node (o215 P) .nil .nil) .nil)) (.node (o98 P) (.node (o133 P) (.node (o199 P) .nil .nil) .nil) (.node (o167 P) (.node (o231 P) .nil .nil) .nil))) (.node (o161 P) (.node (o90 P) (.node (o125 P) (.node (o191 P) .nil .nil) .nil) (.node (o157 P) (.node (o223 P) .nil .nil) .nil)) (.node (o106 P) (.node (o141 P) (.node (o207 P) .nil .nil) .nil) (.node (o175 P) .nil .nil)))))) (.node (o43 P) (.node (o45 P) (.node (o49 P) (.node (o57 P) (.node (o77 P) (.node (o109 P) (.node (o178 P) .nil .nil) .nil) (.node (o144 P) (.node (o210 P) .nil .nil) .nil)) (.node (o93 P) (.node (o128 P) (.node (o194 P) .nil .nil) .nil) (.node (o162 P) (.node (o226 P) .nil .nil) .nil))) (.node (o65 P) (.node (o85 P) (.node (o120 P) (.node (o186 P) .nil .nil) .nil) (.node (o152 P) (.node (o218 P) .nil .nil) .nil)) (.node (o101 P) (.node (o136 P) (.node (o202 P) .nil .nil) .nil) (.node (o170 P) (.node (o234 P) .nil .nil) .nil)))) (.node (o53 P) (.node (o61 P) (.node (o81 P) (.node (o116 P) (.node (o182 P) .nil .nil) .nil) (.node (o148 P) (.node (o214 P) .nil .nil) .nil)) (.node (o97 P) (.node (o132 P) (.node (o198 P) .nil .nil) .nil) (.node (o166 P) (.node (o230 P) .nil .nil) .nil))) (.node (o69 P) (.node (o89 P) (.node (o124 P) (.node (o190 P) .nil .nil) .nil) (.node (o156 P) (.node (o222 P) .nil .nil) .nil)) (.node (o105 P) (.node (o140 P) (.node (o206 P) .nil .nil) .nil) (.node (o174 P) .nil .nil))))) (.node (o47 P) (.node (o51 P) (.node (o59 P) (.node (o79 P) (.node (o114 P) (.node (o180 P) .nil .nil) .nil) (.node (o146 P) (.node (o212 P) .nil .nil) .nil)) (.node (o95 P) (.node (o130 P) (.node (o196 P) .nil .nil) .nil) (.node (o164 P) (.node (o228 P) .nil .nil) .nil))) (.node (o67 P) (.node (o87 P) (.node (o122 P) (.node (o188 P) .nil .nil) .nil) (.node (o154 P) (.node (o220 P) .nil .nil) .nil)) (.node (o103 P) (.node (o138 P) (.node (o204 P) .nil .nil) .nil) (.node (o172 P) (.node (o236 P) .nil .nil) .nil)))) (.node (o55 P) (.node (o63 P) (.node (o83 P) (.node (o118 P) (.node (o184 P) .nil .nil) .nil) (.node (o150 P) (.node (o216 P) .nil .nil) .nil)) (.node (o99 P) (.node (o134 P) (.node (o200 P) .nil .nil) .nil) (.node (o168 P) (.node (o232 P) .nil .nil) .nil))) (.node (o71 P) (.node (o91 P) (.node (o126 P) (.node (o192 P) .nil .nil) .nil) (.node (o158 P) (.node (o224 P) .nil .nil) .nil)) (.node (o112 P) (.node (o142 P) (.node (o208 P) .nil .nil) .nil) (.node (o176 P) .nil .nil))))))
noncomputable def T4 (P : Params) : BT := .node (o41 P) (.node (o42 P) (.node (o237 P) (.node (o48 P) (.node (o56 P) (.node (o72 P) (.node (o108 P) (.node (o177 P) .nil .nil) (.node (o243 P) .nil .nil)) (.node (o143 P) (.node (o209 P) .nil .nil) (.node (o275 P) .nil .nil))) (.node (o92 P) (.node (o127 P) (.node (o193 P) .nil .nil) (.node (o259 P) .nil .nil)) (.node (o159 P) (.node (o225 P) .nil .nil) (.node (o291 P) .nil .nil)))) (.node (o64 P) (.node (o84 P) (.node (o119 P) (.node (o185 P) .nil .nil) (.node (o251 P) .nil .nil)) (.node (o151 P) (.node (o217 P) .nil .nil) (.node (o283 P) .nil .nil))) (.node (o100 P) (.node (o135 P) (.node (o201 P) .nil .nil) (.node (o267 P) .nil .nil)) (.node (o169 P) (.node (o233 P) .nil .nil) .nil)))) (.node (o52 P) (.node (o60 P) (.node (o80 P) (.node (o115 P) (.node (o181 P) .nil .nil) (.node (o247 P) .nil .nil)) (.node (o147 P) (.node (o213 P) .nil .nil) (.node (o279 P) .nil .nil))) (.node (o96 P) (.node (o131 P) (.node (o197 P) .nil .nil) (.node (o263 P) .nil .nil)) (.node (o165 P) (.node (o229 P) .nil .nil) .nil))) (.node (o68 P) (.node (o88 P) (.node (o123 P) (.node (o189 P) .nil .nil) (.node (o255 P) .nil .nil)) (.node (o155 P) (.node (o221 P) .nil .nil) (.node (o287 P) .nil .nil))) (.node (o104 P) (.node (o139 P) (.node (o205 P) .nil .nil) (.node (o271 P) .nil .nil)) (.node (o173 P) (.node (o239 P) .nil .nil) .nil))))) (.node (o46 P) (.node (o50 P) (.node (o58 P) (.node (o78 P) (.node (o113 P) (.node (o179 P) .nil .nil) (.node (o245 P) .nil .nil)) (.node (o145 P) (.node (o211 P) .nil .nil) (.node (o277 P) .nil .nil))) (.node (o94 P) (.node (o129 P) (.node (o195 P) .nil .nil) (.node (o261 P) .nil .nil)) (.node (o163 P) (.node (o227 P) .nil .nil) .nil))) (.node (o66 P) (.node (o86 P) (.node (o121 P) (.node (o187 P) .nil .nil) (.node (o253 P) .nil .nil)) (.node (o153 P) (.node (o219 P) .nil .nil) (.node (o285 P) .nil .nil))) (.node (o102 P) (.node (o137 P) (.node (o203 P) .nil .nil) (.node (o269 P) .nil .nil)) (.node (o171 P) (.node (o235 P) .nil .nil) .nil)))) (.node (o54 P) (.node (o62 P) (.node (o82 P) (.node (o117 P) (.node (o183 P) .nil .nil) (.node (o249 P) .nil .nil)) (.node (o149 P) (.node (o215 P) .nil .nil) (.node (o281 P) .nil .nil))) (.node (o98 P) (.node (o133 P) (.node (o199 P) .nil .nil) (.node (o265 P) .nil .nil)) (.node (o167 P) (.node (o231 P) .nil .nil) .nil))) (.node (o238 P) (.node (o90 P) (.node (o125 P) (.node (o191 P) .nil .nil) (.node (o257 P) .nil .nil)) (.node (o157 P) (.node (o223 P) .nil .nil) (.node (o289 P) .nil .nil))) (.node (o106 P) (.node (o141 P) (.node (o207 P) .nil .nil) (.node (o273 P) .nil .nil)) (.node (o175 P) (.node (o241 P) .nil .nil) .nil)))))) (.node (o43 P) (.node (o45 P) (.node (o49 P) (.node (o57 P) (.node (o77 P) (.node (o109 P) (.node (o178 P) .nil .nil) (.node (o244 P) .nil .nil)) (.node (o144 P) (.node (o210 P) .nil .nil) (.node (o276 P) .nil .nil))) (.node (o93 P) (.node (o128 P) (.node (o194 P) .nil .nil) (.node (o260 P) .nil .nil)) (.node (o162 P) (.node (o226 P) .nil .nil) .nil))) (.node (o65 P) (.node (o85 P) (.node (o120 P) (.node (o186 P) .nil .nil) (.node (o252 P) .nil .nil)) (.node (o152 P) (.node (o218 P) .nil .nil) (.node (o284 P) .nil .nil))) (.node (o101 P) (.node (o136 P) (.node (o202 P) .nil .nil) (.node (o268 P) .nil .nil)) (.node (o170 P) (.node (o234 P) .nil .nil) .nil)))) (.node (o53 P) (.node (o61 P) (.node (o81 P) (.node (o116 P) (.node (o182 P) .nil .nil) (.node (o248 P) .nil .nil)) (.node (o148 P) (.node (o214 P) .nil .nil) (.node (o280 P) .nil .nil))) (.node (o97 P) (.node (o132 P) (.node (o198 P) .nil .nil) (.node (o264 P) .nil .nil)) (.node (o166 P) (.node (o230 P) .nil .nil) .nil))) (.node (o69 P) (.node (o89 P) (.node (o124 P) (.node (o190 P) .nil .nil) (.node (o256 P) .nil .nil)) (.node (o156 P) (.node (o222 P) .nil .nil) (.node (o288 P) .nil .nil))) (.node (o105 P) (.node (o140 P) (.node (o206 P) .nil .nil) (.node (o272 P) .nil .nil)) (.node (o174 P) (.node (o240 P) .nil .nil) .nil))))) (.node (o47 P) (.node (o51 P) (.node (o59 P) (.node (o79 P) (.node (o114 P) (.node (o180 P) .nil .nil) (.node (o246 P) .nil .nil)) (.node (o146 P) (.node (o212 P) .nil .nil) (.node (o278 P) .nil .nil))) (.node (o95 P) (.node (o130 P) (.node (o196 P) .nil .nil) (.node (o262 P) .nil .nil)) (.node (o164 P) (.node (o228 P) .nil .nil) .nil))) (.node (o67 P) (.node (o87 P) (.node (o122 P) (.node (o188 P) .nil .nil) (.node (o254 P) .nil .nil)) (.node (o154 P) (.node (o220 P) .nil .nil) (.node (o286 P) .nil .nil))) (.node (o103 P) (.node (o138 P) (.node (o204 P) .nil .nil) (.node (o270 P) .nil .nil)) (.node (o172 P) (.node (o236 P) .nil .nil) .nil)))) (.node (o55 P) (.node (o63 P) (.node (o83 P) (.node (o118 P) (.node (o184 P) .nil .nil) (.node (o250 P) .nil .nil)) (.node (o150 P) (.node (o216 P) .nil .nil) (.node (o282 P) .nil .nil))) (.node (o99 P) (.node (o134 P) (.node (o200 P) .nil .nil) (.node (o266 P) .nil .nil)) (.node (o168 P) (.node (o232 P) .nil .nil) .nil))) (.node (o71 P) (.node (o91 P) (.node (o126 P) (.node (o192 P) .nil .nil) (.node (o258 P) .nil .nil)) (.node (o158 P) (.node (o224 P) .nil .nil) (.node (o290 P) .nil .nil))) (.node (o112 P) (.node (o142 P) (.node (o208 P) .nil .nil) (.node (o274 P) .nil .nil)) (.node (o176 P) (.node (o242 P) .nil .nil) .nil))))))
noncomputable def T5 (P : Params) : BT := .node (o41 P) (.node (o42 P) (.node (o292 P) (.node (o48 P) (.node (o56 P) (.node (o72 P) (.node (o108 P) (.node (o177 P) (.node (o309 P) .nil .nil) .nil) (.node (o243 P) .nil .nil)) (.node (o143 P) (.node (o209 P) .nil .nil) (.node (o275 P) .nil .nil))) (.node (o92 P) (.node (o127 P) (.node (o193 P) .nil .nil) (.node (o259 P) .nil .nil)) (.node (o159 P) (.node (o225 P) .nil .nil) (.node (o291 P) .nil .nil)))) (.node (o64 P) (.node (o84 P) (.node (o119 P) (.node (o185 P) (.node (o317 P) .nil .nil) .nil) (.node (o251 P) .nil .nil)) (.node (o151 P) (.node (o217 P) .nil .nil) (.node (o283 P) .nil .nil))) (.node (o100 P) (.node (o135 P) (.node (o201 P) .nil .nil) (.node (o267 P) .nil .nil)) (.node (o169 P) (.node (o233 P) .nil .nil) (.node (o301 P) .nil .nil))))) (.node (o52 P) (.node (o60 P) (.node (o80 P) (.node (o115 P) (.node (o181 P) (.node (o313 P) .nil .nil) .nil) (.node (o247 P) .nil .nil)) (.node (o147 P) (.node (o213 P) .nil .nil) (.node (o279 P) .nil .nil))) (.node (o96 P) (.node (o131 P) (.node (o197 P) .nil .nil) (.node (o263 P) .nil .nil)) (.node (o165 P) (.node (o229 P) .nil .nil) (.node (o297 P) .nil .nil)))) (.node (o68 P) (.node (o88 P) (.node (o123 P) (.node (o189 P) (.node (o321 P) .nil .nil) .nil) (.node (o255 P) .nil .nil)) (.node (o155 P) (.node (o221 P) .nil .nil) (.node (o287 P) .nil .nil))) (.node (o104 P) (.node (o139 P) (.node (o205 P) .nil .nil) (.node (o271 P) .nil .nil)) (.node (o173 P) (.node (o239 P) .nil .nil) (.node (o305 P) .nil .nil)))))) (.node (o46 P) (.node (o50 P) (.node (o58 P) (.node (o78 P) (.node (o113 P) (.node (o179 P) (.node (o311 P) .nil .nil) .nil) (.node (o245 P) .nil .nil)) (.node (o145 P) (.node (o211 P) .nil .nil) (.node (o277 P) .nil .nil))) (.node (o94 P) (.node (o129 P) (.node (o195 P) .nil .nil) (.node (o261 P) .nil .nil)) (.node (o163 P) (.node (o227 P) .nil .nil) (.node (o295 P) .nil .nil)))) (.node (o66 P) (.node (o86 P) (.node (o121 P) (.node (o187 P) (.node (o319 P) .nil .nil) .nil) (.node (o253 P) .nil .nil)) (.node (o153 P) (.node (o219 P) .nil .nil) (.node (o285 P) .nil .nil))) (.node (o102 P) (.node (o137 P) (.node (o203 P) .nil .nil) (.node (o269 P) .nil .nil)) (.node (o171 P) (.node (o235 P) .nil .nil) (.node (o303 P) .nil .nil))))) (.node (o54 P) (.node (o62 P) (.node (o82 P) (.node (o117 P) (.node (o183 P) (.node (o315 P) .nil .nil) .nil) (.node (o249 P) .nil .nil)) (.node (o149 P) (.node (o215 P) .nil .nil) (.node (o281 P) .nil .nil))) (.node (o98 P) (.node (o133 P) (.node (o199 P) .nil .nil) (.node (o265 P) .nil .nil)) (.node (o167 P) (.node (o231 P) .nil .nil) (.node (o299 P) .nil .nil)))) (.node (o293 P) (.node (o90 P) (.node (o125 P) (.node (o191 P) .nil .nil) (.node (o257 P) .nil .nil)) (.node (o157 P) (.node (o223 P) .nil .nil) (.node (o289 P) .nil .nil))) (.node (o106 P) (.node (o141 P) (.node (o207 P) .nil .nil) (.node (o273 P) .nil .nil)) (.node (o175 P) (.node (o241 P) .nil .nil) (.node (o307 P) .nil .nil))))))) (.node (o43 P) (.node (o45 P) (.node (o49 P) (.node (o57 P) (.node (o77 P) (.node (o109 P) (.node (o178 P) (.node (o310 P) .nil .nil) .nil) (.node (o244 P) .nil .nil)) (.node (o144 P) (.node (o210 P) .nil .nil) (.node (o276 P) .nil .nil))) (.node (o93 P) (.node (o128 P) (.node (o194 P) .nil .nil) (.node (o260 P) .nil .nil)) (.node (o162 P) (.node (o226 P) .nil .nil) (.node (o294 P) .nil .nil)))) (.node (o65 P) (.node (o85 P) (.node (o120 P) (.node (o186 P) (.node (o318 P) .nil .nil) .nil) (.node (o252 P) .nil .nil)) (.node (o152 P) (.node (o218 P) .nil .nil) (.node (o284 P) .nil .nil))) (.node (o101 P) (.node (o136 P) (.node (o202 P) .nil .nil) (.node (o268 P) .nil .nil)) (.node (o170 P) (.node (o234 P) .nil .nil) (.node (o302 P) .nil .nil))))) (.node (o53 P) (.node (o61 P) (.node (o81 P) (.node (o116 P) (.node (o182 P) (.node (o314 P) .nil .nil) .nil) (.node (o248 P) .nil .nil)) (.node (o148 P) (.node (o214 P) .nil .nil) (.node (o280 P) .nil .nil))) (.node (o97 P) (.node (o132 P) (.node (o198 P) .nil .nil) (.node (o264 P) .nil .nil)) (.node (o166 P) (.node (o230 P) .nil .nil) (.node (o298 P) .nil .nil)))) (.node (o69 P) (.node (o89 P) (.node (o124 P) (.node (o190 P) (.node (o322 P) .nil .nil) .nil) (.node (o256 P) .nil .nil)) (.node (o156 P) (.node (o222 P) .nil .nil) (.node (o288 P) .nil .nil))) (.node (o105 P) (.node (o140 P) (.node (o206 P) .nil .nil) (.node (o272 P) .nil .nil)) (.node (o174 P) (.node (o240 P) .nil .nil) (.node (o306 P) .nil .nil)))))) (.node (o47 P) (.node (o51 P) (.node (o59 P) (.node (o79 P) (.node (o114 P) (.node (o180 P) (.node (o312 P) .nil .nil) .nil) (.node (o246 P) .nil .nil)) (.node (o146 P) (.node (o212 P) .nil .nil) (.node (o278 P) .nil .nil))) (.node (o95 P) (.node (o130 P) (.node (o196 P) .nil .nil) (.node (o262 P) .nil .nil)) (.node (o164 P) (.node (o228 P) .nil .nil) (.node (o296 P) .nil .nil)))) (.node (o67 P) (.node (o87 P) (.node (o122 P) (.node (o188 P) (.node (o320 P) .nil .nil) .nil) (.node (o254 P) .nil .nil)) (.node (o154 P) (.node (o220 P) .nil .nil) (.node (o286 P) .nil .nil))) (.node (o103 P) (.node (o138 P) (.node (o204 P) .nil .nil) (.node (o270 P) .nil .nil)) (.node (o172 P) (.node (o236 P) .nil .nil) (.node (o304 P) .nil .nil))))) (.node (o55 P) (.node (o63 P) (.node (o83 P) (.node (o118 P) (.node (o184 P) (.node (o316 P) .nil .nil) .nil) (.node (o250 P) .nil .nil)) (.node (o150 P) (.node (o216 P) .nil .nil) (.node (o282 P) .nil .nil))) (.node (o99 P) (.node (o134 P) (.node (o200 P) .nil .nil) (.node (o266 P) .nil .nil)) (.node (o168 P) (.node (o232 P) .nil .nil) (.node (o300 P) .nil .nil)))) (.node (o71 P) (.node (o91 P) (.node (o126 P) (.node (o192 P) .nil .nil) (.node (o258 P) .nil .nil)) (.node (o158 P) (.node (o224 P) .nil .nil) (.node (o290 P) .nil .nil))) (.node (o112 P) (.node (o142 P) (.node (o208 P) .nil .nil) (.node (o274 P) .nil .nil)) (.node (o176 P) (.node (o242 P) .nil .nil) (.node (o308 P) .nil .nil)))))))
noncomputable def H0 (P : Params) : Heap := ⟨#[o41 P, o42 P, o43 P, o44 P, o45 P, o46 P, o47 P, o48 P, o49 P, o50 P, o51 P, o52 P, o53 P, o54 P, o55 P, o56 P, o57 P, o58 P, o59 P, o60 P, o61 P, o62 P, o63 P, o64 P, o65 P, o66 P, o67 P, o68 P], {}⟩
noncomputable def Ha (P : Params) : Heap := ⟨#[o41 P, o42 P, o43 P, o44 P, o45 P, o46 P, o47 P, o48 P, o49 P, o50 P, o51 P, o52 P, o53 P, o54 P, o55 P, o56 P, o57 P, o58 P, o59 P, o60 P, o61 P, o62 P, o63 P, o64 P, o65 P, o66 P, o67 P, o68 P, o69 P, o70 P, o71 P, o72 P], {}⟩
noncomputable abbrev pw : Program := PySem.Challenge.pw_il0020_01
noncomputable def envE : Env := { scope := pw.main.scope, locals := mainNs, globals := mainNs, cells := [], code := .ref 30, frame := some 31 }
noncomputable def cE : Code := .body (behindTheImports pw) envE
noncomputable def p0 : Pos := ⟨0, 0, 0, 0⟩
noncomputable def S (T : BT) (n k : Nat) (os : OsState) : SharedT := ⟨T, n, {}, #[], {}, k, os⟩
noncomputable def grp (a b : Nat) : List Stmt := ((behindTheImports pw).drop a).take b
theorem pc_open' (w : World) : fencedOpening treeTable pw w 3276 = some ⟨H0 w.params, #[], {}, 276, (start (opening pw)).1.os⟩ := by kernel_rfl
theorem pc_open (w : World) : (fencedOpening treeTable pw w 3276).map (fun s => (s.heap, s.gens, s.drawn, s.toks)) = some (H0 w.params, #[], {}, 276) := by
  rw [pc_open' w]; rfl
theorem pc_size (w : World) : ((H0 w.params).isNs mainGlobals && (#[] : Array GenState).size == 0, (H0 w.params).objs.size, (H0 w.params).nsMap mainGlobals "__annotations__") = (true, 28, some (.ref 6)) := by kernel_rfl
theorem pc_pre (w : World) (os : OsState) : topGo treeTable pw w 28 (some (.ref 6)) 12 ⟨H0 w.params, #[], {}, 276, os⟩ (topStub pw) = some (⟨Ha w.params, #[], {}, 282, os⟩, ⟨denote treeTable cE, cE, p0, [topFrame p0]⟩) := by kernel_rfl
theorem pc_block (w : World) (os : OsState) : segRun treeTable pw w 28 (some (.ref 6)) 1 1 ⟨Ha w.params, #[], {}, 282, os⟩ (blockOf (behindTheImports pw) envE cE p0 [topFrame p0]) = some (.next, (S (T0 w.params) 32 282 os).abs, cE, p0) := by kernel_rfl
theorem pc_0 (w : World) (os : OsState) : segRunT treeTable pw w 28 (some (.ref 6)) 1 297 (S (T0 w.params) 32 282 os) (piecesOf (grp 0 6) envE cE p0 [topFrame p0]) = some (.next, S (T1 w.params) 65 328 os, cE, ⟨16, 0, 16, 8⟩) := by kernel_rfl
theorem pc_1 (w : World) (os : OsState) : segRunT treeTable pw w 28 (some (.ref 6)) 1 389 (S (T1 w.params) 65 328 os) (piecesOf (grp 6 5) envE cE ⟨16, 0, 16, 8⟩ [topFrame p0]) = some (.next, S (T2 w.params) 112 390 os, cE, ⟨52, 0, 52, 8⟩) := by kernel_rfl
theorem pc_2 (w : World) (os : OsState) : segRunT treeTable pw w 28 (some (.ref 6)) 1 367 (S (T2 w.params) 112 390 os) (piecesOf (grp 11 13) envE cE ⟨52, 0, 52, 8⟩ [topFrame p0]) = some (.next, S (T3 w.params) 187 502 os, cE, ⟨166, 0, 176, 23⟩) := by kernel_rfl
theorem pc_3 (w : World) (os : OsState) : segRunT treeTable pw w 28 (some (.ref 6)) 1 382 (S (T3 w.params) 187 502 os) (piecesOf (grp 24 12) envE cE ⟨166, 0, 176, 23⟩ [topFrame p0]) = some (.next, S (T4 w.params) 240 628 os, cE, ⟨219, 0, 229, 16⟩) := by kernel_rfl
theorem pc_4 (w : World) (os : OsState) : segRunT treeTable pw w 28 (some (.ref 6)) 1 145 (S (T4 w.params) 240 628 os) (piecesOf (grp 36 5) envE cE ⟨219, 0, 229, 16⟩ [topFrame p0]) = some (.next, S (T5 w.params) 269 668 os, cE, ⟨256, 0, 274, 87⟩) := by kernel_rfl
theorem pc_fin (w : World) (os : OsState) : topRun treeTable pw w 28 (some (.ref 6)) 2 (S (T5 w.params) 269 668 os).abs ⟨doneF .next, cE, ⟨256, 0, 274, 87⟩, [topFrame p0]⟩ = some (S (T5 w.params) 269 668 os).abs := by kernel_rfl
theorem pc_body : behindTheImports pw = grp 0 6 ++ (grp 6 5 ++ (grp 11 13 ++ (grp 24 12 ++ (grp 36 5 ++ [])))) := by kernel_rfl
theorem pc_run (w : World) (os : OsState) : topRun treeTable pw w 28 (some (.ref 6)) (12 + (1 + (297 + (389 + (367 + (382 + (145 + 2))))))) ⟨H0 w.params, #[], {}, 276, os⟩ (topStub pw) = some (S (T5 w.params) 269 668 os).abs := by
  refine go_top (pc_pre w os) (piece_block (pc_block w os) ?_)
  have k := piece_app (segRun_of (pc_0 w os)) (piece_app (segRun_of (pc_1 w os)) (piece_app (segRun_of (pc_2 w os)) (piece_app (segRun_of (pc_3 w os)) (piece_app (segRun_of (pc_4 w os)) (piece_nil (pc_fin w os))))))
  rw [← pc_body] at k
  exact k
theorem pc_look1 (w : World) (os : OsState) : (staticsOk (importedModules pw.main.body) (H0 w.params) (absHeap (T5 w.params) 269 {}) && namesBound pw (absHeap (T5 w.params) 269 {}) && gensDone ⟨absHeap (T5 w.params) 269 {}, #[], {}, 668, os⟩ && laidKept (H0 w.params) (absHeap (T5 w.params) 269 {})) = true := by kernel_rfl
theorem pc_look2 (w : World) (os : OsState) : openSeen view loose (importedModules pw.main.body) (fun s => xlAt view [] s && recOk rowW.records s) true ⟨absHeap (T5 w.params) 269 {}, #[], {}, 668, os⟩ = openGood view loose := by kernel_rfl
theorem pc_look3 (w : World) (os : OsState) : hook.obs ⟨absHeap (T5 w.params) 269 {}, #[], {}, 668, os⟩ = hook.val w := by kernel_rfl
theorem ran : LeftO PySem.Challenge.pw_il0020_01 view loose (fun s => xlAt view [] s && recOk rowW.records s) hook.obs hook.val 3276 :=
  LeftO.of_pieces (H₀ := H0) (H₁ := fun P => absHeap (T5 P) 269 {}) pc_open pc_size (fun w os => pc_run w os) (by rfl) fun w => funext fun os => by
    rw [pc_look1 w os, pc_look2 w os, pc_look3 w os]
end
section
open PySem PySem.W PyProof.Rows
set_option autoImplicit false
set_option linter.unusedVariables false
set_option maxRecDepth 100000
set_option maxHeartbeats 8000000
theorem ns_same {h : Heap} {a : Addr} {m m' : Str → Option Value} (x : h.Ns a m) (y : h.Ns a m') (n : Str) : m n = m' n := by
  obtain ⟨o, es, ep, e, d, _, f⟩ := x
  obtain ⟨o', es', ep', e', d', _, f'⟩ := y
  rw [e] at e'; cases e'
  rw [d] at d'; cases d'
  rw [← f, ← f']
theorem bs_of {w : World} {mb : Str → Option Value} {h : Heap} (k : hook.says w h) (b : h.Ns builtinsNs mb) (l : h.NoLimit) (e : ∀ x : Str, x ≠ Str.ofString "__name__" → mb x = bootBuiltins x) : Bs w mb h.get? where
  k := k.1
  b := fun g hg => by
    obtain ⟨o, es, ep, e, r⟩ := b
    exact ⟨o, es, ep, hg _ _ e, r⟩
  lim := fun g hg => by
    obtain ⟨mc, ⟨o, es, ep, e, r⟩, q⟩ := l
    exact ⟨mc, ⟨o, es, ep, hg _ _ e, r⟩, q⟩
  boot := e
  code := fun g hg p hp => (k.2 p hp).keeps hg
theorem rep_ints {P : Part} : ∀ {vs : List Value} {ns : List Int}, IntsAre vs ns → RepAll P vs (ns.map .int) := by
  intro vs ns h
  induction h with
  | nil => exact .nil
  | cons => rename_i ih; exact .cons (.int _ _) ih
theorem well_list {p : Params} {h : Heap} {a : Addr} {xs : List WData} (x : Well p h (.ref a) (.list xs)) : ∃ vs : List Value, h.get? a = some (lst vs.toArray 0) := by
  cases x with
  | list e _ => exact ⟨_, e⟩
noncomputable def lawD : DefRec := match (PySem.Challenge.pw_il0020_01.main.body[41]? : Option Stmt) with
  | some (Stmt.FunctionDef n ps b _ _ _ sc _ _ po) => { name := n, params := ps, body := b, scope := sc, pos := po }
  | _ => { name := Str.ofString "", params := { posonlyargs := [], args := [], vararg := none, kwonlyargs := [], kw_defaults := [], kwarg := none, defaults := [] }, body := [], scope := { kind := .function, names := [], isGenerator := false, isCoroutine := false }, pos := ⟨0, 0, 0, 0⟩ }
theorem lawD_name : lawD.name = Str.ofString "law" := by kernel_rfl
theorem lawD_of : defOf view PySem.Challenge.rw_il0020_01.row.name = some (lawD, []) := by kernel_rfl
theorem lawD_the : PySem.Challenge.pw_il0020_01.theDef PySem.Challenge.rw_il0020_01.row.name = some (lawD.params, lawD.body, lawD.scope) := by kernel_rfl
theorem lawD_kw : kwWritten? lawD.params.kwonlyargs lawD.params.kw_defaults = some [] := by kernel_rfl
theorem looks_ok : (chainsOk view && opensWell PySem.Challenge.pw_il0020_01 && (frees rowW && rowW.within.isEmpty)) = true := by decide +kernel
theorem head (walk : WalkO view loose (XL view []) hook.says rowW lawD [] fun f vs => call f vs) (pr : PySem.Challenge.rw_il0020_01.row.promised) : PySem.Challenge.rw_il0020_01.Holds :=
  holds_law said fun sd => holds_open (q := view) (loose := loose) (Xt := fun s => xlAt view [] s && recOk rowW.records s) (XP := XL view []) (Yf := hook.obs) (Ya := hook.val) (YP := hook.says) (N := 3276) ran hook.of hook.keeps
    (fun s e => xl_of s (Bool.and_eq_true_iff.mp e).1) XL.keeps lawD_of lawD_the lawD_kw (fun s e => recFacts_of (Bool.and_eq_true_iff.mp e).2) rfl sd looks_ok ⟨rfl, rfl, rfl, rfl, rfl, by decide +kernel⟩ pr walk
end
end
end Mine
open PySem PySem.W PyProof.Rows
set_option autoImplicit false
set_option linter.unusedVariables false
set_option maxRecDepth 100000
set_option maxHeartbeats 8000000
theorem PySem.Challenge.cw_il0020_01_holds : PySem.Challenge.rw_il0020_01.Holds := by
  w_on
  refine Mine.head ?hc ?hw
  case hw => w_witness2
  intro w s₀ s₁ mg mb G Y fa o pm cd doc dV kV ho hd' hcd hD hmg hg args vals as hpre hlay hrd hwl hlo
  have Tb := G.T.b
  have Tn := G.T.nolimit
  have Tbi := G.T.builtins
  have Tg := G.T.g
  have hmg' : mg (Str.ofString "law") = some (.ref fa) := by rw [← Mine.lawD_name]; exact hmg
  clear ho hd' hcd hD hmg
  wrow_args hpre hlay hrd hwl hlo
  clear G
  rename_i ns _ _ _ _ _ _ _ sa vs _ hL ra w1 r0 hI _ hc _
  have X := Mine.bs_of Y Tb Tn Tbi
  have hfa : fa = 268 := by
    have e := Mine.ns_same Tg (X.g fun b o e => e) (Str.ofString "law")
    rw [hmg', Mine.mg_law] at e
    injection e with e; injection e
  subst hfa
  obtain ⟨vs', hv'⟩ := Mine.well_list (show Well w.params s₁.heap (.ref sa) (.list _) from w1)
  have e : vs' = vs := by
    obtain ⟨o, e1, _, n, e2⟩ := hL
    rw [hv'] at e1; cases e1
    injection e2 with e3 _
    simpa using e3
  subst e
  refine Mine.law_spec X (fun b o e => e) ⟨rfl, by decide, by decide⟩ (.list hv' (Mine.rep_ints hI)) (Nat.le_trans (Int.ofNat_le.mp (Int.not_lt.mp hc)) (Nat.le_of_ble_eq_true rfl)) fun P' s' R => ?_
  obtain ⟨h', tk, e⟩ := R.same
  refine ⟨.inl ⟨_, .bool true, [], rfl, fun cls => rfl, .bool true, ?_, fun _ => ⟨List.nodup_nil, fun a ha => nomatch ha⟩⟩, ?_, by rw [e], .of_eq (by rw [e]; exact hg)⟩
  · wrow_post
  · exact .of_keep fun b o e => R.old b o e
