import PyProof.Rows.All
import Wide.All
import OpenK.AllK
import Wide.FinOn
import PySem.Challenge.RW_nq0248_01
set_option Elab.async false
namespace Mine
section
open PySem PySem.W PyProof.Rows PySem.Calls PySem.Spec PyProof.Rows.LCg
inductive Ex1 : {α : Type} → Sem α → Prop
  | a (s e) : Ex1 (exec s e)
  | b (s e) : Ex1 (execs s e)
inductive Go1 : {α : Type} → Sem α → Prop
  | a (vs) : Go1 (call (Value.ref 28) vs)
  | b (vs) : Go1 (call (Value.ref 35) vs)
  | c (vs) : Go1 (call (Value.ref 94) vs)
  | d (vs) : Go1 (call (Value.ref 109) vs)
  | e (vs) : Go1 (call (Value.ref 191) vs)
  | f (vs) : Go1 (call (Value.ref 233) vs)
inductive St1 : {α : Type} → Sem α → Prop
  | a (p1 p2 p3 p4 p5 e) : St1 (exec (PySem.Stmt.For p1 p2 p3 p4 p5) e)
  | b (p1 p2 p3 p4 e) : St1 (exec (PySem.Stmt.While p1 p2 p3 p4) e)
  | c (v) : St1 (pyIter v)
  | d (p1 p2 p3 p4 e) : St1 (eval (PySem.Expr.ListComp p1 p2 p3 p4) e)
  | e (t p1 p2 p3 p4 p5 e) : St1 (exec (PySem.Stmt.Assign t (PySem.Expr.ListComp p1 p2 p3 p4) p5) e)
  | f (v p1 p2 p3 p4 e f) : St1 (subscriptTail v (PySem.Expr.Slice p1 p2 (some p3) p4) e f)
  | g (vs) : St1 (call (Value.builtin "sum") vs)
  | h (vs) : St1 (call (Value.builtin "sorted") vs)
  | i (v) : St1 (joinParts v [])
  | j (v e) : St1 (joinParts v (evalEach [] e))
  | k (a vs) : St1 (call (Value.ref a) vs)
  | l (vs) : St1 (call (Value.builtin "list.count") vs)
  | m (vs) : St1 (call (Value.builtin "max") vs)
  | n (vs) : St1 (call (Value.builtin "dict.values") vs)
  | o (vs) : St1 (call (Value.builtin "set.add") vs)
  | p (vs) : St1 (call (Value.builtin "iter") vs)
  | q (vs) : St1 (call (Value.builtin "list.pop") vs)
  | r (vs) : St1 (call (Value.builtin "dict.get") vs)
  | s (vs) : St1 (call (Value.builtin "list.clear") vs)
  | t (a b) : St1 (delItem a b)
  | u (a b) : St1 (compareOp CmpOp.In a (Value.ref b))
  | v (a b) : St1 (compareOp CmpOp.NotIn a (Value.ref b))
  | w (a b) : St1 (compareOp CmpOp.Eq (Value.ref a) (Value.ref b))
  | x (a b) : St1 (compareOp CmpOp.NotEq (Value.ref a) (Value.ref b))
  | y (a p) : St1 (getMethod (Value.ref a) (Str.ofString "values") p)
  | z (a p) : St1 (getMethod (Value.ref a) (Str.ofString "count") p)
  | aa (a p) : St1 (getMethod (Value.ref a) (Str.ofString "get") p)
  | ab (a p) : St1 (getMethod (Value.ref a) (Str.ofString "add") p)
  | ad (a) : St1 (getAttr a (Str.ofString "__next__") true)
theorem ex1 {α : Type} {M : Model} {A : Around} {t : Sem α} {Q : α → Shared → Prop} {E : Value → Shared → Prop} {s : Shared} (_ : Ex1 t) (h : wpAny M A t Q E s) : wpAny M A t Q E s := h
theorem go1 {α : Type} {M : Model} {A : Around} {t : Sem α} {Q : α → Shared → Prop} {E : Value → Shared → Prop} {s : Shared} (_ : Go1 t) (h : wpAny M A t Q E s) : wpAny M A t Q E s := h
theorem st1 {α : Type} {M : Model} {A : Around} {t : Sem α} {Q : α → Shared → Prop} {E : Value → Shared → Prop} {s : Shared} (_ : St1 t) (h : wpAny M A t Q E s) : wpAny M A t Q E s := h
theorem sub_dn {n i : Nat} (h : i < n) : n - (i + 1) < n - i := Nat.sub_lt_sub_left h (Nat.lt_succ_self i)
theorem z0n (i : Nat) : ((0 : Int) + (i : Int)).toNat = i := by rw [Int.zero_add]; rfl
theorem z0p (i : Nat) : (0 : Int) ≤ 0 + (i : Int) := by rw [Int.zero_add]; exact Int.natCast_nonneg i
theorem n63 {k : Nat} (h : k ≤ 1000) : (k : Int) < 2 ^ 63 := Int.lt_of_le_of_lt (Int.ofNat_le.mpr h) (by decide)
theorem z063 {i n : Nat} (h : i < n) (hn : n ≤ 12) : (0 : Int) + (i : Int) < 2 ^ 63 := by rw [Int.zero_add]; exact n63 (Nat.le_trans (Nat.le_of_lt h) (Nat.le_trans hn (by decide)))
theorem add_le2 {a b A B C : Nat} (ha : a ≤ A) (hb : b ≤ B) (h : A + B ≤ C) : a + b ≤ C := Nat.le_trans (Nat.add_le_add ha hb) h
theorem z0ne {i j : Nat} (h : (0 : Int) + (j : Int) ≠ 0 + (i : Int)) : (j : Int) ≠ (i : Int) := fun e => h (by rw [e])
theorem sz_le {n : Nat} (h : n ≤ 1000) : n ≤ sizeLine := by rw [sizeLine_eq]; exact Nat.le_trans h (by decide)
theorem sub_step {a p i C : Nat} (h : a + (p - i) ≤ C) (hi : i < p) : a + 1 + (p - (i + 1)) ≤ C := by
  rw [Nat.add_assoc, Nat.add_comm 1, ← Nat.sub_sub, Nat.sub_add_cancel (Nat.sub_pos_of_lt hi)]; exact h
theorem sub_keep {a p i C : Nat} (h : a + (p - i) ≤ C) : a + (p - (i + 1)) ≤ C := Nat.le_trans (Nat.add_le_add_left (Nat.sub_le_sub_left (Nat.le_succ i) p) a) h
theorem rm0 {a b n : Nat} (h : a + b < n) : a < n := Nat.lt_of_le_of_lt (Nat.le_add_right ..) h
theorem rm1 {a b c n : Nat} (h : a + b < n) (hc : c ≤ b) : a + c < n := Nat.lt_of_le_of_lt (Nat.add_le_add_left hc a) h
theorem rm2 {a b c d n : Nat} (h : a + b < n) (hc : c + d ≤ b) : a + c + d < n := Nat.add_assoc a c d ▸ rm1 h hc
end
section
open PySem PySem.W PyProof.Rows
set_option maxRecDepth 100000
set_option maxHeartbeats 8000000
noncomputable def topRunT (tb : String → Option Builtin) (p : Program) (w : World) (n₀ : Nat) (ann : Option Value) : Nat → SharedT → Thread → Option SharedT
  | 0, _, _ => none
  | n + 1, s, t => match through t with
    | true => some s
    | false => match stepOk n₀ ann t with
      | false => none
      | true => match stepT (denote tb) p w s t with
        | some (s', t') => topRunT tb p w n₀ ann n s' t'
        | none => none
theorem topRunT_spec {tb : String → Option Builtin} {p : Program} {w : World} {n₀ : Nat} {ann : Option Value} : ∀ (n : Nat) (s : SharedT) (t : Thread) (r : SharedT),
    topRunT tb p w n₀ ann n s t = some r → topRun tb p w n₀ ann n s.abs t = some r.abs
  | 0, _, _, _, h => by cases h
  | n + 1, s, t, r, h => by
    unfold topRunT at h
    unfold topRun
    cases ht : through t with
    | true => rw [ht] at h; cases h; rfl
    | false =>
      rw [ht] at h
      cases hk : stepOk n₀ ann t with
      | false => rw [hk] at h; cases h
      | true =>
        rw [hk] at h
        cases hs : stepT (denote tb) p w s t with
        | none => rw [hs] at h; cases h
        | some x => obtain ⟨s₂, t₂⟩ := x; rw [hs] at h; rw [stepT_spec hs]; exact topRunT_spec n s₂ t₂ r h
theorem left_of_tree {p q : Program} {loose : List Str} {Xt : Shared → Bool} {α : Type} {Yf : Shared → α} {Ya : World → α} {N : Nat} {g0 : Bool} {H₀ : Params → Heap} {gs₀ : Array GenState} {d₀ : Drawn} {k₀ : Nat} {m₀ : Nat} {ann : Option Value}
    {T₀ : Params → BT} {n₀ : Nat} {life : Life}
    (open_ : ∀ w : World, (fencedOpening treeTable p w N).map (fun s => (s.heap, s.gens, s.drawn, s.toks)) = some (H₀ w.params, gs₀, d₀, k₀))
    (size : ∀ w : World, ((H₀ w.params).isNs mainGlobals && gs₀.size == 0, (H₀ w.params).objs.size, (H₀ w.params).nsMap mainGlobals "__annotations__") = (true, m₀, ann))
    (tree : ∀ P, absHeap (T₀ P) n₀ life = H₀ P)
    (run : ∀ (w : World) (os : OsState), (topRunT treeTable p w m₀ ann N ⟨T₀ w.params, n₀, life, gs₀, d₀, k₀, os⟩ (topStub p)).map
        (fun s => ((staticsOk (importedModules p.main.body) (H₀ w.params) s.abs.heap && namesBound p s.abs.heap && gensDone s.abs && laidKept (H₀ w.params) s.abs.heap), openSeen q loose (importedModules p.main.body) Xt g0 s.abs, Yf s.abs)) = some (true, openGood q loose, Ya w)) :
    LeftO p q loose Xt Yf Ya N g0 := fun w => by
  obtain ⟨⟨h, gs, d, k, os⟩, e, e'⟩ := Option.map_eq_some_iff.mp (open_ w)
  obtain ⟨rfl, rfl, rfl, rfl⟩ : h = H₀ w.params ∧ gs = gs₀ ∧ d = d₀ ∧ k = k₀ := by simpa using e'
  obtain ⟨z1, z2, z3⟩ : _ ∧ _ ∧ _ := by simpa only [Prod.mk.injEq] using size w
  obtain ⟨r, hr, hv⟩ := Option.map_eq_some_iff.mp (run w os)
  obtain ⟨l1, l2, l3⟩ : _ ∧ _ ∧ _ := by simpa only [Prod.mk.injEq] using hv
  have r1 := topRunT_spec _ _ _ _ hr
  have r2 : topRun treeTable p w m₀ ann N ⟨H₀ w.params, gs, d, k, os⟩ (topStub p) = some r.abs := by
    rw [← tree w.params]; exact r1
  have t : topFrom treeTable p w N ⟨H₀ w.params, gs, d, k, os⟩ = some r.abs := by
    unfold topFrom
    dsimp only
    rw [z1, z2, z3, r2]
    show (match staticsOk (importedModules p.main.body) (H₀ w.params) r.abs.heap && namesBound p r.abs.heap && gensDone r.abs && laidKept (H₀ w.params) r.abs.heap with | true => _ | false => _) = _
    rw [l1]
  unfold openEnds
  rw [e]
  show (topFrom treeTable p w N _).map _ = _
  rw [t]
  exact congrArg some (Prod.ext l2 l3)
noncomputable abbrev pw : Program := PySem.Challenge.pw_nq0248_01
noncomputable def q : Program := view pw [43]
noncomputable def loose : List Str := [Str.ofString "_wall", Str.ofString "S_IMODE", Str.ofString "S_IFMT", Str.ofString "S_IFDIR", Str.ofString "S_IFCHR", Str.ofString "S_IFBLK", Str.ofString "S_IFREG", Str.ofString "S_IFIFO", Str.ofString "S_IFLNK", Str.ofString "S_IFSOCK", Str.ofString "S_ISUID", Str.ofString "S_ISGID", Str.ofString "S_ISVTX", Str.ofString "S_IRUSR", Str.ofString "S_IWUSR", Str.ofString "S_IXUSR", Str.ofString "S_IRGRP", Str.ofString "S_IWGRP", Str.ofString "S_IXGRP", Str.ofString "S_IROTH", Str.ofString "S_IWOTH", Str.ofString "S_IXOTH", Str.ofString "_filemode_table", Str.ofString "filemode", Str.ofString "_NODE_OUT", Str.ofString "_NODE_DONE", Str.ofString "_NodeInfo", Str.ofString "CycleError", Str.ofString "TopologicalSorter", Str.ofString "Entry", Str.ofString "_law_modes", Str.ofString "_law_record", Str.ofString "_law_name", Str.ofString "_law_signs", Str.ofString "_law_small", Str.ofString "_law_within", Str.ofString "_law_refused", Str.ofString "_law_run", Str.ofString "_law_due"]
noncomputable def T0 (P : Params) : BT :=
  .node (boot_o_0 P)
    (.node (boot_o_1 P) (.node (boot_o_3 P) (.node (boot_o_7 P) .nil .nil) .nil) (.node (boot_o_5 P) (.node (boot_o_9 P) .nil .nil) .nil))
    (.node (boot_o_2 P) (.node (boot_o_4 P) (.node (boot_o_8 P) .nil .nil) .nil) (.node (boot_o_6 P) (.node (boot_o_10 P) .nil .nil) .nil))
theorem T0_eq (P : Params) : absHeap (T0 P) 11 {} = boot_heap P := by kernel_rfl
noncomputable def ann0 : Option Value := some (.ref 6)
theorem opens (w : World) : (fencedOpening treeTable pw w 4332).map (fun s => (s.heap, s.gens, s.drawn, s.toks)) = some (boot_heap w.params, Array.mk [], boot_drawn, boot_toks) :=
  boot_open (by kernel_rfl) (by kernel_rfl) (fun s => by kernel_rfl) w
noncomputable def stAt (i : Nat) : Stmt := (pw.main.body.drop i).headD (.Pass ⟨0, 0, 0, 0⟩)
noncomputable def meAt (i j : Nat) : Stmt := match stAt i with
  | .ClassDef _ _ _ b _ _ _ _ _ _ _ => (b.drop j).headD (.Pass ⟨0, 0, 0, 0⟩)
  | _ => .Pass ⟨0, 0, 0, 0⟩
noncomputable def fnO (st : Stmt) (qual : Str) (pm cd dV : Value) : Obj := match st with
  | .FunctionDef name args body _ _ _ scope _ _ _ => { cls := .type "function", data := .func { name, qualname := qual, params := args, body := .stmts body, scope, globals := 3, closure := [], defaults := dV, kwdefaults := .none, pyModule := pm, code := cd } }
  | _ => default
noncomputable def tupO (vs : List Value) : Obj := { cls := .type "tuple", data := .seq vs.toArray }
noncomputable def kE (P : Params) (k : Str) (t : Nat) (v : Value) : DictEntry := ⟨PyData.keyHash P k, .str k t, v⟩
noncomputable def o2 : Obj := ⟨.none, none, .dict #[] 0, #[]⟩
noncomputable def o3 (P : Params) : Obj := ⟨(.type "dict"), none, .dict [kE P (Str.ofString "__name__") 165 (.str (Str.ofString "law_nq0248_01") 528), kE P (Str.ofString "__doc__") 166 .none, kE P (Str.ofString "__package__") 167 .none, kE P (Str.ofString "__loader__") 168 (.builtin "__main__.__loader__#opaque"), kE P (Str.ofString "__spec__") 169 .none, kE P (Str.ofString "__annotations__") 170 (.ref 6), kE P (Str.ofString "__builtins__") 171 (.ref 4), kE P (Str.ofString "__file__") 173 (.str (Str.ofString "/claim/cut.py") 172), kE P (Str.ofString "__cached__") 174 .none, kE P (Str.ofString "_wall") 193 (.ref 21), kE P (Str.ofString "S_IMODE") 202 (.ref 28), kE P (Str.ofString "S_IFMT") 209 (.ref 35), kE P (Str.ofString "S_IFDIR") 211 (.int (16384) 210), kE P (Str.ofString "S_IFCHR") 213 (.int (8192) 212), kE P (Str.ofString "S_IFBLK") 215 (.int (24576) 214), kE P (Str.ofString "S_IFREG") 217 (.int (32768) 216), kE P (Str.ofString "S_IFIFO") 219 (.int (4096) 218), kE P (Str.ofString "S_IFLNK") 221 (.int (40960) 220), kE P (Str.ofString "S_IFSOCK") 223 (.int (49152) 222), kE P (Str.ofString "S_ISUID") 225 (.int (2048) 224), kE P (Str.ofString "S_ISGID") 227 (.int (1024) 226), kE P (Str.ofString "S_ISVTX") 229 (.int (512) 228), kE P (Str.ofString "S_IRUSR") 231 (.int (256) 230), kE P (Str.ofString "S_IWUSR") 233 (.int (128) 232), kE P (Str.ofString "S_IXUSR") 235 (.int (64) 234), kE P (Str.ofString "S_IRGRP") 237 (.int (32) 236), kE P (Str.ofString "S_IWGRP") 239 (.int (16) 238), kE P (Str.ofString "S_IXGRP") 241 (.int (8) 240), kE P (Str.ofString "S_IROTH") 243 (.int (4) 242), kE P (Str.ofString "S_IWOTH") 245 (.int (2) 244), kE P (Str.ofString "S_IXOTH") 247 (.int (1) 246), kE P (Str.ofString "_filemode_table") 273 (.ref 68), kE P (Str.ofString "filemode") 285 (.ref 75), kE P (Str.ofString "_NODE_OUT") 290 (.int (-1) 289), kE P (Str.ofString "_NODE_DONE") 293 (.int (-2) 292), kE P (Str.ofString "_NodeInfo") 330 (.ref 94), kE P (Str.ofString "CycleError") 348 (.ref 109), kE P (Str.ofString "TopologicalSorter") 467 (.ref 191), kE P (Str.ofString "Entry") 527 (.ref 233), kE P (Str.ofString "_law_modes") 541 (.ref 244), kE P (Str.ofString "_law_record") 549 (.ref 251), kE P (Str.ofString "_law_name") 557 (.ref 258), kE P (Str.ofString "_law_signs") 568 (.ref 265), kE P (Str.ofString "_law_small") 574 (.ref 270), kE P (Str.ofString "_law_within") 580 (.ref 275), kE P (Str.ofString "_law_refused") 588 (.ref 282), kE P (Str.ofString "_law_run") 594 (.ref 287), kE P (Str.ofString "_law_due") 600 (.ref 292), kE P (Str.ofString "law") 606 (.ref 297)].toArray 49, #[]⟩
noncomputable def o20 : Obj := ⟨(.type "code"), none, .fields #[(.str (Str.ofString "_wall") 187), (.str (Str.ofString "_wall") 188), (.str (Str.ofString "/claim/cut.py") 189), (.int (1) 0), (.int (1) 0), (.int (0) 0), (.int (0) 0), (.int (3) 0), (.ref 15), (.bool true), (.int (181) 0), (.ref 16), .none, (.ref 17), (.ref 18), (.ref 19), (.int (191) 0), (.int (1) 0), (.str (Str.ofString "/claim/cut.py") 192)], #[]⟩
noncomputable def o21 : Obj := fnO (stAt 0) (Str.ofString "_wall") (.str (Str.ofString "__main__") 164) (.ref 20) .none
noncomputable def o27 : Obj := ⟨(.type "code"), none, .fields #[(.str (Str.ofString "S_IMODE") 196), (.str (Str.ofString "S_IMODE") 197), (.str (Str.ofString "/claim/cut.py") 198), (.int (5) 0), (.int (1) 0), (.int (0) 0), (.int (0) 0), (.int (3) 0), (.ref 22), (.bool true), (.int (181) 0), (.ref 23), .none, (.ref 24), (.ref 25), (.ref 26), (.int (200) 0), (.int (5) 0), (.str (Str.ofString "/claim/cut.py") 201)], #[]⟩
noncomputable def o28 : Obj := fnO (stAt 2) (Str.ofString "S_IMODE") (.str (Str.ofString "cpy313.stat") 194) (.ref 27) .none
noncomputable def o34 : Obj := ⟨(.type "code"), none, .fields #[(.str (Str.ofString "S_IFMT") 203), (.str (Str.ofString "S_IFMT") 204), (.str (Str.ofString "/claim/cut.py") 205), (.int (7) 0), (.int (1) 0), (.int (0) 0), (.int (0) 0), (.int (3) 0), (.ref 29), (.bool true), (.int (181) 0), (.ref 30), .none, (.ref 31), (.ref 32), (.ref 33), (.int (207) 0), (.int (7) 0), (.str (Str.ofString "/claim/cut.py") 208)], #[]⟩
noncomputable def o35 : Obj := fnO (stAt 3) (Str.ofString "S_IFMT") (.str (Str.ofString "cpy313.stat") 194) (.ref 34) .none
noncomputable def o36 : Obj := tupO [(.int (40960) 220), (.str (Str.ofString "l") 248)]
noncomputable def o37 : Obj := tupO [(.int (49152) 222), (.str (Str.ofString "s") 249)]
noncomputable def o38 : Obj := tupO [(.int (32768) 216), (.str (Str.ofString "-") 250)]
noncomputable def o39 : Obj := tupO [(.int (24576) 214), (.str (Str.ofString "b") 251)]
noncomputable def o40 : Obj := tupO [(.int (16384) 210), (.str (Str.ofString "d") 252)]
noncomputable def o41 : Obj := tupO [(.int (8192) 212), (.str (Str.ofString "c") 253)]
noncomputable def o42 : Obj := tupO [(.int (4096) 218), (.str (Str.ofString "p") 254)]
noncomputable def o43 : Obj := tupO [(.ref 36), (.ref 37), (.ref 38), (.ref 39), (.ref 40), (.ref 41), (.ref 42)]
noncomputable def o44 : Obj := tupO [(.int (256) 230), (.str (Str.ofString "r") 255)]
noncomputable def o45 : Obj := tupO [(.ref 44)]
noncomputable def o46 : Obj := tupO [(.int (128) 232), (.str (Str.ofString "w") 256)]
noncomputable def o47 : Obj := tupO [(.ref 46)]
noncomputable def o48 : Obj := tupO [(.int (2112) 257), (.str (Str.ofString "s") 258)]
noncomputable def o49 : Obj := tupO [(.int (2048) 224), (.str (Str.ofString "S") 259)]
noncomputable def o50 : Obj := tupO [(.int (64) 234), (.str (Str.ofString "x") 260)]
noncomputable def o51 : Obj := tupO [(.ref 48), (.ref 49), (.ref 50)]
noncomputable def o52 : Obj := tupO [(.int (32) 236), (.str (Str.ofString "r") 261)]
noncomputable def o53 : Obj := tupO [(.ref 52)]
noncomputable def o54 : Obj := tupO [(.int (16) 238), (.str (Str.ofString "w") 262)]
noncomputable def o55 : Obj := tupO [(.ref 54)]
noncomputable def o56 : Obj := tupO [(.int (1032) 263), (.str (Str.ofString "s") 264)]
noncomputable def o57 : Obj := tupO [(.int (1024) 226), (.str (Str.ofString "S") 265)]
noncomputable def o58 : Obj := tupO [(.int (8) 240), (.str (Str.ofString "x") 266)]
noncomputable def o59 : Obj := tupO [(.ref 56), (.ref 57), (.ref 58)]
noncomputable def o60 : Obj := tupO [(.int (4) 242), (.str (Str.ofString "r") 267)]
noncomputable def o61 : Obj := tupO [(.ref 60)]
noncomputable def o62 : Obj := tupO [(.int (2) 244), (.str (Str.ofString "w") 268)]
noncomputable def o63 : Obj := tupO [(.ref 62)]
noncomputable def o64 : Obj := tupO [(.int (513) 269), (.str (Str.ofString "t") 270)]
noncomputable def o65 : Obj := tupO [(.int (512) 228), (.str (Str.ofString "T") 271)]
noncomputable def o66 : Obj := tupO [(.int (1) 246), (.str (Str.ofString "x") 272)]
noncomputable def o67 : Obj := tupO [(.ref 64), (.ref 65), (.ref 66)]
noncomputable def o68 : Obj := tupO [(.ref 43), (.ref 45), (.ref 47), (.ref 51), (.ref 53), (.ref 55), (.ref 59), (.ref 61), (.ref 63), (.ref 67)]
noncomputable def o74 : Obj := ⟨(.type "code"), none, .fields #[(.str (Str.ofString "filemode") 274), (.str (Str.ofString "filemode") 275), (.str (Str.ofString "/claim/cut.py") 276), (.int (29) 0), (.int (1) 0), (.int (0) 0), (.int (0) 0), (.int (3) 0), (.ref 69), (.bool true), (.int (181) 0), (.ref 70), .none, (.ref 71), (.ref 72), (.ref 73), (.int (283) 0), (.int (29) 0), (.str (Str.ofString "/claim/cut.py") 284)], #[]⟩
noncomputable def o75 : Obj := fnO (stAt 24) (Str.ofString "filemode") (.str (Str.ofString "cpy313.stat") 194) (.ref 74) .none
noncomputable def o89 : Obj := ⟨(.type "code"), none, .fields #[(.str (Str.ofString "__init__") 310), (.str (Str.ofString "_NodeInfo.__init__") 311), (.str (Str.ofString "/claim/cut.py") 312), (.int (52) 0), (.int (2) 0), (.int (0) 0), (.int (0) 0), (.int (3) 0), (.ref 84), (.bool true), (.int (181) 0), (.ref 85), .none, (.ref 86), (.ref 87), (.ref 88), (.int (315) 0), (.int (52) 0), (.str (Str.ofString "/claim/cut.py") 316)], #[]⟩
noncomputable def o90 : Obj := fnO (meAt 28 1) (Str.ofString "_NodeInfo.__init__") (.str (Str.ofString "cpy313.graphlib") 286) (.ref 89) .none
noncomputable def o93 (P : Params) : Obj := ⟨(.type "dict"), none, .dict [kE P (Str.ofString "__module__") 301 (.str (Str.ofString "cpy313.graphlib") 286), kE P (Str.ofString "__firstlineno__") 305 (.int (49) 304), kE P (Str.ofString "__slots__") 309 (.ref 83), kE P (Str.ofString "__init__") 317 (.ref 90), kE P (Str.ofString "__static_attributes__") 321 (.ref 91), kE P (Str.ofString "node") 323 (.ref 95), kE P (Str.ofString "npredecessors") 325 (.ref 96), kE P (Str.ofString "successors") 327 (.ref 97), kE P (Str.ofString "__doc__") 328 .none].toArray 5, #[]⟩
noncomputable def o94 : Obj := ⟨(.type "type"), none, .cls { name := (Str.ofString "_NodeInfo"), bases := [(.type "object")], mro := [(.ref 94), (.type "object")], ns := 93, qualname := (Str.ofString "_NodeInfo"), hasDict := false, slotNames := [(Str.ofString "node"), (Str.ofString "npredecessors"), (Str.ofString "successors")], subclasses := [], abstract := false, collection := none, hasDel := false }, #[none, none, some (.str (Str.ofString "_NodeInfo") 294), some (.str (Str.ofString "_NodeInfo") 302), some (.builtin "object.__new__"), some (.bool false)]⟩
noncomputable def o95 : Obj := ⟨(.type "member_descriptor"), none, .fields #[(.str (Str.ofString "node") 322), (.ref 94), (.builtin "proto.slot"), (.builtin "proto.slot#set"), (.int (2) 0)], #[]⟩
noncomputable def o96 : Obj := ⟨(.type "member_descriptor"), none, .fields #[(.str (Str.ofString "npredecessors") 324), (.ref 94), (.builtin "proto.slot"), (.builtin "proto.slot#set"), (.int (1) 0)], #[]⟩
noncomputable def o97 : Obj := ⟨(.type "member_descriptor"), none, .fields #[(.str (Str.ofString "successors") 326), (.ref 94), (.builtin "proto.slot"), (.builtin "proto.slot#set"), (.int (0) 0)], #[]⟩
noncomputable def o108 (P : Params) : Obj := ⟨(.type "dict"), none, .dict [kE P (Str.ofString "__module__") 338 (.str (Str.ofString "cpy313.graphlib") 286), kE P (Str.ofString "__firstlineno__") 342 (.int (56) 341), kE P (Str.ofString "__static_attributes__") 343 (.ref 107), kE P (Str.ofString "__weakref__") 345 (.ref 110), kE P (Str.ofString "__doc__") 346 .none].toArray 3, #[]⟩
noncomputable def o109 : Obj := ⟨(.type "type"), none, .cls { name := (Str.ofString "CycleError"), bases := [(.type "ValueError")], mro := [(.ref 109), (.type "ValueError"), (.type "Exception"), (.type "BaseException"), (.type "object")], ns := 108, qualname := (Str.ofString "CycleError"), hasDict := true, slotNames := [], subclasses := [], abstract := false, collection := none, hasDel := false }, #[some (.ref 100), none, some (.str (Str.ofString "CycleError") 331), some (.str (Str.ofString "CycleError") 339), some (.builtin "ValueError.__new__"), some (.bool true)]⟩
noncomputable def o110 : Obj := ⟨(.type "getset_descriptor"), none, .fields #[(.str (Str.ofString "__weakref__") 344), (.ref 109), (.builtin "ExceptionGroup.__weakref__"), .none], #[]⟩
noncomputable def o120 : Obj := tupO [.none]
noncomputable def o126 : Obj := ⟨(.type "code"), none, .fields #[(.str (Str.ofString "__init__") 361), (.str (Str.ofString "TopologicalSorter.__init__") 362), (.str (Str.ofString "/claim/cut.py") 363), (.int (60) 0), (.int (2) 0), (.int (0) 0), (.int (0) 0), (.int (3) 0), (.ref 121), (.bool true), (.int (181) 0), (.ref 122), .none, (.ref 123), (.ref 124), (.ref 125), (.int (368) 0), (.int (60) 0), (.str (Str.ofString "/claim/cut.py") 369)], #[]⟩
noncomputable def o127 : Obj := fnO (meAt 30 0) (Str.ofString "TopologicalSorter.__init__") (.str (Str.ofString "cpy313.graphlib") 286) (.ref 126) (.ref 120)
noncomputable def o133 : Obj := ⟨(.type "code"), none, .fields #[(.str (Str.ofString "_get_nodeinfo") 371), (.str (Str.ofString "TopologicalSorter._get_nodeinfo") 372), (.str (Str.ofString "/claim/cut.py") 373), (.int (69) 0), (.int (2) 0), (.int (0) 0), (.int (0) 0), (.int (3) 0), (.ref 128), (.bool true), (.int (181) 0), (.ref 129), .none, (.ref 130), (.ref 131), (.ref 132), (.int (377) 0), (.int (69) 0), (.str (Str.ofString "/claim/cut.py") 378)], #[]⟩
noncomputable def o134 : Obj := fnO (meAt 30 1) (Str.ofString "TopologicalSorter._get_nodeinfo") (.str (Str.ofString "cpy313.graphlib") 286) (.ref 133) .none
noncomputable def o140 : Obj := ⟨(.type "code"), none, .fields #[(.str (Str.ofString "add") 380), (.str (Str.ofString "TopologicalSorter.add") 381), (.str (Str.ofString "/claim/cut.py") 382), (.int (74) 0), (.int (2) 0), (.int (0) 0), (.int (0) 0), (.int (7) 0), (.ref 135), (.bool true), (.int (181) 0), (.ref 136), .none, (.ref 137), (.ref 138), (.ref 139), (.int (389) 0), (.int (74) 0), (.str (Str.ofString "/claim/cut.py") 390)], #[]⟩
noncomputable def o141 : Obj := fnO (meAt 30 2) (Str.ofString "TopologicalSorter.add") (.str (Str.ofString "cpy313.graphlib") 286) (.ref 140) .none
noncomputable def o145 : Obj := ⟨(.type "code"), none, .fields #[(.str (Str.ofString "prepare") 392), (.str (Str.ofString "TopologicalSorter.prepare") 393), (.str (Str.ofString "/claim/cut.py") 394), (.int (83) 0), (.int (1) 0), (.int (0) 0), (.int (0) 0), (.int (3) 0), (.ref 142), (.bool true), (.int (181) 0), (.ref 143), .none, .none, .none, (.ref 144), (.int (395) 0), (.int (83) 0), (.str (Str.ofString "/claim/cut.py") 396)], #[]⟩
noncomputable def o146 : Obj := fnO (meAt 30 3) (Str.ofString "TopologicalSorter.prepare") (.str (Str.ofString "cpy313.graphlib") 286) (.ref 145) .none
noncomputable def o152 : Obj := ⟨(.type "code"), none, .fields #[(.str (Str.ofString "get_ready") 398), (.str (Str.ofString "TopologicalSorter.get_ready") 399), (.str (Str.ofString "/claim/cut.py") 400), (.int (91) 0), (.int (1) 0), (.int (0) 0), (.int (0) 0), (.int (3) 0), (.ref 147), (.bool true), (.int (181) 0), (.ref 148), .none, (.ref 149), (.ref 150), (.ref 151), (.int (405) 0), (.int (91) 0), (.str (Str.ofString "/claim/cut.py") 406)], #[]⟩
noncomputable def o153 : Obj := fnO (meAt 30 4) (Str.ofString "TopologicalSorter.get_ready") (.str (Str.ofString "cpy313.graphlib") 286) (.ref 152) .none
noncomputable def o159 : Obj := ⟨(.type "code"), none, .fields #[(.str (Str.ofString "is_active") 408), (.str (Str.ofString "TopologicalSorter.is_active") 409), (.str (Str.ofString "/claim/cut.py") 410), (.int (102) 0), (.int (1) 0), (.int (0) 0), (.int (0) 0), (.int (3) 0), (.ref 154), (.bool true), (.int (181) 0), (.ref 155), .none, (.ref 156), (.ref 157), (.ref 158), (.int (412) 0), (.int (102) 0), (.str (Str.ofString "/claim/cut.py") 413)], #[]⟩
noncomputable def o160 : Obj := fnO (meAt 30 5) (Str.ofString "TopologicalSorter.is_active") (.str (Str.ofString "cpy313.graphlib") 286) (.ref 159) .none
noncomputable def o166 : Obj := ⟨(.type "code"), none, .fields #[(.str (Str.ofString "__bool__") 415), (.str (Str.ofString "TopologicalSorter.__bool__") 416), (.str (Str.ofString "/claim/cut.py") 417), (.int (107) 0), (.int (1) 0), (.int (0) 0), (.int (0) 0), (.int (3) 0), (.ref 161), (.bool true), (.int (181) 0), (.ref 162), .none, (.ref 163), (.ref 164), (.ref 165), (.int (419) 0), (.int (107) 0), (.str (Str.ofString "/claim/cut.py") 420)], #[]⟩
noncomputable def o167 : Obj := fnO (meAt 30 6) (Str.ofString "TopologicalSorter.__bool__") (.str (Str.ofString "cpy313.graphlib") 286) (.ref 166) .none
noncomputable def o173 : Obj := ⟨(.type "code"), none, .fields #[(.str (Str.ofString "done") 422), (.str (Str.ofString "TopologicalSorter.done") 423), (.str (Str.ofString "/claim/cut.py") 424), (.int (110) 0), (.int (1) 0), (.int (0) 0), (.int (0) 0), (.int (7) 0), (.ref 168), (.bool true), (.int (181) 0), (.ref 169), .none, (.ref 170), (.ref 171), (.ref 172), (.int (433) 0), (.int (110) 0), (.str (Str.ofString "/claim/cut.py") 434)], #[]⟩
noncomputable def o174 : Obj := fnO (meAt 30 7) (Str.ofString "TopologicalSorter.done") (.str (Str.ofString "cpy313.graphlib") 286) (.ref 173) .none
noncomputable def o180 : Obj := ⟨(.type "code"), none, .fields #[(.str (Str.ofString "_find_cycle") 436), (.str (Str.ofString "TopologicalSorter._find_cycle") 437), (.str (Str.ofString "/claim/cut.py") 438), (.int (133) 0), (.int (1) 0), (.int (0) 0), (.int (0) 0), (.int (3) 0), (.ref 175), (.bool true), (.int (181) 0), (.ref 176), .none, (.ref 177), (.ref 178), (.ref 179), (.int (446) 0), (.int (133) 0), (.str (Str.ofString "/claim/cut.py") 447)], #[]⟩
noncomputable def o181 : Obj := fnO (meAt 30 8) (Str.ofString "TopologicalSorter._find_cycle") (.str (Str.ofString "cpy313.graphlib") 286) (.ref 180) .none
noncomputable def o187 : Obj := ⟨(.type "code"), none, .fields #[(.str (Str.ofString "static_order") 449), (.str (Str.ofString "TopologicalSorter.static_order") 450), (.str (Str.ofString "/claim/cut.py") 451), (.int (162) 0), (.int (1) 0), (.int (0) 0), (.int (0) 0), (.int (3) 0), (.ref 182), (.bool true), (.int (181) 0), (.ref 183), .none, (.ref 184), (.ref 185), (.ref 186), (.int (453) 0), (.int (162) 0), (.str (Str.ofString "/claim/cut.py") 454)], #[]⟩
noncomputable def o188 : Obj := fnO (meAt 30 9) (Str.ofString "TopologicalSorter.static_order") (.str (Str.ofString "cpy313.graphlib") 286) (.ref 187) .none
noncomputable def o190 (P : Params) : Obj := ⟨(.type "dict"), none, .dict [kE P (Str.ofString "__module__") 356 (.str (Str.ofString "cpy313.graphlib") 286), kE P (Str.ofString "__firstlineno__") 360 (.int (58) 359), kE P (Str.ofString "__init__") 370 (.ref 127), kE P (Str.ofString "_get_nodeinfo") 379 (.ref 134), kE P (Str.ofString "add") 391 (.ref 141), kE P (Str.ofString "prepare") 397 (.ref 146), kE P (Str.ofString "get_ready") 407 (.ref 153), kE P (Str.ofString "is_active") 414 (.ref 160), kE P (Str.ofString "__bool__") 421 (.ref 167), kE P (Str.ofString "done") 435 (.ref 174), kE P (Str.ofString "_find_cycle") 448 (.ref 181), kE P (Str.ofString "static_order") 455 (.ref 188), kE P (Str.ofString "__static_attributes__") 460 (.ref 189), kE P (Str.ofString "__dict__") 462 (.ref 192), kE P (Str.ofString "__weakref__") 464 (.ref 193), kE P (Str.ofString "__doc__") 465 .none].toArray 4, #[]⟩
noncomputable def o191 : Obj := ⟨(.type "type"), none, .cls { name := (Str.ofString "TopologicalSorter"), bases := [(.type "object")], mro := [(.ref 191), (.type "object")], ns := 190, qualname := (Str.ofString "TopologicalSorter"), hasDict := true, slotNames := [], subclasses := [], abstract := false, collection := none, hasDel := false }, #[none, none, some (.str (Str.ofString "TopologicalSorter") 349), some (.str (Str.ofString "TopologicalSorter") 357), some (.builtin "object.__new__"), some (.bool true)]⟩
noncomputable def o192 : Obj := ⟨(.type "getset_descriptor"), none, .fields #[(.str (Str.ofString "__dict__") 461), (.ref 191), (.builtin "function.__dict__"), (.builtin "function.__dict__#set")], #[]⟩
noncomputable def o193 : Obj := ⟨(.type "getset_descriptor"), none, .fields #[(.str (Str.ofString "__weakref__") 463), (.ref 191), (.builtin "ExceptionGroup.__weakref__"), .none], #[]⟩
noncomputable def o208 : Obj := ⟨(.type "code"), none, .fields #[(.str (Str.ofString "__init__") 482), (.str (Str.ofString "Entry.__init__") 483), (.str (Str.ofString "/claim/cut.py") 484), (.int (167) 0), (.int (1) 0), (.int (0) 0), (.int (0) 0), (.int (3) 0), (.ref 203), (.bool true), (.int (181) 0), (.ref 204), .none, (.ref 205), (.ref 206), (.ref 207), (.int (486) 0), (.int (167) 0), (.str (Str.ofString "/claim/cut.py") 487)], #[]⟩
noncomputable def o209 : Obj := fnO (meAt 32 0) (Str.ofString "Entry.__init__") (.str (Str.ofString "cpy313.urllib.robotparser") 468) (.ref 208) .none
noncomputable def o215 : Obj := ⟨(.type "code"), none, .fields #[(.str (Str.ofString "__str__") 489), (.str (Str.ofString "Entry.__str__") 490), (.str (Str.ofString "/claim/cut.py") 491), (.int (173) 0), (.int (1) 0), (.int (0) 0), (.int (0) 0), (.int (3) 0), (.ref 210), (.bool true), (.int (181) 0), (.ref 211), .none, (.ref 212), (.ref 213), (.ref 214), (.int (496) 0), (.int (173) 0), (.str (Str.ofString "/claim/cut.py") 497)], #[]⟩
noncomputable def o216 : Obj := fnO (meAt 32 1) (Str.ofString "Entry.__str__") (.str (Str.ofString "cpy313.urllib.robotparser") 468) (.ref 215) .none
noncomputable def o222 : Obj := ⟨(.type "code"), none, .fields #[(.str (Str.ofString "applies_to") 499), (.str (Str.ofString "Entry.applies_to") 500), (.str (Str.ofString "/claim/cut.py") 501), (.int (190) 0), (.int (2) 0), (.int (0) 0), (.int (0) 0), (.int (3) 0), (.ref 217), (.bool true), (.int (181) 0), (.ref 218), .none, (.ref 219), (.ref 220), (.ref 221), (.int (505) 0), (.int (190) 0), (.str (Str.ofString "/claim/cut.py") 506)], #[]⟩
noncomputable def o223 : Obj := fnO (meAt 32 2) (Str.ofString "Entry.applies_to") (.str (Str.ofString "cpy313.urllib.robotparser") 468) (.ref 222) .none
noncomputable def o229 : Obj := ⟨(.type "code"), none, .fields #[(.str (Str.ofString "allowance") 508), (.str (Str.ofString "Entry.allowance") 509), (.str (Str.ofString "/claim/cut.py") 510), (.int (201) 0), (.int (2) 0), (.int (0) 0), (.int (0) 0), (.int (3) 0), (.ref 224), (.bool true), (.int (181) 0), (.ref 225), .none, (.ref 226), (.ref 227), (.ref 228), (.int (513) 0), (.int (201) 0), (.str (Str.ofString "/claim/cut.py") 514)], #[]⟩
noncomputable def o230 : Obj := fnO (meAt 32 3) (Str.ofString "Entry.allowance") (.str (Str.ofString "cpy313.urllib.robotparser") 468) (.ref 229) .none
noncomputable def o232 (P : Params) : Obj := ⟨(.type "dict"), none, .dict [kE P (Str.ofString "__module__") 477 (.str (Str.ofString "cpy313.urllib.robotparser") 468), kE P (Str.ofString "__firstlineno__") 481 (.int (165) 480), kE P (Str.ofString "__init__") 488 (.ref 209), kE P (Str.ofString "__str__") 498 (.ref 216), kE P (Str.ofString "applies_to") 507 (.ref 223), kE P (Str.ofString "allowance") 515 (.ref 230), kE P (Str.ofString "__static_attributes__") 520 (.ref 231), kE P (Str.ofString "__dict__") 522 (.ref 234), kE P (Str.ofString "__weakref__") 524 (.ref 235), kE P (Str.ofString "__doc__") 525 .none].toArray 4, #[]⟩
noncomputable def o233 : Obj := ⟨(.type "type"), none, .cls { name := (Str.ofString "Entry"), bases := [(.type "object")], mro := [(.ref 233), (.type "object")], ns := 232, qualname := (Str.ofString "Entry"), hasDict := true, slotNames := [], subclasses := [], abstract := false, collection := none, hasDel := false }, #[none, none, some (.str (Str.ofString "Entry") 470), some (.str (Str.ofString "Entry") 478), some (.builtin "object.__new__"), some (.bool true)]⟩
noncomputable def o234 : Obj := ⟨(.type "getset_descriptor"), none, .fields #[(.str (Str.ofString "__dict__") 521), (.ref 233), (.builtin "function.__dict__"), (.builtin "function.__dict__#set")], #[]⟩
noncomputable def o235 : Obj := ⟨(.type "getset_descriptor"), none, .fields #[(.str (Str.ofString "__weakref__") 523), (.ref 233), (.builtin "ExceptionGroup.__weakref__"), .none], #[]⟩
noncomputable def o243 : Obj := ⟨(.type "code"), none, .fields #[(.str (Str.ofString "_law_modes") 530), (.str (Str.ofString "_law_modes") 531), (.str (Str.ofString "/claim/cut.py") 532), (.int (204) 0), (.int (1) 0), (.int (0) 0), (.int (0) 0), (.int (3) 0), (.ref 238), (.bool true), (.int (181) 0), (.ref 239), .none, (.ref 240), (.ref 241), (.ref 242), (.int (539) 0), (.int (204) 0), (.str (Str.ofString "/claim/cut.py") 540)], #[]⟩
noncomputable def o244 : Obj := fnO (stAt 34) (Str.ofString "_law_modes") (.str (Str.ofString "law_nq0248_01") 528) (.ref 243) .none
noncomputable def o250 : Obj := ⟨(.type "code"), none, .fields #[(.str (Str.ofString "_law_record") 542), (.str (Str.ofString "_law_record") 543), (.str (Str.ofString "/claim/cut.py") 544), (.int (212) 0), (.int (1) 0), (.int (0) 0), (.int (0) 0), (.int (3) 0), (.ref 245), (.bool true), (.int (181) 0), (.ref 246), .none, (.ref 247), (.ref 248), (.ref 249), (.int (547) 0), (.int (212) 0), (.str (Str.ofString "/claim/cut.py") 548)], #[]⟩
noncomputable def o251 : Obj := fnO (stAt 35) (Str.ofString "_law_record") (.str (Str.ofString "law_nq0248_01") 528) (.ref 250) .none
noncomputable def o257 : Obj := ⟨(.type "code"), none, .fields #[(.str (Str.ofString "_law_name") 550), (.str (Str.ofString "_law_name") 551), (.str (Str.ofString "/claim/cut.py") 552), (.int (216) 0), (.int (2) 0), (.int (0) 0), (.int (0) 0), (.int (3) 0), (.ref 252), (.bool true), (.int (181) 0), (.ref 253), .none, (.ref 254), (.ref 255), (.ref 256), (.int (555) 0), (.int (216) 0), (.str (Str.ofString "/claim/cut.py") 556)], #[]⟩
noncomputable def o258 : Obj := fnO (stAt 36) (Str.ofString "_law_name") (.str (Str.ofString "law_nq0248_01") 528) (.ref 257) .none
noncomputable def o264 : Obj := ⟨(.type "code"), none, .fields #[(.str (Str.ofString "_law_signs") 558), (.str (Str.ofString "_law_signs") 559), (.str (Str.ofString "/claim/cut.py") 560), (.int (218) 0), (.int (1) 0), (.int (0) 0), (.int (0) 0), (.int (3) 0), (.ref 259), (.bool true), (.int (181) 0), (.ref 260), .none, (.ref 261), (.ref 262), (.ref 263), (.int (566) 0), (.int (218) 0), (.str (Str.ofString "/claim/cut.py") 567)], #[]⟩
noncomputable def o265 : Obj := fnO (stAt 37) (Str.ofString "_law_signs") (.str (Str.ofString "law_nq0248_01") 528) (.ref 264) .none
noncomputable def o269 : Obj := ⟨(.type "code"), none, .fields #[(.str (Str.ofString "_law_small") 569), (.str (Str.ofString "_law_small") 570), (.str (Str.ofString "/claim/cut.py") 571), (.int (227) 0), (.int (1) 0), (.int (0) 0), (.int (0) 0), (.int (3) 0), (.ref 266), (.bool true), (.int (181) 0), (.ref 267), .none, .none, .none, (.ref 268), (.int (572) 0), (.int (227) 0), (.str (Str.ofString "/claim/cut.py") 573)], #[]⟩
noncomputable def o270 : Obj := fnO (stAt 38) (Str.ofString "_law_small") (.str (Str.ofString "law_nq0248_01") 528) (.ref 269) .none
noncomputable def o274 : Obj := ⟨(.type "code"), none, .fields #[(.str (Str.ofString "_law_within") 575), (.str (Str.ofString "_law_within") 576), (.str (Str.ofString "/claim/cut.py") 577), (.int (229) 0), (.int (2) 0), (.int (0) 0), (.int (0) 0), (.int (3) 0), (.ref 271), (.bool true), (.int (181) 0), (.ref 272), .none, .none, .none, (.ref 273), (.int (578) 0), (.int (229) 0), (.str (Str.ofString "/claim/cut.py") 579)], #[]⟩
noncomputable def o275 : Obj := fnO (stAt 39) (Str.ofString "_law_within") (.str (Str.ofString "law_nq0248_01") 528) (.ref 274) .none
noncomputable def o281 : Obj := ⟨(.type "code"), none, .fields #[(.str (Str.ofString "_law_refused") 581), (.str (Str.ofString "_law_refused") 582), (.str (Str.ofString "/claim/cut.py") 583), (.int (231) 0), (.int (2) 0), (.int (0) 0), (.int (0) 0), (.int (3) 0), (.ref 276), (.bool true), (.int (181) 0), (.ref 277), .none, (.ref 278), (.ref 279), (.ref 280), (.int (586) 0), (.int (231) 0), (.str (Str.ofString "/claim/cut.py") 587)], #[]⟩
noncomputable def o282 : Obj := fnO (stAt 40) (Str.ofString "_law_refused") (.str (Str.ofString "law_nq0248_01") 528) (.ref 281) .none
noncomputable def o286 : Obj := ⟨(.type "code"), none, .fields #[(.str (Str.ofString "_law_run") 589), (.str (Str.ofString "_law_run") 590), (.str (Str.ofString "/claim/cut.py") 591), (.int (237) 0), (.int (2) 0), (.int (0) 0), (.int (0) 0), (.int (3) 0), (.ref 283), (.bool true), (.int (181) 0), (.ref 284), .none, .none, .none, (.ref 285), (.int (592) 0), (.int (237) 0), (.str (Str.ofString "/claim/cut.py") 593)], #[]⟩
noncomputable def o287 : Obj := fnO (stAt 41) (Str.ofString "_law_run") (.str (Str.ofString "law_nq0248_01") 528) (.ref 286) .none
noncomputable def o291 : Obj := ⟨(.type "code"), none, .fields #[(.str (Str.ofString "_law_due") 595), (.str (Str.ofString "_law_due") 596), (.str (Str.ofString "/claim/cut.py") 597), (.int (257) 0), (.int (1) 0), (.int (0) 0), (.int (0) 0), (.int (3) 0), (.ref 288), (.bool true), (.int (181) 0), (.ref 289), .none, .none, .none, (.ref 290), (.int (598) 0), (.int (257) 0), (.str (Str.ofString "/claim/cut.py") 599)], #[]⟩
noncomputable def o292 : Obj := fnO (stAt 42) (Str.ofString "_law_due") (.str (Str.ofString "law_nq0248_01") 528) (.ref 291) .none
noncomputable def o296 : Obj := ⟨(.type "code"), none, .fields #[(.str (Str.ofString "law") 601), (.str (Str.ofString "law") 602), (.str (Str.ofString "/claim/cut.py") 603), (.int (273) 0), (.int (1) 0), (.int (0) 0), (.int (0) 0), (.int (3) 0), (.ref 293), (.bool true), (.int (181) 0), (.ref 294), .none, .none, .none, (.ref 295), (.int (604) 0), (.int (273) 0), (.str (Str.ofString "/claim/cut.py") 605)], #[]⟩
noncomputable def o297 : Obj := fnO (stAt 43) (Str.ofString "law") (.str (Str.ofString "law_nq0248_01") 528) (.ref 296) .none
noncomputable def K (P : Params) : Frag := (nat_lit 2, o2) :: (nat_lit 3, o3 P) :: (nat_lit 20, o20) :: (nat_lit 21, o21) :: (nat_lit 27, o27) :: (nat_lit 28, o28) :: (nat_lit 34, o34) :: (nat_lit 35, o35) :: (nat_lit 36, o36) :: (nat_lit 37, o37) :: (nat_lit 38, o38) :: (nat_lit 39, o39) :: (nat_lit 40, o40) :: (nat_lit 41, o41) :: (nat_lit 42, o42) :: (nat_lit 43, o43) :: (nat_lit 44, o44) :: (nat_lit 45, o45) :: (nat_lit 46, o46) :: (nat_lit 47, o47) :: (nat_lit 48, o48) :: (nat_lit 49, o49) :: (nat_lit 50, o50) :: (nat_lit 51, o51) :: (nat_lit 52, o52) :: (nat_lit 53, o53) :: (nat_lit 54, o54) :: (nat_lit 55, o55) :: (nat_lit 56, o56) :: (nat_lit 57, o57) :: (nat_lit 58, o58) :: (nat_lit 59, o59) :: (nat_lit 60, o60) :: (nat_lit 61, o61) :: (nat_lit 62, o62) :: (nat_lit 63, o63) :: (nat_lit 64, o64) :: (nat_lit 65, o65) :: (nat_lit 66, o66) :: (nat_lit 67, o67) :: (nat_lit 68, o68) :: (nat_lit 74, o74) :: (nat_lit 75, o75) :: (nat_lit 89, o89) :: (nat_lit 90, o90) :: (nat_lit 93, o93 P) :: (nat_lit 94, o94) :: (nat_lit 95, o95) :: (nat_lit 96, o96) :: (nat_lit 97, o97) :: (nat_lit 108, o108 P) :: (nat_lit 109, o109) :: (nat_lit 110, o110) :: (nat_lit 120, o120) :: (nat_lit 126, o126) :: (nat_lit 127, o127) :: (nat_lit 133, o133) :: (nat_lit 134, o134) :: (nat_lit 140, o140) :: (nat_lit 141, o141) :: (nat_lit 145, o145) :: (nat_lit 146, o146) :: (nat_lit 152, o152) :: (nat_lit 153, o153) :: (nat_lit 159, o159) :: (nat_lit 160, o160) :: (nat_lit 166, o166) :: (nat_lit 167, o167) :: (nat_lit 173, o173) :: (nat_lit 174, o174) :: (nat_lit 180, o180) :: (nat_lit 181, o181) :: (nat_lit 187, o187) :: (nat_lit 188, o188) :: (nat_lit 190, o190 P) :: (nat_lit 191, o191) :: (nat_lit 192, o192) :: (nat_lit 193, o193) :: (nat_lit 208, o208) :: (nat_lit 209, o209) :: (nat_lit 215, o215) :: (nat_lit 216, o216) :: (nat_lit 222, o222) :: (nat_lit 223, o223) :: (nat_lit 229, o229) :: (nat_lit 230, o230) :: (nat_lit 232, o232 P) :: (nat_lit 233, o233) :: (nat_lit 234, o234) :: (nat_lit 235, o235) :: (nat_lit 243, o243) :: (nat_lit 244, o244) :: (nat_lit 250, o250) :: (nat_lit 251, o251) :: (nat_lit 257, o257) :: (nat_lit 258, o258) :: (nat_lit 264, o264) :: (nat_lit 265, o265) :: (nat_lit 269, o269) :: (nat_lit 270, o270) :: (nat_lit 274, o274) :: (nat_lit 275, o275) :: (nat_lit 281, o281) :: (nat_lit 282, o282) :: (nat_lit 286, o286) :: (nat_lit 287, o287) :: (nat_lit 291, o291) :: (nat_lit 292, o292) :: (nat_lit 296, o296) :: (nat_lit 297, o297) :: []
noncomputable def Kas : List Addr := 2 :: 3 :: 20 :: 21 :: 27 :: 28 :: 34 :: 35 :: 36 :: 37 :: 38 :: 39 :: 40 :: 41 :: 42 :: 43 :: 44 :: 45 :: 46 :: 47 :: 48 :: 49 :: 50 :: 51 :: 52 :: 53 :: 54 :: 55 :: 56 :: 57 :: 58 :: 59 :: 60 :: 61 :: 62 :: 63 :: 64 :: 65 :: 66 :: 67 :: 68 :: 74 :: 75 :: 89 :: 90 :: 93 :: 94 :: 95 :: 96 :: 97 :: 108 :: 109 :: 110 :: 120 :: 126 :: 127 :: 133 :: 134 :: 140 :: 141 :: 145 :: 146 :: 152 :: 153 :: 159 :: 160 :: 166 :: 167 :: 173 :: 174 :: 180 :: 181 :: 187 :: 188 :: 190 :: 191 :: 192 :: 193 :: 208 :: 209 :: 215 :: 216 :: 222 :: 223 :: 229 :: 230 :: 232 :: 233 :: 234 :: 235 :: 243 :: 244 :: 250 :: 251 :: 257 :: 258 :: 264 :: 265 :: 269 :: 270 :: 274 :: 275 :: 281 :: 282 :: 286 :: 287 :: 291 :: 292 :: 296 :: 297 :: []
theorem Kas_eq (P : Params) : Kas = (K P).map (·.1) := by kernel_rfl
noncomputable abbrev H : Hook := kHook K Kas Kas_eq
noncomputable def runL (w : World) (os : OsState) := (topRunT treeTable pw w 11 ann0 4332 ⟨T0 w.params, 11, {}, Array.mk [], boot_drawn, boot_toks, os⟩ (topStub pw)).map
        (fun s => ((staticsOk (importedModules pw.main.body) (boot_heap w.params) s.abs.heap && namesBound pw s.abs.heap && gensDone s.abs && laidKept (boot_heap w.params) s.abs.heap), openSeen q loose (importedModules pw.main.body) (fun _ => true) true s.abs, Kas.map s.abs.heap.get?))
noncomputable def runR (w : World) (_os : OsState) := some (true, openGood q loose, (K w.params).map fun p => some p.2)
noncomputable def sizeL (w : World) := ((boot_heap w.params).isNs mainGlobals && (Array.mk [] : Array GenState).size == 0, (boot_heap w.params).objs.size, (boot_heap w.params).nsMap mainGlobals "__annotations__")
theorem size0 (w : World) : sizeL w = (true, 11, ann0) := by kernel_rfl
theorem left0 (w : World) (os : OsState) : runL w os = runR w os := by kernel_rfl
theorem left : LeftO pw q loose (fun _ => true) (Hook.obs H) (Hook.val H) 4332 :=
  left_of_tree opens size0 T0_eq left0
end
section
open PySem PySem.W PyProof.Rows PySem.Calls PySem.Spec PyProof.Rows.LCg
set_option maxRecDepth 100000
set_option maxHeartbeats 4000000
theorem hd_of (hc9 : ∀ {d : DefRec} {kwd : List (Str × Expr)} (_ : defOf Mine.q (Str.ofString "law") = some (d, kwd)), WalkO Mine.q Mine.loose (fun _ _ => True) (Hook.says Mine.H) PySem.Challenge.rw_nq0248_01.row.toRowW d kwd (fun f vs => PySem.call f vs)) : PySem.Challenge.rw_nq0248_01.Holds := by
  refine holds_law (by kernel_rfl) fun said => ?_
  refine holds_open (q := Mine.q) (loose := Mine.loose) (Xt := fun _ => true) (XP := fun _ _ => True) (Yf := Hook.obs Mine.H) (Ya := Hook.val Mine.H) (YP := Hook.says Mine.H) (N := 4332) Mine.left (Hook.of Mine.H) (Hook.keeps Mine.H) (fun _ _ => trivial) (fun _ _ _ _ _ => trivial) (by rfl) (by rfl) (by rfl) (fun s _ => recFacts_of rfl) (by rfl) (by assumption) (by decide +kernel) ⟨rfl, rfl, rfl, rfl, rfl, by decide +kernel⟩ ?hw ?hc
  case hw => exact ⟨[.list []], by decide +kernel, by decide +kernel⟩
  case hc => exact hc9 (by rfl)
end
section
open PySem PySem.W PyProof.Rows PySem.Calls PySem.Spec
set_option maxRecDepth 100000
set_option maxHeartbeats 1000000
def setN (a : Addr) (o : Obj) (news : List (Addr × Obj)) : List (Addr × Obj) := news.map fun p => if p.1 = a then (a, o) else p
theorem mem_setN_ne {a : Addr} {o : Obj} {news : List (Addr × Obj)} {p : Addr × Obj} (hp : p ∈ news) (hn : p.1 ≠ a) : p ∈ setN a o news :=
  List.mem_map.mpr ⟨p, hp, by rw [if_neg hn]⟩
theorem mem_setN_self {a : Addr} {o o' : Obj} {news : List (Addr × Obj)} (hp : (a, o) ∈ news) : (a, o') ∈ setN a o' news :=
  List.mem_map.mpr ⟨(a, o), hp, by simp⟩
theorem of_mem_setN {a : Addr} {o : Obj} {news : List (Addr × Obj)} {p : Addr × Obj} (hp : p ∈ setN a o news) : (p.1 = a ∧ p.2 = o ∧ ∃ q ∈ news, q.1 = a) ∨ (p.1 ≠ a ∧ p ∈ news) := by
  obtain ⟨q, hq, e⟩ := List.mem_map.mp hp
  by_cases h : q.1 = a
  · rw [if_pos h] at e; subst e; exact .inl ⟨rfl, rfl, q, hq, h⟩
  · rw [if_neg h] at e; subst e; exact .inr ⟨h, hq⟩
theorem setN_map (a : Addr) (o : Obj) (news : List (Addr × Obj)) : (setN a o news).map (·.1) = news.map (·.1) := by
  unfold setN
  rw [List.map_map]
  refine List.map_congr_left fun p _ => ?_
  by_cases h : p.1 = a <;> simp [h]
section
variable {h₀ h h' : Heap} {L a : Addr} {m : Str → Option Value} {news : List (Addr × Obj)} {o o' : Obj}
theorem led_upd (F : Fr h₀ L h m) (N : News h₀ L h news) (ha : (a, o) ∈ news) (hs : Heap.SameBut a h h') (ho : h'.get? a = some o') : Fr h₀ L h' m ∧ News h₀ L h' (setN a o' news) := by
  have D := N _ ha
  obtain ⟨oL, es, ep, hL, r⟩ := F.ns
  refine ⟨⟨⟨oL, es, ep, (hs.2 _ (Ne.symm D.2.1)).trans hL, r⟩, fun b x q => (hs.2 _ fun z => ?_).trans (F.keep b x q), F.above⟩, fun p hp => ?_⟩
  · have := D.2.2; rw [← z, q] at this; cases this
  · rcases of_mem_setN hp with ⟨e1, e2, _⟩ | ⟨e1, e2⟩
    · rw [e1, e2]; exact ⟨ho, D.2⟩
    · have P := N p e2; exact ⟨(hs.2 _ e1).trans P.1, P.2⟩
theorem led_keep (F : Fr h₀ L h m) (N : News h₀ L h news) (hk : ∀ b o, h.get? b = some o → h'.get? b = some o) : Fr h₀ L h' m ∧ News h₀ L h' news := by
  obtain ⟨oL, es, ep, hL, r⟩ := F.ns
  exact ⟨⟨⟨oL, es, ep, hk _ _ hL, r⟩, fun b x q => hk _ _ (F.keep b x q), F.above⟩, fun p hp => ⟨hk _ _ (N p hp).1, (N p hp).2⟩⟩
theorem news_sub {news' : List (Addr × Obj)} (N : News h₀ L h news) (hs : ∀ p ∈ news', p ∈ news) : News h₀ L h news' := fun p hp => N p (hs p hp)
theorem news_cons (N : News h₀ L h news) (h1 : h.get? a = some o) (h2 : a ≠ L) (h3 : h₀.get? a = none) : News h₀ L h ((a, o) :: news) := fun p hp => by
  rcases List.mem_cons.mp hp with rfl | hp
  · exact ⟨h1, h2, h3⟩
  · exact N p hp
theorem news_det (N : News h₀ L h news) (h1 : (a, o) ∈ news) (h2 : (a, o') ∈ news) : o = o' := by
  have := (N _ h1).1; rw [(N _ h2).1] at this; exact (Option.some.inj this).symm
end
section
variable {prog : Program} {w : World} {A : Around} {s : Shared} {env : Env} {h₀ : Heap}
theorem for_led {R : Result → Shared → Prop} {target : Expr} {body orelse : List Stmt} {I : Addr} {fp wr : List Addr} {n : Nat} {P Md : Nat → Value → Heap → Prop} {St : Nat → Heap → Prop} {m : Str → Option Value}
    {news : List (Addr × Obj)} (W : KTurns prog w A target I fp wr n P Md St)
    (hLf : env.locals ∉ fp) (hwr : ∀ b ∈ wr, h₀.get? b = none) (hnw : ∀ p ∈ news, p.1 ∉ wr)
    (hst : St 0 s.heap) (F : Fr h₀ env.locals s.heap m) (N : News h₀ env.locals s.heap news)
    (J : Nat → (Str → Option Value) → List (Addr × Obj) → Prop) (h0 : J 0 m news)
    (step : ∀ i v m₁ news₁ h₁ tk₁ own, i < n → P i v h₁ → J i m₁ news₁ → (∀ p ∈ news₁, p.1 ∉ wr) → (∀ p ∈ own, p.1 ∈ fp) →
      Fr h₀ env.locals h₁ m₁ → News h₀ env.locals h₁ (own ++ news₁) →
      wpAny (model prog w) A (assign target env v) (fun _ s₂ => wpAny (model prog w) A (execs body env) (fun f s₃ => match f with
          | .next | .cont => ∃ h' tk m' news', s₃ = { s with heap := h', toks := tk } ∧ Fr h₀ env.locals h' m' ∧ News h₀ env.locals h' (own ++ news') ∧ (∀ p ∈ news', p.1 ∉ wr) ∧ J (i + 1) m' news'
          | .brk => R (.ok .next) s₃
          | .ret v => R (.ok (.ret v)) s₃) (notedBy (model prog w) A env fun e s' => R (.error e) s') s₂) (notedBy (model prog w) A env fun e s' => R (.error e) s') { s with heap := h₁, toks := tk₁ })
    (hR : ∀ h' tk m' news', Fr h₀ env.locals h' m' → News h₀ env.locals h' news' → (∀ p ∈ news', p.1 ∉ wr) → J n m' news' →
      wpAny (model prog w) A (execs orelse env) (fun f s₃ => R (.ok f) s₃) (notedBy (model prog w) A env fun e s' => R (.error e) s') { s with heap := h', toks := tk }) :
    codeAny (model prog w) A (.forLoop target (.ref I) body orelse env) R s := by
  have hLw : env.locals ∉ wr := fun h => hLf (W.sub _ h)
  have old : ∀ b o, h₀.get? b = some o → b ∉ wr := fun b o e hb => by rw [hwr b hb] at e; cases e
  refine codeAny_forLoop_any
    (fun k s' => ∃ h' tk m' news' i, s' = { s with heap := h', toks := tk } ∧ St i h' ∧ Fr h₀ env.locals h' m' ∧ News h₀ env.locals h' news' ∧ (∀ p ∈ news', p.1 ∉ wr) ∧ J i m' news' ∧ i ≤ n ∧ k = n + 1 - i) ?_ (n + 1)
    ⟨s.heap, s.toks, m, news, 0, rfl, hst, F, N, hnw, h0, Nat.zero_le _, rfl⟩
  intro k s' pt92
  (with_reducible refine (?_ : let G9 : Prop := _; G9)); intro G9
  obtain ⟨h', tk, m', news', i, rfl, hst', F', N', hnw', hJ, hi, rfl⟩ := pt92
  k_unfold; clear G9
  have next : ∀ h₁ : Heap, (∀ b o, b ∉ wr → h'.get? b = some o → h₁.get? b = some o) → Fr h₀ env.locals h₁ m' ∧ News h₀ env.locals h₁ news' := fun h₁ hk₁ =>
    ⟨⟨F'.ns.at' fun o e => hk₁ _ o hLw e, fun b o e => hk₁ b o (old b o e) (F'.keep b o e), F'.above⟩, fun p hp => ⟨hk₁ _ _ (hnw' p hp) (N' p hp).1, (N' p hp).2⟩⟩
  by_cases hlt : i < n
  · refine W.item i _ _ _ hlt hst' fun v h₀' tk₁ hM hk₀ => ?_
    refine W.go i v _ _ _ hM fun h₁ hP hst₁ hk₁' => ?_
    have hk₁ : ∀ b o, b ∉ wr → h'.get? b = some o → h₁.get? b = some o := fun b o hb e => hk₁' b o hb (hk₀ b o hb e)
    (with_reducible refine (?_ : let G9 : Prop := _; G9)); intro G9
    obtain ⟨F₁, N₁⟩ := next h₁ hk₁
    k_unfold; clear G9
    have Nown : News h₀ env.locals h₁ (ownOf h₀ fp h₁) := news_ownOf hLf
    refine wpAny_mono (step i v m' news' h₁ tk₁ (ownOf h₀ fp h₁) hlt hP hJ hnw' ownOf_sub F₁ (Nown.append N₁))
      (fun _ s₂ h₂ => wpAny_mono h₂ (fun f s₃ h₃ => ?_) fun _ _ e => e) fun _ _ e => e
    have fin : (∃ h' tk m' news', s₃ = { s with heap := h', toks := tk } ∧ Fr h₀ env.locals h' m' ∧ News h₀ env.locals h' (ownOf h₀ fp h₁ ++ news') ∧ (∀ p ∈ news', p.1 ∉ wr) ∧ J (i + 1) m' news') →
        ∃ k', k' < n + 1 - i ∧ ∃ h' tk m' news' j, s₃ = { s with heap := h', toks := tk } ∧ St j h' ∧ Fr h₀ env.locals h' m' ∧ News h₀ env.locals h' news' ∧ (∀ p ∈ news', p.1 ∉ wr) ∧ J j m' news' ∧ j ≤ n ∧ k' = n + 1 - j := by
      intro pt90
      (with_reducible refine (?_ : let G9 : Prop := _; G9)); intro G9
      obtain ⟨h₃', tk₃, m₂, news₂, rfl, F₃, N₃, ha₃, hJ₃⟩ := pt90
      k_unfold; clear G9
      refine ⟨n + 1 - (i + 1), sub_dn (Nat.lt_succ_of_lt hlt), h₃', tk₃, m₂, news₂, i + 1, rfl, ?_, F₃, N₃.right, ha₃, hJ₃, hlt, rfl⟩
      refine W.frame _ _ _ hst₁ fun b hb o e => ?_
      cases hn : h₀.get? b with
      | some o₀ =>
        have : o₀ = o := by have := F₁.keep b o₀ hn; rw [e] at this; exact (Option.some.inj this).symm
        exact this ▸ F₃.keep b o₀ hn
      | none => exact (N₃ _ (List.mem_append_left _ (mem_ownOf hb hn e))).1
    cases f with
    | next => exact fin h₃
    | cont => exact fin h₃
    | brk => exact h₃
    | ret v => exact h₃
  · have hin : i = n := Nat.le_antisymm (by assumption) (Nat.not_lt.mp (by assumption))
    subst hin
    refine W.done _ _ _ hst' fun h₁ tk₁ hk₁ => ?_
    (with_reducible refine (?_ : let G9 : Prop := _; G9)); intro G9
    obtain ⟨F₁, N₁⟩ := next h₁ hk₁
    k_unfold; clear G9
    exact hR h₁ tk₁ m' news' F₁ N₁ hnw' hJ
end
section
open AutoSeq1 (wpAny_loadPart')
theorem meets_enumT (l : Addr) (items : Array Value) (n : Nat) :
    Meets (Builtin.«enumerate.__new__» ⟨[.type "enumerate", .ref l], []⟩) (fun _ R s => s.heap.get? l = some { cls := .type "tuple", dict := none, data := .seq items n, slots := #[] } ∧
      R (.ok (.ret (.ref (s.heap.push { cls := .type "tuple_iterator", data := .fields #[.ref l, .int 0 0] }).objs.size)))
        { s with heap := (s.heap.push { cls := .type "tuple_iterator", data := .fields #[.ref l, .int 0 0] }).push { cls := .type "enumerate", data := .fields #[.none, .bool false, .ref s.heap.objs.size, rawInt 0, .none, .none] } }) :=
  .of_wp fun prog w A R s h => by
    (with_reducible refine (?_ : let G9 : Prop := _; G9)); intro G9
    obtain ⟨hp, g, d, tk, os⟩ := s; obtain ⟨hl, h⟩ := h
    k_unfold; clear G9
    have hsub := sub_enumerate
    have hL : Heap.IsTuple (Shared.heap ⟨hp, g, d, tk, os⟩) l items := ⟨_, hl, rfl, n, rfl⟩
    wp_walk using wpAny_loadPart' hl
    refine wpAny_stack_any fun st => wpAny_pure ?_
    split
    · rename_i c _ _ _ _ _
      cases (c == Value.type "enumerate")
      · wp_walk using wpAny_loadPart' hl, wpAny_pyIter_tuple hL
        exact ⟨_, rfl, h⟩
      · wp_walk using wpAny_loadPart' hl, wpAny_pyIter_tuple hL
        exact ⟨_, rfl, h⟩
    · wp_walk using wpAny_loadPart' hl, wpAny_pyIter_tuple hL
      exact ⟨_, rfl, h⟩
variable {prog : Program} {w : World} {A : Around} {E : Value → Shared → Prop} {s : Shared}
theorem call_enumT {l : Addr} {items : Array Value} {n : Nat} {Q : Value → Shared → Prop}
    (hl : s.heap.get? l = some { cls := .type "tuple", dict := none, data := .seq items n, slots := #[] })
    (h : ∀ h', IsEnum h' (s.heap.objs.size + 1) s.heap.objs.size 0 .none → h'.IsTupleIter s.heap.objs.size l 0 → h'.objs.size = s.heap.objs.size + 2 →
      (∀ b o, s.heap.get? b = some o → h'.get? b = some o) → Q (.ref (s.heap.objs.size + 1)) { s with heap := h' }) :
    wpAny (model prog w) A (call (.type "enumerate") [.ref l]) Q E s := by
  refine callType_new F.called_enumerate (by decide) (F.typeCall_enumerate_1 _) (F.newCall_enumerate_1 _) (fun obj => F.args_object_init_2 obj _) F.entry_enumerate_new
    (meets_enumT l items n) ⟨hl, ?_⟩
  have hz : (s.heap.push { cls := .type "tuple_iterator", data := .fields #[.ref l, .int 0 0] }).objs.size = s.heap.objs.size + 1 := Heap.size_push ..
  show _ ∧ _
  rw [hz]
  have he : IsEnum ((s.heap.push { cls := .type "tuple_iterator", data := .fields #[.ref l, .int 0 0] }).push
      { cls := .type "enumerate", data := .fields #[.none, .bool false, .ref s.heap.objs.size, rawInt 0, .none, .none] }) (s.heap.objs.size + 1) s.heap.objs.size 0 .none := by
    have := Heap.get?_push_size (s.heap.push { cls := .type "tuple_iterator", data := .fields #[.ref l, .int 0 0] })
      (o := { cls := .type "enumerate", data := .fields #[.none, .bool false, .ref s.heap.objs.size, rawInt 0, .none, .none] }) rfl
    rw [hz] at this; exact this
  refine ⟨⟨_, he, rfl⟩, h _ he ⟨_, Heap.get?_push_of_some _ (Heap.get?_push_size _ rfl), rfl, rfl⟩ (by rw [Heap.size_push, hz]) fun b o x => Heap.get?_push_of_some _ (Heap.get?_push_of_some _ x)⟩
theorem nextOf_tup_item {it t : Addr} {i : Nat} {items} {x : Value} {Q : Value → Shared → Prop} (hit : s.heap.IsTupleIter it t i)
    (hl : s.heap.IsTuple t items) (hx : items[i]? = some x)
    (hQ : ∀ h', h'.IsTupleIter it t (i + 1) → Heap.SameBut it s.heap h' → Q x { s with heap := h' }) :
    wpAny (model prog w) A (Builtin.SmallTypes.nextOf (.ref it)) Q E s := by
  (with_reducible refine (?_ : let G9 : Prop := _; G9)); intro G9
  obtain ⟨o, ho, hc, hd⟩ := id hit
  obtain ⟨ol, hol, _, nl, hdl⟩ := hl
  k_unfold; clear G9
  unfold Builtin.SmallTypes.nextOf
  refine wpAny_bind (wpAny_callSpecial?_slot (name := Str.ofString "__next__") hit.typeIs F.slot_tuple_iterator_next
    (wpAny_call_entry F.slot_tuple_iterator_next hit.typeIs F.entry_tuple_iterator_next ?_ (F.args_tuple_iterator_next_1 _)))
  show wpAny _ _ (field (.ref it) 0 >>= _) _ _ s
  refine wpAny_bind (wpAny_field ho hd (x := .ref t) rfl ?_)
  show wpAny _ _ (if (Value.ref t == Value.none) = true then _ else _) _ _ s
  rw [if_neg (show ¬ ((Value.ref t == Value.none) = true) from Bool.false_ne_true)]
  show wpAny _ _ (field (.ref it) 1 >>= _) _ _ s
  refine wpAny_bind (wpAny_field ho hd (x := .int i 0) rfl ?_)
  show wpAny _ _ (seqItems? (.ref t) >>= _) _ _ s
  refine wpAny_bind (wpAny_seqItems hol hdl ?_)
  simp only [Int.toNat_natCast, hx]
  refine wpAny_bind (wpAny_setField ho hd (by simp) (wpAny_pure ⟨x, rfl, wpAny_pure (hQ _ ?_ (Heap.SameBut.update ..))⟩))
  exact ⟨_, Heap.get?_update_self _ ho (Obj.isFreed_of_fields (Obj.data_mapFields hd _)), (Obj.cls_mapFields ..).trans hc, by
    rw [Obj.data_mapFields hd]; simp [rawInt]⟩
theorem nextOf_tup_end {it l : Addr} {i : Nat} {items} {Q : Value → Shared → Prop} (hh : A.handled = none)
    (hit : s.heap.IsTupleIter it l i) (hl : s.heap.IsTuple l items) (hx : items[i]? = none)
    (hE : ∀ h' e, Heap.ExtBut it s.heap h' → (∃ o, h'.get? e = some o ∧ o.cls = .type "StopIteration") → E (.ref e) { s with heap := h' }) :
    wpAny (model prog w) A (Builtin.SmallTypes.nextOf (.ref it)) Q E s := by
  (with_reducible refine (?_ : let G9 : Prop := _; G9)); intro G9
  obtain ⟨o, ho, hc, hd⟩ := id hit
  obtain ⟨ol, hol, _, nl, hdl⟩ := hl
  k_unfold; clear G9
  unfold Builtin.SmallTypes.nextOf
  refine wpAny_bind (wpAny_callSpecial?_slot (name := Str.ofString "__next__") hit.typeIs F.slot_tuple_iterator_next
    (wpAny_call_entry F.slot_tuple_iterator_next hit.typeIs F.entry_tuple_iterator_next ?_ (F.args_tuple_iterator_next_1 _)))
  show wpAny _ _ (field (.ref it) 0 >>= _) _ _ s
  refine wpAny_bind (wpAny_field ho hd (x := .ref l) rfl ?_)
  show wpAny _ _ (if (Value.ref l == Value.none) = true then _ else _) _ _ s
  rw [if_neg (show ¬ ((Value.ref l == Value.none) = true) from Bool.false_ne_true)]
  show wpAny _ _ (field (.ref it) 1 >>= _) _ _ s
  refine wpAny_bind (wpAny_field ho hd (x := .int i 0) rfl ?_)
  show wpAny _ _ (seqItems? (.ref l) >>= _) _ _ s
  refine wpAny_bind (wpAny_seqItems hol hdl ?_)
  simp only [Int.toNat_natCast, hx]
  refine wpAny_bind (wpAny_rule (wpAny_bind (wpAny_setField ho hd (by simp) ?_)))
  show wpAny _ _ (newExc (.type "StopIteration") [] >>= _) _ _ _
  refine wpAny_bind ?_
  simp only [newExc, newTuple]
  refine wpAny_bind (wpAny_newObj_type ?_ (by size_fits))
  refine wpAny_bind (m := firstArgMember _ _) (wpAny_of_eq (a := Value.none) (by first | rfl | (simp only [firstArgMember]; rfl)) ?_)
  refine wpAny_newObj_type ?_ (by size_fits)
  simp only [raiseNew]
  refine wpAny_bind (wpAny_handled ?_)
  first | rw [show A.in1.handled = none from hh] | rw [hh]
  refine wpAny_bind (wpAny_pure (wpAny_throw ?_))
  exact hE _ _ (((Heap.SameBut.update ..).extBut.push _).push _) ⟨_, Heap.get?_push_size _ rfl, rfl⟩
theorem enumT_next {e it l : Addr} {i : Nat} {items : Array Value} {x old : Value} {Q : Value → Shared → Prop}
    (he : IsEnum s.heap e it i old) (hit : s.heap.IsTupleIter it l i) (hl : s.heap.IsTuple l items) (hx : items[i]? = some x) (hne : e ≠ it)
    (hQ : ∀ h', IsEnumOut h' e it ((i : Int) + 1) x s.heap.objs.size → h'.IsTupleIter it l (i + 1) →
      h'.get? s.heap.objs.size = some { cls := .type "tuple", data := .seq #[.int i s.toks, x] } → h'.objs.size = s.heap.objs.size + 1 →
      (∀ b o, b ≠ e → b ≠ it → s.heap.get? b = some o → h'.get? b = some o) → Q (.ref s.heap.objs.size) { s with heap := h', toks := s.toks + 1 }) :
    wpAny (model prog w) A (Builtin.«enumerate.__next__» ⟨[.ref e], []⟩) (fun fin s' => ∃ v, fin = .done (.ret v) ∧ Q v s') E s := by
  (with_reducible refine (?_ : let G9 : Prop := _; G9)); intro G9
  obtain ⟨hp, g, d, tk, os⟩ := s
  k_unfold; clear G9
  show wpAny _ _ (field (.ref e) 2 >>= _) _ _ _
  refine wpAny_bind (wpAny_field he rfl (x := .ref it) rfl ?_)
  refine wpAny_bind (nextOf_tup_item hit hl hx fun h₁ hit₁ hs₁ => ?_)
  replace hs₁ : Heap.SameBut it hp h₁ := hs₁
  have he₁ : IsEnum h₁ e it i old := (hs₁.2 e hne).trans he
  show wpAny _ _ (field (.ref e) 3 >>= _) _ _ ⟨h₁, g, d, tk, os⟩
  refine wpAny_bind (wpAny_field he₁ rfl (x := rawInt i) rfl ?_)
  show wpAny _ _ (field (.ref e) 4 >>= _) _ _ ⟨h₁, g, d, tk, os⟩
  refine wpAny_bind (wpAny_field he₁ rfl (x := .none) rfl ?_)
  show wpAny _ _ (mkInt i >>= _) _ _ ⟨h₁, g, d, tk, os⟩
  refine wpAny_bind (wpAny_mkInt ?_)
  show wpAny _ _ (setField (.ref e) 3 (rawInt ((i : Int) + 1)) >>= _) _ _ ⟨h₁, g, d, tk + 1, os⟩
  refine wpAny_bind (wpAny_setField_rec he₁ (by simp) fun h₂ he₂ hs₂ => ?_)
  replace hs₂ : Heap.SameBut e h₁ h₂ := hs₂
  replace he₂ : IsEnum h₂ e it ((i : Int) + 1) old := he₂
  show wpAny _ _ (setField (.ref e) 4 .none >>= _) _ _ ⟨h₂, g, d, tk + 1, os⟩
  refine wpAny_bind (wpAny_setField_rec he₂ (by simp) fun h₃ he₃ hs₃ => ?_)
  replace hs₃ : Heap.SameBut e h₂ h₃ := hs₃
  replace he₃ : IsEnum h₃ e it ((i : Int) + 1) old := he₃
  show wpAny _ _ (newTuple [.int i tk, x] >>= _) _ _ ⟨h₃, g, d, tk + 1, os⟩
  refine wpAny_bind (wpAny_newTuple ?_)
  have he₄ : IsEnum (h₃.push { cls := .type "tuple", data := .seq #[.int i tk, x] }) e it ((i : Int) + 1) old := Heap.get?_push_of_some _ he₃
  generalize hh₄ : h₃.push { cls := .type "tuple", data := .seq #[.int i tk, x] } = h₄ at he₄
  have hsz : h₃.objs.size = hp.objs.size := by rw [hs₃.1, hs₂.1, hs₁.1]
  have hel : e < hp.objs.size := Heap.lt_size he
  have ht₄ : h₄.get? hp.objs.size = some { cls := .type "tuple", data := .seq #[.int i tk, x] } := by rw [← hh₄, ← hsz]; exact Heap.get?_push_size _ rfl
  have hz₄ : h₄.objs.size = hp.objs.size + 1 := by rw [← hh₄, Heap.size_push, hsz]
  have hk₄ : ∀ b o, b ≠ e → b ≠ it → hp.get? b = some o → h₄.get? b = some o := fun b o hbe hbi hb => by
    rw [← hh₄]; exact Heap.get?_push_of_some _ (hs₃.extBut b o hbe (hs₂.extBut b o hbe (hs₁.extBut b o hbi hb)))
  have hit₄ : h₄.IsTupleIter it l (i + 1) := by
    rw [← hh₄]; obtain ⟨o, ho, r⟩ := (hit₁.extBut hs₂.extBut (Ne.symm hne)).extBut hs₃.extBut (Ne.symm hne); exact ⟨o, Heap.get?_push_of_some _ ho, r⟩
  show wpAny _ _ (Builtin.SmallTypes.ownedTupleIsFree (.ref e) >>= _) _ _ ⟨h₄, g, d, tk + 1, os⟩
  rw [hsz]
  clear hh₄ he₃ hs₃ he₂ hs₂ he₁ hs₁ hit₁ hsz h₃ h₂ h₁
  refine wpAny_bind ?_
  · unfold Builtin.SmallTypes.ownedTupleIsFree
    refine wpAny_bind (wpAny_field he₄ rfl (x := .none) rfl (wpAny_pure ?_))
    simp only [if_true]
    refine wpAny_bind (wpAny_rule ?_)
    refine wpAny_bind (wpAny_field he₄ rfl (x := old) rfl ?_)
    refine wpAny_bind (wpAny_setField_rec he₄ (by simp) fun h₅ he₅ hs₅ => ?_)
    replace hs₅ : Heap.SameBut e h₄ h₅ := hs₅
    replace he₅ : IsEnum h₅ e it ((i : Int) + 1) x := he₅
    show wpAny _ _ (Builtin.SmallTypes.ownedTupleHandOut (.ref e) (.ref hp.objs.size) >>= _) _ _ ⟨h₅, g, d, tk + 1, os⟩
    refine wpAny_bind ?_
    · unfold Builtin.SmallTypes.ownedTupleHandOut
      refine wpAny_bind (wpAny_setField_rec he₅ (by simp) fun h₆ he₆ hs₆ => ?_)
      replace hs₆ : Heap.SameBut e h₅ h₆ := hs₆
      replace he₆ : IsEnumOut h₆ e it ((i : Int) + 1) x hp.objs.size := he₆
      refine wpAny_setField_rec he₆ (by simp) fun h₇ he₇ hs₇ => ?_
      replace hs₇ : Heap.SameBut e h₆ h₇ := hs₇
      replace he₇ : IsEnumOut h₇ e it ((i : Int) + 1) x hp.objs.size := he₇
      refine wpAny_bind (wpAny_letGo (wpAny_pure ⟨_, rfl, hQ h₇ he₇ ?_ ?_ ?_ ?_⟩))
      · exact ((hit₄.extBut hs₅.extBut (Ne.symm hne)).extBut hs₆.extBut (Ne.symm hne)).extBut hs₇.extBut (Ne.symm hne)
      · exact hs₇.extBut _ _ (Nat.ne_of_gt hel) (hs₆.extBut _ _ (Nat.ne_of_gt hel) (hs₅.extBut _ _ (Nat.ne_of_gt hel) ht₄))
      · rw [hs₇.1, hs₆.1, hs₅.1, hz₄]
      · exact fun b o hbe hbi hb => hs₇.extBut b o hbe (hs₆.extBut b o hbe (hs₅.extBut b o hbe (hk₄ b o hbe hbi hb)))
theorem turns_enumT (hh : A.handled = none) (elts : List Expr) (k : Nat) (pos : Pos) (e it l : Addr) (hei : e ≠ it) (hle : l ≠ e) (hli : l ≠ it) (items : Array Value) :
    KTurns prog w A (.Tuple elts k pos) e [e, it, l] [e, it] items.size
      (fun i v h => ∃ T t x, v = .ref T ∧ items[i]? = some x ∧ T ≠ e ∧ T ≠ it ∧ h.IsTuple T #[.int i t, x])
      (fun i v h => ∃ T t x, v = .ref T ∧ items[i]? = some x ∧ T ≠ e ∧ T ≠ it ∧ h.IsTuple T #[.int i t, x] ∧ IsEnumOut h e it ((i : Int) + 1) x T ∧ h.IsTupleIter it l (i + 1) ∧ h.IsTuple l items)
      (fun i h => (∃ old, IsEnum h e it i old) ∧ h.IsTupleIter it l i ∧ h.IsTuple l items) where
  sub := fun b hb => by
    rcases List.mem_cons.mp hb with rfl | hb
    · exact List.mem_cons_self ..
    · exact List.mem_cons_of_mem _ (by rcases List.mem_cons.mp hb with rfl | hb; exact List.mem_cons_self ..; cases hb)
  frame := fun i h h' hst hk => by
    (with_reducible refine (?_ : let G9 : Prop := _; G9)); intro G9
    obtain ⟨⟨old, he⟩, hit, hl⟩ := hst
    k_unfold; clear G9
    exact ⟨⟨old, hk e (by simp) _ he⟩, hit.at fun o x => hk it (by simp) o x, hl.at fun o x => hk l (by simp) o x⟩
  item := fun i s Q E hi hst hQ => by
    (with_reducible refine (?_ : let G9 : Prop := _; G9)); intro G9
    obtain ⟨⟨old, he⟩, hit, hl⟩ := hst
    k_unfold; clear G9
    have hx : items[i]? = some items[i] := Array.getElem?_eq_getElem hi
    have hT : s.TypeIs (.ref e) "enumerate" := ⟨_, he, rfl⟩
    have helt : e < s.heap.objs.size := Heap.lt_size he
    have hilt : it < s.heap.objs.size := by obtain ⟨_, x, _⟩ := hit; exact Heap.lt_size x
    unfold pyNext
    refine wpAny_bind (wpAny_attempt (wpAny_callSpecial?_slot (name := Str.ofString "__next__") hT F.slot_enumerate_next
      (wpAny_call_entry F.slot_enumerate_next hT F.entry_enumerate_next
        (enumT_next he hit hl hx hei fun h' ho hit' hT' hsz hk => wpAny_pure ?_) (F.args_enumerate_next_1 _))))
    exact hQ _ h' (s.toks + 1) ⟨_, s.toks, _, rfl, hx, Nat.ne_of_gt helt, Nat.ne_of_gt hilt, ⟨_, hT', rfl, _, rfl⟩, ho, hit', hl.at fun o x => hk l o hle hli x⟩
      fun b o hb x => hk b o (fun e' => hb (by simp [e'])) (fun e' => hb (by simp [e'])) x
  go := fun i v s Q E hm hQ => by
    (with_reducible refine (?_ : let G9 : Prop := _; G9)); intro G9
    obtain ⟨T, t, x, rfl, hx, h1, h2, hT, ho, hit, hl⟩ := hm
    k_unfold; clear G9
    refine wpAny_letOwnedTupleGo_enum ho fun h' he' hs' => hQ h' ⟨T, t, x, rfl, hx, h1, h2, hT.at fun o y => (hs'.2 T h1).trans y⟩ ⟨⟨x, by simpa using he'⟩, hit.at fun o y => (hs'.2 it hei.symm).trans y, hl.at fun o y => (hs'.2 l hle).trans y⟩ fun b o hb y => ?_
    exact (hs'.2 b fun e' => hb (by simp [e'])).trans y
  done := fun s Q E hst hQ => by
    (with_reducible refine (?_ : let G9 : Prop := _; G9)); intro G9
    obtain ⟨⟨old, he⟩, hit, hl⟩ := hst
    k_unfold; clear G9
    have hT : s.TypeIs (.ref e) "enumerate" := ⟨_, he, rfl⟩
    unfold pyNext
    refine wpAny_bind (wpAny_attempt (wpAny_callSpecial?_slot (name := Str.ofString "__next__") hT F.slot_enumerate_next
      (wpAny_call_entry F.slot_enumerate_next hT F.entry_enumerate_next ?_ (F.args_enumerate_next_1 _))))
    show wpAny _ _ (field (.ref e) 2 >>= _) _ _ _
    refine wpAny_bind (wpAny_field he rfl (x := .ref it) rfl ?_)
    refine wpAny_bind (nextOf_tup_end hh hit hl (Array.getElem?_eq_none (Nat.le_refl _)) fun h' x he' hx' => ?_)
    (with_reducible refine (?_ : let G9 : Prop := _; G9)); intro G9
    obtain ⟨o, ho, hc⟩ := hx'
    k_unfold; clear G9
    refine wpAny_bind (wpAny_isInstance (T := "StopIteration") (b := true) ⟨o, ho, hc⟩ isSubtype_stop ?_)
    exact wpAny_pure (hQ h' s.toks fun b o hb y => he' b o (fun e' => hb (by simp [e'])) y)
end
end
section
open PySem PySem.W PyProof.Rows PySem.Calls PySem.Spec
set_option maxRecDepth 100000
set_option maxHeartbeats 1000000
section
variable {prog : Program} {w : World} {A : Around} {E : Value → Shared → Prop} {s : Shared} {h₀ : Heap} {m : Str → Option Value} {news : List (Addr × Obj)}
theorem new_addr {L : Addr} {h : Heap} {a : Addr} (F : Fr h₀ L h m) (ha : h.objs.size ≤ a) : h₀.get? a = none ∧ a ≠ L := by
  refine ⟨?_, fun e => absurd F.ns.lt (Nat.not_lt.mpr (e ▸ ha))⟩
  cases q : h₀.get? a with
  | none => rfl
  | some o => exact absurd (Heap.lt_size (F.keep _ _ q)) (Nat.not_lt.mpr ha)
theorem news_lt {L : Addr} {h : Heap} (N : News h₀ L h news) : ∀ p ∈ news, p.1 < h.objs.size := fun p hp => Heap.lt_size (N p hp).1
theorem pair_assign {name : Str} {scope : Scope} {L a : Addr} {cd : Value} {x1 x2 : Str} {p1 p2 pos : Pos} {k : Nat} {T : Addr} {v1 v2 : Value} {Q : Unit → Shared → Prop}
    (F : Fr h₀ L s.heap m) (N : News h₀ L s.heap news) (hh : A.handled = none) (ht : IsTup s.heap T #[v1, v2])
    (h : ∀ h' tk, Fr h₀ L h' (fun y => if y = x2 then some v2 else if y = x1 then some v1 else m y) → News h₀ L h' news → Q () { s with heap := h', toks := tk })
    (hk : scope.kind = .function := by rfl) (h1 : (envOf name scope L a cd).kindOf x1 = some .local := by rfl) (h2 : (envOf name scope L a cd).kindOf x2 = some .local := by rfl) :
    wpAny (model prog w) A (assign (.Tuple [.Name x1 p1, .Name x2 p2] k pos) (envOf name scope L a cd) (.ref T)) Q E s := by
  refine unpackN_ F N ht hh rfl rfl fun h' F' N' => ?_
  refine assignInOrder_cons (wpAny_assign_Name (stN F' N' (fun h₁ F₁ N₁ => ?_) hk h1))
  refine assignInOrder_cons (wpAny_assign_Name (stN F₁ N₁ (fun h₂ F₂ N₂ => ?_) hk h2))
  exact assignInOrder_nil (h h₂ _ F₂ N₂)
theorem letGo_list {target : Expr} {I t : Addr} {i : Nat} {v : Value} {Q' : Unit → Shared → Prop} {s' : Shared} (hit : s'.heap.IsListIter I t i) (h : Q' () s') :
    wpAny (model prog w) A (letOwnedTupleGo target (.ref I) v) Q' E s' := by
  (with_reducible refine (?_ : let G9 : Prop := _; G9)); intro G9
  obtain ⟨o, ho, hc, hd⟩ := hit
  k_unfold; clear G9
  unfold letOwnedTupleGo
  cases target with
  | Tuple elts k pos =>
    cases v with
    | ref a =>
      refine wpAny_bind (wpAny_load ho ?_)
      rw [hc, hd]
      refine wpAny_ite ?_
      simp
      exact wpAny_pure h
    | _ => exact wpAny_pure h
  | List elts pos =>
    cases v with
    | ref a =>
      refine wpAny_bind (wpAny_load ho ?_)
      rw [hc, hd]
      refine wpAny_ite ?_
      simp
      exact wpAny_pure h
    | _ => exact wpAny_pure h
  | _ => exact wpAny_pure h
end
section
variable {prog : Program} {w : World} {A : Around} {E : Value → Shared → Prop} {s : Shared} {env : Env} {h₀ : Heap} {m : Str → Option Value} {news : List (Addr × Obj)} {R : Result → Shared → Prop} {target : Expr} {body orelse : List Stmt}
theorem iter_tup {t : Addr} {items : Array Value} (hh : A.handled = none) (ht : s.heap.IsTuple t items) (htL : t ≠ env.locals)
    (F : Fr h₀ env.locals s.heap m) (N : News h₀ env.locals s.heap news)
    (J : Nat → (Str → Option Value) → List (Addr × Obj) → Prop) (h0 : J 0 m news)
    (step : ∀ i v m₁ news₁ h₁ tk₁ own, i < items.size → items[i]? = some v → J i m₁ news₁ → (∀ p ∈ news₁, p.1 ≠ s.heap.objs.size) → (∀ p ∈ own, p.1 = s.heap.objs.size ∨ p.1 = t) →
      Fr h₀ env.locals h₁ m₁ → News h₀ env.locals h₁ (own ++ news₁) →
      wpAny (model prog w) A (assign target env v) (fun _ s₂ => wpAny (model prog w) A (execs body env) (fun f s₃ => match f with
          | .next | .cont => ∃ h' tk m' news', s₃ = { s with heap := h', toks := tk } ∧ Fr h₀ env.locals h' m' ∧ News h₀ env.locals h' (own ++ news') ∧ (∀ p ∈ news', p.1 ≠ s.heap.objs.size) ∧ J (i + 1) m' news'
          | .brk => R (.ok .next) s₃
          | .ret v => R (.ok (.ret v)) s₃) (notedBy (model prog w) A env fun e s' => R (.error e) s') s₂) (notedBy (model prog w) A env fun e s' => R (.error e) s') { s with heap := h₁, toks := tk₁ })
    (hR : ∀ h' tk m' news', Fr h₀ env.locals h' m' → News h₀ env.locals h' news' → J items.size m' news' →
      wpAny (model prog w) A (execs orelse env) (fun f s₃ => R (.ok f) s₃) (notedBy (model prog w) A env fun e s' => R (.error e) s') { s with heap := h', toks := tk }) :
    wpAny (model prog w) A (pyIter (.ref t)) (fun it s₂ => codeAny (model prog w) A (.forLoop target it body orelse env) R s₂) E s := by
  (with_reducible refine (?_ : let G9 : Prop := _; G9)); intro G9
  obtain ⟨ot, hot, _⟩ := id ht
  k_unfold; clear G9
  have hne : t ≠ s.heap.objs.size := Nat.ne_of_lt (Heap.lt_size hot)
  have hn := new_addr F (Nat.le_refl s.heap.objs.size)
  refine wpAny_pyIter_tuple ht ?_
  refine for_led (h₀ := h₀) (KTurns.ofWalks (Walks.tuple hh s.heap.objs.size t hne items) fun i v s' Q E st hq => letGo_tupleiter st.1 hq) ?_ ?_ ?_
    ⟨⟨_, Heap.get?_push_size _ rfl, rfl, rfl⟩, ht.push _⟩ (F.push _) (led_keep F N fun _ _ e => Heap.get?_push_of_some _ e).2 J h0 ?_ ?_
  · intro hm
    rcases List.mem_cons.mp hm with e | hm
    · exact hn.2 e.symm
    · exact htL (List.mem_singleton.mp hm).symm
  · intro b hb; rw [List.mem_singleton.mp hb]; exact hn.1
  · intro p hp hb; exact absurd (news_lt N p hp) (by rw [List.mem_singleton.mp hb]; exact Nat.lt_irrefl _)
  · intro i v m₁ news₁ h₁ tk₁ own hi hP hJ hw ho F₁ N₁
    refine wpAny_mono (step i v m₁ news₁ h₁ tk₁ own hi hP hJ (fun p hp e => hw p hp (by rw [e]; exact List.mem_singleton.mpr rfl)) (fun p hp => ?_) F₁ N₁) (fun _ s₂ h₂ => wpAny_mono h₂ (fun f s₃ h₃ => ?_) fun _ _ e => e) fun _ _ e => e
    · rcases List.mem_cons.mp (ho p hp) with e | e
      · exact .inl e
      · exact .inr (List.mem_singleton.mp e)
    · have fin : (∃ h' tk m' news', s₃ = { s with heap := h', toks := tk } ∧ Fr h₀ env.locals h' m' ∧ News h₀ env.locals h' (own ++ news') ∧ (∀ p ∈ news', p.1 ≠ s.heap.objs.size) ∧ J (i + 1) m' news') →
          ∃ h' tk m' news', s₃ = { s with heap := h', toks := tk } ∧ Fr h₀ env.locals h' m' ∧ News h₀ env.locals h' (own ++ news') ∧ (∀ p ∈ news', p.1 ∉ [s.heap.objs.size]) ∧ J (i + 1) m' news' :=
        fun ⟨a1, a2, a3, a4, a5, a6, a7, a8, a9⟩ => ⟨a1, a2, a3, a4, a5, a6, a7, fun p hp e => a8 p hp (List.mem_singleton.mp e), a9⟩
      cases f with
      | next => exact fin h₃
      | cont => exact fin h₃
      | brk => exact h₃
      | ret v => exact h₃
  · intro h' tk m' news' F' N' _ hJ; exact hR h' tk m' news' F' N' hJ
theorem iter_list {t : Addr} {items : Array Value} (hh : A.handled = none) (ht : s.heap.IsList t items) (htL : t ≠ env.locals)
    (F : Fr h₀ env.locals s.heap m) (N : News h₀ env.locals s.heap news)
    (J : Nat → (Str → Option Value) → List (Addr × Obj) → Prop) (h0 : J 0 m news)
    (step : ∀ i v m₁ news₁ h₁ tk₁ own, i < items.size → items[i]? = some v → J i m₁ news₁ → (∀ p ∈ news₁, p.1 ≠ s.heap.objs.size) → (∀ p ∈ own, p.1 = s.heap.objs.size ∨ p.1 = t) →
      Fr h₀ env.locals h₁ m₁ → News h₀ env.locals h₁ (own ++ news₁) →
      wpAny (model prog w) A (assign target env v) (fun _ s₂ => wpAny (model prog w) A (execs body env) (fun f s₃ => match f with
          | .next | .cont => ∃ h' tk m' news', s₃ = { s with heap := h', toks := tk } ∧ Fr h₀ env.locals h' m' ∧ News h₀ env.locals h' (own ++ news') ∧ (∀ p ∈ news', p.1 ≠ s.heap.objs.size) ∧ J (i + 1) m' news'
          | .brk => R (.ok .next) s₃
          | .ret v => R (.ok (.ret v)) s₃) (notedBy (model prog w) A env fun e s' => R (.error e) s') s₂) (notedBy (model prog w) A env fun e s' => R (.error e) s') { s with heap := h₁, toks := tk₁ })
    (hR : ∀ h' tk m' news', Fr h₀ env.locals h' m' → News h₀ env.locals h' news' → J items.size m' news' →
      wpAny (model prog w) A (execs orelse env) (fun f s₃ => R (.ok f) s₃) (notedBy (model prog w) A env fun e s' => R (.error e) s') { s with heap := h', toks := tk }) :
    wpAny (model prog w) A (pyIter (.ref t)) (fun it s₂ => codeAny (model prog w) A (.forLoop target it body orelse env) R s₂) E s := by
  (with_reducible refine (?_ : let G9 : Prop := _; G9)); intro G9
  obtain ⟨ot, hot, _⟩ := id ht
  k_unfold; clear G9
  have hne : t ≠ s.heap.objs.size := Nat.ne_of_lt (Heap.lt_size hot)
  have hn := new_addr F (Nat.le_refl s.heap.objs.size)
  refine wpAny_pyIter_list ht ?_
  refine for_led (h₀ := h₀) (KTurns.ofWalks (Walks.list hh s.heap.objs.size t hne items) fun i v s' Q E st hq => letGo_list st.1 hq) ?_ ?_ ?_
    ⟨⟨_, Heap.get?_push_size _ rfl, rfl, rfl⟩, ht.at fun o e => Heap.get?_push_of_some _ e⟩ (F.push _) (led_keep F N fun _ _ e => Heap.get?_push_of_some _ e).2 J h0 ?_ ?_
  · intro hm
    rcases List.mem_cons.mp hm with e | hm
    · exact hn.2 e.symm
    · exact htL (List.mem_singleton.mp hm).symm
  · intro b hb; rw [List.mem_singleton.mp hb]; exact hn.1
  · intro p hp hb; exact absurd (news_lt N p hp) (by rw [List.mem_singleton.mp hb]; exact Nat.lt_irrefl _)
  · intro i v m₁ news₁ h₁ tk₁ own hi hP hJ hw ho F₁ N₁
    refine wpAny_mono (step i v m₁ news₁ h₁ tk₁ own hi hP hJ (fun p hp e => hw p hp (by rw [e]; exact List.mem_singleton.mpr rfl)) (fun p hp => ?_) F₁ N₁) (fun _ s₂ h₂ => wpAny_mono h₂ (fun f s₃ h₃ => ?_) fun _ _ e => e) fun _ _ e => e
    · rcases List.mem_cons.mp (ho p hp) with e | e
      · exact .inl e
      · exact .inr (List.mem_singleton.mp e)
    · have fin : (∃ h' tk m' news', s₃ = { s with heap := h', toks := tk } ∧ Fr h₀ env.locals h' m' ∧ News h₀ env.locals h' (own ++ news') ∧ (∀ p ∈ news', p.1 ≠ s.heap.objs.size) ∧ J (i + 1) m' news') →
          ∃ h' tk m' news', s₃ = { s with heap := h', toks := tk } ∧ Fr h₀ env.locals h' m' ∧ News h₀ env.locals h' (own ++ news') ∧ (∀ p ∈ news', p.1 ∉ [s.heap.objs.size]) ∧ J (i + 1) m' news' :=
        fun ⟨a1, a2, a3, a4, a5, a6, a7, a8, a9⟩ => ⟨a1, a2, a3, a4, a5, a6, a7, fun p hp e => a8 p hp (List.mem_singleton.mp e), a9⟩
      cases f with
      | next => exact fin h₃
      | cont => exact fin h₃
      | brk => exact h₃
      | ret v => exact h₃
  · intro h' tk m' news' F' N' _ hJ; exact hR h' tk m' news' F' N' hJ
end
section
variable {prog : Program} {w : World} {A : Around} {E : Value → Shared → Prop} {s : Shared} {h₀ : Heap} {m : Str → Option Value} {news : List (Addr × Obj)} {R : Result → Shared → Prop} {body orelse : List Stmt}
  {name : Str} {scope : Scope} {L a : Addr} {cd : Value} {x1 x2 : Str} {p1 p2 pos : Pos} {k : Nat}
theorem iter_enumT {l : Addr} {items : Array Value} {nl : Nat} (hh : A.handled = none) (hl : h₀.get? l = some { cls := .type "tuple", dict := none, data := .seq items nl, slots := #[] })
    (F : Fr h₀ L s.heap m) (N : News h₀ L s.heap news)
    (J : Nat → (Str → Option Value) → List (Addr × Obj) → Prop) (h0 : J 0 m news)
    (step : ∀ i v t m₁ news₁ h₁ tk₁ own, i < items.size → items[i]? = some v → J i m₁ news₁ → (∀ p ∈ news₁, p.1 ≠ s.heap.objs.size ∧ p.1 ≠ s.heap.objs.size + 1) → (∀ p ∈ own, p.1 = s.heap.objs.size ∨ p.1 = s.heap.objs.size + 1) →
      Fr h₀ L h₁ (fun y => if y = x2 then some v else if y = x1 then some (.int i t) else m₁ y) → News h₀ L h₁ (own ++ news₁) →
      wpAny (model prog w) A (execs body (envOf name scope L a cd)) (fun f s₃ => match f with
          | .next | .cont => ∃ h' tk m' news', s₃ = { s with heap := h', toks := tk } ∧ Fr h₀ L h' m' ∧ News h₀ L h' (own ++ news') ∧ (∀ p ∈ news', p.1 ≠ s.heap.objs.size ∧ p.1 ≠ s.heap.objs.size + 1) ∧ J (i + 1) m' news'
          | .brk => R (.ok .next) s₃
          | .ret v => R (.ok (.ret v)) s₃) (notedBy (model prog w) A (envOf name scope L a cd) fun e s' => R (.error e) s') { s with heap := h₁, toks := tk₁ })
    (hR : ∀ h' tk m' news', Fr h₀ L h' m' → News h₀ L h' news' → J items.size m' news' →
      wpAny (model prog w) A (execs orelse (envOf name scope L a cd)) (fun f s₃ => R (.ok f) s₃) (notedBy (model prog w) A (envOf name scope L a cd) fun e s' => R (.error e) s') { s with heap := h', toks := tk })
    (hk : scope.kind = .function := by rfl) (h1 : (envOf name scope L a cd).kindOf x1 = some .local := by rfl) (h2 : (envOf name scope L a cd).kindOf x2 = some .local := by rfl) :
    wpAny (model prog w) A (call (.type "enumerate") [.ref l]) (fun x s₁ => wpAny (model prog w) A (pyIter x) (fun it s₂ => codeAny (model prog w) A (.forLoop (.Tuple [.Name x1 p1, .Name x2 p2] k pos) it body orelse (envOf name scope L a cd)) R s₂) E s₁) E s := by
  have hls := F.keep _ _ hl
  have hlt := Heap.lt_size hls
  have n0 := new_addr F (Nat.le_refl s.heap.objs.size)
  have n1 := new_addr F (Nat.le_succ s.heap.objs.size)
  refine call_enumT hls fun h' he hit hsz hk' => wpAny_pyIter_enum he ?_
  (with_reducible refine (?_ : let G9 : Prop := _; G9)); intro G9
  obtain ⟨F', N'⟩ := led_keep F N hk'
  k_unfold; clear G9
  have hT : h'.IsTuple l items := ⟨_, hk' _ _ hls, rfl, nl, rfl⟩
  refine for_led (h₀ := h₀) (env := envOf name scope L a cd) (turns_enumT hh _ k pos (s.heap.objs.size + 1) s.heap.objs.size l (Nat.succ_ne_self _) (Nat.ne_of_lt (Nat.lt_succ_of_lt hlt)) (Nat.ne_of_lt hlt) items) ?_ ?_ ?_
    ⟨⟨_, he⟩, hit, hT⟩ F' N' J h0 ?_ ?_
  · intro hm
    rcases List.mem_cons.mp hm with e | hm
    · exact n1.2 e.symm
    · rcases List.mem_cons.mp hm with e | hm
      · exact n0.2 e.symm
      · exact absurd (Nat.lt_of_lt_of_le (Heap.lt_size hl) F.above) (by have e : L = l := List.mem_singleton.mp hm; rw [e]; exact Nat.lt_irrefl _)
  · intro b hb
    rcases List.mem_cons.mp hb with e | hb
    · rw [e]; exact n1.1
    · rw [List.mem_singleton.mp hb]; exact n0.1
  · intro p hp hb
    have := news_lt N p hp
    rcases List.mem_cons.mp hb with e | hb
    · exact absurd this (by rw [e]; exact Nat.not_lt.mpr (Nat.le_succ _))
    · exact absurd this (by rw [List.mem_singleton.mp hb]; exact Nat.lt_irrefl _)
  · intro i v m₁ news₁ h₁ tk₁ own hi pt98 hJ hw ho F₁ N₁
    (with_reducible refine (?_ : let G9 : Prop := _; G9)); intro G9
    obtain ⟨T, t, x, rfl, hx, hT1, hT2, hTT⟩ := pt98
    k_unfold; clear G9
    have hw' : ∀ p ∈ news₁, p.1 ≠ s.heap.objs.size ∧ p.1 ≠ s.heap.objs.size + 1 := fun p hp => ⟨fun e => hw p hp (by rw [e]; exact .tail _ (.head _)), fun e => hw p hp (by rw [e]; exact .head _)⟩
    -- what the loop owns: the two iterators
    have own' : News h₀ L h₁ (own.filter (fun p => p.1 == s.heap.objs.size || p.1 == s.heap.objs.size + 1) ++ news₁) := fun p hp => N₁ p (by
      rcases List.mem_append.mp hp with q | q
      · exact List.mem_append_left _ (List.mem_filter.mp q).1
      · exact List.mem_append_right _ q)
    refine pair_assign F₁ own' hh hTT (fun h₂ tk₂ F₂ N₂ => ?_) hk h1 h2
    refine wpAny_mono (step i x t m₁ news₁ h₂ tk₂ _ hi hx hJ hw' (fun p hp => by simpa using (List.mem_filter.mp hp).2) F₂ N₂) (fun f s₃ h₃ => ?_) fun _ _ e => e
    have fin : (∃ h' tk m' news', s₃ = { s with heap := h', toks := tk } ∧ Fr h₀ L h' m' ∧ News h₀ L h' (own.filter (fun p => p.1 == s.heap.objs.size || p.1 == s.heap.objs.size + 1) ++ news') ∧ (∀ p ∈ news', p.1 ≠ s.heap.objs.size ∧ p.1 ≠ s.heap.objs.size + 1) ∧ J (i + 1) m' news') →
        ∃ h'' tk m' news', s₃ = { { s with heap := h' } with heap := h'', toks := tk } ∧ Fr h₀ L h'' m' ∧ News h₀ L h'' (own ++ news') ∧ (∀ p ∈ news', p.1 ∉ [s.heap.objs.size + 1, s.heap.objs.size]) ∧ J (i + 1) m' news' := by
      intro pt90
      (with_reducible refine (?_ : let G9 : Prop := _; G9)); intro G9
      obtain ⟨h3, tk3, m3, news3, rfl, F3, N3, hw3, hJ3⟩ := pt90
      k_unfold; clear G9
      refine ⟨h3, tk3, m3, news3, rfl, F3, fun p hp => ?_, fun p hp hb => ?_, hJ3⟩
      · rcases List.mem_append.mp hp with q | q
        · by_cases hf : (p.1 == s.heap.objs.size || p.1 == s.heap.objs.size + 1) = true
          · exact N3 p (List.mem_append_left _ (List.mem_filter.mpr ⟨q, hf⟩))
          · exfalso
            rcases List.mem_cons.mp (ho p q) with e | e
            · exact hf (by simp [e])
            · rcases List.mem_cons.mp e with e | e
              · exact hf (by simp [e])
              · have e : p.1 = l := List.mem_singleton.mp e
                have := (N₁ p (List.mem_append_left _ q)).2.2
                rw [e, hl] at this; cases this
        · exact N3 p (List.mem_append_right _ q)
      · rcases List.mem_cons.mp hb with e | e
        · exact (hw3 p hp).2 e
        · exact (hw3 p hp).1 (List.mem_singleton.mp e)
    cases f with
    | next => exact fin h₃
    | cont => exact fin h₃
    | brk => exact h₃
    | ret v => exact h₃
  · intro h'' tk m' news' F'' N'' _ hJ; exact hR h'' tk m' news' F'' N'' hJ
end
end
section
open PySem PySem.W PyProof.Rows PySem.Calls PySem.Spec
set_option maxRecDepth 100000
set_option maxHeartbeats 1000000
section
variable {M : Model} {A : Around} {E : Value → Shared → Prop} {s : Shared} {env : Env}
theorem ifexp_cc {test : Expr} {a b : Str} {k k' : Nat} {p p' pos : Pos} {Q : Value → Shared → Prop}
    (h : wpAny M A (isTrue test env (eval test env)) (fun c s₁ => Q (.str (if c = true then a else b) s₁.toks) { s₁ with toks := s₁.toks + 1 }) E s) :
    wpAny M A (eval (.IfExp test (.Constant (.str a) k p) (.Constant (.str b) k' p') pos) env) Q E s := by
  refine IfExp_ (wpAny_mono h (fun c s₁ h₁ => ?_) fun _ _ e => e)
  cases c with
  | true => exact wpAny_Constant_str h₁
  | false => exact wpAny_Constant_str h₁
theorem gen_toks {α : Type} {t : Sem α} {Q : α → Shared → Prop} (h : ∀ tk, wpAny M A t Q E { s with toks := tk }) : wpAny M A t Q E s := h s.toks
theorem cut_exec {st : Stmt} {Q : Flow → Shared → Prop} (P : Flow → Shared → Prop) (h : wpAny M A (exec st env) P E s) (k : ∀ f s', P f s' → Q f s') : wpAny M A (exec st env) Q E s :=
  wpAny_mono h k fun _ _ e => e
theorem cut_eval {e : Expr} {Q : Value → Shared → Prop} (P : Value → Shared → Prop) (h : wpAny M A (eval e env) P E s) (k : ∀ f s', P f s' → Q f s') : wpAny M A (eval e env) Q E s :=
  wpAny_mono h k fun _ _ e => e
end
section
variable {prog : Program} {w : World} {A : Around} {E : Value → Shared → Prop} {s : Shared} {h₀ : Heap} {m : Str → Option Value} {news : List (Addr × Obj)}
theorem triple_assign {name : Str} {scope : Scope} {L a : Addr} {cd : Value} {x1 x2 x3 : Str} {p1 p2 p3 pos : Pos} {k : Nat} {T : Addr} {v1 v2 v3 : Value} {Q : Unit → Shared → Prop}
    (F : Fr h₀ L s.heap m) (N : News h₀ L s.heap news) (hh : A.handled = none) (ht : IsTup s.heap T #[v1, v2, v3])
    (h : ∀ h' tk, Fr h₀ L h' (fun y => if y = x3 then some v3 else if y = x2 then some v2 else if y = x1 then some v1 else m y) → News h₀ L h' news → Q () { s with heap := h', toks := tk })
    (hk : scope.kind = .function := by rfl) (h1 : (envOf name scope L a cd).kindOf x1 = some .local := by rfl) (h2 : (envOf name scope L a cd).kindOf x2 = some .local := by rfl) (h3 : (envOf name scope L a cd).kindOf x3 = some .local := by rfl) :
    wpAny (model prog w) A (assign (.Tuple [.Name x1 p1, .Name x2 p2, .Name x3 p3] k pos) (envOf name scope L a cd) (.ref T)) Q E s := by
  refine unpackN_ F N ht hh rfl rfl fun h' F' N' => ?_
  refine assignInOrder_cons (wpAny_assign_Name (stN F' N' (fun h₁ F₁ N₁ => ?_) hk h1))
  refine assignInOrder_cons (wpAny_assign_Name (stN F₁ N₁ (fun h₂ F₂ N₂ => ?_) hk h2))
  refine assignInOrder_cons (wpAny_assign_Name (stN F₂ N₂ (fun h₃ F₃ N₃ => ?_) hk h3))
  exact assignInOrder_nil (h h₃ _ F₃ N₃)
end
section
variable {prog : Program} {w : World} {A : Around} {E : Value → Shared → Prop} {s : Shared} {env : Env} {h₀ : Heap} {m : Str → Option Value} {news : List (Addr × Obj)} {R : Result → Shared → Prop} {target : Expr} {body orelse : List Stmt}
theorem iter_list0 {t : Addr} {items : Array Value} (hh : A.handled = none) (ht : s.heap.IsList t items) (htL : t ≠ env.locals)
    (F : Fr h₀ env.locals s.heap m) (N : News h₀ env.locals s.heap news)
    (J : Nat → (Str → Option Value) → Prop) (h0 : J 0 m)
    (step : ∀ i v m₁ h₁ tk₁ nn, i < items.size → items[i]? = some v → J i m₁ → (∀ p ∈ news, p ∈ nn) →
      Fr h₀ env.locals h₁ m₁ → News h₀ env.locals h₁ nn →
      wpAny (model prog w) A (assign target env v) (fun _ s₂ => wpAny (model prog w) A (execs body env) (fun f s₃ => match f with
          | .next | .cont => ∃ h' tk m', s₃ = { s with heap := h', toks := tk } ∧ Fr h₀ env.locals h' m' ∧ News h₀ env.locals h' nn ∧ J (i + 1) m'
          | .brk => R (.ok .next) s₃
          | .ret v => R (.ok (.ret v)) s₃) (notedBy (model prog w) A env fun e s' => R (.error e) s') s₂) (notedBy (model prog w) A env fun e s' => R (.error e) s') { s with heap := h₁, toks := tk₁ })
    (hR : ∀ h' tk m', Fr h₀ env.locals h' m' → News h₀ env.locals h' news → J items.size m' →
      wpAny (model prog w) A (execs orelse env) (fun f s₃ => R (.ok f) s₃) (notedBy (model prog w) A env fun e s' => R (.error e) s') { s with heap := h', toks := tk }) :
    wpAny (model prog w) A (pyIter (.ref t)) (fun it s₂ => codeAny (model prog w) A (.forLoop target it body orelse env) R s₂) E s := by
  refine iter_list hh ht htL F N (fun i m₁ news₁ => news₁ = news ∧ J i m₁) ⟨rfl, h0⟩ ?_ fun h' tk m' news' F' N' hJ => hR h' tk m' F' (hJ.1 ▸ N') hJ.2
  intro i v m₁ news₁ h₁ tk₁ own hi hv pt99 hw ho F₁ N₁
  (with_reducible refine (?_ : let G9 : Prop := _; G9)); intro G9
  obtain ⟨rfl, hJ⟩ := pt99
  k_unfold; clear G9
  refine wpAny_mono (step i v m₁ h₁ tk₁ (own ++ news₁) hi hv hJ (fun p hp => List.mem_append_right _ hp) F₁ N₁) (fun _ s₂ h₂ => wpAny_mono h₂ (fun f s₃ h₃ => ?_) fun _ _ e => e) fun _ _ e => e
  cases f with
  | next => obtain ⟨a, b, c, d, e, f, g⟩ := h₃; exact ⟨a, b, c, news₁, d, e, f, hw, rfl, g⟩
  | cont => obtain ⟨a, b, c, d, e, f, g⟩ := h₃; exact ⟨a, b, c, news₁, d, e, f, hw, rfl, g⟩
  | brk => exact h₃
  | ret v => exact h₃
end
theorem canon2 {m b : Str → Option Value} {x1 x2 : Str} (h : ∀ y, y ≠ x1 → y ≠ x2 → m y = b y) :
    ∃ u1 u2, m = fun y => if y = x1 then u1 else if y = x2 then u2 else b y := by
  refine ⟨m x1, m x2, funext fun y => ?_⟩
  by_cases h1 : y = x1
  · simp [h1]
  by_cases h2 : y = x2
  · subst h2; simp [h1]
  simp only [h1, h2, if_false]
  exact h y h1 h2
theorem canon3 {m b : Str → Option Value} {x1 x2 x3 : Str} (h : ∀ y, y ≠ x1 → y ≠ x2 → y ≠ x3 → m y = b y) :
    ∃ u1 u2 u3, m = fun y => if y = x1 then u1 else if y = x2 then u2 else if y = x3 then u3 else b y := by
  refine ⟨m x1, m x2, m x3, funext fun y => ?_⟩
  by_cases h1 : y = x1
  · simp [h1]
  by_cases h2 : y = x2
  · subst h2; simp [h1]
  by_cases h3 : y = x3
  · subst h3; simp [h1, h2]
  simp only [h1, h2, h3, if_false]
  exact h y h1 h2 h3
theorem canon4 {m b : Str → Option Value} {x1 x2 x3 x4 : Str} (h : ∀ y, y ≠ x1 → y ≠ x2 → y ≠ x3 → y ≠ x4 → m y = b y) :
    ∃ u1 u2 u3 u4, m = fun y => if y = x1 then u1 else if y = x2 then u2 else if y = x3 then u3 else if y = x4 then u4 else b y := by
  refine ⟨m x1, m x2, m x3, m x4, funext fun y => ?_⟩
  by_cases h1 : y = x1
  · simp [h1]
  by_cases h2 : y = x2
  · subst h2; simp [h1]
  by_cases h3 : y = x3
  · subst h3; simp [h1, h2]
  by_cases h4 : y = x4
  · subst h4; simp [h1, h2, h3]
  simp only [h1, h2, h3, h4, if_false]
  exact h y h1 h2 h3 h4
theorem base_ne {h₀ h : Heap} {L a : Addr} {o : Obj} {m : Str → Option Value} (F : Fr h₀ L h m) (e : h₀.get? a = some o) : a ≠ L :=
  Nat.ne_of_lt (Nat.lt_of_lt_of_le (Heap.lt_size e) F.above)
theorem strs_snoc {vs : List Value} {xs : List Str} (h : StrsAre vs xs) (x : Str) (t : Tok) : StrsAre (vs ++ [.str x t]) (xs ++ [x]) := by
  induction h with
  | nil => exact StrsAre.cons _ _ StrsAre.nil
  | cons _ _ _ ih => exact StrsAre.cons _ _ ih
theorem led_r0 {h₀ h : Heap} {L : Addr} {q : Addr × Obj} {own news : List (Addr × Obj)} (N : News h₀ L h (q :: (own ++ news))) : News h₀ L h (own ++ (q :: news)) := fun p hp => N p (by
  rcases List.mem_append.mp hp with a | a
  · exact .tail _ (List.mem_append_left _ a)
  · rcases List.mem_cons.mp a with rfl | a
    · exact .head _
    · exact .tail _ (List.mem_append_right _ a))
theorem led_r1 {h₀ h : Heap} {L : Addr} {q : Addr × Obj} {own own2 news : List (Addr × Obj)} (N : News h₀ L h (q :: (own2 ++ (own ++ news)))) : News h₀ L h (own ++ (q :: news)) := fun p hp => N p (by
  rcases List.mem_append.mp hp with a | a
  · exact .tail _ (List.mem_append_right _ (List.mem_append_left _ a))
  · rcases List.mem_cons.mp a with rfl | a
    · exact .head _
    · exact .tail _ (List.mem_append_right _ (List.mem_append_right _ a)))
theorem led_r2 {h₀ h : Heap} {L : Addr} {q : Addr × Obj} {own news : List (Addr × Obj)} (N : News h₀ L h (own ++ (q :: news))) : News h₀ L h (q :: (own ++ news)) := fun p hp => N p (by
  rcases List.mem_cons.mp hp with rfl | hp
  · exact List.mem_append_right _ (.head _)
  · rcases List.mem_append.mp hp with a | a
    · exact List.mem_append_left _ a
    · exact List.mem_append_right _ (.tail _ a))
theorem off_cons2 {n1 n2 : Addr} {q q' : Addr × Obj} {news : List (Addr × Obj)} (h : ∀ p ∈ q :: news, p.1 ≠ n1 ∧ p.1 ≠ n2) (e : q'.1 = q.1) : ∀ p ∈ q' :: news, p.1 ≠ n1 ∧ p.1 ≠ n2 := fun p hp => by
  rcases List.mem_cons.mp hp with rfl | a
  · rw [e]; exact h _ (.head _)
  · exact h p (.tail _ a)
theorem off_cons1 {n1 : Addr} {q q' : Addr × Obj} {news : List (Addr × Obj)} (h : ∀ p ∈ q :: news, p.1 ≠ n1) (e : q'.1 = q.1) : ∀ p ∈ q' :: news, p.1 ≠ n1 := fun p hp => by
  rcases List.mem_cons.mp hp with rfl | a
  · rw [e]; exact h _ (.head _)
  · exact h p (.tail _ a)
theorem news_app {h₀ h : Heap} {L : Addr} {own news : List (Addr × Obj)} (N : News h₀ L h (own ++ news)) : News h₀ L h news := fun p hp => N p (List.mem_append_right _ hp)
end
section
open PySem PySem.W PyProof.Rows PySem.Calls PySem.Spec PyProof.Rows.LCg
set_option maxRecDepth 100000
set_option maxHeartbeats 1000000
def CEnd (h₀ : Heap) (L : Addr) (m : Str → Option Value) (s₁ : Shared) (I : Addr) (oI : Obj) (C D : Addr) (oD : Obj) (Jn : List (Addr × Obj) → Prop) (s₂ : Shared) : Prop :=
  ∃ h' tk news' oC' mC', s₂ = { s₁ with heap := h', toks := tk } ∧ Fr h₀ L h' m ∧ News h₀ L h' ((I, oI) :: (C, oC') :: (D, oD) :: news') ∧ NsObj oC' mC' ∧ Off3 I C D news' ∧ Jn news'
section
variable {prog : Program} {w : World} {A : Around} {E : Value → Shared → Prop} {R : Result → Shared → Prop} {s : Shared}
theorem compLoop_any {elt target iter : Expr} {ifs : List Expr} {scope : Scope} {pos : Pos} {it acc : Value} {env : Env} (I : Nat → Shared → Prop)
    (turn : ∀ n s, I n s → wpAny (model prog w) A (pyNext it) (fun r s₁ => match r with
      | none => R (.ok .next) s₁
      | some v => wpAny (model prog w) A (letOwnedTupleGo target it v) (fun _ s₁' => wpAny (model prog w) A (assign target env v) (fun _ s₂ =>
          wpAny (model prog w) A (forIn ifs true fun c r => if r = true then do let ok ← isTrue c env (eval c env); pure (ForInStep.yield ok) else pure (ForInStep.yield r)) (fun ok s₃ =>
            if ok = true then wpAny (model prog w) A (eval elt env) (fun x s₄ =>
              wpAny (model prog w) A (call (.builtin "list.append") [acc, x]) (fun _ s₅ => ∃ m, m < n ∧ I m s₅) (notedBy (model prog w) A env fun e s' => R (.error e) s') s₄) (notedBy (model prog w) A env fun e s' => R (.error e) s') s₃
            else ∃ m, m < n ∧ I m s₃) (notedBy (model prog w) A env fun e s' => R (.error e) s') s₂) (notedBy (model prog w) A env fun e s' => R (.error e) s') s₁') (notedBy (model prog w) A env fun e s' => R (.error e) s') s₁) (notedBy (model prog w) A env fun e s' => R (.error e) s') s)
    (n : Nat) (h : I n s) :
    codeAny (model prog w) A (.compLoop (.ListComp elt [⟨target, iter, ifs, 0⟩] scope pos) 0 it acc env) R s := by
  refine codeAny_loop rfl I (fun n s hI => ?_) n h
  show wpAny _ A ((compTurn (.ListComp elt [⟨target, iter, ifs, 0⟩] scope pos) 0 it acc env).onRaise (fun x => do noteFrame x env; theTreesLotGoes x)) _ _ s
  refine wpAny_noted ?_
  rw [compTurn_list]
  refine wpAny_bind (wpAny_standAt (wpAny_bind (wpAny_mono (turn n s hI) (fun r s₁ h₁ => ?_) fun _ _ h' => h')))
  cases r with
  | none => exact wpAny_pure h₁
  | some v =>
    refine wpAny_bind (wpAny_mono h₁ (fun _ s₁' h₁' => ?_) fun _ _ h' => h')
    refine wpAny_bind (wpAny_mono h₁' (fun _ s₂ h₂ => ?_) fun _ _ h' => h')
    refine wpAny_bind (wpAny_mono h₂ (fun ok s₃ h₃ => ?_) fun _ _ h' => h')
    cases ok with
    | true =>
      simp only [if_true] at h₃ ⊢
      exact wpAny_bind (wpAny_bind (wpAny_mono h₃ (fun x s₄ h₄ => wpAny_bind (wpAny_mono h₄ (fun _ s₅ h₅ => wpAny_pure (wpAny_pure ⟨rfl, h₅⟩)) fun _ _ h' => h')) fun _ _ h' => h'))
    | false =>
      simp only [Bool.false_eq_true, if_false] at h₃ ⊢
      exact wpAny_bind (wpAny_pure (wpAny_pure ⟨rfl, h₃⟩))
end
section
variable {prog : Program} {w : World} {A : Around} {E : Value → Shared → Prop} {h₀ : Heap} {L : Addr} {m : Str → Option Value} {env : Env}
theorem comp_K {elt target iter : Expr} {ifs : List Expr} {scope : Scope} {cl : List (Str × Addr)} {pos : Pos} {s₂ : Shared} {h₁ : Heap} {tk₁ : Nat} {I C D : Addr} {fp : List Addr} {n : Nat} {P Md : Nat → Value → Heap → Prop} {St : Nat → Heap → Prop} {S : List (Addr × Obj) → Prop} {news : List (Addr × Obj)}
    {RR : Result → Shared → Prop} {m₀ : Str → Option Value}
    (W : KTurns prog w A target I fp [I] n P Md St) (hsz : n ≤ sizeLine) (hself : ∀ i (s : Shared) (Q : Value → Shared → Prop) (E : Value → Shared → Prop), St i s.heap → Q (.ref I) s → wpAny (model prog w) A (pyIter (.ref I)) Q E s)
    (hIo : ∀ i h, St i h → ∃ o, h.get? I = some o)
    (hSt : ∀ i h h' o nw, St i h → h.get? I = some o → h'.get? I = some o → (∀ b o, h₀.get? b = some o → h'.get? b = some o) → News h₀ L h' nw → S nw → St i h')
    (hst₁ : St 0 h₁) (hacc : h₁.get? D = some (lst [])) (hns₁ : h₁.Ns C m₀) (hDf : D ∉ fp)
    (F : Fr h₀ L h₁ m) (N : News h₀ L h₁ news) (hIL : L ≠ I) (hI₀ : h₀.get? I = none) (hC₀ : h₀.get? C = none) (hD₀ : h₀.get? D = none) (hCL : C ≠ L) (hDL : D ≠ L) (hDC : D ≠ C) (hCI : I ≠ C) (hDI : I ≠ D) (off₀ : Off3 I C D news)
    (J : Nat → List Value → List (Addr × Obj) → Prop) (hJS : ∀ i ys nw, J i ys nw → S nw) (h0 : J 0 [] news)
    (turn : ∀ i v ys news₁ oI oC mC h tk (E' : Value → Shared → Prop), i < n → P i v h → J i ys news₁ → NsObj oC mC → Fr h₀ L h m → News h₀ L h ((I, oI) :: (C, oC) :: (D, lst ys) :: news₁) → Off3 I C D news₁ →
      wpAny (model prog w) A (assign target (compEnvC scope cl C env) v) (fun _ s' => wpAny (model prog w) A (forIn ifs true fun c r => if r = true then do let ok ← isTrue c (compEnvC scope cl C env) (eval c (compEnvC scope cl C env)); pure (ForInStep.yield ok) else pure (ForInStep.yield r))
        (fun ok s₃ => if ok = true then wpAny (model prog w) A (eval elt (compEnvC scope cl C env)) (fun y s₄ => CEnd h₀ L m s₂ I oI C D (lst ys) (J (i + 1) (ys ++ [y])) s₄) E' s₃ else CEnd h₀ L m s₂ I oI C D (lst ys) (J (i + 1) ys) s₃) E' s') E' { s₂ with heap := h, toks := tk })
    (hRR : ∀ h tk m' ys news', Fr h₀ L h m → News h₀ L h ((D, lst ys) :: news') → Off1 D news' → h.Ns C m' → (∀ p ∈ news', p.1 ≠ C) → J n ys news' → RR (.ok .next) { s₂ with heap := h, toks := tk }) :
    codeAny (model prog w) A (.compStart (.ListComp elt [⟨target, iter, ifs, 0⟩] scope pos) 0 (.ref I) (.ref D) (compEnvC scope cl C env)) RR { s₂ with heap := h₁, toks := tk₁ } := by
  have loop : codeAny (model prog w) A (.compLoop (.ListComp elt [⟨target, iter, ifs, 0⟩] scope pos) 0 (.ref I) (.ref D) (compEnvC scope cl C env)) RR { s₂ with heap := h₁, toks := tk₁ } := by
    refine compLoop_any
      (fun k s' => ∃ h' tk i ys m' news', s' = { s₂ with heap := h', toks := tk } ∧ i ≤ n ∧ k = n + 1 - i ∧ ys.length ≤ i ∧ St i h' ∧ Fr h₀ L h' m ∧ h'.Ns C m' ∧ News h₀ L h' ((D, lst ys) :: news') ∧
        Off3 I C D news' ∧ J i ys news') ?_ (n + 1)
      ⟨h₁, _, 0, [], _, news, rfl, Nat.zero_le _, rfl, Nat.le_refl _, hst₁, F, hns₁, fun p hp => ?_, off₀, h0⟩
    · intro k s' pt92
      (with_reducible refine (?_ : let G9 : Prop := _; G9)); intro G9
      obtain ⟨h', tk, i, ys, m', news', rfl, hi, rfl, hyl, hst', F', hn', N', off', hJ⟩ := pt92
      k_unfold; clear G9
      by_cases hlt : i < n
      · refine W.item i _ _ _ hlt hst' fun v h₂' tk₂ hM hk₂' => ?_
        refine W.go i v _ _ _ hM fun h₂ hPv hst₂ hk₂'' => ?_
        have hk₂ : ∀ b o, b ∉ [I] → h'.get? b = some o → h₂.get? b = some o := fun b o hb e => hk₂'' b o hb (hk₂' b o hb e)
        (with_reducible refine (?_ : let G9 : Prop := _; G9)); intro G9
        obtain ⟨oI, heI⟩ := hIo _ _ hst₂
        k_unfold; clear G9
        have hn₂ : h₂.Ns C m' := hn'.at' fun o e => hk₂ _ o (by simpa using Ne.symm hCI) e
        (with_reducible refine (?_ : let G9 : Prop := _; G9)); intro G9
        obtain ⟨oC, heC, hoC⟩ := ns_obj hn₂
        k_unfold; clear G9
        have F₂ : Fr h₀ L h₂ m := fr_but F' hk₂ hIL hI₀
        have off3 := off'.mem
        have N₂ : News h₀ L h₂ ((D, lst ys) :: news') := news_but N' hk₂ fun p hp => by
          rcases List.mem_cons.mp hp with rfl | hp
          · exact Ne.symm hDI
          · exact (off3 p hp).1
        have N₃ : News h₀ L h₂ ((I, oI) :: (C, oC) :: (D, lst ys) :: news') := fun p hp => by
          rcases List.mem_cons.mp hp with rfl | hp
          · exact ⟨heI, Ne.symm hIL, hI₀⟩
          · rcases List.mem_cons.mp hp with rfl | hp
            · exact ⟨heC, hCL, hC₀⟩
            · exact N₂ p hp
        -- what a turn leaves
        have fin : ∀ (zs : List Value) (s₄ : Shared), CEnd h₀ L m s₂ I oI C D (lst ys) (J (i + 1) zs) s₄ →
            ∃ h₄ tk₄ news₄ m₄, s₄ = { s₂ with heap := h₄, toks := tk₄ } ∧ Fr h₀ L h₄ m ∧ h₄.get? D = some (lst ys) ∧ News h₀ L h₄ news₄ ∧ h₄.Ns C m₄ ∧ Off3 I C D news₄ ∧ St (i + 1) h₄ ∧ J (i + 1) zs news₄ := by
          intro zs s₄ pt92
          (with_reducible refine (?_ : let G9 : Prop := _; G9)); intro G9
          obtain ⟨h₄, tk₄, news₄, oC₄, mC₄, rfl, F₄, N₄, hoC₄, off₄, hJ₄⟩ := pt92
          k_unfold; clear G9
          have zI := (N₄ (I, oI) List.mem_cons_self).1
          have zC := (N₄ (C, oC₄) (List.mem_cons_of_mem _ List.mem_cons_self)).1
          have zD := (N₄ (D, lst ys) (List.mem_cons_of_mem _ (List.mem_cons_of_mem _ List.mem_cons_self))).1
          have N₄' : News h₀ L h₄ news₄ := fun p hp => N₄ p (List.mem_cons_of_mem _ (List.mem_cons_of_mem _ (List.mem_cons_of_mem _ hp)))
          exact ⟨h₄, tk₄, news₄, mC₄, rfl, F₄, zD, N₄', hoC₄.ns zC, off₄, hSt _ _ _ _ _ hst₂ heI zI F₄.keep N₄' (hJS _ _ _ hJ₄), hJ₄⟩
        refine wpAny_mono (turn i v ys news' oI oC m' h₂ tk₂ _ hlt hPv hJ hoC F₂ N₃ off') (fun _ s' h' => wpAny_mono h' (fun ok s₃ h₃ => ?_) fun _ _ e => e) fun _ _ e => e
        cases ok with
        | true =>
          simp only [if_true] at h₃ ⊢
          refine wpAny_mono h₃ (fun y s₄ h₄ => ?_) fun _ _ e => e
          (with_reducible refine (?_ : let G9 : Prop := _; G9)); intro G9
          obtain ⟨h₄, tk₄, news₄, m₄, rfl, F₄, zD, N₄, hn₄, off₄, hst₄, hJ₄⟩ := fin _ _ h₄
          k_unfold; clear G9
          refine append_at (hsz := by show ys.toArray.size ≤ sizeLine; rw [List.size_toArray]; exact Nat.le_trans hyl (Nat.le_trans hi hsz)) zD fun h₅ hs₅ hD₅ => ?_
          have off4 := off₄.mem
          refine ⟨n + 1 - (i + 1), sub_dn (Nat.lt_succ_of_lt hlt), h₅, tk₄, i + 1, ys ++ [y], _, news₄, rfl, hlt, rfl, by rw [List.length_append, List.length_singleton]; exact Nat.succ_le_succ hyl, W.frame _ _ _ hst₄ fun b hb o e => hs₅.extBut b o (fun q => hDf (q ▸ hb)) e, F₄.change hs₅ hDL hD₀,
            hn₄.sameBut hs₅ (Ne.symm hDC), fun p hp => ?_, off₄, hJ₄⟩
          rcases List.mem_cons.mp hp with rfl | hp
          · exact ⟨hD₅.trans (congrArg some (lst_snoc ys y)), hDL, hD₀⟩
          · exact ⟨hs₅.extBut _ _ (off4 p hp).2.2 (N₄ p hp).1, (N₄ p hp).2⟩
        | false =>
          simp only [Bool.false_eq_true, if_false] at h₃ ⊢
          (with_reducible refine (?_ : let G9 : Prop := _; G9)); intro G9
          obtain ⟨h₄, tk₄, news₄, m₄, rfl, F₄, zD, N₄, hn₄, off₄, hst₄, hJ₄⟩ := fin _ _ h₃
          k_unfold; clear G9
          refine ⟨n + 1 - (i + 1), sub_dn (Nat.lt_succ_of_lt hlt), h₄, tk₄, i + 1, ys, m₄, news₄, rfl, hlt, rfl, Nat.le_succ_of_le hyl, hst₄, F₄, hn₄, fun p hp => ?_, off₄, hJ₄⟩
          rcases List.mem_cons.mp hp with rfl | hp
          · exact ⟨zD, hDL, hD₀⟩
          · exact N₄ p hp
      · obtain rfl : i = n := Nat.le_antisymm hi (Nat.not_lt.mp hlt)
        refine W.done _ _ _ hst' fun h₂ tk₂ hk₂ => ?_
        have off3 := off'.mem
        exact hRR h₂ tk₂ _ ys news' (fr_but F' hk₂ hIL hI₀) (news_but N' hk₂ fun p hp => by
          rcases List.mem_cons.mp hp with rfl | hp
          · exact Ne.symm hDI
          · exact (off3 p hp).1) off'.one (hn'.at' fun o e => hk₂ _ o (by simpa using Ne.symm hCI) e) (fun p hp => (off3 p hp).2.1) hJ
    · rcases List.mem_cons.mp hp with rfl | hp
      · exact ⟨hacc, hDL, hD₀⟩
      · exact N p hp
  exact codeAny_compStart_list loop (hself 0 _ _ _ hst₁ loop)
theorem comp_J {elt target iter : Expr} {ifs : List Expr} {scope : Scope} {cl : List (Str × Addr)} {pos : Pos} {s₂ : Shared} {I : Addr} {fp : List Addr} {n : Nat} {P Md : Nat → Value → Heap → Prop} {St : Nat → Heap → Prop} {S : List (Addr × Obj) → Prop} {news : List (Addr × Obj)}
    {RR : Value → Addr → Result → Shared → Prop}
    (W : KTurns prog w A target I fp [I] n P Md St) (hsz : n ≤ sizeLine) (hself : ∀ i (s : Shared) (Q : Value → Shared → Prop) (E : Value → Shared → Prop), St i s.heap → Q (.ref I) s → wpAny (model prog w) A (pyIter (.ref I)) Q E s)
    (hIo : ∀ i h, St i h → ∃ o, h.get? I = some o)
    (hSt : ∀ i h h' o nw, St i h → h.get? I = some o → h'.get? I = some o → (∀ b o, h₀.get? b = some o → h'.get? b = some o) → News h₀ L h' nw → S nw → St i h')
    (hcell : ∀ y ∈ scope.names, y.2 ≠ .cell) (hkind : scope.kind = .function) (hst : St 0 s₂.heap) (hfp : ∀ b ∈ fp, b < s₂.heap.objs.size)
    (F : Fr h₀ L s₂.heap m) (N : News h₀ L s₂.heap news) (hIL : L ≠ I) (hI₀ : h₀.get? I = none) (off : ∀ p ∈ news, p.1 ≠ I)
    (J : Nat → List Value → List (Addr × Obj) → Prop) (hJS : ∀ i ys nw, J i ys nw → S nw) (h0 : J 0 [] news)
    (turn : ∀ i v ys news₁ oI C oC D mC h tk (E' : Value → Shared → Prop), i < n → P i v h → J i ys news₁ → NsObj oC mC → Fr h₀ L h m → News h₀ L h ((I, oI) :: (C, oC) :: (D, lst ys) :: news₁) → Off3 I C D news₁ → ((@Ne Nat I C) ∧ (@Ne Nat I D) ∧ (@Ne Nat C D)) →
      wpAny (model prog w) A (assign target (compEnvC scope cl C env) v) (fun _ s' => wpAny (model prog w) A (forIn ifs true fun c r => if r = true then do let ok ← isTrue c (compEnvC scope cl C env) (eval c (compEnvC scope cl C env)); pure (ForInStep.yield ok) else pure (ForInStep.yield r))
        (fun ok s₃ => if ok = true then wpAny (model prog w) A (eval elt (compEnvC scope cl C env)) (fun y s₄ => CEnd h₀ L m s₂ I oI C D (lst ys) (J (i + 1) (ys ++ [y])) s₄) E' s₃ else CEnd h₀ L m s₂ I oI C D (lst ys) (J (i + 1) ys) s₃) E' s') E' { s₂ with heap := h, toks := tk })
    (hRR : ∀ D C h tk m' ys news', Fr h₀ L h m → News h₀ L h ((D, lst ys) :: news') → Off1 D news' → h.Ns C m' → h₀.get? C = none → h₀.get? D = none → C ≠ L → D ≠ L → C ≠ D → (∀ p ∈ news', p.1 ≠ C) → J n ys news' → RR (.ref D) C (.ok .next) { s₂ with heap := h, toks := tk }) :
    wpAny (model prog w) A (newList []) (fun acc s₃ => wpAny (model prog w) A (newFunctionEnv scope env.globals cl [] env.qual none .none (some env)) (fun cenv s₄ =>
      codeAny (model prog w) A (.compStart (.ListComp elt [⟨target, iter, ifs, 0⟩] scope pos) 0 (.ref I) acc { cenv with scope := relabel scope env }) (RR acc cenv.locals) s₄) E s₃) E s₂ := by
  refine wpAny_newObj_type (wpAny_newFunctionEnv hcell (by intro y hy; simp at hy) (fun h₁ hns₁ hsb₁ => ?_) hkind)
  dsimp only at hns₁ hsb₁ ⊢
  generalize hH2 : s₂.heap.push { cls := .type "list", dict := none, data := .seq ([] : List Value).toArray } = H2 at hns₁ hsb₁ ⊢
  have hC : H2.objs.size = s₂.heap.objs.size + 1 := by rw [← hH2, Heap.size_push]
  have hDC : s₂.heap.objs.size ≠ H2.objs.size := by rw [hC]; exact Nat.ne_of_lt (Nat.lt_succ_self _)
  have below : ∀ b, b < s₂.heap.objs.size → b ≠ H2.objs.size ∧ b ≠ s₂.heap.objs.size := fun b hb => ⟨by rw [hC]; exact Nat.ne_of_lt (Nat.lt_succ_of_lt hb), Nat.ne_of_lt hb⟩
  have hDf : s₂.heap.objs.size ∉ fp := fun hm => Nat.lt_irrefl _ (hfp _ hm)
  have hIf : I ∈ fp := W.sub I (List.mem_singleton.mpr rfl)
  have hIlt : I < s₂.heap.objs.size := hfp I hIf
  have old : ∀ b o, s₂.heap.get? b = some o → h₁.get? b = some o := fun b o e => hsb₁.extBut b o (below b (Heap.lt_size e)).1 (Heap.get?_push_of_some _ (hH2 ▸ Heap.get?_push_of_some _ e))
  have hacc : h₁.get? s₂.heap.objs.size = some (lst []) := hsb₁.extBut _ _ hDC (Heap.get?_push_of_some _ (hH2 ▸ Heap.get?_push_size _ rfl))
  have hst₁ : St 0 h₁ := W.frame _ _ _ hst fun b _ o e => old b o e
  have fresh : ∀ a, s₂.heap.objs.size ≤ a → s₂.heap.get? a = none := fun a ha => by
    cases e : s₂.heap.get? a with
    | none => rfl
    | some o' => exact absurd (Heap.lt_size e) (Nat.not_lt.mpr ha)
  have fresh₀ : ∀ a, s₂.heap.objs.size ≤ a → h₀.get? a = none := fun a ha => by
    cases e : h₀.get? a with
    | none => rfl
    | some o' => have := F.keep a o' e; rw [fresh a ha] at this; cases this
  have hD₀ : h₀.get? s₂.heap.objs.size = none := fresh₀ _ (Nat.le_refl _)
  have hC₀ : h₀.get? H2.objs.size = none := fresh₀ _ (by rw [hC]; exact Nat.le_succ _)
  have hLlt : L < s₂.heap.objs.size := F.ns.lt
  have hDL : s₂.heap.objs.size ≠ L := Ne.symm (below L hLlt).2
  have hCL : H2.objs.size ≠ L := Ne.symm (below L hLlt).1
  have hCI : I ≠ H2.objs.size := (below I hIlt).1
  have hDI : I ≠ s₂.heap.objs.size := (below I hIlt).2
  have off₀ : Off3 I H2.objs.size s₂.heap.objs.size news := Off3.of fun p hp => ⟨off p hp, (below _ (Heap.lt_size (N p hp).1)).1, (below _ (Heap.lt_size (N p hp).1)).2⟩
  exact comp_K W hsz hself hIo hSt hst₁ hacc hns₁ hDf (F.keeps old) (fun p hp => ⟨old _ _ (N p hp).1, (N p hp).2⟩) hIL hI₀ hC₀ hD₀ hCL hDL hDC hCI hDI off₀ J hJS h0
    (fun i v ys news₁ oI oC mC h tk E' hi hP hJ hC F N off => turn i v ys news₁ oI _ oC _ mC h tk E' hi hP hJ hC F N off ⟨hCI, hDI, Ne.symm hDC⟩)
    fun h tk m' ys news' F' N' o1 hn off hJ => hRR _ _ h tk m' ys news' F' N' o1 hn hC₀ hD₀ hCL hDL (Ne.symm hDC) off hJ
def cellO (v : Option Value) : Obj := { cls := .type "cell", data := .cell v }
theorem env_one {M : Model} {E : Value → Shared → Prop} {s : Shared} {scope : Scope} {globals : Addr} {cl : List (Str × Addr)} {qual x : Str} {Q : Env → Shared → Prop}
    (hcf : ∀ a acc, cellsFrom a scope.names acc = (x, a) :: acc) (hpc : ∀ h : Heap, pushCells h scope.names = h.push (cellO none))
    (hQ : Q (newEnv scope s.heap.objs.size globals ((x, s.heap.objs.size + 1) :: cl) qual none .none (some env) builtinsNs) { s with heap := (s.heap.push { cls := .type "dict", data := .dict #[] }).push (cellO none) }) :
    wpAny M A (newFunctionEnv scope globals cl [] qual none .none (some env)) Q E s := by
  simp only [newFunctionEnv, Option.isSome_some, if_true]
  refine wpAny_bind (wpAny_alloc ?_)
  refine wpAny_bind (wpAny_layCells _ (fun name kind cells => by cases hkc : kind == NameKind.cell <;> simp [hkc]) _ _ _ _ ?_)
  rw [hcf, hpc, show ({ s with heap := s.heap.push { cls := .type "dict", data := .dict #[] } } : Shared).heap.objs.size = s.heap.objs.size + 1 from Heap.size_push ..]
  rw [List.forIn_nil]
  exact wpAny_bind (wpAny_pure (wpAny_pure hQ))
theorem comp_JC {elt target iter : Expr} {ifs : List Expr} {scope : Scope} {cl : List (Str × Addr)} {pos : Pos} {s₂ : Shared} {I : Addr} {fp : List Addr} {n : Nat} {P Md : Nat → Value → Heap → Prop} {St : Nat → Heap → Prop} {S : List (Addr × Obj) → Prop} {news : List (Addr × Obj)}
    {RR : Value → Addr → Result → Shared → Prop}
    (W : KTurns prog w A target I fp [I] n P Md St) (hsz : n ≤ sizeLine) (hself : ∀ i (s : Shared) (Q : Value → Shared → Prop) (E : Value → Shared → Prop), St i s.heap → Q (.ref I) s → wpAny (model prog w) A (pyIter (.ref I)) Q E s)
    (hIo : ∀ i h, St i h → ∃ o, h.get? I = some o)
    (hSt : ∀ i h h' o nw, St i h → h.get? I = some o → h'.get? I = some o → (∀ b o, h₀.get? b = some o → h'.get? b = some o) → News h₀ L h' nw → S nw → St i h')
    {x : Str} (hcf : ∀ a acc, cellsFrom a scope.names acc = (x, a) :: acc) (hpc : ∀ h : Heap, pushCells h scope.names = h.push (cellO none)) (hst : St 0 s₂.heap) (hfp : ∀ b ∈ fp, b < s₂.heap.objs.size)
    (F : Fr h₀ L s₂.heap m) (N : News h₀ L s₂.heap news) (hIL : L ≠ I) (hI₀ : h₀.get? I = none) (off : ∀ p ∈ news, p.1 ≠ I)
    (J : Addr → Nat → List Value → List (Addr × Obj) → Prop) (hJS : ∀ X i ys nw, J X i ys nw → S nw) (h0 : ∀ X, L ≠ X → h₀.get? X = none → (∀ p ∈ news, p.1 ≠ X) → J X 0 [] ((X, cellO none) :: news))
    (turn : ∀ X i v ys news₁ oI C oC D mC h tk (E' : Value → Shared → Prop), i < n → P i v h → J X i ys news₁ → NsObj oC mC → Fr h₀ L h m → News h₀ L h ((I, oI) :: (C, oC) :: (D, lst ys) :: news₁) → Off3 I C D news₁ → ((@Ne Nat I C) ∧ (@Ne Nat I D) ∧ (@Ne Nat C D)) →
      wpAny (model prog w) A (assign target (compEnvC scope ((x, X) :: cl) C env) v) (fun _ s' => wpAny (model prog w) A (forIn ifs true fun c r => if r = true then do let ok ← isTrue c (compEnvC scope ((x, X) :: cl) C env) (eval c (compEnvC scope ((x, X) :: cl) C env)); pure (ForInStep.yield ok) else pure (ForInStep.yield r))
        (fun ok s₃ => if ok = true then wpAny (model prog w) A (eval elt (compEnvC scope ((x, X) :: cl) C env)) (fun y s₄ => CEnd h₀ L m s₂ I oI C D (lst ys) (J X (i + 1) (ys ++ [y])) s₄) E' s₃ else CEnd h₀ L m s₂ I oI C D (lst ys) (J X (i + 1) ys) s₃) E' s') E' { s₂ with heap := h, toks := tk })
    (hRR : ∀ X D C h tk m' ys news', Fr h₀ L h m → News h₀ L h ((D, lst ys) :: news') → Off1 D news' → h.Ns C m' → h₀.get? C = none → h₀.get? D = none → C ≠ L → D ≠ L → C ≠ D → (∀ p ∈ news', p.1 ≠ C) → J X n ys news' → RR (.ref D) C (.ok .next) { s₂ with heap := h, toks := tk }) :
    wpAny (model prog w) A (newList []) (fun acc s₃ => wpAny (model prog w) A (newFunctionEnv scope env.globals cl [] env.qual none .none (some env)) (fun cenv s₄ =>
      codeAny (model prog w) A (.compStart (.ListComp elt [⟨target, iter, ifs, 0⟩] scope pos) 0 (.ref I) acc { cenv with scope := relabel scope env }) (RR acc cenv.locals) s₄) E s₃) E s₂ := by
  refine wpAny_newObj_type (env_one hcf hpc ?_)
  dsimp only
  generalize hH2 : s₂.heap.push { cls := .type "list", dict := none, data := .seq ([] : List Value).toArray } = H2
  have hC : H2.objs.size = s₂.heap.objs.size + 1 := by rw [← hH2, Heap.size_push]
  have hDC : s₂.heap.objs.size ≠ H2.objs.size := by rw [hC]; exact Nat.ne_of_lt (Nat.lt_succ_self _)
  have below : ∀ b, b < s₂.heap.objs.size → b ≠ H2.objs.size ∧ b ≠ s₂.heap.objs.size := fun b hb => ⟨by rw [hC]; exact Nat.ne_of_lt (Nat.lt_succ_of_lt hb), Nat.ne_of_lt hb⟩
  have belX : ∀ b, b < s₂.heap.objs.size → b ≠ H2.objs.size + 1 := fun b hb => by rw [hC]; exact Nat.ne_of_lt (Nat.lt_succ_of_lt (Nat.lt_succ_of_lt hb))
  have hDf : s₂.heap.objs.size ∉ fp := fun hm => Nat.lt_irrefl _ (hfp _ hm)
  have hIf : I ∈ fp := W.sub I (List.mem_singleton.mpr rfl)
  have hIlt : I < s₂.heap.objs.size := hfp I hIf
  have old : ∀ b o, H2.get? b = some o → ((H2.push { cls := .type "dict", data := .dict #[] }).push (cellO none)).get? b = some o := fun b o e => Heap.get?_push_of_some _ (Heap.get?_push_of_some _ e)
  have old' : ∀ b o, s₂.heap.get? b = some o → ((H2.push { cls := .type "dict", data := .dict #[] }).push (cellO none)).get? b = some o := fun b o e => old b o (hH2 ▸ Heap.get?_push_of_some _ e)
  have hX : ((H2.push { cls := .type "dict", data := .dict #[] }).push (cellO none)).get? (H2.objs.size + 1) = some (cellO none) := by
    have := Heap.get?_push_size (H2.push { cls := .type "dict", data := .dict #[] }) (o := cellO none) rfl
    rwa [Heap.size_push] at this
  have fresh₀ : ∀ a, s₂.heap.objs.size ≤ a → h₀.get? a = none := fun a ha => by
    cases e : h₀.get? a with
    | none => rfl
    | some o' => exact absurd (Heap.lt_size (F.keep a o' e)) (Nat.not_lt.mpr ha)
  have hD₀ : h₀.get? s₂.heap.objs.size = none := fresh₀ _ (Nat.le_refl _)
  have hC₀ : h₀.get? H2.objs.size = none := fresh₀ _ (by rw [hC]; exact Nat.le_succ _)
  have hX₀ : h₀.get? (H2.objs.size + 1) = none := fresh₀ _ (by rw [hC]; exact Nat.le_succ_of_le (Nat.le_succ _))
  have hLlt : L < s₂.heap.objs.size := F.ns.lt
  have hDL : s₂.heap.objs.size ≠ L := Ne.symm (below L hLlt).2
  have hCL : H2.objs.size ≠ L := Ne.symm (below L hLlt).1
  have hCI : I ≠ H2.objs.size := (below I hIlt).1
  have hDI : I ≠ s₂.heap.objs.size := (below I hIlt).2
  have hnX : ∀ p ∈ news, p.1 ≠ H2.objs.size + 1 := fun p hp => belX _ (Heap.lt_size (N p hp).1)
  have off₀ : Off3 I H2.objs.size s₂.heap.objs.size ((H2.objs.size + 1, cellO none) :: news) := Off3.of fun p hp => by
    rcases List.mem_cons.mp hp with rfl | hp
    · exact ⟨Ne.symm (belX I hIlt), Nat.ne_of_gt (Nat.lt_succ_self _), by rw [hC]; exact Nat.ne_of_gt (Nat.lt_succ_of_lt (Nat.lt_succ_self _))⟩
    · exact ⟨off p hp, (below _ (Heap.lt_size (N p hp).1)).1, (below _ (Heap.lt_size (N p hp).1)).2⟩
  have hns : ((H2.push { cls := .type "dict", data := .dict #[] }).push (cellO none)).Ns H2.objs.size (fun _ => none) := (Heap.Ns.new H2 (.type "dict")).keeps fun b o e => Heap.get?_push_of_some _ e
  exact comp_K (C := H2.objs.size) (D := s₂.heap.objs.size) (J := J (H2.objs.size + 1)) W hsz hself hIo hSt (W.frame _ _ _ hst fun b _ o e => old' b o e) (old _ _ (hH2 ▸ Heap.get?_push_size _ rfl)) hns hDf (F.keeps old') (fun p hp => by
      rcases List.mem_cons.mp hp with rfl | hp
      · exact ⟨hX, Ne.symm (belX L hLlt), hX₀⟩
      · exact ⟨old' _ _ (N p hp).1, (N p hp).2⟩) hIL hI₀ hC₀ hD₀ hCL hDL hDC hCI hDI off₀ (hJS _) (h0 _ (belX L hLlt) hX₀ hnX)
    (fun i v ys news₁ oI oC mC h tk E' hi hP hJ hC F N off => turn _ i v ys news₁ oI _ oC _ mC h tk E' hi hP hJ hC F N off ⟨hCI, hDI, Ne.symm hDC⟩)
    fun h tk m' ys news' F' N' o1 hn off hJ => hRR _ _ _ h tk m' ys news' F' N' o1 hn hC₀ hD₀ hCL hDL (Ne.symm hDC) off hJ
end
end
section
open PySem PySem.W PyProof.Rows PySem.Calls PySem.Spec PyProof.Rows.LCg
set_option maxRecDepth 100000
set_option maxHeartbeats 1000000
section
variable {prog : Program} {w : World} {A : Around} {E : Value → Shared → Prop} {s : Shared} {h₀ : Heap} {L : Addr} {m : Str → Option Value} {env : Env}
theorem forIn_nil0 {Q : Bool → Shared → Prop} (h : Q true s) : wpAny (model prog w) A (forIn ([] : List Expr) true fun c r => if r = true then do let ok ← isTrue c env (eval c env); pure (ForInStep.yield ok) else pure (ForInStep.yield r)) Q E s := wpAny_pure h
theorem forIn_one {c : Expr} {Q : Bool → Shared → Prop} (h : wpAny (model prog w) A (isTrue c env (eval c env)) Q E s) :
    wpAny (model prog w) A (forIn [c] true fun c r => if r = true then do let ok ← isTrue c env (eval c env); pure (ForInStep.yield ok) else pure (ForInStep.yield r)) Q E s := by
  rw [List.forIn_cons]
  refine wpAny_bind ?_
  simp only [if_true]
  refine wpAny_bind (wpAny_mono h (fun ok s' hq => wpAny_pure ?_) fun _ _ e => e)
  exact wpAny_pure hq
theorem letGo_name {x : Str} {px : Pos} {it v : Value} {Q : Unit → Shared → Prop} (h : Q () s) : wpAny (model prog w) A (letOwnedTupleGo (.Name x px) it v) Q E s := by
  unfold letOwnedTupleGo; exact wpAny_pure h
theorem led3_upd {I C D : Addr} {oI oC oC' oD : Obj} {h h' : Heap} {news : List (Addr × Obj)} (F : Fr h₀ L h m) (N : News h₀ L h ((I, oI) :: (C, oC) :: (D, oD) :: news)) (off : Off3 I C D news) (ne : (@Ne Nat I C) ∧ (@Ne Nat I D) ∧ (@Ne Nat C D))
    (hs : Heap.SameBut C h h') (ho : h'.get? C = some oC') : Fr h₀ L h' m ∧ News h₀ L h' ((I, oI) :: (C, oC') :: (D, oD) :: news) := by
  have hC := N _ (List.mem_cons_of_mem _ List.mem_cons_self)
  refine ⟨F.change hs hC.2.1 hC.2.2, fun p hp => ?_⟩
  have keep : ∀ q ∈ (I, oI) :: (C, oC) :: (D, oD) :: news, q.1 ≠ C → h'.get? q.1 = some q.2 ∧ q.1 ≠ L ∧ h₀.get? q.1 = none := fun q hq hn => ⟨hs.extBut _ _ hn (N q hq).1, (N q hq).2⟩
  rcases List.mem_cons.mp hp with rfl | hp
  · exact keep _ List.mem_cons_self ne.1
  rcases List.mem_cons.mp hp with rfl | hp
  · exact ⟨ho, hC.2⟩
  rcases List.mem_cons.mp hp with rfl | hp
  · exact keep _ (List.mem_cons_of_mem _ (List.mem_cons_of_mem _ List.mem_cons_self)) (Ne.symm ne.2.2)
  · exact keep _ (List.mem_cons_of_mem _ (List.mem_cons_of_mem _ (List.mem_cons_of_mem _ hp))) (off.mem _ hp).2.1
theorem asg_name {x : Str} {px : Pos} {v : Value} {scope : Scope} {cl : List (Str × Addr)} {I C D : Addr} {oI oC oD : Obj} {mC : Str → Option Value} {news : List (Addr × Obj)} {Q : Unit → Shared → Prop} (hkind : scope.kind = .function) (hx : scope.names.lookup x = some .local)
    (hC : NsObj oC mC) (F : Fr h₀ L s.heap m) (N : News h₀ L s.heap ((I, oI) :: (C, oC) :: (D, oD) :: news)) (off : Off3 I C D news) (ne : (@Ne Nat I C) ∧ (@Ne Nat I D) ∧ (@Ne Nat C D))
    (h : ∀ oC' h' tk, NsObj oC' (fun z => if z = x then some v else mC z) → Fr h₀ L h' m → News h₀ L h' ((I, oI) :: (C, oC') :: (D, oD) :: news) → Q () { s with heap := h', toks := tk }) :
    wpAny (model prog w) A (assign (.Name x px) (compEnvC scope cl C env) v) Q E s := by
  have hxk : (compEnvC scope cl C env).kindOf x = some .local := lookup_relabel_local hx
  have kp : ((compEnvC scope cl C env).scope.kind == .class || ((compEnvC scope cl C env).scope.kind == .module && (compEnvC scope cl C env).locals != (compEnvC scope cl C env).globals)) = false := by
    show (scope.kind == .class || (scope.kind == .module && _)) = false
    rw [hkind]; rfl
  have zC := (N _ (List.mem_cons_of_mem _ List.mem_cons_self)).1
  refine wpAny_assign_Name (wpAny_storeName_local hxk (hC.ns zC) (fun h' hn hs => ?_) kp)
  (with_reducible refine (?_ : let G9 : Prop := _; G9)); intro G9
  obtain ⟨oC', e', ho'⟩ := ns_obj hn
  obtain ⟨F', N'⟩ := led3_upd F N off ne hs e'
  k_unfold; clear G9
  exact h oC' h' _ ho' F' N'
theorem asg_quad {x1 x2 x3 x4 : Str} {p1 p2 p3 p4 pos : Pos} {k : Nat} {T : Addr} {v1 v2 v3 v4 : Value} {scope : Scope} {cl : List (Str × Addr)} {I C D : Addr} {oI oC oD : Obj} {mC : Str → Option Value} {news : List (Addr × Obj)} {Q : Unit → Shared → Prop} (hkind : scope.kind = .function)
    (hx1 : scope.names.lookup x1 = some .local) (hx2 : scope.names.lookup x2 = some .local) (hx3 : scope.names.lookup x3 = some .local) (hx4 : scope.names.lookup x4 = some .local) (hh : A.handled = none) (ht : s.heap.IsTuple T #[v1, v2, v3, v4])
    (hC : NsObj oC mC) (F : Fr h₀ L s.heap m) (N : News h₀ L s.heap ((I, oI) :: (C, oC) :: (D, oD) :: news)) (off : Off3 I C D news) (ne : (@Ne Nat I C) ∧ (@Ne Nat I D) ∧ (@Ne Nat C D))
    (h : ∀ oC' h' tk, NsObj oC' (fun z => if z = x4 then some v4 else if z = x3 then some v3 else if z = x2 then some v2 else if z = x1 then some v1 else mC z) → Fr h₀ L h' m → News h₀ L h' ((I, oI) :: (C, oC') :: (D, oD) :: news) → Q () { s with heap := h', toks := tk }) :
    wpAny (model prog w) A (assign (.Tuple [.Name x1 p1, .Name x2 p2, .Name x3 p3, .Name x4 p4] k pos) (compEnvC scope cl C env) (.ref T)) Q E s := by
  refine wpAny_assign_Tuple hh ht rfl rfl fun h' he => ?_
  have kp : ∀ b o, s.heap.get? b = some o → h'.get? b = some o := fun b o e => he b o (Nat.ne_of_lt (Heap.lt_size e)) e
  have F' := F.keeps kp
  have N' := N.grown kp
  refine assignInOrder_cons (asg_name hkind hx1 hC F' N' off ne fun o1 h1 tk1 q1 F1 N1 => ?_)
  refine assignInOrder_cons (asg_name hkind hx2 q1 F1 N1 off ne fun o2 h2 tk2 q2 F2 N2 => ?_)
  refine assignInOrder_cons (asg_name hkind hx3 q2 F2 N2 off ne fun o3 h3 tk3 q3 F3 N3 => ?_)
  refine assignInOrder_cons (asg_name hkind hx4 q3 F3 N3 off ne fun o4 h4 tk4 q4 F4 N4 => ?_)
  exact assignInOrder_nil (h o4 h4 tk4 q4 F4 N4)
theorem post_none {s₂ : Shared} {Q : Value → Shared → Prop} {J : List Value → List (Addr × Obj) → Prop}
    (fin : ∀ D ys news' h tk, Fr h₀ L h m → News h₀ L h ((D, lst ys) :: news') → Off1 D news' → J ys news' → Q (.ref D) { s₂ with heap := h, toks := tk }) :
    ∀ D C h tk m' ys news', Fr h₀ L h m → News h₀ L h ((D, lst ys) :: news') → Off1 D news' → h.Ns C m' → h₀.get? C = none → h₀.get? D = none → C ≠ L → D ≠ L → C ≠ D → (∀ p ∈ news', p.1 ≠ C) → J ys news' →
      compPost (model prog w) A E none Q (.ref D) C (.ok .next) { s₂ with heap := h, toks := tk } := by
  intro D C h tk m' ys news' F' N' o1 hn hC₀ hD₀ hCL hDL hCD offC hJ
  refine ⟨m', hn, fun h'' hs'' => fin D ys news' h'' tk (F'.change hs'' hCL hC₀) (fun p hp => ?_) o1 hJ⟩
  refine ⟨hs''.extBut _ _ ?_ (N' p hp).1, (N' p hp).2⟩
  rcases List.mem_cons.mp hp with rfl | hp
  · exact Ne.symm hCD
  · exact offC p hp
theorem post_some {s₂ : Shared} {Q : Value → Shared → Prop} {J : List Value → List (Addr × Obj) → Prop} {y : Str} {py : Pos} (hLe : env.locals = L)
    (hy : env.kindOf y = some .local) (hp : (env.scope.kind == .class || (env.scope.kind == .module && env.locals != env.globals)) = false)
    (fin : ∀ D ys news' h tk, Fr h₀ L h (fun z => if z = y then some (.ref D) else m z) → News h₀ L h ((D, lst ys) :: news') → Off1 D news' → J ys news' → Q .none { s₂ with heap := h, toks := tk }) :
    ∀ D C h tk m' ys news', Fr h₀ L h m → News h₀ L h ((D, lst ys) :: news') → Off1 D news' → h.Ns C m' → h₀.get? C = none → h₀.get? D = none → C ≠ L → D ≠ L → C ≠ D → (∀ p ∈ news', p.1 ≠ C) → J ys news' →
      compPost (model prog w) A E (some (assign (.Name y py) env)) Q (.ref D) C (.ok .next) { s₂ with heap := h, toks := tk } := by
  subst hLe
  intro D C h tk m' ys news' F' N' o1 hn hC₀ hD₀ hCL hDL hCD offC hJ
  show wpAny _ A (assign (.Name y py) env (.ref D)) _ _ _
  refine wpAny_assign_Name (wpAny_storeName_local hy F'.ns (fun h₂ hn₂ hs₂ => ?_) hp)
  have hL₀ : h₀.get? env.locals = none := Heap.get?_none_of_le F'.above
  have F₂ : Fr h₀ env.locals h₂ (fun z => if z = y then some (.ref D) else m z) := ⟨hn₂, fun b o e => hs₂.extBut b o (fun q => by rw [q, hL₀] at e; cases e) (F'.keep b o e), F'.above⟩
  refine ⟨m', hn.sameBut hs₂ hCL, fun h'' hs'' => fin D ys news' h'' _ (F₂.change hs'' hCL hC₀) (fun p hp => ?_) o1 hJ⟩
  have z : h₂.get? p.1 = some p.2 := hs₂.extBut _ _ (N' p hp).2.1 (N' p hp).1
  refine ⟨hs''.extBut _ _ ?_ z, (N' p hp).2⟩
  rcases List.mem_cons.mp hp with rfl | hp
  · exact Ne.symm hCD
  · exact offC p hp
theorem comp_list {elt target iter : Expr} {ifs : List Expr} {scope : Scope} {cl : List (Str × Addr)} {pos : Pos} {ax : Addr} {its : Array Value} {news : List (Addr × Obj)} {RR : Value → Addr → Result → Shared → Prop}
    (hh : A.handled = none) (hcell : ∀ y ∈ scope.names, y.2 ≠ .cell) (hkind : scope.kind = .function) (hsz : its.size ≤ sizeLine)
    (F : Fr h₀ L s.heap m) (N : News h₀ L s.heap news) (S : SrcAt h₀ ax its news)
    (J : Nat → List Value → List (Addr × Obj) → Prop) (hJS : ∀ i ys nw, J i ys nw → SrcAt h₀ ax its nw) (h0 : J 0 [] news)
    (turn : ∀ i v ys news₁ I oI C oC D mC h tk (E' : Value → Shared → Prop), i < its.size → its[i]? = some v → J i ys news₁ → NsObj oC mC → Fr h₀ L h m → News h₀ L h ((I, oI) :: (C, oC) :: (D, lst ys) :: news₁) → Off3 I C D news₁ → ((@Ne Nat I C) ∧ (@Ne Nat I D) ∧ (@Ne Nat C D)) →
      wpAny (model prog w) A (assign target (compEnvC scope cl C env) v) (fun _ s' => wpAny (model prog w) A (forIn ifs true fun c r => if r = true then do let ok ← isTrue c (compEnvC scope cl C env) (eval c (compEnvC scope cl C env)); pure (ForInStep.yield ok) else pure (ForInStep.yield r))
        (fun ok s₃ => if ok = true then wpAny (model prog w) A (eval elt (compEnvC scope cl C env)) (fun y s₄ => CEnd h₀ L m s I oI C D (lst ys) (J (i + 1) (ys ++ [y])) s₄) E' s₃ else CEnd h₀ L m s I oI C D (lst ys) (J (i + 1) ys) s₃) E' s') E' { s with heap := h, toks := tk })
    (hRR : ∀ D C h tk m' ys news', Fr h₀ L h m → News h₀ L h ((D, lst ys) :: news') → Off1 D news' → h.Ns C m' → h₀.get? C = none → h₀.get? D = none → C ≠ L → D ≠ L → C ≠ D → (∀ p ∈ news', p.1 ≠ C) → J its.size ys news' → RR (.ref D) C (.ok .next) { s with heap := h, toks := tk }) :
    wpAny (model prog w) A (pyIter (.ref ax)) (fun it s₂ => wpAny (model prog w) A (newList []) (fun acc s₃ => wpAny (model prog w) A (newFunctionEnv scope env.globals cl [] env.qual none .none (some env)) (fun cenv s₄ =>
      codeAny (model prog w) A (.compStart (.ListComp elt [⟨target, iter, ifs, 0⟩] scope pos) 0 it acc { cenv with scope := relabel scope env }) (RR acc cenv.locals) s₄) E s₃) E s₂) E s := by
  have hl := S.list F.keep N
  have hlt : ax < s.heap.objs.size := by obtain ⟨_, e, _⟩ := hl; exact Heap.lt_size e
  refine wpAny_pyIter_list hl ?_
  have up : ∀ b o, s.heap.get? b = some o → (s.heap.push { cls := .type "list_iterator", data := .fields #[.ref ax, .int 0 0] }).get? b = some o := fun b o e => Heap.get?_push_of_some _ e
  have W := Walks.list (prog := prog) (w := w) hh s.heap.objs.size ax (Nat.ne_of_lt hlt) its
  refine comp_J (KTurns.ofWalks (target := target) W fun i v s' Q' E' st q => letGo_list st.1 q) hsz W.self (fun i h st => by obtain ⟨o, e, _⟩ := st.1; exact ⟨o, e⟩) list_st hcell hkind ⟨⟨_, Heap.get?_push_size _ rfl, rfl, rfl⟩, hl.push _⟩ (fun b hb => ?_)
      (F.keeps up) (N.grown up) (Nat.ne_of_lt F.ns.lt) (next_is_new F) (fun p hp => Nat.ne_of_lt (Heap.lt_size (N p hp).1)) J hJS h0 ?_ hRR
  · show b < (s.heap.push _).objs.size
    rw [Heap.size_push]
    rcases List.mem_cons.mp hb with rfl | hb
    · exact Nat.lt_succ_self _
    · rw [List.mem_singleton.mp hb]; exact Nat.lt_succ_of_lt hlt
  · intro i v ys news₁ oI C oC D mC h tk E' hi hP hJ hC Fi Ni off ne
    exact turn i v ys news₁ _ oI C oC D mC h tk E' hi hP hJ hC Fi Ni off ne
theorem comp_range {elt iter : Expr} {x : Str} {px : Pos} {ifs : List Expr} {scope : Scope} {cl : List (Str × Addr)} {pos : Pos} {r : Addr} {a b : Int} {t u v : Tok} {n : Nat} {news : List (Addr × Obj)} {RR : Value → Addr → Result → Shared → Prop}
    (hh : A.handled = none) (hcell : ∀ y ∈ scope.names, y.2 ≠ .cell) (hkind : scope.kind = .function) (hx : scope.names.lookup x = some .local) (hsz : n ≤ sizeLine)
    (F : Fr h₀ L s.heap m) (N : News h₀ L s.heap news) (hr : IsRange s.heap r a b 1 t u v) (hsm : Builtin.Range.small a b 1 = true) (hn : Builtin.Range.rangeSize a b 1 = ((n : Nat) : Int))
    (J : Nat → List Value → List (Addr × Obj) → Prop) (h0 : J 0 [] news)
    (turn : ∀ i ti ys news₁ I oI C oC D mC h tk (E' : Value → Shared → Prop), i < n → J i ys news₁ → NsObj oC mC → mC x = some (.int (a + (i : Int)) ti) → Fr h₀ L h m → News h₀ L h ((I, oI) :: (C, oC) :: (D, lst ys) :: news₁) → Off3 I C D news₁ → ((@Ne Nat I C) ∧ (@Ne Nat I D) ∧ (@Ne Nat C D)) →
      wpAny (model prog w) A (forIn ifs true fun c r => if r = true then do let ok ← isTrue c (compEnvC scope cl C env) (eval c (compEnvC scope cl C env)); pure (ForInStep.yield ok) else pure (ForInStep.yield r))
        (fun ok s₃ => if ok = true then wpAny (model prog w) A (eval elt (compEnvC scope cl C env)) (fun y s₄ => CEnd h₀ L m s I oI C D (lst ys) (J (i + 1) (ys ++ [y])) s₄) E' s₃ else CEnd h₀ L m s I oI C D (lst ys) (J (i + 1) ys) s₃) E' { s with heap := h, toks := tk })
    (hRR : ∀ D C h tk m' ys news', Fr h₀ L h m → News h₀ L h ((D, lst ys) :: news') → Off1 D news' → h.Ns C m' → h₀.get? C = none → h₀.get? D = none → C ≠ L → D ≠ L → C ≠ D → (∀ p ∈ news', p.1 ≠ C) → J n ys news' → RR (.ref D) C (.ok .next) { s with heap := h, toks := tk }) :
    wpAny (model prog w) A (pyIter (.ref r)) (fun it s₂ => wpAny (model prog w) A (newList []) (fun acc s₃ => wpAny (model prog w) A (newFunctionEnv scope env.globals cl [] env.qual none .none (some env)) (fun cenv s₄ =>
      codeAny (model prog w) A (.compStart (.ListComp elt [⟨.Name x px, iter, ifs, 0⟩] scope pos) 0 it acc { cenv with scope := relabel scope env }) (RR acc cenv.locals) s₄) E s₃) E s₂) E s := by
  refine wpAny_pyIter_range hr hsm ?_
  have W := range_walks (prog := prog) (w := w) (I := s.heap.objs.size) hh a n
  refine comp_J (KTurns.ofWalks (target := .Name x px) W fun i v s' Q' E' st q => letGo_name q) hsz W.self (fun i h st => ⟨_, st⟩) range_st hcell hkind (by show IsRangeIter _ _ _ _ _; rw [hn]; simpa using Heap.get?_push_size _ rfl) (fun b hb => ?_)
      (F.keeps fun _ _ e => Heap.get?_push_of_some _ e) (N.grown fun _ _ e => Heap.get?_push_of_some _ e) (Nat.ne_of_lt F.ns.lt) (next_is_new F) (fun p hp => Nat.ne_of_lt (Heap.lt_size (N p hp).1)) J (fun _ _ _ _ => trivial) h0 ?_ hRR
  · rw [List.mem_singleton.mp hb]
    show s.heap.objs.size < (s.heap.push _).objs.size
    rw [Heap.size_push]; exact Nat.lt_succ_self _
  · intro i _ ys news₁ oI C oC D mC h tk E' hi pt913 hJ hC Fi Ni off ne
    (with_reducible refine (?_ : let G9 : Prop := _; G9)); intro G9
    obtain ⟨ti, rfl⟩ := pt913
    k_unfold; clear G9
    refine asg_name hkind hx hC Fi Ni off ne fun oC' h' tk' hC' F' N' => ?_
    exact turn i ti ys news₁ _ oI C oC' D _ h' tk' E' hi hJ hC' (by simp) F' N' off ne
theorem comp_str {elt iter : Expr} {x : Str} {px : Pos} {ifs : List Expr} {scope : Scope} {cl : List (Str × Addr)} {pos : Pos} {z : Str} {t : Tok} {news : List (Addr × Obj)} {RR : Value → Addr → Result → Shared → Prop}
    (hh : A.handled = none) (hcell : ∀ y ∈ scope.names, y.2 ≠ .cell) (hkind : scope.kind = .function) (hx : scope.names.lookup x = some .local) (hsz : z.cps.size ≤ sizeLine)
    (F : Fr h₀ L s.heap m) (N : News h₀ L s.heap news)
    (J : Nat → List Value → List (Addr × Obj) → Prop) (h0 : J 0 [] news)
    (turn : ∀ i c ti ys news₁ I oI C oC D mC h tk (E' : Value → Shared → Prop), i < z.cps.size → z.cps[i]? = some c → J i ys news₁ → NsObj oC mC → mC x = some (.str ⟨#[c]⟩ ti) → Fr h₀ L h m → News h₀ L h ((I, oI) :: (C, oC) :: (D, lst ys) :: news₁) → Off3 I C D news₁ → ((@Ne Nat I C) ∧ (@Ne Nat I D) ∧ (@Ne Nat C D)) →
      wpAny (model prog w) A (forIn ifs true fun c r => if r = true then do let ok ← isTrue c (compEnvC scope cl C env) (eval c (compEnvC scope cl C env)); pure (ForInStep.yield ok) else pure (ForInStep.yield r))
        (fun ok s₃ => if ok = true then wpAny (model prog w) A (eval elt (compEnvC scope cl C env)) (fun y s₄ => CEnd h₀ L m s I oI C D (lst ys) (J (i + 1) (ys ++ [y])) s₄) E' s₃ else CEnd h₀ L m s I oI C D (lst ys) (J (i + 1) ys) s₃) E' { s with heap := h, toks := tk })
    (hRR : ∀ D C h tk m' ys news', Fr h₀ L h m → News h₀ L h ((D, lst ys) :: news') → Off1 D news' → h.Ns C m' → h₀.get? C = none → h₀.get? D = none → C ≠ L → D ≠ L → C ≠ D → (∀ p ∈ news', p.1 ≠ C) → J z.cps.size ys news' → RR (.ref D) C (.ok .next) { s with heap := h, toks := tk }) :
    wpAny (model prog w) A (pyIter (.str z t)) (fun it s₂ => wpAny (model prog w) A (newList []) (fun acc s₃ => wpAny (model prog w) A (newFunctionEnv scope env.globals cl [] env.qual none .none (some env)) (fun cenv s₄ =>
      codeAny (model prog w) A (.compStart (.ListComp elt [⟨.Name x px, iter, ifs, 0⟩] scope pos) 0 it acc { cenv with scope := relabel scope env }) (RR acc cenv.locals) s₄) E s₃) E s₂) E s := by
  have go : ∀ (o : Obj) (St : Nat → Heap → Prop), Walks prog w A s.heap.objs.size [s.heap.objs.size] [s.heap.objs.size] z.cps.size (SignAt z) St → St 0 (s.heap.push o) → (∀ i h, St i h → ∃ o, h.get? s.heap.objs.size = some o) →
      wpAny (model prog w) A (newList []) (fun acc s₃ => wpAny (model prog w) A (newFunctionEnv scope env.globals cl [] env.qual none .none (some env)) (fun cenv s₄ =>
      codeAny (model prog w) A (.compStart (.ListComp elt [⟨.Name x px, iter, ifs, 0⟩] scope pos) 0 (.ref s.heap.objs.size) acc { cenv with scope := relabel scope env }) (RR acc cenv.locals) s₄) E s₃) E { s with heap := s.heap.push o } := by
    intro o St W st0 hIo
    refine comp_J (KTurns.ofWalks (target := .Name x px) W fun i v s' Q' E' st q => letGo_name q) hsz W.self hIo (S := fun _ => True) (fun i h h' o nw st e e' _ _ _ => W.frame i h h' st fun b hb o' q => ?_) hcell hkind st0 (fun b hb => ?_)
      (F.keeps fun _ _ e => Heap.get?_push_of_some _ e) (N.grown fun _ _ e => Heap.get?_push_of_some _ e) (Nat.ne_of_lt F.ns.lt) (next_is_new F) (fun p hp => Nat.ne_of_lt (Heap.lt_size (N p hp).1)) J (fun _ _ _ _ => trivial) h0 ?_ hRR
    · rw [List.mem_singleton.mp hb] at q ⊢
      rw [e', ← e, q]
    · rw [List.mem_singleton.mp hb]
      show s.heap.objs.size < (s.heap.push _).objs.size
      rw [Heap.size_push]; exact Nat.lt_succ_self _
    · intro i _ ys news₁ oI C oC D mC h tk E' hi pt913 hJ hC Fi Ni off ne
      (with_reducible refine (?_ : let G9 : Prop := _; G9)); intro G9
      obtain ⟨c, ti, hc, rfl⟩ := pt913
      k_unfold; clear G9
      refine asg_name hkind hx hC Fi Ni off ne fun oC' h' tk' hC' F' N' => ?_
      exact turn i c ti ys news₁ _ oI C oC' D _ h' tk' E' hi hc hJ hC' (by simp) F' N' off ne
  cases ha : z.cps.all (· < 128)
  · exact wpAny_pyIter_wide ha (go _ _ (Walks.strWide hh _ z t) ⟨_, Heap.get?_push_size _ rfl, rfl, rfl⟩ fun i h st => let ⟨o, e, _⟩ := st; ⟨o, e⟩)
  · exact wpAny_pyIter_ascii ha (go _ _ (Walks.strAscii hh _ z t) ⟨_, Heap.get?_push_size _ rfl, rfl, rfl⟩ fun i h st => let ⟨o, e, _⟩ := st; ⟨o, e⟩)
end
theorem rng_size {b : Int} {n : Nat} (h : n = b.toNat) : Builtin.Range.rangeSize 0 b 1 = ((n : Nat) : Int) := by
  rw [rangeSize_one]; split <;> lia
theorem rng_size1 {a b : Int} {n : Nat} (h : n = (b - a).toNat) : Builtin.Range.rangeSize a b 1 = ((n : Nat) : Int) := by
  rw [rangeSize_one]; split <;> lia
end
section
open PySem PySem.W PyProof.Rows PySem.Calls PySem.Spec PyProof.Rows.LCg
set_option maxRecDepth 100000
set_option maxHeartbeats 1000000
section
variable {prog : Program} {w : World} {A : Around} {E : Value → Shared → Prop} {s : Shared} {env : Env} {h₀ : Heap} {R : Result → Shared → Prop} {target : Expr} {body orelse : List Stmt} {m : Str → Option Value} {news : List (Addr × Obj)}
theorem for_J {I : Addr} {fp : List Addr} {n : Nat} {P Md : Nat → Value → Heap → Prop} {St : Nat → Heap → Prop} {S : List (Addr × Obj) → Prop} (W : KTurns prog w A target I fp [I] n P Md St)
    (hIo : ∀ i h, St i h → ∃ o, h.get? I = some o)
    (hSt : ∀ i h h' o nw, St i h → h.get? I = some o → h'.get? I = some o → (∀ b o, h₀.get? b = some o → h'.get? b = some o) → News h₀ env.locals h' nw → S nw → St i h')
    (hst : St 0 s.heap) (F : Fr h₀ env.locals s.heap m) (N : News h₀ env.locals s.heap news) (hIL : env.locals ≠ I) (hI₀ : h₀.get? I = none) (off : ∀ p ∈ news, p.1 ≠ I)
    (J : Nat → (Str → Option Value) → List (Addr × Obj) → Prop) (hJS : ∀ i m nw, J i m nw → S nw) (h0 : J 0 m news)
    (step : ∀ i v m₁ news₁ oI h₁ tk₁, i < n → P i v h₁ → J i m₁ news₁ → (∀ p ∈ news₁, p.1 ≠ I) → Fr h₀ env.locals h₁ m₁ → News h₀ env.locals h₁ ((I, oI) :: news₁) →
      wpAny (model prog w) A (assign target env v) (fun _ s₂ => wpAny (model prog w) A (execs body env) (fun f s₃ => match f with
          | .next | .cont => ∃ h' tk m' news', s₃ = { s with heap := h', toks := tk } ∧ Fr h₀ env.locals h' m' ∧ News h₀ env.locals h' ((I, oI) :: news') ∧ (∀ p ∈ news', p.1 ≠ I) ∧ J (i + 1) m' news'
          | .brk => R (.ok .next) s₃
          | .ret v => R (.ok (.ret v)) s₃) (notedBy (model prog w) A env fun e s' => R (.error e) s') s₂) (notedBy (model prog w) A env fun e s' => R (.error e) s') { s with heap := h₁, toks := tk₁ })
    (hR : ∀ h' tk m' news', Fr h₀ env.locals h' m' → News h₀ env.locals h' news' → (∀ p ∈ news', p.1 ≠ I) → J n m' news' →
      wpAny (model prog w) A (execs orelse env) (fun f s₃ => R (.ok f) s₃) (notedBy (model prog w) A env fun e s' => R (.error e) s') { s with heap := h', toks := tk }) :
    codeAny (model prog w) A (.forLoop target (.ref I) body orelse env) R s := by
  refine codeAny_forLoop_any
    (fun k s' => ∃ h' tk m' news' i, s' = { s with heap := h', toks := tk } ∧ St i h' ∧ Fr h₀ env.locals h' m' ∧ News h₀ env.locals h' news' ∧ (∀ p ∈ news', p.1 ≠ I) ∧ J i m' news' ∧ i ≤ n ∧ k = n + 1 - i) ?_ (n + 1)
    ⟨s.heap, s.toks, m, news, 0, rfl, hst, F, N, off, h0, Nat.zero_le _, rfl⟩
  intro k s' pt92
  (with_reducible refine (?_ : let G9 : Prop := _; G9)); intro G9
  obtain ⟨h', tk, m', news', i, rfl, hst', F', N', hnw', hJ, hi, rfl⟩ := pt92
  k_unfold; clear G9
  by_cases hlt : i < n
  · refine W.item i _ _ _ hlt hst' fun v h₀' tk₁ hM hk₀ => ?_
    refine W.go i v _ _ _ hM fun h₁ hP hst₁ hk₁' => ?_
    have hk₁ : ∀ b o, b ∉ [I] → h'.get? b = some o → h₁.get? b = some o := fun b o hb e => hk₁' b o hb (hk₀ b o hb e)
    have F₁ := fr_but F' hk₁ hIL hI₀
    have N₁ := news_but N' hk₁ hnw'
    (with_reducible refine (?_ : let G9 : Prop := _; G9)); intro G9
    obtain ⟨oI, heI⟩ := hIo _ _ hst₁
    k_unfold; clear G9
    refine wpAny_mono (step i v m' news' oI h₁ tk₁ hlt hP hJ hnw' F₁ (news_cons N₁ heI (Ne.symm hIL) hI₀))
      (fun _ s₂ h₂ => wpAny_mono h₂ (fun f s₃ h₃ => ?_) fun _ _ e => e) fun _ _ e => e
    have fin : (∃ h' tk m' news', s₃ = { s with heap := h', toks := tk } ∧ Fr h₀ env.locals h' m' ∧ News h₀ env.locals h' ((I, oI) :: news') ∧ (∀ p ∈ news', p.1 ≠ I) ∧ J (i + 1) m' news') →
        ∃ k', k' < n + 1 - i ∧ ∃ h' tk m' news' j, s₃ = { s with heap := h', toks := tk } ∧ St j h' ∧ Fr h₀ env.locals h' m' ∧ News h₀ env.locals h' news' ∧ (∀ p ∈ news', p.1 ≠ I) ∧ J j m' news' ∧ j ≤ n ∧ k' = n + 1 - j := by
      intro pt90
      (with_reducible refine (?_ : let G9 : Prop := _; G9)); intro G9
      obtain ⟨h₃', tk₃, m₂, news₂, rfl, F₃, N₃, ha₃, hJ₃⟩ := pt90
      k_unfold; clear G9
      have N₃' : News h₀ env.locals h₃' news₂ := news_sub N₃ fun p hp => .tail _ hp
      exact ⟨n + 1 - (i + 1), sub_dn (Nat.lt_succ_of_lt hlt), h₃', tk₃, m₂, news₂, i + 1, rfl, hSt _ _ _ _ _ hst₁ heI (N₃ _ (.head _)).1 F₃.keep N₃' (hJS _ _ _ hJ₃), F₃, N₃', ha₃, hJ₃, hlt, rfl⟩
    cases f with
    | next => exact fin h₃
    | cont => exact fin h₃
    | brk => exact h₃
    | ret v => exact h₃
  · have hin : i = n := Nat.le_antisymm (by assumption) (Nat.not_lt.mp (by assumption))
    subst hin
    refine W.done _ _ _ hst' fun h₁ tk₁ hk₁ => ?_
    exact hR h₁ tk₁ m' news' (fr_but F' hk₁ hIL hI₀) (news_but N' hk₁ hnw') hnw' hJ
theorem forJ_range {x : Str} {px : Pos} {r : Addr} {a b : Int} {t u v : Tok} {n : Nat} (hh : A.handled = none) (F : Fr h₀ env.locals s.heap m) (N : News h₀ env.locals s.heap news)
    (hr : IsRange s.heap r a b 1 t u v) (hsm : Builtin.Range.small a b 1 = true) (hn : Builtin.Range.rangeSize a b 1 = ((n : Nat) : Int))
    (J : Nat → (Str → Option Value) → List (Addr × Obj) → Prop) (h0 : J 0 m news)
    (step : ∀ i ti m₁ news₁ I oI h₁ tk₁, i < n → J i m₁ news₁ → (∀ p ∈ news₁, p.1 ≠ I) → Fr h₀ env.locals h₁ m₁ → News h₀ env.locals h₁ ((I, oI) :: news₁) →
      wpAny (model prog w) A (assign (.Name x px) env (.int (a + (i : Int)) ti)) (fun _ s₂ => wpAny (model prog w) A (execs body env) (fun f s₃ => match f with
          | .next | .cont => ∃ h' tk m' news', s₃ = { s with heap := h', toks := tk } ∧ Fr h₀ env.locals h' m' ∧ News h₀ env.locals h' ((I, oI) :: news') ∧ (∀ p ∈ news', p.1 ≠ I) ∧ J (i + 1) m' news'
          | .brk => R (.ok .next) s₃
          | .ret v => R (.ok (.ret v)) s₃) (notedBy (model prog w) A env fun e s' => R (.error e) s') s₂) (notedBy (model prog w) A env fun e s' => R (.error e) s') { s with heap := h₁, toks := tk₁ })
    (hR : ∀ h' tk m' news', Fr h₀ env.locals h' m' → News h₀ env.locals h' news' → J n m' news' →
      wpAny (model prog w) A (execs orelse env) (fun f s₃ => R (.ok f) s₃) (notedBy (model prog w) A env fun e s' => R (.error e) s') { s with heap := h', toks := tk }) :
    wpAny (model prog w) A (pyIter (.ref r)) (fun it s₂ => codeAny (model prog w) A (.forLoop (.Name x px) it body orelse env) R s₂) E s := by
  refine wpAny_pyIter_range hr hsm ?_
  have W := range_walks (prog := prog) (w := w) (I := s.heap.objs.size) hh a n
  refine for_J (KTurns.ofWalks (target := .Name x px) W fun i v s' Q' E' st q => letGo_name q) (fun i h st => ⟨_, st⟩) range_st (by show IsRangeIter _ _ _ _ _; rw [hn]; simpa using Heap.get?_push_size _ rfl)
    (F.keeps fun _ _ e => Heap.get?_push_of_some _ e) (N.grown fun _ _ e => Heap.get?_push_of_some _ e) (Nat.ne_of_lt F.ns.lt) (next_is_new F) (fun p hp => Nat.ne_of_lt (Heap.lt_size (N p hp).1)) J (fun _ _ _ _ => trivial) h0 ?_ fun h' tk m' news' F' N' _ hJ => hR h' tk m' news' F' N' hJ
  intro i _ m₁ news₁ oI h₁ tk₁ hi pt98 hJ hw F₁ N₁
  (with_reducible refine (?_ : let G9 : Prop := _; G9)); intro G9
  obtain ⟨ti, rfl⟩ := pt98
  k_unfold; clear G9
  exact step i ti m₁ news₁ _ oI h₁ tk₁ hi hJ hw F₁ N₁
theorem forJ_list {ax : Addr} {its : Array Value} (hh : A.handled = none) (F : Fr h₀ env.locals s.heap m) (N : News h₀ env.locals s.heap news) (hS : SrcAt h₀ ax its news)
    (J : Nat → (Str → Option Value) → List (Addr × Obj) → Prop) (hJS : ∀ i m nw, J i m nw → SrcAt h₀ ax its nw) (h0 : J 0 m news)
    (step : ∀ i v m₁ news₁ I oI h₁ tk₁, i < its.size → its[i]? = some v → J i m₁ news₁ → (∀ p ∈ news₁, p.1 ≠ I) → Fr h₀ env.locals h₁ m₁ → News h₀ env.locals h₁ ((I, oI) :: news₁) →
      wpAny (model prog w) A (assign target env v) (fun _ s₂ => wpAny (model prog w) A (execs body env) (fun f s₃ => match f with
          | .next | .cont => ∃ h' tk m' news', s₃ = { s with heap := h', toks := tk } ∧ Fr h₀ env.locals h' m' ∧ News h₀ env.locals h' ((I, oI) :: news') ∧ (∀ p ∈ news', p.1 ≠ I) ∧ J (i + 1) m' news'
          | .brk => R (.ok .next) s₃
          | .ret v => R (.ok (.ret v)) s₃) (notedBy (model prog w) A env fun e s' => R (.error e) s') s₂) (notedBy (model prog w) A env fun e s' => R (.error e) s') { s with heap := h₁, toks := tk₁ })
    (hR : ∀ h' tk m' news', Fr h₀ env.locals h' m' → News h₀ env.locals h' news' → J its.size m' news' →
      wpAny (model prog w) A (execs orelse env) (fun f s₃ => R (.ok f) s₃) (notedBy (model prog w) A env fun e s' => R (.error e) s') { s with heap := h', toks := tk }) :
    wpAny (model prog w) A (pyIter (.ref ax)) (fun it s₂ => codeAny (model prog w) A (.forLoop target it body orelse env) R s₂) E s := by
  have hl := hS.list F.keep N
  have hlt : ax < s.heap.objs.size := by obtain ⟨_, e, _⟩ := hl; exact Heap.lt_size e
  refine wpAny_pyIter_list hl ?_
  have W := Walks.list (prog := prog) (w := w) hh s.heap.objs.size ax (Nat.ne_of_lt hlt) its
  refine for_J (KTurns.ofWalks (target := target) W fun i v s' Q' E' st q => letGo_list st.1 q) (fun i h st => by obtain ⟨o, e, _⟩ := st.1; exact ⟨o, e⟩) list_st ⟨⟨_, Heap.get?_push_size _ rfl, rfl, rfl⟩, hl.push _⟩
    (F.keeps fun _ _ e => Heap.get?_push_of_some _ e) (N.grown fun _ _ e => Heap.get?_push_of_some _ e) (Nat.ne_of_lt F.ns.lt) (next_is_new F) (fun p hp => Nat.ne_of_lt (Heap.lt_size (N p hp).1)) J hJS h0 ?_ fun h' tk m' news' F' N' _ hJ => hR h' tk m' news' F' N' hJ
  intro i v m₁ news₁ oI h₁ tk₁ hi hP hJ hw F₁ N₁
  exact step i v m₁ news₁ _ oI h₁ tk₁ hi hP hJ hw F₁ N₁
def TupAt (ax : Addr) (its : Array Value) (news : List (Addr × Obj)) : Prop := ∃ o, (ax, o) ∈ news ∧ o.cls = .type "tuple" ∧ ∃ n, o.data = .seq its n
theorem TupAt.tup {h₀ h : Heap} {L ax : Addr} {its : Array Value} {news : List (Addr × Obj)} (x : TupAt ax its news) (N : News h₀ L h news) : h.IsTuple ax its := by
  obtain ⟨o, hm, r⟩ := x
  exact ⟨o, (N _ hm).1, r⟩
theorem forJ_tup {x : Str} {px : Pos} {ax : Addr} {its : Array Value} (hh : A.handled = none) (F : Fr h₀ env.locals s.heap m) (N : News h₀ env.locals s.heap news) (hS : TupAt ax its news)
    (J : Nat → (Str → Option Value) → List (Addr × Obj) → Prop) (hJS : ∀ i m nw, J i m nw → TupAt ax its nw) (h0 : J 0 m news)
    (step : ∀ i v m₁ news₁ I oI h₁ tk₁, i < its.size → its[i]? = some v → J i m₁ news₁ → (∀ p ∈ news₁, p.1 ≠ I) → Fr h₀ env.locals h₁ m₁ → News h₀ env.locals h₁ ((I, oI) :: news₁) →
      wpAny (model prog w) A (assign (.Name x px) env v) (fun _ s₂ => wpAny (model prog w) A (execs body env) (fun f s₃ => match f with
          | .next | .cont => ∃ h' tk m' news', s₃ = { s with heap := h', toks := tk } ∧ Fr h₀ env.locals h' m' ∧ News h₀ env.locals h' ((I, oI) :: news') ∧ (∀ p ∈ news', p.1 ≠ I) ∧ J (i + 1) m' news'
          | .brk => R (.ok .next) s₃
          | .ret v => R (.ok (.ret v)) s₃) (notedBy (model prog w) A env fun e s' => R (.error e) s') s₂) (notedBy (model prog w) A env fun e s' => R (.error e) s') { s with heap := h₁, toks := tk₁ })
    (hR : ∀ h' tk m' news', Fr h₀ env.locals h' m' → News h₀ env.locals h' news' → J its.size m' news' →
      wpAny (model prog w) A (execs orelse env) (fun f s₃ => R (.ok f) s₃) (notedBy (model prog w) A env fun e s' => R (.error e) s') { s with heap := h', toks := tk }) :
    wpAny (model prog w) A (pyIter (.ref ax)) (fun it s₂ => codeAny (model prog w) A (.forLoop (.Name x px) it body orelse env) R s₂) E s := by
  have hl := hS.tup N
  have hlt : ax < s.heap.objs.size := by obtain ⟨_, e, _⟩ := hl; exact Heap.lt_size e
  refine wpAny_pyIter_tuple hl ?_
  have W := Walks.tuple (prog := prog) (w := w) hh s.heap.objs.size ax (Nat.ne_of_lt hlt) its
  refine for_J (KTurns.ofWalks (target := .Name x px) W fun i v s' Q' E' st q => letGo_name q) (fun i h st => by obtain ⟨o, e, _⟩ := st.1; exact ⟨o, e⟩) (S := TupAt ax its)
    (fun i h h' o nw st e e' k N S => ⟨by obtain ⟨o', q, r⟩ := st.1; rw [e] at q; cases q; exact ⟨o, e', r⟩, S.tup N⟩) ⟨⟨_, Heap.get?_push_size _ rfl, rfl, rfl⟩, hl.at fun o e => Heap.get?_push_of_some _ e⟩
    (F.keeps fun _ _ e => Heap.get?_push_of_some _ e) (N.grown fun _ _ e => Heap.get?_push_of_some _ e) (Nat.ne_of_lt F.ns.lt) (next_is_new F) (fun p hp => Nat.ne_of_lt (Heap.lt_size (N p hp).1)) J hJS h0 ?_ fun h' tk m' news' F' N' _ hJ => hR h' tk m' news' F' N' hJ
  intro i v m₁ news₁ oI h₁ tk₁ hi hP hJ hw F₁ N₁
  exact step i v m₁ news₁ _ oI h₁ tk₁ hi hP hJ hw F₁ N₁
end
end
section
open PySem PySem.W PyProof.Rows PySem.Calls PySem.Spec PyProof.Rows.LCg
set_option maxRecDepth 100000
set_option maxHeartbeats 1000000
def Nd (news : List (Addr × Obj)) : Prop := (news.map (·.1)).Nodup
theorem nd_setN {a : Addr} {o : Obj} {news : List (Addr × Obj)} (h : Nd news) : Nd (setN a o news) := by unfold Nd; rw [setN_map]; exact h
theorem nd_cons {a : Addr} {o : Obj} {news : List (Addr × Obj)} (h : Nd news) (hn : ∀ p ∈ news, p.1 ≠ a) : Nd ((a, o) :: news) := by
  refine List.nodup_cons.mpr ⟨fun hm => ?_, h⟩
  obtain ⟨p, hp, e⟩ := List.mem_map.mp hm
  exact hn p hp e
theorem setN_off {a : Addr} {o : Obj} : ∀ {news : List (Addr × Obj)}, (∀ p ∈ news, p.1 ≠ a) → setN a o news = news
  | [], _ => rfl
  | p :: r, h => by
    have e := setN_off (o := o) (news := r) fun q hq => h q (.tail _ hq)
    unfold setN at e ⊢
    rw [List.map_cons, e, if_neg (h p (.head _))]
theorem upd_setN {a : Addr} {o o' : Obj} : ∀ {news : List (Addr × Obj)}, Nd news → (a, o) ∈ news → Upd a o o' news (setN a o' news)
  | p :: r, hn, hm => by
    have hn' := List.nodup_cons.mp hn
    rcases List.mem_cons.mp hm with e | hm
    · subst e
      have off : ∀ q ∈ r, q.1 ≠ a := fun q hq e => hn'.1 (List.mem_map.mpr ⟨q, hq, e⟩)
      have e2 : setN a o' ((a, o) :: r) = (a, o') :: r := by
        show (if a = a then (a, o') else (a, o)) :: setN a o' r = _
        rw [if_pos rfl, setN_off off]
      rw [e2]; exact .head off
    · have hne : p.1 ≠ a := fun e => hn'.1 (List.mem_map.mpr ⟨(a, o), hm, e.symm⟩)
      have e2 : setN a o' (p :: r) = p :: setN a o' r := by
        show (if p.1 = a then (a, o') else p) :: setN a o' r = _
        rw [if_neg hne]
      rw [e2]; exact .tail hne (upd_setN hn'.2 hm)
theorem all_ne {d x : Nat} {news : List (Addr × Obj)} (h : ∀ p ∈ news, p.1 < d) (hx : d ≤ x) : ∀ p ∈ news, p.1 ≠ x := fun p hp e => Nat.lt_irrefl x (Nat.lt_of_lt_of_le (e ▸ h p hp) hx)
theorem all_ne' {d x : Nat} {news : List (Addr × Obj)} (h : AllLt d news) (hx : d ≤ x) : ∀ p ∈ news, p.1 ≠ x := by
  induction news with
  | nil => intro p hp; cases hp
  | cons q r ih =>
    intro p hp
    rcases List.mem_cons.mp hp with rfl | hp
    · exact fun e => Nat.lt_irrefl x (Nat.lt_of_lt_of_le (e ▸ h.1) hx)
    · exact ih h.2 p hp
end
section
open PySem PySem.W PyProof.Rows PySem.Calls PySem.Spec PyProof.Rows.LCg
set_option maxRecDepth 100000
set_option maxHeartbeats 1000000
structure DG (prog : Program) (w : World) (news : List (Addr × Obj)) (G : Addr) (kvs : List (Int × Value)) : Prop where
  ex : ∃ o, (G, o) ∈ news ∧ o.IsDictOf (intKind prog w) kvs
  sys : (G == sysModules) = false
section
variable {prog : Program} {w : World} {A : Around} {E : Value → Shared → Prop} {s : Shared} {h₀ : Heap} {L : Addr} {m : Str → Option Value} {news : List (Addr × Obj)} {G : Addr} {kvs : List (Int × Value)} {k : Int} {t : Tok}
theorem DG.at (D : DG prog w news G kvs) (N : News h₀ L s.heap news) : s.heap.DictOf (intKind prog w) G kvs := by
  obtain ⟨o, hm, ho⟩ := D.ex
  exact Heap.dictOf_iff.mpr ⟨o, (N _ hm).1, ho⟩
theorem dg_getMethod {pl : Sem Bool} {Q : Value × List Value → Shared → Prop} (D : DG prog w news G kvs) (N : News h₀ L s.heap news) (h : Q (.builtin "dict.get", [.ref G]) s) : wpAny (model prog w) A (getMethod (.ref G) (Str.ofString "get") pl) Q E s :=
  getMethod_builtin (D.at N).typeIs PySem.F.plainAttrs_dict PySem.F.slot_dict_get PySem.F.type_dict_get (D.at N).mapOf.noDict h
theorem dg_get {Q : Value → Shared → Prop} (D : DG prog w news G kvs) (N : News h₀ L s.heap news) (h : Q ((valueAt kvs k).getD .none) { s with toks := s.toks + 1 }) : wpAny (model prog w) A (call (.builtin "dict.get") [.ref G, .int k t]) Q E s :=
  call_meetsIn PySem.F.slot_dict_get (D.at N).typeIs PySem.F.entry_dict_get (PySem.F.args_dict_get_2 _ _) (meets_dict_get (intKind prog w) G (intKind_is _ _ _ _) D.sys) ⟨_, (D.at N).mapOf, h⟩
theorem dg_set {v : Value} {Q : Unit → Shared → Prop} (D : DG prog w news G kvs) (F : Fr h₀ L s.heap m) (N : News h₀ L s.heap news) (hsz : kvs.length ≤ sizeLine)
    (h : ∀ o' h', Fr h₀ L h' m → News h₀ L h' (setN G o' news) → DG prog w (setN G o' news) G (stored kvs k v) → Q () { s with heap := h', toks := s.toks + 1 }) : wpAny (model prog w) A (setItem (.ref G) (.int k t) v) Q E s := by
  refine wpAny_setItem_pairs (knd := intKind prog w) (intKind_is _ _ _ _) (D.at N) (fun h' hd hs => ?_) hsz
  (with_reducible refine (?_ : let G9 : Prop := _; G9)); intro G9
  obtain ⟨o', e', ho'⟩ := Heap.dictOf_iff.mp hd
  obtain ⟨o, hm, _⟩ := D.ex
  obtain ⟨F', N'⟩ := led_upd F N hm hs e'
  k_unfold; clear G9
  exact h o' h' F' N' ⟨⟨o', mem_setN_self hm, ho'⟩, D.sys⟩
theorem dg_item {value slice : Expr} {v : Value} {Q : Value → Shared → Prop} (D : DG prog w news G kvs) (N : News h₀ L s.heap news) (hv : valueAt kvs k = some v) (h : Q v { s with toks := s.toks + 1 })
    (hs : subscripted slice false (.ref G) (.int k t) = operate [.ref G, .int k t] (getItem (.ref G) (.int k t)) := by with_unfolding_all rfl) (ht : ∀ r, letTemporaryGo value (.ref G) r = pure () := by intro _; with_unfolding_all rfl) :
    wpAny (model prog w) A (subscriptTail value slice (.ref G) (.int k t)) Q E s :=
  subscriptTail_ops (D.at N).typeIs slot_dict_getitem.lookup (wpAny_getItem_of (knd := intKind prog w) (intKind_is _ _ _ _) (D.at N).mapOf hv h) hs ht
end
end
section
open PySem PySem.W PyProof.Rows PySem.Calls PySem.Spec PyProof.Rows.LCg
set_option maxRecDepth 100000
set_option maxHeartbeats 1000000
structure Nde where
  N : Addr
  d : Addr
  Ls : Addr
  k : Int
  np : Int
  succ : List Int
abbrev nodeO (d : Addr) (k np : Int) (t1 t2 : Tok) (Ls : Addr) : Obj := { cls := .ref 94, dict := some d, slots := #[some (.int k t1), some (.int np t2), some (.ref Ls)] }
inductive NdeN (news : List (Addr × Obj)) (n : Nde) : Prop
  | mk (t1 t2 : Tok) (h : (n.N, nodeO n.d n.k n.np t1 t2 n.Ls) ∈ news) : NdeN news n
inductive NdeL (news : List (Addr × Obj)) (n : Nde) : Prop
  | mk (vs : Array Value) (c : Nat) (h : (n.Ls, W.listOf vs c) ∈ news) (i : IntsAre vs.toList n.succ) : NdeL news n
structure NdeAt (news : List (Addr × Obj)) (n : Nde) : Prop where
  node : NdeN news n
  dict : (n.d, dictOf [] 0) ∈ news
  list : NdeL news n
abbrev srtD (G : Addr) (rv : Value) (po nf : Int) (h1 h2 h3 h4 : Int) (t1 t2 t3 t4 t5 t6 : Tok) : Obj :=
  dictOf [⟨h1, .str (Str.ofString "_node2info") t1, .ref G⟩, ⟨h2, .str (Str.ofString "_ready_nodes") t2, rv⟩, ⟨h3, .str (Str.ofString "_npassedout") t3, .int po t5⟩, ⟨h4, .str (Str.ofString "_nfinished") t4, .int nf t6⟩] 4
def foot (S dS G : Addr) (ns : List Nde) : List Addr := S :: dS :: G :: (ns.map (·.N) ++ ns.map (·.d) ++ ns.map (·.Ls))
inductive SrtD (news : List (Addr × Obj)) (dS G : Addr) (rv : Value) (po nf : Int) : Prop
  | mk (h1 h2 h3 h4 : Int) (t1 t2 t3 t4 t5 t6 : Tok) (h : (dS, srtD G rv po nf h1 h2 h3 h4 t1 t2 t3 t4 t5 t6) ∈ news) : SrtD news dS G rv po nf
structure Srt (w : World) (news : List (Addr × Obj)) (S dS G : Addr) (rv : Value) (po nf : Int) (ns : List Nde) (oth : List (Addr × Obj)) : Prop where
  nd : Nd news
  inst : (S, instObj 191 dS) ∈ news
  dict : SrtD news dS G rv po nf
  map : DG PySem.Challenge.pw_nq0248_01 w news G (ns.map fun n => (n.k, .ref n.N))
  nodes : ∀ n ∈ ns, NdeAt news n
  lists : (ns.map (·.Ls)).Nodup
  keys : (ns.map (·.k)).Nodup
  ne0 : dS ≠ G
  ne1 : ∀ n ∈ ns, n.d ≠ G ∧ n.d ≠ dS
  room : ns.length ≤ 100
  apart : ∀ p ∈ oth, p ∈ news ∧ p.1 ∉ foot S dS G ns
theorem valueAt_map {ns : List Nde} {k : Int} {v : Value} (h : valueAt (ns.map fun n => (n.k, Value.ref n.N)) k = some v) : ∃ n ∈ ns, n.k = k ∧ v = .ref n.N := by
  unfold valueAt at h
  obtain ⟨p, hp, rfl⟩ := Option.map_eq_some_iff.mp h
  obtain ⟨n, hn, rfl⟩ := List.mem_map.mp (List.mem_of_find?_eq_some hp)
  exact ⟨n, hn, by simpa using List.find?_some hp, rfl⟩
theorem valueAt_none {ns : List Nde} {k : Int} (h : valueAt (ns.map fun n => (n.k, Value.ref n.N)) k = none) : ∀ n ∈ ns, n.k ≠ k := by
  unfold valueAt at h
  intro n hn e
  have := List.find?_eq_none.mp (Option.map_eq_none_iff.mp h) (n.k, .ref n.N) (List.mem_map.mpr ⟨n, hn, rfl⟩)
  simp [e] at this
theorem key_inj {ns : List Nde} (hk : (ns.map (·.k)).Nodup) {x y : Nde} (hx : x ∈ ns) (hy : y ∈ ns) (e : x.k = y.k) : x = y := by
  induction ns with
  | nil => cases hx
  | cons z r ih =>
    have hz := List.nodup_cons.mp hk
    rcases List.mem_cons.mp hx with e1 | hx' <;> rcases List.mem_cons.mp hy with e2 | hy'
    · rw [e1, e2]
    · exact (hz.1 (List.mem_map.mpr ⟨y, hy', by rw [← e1]; exact e.symm⟩)).elim
    · exact (hz.1 (List.mem_map.mpr ⟨x, hx', by rw [← e2]; exact e⟩)).elim
    · exact ih hz.2 hx' hy'
theorem valueAt_key {ns : List Nde} (hk : (ns.map (·.k)).Nodup) {n : Nde} (hn : n ∈ ns) : valueAt (ns.map fun n => (n.k, Value.ref n.N)) n.k = some (.ref n.N) := by
  cases hv : valueAt (ns.map fun n => (n.k, Value.ref n.N)) n.k with
  | none => exact absurd rfl (valueAt_none hv n hn)
  | some v => obtain ⟨x, hx, e, rfl⟩ := valueAt_map hv; rw [key_inj hk hx hn e]
theorem stored_new {ns : List Nde} {k : Int} {v : Value} (h : ∀ n ∈ ns, n.k ≠ k) : stored (ns.map fun n => (n.k, Value.ref n.N)) k v = (ns.map fun n => (n.k, Value.ref n.N)) ++ [(k, v)] := by
  unfold stored
  rw [if_neg]
  intro hh
  obtain ⟨p, hp, e⟩ := List.any_eq_true.mp hh
  obtain ⟨n, hn, rfl⟩ := List.mem_map.mp hp
  exact h n hn (by simpa using e)
theorem mem_lt {news : List (Addr × Obj)} {d : Nat} (h : AllLt d news) : ∀ p ∈ news, @LT.lt Nat _ p.1 d := by
  induction news with
  | nil => intro p hp; cases hp
  | cons q r ih =>
    intro p hp
    rcases List.mem_cons.mp hp with rfl | hp
    · exact h.1
    · exact ih h.2 p hp
theorem DG.sub {prog : Program} {w : World} {news news' : List (Addr × Obj)} {G : Addr} {kvs : List (Int × Value)} (D : DG prog w news G kvs) (h : ∀ p ∈ news, p.1 = G → p ∈ news') : DG prog w news' G kvs :=
  ⟨let ⟨o, a, b⟩ := D.ex; ⟨o, h _ a rfl, b⟩, D.sys⟩
theorem NdeAt.keep {news news' : List (Addr × Obj)} {n : Nde} (h : NdeAt news n) (k1 : ∀ o, (n.N, o) ∈ news → (n.N, o) ∈ news') (k2 : ∀ o, (n.d, o) ∈ news → (n.d, o) ∈ news') (k3 : ∀ o, (n.Ls, o) ∈ news → (n.Ls, o) ∈ news') : NdeAt news' n :=
  ⟨let ⟨a, b, c⟩ := h.node; ⟨a, b, k1 _ c⟩, k2 _ h.dict, let ⟨a, b, c, d⟩ := h.list; ⟨a, b, k3 _ c, d⟩⟩
theorem nd_det {a : Addr} {o o' : Obj} : ∀ {news : List (Addr × Obj)}, Nd news → (a, o) ∈ news → (a, o') ∈ news → o = o'
  | p :: r, h, h1, h2 => by
    have hn := List.nodup_cons.mp h
    rcases List.mem_cons.mp h1 with e1 | h1' <;> rcases List.mem_cons.mp h2 with e2 | h2'
    · rw [← e1] at e2; exact (Prod.mk.inj e2).2.symm
    · exact (hn.1 (List.mem_map.mpr ⟨_, h2', by rw [← e1]⟩)).elim
    · exact (hn.1 (List.mem_map.mpr ⟨_, h1', by rw [← e2]⟩)).elim
    · exact nd_det hn.2 h1' h2'
theorem nd_filter {news : List (Addr × Obj)} (f : Addr × Obj → Bool) (h : Nd news) : Nd (news.filter f) := h.sublist ((List.filter_sublist ..).map _)
theorem addr_ne {a b : Addr} {o o' : Obj} {news : List (Addr × Obj)} (N : Nd news) (h1 : (a, o) ∈ news) (h2 : (b, o') ∈ news) (hne : o ≠ o') : a ≠ b := fun e => hne (nd_det N h1 (e ▸ h2))
theorem cls_ne {o o' : Obj} {c c' : Value} (h1 : o.cls = c) (h2 : o'.cls = c') (hc : c ≠ c') : o ≠ o' := fun e => hc (h1 ▸ h2 ▸ congrArg Obj.cls e)
section
variable {w : World} {news news' : List (Addr × Obj)} {S dS G : Addr} {rv : Value} {po nf : Int} {ns : List Nde} {oth oth' : List (Addr × Obj)} {h₀ h : Heap} {L : Addr}
theorem mem_foot {a : Addr} (ha : a ∈ foot S dS G ns) : a = S ∨ a = dS ∨ a = G ∨ (∃ n ∈ ns, a = n.N) ∨ (∃ n ∈ ns, a = n.d) ∨ ∃ n ∈ ns, a = n.Ls := by
  unfold foot at ha
  simp only [List.mem_cons, List.mem_append, List.mem_map] at ha
  rcases ha with h | h | h | (⟨n, hn, h⟩ | ⟨n, hn, h⟩) | ⟨n, hn, h⟩
  · exact .inl h
  · exact .inr (.inl h)
  · exact .inr (.inr (.inl h))
  · exact .inr (.inr (.inr (.inl ⟨n, hn, h.symm⟩)))
  · exact .inr (.inr (.inr (.inr (.inl ⟨n, hn, h.symm⟩))))
  · exact .inr (.inr (.inr (.inr (.inr ⟨n, hn, h.symm⟩))))
theorem foot_S : S ∈ foot S dS G ns := .head _
theorem foot_dS : dS ∈ foot S dS G ns := .tail _ (.head _)
theorem foot_G : G ∈ foot S dS G ns := .tail _ (.tail _ (.head _))
theorem foot_N {n : Nde} (hn : n ∈ ns) : n.N ∈ foot S dS G ns := by unfold foot; simp only [List.mem_cons, List.mem_append, List.mem_map]; exact .inr (.inr (.inr (.inl (.inl ⟨n, hn, rfl⟩))))
theorem foot_d {n : Nde} (hn : n ∈ ns) : n.d ∈ foot S dS G ns := by unfold foot; simp only [List.mem_cons, List.mem_append, List.mem_map]; exact .inr (.inr (.inr (.inl (.inr ⟨n, hn, rfl⟩))))
theorem foot_L {n : Nde} (hn : n ∈ ns) : n.Ls ∈ foot S dS G ns := by unfold foot; simp only [List.mem_cons, List.mem_append, List.mem_map]; exact .inr (.inr (.inr (.inr ⟨n, hn, rfl⟩)))
theorem Srt.foot_in (Sr : Srt w news S dS G rv po nf ns oth) {a : Addr} (ha : a ∈ foot S dS G ns) : ∃ o, (a, o) ∈ news := by
  rcases mem_foot ha with rfl | rfl | rfl | ⟨n, hn, rfl⟩ | ⟨n, hn, rfl⟩ | ⟨n, hn, rfl⟩
  · exact ⟨_, Sr.inst⟩
  · obtain ⟨_, _, _, _, _, _, _, _, _, _, hm⟩ := Sr.dict; exact ⟨_, hm⟩
  · obtain ⟨o, hm, _⟩ := Sr.map.ex; exact ⟨o, hm⟩
  · obtain ⟨_, _, hm⟩ := (Sr.nodes n hn).node; exact ⟨_, hm⟩
  · exact ⟨_, (Sr.nodes n hn).dict⟩
  · obtain ⟨_, _, hm, _⟩ := (Sr.nodes n hn).list; exact ⟨_, hm⟩
theorem Srt.move (Sr : Srt w news S dS G rv po nf ns oth) (nd' : Nd news') (keep : ∀ p ∈ news, p.1 ∈ foot S dS G ns → p ∈ news') (ho : ∀ p ∈ oth', p ∈ news' ∧ p.1 ∉ foot S dS G ns) : Srt w news' S dS G rv po nf ns oth' where
  nd := nd'
  inst := keep _ Sr.inst foot_S
  dict := by
    obtain ⟨h1, h2, h3, h4, t1, t2, t3, t4, t5, t6, hm⟩ := Sr.dict
    exact ⟨h1, h2, h3, h4, t1, t2, t3, t4, t5, t6, keep _ hm foot_dS⟩
  map := Sr.map.sub fun p hp e => keep p hp (e ▸ foot_G)
  nodes := fun n hn => (Sr.nodes n hn).keep (fun o ho => keep _ ho (foot_N hn)) (fun o ho => keep _ ho (foot_d hn)) (fun o ho => keep _ ho (foot_L hn))
  lists := Sr.lists
  keys := Sr.keys
  ne0 := Sr.ne0
  ne1 := Sr.ne1
  room := Sr.room
  apart := ho
theorem Srt.cons (Sr : Srt w news S dS G rv po nf ns oth) {p : Addr × Obj} (hp : ∀ q ∈ news, q.1 ≠ p.1) : Srt w (p :: news) S dS G rv po nf ns (p :: oth) := by
  refine Sr.move (nd_cons Sr.nd hp) (fun q hq _ => .tail _ hq) fun q hq => ?_
  rcases List.mem_cons.mp hq with rfl | hq
  · exact ⟨.head _, fun hf => let ⟨o, ho⟩ := Sr.foot_in hf; hp _ ho rfl⟩
  · exact ⟨.tail _ (Sr.apart q hq).1, (Sr.apart q hq).2⟩
theorem Srt.less (Sr : Srt w news S dS G rv po nf ns oth) (h : ∀ p ∈ oth', p ∈ oth) : Srt w news S dS G rv po nf ns oth' :=
  Sr.move Sr.nd (fun _ hp _ => hp) fun p hp => Sr.apart p (h p hp)
def cutN (I : Addr) (news : List (Addr × Obj)) : List (Addr × Obj) := news.filter fun p => !(p.1 == I)
theorem mem_cutN {I : Addr} {p : Addr × Obj} : p ∈ cutN I news ↔ p ∈ news ∧ p.1 ≠ I := by
  unfold cutN
  rw [List.mem_filter]
  constructor
  · rintro ⟨a, b⟩; exact ⟨a, fun e => by simp [e] at b⟩
  · rintro ⟨a, b⟩; exact ⟨a, by simpa using b⟩
theorem Srt.cut (Sr : Srt w news S dS G rv po nf ns oth) {I : Addr} (hI : I ∉ foot S dS G ns) (ho : ∀ p ∈ oth', p ∈ oth ∧ p.1 ≠ I) : Srt w (cutN I news) S dS G rv po nf ns oth' :=
  Sr.move (nd_filter _ Sr.nd) (fun _ hp hf => mem_cutN.mpr ⟨hp, fun e => hI (e ▸ hf)⟩) fun p hp => ⟨mem_cutN.mpr ⟨(Sr.apart p (ho p hp).1).1, (ho p hp).2⟩, (Sr.apart p (ho p hp).1).2⟩
theorem news_cut {I : Addr} {oI : Obj} (N : News h₀ L h news) (hI : (I, oI) ∈ news) : News h₀ L h ((I, oI) :: cutN I news) := fun p hp => by
  rcases List.mem_cons.mp hp with rfl | hp
  · exact N _ hI
  · exact N _ (mem_cutN.mp hp).1
theorem cut_off {I : Addr} : ∀ p ∈ cutN I news, p.1 ≠ I := fun _ hp => (mem_cutN.mp hp).2
theorem Srt.other (Sr : Srt w news S dS G rv po nf ns oth) {a : Addr} {o : Obj} (ha : a ∉ foot S dS G ns) : Srt w (setN a o news) S dS G rv po nf ns (setN a o oth) := by
  refine Sr.move (nd_setN Sr.nd) (fun p hp hf => mem_setN_ne hp fun e => ha (e ▸ hf)) fun p hp => ?_
  rcases of_mem_setN hp with ⟨e1, e2, q, hq, e3⟩ | ⟨e1, e2⟩
  · refine ⟨?_, e1 ▸ ha⟩
    obtain ⟨a', o'⟩ := p
    obtain ⟨b, ob⟩ := q
    cases e1; cases e2; cases e3
    exact mem_setN_self (Sr.apart _ hq).1
  · exact ⟨mem_setN_ne (Sr.apart p e2).1 e1, (Sr.apart p e2).2⟩
theorem Srt.off (Sr : Srt w news S dS G rv po nf ns oth) {a : Addr} {o : Obj} (ha : (a, o) ∈ oth) : a ∉ foot S dS G ns := (Sr.apart _ ha).2
theorem Srt.N_ne (Sr : Srt w news S dS G rv po nf ns oth) {n : Nde} (hn : n ∈ ns) : S ≠ n.N ∧ dS ≠ n.N ∧ G ≠ n.N ∧ ∀ x ∈ ns, x.d ≠ n.N ∧ x.Ls ≠ n.N ∧ (x.k ≠ n.k → x.N ≠ n.N) := by
  obtain ⟨t1, t2, hN⟩ := (Sr.nodes n hn).node
  obtain ⟨o, hm, es, ep, hx, _⟩ := Sr.map.ex
  obtain ⟨_, _, _, _, _, _, _, _, _, _, hD⟩ := Sr.dict
  refine ⟨addr_ne Sr.nd Sr.inst hN (cls_ne rfl rfl (by intro e; injection e with e; exact absurd e (by decide))), addr_ne Sr.nd hD hN (cls_ne rfl rfl (by nofun)), addr_ne Sr.nd hm hN (cls_ne hx.1 rfl (by nofun)), fun x hx => ?_⟩
  obtain ⟨vs, c, hL, _⟩ := (Sr.nodes x hx).list
  obtain ⟨t1', t2', hN'⟩ := (Sr.nodes x hx).node
  refine ⟨addr_ne Sr.nd (Sr.nodes x hx).dict hN (cls_ne rfl rfl (by nofun)), addr_ne Sr.nd hL hN (cls_ne rfl rfl (by nofun)), fun hk => addr_ne Sr.nd hN' hN fun e => hk ?_⟩
  have e2 := congrArg (fun o => o.slots[0]?) e
  simp at e2
  exact e2.1
theorem Srt.L_ne (Sr : Srt w news S dS G rv po nf ns oth) {n : Nde} (hn : n ∈ ns) : S ≠ n.Ls ∧ dS ≠ n.Ls ∧ G ≠ n.Ls ∧ ∀ x ∈ ns, x.d ≠ n.Ls ∧ x.N ≠ n.Ls ∧ (x.k ≠ n.k → x.Ls ≠ n.Ls) := by
  obtain ⟨vs, c, hL, _⟩ := (Sr.nodes n hn).list
  obtain ⟨o, hm, es, ep, hx, _⟩ := Sr.map.ex
  obtain ⟨_, _, _, _, _, _, _, _, _, _, hD⟩ := Sr.dict
  refine ⟨addr_ne Sr.nd Sr.inst hL (cls_ne rfl rfl (by nofun)), addr_ne Sr.nd hD hL (cls_ne rfl rfl (by intro e; injection e with e; exact absurd e (by decide))), addr_ne Sr.nd hm hL (cls_ne hx.1 rfl (by intro e; injection e with e; exact absurd e (by decide))), fun x hx => ?_⟩
  obtain ⟨t1', t2', hN'⟩ := (Sr.nodes x hx).node
  refine ⟨addr_ne Sr.nd (Sr.nodes x hx).dict hL (cls_ne rfl rfl (by intro e; injection e with e; exact absurd e (by decide))), addr_ne Sr.nd hN' hL (cls_ne rfl rfl (by nofun)), fun hk e => hk ?_⟩
  have : ∀ {l : List Nde}, (l.map (·.Ls)).Nodup → x ∈ l → n ∈ l → x = n := by
    intro l hl h1 h2
    induction l with
    | nil => cases h1
    | cons z r ih =>
      have hz := List.nodup_cons.mp hl
      rcases List.mem_cons.mp h1 with e1 | h1' <;> rcases List.mem_cons.mp h2 with e2 | h2'
      · rw [e1, e2]
      · exact (hz.1 (List.mem_map.mpr ⟨n, h2', by rw [← e1]; exact e.symm⟩)).elim
      · exact (hz.1 (List.mem_map.mpr ⟨x, h1', by rw [← e2]; exact e⟩)).elim
      · exact ih hz.2 h1' h2'
  rw [this Sr.lists hx hn]
theorem Srt.dS_ne (Sr : Srt w news S dS G rv po nf ns oth) : S ≠ dS ∧ G ≠ dS ∧ ∀ x ∈ ns, x.d ≠ dS ∧ x.N ≠ dS ∧ x.Ls ≠ dS := by
  obtain ⟨_, _, _, _, _, _, _, _, _, _, hD⟩ := Sr.dict
  refine ⟨addr_ne Sr.nd Sr.inst hD (cls_ne rfl rfl (by nofun)), Sr.ne0.symm, fun x hx => ⟨(Sr.ne1 x hx).2, ?_, ?_⟩⟩
  · obtain ⟨t1', t2', hN'⟩ := (Sr.nodes x hx).node
    exact addr_ne Sr.nd hN' hD (cls_ne rfl rfl (by nofun))
  · obtain ⟨vs, c, hL, _⟩ := (Sr.nodes x hx).list
    exact addr_ne Sr.nd hL hD (cls_ne rfl rfl (by intro e; injection e with e; exact absurd e (by decide)))
theorem Srt.G_ne (Sr : Srt w news S dS G rv po nf ns oth) : S ≠ G ∧ dS ≠ G ∧ ∀ x ∈ ns, x.d ≠ G ∧ x.N ≠ G ∧ x.Ls ≠ G := by
  obtain ⟨o, hm, es, ep, hx, _⟩ := Sr.map.ex
  refine ⟨addr_ne Sr.nd Sr.inst hm (cls_ne rfl hx.1 (by nofun)), Sr.ne0, fun x hx' => ⟨(Sr.ne1 x hx').1, ?_, ?_⟩⟩
  · obtain ⟨t1', t2', hN'⟩ := (Sr.nodes x hx').node
    exact addr_ne Sr.nd hN' hm (cls_ne rfl hx.1 (by nofun))
  · obtain ⟨vs, c, hL, _⟩ := (Sr.nodes x hx').list
    exact addr_ne Sr.nd hL hm (cls_ne rfl hx.1 (by intro e; injection e with e; exact absurd e (by decide)))
def turnK (k : Int) (f : Nde → Nde) (ns : List Nde) : List Nde := ns.map fun x => if x.k = k then f x else x
theorem turnK_map {β : Type} {k : Int} {f : Nde → Nde} {g : Nde → β} (hf : ∀ x, g (f x) = g x) : (turnK k f ns).map g = ns.map g := by
  unfold turnK
  rw [List.map_map]
  refine List.map_congr_left fun x _ => ?_
  show g (if x.k = k then f x else x) = g x
  split
  · exact hf x
  · rfl
theorem of_turnK {k : Int} {f : Nde → Nde} {x : Nde} (hx : x ∈ turnK k f ns) : (∃ y ∈ ns, y.k = k ∧ x = f y) ∨ (x ∈ ns ∧ x.k ≠ k) := by
  obtain ⟨y, hy, e⟩ := List.mem_map.mp hx
  by_cases h : y.k = k
  · rw [if_pos h] at e; exact .inl ⟨y, hy, h, e.symm⟩
  · rw [if_neg h] at e; subst e; exact .inr ⟨hy, h⟩
theorem mem_turnK {k : Int} {f : Nde → Nde} {x : Nde} (hx : x ∈ ns) (hk : x.k = k) : f x ∈ turnK k f ns := List.mem_map.mpr ⟨x, hx, by rw [if_pos hk]⟩
theorem foot_turn {k : Int} {f : Nde → Nde} (h1 : ∀ x, (f x).N = x.N) (h2 : ∀ x, (f x).d = x.d) (h3 : ∀ x, (f x).Ls = x.Ls) : foot S dS G (turnK k f ns) = foot S dS G ns := by
  unfold foot
  rw [turnK_map h1, turnK_map h2, turnK_map h3]
theorem kv_turn {k : Int} {f : Nde → Nde} (h1 : ∀ x, (f x).N = x.N) (h4 : ∀ x, (f x).k = x.k) : ((turnK k f ns).map fun n => (n.k, Value.ref n.N)) = ns.map fun n => (n.k, .ref n.N) :=
  turnK_map (g := fun n => (n.k, Value.ref n.N)) fun x => by rw [h1, h4]
theorem Srt.np (Sr : Srt w news S dS G rv po nf ns oth) {n : Nde} (hn : n ∈ ns) {np' : Int} {t1 t2 : Tok} : Srt w (setN n.N (nodeO n.d n.k np' t1 t2 n.Ls) news) S dS G rv po nf (turnK n.k (fun x => { x with np := np' }) ns) oth := by
  obtain ⟨n1, n2, n3, n4⟩ := Sr.N_ne hn
  obtain ⟨t1', t2', hN⟩ := (Sr.nodes n hn).node
  refine ⟨nd_setN Sr.nd, mem_setN_ne Sr.inst n1, ?_, ?_, ?_, ?_, ?_, Sr.ne0, ?_, by rw [turnK, List.length_map]; exact Sr.room, ?_⟩
  · obtain ⟨h1, h2, h3, h4, t1, t2, t3, t4, t5, t6, hm⟩ := Sr.dict
    exact ⟨h1, h2, h3, h4, t1, t2, t3, t4, t5, t6, mem_setN_ne hm n2⟩
  · rw [kv_turn (f := fun x => { x with np := np' }) (fun _ => rfl) fun _ => rfl]; exact Sr.map.sub fun p hp e => mem_setN_ne hp (e ▸ n3)
  · intro x hx
    rcases of_turnK hx with ⟨y, hy, hk, rfl⟩ | ⟨hx, hk⟩
    · have : y = n := key_inj Sr.keys hy hn hk
      subst this
      obtain ⟨vs, c, hL, hi⟩ := (Sr.nodes y hy).list
      exact ⟨⟨_, _, mem_setN_self hN⟩, mem_setN_ne (Sr.nodes y hy).dict (n4 y hy).1, vs, c, mem_setN_ne hL (n4 y hy).2.1, hi⟩
    · exact (Sr.nodes x hx).keep (fun o ho => mem_setN_ne ho ((n4 x hx).2.2 hk)) (fun o ho => mem_setN_ne ho (n4 x hx).1) (fun o ho => mem_setN_ne ho (n4 x hx).2.1)
  · rw [turnK_map (f := fun x => { x with np := np' }) (g := fun x => x.Ls) (fun _ => rfl)]; exact Sr.lists
  · rw [turnK_map (f := fun x => { x with np := np' }) (g := fun x => x.k) (fun _ => rfl)]; exact Sr.keys
  · intro x hx
    rcases of_turnK hx with ⟨y, hy, hk, rfl⟩ | ⟨hx, hk⟩
    · exact Sr.ne1 y hy
    · exact Sr.ne1 x hx
  · intro p hp
    obtain ⟨a, b⟩ := Sr.apart p hp
    rw [foot_turn (f := fun x => { x with np := np' }) (fun _ => rfl) (fun _ => rfl) (fun _ => rfl)]
    exact ⟨mem_setN_ne a fun e => b (e ▸ foot_N hn), b⟩
theorem Srt.push (Sr : Srt w news S dS G rv po nf ns oth) {n : Nde} (hn : n ∈ ns) {vs' : Array Value} {c' : Nat} {succ' : List Int} (hi' : IntsAre vs'.toList succ') : Srt w (setN n.Ls (W.listOf vs' c') news) S dS G rv po nf (turnK n.k (fun x => { x with succ := succ' }) ns) oth := by
  obtain ⟨n1, n2, n3, n4⟩ := Sr.L_ne hn
  refine ⟨nd_setN Sr.nd, mem_setN_ne Sr.inst n1, ?_, ?_, ?_, ?_, ?_, Sr.ne0, ?_, by rw [turnK, List.length_map]; exact Sr.room, ?_⟩
  · obtain ⟨h1, h2, h3, h4, t1, t2, t3, t4, t5, t6, hm⟩ := Sr.dict
    exact ⟨h1, h2, h3, h4, t1, t2, t3, t4, t5, t6, mem_setN_ne hm n2⟩
  · rw [kv_turn (f := fun x => { x with succ := succ' }) (fun _ => rfl) fun _ => rfl]; exact Sr.map.sub fun p hp e => mem_setN_ne hp (e ▸ n3)
  · intro x hx
    rcases of_turnK hx with ⟨y, hy, hk, rfl⟩ | ⟨hx, hk⟩
    · have : y = n := key_inj Sr.keys hy hn hk
      subst this
      obtain ⟨vs, c, hL, hi⟩ := (Sr.nodes y hy).list
      obtain ⟨t1', t2', hN⟩ := (Sr.nodes y hy).node
      exact ⟨⟨_, _, mem_setN_ne hN (n4 y hy).2.1⟩, mem_setN_ne (Sr.nodes y hy).dict (n4 y hy).1, vs', c', mem_setN_self hL, hi'⟩
    · exact (Sr.nodes x hx).keep (fun o ho => mem_setN_ne ho (n4 x hx).2.1) (fun o ho => mem_setN_ne ho (n4 x hx).1) (fun o ho => mem_setN_ne ho ((n4 x hx).2.2 hk))
  · rw [turnK_map (f := fun x => { x with succ := succ' }) (g := fun x => x.Ls) (fun _ => rfl)]; exact Sr.lists
  · rw [turnK_map (f := fun x => { x with succ := succ' }) (g := fun x => x.k) (fun _ => rfl)]; exact Sr.keys
  · intro x hx
    rcases of_turnK hx with ⟨y, hy, hk, rfl⟩ | ⟨hx, hk⟩
    · exact Sr.ne1 y hy
    · exact Sr.ne1 x hx
  · intro p hp
    obtain ⟨a, b⟩ := Sr.apart p hp
    rw [foot_turn (f := fun x => { x with succ := succ' }) (fun _ => rfl) (fun _ => rfl) (fun _ => rfl)]
    exact ⟨mem_setN_ne a fun e => b (e ▸ foot_L hn), b⟩
theorem Srt.attr (Sr : Srt w news S dS G rv po nf ns oth) {rv' : Value} {po' nf' h1 h2 h3 h4 : Int} {t1 t2 t3 t4 t5 t6 : Tok} :
    Srt w (setN dS (srtD G rv' po' nf' h1 h2 h3 h4 t1 t2 t3 t4 t5 t6) news) S dS G rv' po' nf' ns oth := by
  obtain ⟨n1, n3, n4⟩ := Sr.dS_ne
  obtain ⟨_, _, _, _, _, _, _, _, _, _, hD⟩ := Sr.dict
  refine ⟨nd_setN Sr.nd, mem_setN_ne Sr.inst n1, ⟨_, _, _, _, _, _, _, _, _, _, mem_setN_self hD⟩, Sr.map.sub fun p hp e => mem_setN_ne hp (e ▸ n3), ?_, Sr.lists, Sr.keys, Sr.ne0, Sr.ne1, Sr.room, ?_⟩
  · intro x hx
    exact (Sr.nodes x hx).keep (fun o ho => mem_setN_ne ho (n4 x hx).2.1) (fun o ho => mem_setN_ne ho (n4 x hx).1) (fun o ho => mem_setN_ne ho (n4 x hx).2.2)
  · intro p hp
    obtain ⟨a, b⟩ := Sr.apart p hp
    exact ⟨mem_setN_ne a fun e => b (e ▸ foot_dS), b⟩
theorem srt_new {x d l : Addr} {k : Int} {t1 t2 : Tok} {o' : Obj} (Sr : Srt w news S dS G rv po nf ns oth)
    (hl1 : ∀ p ∈ news, p.1 < d) (hdx : @LT.lt Nat _ d x) (hxl : @LT.lt Nat _ x l) (hnk : ∀ n ∈ ns, n.k ≠ k) (hr : ns.length < 100)
    (D' : DG PySem.Challenge.pw_nq0248_01 w (setN G o' ((l, W.listOf #[] 0) :: (x, nodeO d k 0 t1 t2 l) :: (d, dictOf [] 0) :: news)) G (stored (ns.map fun n => (n.k, .ref n.N)) k (.ref x))) :
    Srt w (setN G o' ((l, W.listOf #[] 0) :: (x, nodeO d k 0 t1 t2 l) :: (d, dictOf [] 0) :: news)) S dS G rv po nf (ns ++ [⟨x, d, l, k, 0, []⟩]) oth := by
  have up : ∀ p ∈ news, p.1 ≠ G → p ∈ setN G o' ((l, W.listOf #[] 0) :: (x, nodeO d k 0 t1 t2 l) :: (d, dictOf [] 0) :: news) := fun p hp hn => mem_setN_ne (.tail _ (.tail _ (.tail _ hp))) hn
  obtain ⟨oG, hGm, _⟩ := Sr.map.ex
  have gd : @LT.lt Nat _ G d := hl1 _ hGm
  have fresh : ∀ p ∈ news, @LT.lt Nat _ p.1 d := hl1
  obtain ⟨g1, g2, g3⟩ := Sr.G_ne
  obtain ⟨h1, h2, h3, h4, t1', t2', t3, t4, t5, t6, hmD⟩ := Sr.dict
  rw [stored_new hnk] at D'
  refine ⟨nd_setN (nd_cons (nd_cons (nd_cons Sr.nd (all_ne hl1 (Nat.le_refl _))) ?_) ?_), up _ Sr.inst g1, ?_, by rw [List.map_append]; exact D', ?_, ?_, ?_, Sr.ne0, ?_, by rw [List.length_append]; exact hr, ?_⟩
  · intro p hp
    rcases List.mem_cons.mp hp with rfl | hp
    · exact Nat.ne_of_lt hdx
    · exact Nat.ne_of_lt (Nat.lt_trans (hl1 p hp) hdx)
  · intro p hp
    rcases List.mem_cons.mp hp with rfl | hp
    · exact Nat.ne_of_lt hxl
    rcases List.mem_cons.mp hp with rfl | hp
    · exact Nat.ne_of_lt (Nat.lt_trans hdx hxl)
    · exact Nat.ne_of_lt (Nat.lt_trans (hl1 p hp) (Nat.lt_trans hdx hxl))
  · exact ⟨h1, h2, h3, h4, t1', t2', t3, t4, t5, t6, up _ hmD Sr.ne0⟩
  · intro n hn
    rcases List.mem_append.mp hn with hn | hn
    · exact (Sr.nodes n hn).keep (fun o ho => up _ ho (g3 n hn).2.1) (fun o ho => up _ ho (g3 n hn).1) (fun o ho => up _ ho (g3 n hn).2.2)
    · rw [List.mem_singleton.mp hn]
      refine ⟨⟨t1, t2, mem_setN_ne (.tail _ (.head _)) ?_⟩, mem_setN_ne (.tail _ (.tail _ (.head _))) ?_, ⟨#[], 0, mem_setN_ne (.head _) ?_, .nil⟩⟩
      · exact Nat.ne_of_gt (Nat.lt_trans gd hdx)
      · exact Nat.ne_of_gt gd
      · exact Nat.ne_of_gt (Nat.lt_trans gd (Nat.lt_trans hdx hxl))
  · rw [List.map_append]
    refine List.nodup_append.mpr ⟨Sr.lists, by simp, ?_⟩
    intro a ha b hb e
    obtain ⟨n, hn, rfl⟩ := List.mem_map.mp ha
    obtain ⟨vs, c, hL, _⟩ := (Sr.nodes n hn).list
    have := fresh _ hL
    rw [List.map_singleton] at hb
    have e2 : n.Ls = l := e.trans (List.mem_singleton.mp hb)
    rw [e2] at this
    exact Nat.lt_irrefl _ (Nat.lt_trans this (Nat.lt_trans hdx hxl))
  · rw [List.map_append]
    refine List.nodup_append.mpr ⟨Sr.keys, by simp, ?_⟩
    intro a ha b hb e
    obtain ⟨n, hn, rfl⟩ := List.mem_map.mp ha
    exact hnk n hn (e.trans (List.mem_singleton.mp hb))
  · intro n hn
    rcases List.mem_append.mp hn with hn | hn
    · exact Sr.ne1 n hn
    · rw [List.mem_singleton.mp hn]; exact ⟨Nat.ne_of_gt gd, Nat.ne_of_gt (fresh _ hmD)⟩
  · intro p hp
    obtain ⟨a, b⟩ := Sr.apart p hp
    refine ⟨up _ a fun e => b (e ▸ foot_G), fun hf => ?_⟩
    have lt := fresh _ a
    rcases mem_foot hf with e | e | e | ⟨n, hn, e⟩ | ⟨n, hn, e⟩ | ⟨n, hn, e⟩
    · exact b (e ▸ foot_S)
    · exact b (e ▸ foot_dS)
    · exact b (e ▸ foot_G)
    all_goals rcases List.mem_append.mp hn with hn | hn
    · exact b (e ▸ foot_N hn)
    · rw [List.mem_singleton.mp hn] at e; rw [e] at lt; exact Nat.lt_irrefl _ (Nat.lt_trans lt hdx)
    · exact b (e ▸ foot_d hn)
    · rw [List.mem_singleton.mp hn] at e; rw [e] at lt; exact Nat.lt_irrefl _ lt
    · exact b (e ▸ foot_L hn)
    · rw [List.mem_singleton.mp hn] at e; rw [e] at lt; exact Nat.lt_irrefl _ (Nat.lt_trans lt (Nat.lt_trans hdx hxl))
end
abbrev Gr := List (Int × Int × List Int)
def Nde.pl (n : Nde) : Int × Int × List Int := (n.k, n.np, n.succ)
def plG (ns : List Nde) : Gr := ns.map Nde.pl
def gEnsure (g : Gr) (k : Int) : Gr := if ∃ e ∈ g, e.1 = k then g else g ++ [(k, 0, [])]
def gNp (g : Gr) (k : Int) (f : Int → Int) : Gr := g.map fun e => if e.1 = k then (e.1, f e.2.1, e.2.2) else e
def gPush (g : Gr) (k j : Int) : Gr := g.map fun e => if e.1 = k then (e.1, e.2.1, e.2.2 ++ [j]) else e
def gAdd (g : Gr) (k : Int) (ps : List Int) : Gr := ps.foldl (fun g p => gPush (gEnsure g p) p k) (gNp (gEnsure g k) k (· + ps.length))
theorem pl_np {ns : List Nde} (hk : (ns.map (·.k)).Nodup) {n : Nde} (hn : n ∈ ns) {f : Int → Int} : plG (turnK n.k (fun x => { x with np := f n.np }) ns) = gNp (plG ns) n.k f := by
  unfold plG gNp turnK
  rw [List.map_map, List.map_map]
  refine List.map_congr_left fun x hx => ?_
  show Nde.pl (if x.k = n.k then _ else x) = if x.k = n.k then _ else _
  by_cases h : x.k = n.k
  · rw [if_pos h, if_pos h, key_inj hk hx hn h]; rfl
  · rw [if_neg h, if_neg h]
theorem pl_push {ns : List Nde} (hk : (ns.map (·.k)).Nodup) {n : Nde} (hn : n ∈ ns) {j : Int} : plG (turnK n.k (fun x => { x with succ := n.succ ++ [j] }) ns) = gPush (plG ns) n.k j := by
  unfold plG gPush turnK
  rw [List.map_map, List.map_map]
  refine List.map_congr_left fun x hx => ?_
  show Nde.pl (if x.k = n.k then _ else x) = if x.k = n.k then _ else _
  by_cases h : x.k = n.k
  · rw [if_pos h, if_pos h, key_inj hk hx hn h]; rfl
  · rw [if_neg h, if_neg h]
end
section
open PySem PySem.W PyProof.Rows PySem.Calls PySem.Spec PyProof.Rows.LCg
set_option maxRecDepth 100000
set_option maxHeartbeats 1000000
theorem meets_bool_list (l : Addr) (items : Array Value) (hfit : (items.size : Int) < 2 ^ 63) :
    Meets (Builtin.«bool.__new__» ⟨[.type "bool", .ref l], []⟩) (fun _ R s => s.heap.IsList l items ∧ R (.ok (.ret (.bool (!items.isEmpty)))) { s with toks := s.toks + 1 + 1 }) :=
  Meets.of_wp fun prog w A R s hs => by
    (with_reducible refine (?_ : let G9 : Prop := _; G9)); intro G9
    obtain ⟨hp, g, d, tk, os⟩ := s
    obtain ⟨hl, hs⟩ := hs
    k_unfold; clear G9
    have f1 := F.conv_sub_bool
    repeat (any_goals (first | assumption | (with_reducible refine wpAny_truthy_list hl hfit ?_) | wp_step))
    all_goals first | exact ⟨_, rfl, hs⟩ | exact hs | skip
section
variable {prog : Program} {w : World} {A : Around} {E : Value → Shared → Prop} {s : Shared}
theorem call_bool_list {l : Addr} {items : Array Value} {Q : Value → Shared → Prop} (hl : s.heap.IsList l items) (hfit : (items.size : Int) < 2 ^ 63) (h : Q (.bool (!items.isEmpty)) { s with toks := s.toks + 1 + 1 }) :
    wpAny (model prog w) A (call (.type "bool") [.ref l]) Q E s :=
  call_bool_1 (meets_bool_list l items hfit) (show _ ∧ wants (fun obj s₁ => s₁.TypeIs obj "bool" ∧ Q obj s₁) E _ _ from ⟨hl, rfl, h⟩)
end
section
variable {prog : Program} {w : World} {A : Around} {E : Value → Shared → Prop} {s : Shared} {env : Env} {h₀ : Heap} {R : Result → Shared → Prop} {target : Expr} {body orelse : List Stmt} {m : Str → Option Value} {news : List (Addr × Obj)}
theorem forJ_rangeM {x : Str} {px : Pos} {r : Addr} {a b : Int} {t u v : Tok} {n : Nat} (hh : A.handled = none) (F : Fr h₀ env.locals s.heap m) (N : News h₀ env.locals s.heap news)
    (hr : IsRange s.heap r a b 1 t u v) (hsm : Builtin.Range.small a b 1 = true) (hn : Builtin.Range.rangeSize a b 1 = ((n : Nat) : Int))
    (J : (Str → Option Value) → Nat → (Str → Option Value) → List (Addr × Obj) → Prop) (h0 : J m 0 m news)
    (step : ∀ i ti m₁ news₁ I oI h₁ tk₁, i < n → J m i m₁ news₁ → (∀ p ∈ news₁, p.1 ≠ I) → Fr h₀ env.locals h₁ m₁ → News h₀ env.locals h₁ ((I, oI) :: news₁) →
      wpAny (model prog w) A (assign (.Name x px) env (.int (a + (i : Int)) ti)) (fun _ s₂ => wpAny (model prog w) A (execs body env) (fun f s₃ => match f with
          | .next | .cont => ∃ h' tk m' news', s₃ = { s with heap := h', toks := tk } ∧ Fr h₀ env.locals h' m' ∧ News h₀ env.locals h' ((I, oI) :: news') ∧ (∀ p ∈ news', p.1 ≠ I) ∧ J m (i + 1) m' news'
          | .brk => R (.ok .next) s₃
          | .ret v => R (.ok (.ret v)) s₃) (notedBy (model prog w) A env fun e s' => R (.error e) s') s₂) (notedBy (model prog w) A env fun e s' => R (.error e) s') { s with heap := h₁, toks := tk₁ })
    (hR : ∀ h' tk m' news', Fr h₀ env.locals h' m' → News h₀ env.locals h' news' → J m n m' news' →
      wpAny (model prog w) A (execs orelse env) (fun f s₃ => R (.ok f) s₃) (notedBy (model prog w) A env fun e s' => R (.error e) s') { s with heap := h', toks := tk }) :
    wpAny (model prog w) A (pyIter (.ref r)) (fun it s₂ => codeAny (model prog w) A (.forLoop (.Name x px) it body orelse env) R s₂) E s :=
  forJ_range hh F N hr hsm hn (J m) h0 step hR
theorem forJ_listM {ax : Addr} {its : Array Value} (hh : A.handled = none) (F : Fr h₀ env.locals s.heap m) (N : News h₀ env.locals s.heap news) (hS : SrcAt h₀ ax its news)
    (J : (Str → Option Value) → Nat → (Str → Option Value) → List (Addr × Obj) → Prop) (hJS : ∀ i m' nw, J m i m' nw → SrcAt h₀ ax its nw) (h0 : J m 0 m news)
    (step : ∀ i v m₁ news₁ I oI h₁ tk₁, i < its.size → its[i]? = some v → J m i m₁ news₁ → (∀ p ∈ news₁, p.1 ≠ I) → Fr h₀ env.locals h₁ m₁ → News h₀ env.locals h₁ ((I, oI) :: news₁) →
      wpAny (model prog w) A (assign target env v) (fun _ s₂ => wpAny (model prog w) A (execs body env) (fun f s₃ => match f with
          | .next | .cont => ∃ h' tk m' news', s₃ = { s with heap := h', toks := tk } ∧ Fr h₀ env.locals h' m' ∧ News h₀ env.locals h' ((I, oI) :: news') ∧ (∀ p ∈ news', p.1 ≠ I) ∧ J m (i + 1) m' news'
          | .brk => R (.ok .next) s₃
          | .ret v => R (.ok (.ret v)) s₃) (notedBy (model prog w) A env fun e s' => R (.error e) s') s₂) (notedBy (model prog w) A env fun e s' => R (.error e) s') { s with heap := h₁, toks := tk₁ })
    (hR : ∀ h' tk m' news', Fr h₀ env.locals h' m' → News h₀ env.locals h' news' → J m its.size m' news' →
      wpAny (model prog w) A (execs orelse env) (fun f s₃ => R (.ok f) s₃) (notedBy (model prog w) A env fun e s' => R (.error e) s') { s with heap := h', toks := tk }) :
    wpAny (model prog w) A (pyIter (.ref ax)) (fun it s₂ => codeAny (model prog w) A (.forLoop target it body orelse env) R s₂) E s :=
  forJ_list hh F N hS (J m) hJS h0 step hR
theorem forJ_tupM {x : Str} {px : Pos} {ax : Addr} {its : Array Value} (hh : A.handled = none) (F : Fr h₀ env.locals s.heap m) (N : News h₀ env.locals s.heap news) (hS : TupAt ax its news)
    (J : (Str → Option Value) → Nat → (Str → Option Value) → List (Addr × Obj) → Prop) (hJS : ∀ i m' nw, J m i m' nw → TupAt ax its nw) (h0 : J m 0 m news)
    (step : ∀ i v m₁ news₁ I oI h₁ tk₁, i < its.size → its[i]? = some v → J m i m₁ news₁ → (∀ p ∈ news₁, p.1 ≠ I) → Fr h₀ env.locals h₁ m₁ → News h₀ env.locals h₁ ((I, oI) :: news₁) →
      wpAny (model prog w) A (assign (.Name x px) env v) (fun _ s₂ => wpAny (model prog w) A (execs body env) (fun f s₃ => match f with
          | .next | .cont => ∃ h' tk m' news', s₃ = { s with heap := h', toks := tk } ∧ Fr h₀ env.locals h' m' ∧ News h₀ env.locals h' ((I, oI) :: news') ∧ (∀ p ∈ news', p.1 ≠ I) ∧ J m (i + 1) m' news'
          | .brk => R (.ok .next) s₃
          | .ret v => R (.ok (.ret v)) s₃) (notedBy (model prog w) A env fun e s' => R (.error e) s') s₂) (notedBy (model prog w) A env fun e s' => R (.error e) s') { s with heap := h₁, toks := tk₁ })
    (hR : ∀ h' tk m' news', Fr h₀ env.locals h' m' → News h₀ env.locals h' news' → J m its.size m' news' →
      wpAny (model prog w) A (execs orelse env) (fun f s₃ => R (.ok f) s₃) (notedBy (model prog w) A env fun e s' => R (.error e) s') { s with heap := h', toks := tk }) :
    wpAny (model prog w) A (pyIter (.ref ax)) (fun it s₂ => codeAny (model prog w) A (.forLoop (.Name x px) it body orelse env) R s₂) E s :=
  forJ_tup hh F N hS (J m) hJS h0 step hR
end
end
section
open PySem PySem.W PyProof.Rows PySem.Calls PySem.Spec PyProof.Rows.LCg
set_option maxRecDepth 100000
set_option maxHeartbeats 1000000
theorem memX {env : Env} {outer : List Env} {L b : Addr} (hf : env.frame = some L) (hm : b ∈ (env :: outer).filterMap (·.frame)) : b = L ∨ b ∈ outer.filterMap (·.frame) := by
  rw [List.filterMap_cons, hf] at hm
  exact List.mem_cons.mp hm
section
variable {prog : Program} {w : World} {A₀ A : Around} {s : Shared} {base h₀ g₀ : Heap} {outer : List Env} {env : Env} {L : Addr} {m : Str → Option Value} {news : List (Addr × Obj)} {K : Frag} {p : Program} {loose : List Str} {mean : ExcName → Option Value} {mg mb : Str → Option Value}
    {R : Result → Shared → Prop}
theorem groundS (B : Below A₀ base outer h₀) (F : Fr h₀ L s.heap m) (N : News h₀ L s.heap news) (XB : K.In base) (TB : Top p loose mean mg mb base) (D : KtsDicts (outer.filterMap (·.frame)) h₀)
    (T0 : KtsTurn (outer.filterMap (·.frame)) g₀ h₀) (hA : A.frames = some (env :: outer)) (hf : env.frame = some L) (hke : env.scope.kind = .function) :
    Fr h₀ L (hideAll s.heap (news.map (·.1))) m ∧ Below A base (env :: outer) (hideAll s.heap (news.map (·.1))) ∧ h₀.StaysIn (hideAll s.heap (news.map (·.1))) ∧ KtsDicts ((env :: outer).filterMap (·.frame)) (hideAll s.heap (news.map (·.1))) ∧
      ∀ v s', LeaveS ((env :: outer).filterMap (·.frame)) A₀ base outer K p loose mean mg mb g₀ h₀ L m (hideAll s.heap (news.map (·.1))) R v s' → R (.ok (.ret v)) s' := by
  obtain ⟨FG, BG, st, _⟩ := groundX (R := R) B F N hA hf hke
  obtain ⟨oL, es, ep, hLg, hLd, hLk, hLf⟩ := id FG.ns
  have nL₀ : h₀.get? L = none := kts_self F
  refine ⟨FG, BG, st, fun b hb => ?_, fun v s' hl => ?_⟩
  · rcases memX hf hb with rfl | hb
    · exact ⟨oL, es, ep, hLg, hLd⟩
    · obtain ⟨o, es', n', ho', hd'⟩ := D b hb
      exact ⟨o, es', n', st b o ho', hd'⟩
  · rcases hl with ⟨L', m', news', F', N', k⟩ | ⟨g', L', m', news', T', F', N', k⟩
    · refine k ⟨⟨oL, es, ep, F'.keep _ _ hLg, hLd, hLk, hLf⟩, fun b o e => F'.keep b o (st b o e), F.above⟩ fun p hp => ⟨(N' p hp).1, fun q => ?_, ?_⟩
      · have := (N' p hp).2.2; rw [q, hLg] at this; cases this
      · cases q : h₀.get? p.1 with
        | none => rfl
        | some o => have := (N' p hp).2.2; rw [st _ _ q] at this; cases this
    obtain ⟨sl, hs⟩ := T'.up hLg
    obtain ⟨T₁, S₁⟩ := kts_turn_at (h := s'.heap) (fs := outer.filterMap (·.frame)) (g := h₀)
      (fun b hb => by
        obtain ⟨_, o, ho', _⟩ := B.frames.mem hb
        exact ⟨o, ho'⟩)
      (fun b o e nmem => F'.keep b o (T'.other b o (st b o e) (fun q => by
        rcases memX hf q with z | z
        · rw [z, nL₀] at e
          cases e
        · exact nmem z)))
      (fun b o e hm => by
        obtain ⟨sl', hs'⟩ := T'.up (st b o e)
        exact ⟨sl', F'.keep _ _ hs'⟩)
    have B₃ : Below A₀ base outer (ktsHeap s'.heap (outer.filterMap (·.frame)) h₀) := ⟨B.stack, fun b o e => T₁.other b o (B.stays b o e) (fun hm => by
      rw [(B.frames.mem hm).1] at e
      cases e), B.frames.of_keeps fun b o e _ => by
      obtain ⟨sl', hs'⟩ := T₁.up e
      exact ⟨_, hs', rfl⟩⟩
    refine k _ (T0.trans T₁) ⟨⟨_, es, ep, F'.keep _ _ hs, hLd, hLk, hLf⟩, S₁, by rw [T₁.size]; exact F.above⟩ (fun p hp => ⟨(N' p hp).1, fun q => ?_, ?_⟩) B₃ (XB.keeps B₃.stays) (TB.keeps B₃.stays) (D.turn T₁)
    · have := (N' p hp).2.2; rw [q, hs] at this; cases this
    · refine T₁.none_ _ ?_
      cases q : h₀.get? p.1 with
      | none => rfl
      | some o =>
        obtain ⟨sl', hs'⟩ := T'.up (st _ _ q)
        have := (N' p hp).2.2
        rw [hs'] at this
        cases this
variable {name qual : Str} {params : Arguments} {body : List Stmt} {scope : Scope} {dV kV doc pm cdv ct oc : Value} {an od : Option Addr} {osl : Array (Option Value)} {f : Addr} {args : Args} {binds : List (Str × Value)}
theorem code_S (B : Below A₀ base outer h₀) (F : Fr h₀ L s.heap m) (X₀ : K.In h₀) (N : News h₀ L s.heap news) (T : Top p loose mean mg mb h₀) (XB : K.In base) (TB : Top p loose mean mg mb base) (D : KtsDicts (outer.filterMap (·.frame)) h₀)
    (T0 : KtsTurn (outer.filterMap (·.frame)) g₀ h₀) (hA : A.frames = some (env :: outer)) (hf : env.frame = some L) (hke : env.scope.kind = .function)
    (ho : K.lookup f = some ⟨oc, od, .func (fnOf name qual params body scope dV kV doc pm an cdv ct), osl⟩) (hcd : codeIn K cdv qual = true) (hroom : A.depth < recursionLimit)
    (hbind : BindsTo s (fnOf name qual params body scope dV kV doc pm an cdv ct) args binds) (hloc : ∀ y ∈ binds, scope.names.lookup y.1 = some .local)
    (h : ∀ g L' h₁, Fr h₀ L g m → Fr g L' h₁ (fun y => binds.reverse.lookup y) → News g L' h₁ news → Below A base (env :: outer) g → K.In g → Top p loose mean mg mb g → KtsDicts ((env :: outer).filterMap (·.frame)) g →
      wpAny (model prog w) (A.deeper (envOf qual scope L' f cdv)) (execs body (envOf qual scope L' f cdv))
        (fun fl s' => LeaveS ((env :: outer).filterMap (·.frame)) A₀ base outer K p loose mean mg mb g₀ h₀ L m g R (match fl with | .ret v => v | _ => .none) s')
        (fun e s' => wpAny (model prog w) (A.deeper (envOf qual scope L' f cdv)) (leaving (envOf qual scope L' f cdv) e) (fun _ s'' => R (.error e) s'') (fun e' s'' => R (.error e') s'') s')
        { s with heap := h₁, toks := s.toks + binds.length })
    (hco : scope.isCoroutine = false) (hgen : scope.isGenerator = false) (hk : scope.kind = .function)
    (hcell : ∀ x ∈ scope.names, x.2 ≠ .cell) : codeAny (model prog w) A (.call (.ref f) args) R s := by
  have X := X₀.keeps F.keep
  (with_reducible refine (?_ : let G9 : Prop := _; G9)); intro G9
  obtain ⟨FG, BG, st, DG, lv⟩ := groundS (R := R) B F N XB TB D T0 hA hf hke
  k_unfold; clear G9
  refine codeAny_call_def (fd := fnOf name qual params body scope dV kV doc pm an cdv ct) (body := body) (binds := binds) hroom (X _ _ ho) rfl (T.nolimit.keeps F.keep) (codeRec_of X hcd) rfl hbind hcell hloc (fun h₁ hns hk₁ => ?_) hco hgen hk
  exact wpAny_mono (h _ s.heap.objs.size h₁ FG ⟨hns, fun b o e => hk₁ b o (of_hideAll _ e), Nat.le_of_eq (hideAll_size _ _)⟩
    (fun p hp => ⟨hk₁ _ _ (N p hp).1, Nat.ne_of_lt (Heap.lt_size (N p hp).1), hideAll_none _ (List.mem_map_of_mem hp)⟩) BG (X₀.keeps st) (T.keeps st) DG) (fun fl s' hl => lv _ _ hl) fun _ _ y => y
theorem code_SC (B : Below A₀ base outer h₀) (F : Fr h₀ L s.heap m) (X₀ : K.In h₀) (N : News h₀ L s.heap news) (T : Top p loose mean mg mb h₀) (XB : K.In base) (TB : Top p loose mean mg mb base) (D : KtsDicts (outer.filterMap (·.frame)) h₀)
    (T0 : KtsTurn (outer.filterMap (·.frame)) g₀ h₀) (hA : A.frames = some (env :: outer)) (hf : env.frame = some L) (hke : env.scope.kind = .function)
    (ho : K.lookup f = some ⟨oc, od, .func (fnOf name qual params body scope dV kV doc pm an cdv ct), osl⟩) (hcd : codeIn K cdv qual = true) (hroom : A.depth < recursionLimit)
    (hbind : BindsTo s (fnOf name qual params body scope dV kV doc pm an cdv ct) args binds) (hkind : (binds.all fun y => scope.names.lookup y.1 == some .local || scope.names.lookup y.1 == some .cell) = true)
    (hnd : ((cellsFrom 0 scope.names []).map (·.1)).Nodup)
    (h : ∀ g L' h₁ tk cells, Fr h₀ L g m → Fr g L' h₁ (bindL (envOfC qual scope L' f cdv).kindOf binds fun _ => none) → News g L' h₁ (cells ++ news) →
      CellsAre (bindC (envOfC qual scope L' f cdv).kindOf binds fun _ => none) (cellsFrom (L' + 1) scope.names []) cells → Below A base (env :: outer) g → K.In g → Top p loose mean mg mb g → KtsDicts ((env :: outer).filterMap (·.frame)) g → (∀ p ∈ news, p.1 < L') →
      wpAny (model prog w) (A.deeper (envOfC qual scope L' f cdv)) (execs body (envOfC qual scope L' f cdv))
        (fun fl s' => LeaveS ((env :: outer).filterMap (·.frame)) A₀ base outer K p loose mean mg mb g₀ h₀ L m g R (match fl with | .ret v => v | _ => .none) s')
        (fun e s' => wpAny (model prog w) (A.deeper (envOfC qual scope L' f cdv)) (leaving (envOfC qual scope L' f cdv) e) (fun _ s'' => R (.error e) s'') (fun e' s'' => R (.error e') s'') s')
        { s with heap := h₁, toks := tk })
    (hco : scope.isCoroutine = false) (hgen : scope.isGenerator = false) (hk : scope.kind = .function) : codeAny (model prog w) A (.call (.ref f) args) R s := by
  have X := X₀.keeps F.keep
  (with_reducible refine (?_ : let G9 : Prop := _; G9)); intro G9
  obtain ⟨FG, BG, st, DG, lv⟩ := groundS (R := R) B F N XB TB D T0 hA hf hke
  k_unfold; clear G9
  refine codeAny_call_function (fd := fnOf name qual params body scope dV kV doc pm an cdv ct) (body := body) hroom (X _ _ ho) rfl hco hgen rfl (codeRec_of X hcd) (hbind _ _ _ _ ?_)
  refine wpAny_newFunctionEnv_cells hk (kindsX hkind _) fun env' he s' x => ?_
  subst he
  refine ⟨(T.nolimit.keeps F.keep).keeps x.toInCall.keep, codeAny_func ?_⟩
  (with_reducible refine (?_ : let G9 : Prop := _; G9)); intro G9
  obtain ⟨h₁, tk, rfl, _⟩ := x.done
  k_unfold; clear G9
  have hk₁ := x.toInCall.keep
  (with_reducible refine (?_ : let G9 : Prop := _; G9)); intro G9
  obtain ⟨cells, NC, Y⟩ := Cl.news (h₀ := s.heap) (Nat.le_refl _) fun n c hm => ⟨x.cell n c (lookup_of_mem_nodup (cellsFrom_names scope.names 0 (s.heap.objs.size + 1) [] [] rfl ▸ hnd) hm), x.above n c hm⟩
  k_unfold; clear G9
  refine wpAny_mono (h _ s.heap.objs.size h₁ tk cells FG ⟨x.toInCall.ns, fun b o e => hk₁ b o (of_hideAll _ e), Nat.le_of_eq (hideAll_size _ _)⟩ (fun p hp => ?_) Y BG (X₀.keeps st) (T.keeps st) DG (fun p hp => Heap.lt_size (N p hp).1)) (fun fl s' hl => lv _ _ hl) fun _ _ y => y
  rcases List.mem_append.mp hp with hp | hp
  · refine ⟨(NC p hp).1, (NC p hp).2.1, ?_⟩
    cases q : (hideAll s.heap (news.map (·.1))).get? p.1 with
    | none => rfl
    | some o => have := of_hideAll _ q; rw [(NC p hp).2.2] at this; cases this
  · exact ⟨hk₁ _ _ (N p hp).1, Nat.ne_of_lt (Heap.lt_size (N p hp).1), hideAll_none _ (List.mem_map_of_mem hp)⟩
end
section
variable {M : Model} {A A' : Around} {E E' : Value → Shared → Prop} {s' : Shared} {base g h : Heap} {outer : List Env} {env : Env} {L e : Addr} {m : Str → Option Value} {Q : Unit → Shared → Prop} {news : List (Addr × Obj)}
theorem note_first {cls : String} (K : Below A base outer g) (hx : Heap.NewExcOf h s'.heap e cls) (F : Fr g L h m) (N : News g L h news) (hf : env.frame = some L) (hke : env.scope.kind = .function) (hfr : A'.frames = some (env :: outer))
    (hQ : ∀ h' B a0, base.StaysIn B → (∀ b o, h.get? b = some o → b ∉ (env :: outer).filterMap (·.frame) → B.get? b = some o) → (∀ q ∈ news, B.get? q.1 = some q.2 ∧ g.get? q.1 = none ∧ base.get? q.1 = none) →
      Heap.HeldW B (env :: outer) e (.type cls) a0 L h' → h.UpToSlots h' → Q () { s' with heap := h' }) :
    wpAny M A' (noteFrame (.ref e) env) Q E s' := by
  have K' := pushX (env := env) K F hf hke
  have hin : ∀ env' ∈ (env :: outer), ∀ b, env'.frame = some b → b ∈ (env :: outer).filterMap (·.frame) := fun env' he b hb => List.mem_filterMap.mpr ⟨env', he, hb⟩
  have st : base.StaysIn (hideAll h ((env :: outer).filterMap (·.frame))) := fun b o q => hideAll_get _ (K'.stays b o q) fun hm => by
    rw [(K'.frames.mem hm).1] at q; cases q
  have hl : ∀ q ∈ news, (hideAll h ((env :: outer).filterMap (·.frame))).get? q.1 = some q.2 ∧ g.get? q.1 = none ∧ base.get? q.1 = none := fun q hq => by
    refine ⟨hideAll_get _ (N q hq).1 fun hm => ?_, (N q hq).2.2, fresh_of_stays K.stays (N q hq).2.2⟩
    rcases memX hf hm with z | z
    · exact (N q hq).2.1 z
    · (with_reducible refine (?_ : let G9 : Prop := _; G9)); intro G9
      obtain ⟨o, ho, _⟩ := (K.frames.mem z).2
      k_unfold; clear G9
      rw [(N q hq).2.2] at ho; cases ho
  (with_reducible refine (?_ : let G9 : Prop := _; G9)); intro G9
  obtain ⟨ob, vs, he, hcls, hd, hv1⟩ := hx.there
  k_unfold; clear G9
  have hsz := (Array.getElem?_eq_some_iff.mp hv1).1
  (with_reducible refine (?_ : let G9 : Prop := _; G9)); intro G9
  obtain ⟨tp, hv0⟩ : ∃ tp, vs[0]? = some tp := ⟨vs[0]'(by omega), Array.getElem?_eq_getElem (by omega)⟩
  k_unfold; clear G9
  have hen : (hideAll h ((env :: outer).filterMap (·.frame))).get? e = none := by
    cases q : (hideAll h ((env :: outer).filterMap (·.frame))).get? e with
    | none => rfl
    | some o => have := of_hideAll _ q; rw [hx.new] at this; cases this
  unfold noteFrame
  simp only [hf]
  refine wpAny_bind (wpAny_field he hd hv1 ?_)
  rw [if_neg (by decide)]
  refine wpAny_entryW (a0 := tp) (base := hideAll h ((env :: outer).filterMap (·.frame))) hfr ((funFrames_hide K'.frames hin).of_keeps fun b o hb _ => ⟨o, hx.keeps b o hb, rfl⟩) hf he (fun b o hb => hx.keeps b o (of_hideAll _ hb)) hen hd hsz hv0 fun h' hN => ?_
  (with_reducible refine (?_ : let G9 : Prop := _; G9)); intro G9
  obtain ⟨k1, k2, k3, k4⟩ := hN
  k_unfold; clear G9
  exact hQ h' _ tp st (fun b o q nm => hideAll_get _ q nm) hl ⟨k1, hen, k2, by rw [← hcls]; exact k3⟩ ((Heap.UpToSlots.of_keeps hx.keeps).trans k4)
theorem setFlight_held {B : Heap} {l : List Env} {cls a0 : Value} {s : Shared} (hh : Heap.HeldW B l e cls a0 L s.heap) (h : ∀ h', Heap.HeldW B l e cls a0 L h' → s.heap.UpToSlots h' → Q () { s with heap := h' }) :
    wpAny M A (setFlight (.ref e) (some L)) Q E s := by
  (with_reducible refine (?_ : let G9 : Prop := _; G9)); intro G9
  obtain ⟨hkb, hen, hl, ht⟩ := hh
  obtain ⟨oe, vs, T, oT, ts, he, hcls, hd, h1, hnT, hTe, hT, hdT, h3⟩ := ht
  k_unfold; clear G9
  have hsz3 : 3 < ts.size := (Array.getElem?_eq_some_iff.mp h3).1
  have other : ∀ b, b ≠ T → (s.heap.update T (Obj.mapFields (·.setIfInBounds 3 ((some L : Option Addr).elim Value.none fun f => rawInt f)))).get? b = s.heap.get? b :=
    fun b hb => Heap.get?_update_other _ _ (Ne.symm hb)
  have noRecord : ∀ b o, s.heap.get? b = some o → (∀ vs, o.data ≠ .fields vs) → b ≠ T := fun b o hb hnf q => by
    rw [q, hT] at hb; injection hb with hb; subst hb; exact hnf ts hdT
  unfold setFlight
  refine wpAny_bind (wpAny_field he hd h1 ?_)
  rw [if_pos (show (Value.ref T != Value.none) = true from by simp)]
  refine wpAny_setField hT hdT hsz3 (h _ ⟨fun b o hbo => (other b fun q => by rw [q, hnT] at hbo; cases hbo).trans (hkb b o hbo), hen,
    hl.of_keeps fun b o hb hnf => ⟨o, (other b (noRecord b o hb hnf)).trans hb, rfl⟩, ?_⟩ fun b o hb hnf => ⟨o.slots, (other b (noRecord b o hb hnf)).trans hb⟩)
  exact ⟨oe, vs, T, _, _, (other e (Ne.symm hTe)).trans he, hcls, hd, h1, hnT, hTe, Heap.get?_update_self _ hT (Obj.isFreed_of_fields (Obj.data_mapFields hdT _)), Obj.data_mapFields hdT _, by simp [hsz3]⟩
theorem cameBack_held {B : Heap} {l : List Env} {cls a0 : Value} {s : Shared} (hf : env.frame = some L) (hh : Heap.HeldW B l e cls a0 L s.heap) (h : ∀ h', Heap.HeldW B l e cls a0 L h' → s.heap.UpToSlots h' → E (.ref e) { s with heap := h' }) :
    cameBackBy M A env E (.ref e) s := by
  (with_reducible refine (?_ : let G9 : Prop := _; G9)); intro G9
  obtain ⟨oe, vs, T, oT, ts, he, hcls, hd, h1, hnT, hTe, hT, hdT, h3⟩ := id hh.2.2.2
  k_unfold; clear G9
  unfold cameBackBy
  refine wpAny_bind (wpAny_field he hd h1 ?_)
  rw [if_neg (show ¬ ((Value.ref T == Value.none) = true) from by simp), hf]
  first
    | exact setFlight_held hh h
    | exact wpAny_bind (wpAny_pure (setFlight_held hh h))
theorem leave_noted {cls : String} {Q' : Value → Unit → Shared → Prop} {E2 : Value → Value → Shared → Prop} (K : Below A base outer g) (hx : Heap.NewExc h s'.heap e cls) (F : Fr g L h m) (N : News g L h news) (hf : env.frame = some L) (hke : env.scope.kind = .function) (hfr : A'.frames = some (env :: outer))
    (hQ : ∀ h', RaisedSN base g outer e (.type cls) news h' → g.UpToSlots h' → Q' (.ref e) () { s' with heap := h' }) :
    wpAny M A' (noteFrame (.ref e) env) (fun _ s₂ => cameBackBy M A' env (fun x s₃ => wpAny M A' (leaving env x) (Q' x) (E2 x) s₃) (.ref e) s₂) E' s' := by
  refine note_first K hx.of F N hf hke hfr fun h' B a0 hB hBG hl hh hsm => ?_
  refine cameBack_held hf hh fun h₂ hh₂ hs₂ => ?_
  unfold leaving
  refine wpAny_bind (wpAny_noteFrame_againW hf hh₂.2.2.2 ?_)
  refine wpAny_landsW hh₂ fun h'' hfl hs3 => ?_
  (with_reducible refine (?_ : let G9 : Prop := _; G9)); intro G9
  obtain ⟨k1, k2, ⟨_, _, k3⟩, k4⟩ := hfl
  k_unfold; clear G9
  refine hQ h'' ⟨B, a0, hB, fun b o q nm => hBG b o (F.keep b o q) fun hm => ?_, hl, k1, k2, k3, k4⟩ ((((Heap.UpToSlots.of_keeps F.keep).trans hsm).trans hs₂).trans hs3)
  rcases memX hf hm with z | z
  · rw [z, kts_self F] at q; cases q
  · exact nm z
end
section
variable {prog : Program} {w : World} {A₀ : Around} {E : Value → Shared → Prop} {s' : Shared} {base g g₀ h : Heap} {outer : List Env} {L a e : Addr} {m : Str → Option Value} {name : Str} {scope : Scope} {cd : Value}
  {b₀ : Stmt} {suite : List Stmt} {pos np : Pos} {rest : List ExceptHandler} {Q : Flow → Shared → Prop} {news : List (Addr × Obj)} {KF : Frag}
  {p : Program} {loose : List Str} {mean : ExcName → Option Value} {mg mb : Str → Option Value} {x : Str} {X T' : String}
theorem caught_here (hx0 : Heap.NewExcOf h s'.heap e X) (F : Fr g L h m) (N : News g L h news) (K : Below A₀ base outer g) (XB : KF.In base) (TB : Top p loose mean mg mb base)
    (D : KtsDicts (outer.filterMap (·.frame)) g) (T0 : KtsTurn (outer.filterMap (·.frame)) g₀ g)
    (ex : nsIn KF mainGlobals x = some none) (hv : bootBuiltins x = some (.type T')) (hn' : x ≠ "__name__")
    (hexc : isSubtype (.type T') (.type "BaseException") = pure true) (hnt : isSubtype (.type ((Manifest.find? T').elim "type" fun y => y.metatype)) (.type "tuple") = pure false) (hsub : isSubtype (.type X) (.type T') = pure true)
    (k : ∀ h' g', KtsTurn (outer.filterMap (·.frame)) g₀ g' → Fr g' L h' m → News g' L h' news → Below A₀ base outer g' → KF.In g' → Top p loose mean mg mb g' → KtsDicts (outer.filterMap (·.frame)) g' →
      wpAny (model prog w) ((A₀.deeper (envOf name scope L a cd)).mark (some (.ref e))) (execs (b₀ :: suite) (envOf name scope L a cd)) Q E { s' with heap := h' })
    (hk : scope.kind = .function := by rfl) (hx : (envOf name scope L a cd).kindOf x = some .globalImplicit := by rfl) (hd : (x == ("__debug__" : Str)) = false := by decide)
    (hE : PassesOwnAt (model prog w) ((A₀.deeper (envOf name scope L a cd)).mark (some (.ref e))) (A₀.deeper (envOf name scope L a cd)) (envOf name scope L a cd) E := by passes_own) :
    wpAny (model prog w) (A₀.deeper (envOf name scope L a cd)) (noteFrame (.ref e) (envOf name scope L a cd))
      (fun _ s₂ => wpAny (model prog w) (A₀.deeper (envOf name scope L a cd)) (setFlight (.ref e) none) (fun _ s₃ =>
        wpAny (model prog w) (A₀.deeper (envOf name scope L a cd)) (handleBy (.ref e) (envOf name scope L a cd) (.ExceptHandler (some (.Name x np)) none (b₀ :: suite) pos :: rest)) Q E s₃) E s₂) E s' := by
  refine note_first (env := envOf name scope L a cd) K hx0 F N rfl hk (Around.frames_deeper K.stack) fun h₄ B a0 hB hBG hl hheld₄ hsm₄ => ?_
  have hL : B.get? L = none := by
    (with_reducible refine (?_ : let G9 : Prop := _; G9)); intro G9
    obtain ⟨_, ⟨L', _, hf, hn', _⟩, _⟩ := hheld₄.2.2.1
    k_unfold; clear G9
    obtain rfl : L = L' := Option.some.inj hf
    exact hn'
  refine wpAny_landsW hheld₄ fun h₅ hheld hsm₅' => ?_
  have hsm₅ := hsm₄.trans hsm₅'
  (with_reducible refine (?_ : let G9 : Prop := _; G9)); intro G9
  obtain ⟨g₅, T₅, F₅, K₅⟩ := kts_ground K F hBG hheld.1 hsm₅
  k_unfold; clear G9
  have X₅ : KF.In g₅ := XB.keeps K₅.stays
  have P₅ : TopRead p loose mg mb g₅ := topRead_of (TB.keeps K₅.stays)
  (with_reducible refine (?_ : let G9 : Prop := _; G9)); intro G9
  obtain ⟨ob, hob, hobc⟩ := hheld.there
  k_unfold; clear G9
  refine wpAny_handleBy_builtin (X := X) (T := T') (b := true) hexc hnt hsub (name_B F₅ X₅ P₅ ex hv hn' ⟨rfl, ⟨ob, hob, hobc⟩, ?_⟩ hk hx hd)
  refine lands_againW hheld fun h₆ hfl₆ hsm₆ => ?_
  (with_reducible refine (?_ : let G9 : Prop := _; G9)); intro G9
  obtain ⟨g₆, T₆, F₆, K₆⟩ := kts_ground K F hBG hfl₆.1 (hsm₅.trans hsm₆)
  k_unfold; clear G9
  have Nl : News g₆ L h₆ news := fun q hq => ⟨hfl₆.1 _ _ (hl q hq).1, (fun z => by have := (hl q hq).1; rw [z, hL] at this; cases this), T₆.none_ _ (hl q hq).2.1⟩
  have X₆ : KF.In g₆ := XB.keeps K₆.stays
  have P₆ : Top p loose mean mg mb g₆ := TB.keeps K₆.stays
  have D₆ : KtsDicts (outer.filterMap (·.frame)) g₆ := D.turn T₆
  exact wpAny_passesOwnAt hE (k h₆ g₆ (T0.trans T₆) F₆ Nl K₆ X₆ P₆ D₆)
end
end
section
open PySem PySem.W PyProof.Rows PySem.Calls PySem.Spec PyProof.Rows.LCg
set_option maxRecDepth 100000
set_option maxHeartbeats 1000000
abbrev itO (l : Addr) (j : Nat) : Obj := { cls := .type "list_iterator", data := .fields #[.ref l, .int j 0] }
abbrev wrO (it : Addr) : Obj := { cls := .type "method-wrapper", data := .fields #[.builtin "list_iterator.__next__", .ref it] }
theorem entry_oga : entryFor table "object.__getattribute__" = some Builtin.«object.__getattribute__» := entryFor_of_tree (by kernel_rfl)
theorem args_oga (a b : Value) : argsOk "object.__getattribute__" ⟨[a, b], []⟩ := by unfold argsOk; kernel_rfl
theorem li_getattr_none : typeLookup (.type "list_iterator") "__getattr__" = pure none := by rw [typeLookup_type, builtinLookup_eq_fast]; kernel_rfl
theorem li_next : typeLookup (.type "list_iterator") "__next__" = pure (some (.builtin "list_iterator.__next__")) := by rw [typeLookup_type, builtinLookup_eq_fast]; kernel_rfl
theorem slot_wd_get : Slot "wrapper_descriptor" "__get__" "wrapper_descriptor.__get__" :=
  Slot.of (T := "wrapper_descriptor") (name := Str.ofString "__get__") (id := "wrapper_descriptor.__get__") (owner := "wrapper_descriptor") (n := "__get__") (by rw [typeLookup_type, builtinLookup_eq_fast]; kernel_rfl) (by decide +kernel) (by decide +kernel) (by decide +kernel) (.inl (by decide +kernel)) (by rw [isSubtype_type]; kernel_rfl)
theorem entry_wd_get : entryFor table "wrapper_descriptor.__get__" = some Builtin.«wrapper_descriptor.__get__» := entryFor_of_tree (by kernel_rfl)
theorem args_wd_get (a b c : Value) : argsOk "wrapper_descriptor.__get__" ⟨[a, b, c], []⟩ := by unfold argsOk; kernel_rfl
theorem meets_li_next (a l : Addr) (j : Nat) (u : Tok) :
    Meets (Builtin.«object.__getattribute__» ⟨[.ref a, .str (Str.ofString "__next__") u], []⟩) (fun A R s => s.heap.get? a = some (itO l j) ∧ R (.ok (.ret (.ref s.heap.objs.size))) { s with heap := s.heap.push (wrO a) }) :=
  Meets.of_wp fun prog w A R s hs => by
    (with_reducible refine (?_ : let G9 : Prop := _; G9)); intro G9
    obtain ⟨hp, g, d, tk, os⟩ := s
    obtain ⟨hx, hs⟩ := hs
    k_unfold; clear G9
    have hT : (⟨hp, g, d, tk, os⟩ : Shared).TypeIs (.ref a) "list_iterator" := ⟨_, hx, rfl⟩
    have f1 := li_next
    unfold Builtin.«object.__getattribute__»
    have k1 : builtinKind "list_iterator.__next__" = some .slot := by decide +kernel
    have f2 : typeLookup (.type "wrapper_descriptor") "__get__" = pure (some (.builtin "wrapper_descriptor.__get__")) := by rw [typeLookup_type, builtinLookup_eq_fast]; kernel_rfl
    have f3 : typeLookup (.type "wrapper_descriptor") "__set__" = pure none := by rw [typeLookup_type, builtinLookup_eq_fast]; kernel_rfl
    have f4 : typeLookup (.type "wrapper_descriptor") "__delete__" = pure none := by rw [typeLookup_type, builtinLookup_eq_fast]; kernel_rfl
    repeat (any_goals (first | assumption | (rw [k1]; dsimp only) | (first | with_reducible (first | refine wpAny_pure ?_ | refine wpAny_bind ?_ | refine wpAny_holding ?_ | refine wpAny_standAt ?_ | refine wpAny_point ?_ | refine wpAny_rule ?_ | refine wpAny_letGo ?_ | refine wpAny_fresh' ?_ | refine wpAny_alloc' ?_ | refine wpAny_attempt ?_ | refine wpAny_throw ?_ | refine wpAny_of_eq (by assumption) ?_ | refine wpAny_typeOf (by assumption) ?_ | refine wpAny_specialOf_val (by assumption) (by assumption) ?_ | refine wpAny_specialOf (by assumption) (by assumption) ?_ | refine wpAny_isInstance_val (by assumption) (by assumption) ?_ | refine wpAny_isInstance (by assumption) (by assumption) ?_ | refine wpAny_call ?_ | refine wpAny_runValue ?_ | refine wpAny_run ?_) | ((with_reducible show wpAny _ _ (load _) _ _ _); (with_reducible apply wpAny_load'); focus (heap_get; done)) | ((with_reducible show wpAny _ _ (ite _ _ _) _ _ _); first | ((with_reducible apply wpAny_handled_none); focus (assumption; done)) | ((with_reducible apply wpAny_ite_false); focus (rfl; done)) | ((with_reducible apply wpAny_ite_true); focus (rfl; done)) | ((with_reducible apply wpAny_ite_false); focus (simp [*]; done)) | ((with_reducible apply wpAny_ite_true); focus (simp [*]; done))) | wp_delta | wp_step)))
    have hT2 : (⟨hp, g, d, tk, os⟩ : Shared).TypeIs (Value.builtin "list_iterator.__next__") "wrapper_descriptor" := by
      show typeOf _ = _
      simp only [typeOf, builtinType, k1]; rfl
    have e1 : ".".intercalate ("list_iterator.__next__".cutAt '.').dropLast = "list_iterator" := by decide +kernel
    have f5 : isSubtype (.type "list_iterator") (.type "list_iterator") = pure true := by rw [isSubtype_type]; kernel_rfl
    refine codeAny_call_builtin slot_wd_get.plain entry_wd_get (slot_wd_get.check _ _ _ _ _ _ _ _ hT2 (args_wd_get _ _ _) ?_)
    unfold Builtin.«wrapper_descriptor.__get__»
    repeat (any_goals (first | assumption | (rw [e1]) | (first | with_reducible (first | refine wpAny_pure ?_ | refine wpAny_bind ?_ | refine wpAny_holding ?_ | refine wpAny_standAt ?_ | refine wpAny_point ?_ | refine wpAny_rule ?_ | refine wpAny_letGo ?_ | refine wpAny_fresh' ?_ | refine wpAny_alloc' ?_ | refine wpAny_attempt ?_ | refine wpAny_throw ?_ | refine wpAny_of_eq (by assumption) ?_ | refine wpAny_typeOf (by assumption) ?_ | refine wpAny_specialOf_val (by assumption) (by assumption) ?_ | refine wpAny_specialOf (by assumption) (by assumption) ?_ | refine wpAny_isInstance_val (by assumption) (by assumption) ?_ | refine wpAny_isInstance (by assumption) (by assumption) ?_ | refine wpAny_call ?_ | refine wpAny_runValue ?_ | refine wpAny_run ?_) | ((with_reducible show wpAny _ _ (load _) _ _ _); (with_reducible apply wpAny_load'); focus (heap_get; done)) | ((with_reducible show wpAny _ _ (ite _ _ _) _ _ _); first | ((with_reducible apply wpAny_handled_none); focus (assumption; done)) | ((with_reducible apply wpAny_ite_false); focus (rfl; done)) | ((with_reducible apply wpAny_ite_true); focus (rfl; done)) | ((with_reducible apply wpAny_ite_false); focus (simp [*]; done)) | ((with_reducible apply wpAny_ite_true); focus (simp [*]; done))) | wp_delta | wp_step)))
    exact ⟨_, rfl, hs⟩
theorem slot_li_ga : Slot "list_iterator" "__getattribute__" "object.__getattribute__" :=
  Slot.of (T := "list_iterator") (name := Str.ofString "__getattribute__") (id := "object.__getattribute__") (owner := "object") (n := "__getattribute__") (by rw [typeLookup_type, builtinLookup_eq_fast]; kernel_rfl) (by decide +kernel) (by decide +kernel) (by decide +kernel) (.inl (by decide +kernel)) (by rw [isSubtype_type]; kernel_rfl)
theorem getAttr_next {prog : Program} {w : World} {A : Around} {E : Value → Shared → Prop} {s : Shared} {a l : Addr} {j : Nat} {Q : Value → Shared → Prop} (hx : s.heap.get? a = some (itO l j))
    (h : Q (.ref s.heap.objs.size) { s with heap := s.heap.push (wrO a), toks := s.toks + 1 }) : wpAny (model prog w) A (getAttr (.ref a) (Str.ofString "__next__") true) Q E s := by
  (with_reducible refine (?_ : let G9 : Prop := _; G9)); intro G9
  obtain ⟨hp, g, d, tk, os⟩ := s
  k_unfold; clear G9
  have hT : ∀ tk', (⟨hp, g, d, tk', os⟩ : Shared).TypeIs (.ref a) "list_iterator" := fun _ => ⟨_, hx, rfl⟩
  have f3 := slot_li_ga.lookup
  have f4 := slot_li_ga.bind (.ref a)
  have f5 := li_getattr_none
  unfold getAttr getAttrBy
  repeat (any_goals (first | assumption | exact hT _ | ((with_reducible show wpAny _ _ (call (Value.builtin "object.__getattribute__") _ _) _ _ _); refine call_meets slot_li_ga (hT _) entry_oga (args_oga _ _) (meets_li_next a l j _) ⟨hx, ?_⟩) | (first | with_reducible (first | refine wpAny_pure ?_ | refine wpAny_bind ?_ | refine wpAny_holding ?_ | refine wpAny_standAt ?_ | refine wpAny_point ?_ | refine wpAny_rule ?_ | refine wpAny_letGo ?_ | refine wpAny_fresh' ?_ | refine wpAny_alloc' ?_ | refine wpAny_attempt ?_ | refine wpAny_throw ?_ | refine wpAny_of_eq (by assumption) ?_ | refine wpAny_typeOf (by assumption) ?_ | refine wpAny_specialOf_val (by assumption) (by assumption) ?_ | refine wpAny_specialOf (by assumption) (by assumption) ?_ | refine wpAny_isInstance_val (by assumption) (by assumption) ?_ | refine wpAny_isInstance (by assumption) (by assumption) ?_ | refine wpAny_call ?_ | refine wpAny_runValue ?_ | refine wpAny_run ?_) | ((with_reducible show wpAny _ _ (load _) _ _ _); (with_reducible apply wpAny_load'); focus (heap_get; done)) | ((with_reducible show wpAny _ _ (ite _ _ _) _ _ _); first | ((with_reducible apply wpAny_handled_none); focus (assumption; done)) | ((with_reducible apply wpAny_ite_false); focus (rfl; done)) | ((with_reducible apply wpAny_ite_true); focus (rfl; done)) | ((with_reducible apply wpAny_ite_false); focus (simp [*]; done)) | ((with_reducible apply wpAny_ite_true); focus (simp [*]; done))) | wp_delta | wp_step)))
  show wpAny _ _ (handedOut (.ref _)) Q E _
  rw [handedOut_of rfl]
  exact wpAny_pure h
end
section
open PySem PySem.W PyProof.Rows PySem.Calls PySem.Spec PyProof.Rows.LCg
set_option maxRecDepth 100000
set_option maxHeartbeats 1000000
theorem check_wr {it : Addr} : checkBoundCall "list_iterator.__next__" ⟨[.ref it], []⟩ = pure () := by first | kernel_rfl | rfl
section
variable {prog : Program} {w : World} {A : Around} {E : Value → Shared → Prop} {s : Shared} {W it l : Addr} {i : Nat} {items : Array Value}
theorem wrapper_call {R : Result → Shared → Prop} (ho : s.heap.get? W = some (wrO it)) (h : codeAny (model prog w) A (.builtin "list_iterator.__next__" ⟨[.ref it], []⟩) R s) : codeAny (model prog w) A (.call (.ref W) ⟨[], []⟩) R s := by
  (with_reducible refine (?_ : let G9 : Prop := _; G9)); intro G9
  obtain ⟨hh, g, dr, t, os⟩ := s
  k_unfold; clear G9
  refine codeAny_of_tree ?_
  show wpAny _ _ (callAny (.ref W) _) _ _ _
  dsimp only at ho
  refine nd_load ho ?_
  refine wpAny_bind (m := Sem.pure (wrO it)) (wpAny_pure ?_)
  simp only [show (Value.type "method-wrapper" == Value.type "method" || Value.type "method-wrapper" == Value.type "builtin_function_or_method" || Value.type "method-wrapper" == Value.type "method-wrapper") = true by decide, show (Value.type "method-wrapper" != Value.type "method") = true by decide, if_true]
  change wpAny _ _ (checkBoundCall "list_iterator.__next__" ⟨[.ref it], []⟩ >>= fun _ => again _) _ _ _
  rw [check_wr]
  refine wpAny_bind (wpAny_pure ?_)
  exact wpAny_pure ⟨Code.quiet_builtin _ (by decide +kernel), h⟩
theorem call_wr_item {x : Value} {Q : Value → Shared → Prop} (hW : s.heap.get? W = some (wrO it)) (hit : s.heap.get? it = some (itO l i)) (hl : s.heap.IsList l items) (hx : items[i]? = some x)
    (hQ : ∀ h', h'.get? it = some (itO l (i + 1)) → Heap.SameBut it s.heap h' → Q x { s with heap := h' }) : wpAny (model prog w) A (call (.ref W) []) Q E s := by
  (with_reducible refine (?_ : let G9 : Prop := _; G9)); intro G9
  obtain ⟨ol, hol, _, nl, hdl⟩ := hl
  k_unfold; clear G9
  refine wpAny_call (wrapper_call hW (codeAny_builtin entry_listiter_next ?_))
  show wpAny _ _ (field (.ref it) 0 >>= _) _ _ s
  refine wpAny_bind (wpAny_field hit rfl (x := .ref l) rfl ?_)
  show wpAny _ _ (if (Value.ref l == Value.none) = true then _ else _) _ _ s
  rw [if_neg (show ¬ ((Value.ref l == Value.none) = true) from Bool.false_ne_true)]
  show wpAny _ _ (field (.ref it) 1 >>= _) _ _ s
  refine wpAny_bind (wpAny_field hit rfl (x := .int i 0) rfl ?_)
  show wpAny _ _ (seqItems? (.ref l) >>= _) _ _ s
  refine wpAny_bind (wpAny_seqItems hol hdl ?_)
  simp only [Int.toNat_natCast, hx]
  refine wpAny_bind (wpAny_setField hit rfl (by simp) (wpAny_pure (hQ _ ?_ (Heap.SameBut.update ..))))
  rw [Heap.get?_update_self _ hit (Obj.isFreed_of_fields (Obj.data_mapFields rfl _))]
  simp [Obj.mapFields, rawInt]
theorem call_wr_end {Q : Value → Shared → Prop} (hh : A.handled = none) (hW : s.heap.get? W = some (wrO it)) (hit : s.heap.get? it = some (itO l i)) (hl : s.heap.IsList l items) (hx : items[i]? = none)
    (hE : ∀ h₁ h' e, Heap.SameBut it s.heap h₁ → Heap.NewExcOf h₁ h' e "StopIteration" → E (.ref e) { s with heap := h' }) : wpAny (model prog w) A (call (.ref W) []) Q E s := by
  (with_reducible refine (?_ : let G9 : Prop := _; G9)); intro G9
  obtain ⟨ol, hol, _, nl, hdl⟩ := hl
  k_unfold; clear G9
  refine wpAny_call (wrapper_call hW (codeAny_builtin entry_listiter_next ?_))
  show wpAny _ _ (field (.ref it) 0 >>= _) _ _ s
  refine wpAny_bind (wpAny_field hit rfl (x := .ref l) rfl ?_)
  show wpAny _ _ (if (Value.ref l == Value.none) = true then _ else _) _ _ s
  rw [if_neg (show ¬ ((Value.ref l == Value.none) = true) from Bool.false_ne_true)]
  show wpAny _ _ (field (.ref it) 1 >>= _) _ _ s
  refine wpAny_bind (wpAny_field hit rfl (x := .int i 0) rfl ?_)
  show wpAny _ _ (seqItems? (.ref l) >>= _) _ _ s
  refine wpAny_bind (wpAny_seqItems hol hdl ?_)
  simp only [Int.toNat_natCast, hx]
  refine wpAny_bind (wpAny_rule (wpAny_bind (wpAny_setField hit rfl (by simp) ?_)))
  show wpAny _ _ (newExc (.type "StopIteration") [] >>= _) _ _ _
  refine wpAny_bind ?_
  simp only [newExc, newTuple]
  refine wpAny_bind (wpAny_newObj_type ?_ (by size_fits))
  refine wpAny_bind (m := firstArgMember _ _) (wpAny_of_eq (a := Value.none) (by first | rfl | (simp only [firstArgMember]; rfl)) ?_)
  refine wpAny_newObj_type ?_ (by size_fits)
  simp only [raiseNew]
  refine wpAny_bind (wpAny_handled ?_)
  rw [show (A.under _).handled = none from by rw [Around.under_plainId (by decide +kernel)]; exact hh]
  refine wpAny_bind (wpAny_pure (wpAny_throw ?_))
  refine hE _ _ _ (Heap.SameBut.update ..) ⟨fun b o e => Heap.get?_push_of_some _ (Heap.get?_push_of_some _ e), ?_, ⟨_, _, Heap.get?_push_size _ rfl, rfl, rfl, rfl⟩⟩
  refine Heap.get?_none_of_le ?_
  rw [Heap.size_push]; omega
end
end
section
open PySem PySem.W PyProof.Rows PySem.Calls PySem.Spec PyProof.Rows.LCg
set_option maxRecDepth 100000
set_option maxHeartbeats 1000000
theorem updF_setN {a : Addr} {o : Obj} : ∀ {news : List (Addr × Obj)}, Nd news → (a, o) ∈ news → UpdF a o news (fun o' => setN a o' news)
  | p :: r, hn, hm => by
    have hn' := List.nodup_cons.mp hn
    rcases List.mem_cons.mp hm with e | hm'
    · subst e
      have off : ∀ q ∈ r, q.1 ≠ a := fun q hq e => hn'.1 (List.mem_map.mpr ⟨q, hq, e⟩)
      have e2 : (fun o' => setN a o' ((a, o) :: r)) = fun o' => (a, o') :: r := by
        funext o'
        show (if a = a then (a, o') else (a, o)) :: setN a o' r = _
        rw [if_pos rfl, setN_off off]
      rw [e2]; exact .head off
    · have hne : p.1 ≠ a := fun e => hn'.1 (List.mem_map.mpr ⟨(a, o), hm', e.symm⟩)
      have e2 : (fun o' => setN a o' (p :: r)) = fun o' => p :: setN a o' r := by
        funext o'
        show (if p.1 = a then (a, o') else p) :: setN a o' r = _
        rw [if_neg hne]
      rw [e2]; exact .tail hne (updF_setN hn'.2 hm')
section
variable {prog : Program} {w : World} {A : Around} {E : Value → Shared → Prop} {s : Shared} {env : Env} {g₀ : Heap} {R : Result → Shared → Prop} {target : Expr} {body orelse : List Stmt} {m : Str → Option Value} {news : List (Addr × Obj)}
theorem for_JS {Gd : Heap → Prop} {I : Addr} {fp : List Addr} {n : Nat} {P Md : Nat → Value → Heap → Prop} {St : Nat → Heap → Prop} {S : List (Addr × Obj) → Prop} (W : KTurns prog w A target I fp [I] n P Md St)
    (hIo : ∀ i h, St i h → ∃ o, h.get? I = some o)
    (hSt : ∀ i g h h' o nw, St i h → h.get? I = some o → h'.get? I = some o → News g env.locals h' nw → S nw → St i h')
    (hst : St 0 s.heap) (hg : Gd g₀) (F : Fr g₀ env.locals s.heap m) (N : News g₀ env.locals s.heap news) (hIL : env.locals ≠ I) (hI₀ : g₀.get? I = none) (off : ∀ p ∈ news, p.1 ≠ I)
    (J : Nat → (Str → Option Value) → List (Addr × Obj) → Prop) (hJS : ∀ i m nw, J i m nw → S nw) (h0 : J 0 m news)
    (step : ∀ i v g m₁ news₁ oI h₁ tk₁, i < n → P i v h₁ → Gd g → J i m₁ news₁ → (∀ p ∈ news₁, p.1 ≠ I) → Fr g env.locals h₁ m₁ → News g env.locals h₁ ((I, oI) :: news₁) →
      wpAny (model prog w) A (assign target env v) (fun _ s₂ => wpAny (model prog w) A (execs body env) (fun f s₃ => match f with
          | .next | .cont => ∃ g' h' tk m' news', s₃ = { s with heap := h', toks := tk } ∧ Gd g' ∧ Fr g' env.locals h' m' ∧ News g' env.locals h' ((I, oI) :: news') ∧ (∀ p ∈ news', p.1 ≠ I) ∧ J (i + 1) m' news'
          | .brk => R (.ok .next) s₃
          | .ret v => R (.ok (.ret v)) s₃) (notedBy (model prog w) A env fun e s' => R (.error e) s') s₂) (notedBy (model prog w) A env fun e s' => R (.error e) s') { s with heap := h₁, toks := tk₁ })
    (hR : ∀ g' h' tk m' news', Gd g' → Fr g' env.locals h' m' → News g' env.locals h' news' → (∀ p ∈ news', p.1 ≠ I) → J n m' news' →
      wpAny (model prog w) A (execs orelse env) (fun f s₃ => R (.ok f) s₃) (notedBy (model prog w) A env fun e s' => R (.error e) s') { s with heap := h', toks := tk }) :
    codeAny (model prog w) A (.forLoop target (.ref I) body orelse env) R s := by
  refine codeAny_forLoop_any
    (fun k s' => ∃ g' h' tk m' news' i, s' = { s with heap := h', toks := tk } ∧ Gd g' ∧ g'.get? I = none ∧ St i h' ∧ Fr g' env.locals h' m' ∧ News g' env.locals h' news' ∧ (∀ p ∈ news', p.1 ≠ I) ∧ J i m' news' ∧ i ≤ n ∧ k = n + 1 - i) ?_ (n + 1)
    ⟨g₀, s.heap, s.toks, m, news, 0, rfl, hg, hI₀, hst, F, N, off, h0, Nat.zero_le _, rfl⟩
  intro k s' pt92
  (with_reducible refine (?_ : let G9 : Prop := _; G9)); intro G9
  obtain ⟨g', h', tk, m', news', i, rfl, hg', hI', hst', F', N', hnw', hJ, hi, rfl⟩ := pt92
  k_unfold; clear G9
  by_cases hlt : i < n
  · refine W.item i _ _ _ hlt hst' fun v h₀' tk₁ hM hk₀ => ?_
    refine W.go i v _ _ _ hM fun h₁ hP hst₁ hk₁' => ?_
    have hk₁ : ∀ b o, b ∉ [I] → h'.get? b = some o → h₁.get? b = some o := fun b o hb e => hk₁' b o hb (hk₀ b o hb e)
    have F₁ := fr_but F' hk₁ hIL hI'
    have N₁ := news_but N' hk₁ hnw'
    (with_reducible refine (?_ : let G9 : Prop := _; G9)); intro G9
    obtain ⟨oI, heI⟩ := hIo _ _ hst₁
    k_unfold; clear G9
    refine wpAny_mono (step i v g' m' news' oI h₁ tk₁ hlt hP hg' hJ hnw' F₁ (news_cons N₁ heI (Ne.symm hIL) hI'))
      (fun _ s₂ h₂ => wpAny_mono h₂ (fun f s₃ h₃ => ?_) fun _ _ e => e) fun _ _ e => e
    have fin : (∃ g' h' tk m' news', s₃ = { s with heap := h', toks := tk } ∧ Gd g' ∧ Fr g' env.locals h' m' ∧ News g' env.locals h' ((I, oI) :: news') ∧ (∀ p ∈ news', p.1 ≠ I) ∧ J (i + 1) m' news') →
        ∃ k', k' < n + 1 - i ∧ ∃ g' h' tk m' news' j, s₃ = { s with heap := h', toks := tk } ∧ Gd g' ∧ g'.get? I = none ∧ St j h' ∧ Fr g' env.locals h' m' ∧ News g' env.locals h' news' ∧ (∀ p ∈ news', p.1 ≠ I) ∧ J j m' news' ∧ j ≤ n ∧ k' = n + 1 - j := by
      intro pt90
      (with_reducible refine (?_ : let G9 : Prop := _; G9)); intro G9
      obtain ⟨g₃, h₃', tk₃, m₂, news₂, rfl, hg₃, F₃, N₃, ha₃, hJ₃⟩ := pt90
      k_unfold; clear G9
      have N₃' : News g₃ env.locals h₃' news₂ := news_sub N₃ fun p hp => .tail _ hp
      exact ⟨n + 1 - (i + 1), sub_dn (Nat.lt_succ_of_lt hlt), g₃, h₃', tk₃, m₂, news₂, i + 1, rfl, hg₃, (N₃ _ (.head _)).2.2, hSt _ _ _ _ _ _ hst₁ heI (N₃ _ (.head _)).1 N₃' (hJS _ _ _ hJ₃), F₃, N₃', ha₃, hJ₃, hlt, rfl⟩
    cases f with
    | next => exact fin h₃
    | cont => exact fin h₃
    | brk => exact h₃
    | ret v => exact h₃
  · have hin : i = n := Nat.le_antisymm (by assumption) (Nat.not_lt.mp (by assumption))
    subst hin
    refine W.done _ _ _ hst' fun h₁ tk₁ hk₁ => ?_
    exact hR g' h₁ tk₁ m' news' hg' (fr_but F' hk₁ hIL hI') (news_but N' hk₁ hnw') hnw' hJ
theorem forJ_keysS {Gd : Heap → Prop} {x : Str} {px : Pos} {G : Addr} {kvs : List (Int × Value)} (hh : A.handled = none) (hg : Gd g₀) (F : Fr g₀ env.locals s.heap m) (N : News g₀ env.locals s.heap news) {oG : Obj} (hG : (G, oG) ∈ news) (hd : oG.IsDictOf (intKind prog w) kvs) (lo : (G == sysModules) = false)
    (J : Nat → (Str → Option Value) → List (Addr × Obj) → Prop) (hJS : ∀ i m nw, J i m nw → (G, oG) ∈ nw) (h0 : J 0 m news)
    (step : ∀ i k x0 t g m₁ news₁ I oI h₁ tk₁, i < kvs.length → kvs[i]? = some (k, x0) → Gd g → J i m₁ news₁ → (∀ p ∈ news₁, p.1 ≠ I) → Fr g env.locals h₁ m₁ → News g env.locals h₁ ((I, oI) :: news₁) →
      wpAny (model prog w) A (assign (.Name x px) env (.int k t)) (fun _ s₂ => wpAny (model prog w) A (execs body env) (fun f s₃ => match f with
          | .next | .cont => ∃ g' h' tk m' news', s₃ = { s with heap := h', toks := tk } ∧ Gd g' ∧ Fr g' env.locals h' m' ∧ News g' env.locals h' ((I, oI) :: news') ∧ (∀ p ∈ news', p.1 ≠ I) ∧ J (i + 1) m' news'
          | .brk => R (.ok .next) s₃
          | .ret v => R (.ok (.ret v)) s₃) (notedBy (model prog w) A env fun e s' => R (.error e) s') s₂) (notedBy (model prog w) A env fun e s' => R (.error e) s') { s with heap := h₁, toks := tk₁ })
    (hR : ∀ g' h' tk m' news', Gd g' → Fr g' env.locals h' m' → News g' env.locals h' news' → J kvs.length m' news' →
      wpAny (model prog w) A (execs orelse env) (fun f s₃ => R (.ok f) s₃) (notedBy (model prog w) A env fun e s' => R (.error e) s') { s with heap := h', toks := tk }) :
    wpAny (model prog w) A (pyIter (.ref G)) (fun it s₂ => codeAny (model prog w) A (.forLoop (.Name x px) it body orelse env) R s₂) E s := by
  (with_reducible refine (?_ : let G9 : Prop := _; G9)); intro G9
  obtain ⟨ep, ha⟩ := KdkAt.of hd
  k_unfold; clear G9
  have hlt : G < s.heap.objs.size := Heap.lt_size (N _ hG).1
  refine wpAny_pyIter_dict lo (ha.dictAt (N _ hG).1) ?_
  have W := Walks.dictKeys (prog := prog) (w := w) (knd := intKind prog w) hh s.heap.objs.size G (Nat.ne_of_lt hlt) kvs ep
  refine for_JS (Gd := Gd) (KTurns.ofWalks (target := .Name x px) W fun i v s' Q' E' st q => letGo_name q) (fun i h st => by obtain ⟨o, e, _⟩ := st.1; exact ⟨o, e⟩) (S := fun nw => (G, oG) ∈ nw)
    (fun i g h h' o nw st e e' N S => ⟨by obtain ⟨o', q, r⟩ := st.1; rw [e] at q; cases q; exact ⟨o, e', r⟩, ha.dictAt (N _ S).1⟩) ⟨⟨_, Heap.get?_push_size _ rfl, rfl, rfl⟩, ha.dictAt (Heap.get?_push_of_some _ (N _ hG).1)⟩ hg
    (F.keeps fun _ _ e => Heap.get?_push_of_some _ e) (N.grown fun _ _ e => Heap.get?_push_of_some _ e) (Nat.ne_of_lt F.ns.lt) (next_is_new F) (fun p hp => Nat.ne_of_lt (Heap.lt_size (N p hp).1)) J hJS h0 ?_ fun g' h' tk m' news' hg' F' N' _ hJ => hR g' h' tk m' news' hg' F' N' hJ
  intro i v g m₁ news₁ oI h₁ tk₁ hi pt99 hg' hJ hw F₁ N₁
  (with_reducible refine (?_ : let G9 : Prop := _; G9)); intro G9
  obtain ⟨k, x0, hk, hkey⟩ := pt99
  k_unfold; clear G9
  (with_reducible refine (?_ : let G9 : Prop := _; G9)); intro G9
  obtain ⟨t, rfl⟩ := Value.isInt_shape hkey
  k_unfold; clear G9
  exact step i k x0 t g m₁ news₁ _ oI h₁ tk₁ hi hk hg' hJ hw F₁ N₁
end
end
section
open PySem PySem.W PyProof.Rows PySem.Calls PySem.Spec PyProof.Rows.LCg
set_option maxRecDepth 100000
set_option maxHeartbeats 1000000
structure Own (news0 nw own : List (Addr × Obj)) : Prop where
  nd : Nd nw
  keep : ∀ p ∈ news0, p ∈ nw
  here : ∀ p ∈ own, p ∈ nw
  dist : Nd own
  off : ∀ p ∈ news0, ∀ q ∈ own, p.1 ≠ q.1
section
variable {news0 nw own own' pre post : List (Addr × Obj)} {a : Addr} {o o' : Obj}
theorem nd_mid (h : Nd (pre ++ (a, o) :: post)) : (∀ p ∈ pre, p.1 ≠ a) ∧ (∀ p ∈ post, p.1 ≠ a) := by
  unfold Nd at h
  rw [List.map_append, List.map_cons] at h
  have h1 := List.nodup_append.mp h
  have h2 := List.nodup_cons.mp h1.2.1
  exact ⟨fun p hp e => h1.2.2 p.1 (List.mem_map.mpr ⟨p, hp, rfl⟩) a (.head _) e, fun p hp e => h2.1 (List.mem_map.mpr ⟨p, hp, e⟩)⟩
theorem Own.set (h : Own news0 nw (pre ++ (a, o) :: post)) (o' : Obj) : Own news0 (setN a o' nw) (pre ++ (a, o') :: post) := by
  have hm : (a, o) ∈ pre ++ (a, o) :: post := List.mem_append_right _ (.head _)
  obtain ⟨h1, h2⟩ := nd_mid h.dist
  refine ⟨nd_setN h.nd, fun p hp => mem_setN_ne (h.keep p hp) (h.off p hp _ hm), fun p hp => ?_, ?_, fun p hp q hq => ?_⟩
  · rcases List.mem_append.mp hp with hp | hp
    · exact mem_setN_ne (h.here p (List.mem_append_left _ hp)) (h1 p hp)
    rcases List.mem_cons.mp hp with rfl | hp
    · exact mem_setN_self (h.here _ hm)
    · exact mem_setN_ne (h.here p (List.mem_append_right _ (.tail _ hp))) (h2 p hp)
  · have := h.dist; unfold Nd at this ⊢; rw [List.map_append, List.map_cons] at this ⊢; exact this
  · rcases List.mem_append.mp hq with hq | hq
    · exact h.off p hp q (List.mem_append_left _ hq)
    rcases List.mem_cons.mp hq with rfl | hq
    · exact fun e => h.off p hp (a, o) hm e
    · exact h.off p hp q (List.mem_append_right _ (.tail _ hq))
theorem Own.cons (h : Own news0 nw own) {p : Addr × Obj} (hp : ∀ q ∈ nw, q.1 ≠ p.1) : Own news0 (p :: nw) (p :: own) := by
  refine ⟨nd_cons h.nd hp, fun q hq => .tail _ (h.keep q hq), fun q hq => ?_, nd_cons h.dist fun q hq => hp q (h.here q hq), fun q hq r hr => ?_⟩
  · rcases List.mem_cons.mp hq with rfl | hq
    · exact .head _
    · exact .tail _ (h.here q hq)
  · rcases List.mem_cons.mp hr with rfl | hr
    · exact hp q (h.keep q hq)
    · exact h.off q hq r hr
theorem Own.less (h : Own news0 nw own) (hs : ∀ p ∈ own', p ∈ own) (hn : Nd own') : Own news0 nw own' := ⟨h.nd, h.keep, fun p hp => h.here p (hs p hp), hn, fun p hp q hq => h.off p hp q (hs q hq)⟩
theorem Own.sub (h : Own news0 nw own) (hs : own'.Sublist own) : Own news0 nw own' := h.less (fun _ hp => hs.subset hp) (h.dist.sublist (hs.map _))
theorem Own.perm (h : Own news0 nw own) (hs : own'.Perm own) : Own news0 nw own' := h.less (fun _ hp => hs.subset hp) ((hs.map _).nodup_iff.mpr h.dist)
theorem Own.mem (h : Own news0 nw own) (hp : (a, o) ∈ own) : (a, o) ∈ nw := h.here _ hp
theorem own_nil (h : Nd news0) : Own news0 news0 [] := by
  refine ⟨h, fun _ hp => hp, fun p hp => ?_, List.nodup_nil, fun p _ q hq => ?_⟩
  · cases hp
  · cases hq
theorem own_four {ST IT SE N2 : Addr} {o1 o2 o3 o4 : Obj} (h : Nd news0) (lST : ∀ p ∈ news0, p.1 < ST) (lIT : @LT.lt Nat _ ST IT ∧ AllLt IT news0) (lSE : @LT.lt Nat _ IT SE ∧ @LT.lt Nat _ ST SE ∧ AllLt SE news0) (lN2 : @LT.lt Nat _ SE N2 ∧ @LT.lt Nat _ IT N2 ∧ @LT.lt Nat _ ST N2 ∧ AllLt N2 news0) :
    Own news0 ((N2, o4) :: (SE, o3) :: (IT, o2) :: (ST, o1) :: news0) [(N2, o4), (SE, o3), (IT, o2), (ST, o1)] := by
  have O1 := (own_nil h).cons (p := (ST, o1)) (all_ne lST (Nat.le_refl _))
  have O2 := O1.cons (p := (IT, o2)) (all_ne' (news := (ST, o1) :: news0) lIT (Nat.le_refl _))
  have O3 := O2.cons (p := (SE, o3)) (all_ne' (news := (IT, o2) :: (ST, o1) :: news0) lSE (Nat.le_refl _))
  exact O3.cons (p := (N2, o4)) (all_ne' (news := (SE, o3) :: (IT, o2) :: (ST, o1) :: news0) lN2 (Nat.le_refl _))
theorem Own.cut (h : Own news0 nw (pre ++ (a, o) :: post)) : Own news0 (cutN a nw) (pre ++ post) := by
  have hm : (a, o) ∈ pre ++ (a, o) :: post := List.mem_append_right _ (.head _)
  obtain ⟨h1, h2⟩ := nd_mid h.dist
  have hs : (pre ++ post).Sublist (pre ++ (a, o) :: post) := (List.Sublist.refl _).append (List.sublist_cons_self _ _)
  refine ⟨nd_filter _ h.nd, fun p hp => mem_cutN.mpr ⟨h.keep p hp, h.off p hp _ hm⟩, fun p hp => mem_cutN.mpr ⟨h.here p (hs.subset hp), ?_⟩, h.dist.sublist (hs.map _), fun p hp q hq => h.off p hp q (hs.subset hq)⟩
  rcases List.mem_append.mp hp with hp | hp
  · exact h1 p hp
  · exact h2 p hp
end
theorem cut_next {M : Model} {A : Around} {E : Value → Shared → Prop} {s : Shared} {env : Env} {st : Stmt} {Q : Flow → Shared → Prop} (P : Shared → Prop)
    (h : wpAny M A (exec st env) (fun f s' => match f with | .next => P s' | f => Q f s') E s) (k : ∀ s', P s' → Q .next s') : wpAny M A (exec st env) Q E s :=
  wpAny_mono h (fun f s' hf => by cases f <;> first | exact k _ hf | exact hf) fun _ _ e => e
end
section
section
variable (su : Int → List Int)
inductive Rch : Int → Int → Prop
  | one {x y} : y ∈ su x → Rch x y
  | step {x y z} : Rch x y → z ∈ su y → Rch x z
def Path (bl : List Int) : List (Int × Nat) → Int → Prop
  | [], _ => True
  | (k, j) :: r, c => 1 ≤ j ∧ (su k)[j - 1]? = some c ∧ (∀ s ∈ (su k).take (j - 1), s ∈ bl) ∧ Path bl r k
def Inner (bl : List Int) : List (Int × Nat) → Prop
  | [] => True
  | (k, j) :: r => j ≤ (su k).length ∧ (∀ s ∈ (su k).take j, s ∈ bl) ∧ Path su bl r k
def Closed (bl : List Int) : Prop := ∀ (i : Nat) (k : Int), bl[i]? = some k → ∀ s ∈ su k, s ∈ bl.take i
end
variable {su : Int → List Int} {bl : List Int}
theorem Path.mono {bl' : List Int} (h : ∀ x ∈ bl, x ∈ bl') : ∀ {stk : List (Int × Nat)} {c : Int}, Path su bl stk c → Path su bl' stk c
  | [], _, _ => trivial
  | (_, _) :: _, _, ⟨a, b, d, e⟩ => ⟨a, b, fun s hs => h s (d s hs), Path.mono h e⟩
theorem path_rch : ∀ {stk : List (Int × Nat)} {c v : Int}, Path su bl stk c → v ∈ stk.map (·.1) → Rch su v c
  | (k, j) :: r, c, v, ⟨_, b, _, e⟩, hv => by
    have hc : c ∈ su k := List.mem_of_getElem? b
    rcases List.mem_cons.mp hv with rfl | hv
    · exact .one hc
    · exact .step (path_rch e hv) hc
theorem inner_push {stk : List (Int × Nat)} {v : Int} (h : Path su bl stk v) : Inner su bl ((v, 0) :: stk) := ⟨Nat.zero_le _, fun s hs => by simp at hs, h⟩
theorem take_last {l : List Int} {j : Nat} {v : Int} (hj : 1 ≤ j) (e : l[j - 1]? = some v) {bl : List Int} (h : ∀ s ∈ l.take (j - 1), s ∈ bl) (hv : v ∈ bl) : j ≤ l.length ∧ ∀ s ∈ l.take j, s ∈ bl := by
  obtain ⟨j, rfl⟩ : ∃ i, j = i + 1 := ⟨j - 1, by lia⟩
  rw [Nat.add_sub_cancel] at e h
  refine ⟨(List.getElem?_eq_some_iff.mp e).1, fun s hs => ?_⟩
  rw [List.take_add_one, e] at hs
  rcases List.mem_append.mp hs with hs | hs
  · exact h s hs
  · rw [List.mem_singleton.mp hs]; exact hv
theorem inner_seen {k : Int} {j : Nat} {r : List (Int × Nat)} {v : Int} (h : Path su bl ((k, j) :: r) v) (hv : v ∈ bl) : Inner su bl ((k, j) :: r) := by
  obtain ⟨a, b, c, d⟩ := h
  obtain ⟨x, y⟩ := take_last a b c hv
  exact ⟨x, y, d⟩
theorem inner_yield {k : Int} {j : Nat} {r : List (Int × Nat)} {v : Int} (h : Inner su bl ((k, j) :: r)) (e : (su k)[j]? = some v) : Path su bl ((k, j + 1) :: r) v :=
  ⟨by lia, by rw [Nat.add_sub_cancel]; exact e, by rw [Nat.add_sub_cancel]; exact h.2.1, h.2.2⟩
theorem inner_pop {k : Int} {j : Nat} {r : List (Int × Nat)} (h : Inner su bl ((k, j) :: r)) : Inner su (bl ++ [k]) r := by
  obtain ⟨_, _, h⟩ := h
  match r, h with
  | [], _ => trivial
  | (k2, j2) :: r2, ⟨a, b, c, d⟩ =>
    obtain ⟨x, y⟩ := take_last (bl := bl ++ [k]) a b (fun s hs => List.mem_append_left _ (c s hs)) (List.mem_append_right _ (.head _))
    exact ⟨x, y, d.mono fun s hs => List.mem_append_left _ hs⟩
theorem closed_pop {k : Int} {j : Nat} {r : List (Int × Nat)} (hc : Closed su bl) (h : Inner su bl ((k, j) :: r)) (e : (su k)[j]? = none) : Closed su (bl ++ [k]) := by
  intro i x hx s hs
  rcases Nat.lt_or_ge i bl.length with hi | hi
  · rw [List.getElem?_append_left hi] at hx
    rw [List.take_append_of_le_length (Nat.le_of_lt hi)]
    exact hc i x hx s hs
  · rw [List.getElem?_append_right hi] at hx
    have h0 : i - bl.length = 0 := by
      rcases Nat.eq_zero_or_pos (i - bl.length) with z | z
      · exact z
      · rw [List.getElem?_eq_none (by simp; lia)] at hx; cases hx
    rw [h0] at hx
    have hi' : i = bl.length := by lia
    cases hx
    have hj : j = (su k).length := by
      have := List.getElem?_eq_none_iff.mp e
      have := h.1
      lia
    have := h.2.1 s (by rw [hj, List.take_length]; exact hs)
    rw [hi', List.take_append_of_le_length (Nat.le_refl _), List.take_length]
    exact this
theorem rch_down (hc : Closed su bl) {x y : Int} (h : Rch su x y) : ∀ i : Nat, bl[i]? = some x → ∃ j : Nat, j < i ∧ bl[j]? = some y := by
  have one : ∀ {x y : Int}, y ∈ su x → ∀ i : Nat, bl[i]? = some x → ∃ j : Nat, j < i ∧ bl[j]? = some y := fun {x y} hy i hi => by
    obtain ⟨j, hj⟩ := List.getElem?_of_mem (hc i x hi y hy)
    rw [List.getElem?_take] at hj
    split at hj
    · exact ⟨j, by assumption, hj⟩
    · cases hj
  induction h with
  | one hy => exact one hy
  | step _ hz ih =>
    intro i hi
    obtain ⟨j, hj, e⟩ := ih i hi
    obtain ⟨l, hl, e'⟩ := one hz j e
    exact ⟨l, by lia, e'⟩
theorem no_ring (hc : Closed su bl) {x : Int} (h : Rch su x x) : x ∉ bl := by
  intro hm
  obtain ⟨i, hi⟩ := List.getElem?_of_mem hm
  have : ∀ i : Nat, bl[i]? ≠ some x := by
    intro i
    induction i using Nat.strongRecOn with
    | _ i ih =>
      intro e
      obtain ⟨j, hj, e'⟩ := rch_down hc h i e
      exact ih j hj e'
  exact this i hi
def left1 (su : Int → List Int) (stk : List (Int × Nat)) (bl : List Int) (k : Int) : Nat := if k ∈ bl then 0 else match stk.lookup k with
  | some j => (su k).length - j
  | none => (su k).length
def leftAll (su : Int → List Int) (ks : List Int) (stk : List (Int × Nat)) (bl : List Int) : Nat := (ks.map (left1 su stk bl)).sum
theorem sum_lt {f g : Int → Nat} {ks : List Int} (h : ∀ k ∈ ks, f k ≤ g k) {x : Int} (hx : x ∈ ks) (hlt : f x < g x) : (ks.map f).sum < (ks.map g).sum := by
  induction ks with
  | nil => cases hx
  | cons y r ih =>
    rw [List.map_cons, List.map_cons, List.sum_cons, List.sum_cons]
    have le : (r.map f).sum ≤ (r.map g).sum := by
      clear ih hx
      induction r with
      | nil => exact Nat.le_refl _
      | cons z t ih2 =>
        rw [List.map_cons, List.map_cons, List.sum_cons, List.sum_cons]
        have h1 := h z (.tail _ (.head _))
        have h2 := ih2 fun k hk => h k (by rcases List.mem_cons.mp hk with rfl | hk; exact .head _; exact .tail _ (.tail _ hk))
        lia
    rcases List.mem_cons.mp hx with rfl | hx
    · lia
    · have := ih (fun k hk => h k (.tail _ hk)) hx
      have := h y (.head _)
      lia
theorem left_yield {ks : List Int} {k : Int} {j : Nat} {r : List (Int × Nat)} {v : Int} (hk : k ∈ ks) (hb : k ∉ bl) (e : (su k)[j]? = some v) : leftAll su ks ((k, j + 1) :: r) bl < leftAll su ks ((k, j) :: r) bl := by
  have hj := (List.getElem?_eq_some_iff.mp e).1
  refine sum_lt (fun x _ => ?_) hk ?_
  · unfold left1
    by_cases hx : x ∈ bl
    · rw [if_pos hx, if_pos hx]; exact Nat.le_refl _
    · rw [if_neg hx, if_neg hx, List.lookup_cons, List.lookup_cons]
      by_cases h : (x == k) = true
      · rw [h]; dsimp only; rw [show x = k by simpa using h]; omega
      · rw [show (x == k) = false by simpa using h]; exact Nat.le_refl _
  · unfold left1
    rw [if_neg hb, if_neg hb, List.lookup_cons, List.lookup_cons, beq_self_eq_true]
    dsimp only
    omega
theorem left_push {ks : List Int} {stk : List (Int × Nat)} {v : Int} (hv : v ∉ stk.map (·.1)) : leftAll su ks ((v, 0) :: stk) bl = leftAll su ks stk bl := by
  unfold leftAll
  congr 1
  refine List.map_congr_left fun x _ => ?_
  unfold left1
  by_cases hx : x ∈ bl
  · rw [if_pos hx, if_pos hx]
  · rw [if_neg hx, if_neg hx, List.lookup_cons]
    by_cases h : (x == v) = true
    · rw [h]; dsimp only
      have e : x = v := by simpa using h
      subst e
      have : stk.lookup x = none := by
        rw [List.lookup_eq_none_iff]
        intro p hp
        simp only [beq_eq_false_iff_ne, ne_eq, bne_iff_ne]
        exact fun e => hv (List.mem_map.mpr ⟨p, hp, e.symm⟩)
      rw [this]; rfl
    · rw [show (x == v) = false by simpa using h]
theorem left_pop {ks : List Int} {k : Int} {j : Nat} {r : List (Int × Nat)} (h : Inner su bl ((k, j) :: r)) (e : (su k)[j]? = none) (hr : k ∉ r.map (·.1)) : leftAll su ks r (bl ++ [k]) = leftAll su ks ((k, j) :: r) bl := by
  have hj : j = (su k).length := by
    have := List.getElem?_eq_none_iff.mp e
    have := h.1
    lia
  unfold leftAll
  congr 1
  refine List.map_congr_left fun x _ => ?_
  unfold left1
  by_cases hx : x ∈ bl
  · rw [if_pos hx, if_pos (List.mem_append_left _ hx)]
  · by_cases hk : x = k
    · subst hk
      rw [if_neg hx, if_pos (List.mem_append_right _ (.head _)), List.lookup_cons, beq_self_eq_true]
      dsimp only; lia
    · rw [if_neg hx, if_neg (by rw [List.mem_append]; rintro (z | z); exact hx z; exact hk (List.mem_singleton.mp z)), List.lookup_cons, show (x == k) = false by simpa using hk]
end
section
open PySem PySem.W PyProof.Rows PySem.Calls PySem.Spec PyProof.Rows.LCg
set_option maxRecDepth 100000
set_option maxHeartbeats 1500000
theorem isExc_Stop : isSubtype (.type "StopIteration") (.type "BaseException") = pure true := by rw [isSubtype_type]; kernel_rfl
theorem notTuple_Stop : isSubtype (.type ((Manifest.find? "StopIteration").elim "type" fun x => x.metatype)) (.type "tuple") = pure false := by
  rw [show (Manifest.find? "StopIteration").elim "type" (fun x => x.metatype) = "type" by kernel_rfl, isSubtype_type]; kernel_rfl
theorem sub_Stop : isSubtype (.type "StopIteration") (.type "StopIteration") = pure true := by rw [isSubtype_type]; kernel_rfl
section
variable {prog : Program} {w : World} {A : Around} {E : Value → Shared → Prop} {s : Shared} {h₀ : Heap} {L It Wr l : Addr} {m : Str → Option Value} {news : List (Addr × Obj)} {vs : Array Value} {c j : Nat} {Q : Value → Shared → Prop}
theorem it_list (F : Fr h₀ L s.heap m) (N : News h₀ L s.heap news) (hl : (l, W.listOf vs c) ∈ news)
    (h : ∀ (It : Addr) h', Fr h₀ L h' m → News h₀ L h' ((It, itO l 0) :: news) → (∀ p ∈ news, p.1 < It) → Q (.ref It) { s with heap := h' }) : wpAny (model prog w) A (call (.builtin "iter") [.ref l]) Q E s := by
  refine call_function_entry (by decide +kernel) (by decide +kernel) kdk_entry_iter (kdk_args_iter _) ?_
  unfold Builtin.«iter»
  refine wpAny_bind (m := someArgs "iter" 1 2 _) (wpAny_of_eq (a := [Value.ref l]) (by first | rfl | kernel_rfl!) ?_)
  show wpAny _ _ (pyIter (.ref l) >>= _) _ _ _
  refine wpAny_bind (wpAny_pyIter_list (News.isList N hl) ?_)
  exact wpAny_pure ⟨_, rfl, h _ _ (F.push _) (News.push F N _ rfl) (fun q hq => Heap.lt_size (N q hq).1)⟩
theorem next_N (F : Fr h₀ L s.heap m) (N : News h₀ L s.heap news) (hI : (It, itO l j) ∈ news)
    (h : ∀ (W : Addr) h' tk, Fr h₀ L h' m → News h₀ L h' ((W, wrO It) :: news) → (∀ p ∈ news, p.1 < W) → Q (.ref W) { s with heap := h', toks := tk }) : wpAny (model prog w) A (getAttr (.ref It) (Str.ofString "__next__") true) Q E s :=
  getAttr_next (N _ hI).1 (h _ _ _ (F.push _) (News.push F N _ rfl) (fun q hq => Heap.lt_size (N q hq).1))
theorem wr_item_N {x : Value} (F : Fr h₀ L s.heap m) (N : News h₀ L s.heap news) (hW : (Wr, wrO It) ∈ news) (hI : (It, itO l j) ∈ news) (hl : (l, W.listOf vs c) ∈ news) (hx : vs[j]? = some x)
    (h : ∀ h', Fr h₀ L h' m → News h₀ L h' (setN It (itO l (j + 1)) news) → Q x { s with heap := h' }) : wpAny (model prog w) A (call (.ref Wr) []) Q E s := by
  refine call_wr_item (N _ hW).1 (N _ hI).1 (News.isList N hl) hx fun h' h1 h2 => ?_
  (with_reducible refine (?_ : let G9 : Prop := _; G9)); intro G9
  obtain ⟨F', N'⟩ := led_upd F N hI h2 h1
  k_unfold; clear G9
  exact h h' F' N'
theorem wr_end_N (hh : A.handled = none) (F : Fr h₀ L s.heap m) (N : News h₀ L s.heap news) (hW : (Wr, wrO It) ∈ news) (hI : (It, itO l j) ∈ news) (hl : (l, W.listOf vs c) ∈ news) (hx : vs[j]? = none)
    (h : ∀ h₁ h' e, Fr h₀ L h₁ m → News h₀ L h₁ (cutN It news) → Heap.NewExcOf h₁ h' e "StopIteration" → E (.ref e) { s with heap := h' }) : wpAny (model prog w) A (call (.ref Wr) []) Q E s := by
  refine call_wr_end hh (N _ hW).1 (N _ hI).1 (News.isList N hl) hx fun h₁ h' e h1 h2 => ?_
  have hk : ∀ b o, b ∉ [It] → s.heap.get? b = some o → h₁.get? b = some o := fun b o hb q => (h1.2 _ fun z => hb (by rw [z]; exact .head _)).trans q
  exact h h₁ h' e (fr_but F hk (Ne.symm (N _ hI).2.1) (N _ hI).2.2) (news_but (fun p hp => N p (mem_cutN.mp hp).1) hk cut_off) h2
theorem callWith_wr {pos : Pos} {env : Env} (N : News h₀ L s.heap news) (hW : (Wr, wrO It) ∈ news) (h : wpAny (model prog w) A (call (.ref Wr) []) Q E s) : wpAny (model prog w) A (callWith pos (.ref Wr) [] (backTo pos (starEach [] env)) []) Q E s := by
  unfold callWith
  refine wpAny_bind (wpAny_holding (evalArgs_nil3 (wpAny_bind (wpAny_standAt ?_))))
  refine wpAny_bind (m := keeperOf (.ref Wr)) ?_
  unfold keeperOf
  refine wpAny_bind (wpAny_load (N _ hW).1 ?_)
  simp only [show (Value.type "method-wrapper" != Value.type "method") = true by decide, show (Value.type "method-wrapper" == Value.type "builtin_function_or_method" || Value.type "method-wrapper" == Value.type "method-wrapper") = true by decide, if_true]
  refine wpAny_pure ?_
  exact wpAny_bind (wpAny_mono h (fun r s₂ hr => wpAny_bind (wpAny_holding (wpAny_point (wpAny_pure hr)))) fun _ _ x => x)
end
end
section
open PySem PySem.W PyProof.Rows PySem.Calls PySem.Spec PyProof.Rows.LCg
set_option maxRecDepth 100000
set_option maxHeartbeats 1500000
theorem off1_mem {D : Addr} {l : List (Addr × Obj)} (h : Off1 D l) : ∀ p ∈ l, p.1 ≠ D := by
  induction l with
  | nil => intro p hp; cases hp
  | cons q r ih =>
    intro p hp
    obtain ⟨a, b⟩ := h
    cases hp with
    | head => exact a
    | tail _ hp => exact ih b p hp
section
variable {prog : Program} {w : World} {A : Around} {E : Value → Shared → Prop} {s : Shared} {h₀ : Heap} {L : Addr} {m : Str → Option Value} {env : Env}
theorem dg_values {news : List (Addr × Obj)} {G : Addr} {kvs : List (Int × Value)} {pl : Sem Bool} {Q : Value × List Value → Shared → Prop} (D : DG prog w news G kvs) (N : News h₀ L s.heap news) (h : Q (.builtin "dict.values", [.ref G]) s) : wpAny (model prog w) A (getMethod (.ref G) (Str.ofString "values") pl) Q E s :=
  getMethod_builtin (D.at N).typeIs PySem.F.plainAttrs_dict PySem.F.slot_dict_values PySem.F.type_dict_values (D.at N).mapOf.noDict h
abbrev viewO (G : Addr) : Obj := { cls := .type "dict_values", data := .fields #[.ref G] }
theorem dg_callvalues {news : List (Addr × Obj)} {G : Addr} {kvs : List (Int × Value)} {Q : Value → Shared → Prop} (D : DG prog w news G kvs) (F : Fr h₀ L s.heap m) (N : News h₀ L s.heap news)
    (h : ∀ (V : Addr) h', Fr h₀ L h' m → News h₀ L h' ((V, viewO G) :: news) → (∀ p ∈ news, p.1 < V) → Q (.ref V) { s with heap := h' }) : wpAny (model prog w) A (call (.builtin "dict.values") [.ref G]) Q E s :=
  call_meetsIn PySem.F.slot_dict_values (D.at N).typeIs PySem.F.entry_dict_values (PySem.F.args_dict_values_1 _) (meets_dict_values (intKind prog w) G D.sys) ⟨⟨_, D.at N⟩, h _ _ (F.push _) (News.push F N _ rfl) (fun q hq => Heap.lt_size (N q hq).1)⟩
theorem comp_vals {elt iter : Expr} {x : Str} {px : Pos} {ifs : List Expr} {scope : Scope} {cl : List (Str × Addr)} {pos : Pos} {V G : Addr} {oG : Obj} {kvs : List (Int × Value)} {news : List (Addr × Obj)} {RR : Value → Addr → Result → Shared → Prop}
    (hh : A.handled = none) (hcell : ∀ y ∈ scope.names, y.2 ≠ .cell) (hkind : scope.kind = .function) (hx : scope.names.lookup x = some .local) (hsz : kvs.length ≤ sizeLine)
    (F : Fr h₀ L s.heap m) (N : News h₀ L s.heap news) (hV : (V, viewO G) ∈ news) (hG : (G, oG) ∈ news) (hd : oG.IsDictOf (intKind prog w) kvs)
    (J : Nat → List Value → List (Addr × Obj) → Prop) (hJS : ∀ i ys nw, J i ys nw → (G, oG) ∈ nw) (h0 : J 0 [] news)
    (turn : ∀ i k v ys news₁ I oI C oC D mC h tk (E' : Value → Shared → Prop), i < kvs.length → kvs[i]? = some (k, v) → J i ys news₁ → NsObj oC mC → mC x = some v → Fr h₀ L h m → News h₀ L h ((I, oI) :: (C, oC) :: (D, lst ys) :: news₁) → Off3 I C D news₁ → ((@Ne Nat I C) ∧ (@Ne Nat I D) ∧ (@Ne Nat C D)) →
      wpAny (model prog w) A (forIn ifs true fun c r => if r = true then do let ok ← isTrue c (compEnvC scope cl C env) (eval c (compEnvC scope cl C env)); pure (ForInStep.yield ok) else pure (ForInStep.yield r))
        (fun ok s₃ => if ok = true then wpAny (model prog w) A (eval elt (compEnvC scope cl C env)) (fun y s₄ => CEnd h₀ L m s I oI C D (lst ys) (J (i + 1) (ys ++ [y])) s₄) E' s₃ else CEnd h₀ L m s I oI C D (lst ys) (J (i + 1) ys) s₃) E' { s with heap := h, toks := tk })
    (hRR : ∀ D C h tk m' ys news', Fr h₀ L h m → News h₀ L h ((D, lst ys) :: news') → Off1 D news' → h.Ns C m' → h₀.get? C = none → h₀.get? D = none → C ≠ L → D ≠ L → C ≠ D → (∀ p ∈ news', p.1 ≠ C) → J kvs.length ys news' → RR (.ref D) C (.ok .next) { s with heap := h, toks := tk }) :
    wpAny (model prog w) A (pyIter (.ref V)) (fun it s₂ => wpAny (model prog w) A (newList []) (fun acc s₃ => wpAny (model prog w) A (newFunctionEnv scope env.globals cl [] env.qual none .none (some env)) (fun cenv s₄ =>
      codeAny (model prog w) A (.compStart (.ListComp elt [⟨.Name x px, iter, ifs, 0⟩] scope pos) 0 it acc { cenv with scope := relabel scope env }) (RR acc cenv.locals) s₄) E s₃) E s₂) E s := by
  (with_reducible refine (?_ : let G9 : Prop := _; G9)); intro G9
  obtain ⟨ep, ha⟩ := KdkAt.of hd
  k_unfold; clear G9
  have hlt : G < s.heap.objs.size := Heap.lt_size (N _ hG).1
  refine wpAny_pyIter_values (knd := intKind prog w) ⟨_, (N _ hV).1, rfl, rfl⟩ (ha.dictAt (N _ hG).1) ?_
  have W := Walks.dictValues (prog := prog) (w := w) (knd := intKind prog w) hh s.heap.objs.size G (Nat.ne_of_lt hlt) kvs ep
  refine comp_J (KTurns.ofWalks (target := .Name x px) W fun i v s' Q' E' st q => letGo_name q) hsz W.self (fun i h st => by obtain ⟨o, e, _⟩ := st.1; exact ⟨o, e⟩) (S := fun nw => (G, oG) ∈ nw)
    (fun i h h' o nw st e e' k N S => ⟨by obtain ⟨o', q, r⟩ := st.1; rw [e] at q; cases q; exact ⟨o, e', r⟩, ha.dictAt (N _ S).1⟩) hcell hkind ⟨⟨_, Heap.get?_push_size _ rfl, rfl, rfl⟩, ha.dictAt (Heap.get?_push_of_some _ (N _ hG).1)⟩ (fun b hb => ?_)
      (F.keeps fun _ _ e => Heap.get?_push_of_some _ e) (N.grown fun _ _ e => Heap.get?_push_of_some _ e) (Nat.ne_of_lt F.ns.lt) (next_is_new F) (fun p hp => Nat.ne_of_lt (Heap.lt_size (N p hp).1)) J hJS h0 ?_ hRR
  · show b < (s.heap.push _).objs.size
    rw [Heap.size_push]
    rcases List.mem_cons.mp hb with rfl | hb
    · exact Nat.lt_succ_self _
    · rw [List.mem_singleton.mp hb]; exact Nat.lt_succ_of_lt hlt
  · intro i v ys news₁ oI C oC D mC h tk E' hi pt913 hJ hC Fi Ni off ne
    (with_reducible refine (?_ : let G9 : Prop := _; G9)); intro G9
    obtain ⟨k, hk⟩ := pt913
    k_unfold; clear G9
    refine asg_name hkind hx hC Fi Ni off ne fun oC' h' tk' hC' F' N' => ?_
    exact turn i k v ys news₁ _ oI C oC' D _ h' tk' E' hi hk hJ hC' (by simp) F' N' off ne
end
end
section
open PySem PySem.W PyProof.Rows PySem.Calls PySem.Spec PyProof.Rows.LCg
set_option maxRecDepth 100000
set_option maxHeartbeats 1500000
section
variable {prog : Program} {w : World} {A₀ A : Around} {E : Value → Shared → Prop} {s' : Shared} {base g g₀ G B h₅ : Heap} {outer : List Env} {env : Env} {L e : Addr} {m : Str → Option Value} {cls : Value}
  {b₀ : Stmt} {suite : List Stmt} {pos : Pos} {rest : List ExceptHandler} {Q : Flow → Shared → Prop} {news : List (Addr × Obj)} {KF : Frag} {tt : Expr}
  {p : Program} {loose : List Str} {mean : ExcName → Option Value} {mg mb : Str → Option Value}
theorem ground_any (hf : env.frame = some L) (K : Below A₀ base outer g) (F : Fr g L G m) (hBG : ∀ b o, G.get? b = some o → b ∉ (env :: outer).filterMap (·.frame) → B.get? b = some o) (hBh : B.StaysIn h₅) (hsm : G.UpToSlots h₅) :
    ∃ g', KtsTurn (outer.filterMap (·.frame)) g g' ∧ Fr g' L h₅ m ∧ Below A₀ base outer g' := by
  obtain ⟨T, S⟩ := kts_turn_at (h := h₅) (fs := outer.filterMap (·.frame)) (g := g)
    (fun b hb => by
      obtain ⟨_, o, ho, _⟩ := K.frames.mem hb
      exact ⟨o, ho⟩)
    (fun b o e nm => hBh b o (hBG b o (F.keep b o e) (fun hm => by
      rcases memX hf hm with z | z
      · rw [z, kts_self F] at e
        cases e
      · exact nm z)))
    (fun b o e hm => by
      obtain ⟨_, o', ho', hd⟩ := K.frames.mem hm
      rw [e] at ho'
      cases ho'
      exact hsm b o (F.keep b o e) hd)
  refine ⟨_, T, ⟨hsm.ns F.ns, S, by rw [T.size]; exact F.above⟩, ⟨K.stack, fun b o e => T.other b o (K.stays b o e) (fun hm => by
    rw [(K.frames.mem hm).1] at e
    cases e), K.frames.of_keeps fun b o e _ => ?_⟩⟩
  obtain ⟨sl, hs⟩ := T.up e
  exact ⟨_, hs, rfl⟩
theorem caught_any (hf : env.frame = some L) (R : RaisedSN base G (env :: outer) e cls news s'.heap) (F : Fr g L G m) (K : Below A₀ base outer g) (hsm : G.UpToSlots s'.heap) (XB : KF.In base) (TB : Top p loose mean mg mb base)
    (D : KtsDicts (outer.filterMap (·.frame)) g) (T0 : KtsTurn (outer.filterMap (·.frame)) g₀ g)
    (test : ∀ (g5 : Heap) (s5 : Shared) (Qb : Bool → Shared → Prop) (E5 : Value → Shared → Prop) (A5 : Around), Fr g5 L s5.heap m → KF.In g5 → Top p loose mean mg mb g5 → Looks (model prog w) s5.heap (typeOf (.ref e)) cls → Qb true s5 →
      wpAny (model prog w) A5 (eval tt env) (fun c s₁ => wpAny (model prog w) A5 (excMatches (.ref e) c) Qb E5 s₁) E5 s5)
    (k : ∀ h' g', KtsTurn (outer.filterMap (·.frame)) g₀ g' → Fr g' L h' m → News g' L h' news → Below A₀ base outer g' → KF.In g' → Top p loose mean mg mb g' → KtsDicts (outer.filterMap (·.frame)) g' →
      wpAny (model prog w) ((A₀.deeper env).mark (some (.ref e))) (execs (b₀ :: suite) env) Q E { s' with heap := h' })
    (hE : PassesOwnAt (model prog w) ((A₀.deeper env).mark (some (.ref e))) (A₀.deeper env) env E := by passes_own) :
    wpAny (model prog w) (A₀.deeper env) (noteFrame (.ref e) env)
      (fun _ s₂ => wpAny (model prog w) (A₀.deeper env) (setFlight (.ref e) none) (fun _ s₃ =>
        wpAny (model prog w) (A₀.deeper env) (handleBy (.ref e) env (.ExceptHandler (some tt) none (b₀ :: suite) pos :: rest)) Q E s₃) E s₂) E s' := by
  (with_reducible refine (?_ : let G9 : Prop := _; G9)); intro G9
  obtain ⟨B, a0, hB, hBG, hl, hfl⟩ := R
  k_unfold; clear G9
  have hL : B.get? L = none := by
    (with_reducible refine (?_ : let G9 : Prop := _; G9)); intro G9
    obtain ⟨_, ⟨L', _, hf', hn', _⟩, _⟩ := hfl.2.2.1
    k_unfold; clear G9
    rw [hf] at hf'
    obtain rfl : L = L' := Option.some.inj hf'
    exact hn'
  refine wpAny_looks_onW (Around.frames_deeper K.stack) hf hfl fun h₄ hheld₄ hsm₄ => ?_
  refine wpAny_landsW hheld₄ fun h₅ hheld hsm₅' => ?_
  have hsm₅ := hsm₄.trans hsm₅'
  (with_reducible refine (?_ : let G9 : Prop := _; G9)); intro G9
  obtain ⟨g₅, T₅, F₅, K₅⟩ := ground_any hf K F hBG hheld.1 (hsm.trans hsm₅)
  k_unfold; clear G9
  have lk : Looks (model prog w) h₅ (typeOf (.ref e)) cls := by
    (with_reducible refine (?_ : let G9 : Prop := _; G9)); intro G9
    obtain ⟨ob, hob, hc⟩ := hheld.there
    k_unfold; clear G9
    subst hc
    exact (Looks.ld hob).andThen .now
  refine wpAny_handleBy_cons (codeAny_handlers_test (test g₅ _ _ _ _ F₅ (XB.keeps K₅.stays) (TB.keeps K₅.stays) lk ?_)) (by intro q; cases q)
  refine codeAny_handlers_suite ?_
  refine lands_againW hheld fun h₆ hfl₆ hsm₆ => ?_
  (with_reducible refine (?_ : let G9 : Prop := _; G9)); intro G9
  obtain ⟨g₆, T₆, F₆, K₆⟩ := ground_any hf K F hBG hfl₆.1 ((hsm.trans hsm₅).trans hsm₆)
  k_unfold; clear G9
  have Nl : News g₆ L h₆ news := fun q hq => ⟨hfl₆.1 _ _ (hl q hq).1, (fun z => by have := (hl q hq).1; rw [z, hL] at this; cases this), T₆.none_ _ (kts_none F.keep (hl q hq).2.1)⟩
  exact wpAny_passesOwnAt hE (k h₆ g₆ (T0.trans T₆) F₆ Nl K₆ (XB.keeps K₆.stays) (TB.keeps K₆.stays) (D.turn T₆))
theorem ground_turn (hf : env.frame = some L) (K : Below A₀ base outer g) (F : Fr g L G m) (XB : KF.In base) (TB : Top p loose mean mg mb base) (D : KtsDicts (outer.filterMap (·.frame)) g) {G' : Heap} (T' : KtsTurn ((env :: outer).filterMap (·.frame)) G G') :
    ∃ g', KtsTurn (outer.filterMap (·.frame)) g g' ∧ Fr g' L G' m ∧ Below A₀ base outer g' ∧ KF.In g' ∧ Top p loose mean mg mb g' ∧ KtsDicts (outer.filterMap (·.frame)) g' := by
  obtain ⟨T₁, S₁⟩ := kts_turn_at (h := G') (fs := outer.filterMap (·.frame)) (g := g)
    (fun b hb => by
      obtain ⟨_, o, ho, _⟩ := K.frames.mem hb
      exact ⟨o, ho⟩)
    (fun b o e nm => T'.other b o (F.keep b o e) (fun hm => by
      rcases memX hf hm with z | z
      · rw [z, kts_self F] at e
        cases e
      · exact nm z))
    (fun b o e hm => T'.up (F.keep b o e))
  obtain ⟨oL, es, ep, hLg, hLd, hLk, hLf⟩ := F.ns
  obtain ⟨sl, hs⟩ := T'.up hLg
  have B₃ : Below A₀ base outer (ktsHeap G' (outer.filterMap (·.frame)) g) := ⟨K.stack, fun b o e => T₁.other b o (K.stays b o e) (fun hm => by
    rw [(K.frames.mem hm).1] at e
    cases e), K.frames.of_keeps fun b o e _ => by
    obtain ⟨sl', hs'⟩ := T₁.up e
    exact ⟨_, hs', rfl⟩⟩
  exact ⟨_, T₁, ⟨⟨_, es, ep, hs, hLd, hLk, hLf⟩, S₁, by rw [T₁.size]; exact F.above⟩, B₃, XB.keeps B₃.stays, TB.keeps B₃.stays, D.turn T₁⟩
end
end
section
open PySem PySem.W PyProof.Rows PySem.Calls PySem.Spec PyProof.Rows.LCg
set_option maxRecDepth 100000
set_option maxHeartbeats 1500000
section
variable {M : Model} {A : Around} {E : Value → Shared → Prop} {s : Shared} {env : Env}
theorem MethodCallStar {o : Expr} {name : Str} {apos pos : Pos} {args : List Expr} {Q : Value → Shared → Prop}
    (h : wpAny M A (eval o env) (fun ov s₁ => wpAny M A (getAttr ov name true) (fun f s₂ => wpAny M A (callWith pos f [] (backTo pos (starEach args env)) []) Q E s₂) E s₁) E s)
    (hbase : attributeBase o name env (eval o env) = eval o env := by rfl)
    (hf : methodCallForm (args.length + ([] : List Keyword).length) (backTo pos (starEach args env)) (backToKw pos (keywordEach [] env)) = false := by rfl) :
    wpAny M A (eval (.Call (.Attribute o name apos) args [] pos) env) Q E s := by
  rw [arm_eval_Call, hbase]
  refine wpAny_bind (wpAny_mono h (fun ov s₁ h₁ => ?_) fun _ _ e => e)
  refine wpAny_bind (wpAny_standAt ?_)
  unfold methodCall
  rw [hf]
  refine wpAny_bind (wpAny_holding ?_)
  unfold calleeOf
  rw [if_neg (by decide)]
  refine wpAny_bind (wpAny_mono h₁ (fun f s₂ h₂ => ?_) fun _ _ e => e)
  refine wpAny_pure ?_
  dsimp only
  unfold methodCallPos
  simp only [Bool.not_false, Bool.true_or, if_true]
  exact wpAny_bind (wpAny_pure h₂)
theorem callWith_MS {K : Frag} {q g : Addr} {self : Value} {e : Expr} {rest : List Expr} {pos : Pos} {Q : Value → Shared → Prop} (hf : fnIn K g = true)
    (h : wpAny M A (spliced (backTo pos (starEach (e :: rest) env))) (fun vs s₁ => MethP K q g self s₁.heap ∧ wpAny M A (call (.ref q) vs) Q E s₁) E s)
    (he : starEach (e :: rest) env = (false, eval e env) :: starEach rest env := by rfl) (hst : (backTo pos (starEach rest env)).any (·.1) = true := by rfl) :
    wpAny M A (callWith pos (.ref q) [] (backTo pos (starEach (e :: rest) env)) []) Q E s := by
  rw [he] at h ⊢
  exact ks_call (P := MethP K q g self) (by show (false || (backTo pos (starEach rest env)).any (·.1)) = true; rw [hst]; rfl) (keeps_M hf) (evalArgs_plain h)
theorem callWith_MS1 {K : Frag} {q g : Addr} {self : Value} {e : Expr} {p pos : Pos} {Q : Value → Shared → Prop} (hf : fnIn K g = true)
    (h : wpAny M A (eval e env) (fun v s₁ => StarOf M A E v (fun vs s₂ => MethP K q g self s₂.heap ∧ wpAny M A (call (.ref q) vs) Q E s₂) s₁) E s)
    (he : starEach [.Starred e p] env = [(true, eval e env)] := by rfl) :
    wpAny M A (callWith pos (.ref q) [] (backTo pos (starEach [.Starred e p] env)) []) Q E s := by
  rw [he]
  exact ks_call (P := MethP K q g self) rfl (keeps_M hf) (ks_lone h)
end
end
section
open PySem PySem.W PyProof.Rows PySem.Calls PySem.Spec PyProof.Rows.LCg
set_option maxRecDepth 100000
set_option maxHeartbeats 1500000
section
variable {prog : Program} {w : World} {A : Around} {E : Value → Shared → Prop} {s : Shared} {h₀ : Heap} {L t : Addr} {m : Str → Option Value} {news : List (Addr × Obj)} {Q : Value → Shared → Prop}
theorem sorted_tup {vs : List Value} {ns : List Int} {o : Obj} {n : Nat} (F : Fr h₀ L s.heap m) (N : News h₀ L s.heap news) (ht : (t, o) ∈ news) (hc : o.cls = .type "tuple") (hd : o.data = .seq vs.toArray n) (hI : IntsAre vs ns) (h64 : vs.length < 64)
    (h : ∀ (D : Addr) (h' : Heap) (vs' : List Value) (ns' : List Int) (e : Nat), Fr h₀ L h' m → News h₀ L h' ((D, W.listOf vs'.toArray e) :: news) → (∀ p ∈ news, p.1 < D) → IntsAre vs' ns' → ns'.Perm ns → ns'.Pairwise (· ≤ ·) → Q (.ref D) { s with heap := h' }) :
    wpAny (model prog w) A (call (.builtin "sorted") [.ref t]) Q E s := by
  refine Calls.call_function_entry kind_sorted plain_sorted entry_sorted (args_sorted1 _) ?_
  unfold Builtin.«sorted»
  refine wpAny_bind (m := checkCount "sorted" 1 1 _) (wpAny_pure ?_)
  refine wpAny_bind (wpAny_collect_seq (T := "tuple") t (.inr rfl) (N _ ht).1 hc hd (fun h1 hk => ?_) (by rw [sizeLine_eq, List.size_toArray]; omega))
  refine wpAny_bind (wpAny_newList ?_ (by rw [sizeLine_eq]; simp; omega))
  have hoL : (h1.push (seqObj "list" vs.toArray 0)).get? h1.objs.size = some (seqObj "list" vs.toArray 0) := Heap.get?_push_size _ rfl
  refine wpAny_bind (wpAny_holding (wpAny_call_entry slot_list_sort ⟨_, hoL, rfl⟩ entry_list_sort (list_sort_tree hoL hI h64 fun out ns' a1 a2 a3 => ⟨_, rfl, ?_⟩) (args_list_sort _)))
  have F1 : Fr h₀ L h1 m := F.kept hk
  have N1 : News h₀ L h1 news := fun p hp => ⟨hk _ _ (N p hp).1, (N p hp).2⟩
  have keep : ∀ b ob, h1.get? b = some ob → (sortedHeap (h1.push (seqObj "list" vs.toArray 0)) h1.objs.size vs out).get? b = some ob := fun b ob e1 => by
    have hlt : b < h1.objs.size := Heap.lt_size e1
    rw [sortedHeap_old (Nat.ne_of_lt hlt) (by rw [size_push']; exact Nat.lt_succ_of_lt hlt)]
    exact Heap.get?_push_of_some _ e1
  (with_reducible refine (?_ : let G9 : Prop := _; G9)); intro G9
  obtain ⟨e, he⟩ := sortedHeap_at (out := out) hoL
  k_unfold; clear G9
  exact wpAny_pure ⟨_, rfl, h _ _ out.toList ns' e (F1.kept keep) (N1.kept_cons F1 keep (Nat.le_refl _) he) (fun p hp => Heap.lt_size (N1 p hp).1) a1 a2 a3⟩
end
end
section
open PySem PySem.W PyProof.Rows PySem.Calls PySem.Spec PyProof.Rows.LCg
set_option maxRecDepth 100000
set_option maxHeartbeats 1500000
abbrev flatE (x1 x2 : Str) (i0 : Expr) (pe p1 p2 p3 pos : Pos) (scope : Scope) : Expr := .ListComp (.Name x2 pe) [⟨.Name x1 p1, i0, [], 0⟩, ⟨.Name x2 p2, .Name x1 p3, [], 0⟩] scope pos
theorem flat_turn0 (x1 x2 : Str) (i0 : Expr) (pe p1 p2 p3 pos : Pos) (scope : Scope) (it acc : Value) (env : Env) :
    compTurn (flatE x1 x2 i0 pe p1 p2 p3 pos scope) 0 it acc env = (do
      standAt i0.pos
      match ← pyNext it with
      | none => pure (.done .next)
      | some v =>
        letOwnedTupleGo (.Name x1 p1) it v
        assign (.Name x1 p1) env v
        let x ← eval (.Name x1 p3) env
        standAt p3
        let x ← foldedSetIterable (.Name x1 p3) env x
        let _ ← runOwn (.compStart (flatE x1 x2 i0 pe p1 p2 p3 pos scope) 1 (← holding [x] (pyIter x)) acc env) env
        again (.compLoop (flatE x1 x2 i0 pe p1 p2 p3 pos scope) 0 it acc env)) := by rfl
theorem flat_turn1 (x1 x2 : Str) (i0 : Expr) (pe p1 p2 p3 pos : Pos) (scope : Scope) (it acc : Value) (env : Env) :
    compTurn (flatE x1 x2 i0 pe p1 p2 p3 pos scope) 1 it acc env = (do
      standAt p3
      match ← pyNext it with
      | none => pure (.done .next)
      | some v =>
        letOwnedTupleGo (.Name x2 p2) it v
        assign (.Name x2 p2) env v
        (do let _ ← call (.builtin "list.append") [acc, ← eval (.Name x2 pe) env])
        again (.compLoop (flatE x1 x2 i0 pe p1 p2 p3 pos scope) 1 it acc env)) := by rfl
section
variable {prog : Program} {w : World} {A : Around} {E : Value → Shared → Prop} {R : Result → Shared → Prop} {s : Shared} {env : Env} {x1 x2 : Str} {i0 : Expr} {pe p1 p2 p3 pos : Pos} {scope : Scope}
theorem flat_start1 {it acc : Value} (h0 : codeAny (model prog w) A (.compLoop (flatE x1 x2 i0 pe p1 p2 p3 pos scope) 1 it acc env) R s)
    (h : wpAny (model prog w) A (pyIter it) (fun it' s' => codeAny (model prog w) A (.compLoop (flatE x1 x2 i0 pe p1 p2 p3 pos scope) 1 it' acc env) R s') (notedBy (model prog w) A env fun x s' => R (.error x) s') s) :
    codeAny (model prog w) A (.compStart (flatE x1 x2 i0 pe p1 p2 p3 pos scope) 1 it acc env) R s := by
  refine codeAny_of_tree ?_
  show wpAny _ _ ((compStart (flatE x1 x2 i0 pe p1 p2 p3 pos scope) 1 it acc env).onRaise (fun x => do noteFrame x env; standAt theWindowsPlace)) _ _ s
  refine wpAny_notedAt ?_
  unfold compStart
  show wpAny _ _ (ask >>= _) _ _ s
  refine wpAny_bind (wpAny_askSetting (wpAny_ite ?_))
  split
  · first
      | exact wpAny_bind (wpAny_pure (wpAny_pure (And.intro rfl h0)))
      | exact wpAny_pure (And.intro rfl h0)
  · first
      | exact wpAny_bind (wpAny_rule (wpAny_bind (wpAny_standAt (wpAny_bind (wpAny_mono h (fun it' s' h' => wpAny_pure (And.intro rfl h')) fun _ _ x => x)))))
      | (refine wpAny_bind (wpAny_rule ?_); show wpAny _ _ (standAt p3 >>= _) _ _ s; exact wpAny_bind (wpAny_standAt (wpAny_bind (wpAny_mono h (fun it' s' h' => wpAny_pure (And.intro rfl h')) fun _ _ x => x))))
theorem flat_inner {C D J l : Addr} {vs : Array Value} {ys : List Value} {m : Str → Option Value} (hh : A.handled = none) (hkx : env.kindOf x2 = some .local) (hkf : env.scope.kind = .function) (hC : env.locals = C) (hnd : (x2 == ("__debug__" : Str)) = false)
    (hp : (env.scope.kind == .class || (env.scope.kind == .module && env.locals != env.globals)) = false) (hn : s.heap.Ns C m) (hD : s.heap.get? D = some (lst ys)) (hJ : s.heap.IsListIter J l 0) (hl : s.heap.IsList l vs)
    (n1 : C ≠ D) (n2 : C ≠ J) (n3 : D ≠ J) (n4 : l ≠ C) (n5 : l ≠ D) (n6 : l ≠ J) (hsz : ys.length + vs.size ≤ sizeLine)
    (hR : ∀ h' tk m', (∀ b o, b ≠ C → b ≠ D → b ≠ J → s.heap.get? b = some o → h'.get? b = some o) → h'.Ns C m' → h'.get? D = some (lst (ys ++ vs.toList)) → R (.ok .next) { s with heap := h', toks := tk }) :
    codeAny (model prog w) A (.compLoop (flatE x1 x2 i0 pe p1 p2 p3 pos scope) 1 (.ref J) (.ref D) env) R s := by
  subst hC
  refine codeAny_loop rfl (fun n s' => ∃ h tk j m', s' = { s with heap := h, toks := tk } ∧ j ≤ vs.size ∧ n = vs.size - j ∧ (∀ b o, b ≠ env.locals → b ≠ D → b ≠ J → s.heap.get? b = some o → h.get? b = some o) ∧ h.IsListIter J l j ∧ h.Ns env.locals m' ∧ h.get? D = some (lst (ys ++ vs.toList.take j)))
    (fun n s' hI => ?_) vs.size ⟨s.heap, s.toks, 0, m, rfl, Nat.zero_le _, rfl, fun _ _ _ _ _ e => e, hJ, hn, by simpa using hD⟩
  show wpAny _ A ((compTurn (flatE x1 x2 i0 pe p1 p2 p3 pos scope) 1 (.ref J) (.ref D) env).onRaise (fun x => do noteFrame x env; theTreesLotGoes x)) _ _ s'
  refine wpAny_noted ?_
  rw [flat_turn1]
  (with_reducible refine (?_ : let G9 : Prop := _; G9)); intro G9
  obtain ⟨h, tk, j, m', rfl, hj, rfl, hk, hit, hn', hD'⟩ := hI
  k_unfold; clear G9
  have hl' : h.IsList l vs := hl.at fun o e => hk l o n4 n5 n6 e
  refine wpAny_bind (wpAny_standAt (wpAny_bind ?_))
  cases hv : vs[j]? with
  | none =>
    have hje : j = vs.size := by exact Nat.le_antisymm hj (Array.getElem?_eq_none_iff.mp hv)
    refine wpAny_pyNext_list_end hh hit hl' hv fun h₁ he₁ => wpAny_pure ?_
    refine hR h₁ tk m' (fun b o a b' c e => he₁ b o c (hk b o a b' c e)) (hn'.at' fun o e => he₁ _ o n2 e) ?_
    have := he₁ _ _ n3 hD'
    rw [hje, List.take_of_length_le (by simp)] at this
    exact this
  | some v =>
    have hlt : j < vs.size := (Array.getElem?_eq_some_iff.mp hv).1
    refine wpAny_pyNext_list_item hit hl' hv fun h₁ hit₁ hs₁ => ?_
    dsimp only
    refine wpAny_bind (letGo_name ?_)
    refine wpAny_bind (wpAny_assign_Name (wpAny_storeName_local hkx (hn'.sameBut hs₁ n2) (fun h₂ hn₂ hs₂ => ?_) hp))
    refine wpAny_bind (wpAny_bind (wpAny_Name (wpAny_loadName_local (v := v) hkf hkx hn₂ (by simp) ?_) hnd))
    have hD₂ : h₂.get? D = some (lst (ys ++ vs.toList.take j)) := hs₂.extBut _ _ (Ne.symm n1) (hs₁.extBut _ _ n3 hD')
    refine wpAny_bind (append_at hD₂ (fun h₃ hs₃ hD₃ => ?_) (by have hvl : vs.toList.length = vs.size := Array.length_toList; simp only [List.size_toArray, List.length_append, List.length_take]; omega))
    refine wpAny_pure ?_
    refine wpAny_pure (And.intro rfl ⟨ vs.size - (j + 1), sub_dn hlt, h₃, _, j + 1, _, rfl, hlt, rfl, fun b o a b' c e => hs₃.extBut b o b' (hs₂.extBut b o a (hs₁.extBut b o c (hk b o a b' c e))),
      (hit₁.extBut hs₂.extBut (Ne.symm n2)).extBut hs₃.extBut (Ne.symm n3), hn₂.sameBut hs₃ n1, ?_⟩)
    have e2 : vs.toList.take (j + 1) = vs.toList.take j ++ [v] := by rw [List.take_add_one, Array.getElem?_toList, hv]; rfl
    rw [hD₃, e2, ← List.append_assoc, ← lst_snoc]
theorem comp_flat {cl : List (Str × Addr)} {RL : Addr} {ws : Array Value} {vss : List (List Value)} {RR : Value → Addr → Result → Shared → Prop} (hh : A.handled = none) (hcell : ∀ y ∈ scope.names, y.2 ≠ .cell) (hkind : scope.kind = .function) (hx1 : scope.names.lookup x1 = some .local) (hx2 : scope.names.lookup x2 = some .local)
    (hd1 : (x1 == ("__debug__" : Str)) = false) (hd2 : (x2 == ("__debug__" : Str)) = false) (hl : s.heap.IsList RL ws) (hrows : ∀ (i : Nat) v, ws[i]? = some v → ∃ l us, v = .ref l ∧ s.heap.IsList l us ∧ vss[i]? = some us.toList) (hlen : vss.length = ws.size) (hsz : vss.flatten.length ≤ sizeLine)
    (hRR : ∀ D C h' tk m', (∀ b o, s.heap.get? b = some o → h'.get? b = some o) → s.heap.get? D = none → s.heap.get? C = none → D ≠ C → h'.Ns C m' → h'.get? D = some (lst vss.flatten) → RR (.ref D) C (.ok .next) { s with heap := h', toks := tk }) :
    wpAny (model prog w) A (pyIter (.ref RL)) (fun it s₂ => wpAny (model prog w) A (newList []) (fun acc s₃ => wpAny (model prog w) A (newFunctionEnv scope env.globals cl [] env.qual none .none (some env)) (fun cenv s₄ =>
      codeAny (model prog w) A (.compStart (flatE x1 x2 i0 pe p1 p2 p3 pos scope) 0 it acc { cenv with scope := relabel scope env }) (RR acc cenv.locals) s₄) E s₃) E s₂) E s := by
  refine wpAny_pyIter_list hl (wpAny_newObj_type (wpAny_newFunctionEnv hcell (by intro y hy; simp at hy) (fun h₁ hns₁ hsb₁ => ?_) hkind))
  dsimp only at hns₁ hsb₁ ⊢
  (with_reducible refine (?_ : let G9 : Prop := _; G9)); intro G9
  obtain ⟨ol, hol, hol'⟩ := id hl
  k_unfold; clear G9
  have hax : RL < s.heap.objs.size := Heap.lt_size hol
  generalize hH1 : s.heap.push { cls := .type "list_iterator", data := .fields #[.ref RL, .int 0 0] } = H1 at hns₁ hsb₁ ⊢
  have hD : H1.objs.size = s.heap.objs.size + 1 := by rw [← hH1, Heap.size_push]
  generalize hH2 : H1.push { cls := .type "list", dict := none, data := .seq ([] : List Value).toArray } = H2 at hns₁ hsb₁ ⊢
  have hC : H2.objs.size = s.heap.objs.size + 2 := by rw [← hH2, Heap.size_push, hD]
  have hDI : H1.objs.size ≠ s.heap.objs.size := by rw [hD]; exact Nat.succ_ne_self _
  have hDC : H1.objs.size ≠ H2.objs.size := by rw [hD, hC]; exact Nat.ne_of_lt (Nat.lt_succ_self _)
  have hIC : s.heap.objs.size ≠ H2.objs.size := by rw [hC]; exact Nat.ne_of_lt (Nat.lt_succ_of_lt (Nat.lt_succ_self _))
  have below : ∀ b, b < s.heap.objs.size → b ≠ H2.objs.size ∧ b ≠ s.heap.objs.size ∧ b ≠ H1.objs.size := fun b hb =>
    ⟨by rw [hC]; exact Nat.ne_of_lt (Nat.lt_succ_of_lt (Nat.lt_succ_of_lt hb)), Nat.ne_of_lt hb, by rw [hD]; exact Nat.ne_of_lt (Nat.lt_succ_of_lt hb)⟩
  have old : ∀ b o, s.heap.get? b = some o → h₁.get? b = some o := fun b o e =>
    hsb₁.extBut b o (below b (Heap.lt_size e)).1 (Heap.get?_push_of_some _ (hH2 ▸ Heap.get?_push_of_some _ (hH1 ▸ Heap.get?_push_of_some _ e)))
  have hit : h₁.IsListIter s.heap.objs.size RL 0 :=
    ⟨_, hsb₁.extBut _ _ hIC (Heap.get?_push_of_some _ (hH2 ▸ Heap.get?_push_of_some _ (hH1 ▸ Heap.get?_push_size _ rfl))), rfl, rfl⟩
  have hacc : h₁.get? H1.objs.size = some (lst []) := hsb₁.extBut _ _ hDC (Heap.get?_push_of_some _ (hH2 ▸ Heap.get?_push_size _ rfl))
  have fresh : ∀ a, s.heap.objs.size ≤ a → s.heap.get? a = none := fun a ha => by
    cases e : s.heap.get? a with
    | none => rfl
    | some o' => exact absurd (Heap.lt_size e) (Nat.not_lt.mpr ha)
  generalize hCe : H2.objs.size = C at *
  generalize hDe : H1.objs.size = D at *
  generalize hIe : s.heap.objs.size = I at *
  have hk1 : (compEnvC scope cl C env).kindOf x1 = some .local := lookup_relabel_local hx1
  have hk2 : (compEnvC scope cl C env).kindOf x2 = some .local := lookup_relabel_local hx2
  have kp : ((compEnvC scope cl C env).scope.kind == .class || ((compEnvC scope cl C env).scope.kind == .module && (compEnvC scope cl C env).locals != (compEnvC scope cl C env).globals)) = false := by
    show (scope.kind == .class || (scope.kind == .module && _)) = false
    rw [hkind]; rfl
  have loop : ∀ s₂ : Shared, s₂ = { s with heap := h₁, toks := s.toks + ([] : List (Str × Value)).length } →
      codeAny (model prog w) A (.compLoop (flatE x1 x2 i0 pe p1 p2 p3 pos scope) 0 (.ref I) (.ref D) (compEnvC scope cl C env)) (RR (.ref D) C) s₂ := by
    rintro s₂ rfl
    refine codeAny_loop rfl (fun n s' => ∃ h tk i m', s' = { s with heap := h, toks := tk } ∧ i ≤ ws.size ∧ n = ws.size - i ∧ (∀ b o, s.heap.get? b = some o → h.get? b = some o) ∧ h.IsListIter I RL i ∧ h.Ns C m' ∧ h.get? D = some (lst (vss.take i).flatten))
      (fun n s' hI => ?_) ws.size ⟨h₁, _, 0, _, rfl, Nat.zero_le _, rfl, old, hit, hns₁, hacc⟩
    show wpAny _ A ((compTurn (flatE x1 x2 i0 pe p1 p2 p3 pos scope) 0 (.ref I) (.ref D) (compEnvC scope cl C env)).onRaise (fun x => do noteFrame x (compEnvC scope cl C env); theTreesLotGoes x)) _ _ s'
    refine wpAny_noted ?_
    rw [flat_turn0]
    (with_reducible refine (?_ : let G9 : Prop := _; G9)); intro G9
    obtain ⟨h, tk, i, m', rfl, hi, rfl, hk, hit, hn', hD'⟩ := hI
    k_unfold; clear G9
    have hl' : h.IsList RL ws := hl.at fun o e => hk RL o e
    refine wpAny_bind (wpAny_standAt (wpAny_bind ?_))
    cases hv : ws[i]? with
    | none =>
      have hie : i = ws.size := by exact Nat.le_antisymm hi (Array.getElem?_eq_none_iff.mp hv)
      refine wpAny_pyNext_list_end hh hit hl' hv fun h₂ he₂ => wpAny_pure ?_
      refine hRR D C h₂ tk m' (fun b o e => he₂ b o (below b (hIe ▸ Heap.lt_size e)).2.1 (hk b o e)) (fresh _ (by rw [hD]; exact Nat.le_succ _)) (fresh _ (by rw [hC]; exact Nat.le_add_right _ _)) hDC (hn'.at' fun o e => he₂ _ o (Ne.symm hIC) e) ?_
      have := he₂ _ _ hDI hD'
      rw [hie, List.take_of_length_le (by rw [hlen]; exact Nat.le_refl _)] at this
      exact this
    | some v =>
      have hlt : i < ws.size := (Array.getElem?_eq_some_iff.mp hv).1
      (with_reducible refine (?_ : let G9 : Prop := _; G9)); intro G9
      obtain ⟨l, us, rfl, hlu, hvu⟩ := hrows i v hv
      k_unfold; clear G9
      refine wpAny_pyNext_list_item hit hl' hv fun h₂ hit₂ hs₂ => ?_
      dsimp only
      refine wpAny_bind (letGo_name ?_)
      refine wpAny_bind (wpAny_assign_Name (wpAny_storeName_local hk1 (hn'.sameBut hs₂ (Ne.symm hIC)) (fun h₃ hn₃ hs₃ => ?_) kp))
      refine wpAny_bind (wpAny_Name (wpAny_loadName_local (v := .ref l) hkind hk1 hn₃ (by simp) ?_) hd1)
      refine wpAny_bind (wpAny_standAt ?_)
      refine wpAny_bind (wpAny_pure ?_)
      (with_reducible refine (?_ : let G9 : Prop := _; G9)); intro G9
      obtain ⟨olu, holu, _⟩ := id hlu
      k_unfold; clear G9
      have hlb := below l (hIe ▸ Heap.lt_size holu)
      have hl3 : h₃.IsList l us := hlu.at fun o e => hs₃.extBut _ _ hlb.1 (hs₂.extBut _ _ hlb.2.1 (hk _ _ e))
      have hD3 : h₃.get? D = some (lst (vss.take i).flatten) := hs₃.extBut _ _ hDC (hs₂.extBut _ _ hDI hD')
      have hJC : C ≠ h₃.objs.size := Nat.ne_of_lt (by obtain ⟨o, _, _, e, _⟩ := hn₃; exact Heap.lt_size e)
      have hJD : D ≠ h₃.objs.size := Nat.ne_of_lt (Heap.lt_size hD3)
      have hit₃ : h₃.IsListIter I RL (i + 1) := hit₂.extBut hs₃.extBut hIC
      have hJI : I ≠ h₃.objs.size := Nat.ne_of_lt (by obtain ⟨o, e, _⟩ := hit₃; exact Heap.lt_size e)
      have hJl : l ≠ h₃.objs.size := Nat.ne_of_lt (by obtain ⟨o, e, _⟩ := hl3; exact Heap.lt_size e)
      refine wpAny_bind (wpAny_holding (wpAny_pyIter_list hl3 ?_))
      refine wpAny_bind (wpAny_runOwn ?_ (by intro x; cases x))
      have hle : ((vss.take i).flatten).length + us.size ≤ sizeLine := by
        refine Nat.le_trans ?_ hsz
        have e2 : vss = vss.take i ++ (us.toList :: vss.drop (i + 1)) := by
          rw [List.getElem?_eq_some_iff] at hvu
          (with_reducible refine (?_ : let G9 : Prop := _; G9)); intro G9
          obtain ⟨q, e⟩ := hvu
          k_unfold; clear G9
          rw [← e, ← List.drop_eq_getElem_cons q, List.take_append_drop]
        conv => rhs; rw [e2]
        simp only [List.flatten_append, List.flatten_cons, List.length_append, Array.length_toList]
        omega
      have e3 : (vss.take (i + 1)).flatten = (vss.take i).flatten ++ us.toList := by
        rw [List.take_add_one, hvu]; simp
      refine flat_start1 ?_ (wpAny_pyIter_listiter (i := 0) (l := l) ⟨_, Heap.get?_push_size _ rfl, rfl, rfl⟩ ?_)
      all_goals
        refine flat_inner (C := C) (vs := us) (ys := (vss.take i).flatten) (l := l) (by first | exact hh | simp [Around.mark, hh]) hk2 hkind rfl hd2 kp (hn₃.at' fun o e => Heap.get?_push_of_some _ e) (Heap.get?_push_of_some _ hD3) ⟨_, Heap.get?_push_size _ rfl, rfl, rfl⟩ (Heap.IsList.push hl3 _)
          (Ne.symm hDC) hJC hJD hlb.1 hlb.2.2 hJl hle (fun h₄ tk₄ m₄ hk₄ hn₄ hD₄ => ?_)
        refine wpAny_pure (And.intro rfl ⟨ws.size - (i + 1), sub_dn hlt, h₄, tk₄, i + 1, m₄, rfl, hlt, rfl, fun b o e => ?_, hit₃.at fun o e => hk₄ I o hIC (Ne.symm hDI) hJI (Heap.get?_push_of_some _ e), hn₄, by rw [e3]; exact hD₄⟩)
        have hb := below b (hIe ▸ Heap.lt_size e)
        have e4 := hs₃.extBut _ _ hb.1 (hs₂.extBut _ _ hb.2.1 (hk _ _ e))
        exact hk₄ b o hb.1 hb.2.2 (Nat.ne_of_lt (Heap.lt_size e4)) (Heap.get?_push_of_some _ e4)
  exact codeAny_compStart_list (loop _ rfl) (wpAny_pyIter_listiter hit (loop _ rfl))
end
end
section
open PySem PySem.W PyProof.Rows PySem.Calls PySem.Spec PyProof.Rows.LCg
set_option maxRecDepth 100000
set_option maxHeartbeats 1500000
section
variable {prog : Program} {w : World} {A : Around} {E : Value → Shared → Prop} {s : Shared} {env : Env}
theorem assign_LC {elt target iter : Expr} {ifs : List Expr} {y : Str} {py : Pos} {scope : Scope} {cl : List (Str × Addr)} {pos spos : Pos} {Q : Flow → Shared → Prop}
    (hsw : swapsWith (.ListComp elt [⟨target, iter, ifs, 0⟩] scope pos) (some (.Name y py)) spos.line env = pure true)
    (hs : ∀ x, foldedSetIterable iter env x = pure x) (hclos : closureFor scope env = pure cl) (hkind : scope.kind = .function) (hnames : ∀ z ∈ scope.names, z.2 = .local → scope.names.lookup z.1 = some .local)
    (h : wpAny (model prog w) A (eval iter env) (fun xv s₁ => wpAny (model prog w) A (pyIter xv) (fun it s₂ => wpAny (model prog w) A (newList []) (fun acc s₃ => wpAny (model prog w) A (newFunctionEnv scope env.globals cl [] env.qual none .none (some env)) (fun cenv s₄ =>
      codeAny (model prog w) A (.compStart (.ListComp elt [⟨target, iter, ifs, 0⟩] scope pos) 0 it acc { cenv with scope := relabel scope env }) (compPost (model prog w) A E (some (assign (.Name y py) env)) (fun _ s' => Q .next s') acc cenv.locals) s₄) E s₃) E s₂) E s₁) E s) :
    wpAny (model prog w) A (exec (.Assign [.Name y py] (.ListComp elt [⟨target, iter, ifs, 0⟩] scope pos) spos) env) Q E s := by
  rw [exec_Assign_Name_used _ _ _ _ hsw]
  refine wpAny_bind (wpAny_standAt (wpAny_bind ?_))
  show wpAny _ A (do let _ ← comprehension (.ListComp elt [⟨target, iter, ifs, 0⟩] scope pos) scope env _ (newList []) false (eval iter env) (some (assign (.Name y py) env))) _ _ s
  exact wpAny_bind (wpAny_mono (wpAny_comprehension_free (use := some (assign (.Name y py) env)) (Q := fun _ s' => Q .next s') rfl hs hclos hkind hnames h) (fun _ s' hq => wpAny_pure (wpAny_pure hq)) fun _ _ e => e)
end
end
section
open PySem PySem.W PyProof.Rows PySem.Calls PySem.Spec PyProof.Rows.LCg
set_option maxRecDepth 100000
set_option maxHeartbeats 1500000
section
variable {prog : Program} {w : World} {A : Around} {E : Value → Shared → Prop} {s : Shared} {env : Env} {g₀ : Heap} {R : Result → Shared → Prop} {body orelse : List Stmt} {m : Str → Option Value} {news : List (Addr × Obj)}
theorem forJ_listS {Gd : Heap → Prop} {x : Str} {px : Pos} {ax : Addr} {its : Array Value} {cA : Nat} (hh : A.handled = none) (hg : Gd g₀) (F : Fr g₀ env.locals s.heap m) (N : News g₀ env.locals s.heap news) (hA : (ax, W.listOf its cA) ∈ news)
    (J : Nat → (Str → Option Value) → List (Addr × Obj) → Prop) (hJS : ∀ i m nw, J i m nw → (ax, W.listOf its cA) ∈ nw) (h0 : J 0 m news)
    (step : ∀ i v g m₁ news₁ I oI h₁ tk₁, i < its.size → its[i]? = some v → Gd g → J i m₁ news₁ → (∀ p ∈ news₁, p.1 ≠ I) → Fr g env.locals h₁ m₁ → News g env.locals h₁ ((I, oI) :: news₁) →
      wpAny (model prog w) A (assign (.Name x px) env v) (fun _ s₂ => wpAny (model prog w) A (execs body env) (fun f s₃ => match f with
          | .next | .cont => ∃ g' h' tk m' news', s₃ = { s with heap := h', toks := tk } ∧ Gd g' ∧ Fr g' env.locals h' m' ∧ News g' env.locals h' ((I, oI) :: news') ∧ (∀ p ∈ news', p.1 ≠ I) ∧ J (i + 1) m' news'
          | .brk => R (.ok .next) s₃
          | .ret v => R (.ok (.ret v)) s₃) (notedBy (model prog w) A env fun e s' => R (.error e) s') s₂) (notedBy (model prog w) A env fun e s' => R (.error e) s') { s with heap := h₁, toks := tk₁ })
    (hR : ∀ g' h' tk m' news', Gd g' → Fr g' env.locals h' m' → News g' env.locals h' news' → J its.size m' news' →
      wpAny (model prog w) A (execs orelse env) (fun f s₃ => R (.ok f) s₃) (notedBy (model prog w) A env fun e s' => R (.error e) s') { s with heap := h', toks := tk }) :
    wpAny (model prog w) A (pyIter (.ref ax)) (fun it s₂ => codeAny (model prog w) A (.forLoop (.Name x px) it body orelse env) R s₂) E s := by
  have hlt : ax < s.heap.objs.size := Heap.lt_size (N _ hA).1
  have hl : s.heap.IsList ax its := News.isList N hA
  refine wpAny_pyIter_list hl ?_
  have Wk := Walks.list (prog := prog) (w := w) hh s.heap.objs.size ax (Nat.ne_of_lt hlt) its
  refine for_JS (Gd := Gd) (KTurns.ofWalks (target := .Name x px) Wk fun i v s' Q' E' st q => letGo_name q) (fun i h st => by obtain ⟨o, e, _⟩ := st.1; exact ⟨o, e⟩) (S := fun nw => (ax, W.listOf its cA) ∈ nw)
    (fun i g h h' o nw st e e' N S => ⟨by obtain ⟨o', q, r⟩ := st.1; rw [e] at q; cases q; exact ⟨o, e', r⟩, News.isList N S⟩) ⟨⟨_, Heap.get?_push_size _ rfl, rfl, rfl⟩, hl.push _⟩ hg
    (F.keeps fun _ _ e => Heap.get?_push_of_some _ e) (N.grown fun _ _ e => Heap.get?_push_of_some _ e) (Nat.ne_of_lt F.ns.lt) (next_is_new F) (fun p hp => Nat.ne_of_lt (Heap.lt_size (N p hp).1)) J hJS h0 ?_ fun g' h' tk m' news' hg' F' N' _ hJ => hR g' h' tk m' news' hg' F' N' hJ
  intro i v g m₁ news₁ oI h₁ tk₁ hi hv hg' hJ hw F₁ N₁
  exact step i v g m₁ news₁ _ oI h₁ tk₁ hi hv hg' hJ hw F₁ N₁
end
end
section
open PySem PySem.W PyProof.Rows PySem.Calls PySem.Spec PyProof.Rows.LCg
set_option maxRecDepth 100000
set_option maxHeartbeats 1000000
section
variable {prog : Program} {w : World} {A : Around} {E : Value → Shared → Prop} {s : Shared} {h₀ : Heap} {L : Addr} {m : Str → Option Value} {env : Env}
theorem lookup_relabel_cell {env : Env} : ∀ {names : List (Str × NameKind)} {x : Str}, names.lookup x = some .cell →
    (names.map fun (n, k) => if (k == NameKind.free && env.scope.kind == .function && env.kindOf n == some .cell) then (n, NameKind.cell) else (n, k)).lookup x = some .cell
  | (n, k) :: r, x, h => by
    rw [List.lookup_cons] at h
    cases hb : x == n with
    | true =>
      rw [hb] at h; cases h
      show List.lookup x ((n, NameKind.cell) :: _) = _
      rw [List.lookup_cons, hb]
    | false =>
      rw [hb] at h
      have := lookup_relabel_cell (env := env) h
      rw [List.map_cons]
      dsimp only
      split
      · rw [List.lookup_cons, hb]; exact this
      · rw [List.lookup_cons, hb]; exact this
theorem asg_cell {x : Str} {px : Pos} {v : Value} {scope : Scope} {cl : List (Str × Addr)} {I C D X : Addr} {oI oC oD oX : Obj} {v₀ : Option Value} {news : List (Addr × Obj)} {Q : Unit → Shared → Prop} (hkind : scope.kind = .function) (hx : scope.names.lookup x = some .cell)
    (F : Fr h₀ L s.heap m) (N : News h₀ L s.heap ((I, oI) :: (C, oC) :: (D, oD) :: (X, oX) :: news)) (hd : oX.data = .cell v₀) (off : Off3 I C D ((X, oX) :: news)) (offX : ∀ p ∈ news, p.1 ≠ X)
    (h : ∀ oX' h' tk, oX'.data = .cell (some v) → Fr h₀ L h' m → News h₀ L h' ((I, oI) :: (C, oC) :: (D, oD) :: (X, oX') :: news) → Q () { s with heap := h', toks := tk }) :
    wpAny (model prog w) A (assign (.Name x px) (compEnvC scope ((x, X) :: cl) C env) v) Q E s := by
  have hxk : (compEnvC scope ((x, X) :: cl) C env).kindOf x = some .cell := lookup_relabel_cell hx
  have zX := N (X, oX) (.tail _ (.tail _ (.tail _ (.head _))))
  have offX3 := (off.mem (X, oX) (.head _))
  refine wpAny_assign_Name (wpAny_storeName_cell (c := X) hkind hxk (by show List.lookup x ((x, X) :: cl) = _; rw [List.lookup_cons, beq_self_eq_true]) ⟨oX, zX.1, hd⟩ fun h' hv hs => ?_)
  obtain ⟨oX', ho', hd'⟩ := hv
  refine h oX' h' _ hd' (F.change hs zX.2.1 zX.2.2) fun p hp => ?_
  have keep : ∀ q ∈ (I, oI) :: (C, oC) :: (D, oD) :: (X, oX) :: news, q.1 ≠ X → h'.get? q.1 = some q.2 ∧ q.1 ≠ L ∧ h₀.get? q.1 = none := fun q hq hn => ⟨hs.extBut _ _ hn (N q hq).1, (N q hq).2⟩
  rcases List.mem_cons.mp hp with rfl | hp
  · exact keep _ (.head _) (Ne.symm offX3.1)
  rcases List.mem_cons.mp hp with rfl | hp
  · exact keep _ (.tail _ (.head _)) (Ne.symm offX3.2.1)
  rcases List.mem_cons.mp hp with rfl | hp
  · exact keep _ (.tail _ (.tail _ (.head _))) (Ne.symm offX3.2.2)
  rcases List.mem_cons.mp hp with rfl | hp
  · exact ⟨ho', zX.2⟩
  · exact keep p (.tail _ (.tail _ (.tail _ (.tail _ hp)))) (offX p hp)
def CellJ (J : Nat → List Value → List (Addr × Obj) → Prop) (X : Addr) (i : Nat) (ys : List Value) (nw : List (Addr × Obj)) : Prop :=
  ∃ oX v nw', nw = (X, oX) :: nw' ∧ oX.data = .cell v ∧ (∀ p ∈ nw', p.1 ≠ X) ∧ J i ys nw'
theorem comp_listC {elt iter : Expr} {x : Str} {px : Pos} {ifs : List Expr} {scope : Scope} {cl : List (Str × Addr)} {pos : Pos} {ax : Addr} {its : Array Value} {news : List (Addr × Obj)} {RR : Value → Addr → Result → Shared → Prop}
    (hh : A.handled = none) (hcf : ∀ a acc, cellsFrom a scope.names acc = (x, a) :: acc) (hpc : ∀ h : Heap, pushCells h scope.names = h.push (cellO none)) (hkind : scope.kind = .function) (hx : scope.names.lookup x = some .cell) (hsz : its.size ≤ sizeLine)
    (F : Fr h₀ L s.heap m) (N : News h₀ L s.heap news) (S : SrcAt h₀ ax its news)
    (J : Nat → List Value → List (Addr × Obj) → Prop) (hJS : ∀ i ys nw, J i ys nw → SrcAt h₀ ax its nw) (h0 : J 0 [] news)
    (turn : ∀ i v ys news₁ I oI C oC D X oX mC h tk (E' : Value → Shared → Prop), i < its.size → its[i]? = some v → J i ys news₁ → NsObj oC mC → Fr h₀ L h m → oX.data = .cell (some v) → News h₀ L h ((I, oI) :: (C, oC) :: (D, lst ys) :: (X, oX) :: news₁) → Off3 I C D ((X, oX) :: news₁) → (∀ p ∈ news₁, p.1 ≠ X) → ((@Ne Nat I C) ∧ (@Ne Nat I D) ∧ (@Ne Nat C D)) →
      wpAny (model prog w) A (forIn ifs true fun c r => if r = true then do let ok ← isTrue c (compEnvC scope ((x, X) :: cl) C env) (eval c (compEnvC scope ((x, X) :: cl) C env)); pure (ForInStep.yield ok) else pure (ForInStep.yield r))
        (fun ok s₃ => if ok = true then wpAny (model prog w) A (eval elt (compEnvC scope ((x, X) :: cl) C env)) (fun y s₄ => CEnd h₀ L m s I oI C D (lst ys) (CellJ J X (i + 1) (ys ++ [y])) s₄) E' s₃ else CEnd h₀ L m s I oI C D (lst ys) (CellJ J X (i + 1) ys) s₃) E' { s with heap := h, toks := tk })
    (hRR : ∀ X D C h tk m' ys news', Fr h₀ L h m → News h₀ L h ((D, lst ys) :: news') → Off1 D news' → h.Ns C m' → h₀.get? C = none → h₀.get? D = none → C ≠ L → D ≠ L → C ≠ D → (∀ p ∈ news', p.1 ≠ C) → CellJ J X its.size ys news' → RR (.ref D) C (.ok .next) { s with heap := h, toks := tk }) :
    wpAny (model prog w) A (pyIter (.ref ax)) (fun it s₂ => wpAny (model prog w) A (newList []) (fun acc s₃ => wpAny (model prog w) A (newFunctionEnv scope env.globals cl [] env.qual none .none (some env)) (fun cenv s₄ =>
      codeAny (model prog w) A (.compStart (.ListComp elt [⟨.Name x px, iter, ifs, 0⟩] scope pos) 0 it acc { cenv with scope := relabel scope env }) (RR acc cenv.locals) s₄) E s₃) E s₂) E s := by
  have hl := S.list F.keep N
  have hlt : ax < s.heap.objs.size := by obtain ⟨_, e, _⟩ := hl; exact Heap.lt_size e
  refine wpAny_pyIter_list hl ?_
  have up : ∀ b o, s.heap.get? b = some o → (s.heap.push { cls := .type "list_iterator", data := .fields #[.ref ax, .int 0 0] }).get? b = some o := fun b o e => Heap.get?_push_of_some _ e
  have W := Walks.list (prog := prog) (w := w) hh s.heap.objs.size ax (Nat.ne_of_lt hlt) its
  refine comp_JC (KTurns.ofWalks (target := .Name x px) W fun i v s' Q' E' st q => letGo_name q) hsz W.self (fun i h st => by obtain ⟨o, e, _⟩ := st.1; exact ⟨o, e⟩) list_st hcf hpc ⟨⟨_, Heap.get?_push_size _ rfl, rfl, rfl⟩, hl.push _⟩ (fun b hb => ?_)
      (F.keeps up) (N.grown up) (Nat.ne_of_lt F.ns.lt) (next_is_new F) (fun p hp => Nat.ne_of_lt (Heap.lt_size (N p hp).1)) (CellJ J) (fun X i ys nw hJ => by
        obtain ⟨oX, v, nw', rfl, _, _, hJ'⟩ := hJ
        exact (hJS i ys nw' hJ').imp id fun ⟨o, hm, r⟩ => ⟨o, .tail _ hm, r⟩) (fun X hX hX₀ hn => ⟨_, _, _, rfl, rfl, hn, h0⟩) ?_ hRR
  · show b < (s.heap.push _).objs.size
    rw [Heap.size_push]
    rcases List.mem_cons.mp hb with rfl | hb
    · exact Nat.lt_succ_self _
    · rw [List.mem_singleton.mp hb]; exact Nat.lt_succ_of_lt hlt
  · intro X i v ys nwf oI C oC D mC h tk E' hi hP hJ hC Fi Ni off ne
    obtain ⟨oX, v0, news₁, rfl, hdX, offX, hJ'⟩ := hJ
    refine asg_cell hkind hx Fi Ni hdX off offX fun oX' h' tk' hdX' F' N' => ?_
    exact turn i v ys news₁ _ oI C oC D X oX' mC h' tk' E' hi hP hJ' hC F' hdX' N' off offX ne
theorem comp_rangeC {elt iter : Expr} {x : Str} {px : Pos} {ifs : List Expr} {scope : Scope} {cl : List (Str × Addr)} {pos : Pos} {r : Addr} {a b : Int} {t u v : Tok} {n : Nat} {news : List (Addr × Obj)} {RR : Value → Addr → Result → Shared → Prop}
    (hh : A.handled = none) (hcf : ∀ a acc, cellsFrom a scope.names acc = (x, a) :: acc) (hpc : ∀ h : Heap, pushCells h scope.names = h.push (cellO none)) (hkind : scope.kind = .function) (hx : scope.names.lookup x = some .cell) (hsz : n ≤ sizeLine)
    (F : Fr h₀ L s.heap m) (N : News h₀ L s.heap news) (hr : IsRange s.heap r a b 1 t u v) (hsm : Builtin.Range.small a b 1 = true) (hn : Builtin.Range.rangeSize a b 1 = ((n : Nat) : Int))
    (J : Nat → List Value → List (Addr × Obj) → Prop) (h0 : J 0 [] news)
    (turn : ∀ i ti ys news₁ I oI C oC D X oX mC h tk (E' : Value → Shared → Prop), i < n → J i ys news₁ → NsObj oC mC → Fr h₀ L h m → oX.data = .cell (some (.int (a + (i : Int)) ti)) → News h₀ L h ((I, oI) :: (C, oC) :: (D, lst ys) :: (X, oX) :: news₁) → Off3 I C D ((X, oX) :: news₁) → (∀ p ∈ news₁, p.1 ≠ X) → ((@Ne Nat I C) ∧ (@Ne Nat I D) ∧ (@Ne Nat C D)) →
      wpAny (model prog w) A (forIn ifs true fun c r => if r = true then do let ok ← isTrue c (compEnvC scope ((x, X) :: cl) C env) (eval c (compEnvC scope ((x, X) :: cl) C env)); pure (ForInStep.yield ok) else pure (ForInStep.yield r))
        (fun ok s₃ => if ok = true then wpAny (model prog w) A (eval elt (compEnvC scope ((x, X) :: cl) C env)) (fun y s₄ => CEnd h₀ L m s I oI C D (lst ys) (CellJ J X (i + 1) (ys ++ [y])) s₄) E' s₃ else CEnd h₀ L m s I oI C D (lst ys) (CellJ J X (i + 1) ys) s₃) E' { s with heap := h, toks := tk })
    (hRR : ∀ X D C h tk m' ys news', Fr h₀ L h m → News h₀ L h ((D, lst ys) :: news') → Off1 D news' → h.Ns C m' → h₀.get? C = none → h₀.get? D = none → C ≠ L → D ≠ L → C ≠ D → (∀ p ∈ news', p.1 ≠ C) → CellJ J X n ys news' → RR (.ref D) C (.ok .next) { s with heap := h, toks := tk }) :
    wpAny (model prog w) A (pyIter (.ref r)) (fun it s₂ => wpAny (model prog w) A (newList []) (fun acc s₃ => wpAny (model prog w) A (newFunctionEnv scope env.globals cl [] env.qual none .none (some env)) (fun cenv s₄ =>
      codeAny (model prog w) A (.compStart (.ListComp elt [⟨.Name x px, iter, ifs, 0⟩] scope pos) 0 it acc { cenv with scope := relabel scope env }) (RR acc cenv.locals) s₄) E s₃) E s₂) E s := by
  refine wpAny_pyIter_range hr hsm ?_
  have W := range_walks (prog := prog) (w := w) (I := s.heap.objs.size) hh a n
  refine comp_JC (KTurns.ofWalks (target := .Name x px) W fun i v s' Q' E' st q => letGo_name q) hsz W.self (fun i h st => ⟨_, st⟩) range_st hcf hpc (by show IsRangeIter _ _ _ _ _; rw [hn]; simpa using Heap.get?_push_size _ rfl) (fun b hb => ?_)
      (F.keeps fun _ _ e => Heap.get?_push_of_some _ e) (N.grown fun _ _ e => Heap.get?_push_of_some _ e) (Nat.ne_of_lt F.ns.lt) (next_is_new F) (fun p hp => Nat.ne_of_lt (Heap.lt_size (N p hp).1)) (CellJ J) (fun _ _ _ _ _ => trivial) (fun X hX hX₀ hn => ⟨_, _, _, rfl, rfl, hn, h0⟩) ?_ hRR
  · rw [List.mem_singleton.mp hb]
    show s.heap.objs.size < (s.heap.push _).objs.size
    rw [Heap.size_push]; exact Nat.lt_succ_self _
  · intro X i v ys nwf oI C oC D mC h tk E' hi hP hJ hC Fi Ni off ne
    obtain ⟨ti, rfl⟩ := hP
    obtain ⟨oX, v0, news₁, rfl, hdX, offX, hJ'⟩ := hJ
    refine asg_cell hkind hx Fi Ni hdX off offX fun oX' h' tk' hdX' F' N' => ?_
    exact turn i ti ys news₁ _ oI C oC D X oX' mC h' tk' E' hi hJ' hC F' hdX' N' off offX ne
theorem comp_listX {elt iter : Expr} {x : Str} {px : Pos} {ifs : List Expr} {scope : Scope} {cl : List (Str × Addr)} {pos : Pos} {ax : Addr} {its : Array Value} {news : List (Addr × Obj)} {RR : Value → Addr → Result → Shared → Prop}
    (hh : A.handled = none) (hcell : ∀ y ∈ scope.names, y.2 ≠ .cell) (hkind : scope.kind = .function) (hx : scope.names.lookup x = some .local) (hsz : its.size ≤ sizeLine)
    (F : Fr h₀ L s.heap m) (N : News h₀ L s.heap news) (S : SrcAt h₀ ax its news)
    (J : Nat → List Value → List (Addr × Obj) → Prop) (hJS : ∀ i ys nw, J i ys nw → SrcAt h₀ ax its nw) (h0 : J 0 [] news)
    (turn : ∀ i v ys news₁ I oI C oC D mC h tk (E' : Value → Shared → Prop), i < its.size → its[i]? = some v → J i ys news₁ → NsObj oC mC → mC x = some v → Fr h₀ L h m → News h₀ L h ((I, oI) :: (C, oC) :: (D, lst ys) :: news₁) → Off3 I C D news₁ → ((@Ne Nat I C) ∧ (@Ne Nat I D) ∧ (@Ne Nat C D)) →
      wpAny (model prog w) A (forIn ifs true fun c r => if r = true then do let ok ← isTrue c (compEnvC scope cl C env) (eval c (compEnvC scope cl C env)); pure (ForInStep.yield ok) else pure (ForInStep.yield r))
        (fun ok s₃ => if ok = true then wpAny (model prog w) A (eval elt (compEnvC scope cl C env)) (fun y s₄ => CEnd h₀ L m s I oI C D (lst ys) (J (i + 1) (ys ++ [y])) s₄) E' s₃ else CEnd h₀ L m s I oI C D (lst ys) (J (i + 1) ys) s₃) E' { s with heap := h, toks := tk })
    (hRR : ∀ D C h tk m' ys news', Fr h₀ L h m → News h₀ L h ((D, lst ys) :: news') → Off1 D news' → h.Ns C m' → h₀.get? C = none → h₀.get? D = none → C ≠ L → D ≠ L → C ≠ D → (∀ p ∈ news', p.1 ≠ C) → J its.size ys news' → RR (.ref D) C (.ok .next) { s with heap := h, toks := tk }) :
    wpAny (model prog w) A (pyIter (.ref ax)) (fun it s₂ => wpAny (model prog w) A (newList []) (fun acc s₃ => wpAny (model prog w) A (newFunctionEnv scope env.globals cl [] env.qual none .none (some env)) (fun cenv s₄ =>
      codeAny (model prog w) A (.compStart (.ListComp elt [⟨.Name x px, iter, ifs, 0⟩] scope pos) 0 it acc { cenv with scope := relabel scope env }) (RR acc cenv.locals) s₄) E s₃) E s₂) E s :=
  comp_list hh hcell hkind hsz F N S J hJS h0 (fun i v ys news₁ I oI C oC D mC h tk E' hi hv hJ hC Fi Ni off ne =>
    asg_name hkind hx hC Fi Ni off ne fun oC' h' tk' hC' F' N' => turn i v ys news₁ I oI C oC' D _ h' tk' E' hi hv hJ hC' (by simp) F' N' off ne) hRR
end
end
open PySem PySem.W PyProof.Rows PySem.Calls PySem.Spec PyProof.Rows.LCg
set_option compiler.extract_closed false
local macro_rules | `(tactic| k_room) => `(tactic| ktr_room)
local macro_rules | `(tactic| k_mem) => `(tactic| (refine List.mem_cons_of_mem _ ?_; first | ktr_member | k_mem))
local macro_rules | `(tactic| k_all) => `(tactic| first | with_reducible assumption | (refine all_ne (by with_reducible assumption) ?_; omega))
local macro_rules | `(tactic| k_upd) => `(tactic| (refine upd_setN (by first | exact Srt.nd (by with_reducible assumption) | exact Own.nd (by with_reducible assumption)) ?_; ktr_member))
local macro_rules | `(tactic| walk_at "call builtin:list.append") => `(tactic| (k_dflt (refine append_K (by k_asm) (by k_asm) (by k_upd) ?_ (by rw [sizeLine_eq]; omega)); intro h' F' N'; try k_sweep))
local macro_rules | `(tactic| walk_at "eval IfExp") => `(tactic| with_reducible refine ifexp_cc ?_)
local macro_rules | `(tactic| walk_at "call builtin:len") => `(tactic| k_dflt (refine len_list (News.isList (by k_asm) (by k_mem)) (by omega) ?_))
local macro_rules | `(tactic| ktr_room) => `(tactic| first | exact rm0 (by assumption) | exact rm1 (by assumption) (by decide) | exact rm2 (by assumption) (by decide))
local macro_rules | `(tactic| ktr_units) => `(tactic| ktr_room)
local macro_rules | `(tactic| omega) => `(tactic| first | with_reducible assumption | decide | exact Nat.le_trans (by with_reducible assumption) (by decide) | omega +splitDisjunctions)
set_option maxRecDepth 100000
set_option maxHeartbeats 1500000
section
open PySem PySem.W PyProof.Rows PySem.Calls PySem.Spec
def pairIn (K : Frag) (T : Addr) : Option (Int × Str) := match K.lookup T with
  | some ⟨.type "tuple", none, .seq its _, _⟩ => (match its.toList with
    | [.int b _, .str c _] => some (b, c)
    | _ => none)
  | _ => none
def refIn (f : Addr → Option α) : Value → Option α
  | .ref T => f T
  | _ => none
def rowIn (K : Frag) (f : Addr → Option α) (tb : Addr) : Option (List α) := match K.lookup tb with
  | some ⟨.type "tuple", none, .seq its _, sl⟩ => if sl.isEmpty then its.toList.mapM (refIn f) else none
  | _ => none
def fmTab : List (List (Int × Str)) := [[(40960, Str.ofString "l"), (49152, Str.ofString "s"), (32768, Str.ofString "-"), (24576, Str.ofString "b"), (16384, Str.ofString "d"), (8192, Str.ofString "c"), (4096, Str.ofString "p")],
  [(256, Str.ofString "r")], [(128, Str.ofString "w")], [(2112, Str.ofString "s"), (2048, Str.ofString "S"), (64, Str.ofString "x")],
  [(32, Str.ofString "r")], [(16, Str.ofString "w")], [(1032, Str.ofString "s"), (1024, Str.ofString "S"), (8, Str.ofString "x")],
  [(4, Str.ofString "r")], [(2, Str.ofString "w")], [(513, Str.ofString "t"), (512, Str.ofString "T"), (1, Str.ofString "x")]]
theorem fmTab_is (P : Params) : rowIn (K P) (rowIn (K P) (pairIn (K P))) 68 = some fmTab := by kernel_rfl
def PairAt (h : Heap) (T : Addr) (e : Int × Str) : Prop := ∃ t1 t2, IsTup h T #[.int e.1 t1, .str e.2 t2]
def RowAt {α : Type} (P : Heap → Addr → α → Prop) (h : Heap) (tb : Addr) (row : List α) : Prop :=
  ∃ items n, h.get? tb = some { cls := .type "tuple", dict := none, data := .seq items n, slots := #[] } ∧ items.size = row.length ∧ ∀ (j : Nat) (v : Value), items[j]? = some v → ∃ T e, v = .ref T ∧ row[j]? = some e ∧ P h T e
theorem pairAt_of {K : Frag} {h : Heap} (X : K.In h) {T : Addr} {e : Int × Str} (q : pairIn K T = some e) : PairAt h T e := by
  unfold pairIn at q
  split at q
  · rename_i its n sl hl
    split at q
    · rename_i b t1 c t2 he
      cases q
      refine ⟨t1, t2, _, X _ _ hl, rfl, n, ?_⟩
      show Data.seq its n = _
      have : its = #[.int b t1, .str c t2] := by rw [← he]
      rw [this]
    · cases q
  · cases q
theorem mapM_refIn {α : Type} {f : Addr → Option α} : ∀ {vs : List Value} {row : List α}, vs.mapM (refIn f) = some row → vs.length = row.length ∧ ∀ (j : Nat) (v : Value), vs[j]? = some v → ∃ T e, v = .ref T ∧ row[j]? = some e ∧ f T = some e
  | [], row, q => by
    simp at q; subst q; exact ⟨rfl, fun j v h => by simp at h⟩
  | v :: vs, row, q => by
    rw [List.mapM_cons] at q
    obtain ⟨e, he, q⟩ := Option.bind_eq_some_iff.mp q
    obtain ⟨r, hr, q⟩ := Option.bind_eq_some_iff.mp q
    cases q
    obtain ⟨l, a⟩ := mapM_refIn hr
    refine ⟨by simp [l], fun j u h => ?_⟩
    cases j with
    | zero =>
      simp at h; subst h
      cases v <;> first | cases he | exact ⟨_, e, rfl, rfl, he⟩
    | succ j => simpa using a j u (by simpa using h)
theorem rowAt_of {α : Type} {P : Heap → Addr → α → Prop} {K : Frag} {h : Heap} (X : K.In h) {f : Addr → Option α} (hf : ∀ T e, f T = some e → P h T e) {tb : Addr} {row : List α} (q : rowIn K f tb = some row) : RowAt P h tb row := by
  unfold rowIn at q
  split at q
  · rename_i its n sl hl
    split at q
    · rename_i hs
      obtain ⟨l, a⟩ := mapM_refIn q
      have : sl = #[] := Array.isEmpty_iff.mp hs
      subst this
      refine ⟨its, n, X _ _ hl, by simpa using l, fun j v hv => ?_⟩
      obtain ⟨T, e, h1, h2, h3⟩ := a j v (by simpa using hv)
      exact ⟨T, e, h1, h2, hf T e h3⟩
    · cases q
  · cases q
theorem fmTab_at {P : Params} {h : Heap} (X : (K P).In h) : RowAt (RowAt PairAt) h 68 fmTab :=
  rowAt_of X (fun _ _ q => rowAt_of X (fun _ _ q => pairAt_of X q) q) (fmTab_is P)
def hitS (i : Nat) (md : Int) (e : Int × Str) : Bool := if i = 0 then decide (Builtin.bitAnd md 61440 = e.1) else decide (Builtin.bitAnd md e.1 = e.1)
def signS (i : Nat) (md : Int) (row : List (Int × Str)) : Str := match row.find? (hitS i md) with
  | some e => e.2
  | none => if i = 0 then Str.ofString "?" else Str.ofString "-"
def signsS (md : Int) (k : Nat) : List Str := (List.range k).map fun i => signS i md (fmTab.getD i [])
theorem signsS_succ (md : Int) (k : Nat) : signsS md (k + 1) = signsS md k ++ [signS k md (fmTab.getD k [])] := by
  unfold signsS; rw [List.range_succ, List.map_append]; rfl
theorem signS_hit {i : Nat} {md : Int} {row : List (Int × Str)} {j : Nat} {e : Int × Str} (he : row[j]? = some e) (hno : ∀ x ∈ row.take j, hitS i md x = false) (hit : hitS i md e = true) : signS i md row = e.2 := by
  have : row.find? (hitS i md) = some e := by
    have hs : row = row.take j ++ (e :: row.drop (j + 1)) := by
      conv => lhs; rw [← List.take_append_drop j row]
      congr 1
      rw [List.drop_eq_getElem?_toList_append, he]; rfl
    rw [hs, List.find?_append, List.find?_eq_none.mpr fun x hx => by simp [hno x hx]]
    simp [hit]
  unfold signS; rw [this]
theorem noS_succ {i : Nat} {md : Int} {row : List (Int × Str)} {j : Nat} {e : Int × Str} (he : row[j]? = some e) (hno : ∀ x ∈ row.take j, hitS i md x = false) (hit : hitS i md e = false) : ∀ x ∈ row.take (j + 1), hitS i md x = false := by
  intro x hx
  rw [List.take_add_one, he] at hx
  rcases List.mem_append.mp hx with q | q
  · exact hno x q
  · have : x = e := by simpa using q
    rw [this]; exact hit
theorem signS_none {i : Nat} {md : Int} {row : List (Int × Str)} (hno : ∀ x ∈ row.take row.length, hitS i md x = false) : signS i md row = if i = 0 then Str.ofString "?" else Str.ofString "-" := by
  have : row.find? (hitS i md) = none := List.find?_eq_none.mpr fun x hx => by simp [hno x (by simpa using hx)]
  unfold signS; rw [this]
def fmS (md : Int) : Str := PySem.Txt.join (Str.ofString "") (signsS md 10)
theorem fmTab_ones : ∀ row ∈ fmTab, ∀ e ∈ row, e.2.length = 1 := by decide +kernel
theorem signS_one (i : Nat) (md : Int) : (signS i md (fmTab.getD i [])).length = 1 := by
  unfold signS
  split
  · rename_i e he
    by_cases hi : i < fmTab.length
    · have hm : fmTab.getD i [] ∈ fmTab := by rw [List.getD_eq_getElem?_getD, List.getElem?_eq_getElem hi]; exact List.getElem_mem hi
      exact fmTab_ones _ hm e (List.mem_of_find?_eq_some he)
    · rw [List.getD_eq_getElem?_getD, List.getElem?_eq_none (Nat.not_lt.mp hi)] at he; cases he
  · split <;> decide +kernel
theorem signsS_sum (md : Int) (k : Nat) : ((signsS md k).map (·.length)).sum = k := by
  induction k with
  | zero => rfl
  | succ k ih =>
    rw [signsS_succ, List.map_append, List.sum_append, ih, List.map_cons, List.map_nil, List.sum_cons, signS_one]; rfl
def mapFM (P0 : Addr) (md : Int) (tt : Tok) : Str → Option Value := fun y => if y = Str.ofString "perm" then some (Value.ref P0) else List.lookup y [(Str.ofString "mode", Value.int md tt)]
def JO (P0 : Addr) (md : Int) (tt : Tok) (news : List (Addr × Obj)) (i : Nat) (m₁ : Str → Option Value) (news₁ : List (Addr × Obj)) : Prop :=
  ∃ vs n, news₁ = (P0, listOf vs n) :: news ∧ StrsAre vs.toList (signsS md i) ∧
    ∃ u1 u2 u3 u4, m₁ = fun y => if y = Str.ofString "char" then u1 else if y = Str.ofString "bit" then u2 else if y = Str.ofString "table" then u3 else if y = Str.ofString "index" then u4 else if y = Str.ofString "perm" then some (Value.ref P0) else List.lookup y [(Str.ofString "mode", Value.int md tt)]
theorem jo_more {P0 : Addr} {md : Int} {tt t2 : Tok} {news : List (Addr × Obj)} {i n : Nat} {m₁ : Str → Option Value} {vs : Array Value} {c : Str} (hvs : StrsAre vs.toList (signsS md i)) (hc : signS i md (fmTab.getD i []) = c)
    (hm : ∀ y, y ≠ Str.ofString "char" → y ≠ Str.ofString "bit" → y ≠ Str.ofString "table" → y ≠ Str.ofString "index" → m₁ y = if y = Str.ofString "perm" then some (Value.ref P0) else List.lookup y [(Str.ofString "mode", Value.int md tt)]) :
    JO P0 md tt news (i + 1) m₁ ((P0, listOf (vs.push (.str c t2)) (n + 1)) :: news) := by
  refine ⟨_, _, rfl, ?_, canon4 hm⟩
  rw [signsS_succ, hc, Array.toList_push]
  exact strs_snoc hvs _ _
theorem filemode_spec {w : World} {dp un : Nat} {gd : Option (List Code)} {cn : Str} {cs : Scope} {a : Addr} {ccd : Value} {cl : List (Str × Addr)} {outer : List Env} {A₀ : Around} {base h₀ : Heap} {L : Addr} {m : Str → Option Value} {news : List (Addr × Obj)} {s : Shared} {p : Program} {loose : List Str} {mean : ExcName → Option Value} {mg mb : Str → Option Value}
    {Q E : Value → Shared → Prop} (B : Below A₀ base outer h₀) (F : Fr h₀ L s.heap m) (X : (Mine.K w.params).In h₀) (N : News h₀ L s.heap news) (T : Top p loose mean mg mb h₀) (hk : cs.kind = .function) (hd : dp + 10 < recursionLimit) (hu : un + 80 < cLine)
    {md : Int} {tt : Tok}
    (hret : ∀ t' h' tk', Fr h₀ L h' m → News h₀ L h' news → Q (.str (fmS md) t') { s with heap := h', toks := tk' }) :
    wpAny (model PySem.Challenge.pw_nq0248_01 w) (ktrTop dp un gd cn cs L a ccd cl outer) (call (.ref 75) [.int md tt]) Q E s := by
  have hfill : (fun (_ : OpenLaw) (_ : Params → Frag) => True) PySem.Challenge.rw_nq0248_01 Mine.K := by k_fill; trivial
  clear hfill
  refine wpAny_call ?_
  k_dflt ktr_enter
  rename Fr _ _ _ _ => F1
  replace F1 : Fr _ _ _ (fun y => List.lookup y [(Str.ofString "mode", Value.int md tt)]) := F1
  (repeat' (first | (((fail_if_success (fail_if_success k_unfold)); first | (with_reducible refine (?_ : wpAny _ _ _ _ _ _)) | k_unfold); try dsimp only) | ((fail_if_success (fail_if_success (with_reducible refine ex1 (by constructor) ?_))); (fail_if_success (fail_if_success k_fold)); (with_reducible refine (?_ : let qk := _; let ek := _; wpAny _ _ _ qk ek _)); intro qk ek) | ((fail_if_success (with_reducible first | ((fail_if_success (refine go1 (by constructor) ?_)); refine st1 (by constructor) ?_) | show Exists _)); walk1; try dsimp only)))
  refine wpAny_For ?_
  (repeat' (first | (((fail_if_success (fail_if_success k_unfold)); first | (with_reducible refine (?_ : wpAny _ _ _ _ _ _)) | k_unfold); try dsimp only) | ((fail_if_success (fail_if_success (with_reducible refine ex1 (by constructor) ?_))); (fail_if_success (fail_if_success k_fold)); (with_reducible refine (?_ : let qk := _; let ek := _; wpAny _ _ _ qk ek _)); intro qk ek) | ((fail_if_success (with_reducible show wpAny _ _ (call (Value.type "enumerate") _) _ _ _)); (fail_if_success (with_reducible first | ((fail_if_success (refine go1 (by constructor) ?_)); refine st1 (by constructor) ?_) | show Exists _)); walk1; try dsimp only)))
  rename Frag.In _ _ => X1
  rename Fr _ _ _ _ => F2
  rename News _ _ _ _ => N2
  rename_i P0 _ hltP _
  (with_reducible refine (?_ : let G9 : Prop := _; G9)); intro G9
  obtain ⟨items, nl, htab, hsz, hrows⟩ := fmTab_at X1
  k_unfold; clear G9
  refine iter_enumT rfl htab F2 N2 (JO P0 md tt news) ?_ ?_ ?_
  · exact ⟨#[], 0, rfl, .nil, canon4 fun y _ _ _ _ => rfl⟩
  · intro i v t m₁ news₁ h₁ tk₁ own hi hv pt910 hw ho Fi Ni
    (with_reducible refine (?_ : let G9 : Prop := _; G9)); intro G9
    obtain ⟨vs, n, rfl, hvs, u1, u2, u3, u4, rfl⟩ := pt910
    k_unfold; clear G9
    (with_reducible refine (?_ : let G9 : Prop := _; G9)); intro G9
    obtain ⟨tb, row, rfl, hrow, its, n2, htb, hsz2, hprs⟩ := hrows i v hv
    k_unfold; clear G9
    have hvsz : vs.size ≤ 16 := by
      have e1 := hvs.length
      have e2 : i < 10 := by have := hsz; simp [fmTab] at this; omega
      simp [signsS] at e1; omega
    have hgetD : fmTab.getD i [] = row := by rw [List.getD_eq_getElem?_getD, hrow]; rfl
    have hneP : ∀ p ∈ own ++ news, p.1 ≠ P0 := fun p hp e => by
      rcases List.mem_append.mp hp with q | q
      · rcases ho p q with q | q
        · exact (hw _ (.head _)).1 (e.symm.trans q)
        · exact (hw _ (.head _)).2 (e.symm.trans q)
      · exact absurd (hltP p q) (by rw [e]; exact Nat.lt_irrefl _)
    have Nr := led_r2 Ni
    clear Ni
    (repeat' (first | (((fail_if_success (fail_if_success k_unfold)); first | (with_reducible refine (?_ : wpAny _ _ _ _ _ _)) | k_unfold); try dsimp only) | ((fail_if_success (fail_if_success (with_reducible refine ex1 (by constructor) ?_))); (fail_if_success (fail_if_success k_fold)); (with_reducible refine (?_ : let qk := _; let ek := _; wpAny _ _ _ qk ek _)); intro qk ek) | ((fail_if_success (with_reducible first | ((fail_if_success (refine go1 (by constructor) ?_)); refine st1 (by constructor) ?_) | show Exists _)); walk1; try dsimp only)))
    refine wpAny_For ?_
    (repeat' (first | (((fail_if_success (fail_if_success k_unfold)); first | (with_reducible refine (?_ : wpAny _ _ _ _ _ _)) | k_unfold); try dsimp only) | ((fail_if_success (fail_if_success (with_reducible refine ex1 (by constructor) ?_))); (fail_if_success (fail_if_success k_fold)); (with_reducible refine (?_ : let qk := _; let ek := _; wpAny _ _ _ qk ek _)); intro qk ek) | ((fail_if_success (with_reducible first | ((fail_if_success (refine go1 (by constructor) ?_)); refine st1 (by constructor) ?_) | show Exists _)); walk1; try dsimp only)))
    rename Fr _ _ _ _ => Fi
    refine iter_tup rfl ⟨_, Fi.keep _ _ htb, rfl, n2, rfl⟩ (base_ne Fi htb) Fi Nr (fun j m₂ news₂ => news₂ = (P0, listOf vs n) :: (own ++ news) ∧ (∀ e ∈ row.take j, hitS i md e = false) ∧
      ∃ u1 u2, m₂ = fun y => if y = Str.ofString "char" then u1 else if y = Str.ofString "bit" then u2 else if y = Str.ofString "table" then some (Value.ref tb) else if y = Str.ofString "index" then some (Value.int i t) else if y = Str.ofString "perm" then some (Value.ref P0) else List.lookup y [(Str.ofString "mode", Value.int md tt)]) ?_ ?_ ?_
    · exact ⟨rfl, by simp, canon2 fun y h1 h2 => by simp only [h1, h2, if_false]; (repeat' split) <;> simp_all⟩
    · intro j v2 m₂ news₂ h₂ tk₂ own2 hj hv2 pt99 hw2 ho2 Fj Nj
      (with_reducible refine (?_ : let G9 : Prop := _; G9)); intro G9
      obtain ⟨rfl, hno, w1, w2, rfl⟩ := pt99
      k_unfold; clear G9
      (with_reducible refine (?_ : let G9 : Prop := _; G9)); intro G9
      obtain ⟨T2, ⟨b2, c2⟩, rfl, he, t1, t2, hT2⟩ := hprs j v2 hv2
      k_unfold; clear G9
      refine pair_assign Fj Nj rfl (hT2.keeps Fj.keep) (fun h3 tk3 F3 N3 => ?_)
      have N4 := led_r2 N3
      have hneP2 : ∀ p ∈ own2 ++ (own ++ news), p.1 ≠ P0 := fun p hp e => by
        rcases List.mem_append.mp hp with q | q
        · rcases ho2 p q with q | q
          · exact hw2 _ (.head _) (e.symm.trans q)
          · exact absurd (Nr _ (.head _)).2.2 (by rw [← e, q, htb]; exact fun z => nomatch z)
        · exact hneP p q e
      clear N3
      dsimp only at F3
      (repeat' (first | (((fail_if_success (fail_if_success k_unfold)); first | (with_reducible refine (?_ : wpAny _ _ _ _ _ _)) | k_unfold); try dsimp only) | ((fail_if_success (fail_if_success (with_reducible refine ex1 (by constructor) ?_))); (fail_if_success (fail_if_success k_fold)); (with_reducible refine (?_ : let qk := _; let ek := _; wpAny _ _ _ qk ek _)); intro qk ek) | ((fail_if_success (with_reducible first | ((fail_if_success (refine go1 (by constructor) ?_)); refine st1 (by constructor) ?_) | show Exists _)); walk1; try dsimp only)))
      all_goals (try dsimp only)
      · exact ⟨_, _, _, (P0, listOf (vs.push (.str c2 t2)) (n + 1)) :: news, rfl, by k_asm, led_r1 (by k_asm), off_cons2 hw rfl, jo_more hvs (by rw [hgetD]; exact signS_hit he hno (by simp_all [hitS])) (by intro y h1 h2 h3 h4; simp [h1, h2, h3, h4])⟩
      · exact ⟨_, _, _, _, rfl, by k_asm, led_r0 (by k_asm), hw2, rfl, noS_succ he hno (by simp_all [hitS]), canon2 (by intro y h1 h2; simp [h1, h2])⟩
      · exact ⟨_, _, _, (P0, listOf (vs.push (.str c2 t2)) (n + 1)) :: news, rfl, by k_asm, led_r1 (by k_asm), off_cons2 hw rfl, jo_more hvs (by rw [hgetD]; exact signS_hit he hno (by simp_all [hitS])) (by intro y h1 h2 h3 h4; simp [h1, h2, h3, h4])⟩
      · exact ⟨_, _, _, _, rfl, by k_asm, led_r0 (by k_asm), hw2, rfl, noS_succ he hno (by simp_all [hitS]), canon2 (by intro y h1 h2; simp [h1, h2])⟩
    · intro h4 tk4 m4 news4 F4 N4 pt96
      (with_reducible refine (?_ : let G9 : Prop := _; G9)); intro G9
      obtain ⟨rfl, hno, w1, w2, rfl⟩ := pt96
      k_unfold; clear G9
      rw [hsz2] at hno
      (repeat' (first | (((fail_if_success (fail_if_success k_unfold)); first | (with_reducible refine (?_ : wpAny _ _ _ _ _ _)) | k_unfold); try dsimp only) | ((fail_if_success (fail_if_success (with_reducible refine ex1 (by constructor) ?_))); (fail_if_success (fail_if_success k_fold)); (with_reducible refine (?_ : let qk := _; let ek := _; wpAny _ _ _ qk ek _)); intro qk ek) | ((fail_if_success (with_reducible first | ((fail_if_success (refine go1 (by constructor) ?_)); refine st1 (by constructor) ?_) | show Exists _)); walk1; try dsimp only)))
      all_goals (try dsimp only)
      · exact ⟨_, _, _, (P0, listOf (vs.push (.str (Str.ofString "?") _)) (n + 1)) :: news, rfl, by k_asm, led_r0 (by k_asm), off_cons2 hw rfl, jo_more hvs (by rw [hgetD, signS_none hno]; simp_all) (by intro y h1 h2 h3 h4; simp [h1, h2, h3, h4])⟩
      · exact ⟨_, _, _, (P0, listOf (vs.push (.str (Str.ofString "-") _)) (n + 1)) :: news, rfl, by k_asm, led_r0 (by k_asm), off_cons2 hw rfl, jo_more hvs (by rw [hgetD, signS_none hno]; simp_all) (by intro y h1 h2 h3 h4; simp [h1, h2, h3, h4])⟩
  · intro h4 tk4 m4 news4 F4 N4 pt96
    (with_reducible refine (?_ : let G9 : Prop := _; G9)); intro G9
    obtain ⟨vs, n, rfl, hvs, u1, u2, u3, u4, rfl⟩ := pt96
    k_unfold; clear G9
    (repeat' (first | (((fail_if_success (fail_if_success k_unfold)); first | (with_reducible refine (?_ : wpAny _ _ _ _ _ _)) | k_unfold); try dsimp only) | ((fail_if_success (fail_if_success (with_reducible refine ex1 (by constructor) ?_))); (fail_if_success (fail_if_success k_fold)); (with_reducible refine (?_ : let qk := _; let ek := _; wpAny _ _ _ qk ek _)); intro qk ek) | ((fail_if_success (with_reducible show wpAny _ _ (call (Value.builtin "str.join") _) _ _ _)); (fail_if_success (with_reducible first | ((fail_if_success (refine go1 (by constructor) ?_)); refine st1 (by constructor) ?_) | show Exists _)); walk1; try dsimp only)))
    have hsz10 : items.size = 10 := hsz
    rw [hsz10] at hvs
    refine join_list (News.isList N4 (.head _)) hvs (by rw [signsS_sum]; simp [signsS]; decide +kernel) fun t' k' => ?_
    (repeat' (first | (((fail_if_success (fail_if_success k_unfold)); first | (with_reducible refine (?_ : wpAny _ _ _ _ _ _)) | k_unfold); try dsimp only) | ((fail_if_success (fail_if_success (with_reducible refine ex1 (by constructor) ?_))); (fail_if_success (fail_if_success k_fold)); (with_reducible refine (?_ : let qk := _; let ek := _; wpAny _ _ _ qk ek _)); intro qk ek) | ((fail_if_success (with_reducible first | ((fail_if_success (refine go1 (by constructor) ?_)); refine st1 (by constructor) ?_) | show Exists _)); walk1; try dsimp only)))
    rename Fr h₀ _ _ _ => Fz
    rename News h₀ _ _ _ => Nz
    exact hret _ _ _ Fz (news_sub Nz fun p hp => .tail _ hp)
end
section
open PySem PySem.W PyProof.Rows PySem.Calls PySem.Spec
def figS (md : Int) (i : Nat) : Int := if i = 0 then Int.fmod (Int.fdiv md 64) 8 else if i = 1 then Int.fmod (Int.fdiv md 8) 8 else Int.fmod md 8
def abvS (md : Int) (i : Nat) : Int := if i = 0 then Int.fmod (Int.fdiv md 2048) 2 else if i = 1 then Int.fmod (Int.fdiv md 1024) 2 else Int.fmod (Int.fdiv md 512) 2
def sgnS (i : Nat) : Str := if i = 2 then Str.ofString "t" else Str.ofString "s"
theorem sgn_len (i : Nat) : (sgnS i).length = 1 := by unfold sgnS; split <;> decide +kernel
theorem usgn_len (i : Nat) : (Txt.upper (sgnS i)).length = 1 := by unfold sgnS; split <;> decide +kernel
theorem len_ite {c : Prop} [Decidable c] {a b : Str} : (if c then a else b).length = if c then a.length else b.length := by split <;> rfl
theorem l1r : (Str.ofString "r").length = 1 := by decide +kernel
theorem l1m : (Str.ofString "-").length = 1 := by decide +kernel
theorem l1w : (Str.ofString "w").length = 1 := by decide +kernel
theorem l1x : (Str.ofString "x").length = 1 := by decide +kernel
local macro_rules | `(tactic| walk_at "lens") => `(tactic| (simp only [Str.length_append, len_ite, l1r, l1m, l1w, l1x, sgn_len, usgn_len, ite_self]; rw [sizeLine_eq]; omega))
local macro_rules | `(tactic| walk_at "binaryOp Add str str") => `(tactic| (refine add_str ?_ ?z; (case z => walk_at "lens"); intro _ _))
local macro_rules | `(tactic| walk_at "call builtin:str.upper") => `(tactic| (refine SCL.upper (by rw [sgn_len]; decide) ?_; intro _))
def turnS (md : Int) (i : Nat) (tx : Str) : Str := ((tx ++ if decide (3 < figS md i) = true then Str.ofString "r" else Str.ofString "-") ++ if decide (1 < (figS md i).fmod 4) = true then Str.ofString "w" else Str.ofString "-") ++
  if abvS md i = 1 then (if (figS md i).fmod 2 = 1 then sgnS i else Txt.upper (sgnS i)) else (if ((figS md i).fmod 2 == 1) = true then Str.ofString "x" else Str.ofString "-")
theorem turnS_len (md : Int) (i : Nat) (tx : Str) : (turnS md i tx).length = tx.length + 3 := by
  unfold turnS
  simp only [Str.length_append, len_ite, l1r, l1m, l1w, l1x, sgn_len, usgn_len, ite_self]
def textS (md : Int) : Nat → Str
  | 0 => Txt.item (Str.ofString "?pc?d?b?-?l?s???") ((md.fdiv 4096).fmod 16)
  | i + 1 => turnS md i (textS md i)
def JL (md : Int) (tt : Tok) (i : Nat) (m₁ : Str → Option Value) : Prop :=
  ∃ tx t, tx = textS md i ∧ tx.length = 1 + 3 * i ∧ ∃ u1 u2 u3, m₁ = fun y => if y = Str.ofString "sign" then u1 else if y = Str.ofString "above" then u2 else if y = Str.ofString "figure" then u3 else if y = Str.ofString "text" then some (.str tx t) else List.lookup y [(Str.ofString "mode", Value.int md tt)]
theorem jl_more {md : Int} {tt t : Tok} {i : Nat} {m₁ : Str → Option Value} {X : Str} (ht : m₁ (Str.ofString "text") = some (.str X t)) (hX : X = textS md i) (hl : X.length = 1 + 3 * i)
    (hm : ∀ y, y ≠ Str.ofString "sign" → y ≠ Str.ofString "above" → y ≠ Str.ofString "figure" → y ≠ Str.ofString "text" → m₁ y = List.lookup y [(Str.ofString "mode", Value.int md tt)]) : JL md tt i m₁ := by
  refine ⟨X, t, hX, hl, canon3 fun y h1 h2 h3 => ?_⟩
  by_cases h : y = Str.ofString "text"
  · subst h; rw [if_pos rfl]; exact ht
  · rw [if_neg h]; exact hm y h1 h2 h3 h
theorem signs_spec {w : World} {dp un : Nat} {gd : Option (List Code)} {cn : Str} {cs : Scope} {a : Addr} {ccd : Value} {cl : List (Str × Addr)} {outer : List Env} {A₀ : Around} {base h₀ : Heap} {L : Addr} {m : Str → Option Value} {news : List (Addr × Obj)} {s : Shared} {p : Program} {loose : List Str} {mean : ExcName → Option Value} {mg mb : Str → Option Value}
    {Q E : Value → Shared → Prop} (B : Below A₀ base outer h₀) (F : Fr h₀ L s.heap m) (X : (Mine.K w.params).In h₀) (N : News h₀ L s.heap news) (T : Top p loose mean mg mb h₀) (hk : cs.kind = .function) (hd : dp + 10 < recursionLimit) (hu : un + 80 < cLine)
    {md : Int} {tt : Tok}
    (hret : ∀ t' h' tk', Fr h₀ L h' m → News h₀ L h' news → Q (.str (textS md 3) t') { s with heap := h', toks := tk' }) :
    wpAny (model PySem.Challenge.pw_nq0248_01 w) (ktrTop dp un gd cn cs L a ccd cl outer) (call (.ref 265) [.int md tt]) Q E s := by
  have hfill : (fun (_ : OpenLaw) (_ : Params → Frag) => True) PySem.Challenge.rw_nq0248_01 Mine.K := by k_fill; trivial
  clear hfill
  refine wpAny_call ?_
  k_dflt ktr_enter
  rename Fr _ _ _ _ => F1
  replace F1 : Fr _ _ _ (fun y => List.lookup y [(Str.ofString "mode", Value.int md tt)]) := F1
  refine gen_toks fun tk0 => ?_
  dsimp only
  (repeat' (first | (((fail_if_success (fail_if_success k_unfold)); first | (with_reducible refine (?_ : wpAny _ _ _ _ _ _)) | k_unfold); try dsimp only) | ((fail_if_success (fail_if_success (with_reducible refine ex1 (by constructor) ?_))); (fail_if_success (fail_if_success k_fold)); (with_reducible refine (?_ : let qk := _; let ek := _; wpAny _ _ _ qk ek _)); intro qk ek) | ((fail_if_success (with_reducible first | ((fail_if_success (refine go1 (by constructor) ?_)); refine st1 (by constructor) ?_) | show Exists _)); walk1; try dsimp only)))
  refine wpAny_For ?_
  (repeat' (first | (((fail_if_success (fail_if_success k_unfold)); first | (with_reducible refine (?_ : wpAny _ _ _ _ _ _)) | k_unfold); try dsimp only) | ((fail_if_success (fail_if_success (with_reducible refine ex1 (by constructor) ?_))); (fail_if_success (fail_if_success k_fold)); (with_reducible refine (?_ : let qk := _; let ek := _; wpAny _ _ _ qk ek _)); intro qk ek) | ((fail_if_success (with_reducible first | ((fail_if_success (refine go1 (by constructor) ?_)); refine st1 (by constructor) ?_) | show Exists _)); walk1; try dsimp only)))
  rename Fr _ _ _ _ => F2
  rename News _ _ _ _ => N2
  have hlst := N2 _ (.head _)
  refine iter_list0 rfl (News.isList N2 (.head _)) hlst.2.1 F2 N2 (JL md tt) ?_ ?_ ?_
  · exact jl_more rfl rfl (by assumption) fun y _ _ _ h => by simp [h]
  · intro i v m₁ h₁ tk₁ nn hi hv pt98 hsub Fi Ni
    (with_reducible refine (?_ : let G9 : Prop := _; G9)); intro G9
    obtain ⟨tx, t, htx, htl, u1, u2, u3, rfl⟩ := pt98
    k_unfold; clear G9
    have hT : ∃ D t1 t2 t3, v = .ref D ∧ IsTup h₁ D #[.int (figS md i) t1, .int (abvS md i) t2, .str (sgnS i) t3] := by
      obtain rfl | rfl | rfl : i = 0 ∨ i = 1 ∨ i = 2 := by have : i < 3 := hi; omega
      · cases hv; exact ⟨_, _, _, _, rfl, News.isTup Ni (hsub _ (.tail _ (.tail _ (.tail _ (.head _)))))⟩
      · cases hv; exact ⟨_, _, _, _, rfl, News.isTup Ni (hsub _ (.tail _ (.tail _ (.head _))))⟩
      · cases hv; exact ⟨_, _, _, _, rfl, News.isTup Ni (hsub _ (.tail _ (.head _)))⟩
    (with_reducible refine (?_ : let G9 : Prop := _; G9)); intro G9
    obtain ⟨D, t1, t2, t3, rfl, hT⟩ := hT
    k_unfold; clear G9
    refine triple_assign Fi Ni rfl hT (fun h3 tk3 F3 N3 => ?_)
    have hi3 : i < 3 := hi
    dsimp only
    (repeat' (first | (((fail_if_success (fail_if_success k_unfold)); first | (with_reducible refine (?_ : wpAny _ _ _ _ _ _)) | k_unfold); try dsimp only) | ((fail_if_success (fail_if_success (with_reducible refine ex1 (by constructor) ?_))); (fail_if_success (fail_if_success k_fold)); (with_reducible refine (?_ : let qk := _; let ek := _; wpAny _ _ _ qk ek _)); intro qk ek) | ((fail_if_success (with_reducible first | ((fail_if_success (refine go1 (by constructor) ?_)); refine st1 (by constructor) ?_) | show Exists _)); walk1; try dsimp only)))
    all_goals (
      refine ⟨_, _, _, rfl, by k_asm, by k_asm, ?_⟩
      refine jl_more rfl ?_ ?_ (by intro y h1 h2 h3 h4; simp [h1, h2, h3, h4]))
    all_goals first
      | (rw [show textS md (i + 1) = turnS md i (textS md i) from rfl, turnS, ← htx]; (first | rw [if_pos (show abvS md i = 1 by assumption), if_pos (show (figS md i).fmod 2 = 1 by assumption)] | rw [if_pos (show abvS md i = 1 by assumption), if_neg (show ¬ (figS md i).fmod 2 = 1 by assumption)] | rw [if_neg (show ¬ abvS md i = 1 by assumption)]))
      | (simp only [Str.length_append, len_ite, l1r, l1m, l1w, l1x, sgn_len, usgn_len, ite_self]; omega)
  · intro h4 tk4 m4 F4 N4 pt95
    (with_reducible refine (?_ : let G9 : Prop := _; G9)); intro G9
    obtain ⟨tx, t, htx, htl, u1, u2, u3, rfl⟩ := pt95
    k_unfold; clear G9
    (repeat' (first | (((fail_if_success (fail_if_success k_unfold)); first | (with_reducible refine (?_ : wpAny _ _ _ _ _ _)) | k_unfold); try dsimp only) | ((fail_if_success (fail_if_success (with_reducible refine ex1 (by constructor) ?_))); (fail_if_success (fail_if_success k_fold)); (with_reducible refine (?_ : let qk := _; let ek := _; wpAny _ _ _ qk ek _)); intro qk ek) | ((fail_if_success (with_reducible first | ((fail_if_success (refine go1 (by constructor) ?_)); refine st1 (by constructor) ?_) | show Exists _)); walk1; try dsimp only)))
    rename Fr h₀ _ _ _ => Fz
    rename News h₀ _ _ _ => Nz
    subst htx
    exact hret _ _ _ Fz (news_sub Nz fun p hp => .tail _ (.tail _ (.tail _ (.tail _ hp))))
end
section
open PySem PySem.W PyProof.Rows PySem.Calls PySem.Spec
def entD (h1 h2 h3 h4 : Int) (t1 t2 t3 t4 : Tok) (u : Addr) (r : Value) : List DictEntry :=
  [⟨h1, .str (Str.ofString "useragents") t1, .ref u⟩, ⟨h2, .str (Str.ofString "rulelines") t2, r⟩, ⟨h3, .str (Str.ofString "delay") t3, .none⟩, ⟨h4, .str (Str.ofString "req_rate") t4, .none⟩]
def hitA (y ag : Str) : Bool := ag != Str.ofString "*" && Txt.contains (Txt.lower y) (Txt.lower ag)
theorem strs_at {vs : List Value} {xs : List Str} (h : StrsAre vs xs) : ∀ {i : Nat} {v : Value}, vs[i]? = some v → ∃ x t, v = .str x t ∧ xs[i]? = some x := by
  induction h with
  | nil => intro i v e; simp at e
  | cons y t _ ih =>
    intro i v e
    cases i with
    | zero => simp at e; exact ⟨y, t, e.symm, rfl⟩
    | succ i => simpa using ih (i := i) (v := v) (by simpa using e)
theorem canon1a {m b : Str → Option Value} {x1 : Str} (h : ∀ y, y ≠ x1 → m y = b y) : ∃ u1, m = fun y => if y = x1 then u1 else b y := by
  refine ⟨m x1, funext fun y => ?_⟩
  by_cases h1 : y = x1
  · simp [h1]
  · simp only [h1, if_false]; exact h y h1
theorem no_succ {α : Type} {f : α → Bool} {row : List α} {j : Nat} {e : α} (he : row[j]? = some e) (hno : ∀ x ∈ row.take j, f x = false) (hit : f e = false) : ∀ x ∈ row.take (j + 1), f x = false := by
  intro x hx
  rw [List.take_add_one, he] at hx
  rcases List.mem_append.mp hx with q | q
  · exact hno x q
  · have : x = e := by simpa using q
    rw [this]; exact hit
def mAP (x : Str) (tx : Tok) (e : Addr) (y0 : Str) (tq : Tok) : Str → Option Value := fun y => if y = Str.ofString "useragent" then some (.str (Txt.lower y0) tq) else List.lookup y [(Str.ofString "useragent", Value.str x tx), (Str.ofString "self", Value.ref e)]
theorem applies_spec {w : World} {dp un : Nat} {gd : Option (List Code)} {cn : Str} {cs : Scope} {a : Addr} {ccd : Value} {cl : List (Str × Addr)} {outer : List Env} {A₀ : Around} {base h₀ : Heap} {L : Addr} {m : Str → Option Value} {news : List (Addr × Obj)} {s : Shared} {p : Program} {loose : List Str} {mean : ExcName → Option Value} {mg mb : Str → Option Value}
    {Q E : Value → Shared → Prop} (B : Below A₀ base outer h₀) (F : Fr h₀ L s.heap m) (X : (Mine.K w.params).In h₀) (N : News h₀ L s.heap news) (T : Top p loose mean mg mb h₀) (hk : cs.kind = .function) (hd : dp + 10 < recursionLimit) (hu : un + 80 < cLine)
    {e d u : Addr} {n1 n2 : Nat} {h1 h2 h3 h4 : Int} {t1 t2 t3 t4 tx : Tok} {r : Value} {vs : Array Value} {ags : List Str} {x : Str}
    (he : (e, instObj 233 d) ∈ news) (hdd : (d, dictOf [⟨h1, .str (Str.ofString "useragents") t1, .ref u⟩, ⟨h2, .str (Str.ofString "rulelines") t2, r⟩, ⟨h3, .str (Str.ofString "delay") t3, .none⟩, ⟨h4, .str (Str.ofString "req_rate") t4, .none⟩] n1) ∈ news)
    (hus : (u, listOf vs n2) ∈ news) (hvs : StrsAre vs.toList ags) (hxl : x.length ≤ 100) (hagl : ∀ ag ∈ ags, ag.length ≤ 100)
    (hret : ∀ y0 h' tk', (Txt.split x (Str.ofString "/")).head? = some y0 → Fr h₀ L h' m → News h₀ L h' news → Q (.bool (ags.any (hitA y0))) { s with heap := h', toks := tk' }) :
    wpAny (model PySem.Challenge.pw_nq0248_01 w) (ktrTop dp un gd cn cs L a ccd cl outer) (call (.ref 223) [.ref e, .str x tx]) Q E s := by
  have hfill : (fun (_ : OpenLaw) (_ : Params → Frag) => True) PySem.Challenge.rw_nq0248_01 Mine.K := by k_fill; trivial
  clear hfill
  refine wpAny_call ?_
  k_dflt ktr_enter
  rename Fr _ _ _ _ => F1
  replace F1 : Fr _ _ _ (fun y => List.lookup y [(Str.ofString "useragent", Value.str x tx), (Str.ofString "self", Value.ref e)]) := F1
  refine gen_toks fun tk0 => ?_
  dsimp only
  refine (?_ : let A1 := _; wpAny _ A1 _ _ _ _)
  intro A1
  (repeat' (first | (((fail_if_success (fail_if_success k_unfold)); first | (with_reducible refine (?_ : wpAny _ _ _ _ _ _)) | k_unfold); try dsimp only) | ((fail_if_success (fail_if_success (with_reducible refine ex1 (by constructor) ?_))); (fail_if_success (fail_if_success k_fold)); (with_reducible refine (?_ : let qk := _; let ek := _; wpAny _ _ _ qk ek _)); intro qk ek) | ((fail_if_success (with_reducible show wpAny _ _ (call (Value.builtin "str.lower") _) _ _ _)); (fail_if_success (with_reducible first | ((fail_if_success (refine go1 (by constructor) ?_)); refine st1 (by constructor) ?_) | show Exists _)); walk1; try dsimp only)))
  rename_i l9 _ _ hsp _ hlen _ _ _ y0 ty hy0
  have hy1 : (Txt.split x (Str.ofString "/")).head? = some y0 := by rw [← hsp, List.head?_eq_getElem?]; exact hy0
  have hyl := hlen y0 (List.mem_of_getElem? hy0)
  refine SCL.lower (by omega) ?_
  intro hll
  (repeat' (first | (((fail_if_success (fail_if_success k_unfold)); first | (with_reducible refine (?_ : wpAny _ _ _ _ _ _)) | k_unfold); try dsimp only) | ((fail_if_success (fail_if_success (with_reducible refine ex1 (by constructor) ?_))); (fail_if_success (fail_if_success k_fold)); (with_reducible refine (?_ : let qk := _; let ek := _; wpAny _ _ _ qk ek _)); intro qk ek) | ((fail_if_success (with_reducible first | ((fail_if_success (refine go1 (by constructor) ?_)); refine st1 (by constructor) ?_) | show Exists _)); walk1; try dsimp only)))
  refine wpAny_For ?_
  refine gen_toks fun tk8 => ?_
  dsimp only
  k_fold
  (repeat' (first | (((fail_if_success (fail_if_success k_unfold)); first | (with_reducible refine (?_ : wpAny _ _ _ _ _ _)) | k_unfold); try dsimp only) | ((fail_if_success (fail_if_success (with_reducible refine ex1 (by constructor) ?_))); (fail_if_success (fail_if_success k_fold)); (with_reducible refine (?_ : let qk := _; let ek := _; wpAny _ _ _ qk ek _)); intro qk ek) | ((fail_if_success (with_reducible first | ((fail_if_success (refine go1 (by constructor) ?_)); refine st1 (by constructor) ?_) | show Exists _)); walk1; try dsimp only)))
  rename Fr _ _ _ _ => F2
  rename News _ _ _ _ => N2
  refine iter_list0 rfl (News.isList N2 (.tail _ hus)) (N2 _ (.tail _ hus)).2.1 F2 N2 (fun i m₁ => (∀ ag ∈ ags.take i, hitA y0 ag = false) ∧ ∃ tq u1, m₁ = fun y => if y = Str.ofString "agent" then u1 else mAP x tx e y0 tq y) ⟨by simp, _, canon1a (b := mAP x tx e y0 _) fun y _ => rfl⟩ ?_ ?_
  · intro i v m₁ h₁ tk₁ nn hi hv pt98 hsub Fi Ni
    (with_reducible refine (?_ : let G9 : Prop := _; G9)); intro G9
    obtain ⟨hno, tq, u1, rfl⟩ := pt98
    k_unfold; clear G9
    (with_reducible refine (?_ : let G9 : Prop := _; G9)); intro G9
    obtain ⟨ag, tg, rfl, hag⟩ := strs_at hvs (by simpa using hv)
    k_unfold; clear G9
    have hagl' := hagl ag (List.mem_of_getElem? hag)
    show wpAny _ _ _ _ _ _
    dsimp only
    k_fold
    (repeat' (first | (((fail_if_success (fail_if_success k_unfold)); first | (with_reducible refine (?_ : wpAny _ _ _ _ _ _)) | k_unfold); try dsimp only) | ((fail_if_success (fail_if_success (with_reducible refine ex1 (by constructor) ?_))); (fail_if_success (fail_if_success k_fold)); (with_reducible refine (?_ : let qk := _; let ek := _; wpAny _ _ _ qk ek _)); intro qk ek) | ((fail_if_success (with_reducible first | ((fail_if_success (refine go1 (by constructor) ?_)); refine st1 (by constructor) ?_) | show Exists _)); walk1; try dsimp only)))
    · exact ⟨_, _, _, rfl, by k_asm, by k_asm, no_succ hag hno (by simp_all [hitA, Txt.contains]), tq, canon1a (by intro y h1; simp [h1])⟩
    · rename Fr h₀ _ _ _ => Fz
      rename News h₀ _ _ _ => Nz
      have e9 : ags.any (hitA y0) = true := List.any_eq_true.mpr ⟨ag, List.mem_of_getElem? hag, by simp_all [hitA, Txt.contains]⟩
      rw [← e9]
      exact hret y0 _ _ hy1 Fz (news_sub Nz fun p hp => hsub p (.tail _ hp))
    · exact ⟨_, _, _, rfl, by k_asm, by k_asm, no_succ hag hno (by simp_all [hitA, Txt.contains]), tq, canon1a (by intro y h1; simp [h1])⟩
  · intro h4 tk4 m4 F4 N4 pt95
    (with_reducible refine (?_ : let G9 : Prop := _; G9)); intro G9
    obtain ⟨hno, tq, u1, rfl⟩ := pt95
    k_unfold; clear G9
    have e9 : ags.any (hitA y0) = false := by
      have hl : vs.size = ags.length := by simpa using hvs.length
      rw [hl, List.take_length] at hno
      exact List.any_eq_false.mpr fun x hx => by simp [hno x hx]
    (repeat' (first | (((fail_if_success (fail_if_success k_unfold)); first | (with_reducible refine (?_ : wpAny _ _ _ _ _ _)) | k_unfold); try dsimp only) | ((fail_if_success (fail_if_success (with_reducible refine ex1 (by constructor) ?_))); (fail_if_success (fail_if_success k_fold)); (with_reducible refine (?_ : let qk := _; let ek := _; wpAny _ _ _ qk ek _)); intro qk ek) | ((fail_if_success (with_reducible first | ((fail_if_success (refine go1 (by constructor) ?_)); refine st1 (by constructor) ?_) | show Exists _)); walk1; try dsimp only)))
    rename Fr h₀ _ _ _ => Fz
    rename News h₀ _ _ _ => Nz
    rw [← e9]
    exact hret y0 _ _ hy1 Fz (news_sub Nz fun p hp => .tail _ hp)
end
section
def hitW (x y : Str) (k : Nat) : Bool := Txt.slice y (some (0 + (k : Int))) (some (0 + (k : Int) + (x.length : Int))) == x
def withS (x y : Str) : Bool := (List.range (y.length - x.length + 1 : Int).toNat).any (hitW x y)
theorem range_any_succ (f : Nat → Bool) (i : Nat) : (List.range (i + 1)).any f = ((List.range i).any f || f i) := by rw [List.range_succ, List.any_append]; simp
theorem ints_snocW {vs : List Value} {ns : List Int} (h : IntsAre vs ns) (n : Int) (t : Tok) : IntsAre (vs ++ [.int n t]) (ns ++ [n]) := by
  induction h with
  | nil => exact .cons n t .nil
  | cons k u _ ih => exact .cons k u ih
theorem within_spec {w : World} {dp un : Nat} {gd : Option (List Code)} {cn : Str} {cs : Scope} {a : Addr} {ccd : Value} {cl : List (Str × Addr)} {outer : List Env} {A₀ : Around} {base h₀ : Heap} {L : Addr} {m : Str → Option Value} {news : List (Addr × Obj)} {s : Shared} {p : Program} {loose : List Str} {mean : ExcName → Option Value} {mg mb : Str → Option Value}
    {Q E : Value → Shared → Prop} (B : Below A₀ base outer h₀) (F : Fr h₀ L s.heap m) (X : (Mine.K w.params).In h₀) (N : News h₀ L s.heap news) (T : Top p loose mean mg mb h₀) (hk : cs.kind = .function) (hd : dp + 10 < recursionLimit) (hu : un + 80 < cLine)
    {x y : Str} {tx ty : Tok} (hxl : x.length ≤ 100) (hyl : y.length ≤ 100)
    (hret : ∀ h' tk', Fr h₀ L h' m → News h₀ L h' news → Q (.bool (withS x y)) { s with heap := h', toks := tk' }) :
    wpAny (model PySem.Challenge.pw_nq0248_01 w) (ktrTop dp un gd cn cs L a ccd cl outer) (call (.ref 275) [.str x tx, .str y ty]) Q E s := by
  have hfill : (fun (_ : OpenLaw) (_ : Params → Frag) => True) PySem.Challenge.rw_nq0248_01 Mine.K := by k_fill; trivial
  clear hfill
  refine wpAny_call ?_
  k_dflt ((refine' code_defC ?k1 ?k2 ?k3 ?k4 ?k5 ?kA ?kF ?kK ?k6 ?k7 ?k8 ?k9 ?kB ?kD ?_ ?c2 ?c3 ?c4; (case kA | kF => exact rfl); (case kK => assumption); (case k1 | k2 | k3 | k4 | k5 => k_asm); (case k6 | k7 => k_is); (case k8 => ktr_room); (case k9 => exact BindsTo.of_eq rfl); (case kB | c2 | c3 | c4 => exact rfl); (case kD => decide +kernel); k_whole; intro _ _ _ _ _ _ _ N1 Y9 _ _ _ l1; (try k_lt l1); k_cells Y9; (try simp only [List.cons_append, List.nil_append] at N1); (try dsimp only)))
  rename_i g1 L1 h1 tk1 FG F1 B1 X1 T1 c1 c2 d1 d2
  replace F1 : Fr g1 L1 h1 (fun _ => none) := F1
  replace d1 : c1.data = Data.cell (some (.str y ty)) := d1
  replace d2 : c2.data = Data.cell (some (.str x tx)) := d2
  refine (?_ : let A1 := _; wpAny _ A1 _ _ _ _)
  intro A1
  (repeat' (first | (((fail_if_success (fail_if_success k_unfold)); first | (with_reducible refine (?_ : wpAny _ _ _ _ _ _)) | k_unfold); try dsimp only) | ((fail_if_success (fail_if_success (with_reducible refine ex1 (by constructor) ?_))); (fail_if_success (fail_if_success k_fold)); (with_reducible refine (?_ : let qk := _; let ek := _; wpAny _ _ _ qk ek _)); intro qk ek) | ((fail_if_success (with_reducible first | ((fail_if_success (refine go1 (by constructor) ?_)); refine st1 (by constructor) ?_) | show Exists _)); walk1; try dsimp only)))
  rw [eval_ListComp]
  refine wpAny_comprehension_free (use := none) rfl (by intro _; rfl) (by rfl) (by rfl) (by decide) ?_
  show wpAny _ _ (eval _ _) _ _ _
  (repeat' (first | (((fail_if_success (fail_if_success k_unfold)); first | (with_reducible refine (?_ : wpAny _ _ _ _ _ _)) | k_unfold); try dsimp only) | ((fail_if_success (fail_if_success (with_reducible refine ex1 (by constructor) ?_))); (fail_if_success (fail_if_success k_fold)); (with_reducible refine (?_ : let qk := _; let ek := _; wpAny _ _ _ qk ek _)); intro qk ek) | ((fail_if_success (with_reducible first | ((fail_if_success (refine go1 (by constructor) ?_)); refine st1 (by constructor) ?_) | show Exists _)); walk1; try dsimp only)))
  rename_i h2 tk2 t2 u2 v2 hr F2 N2 hkp
  clear hkp
  refine comp_range (n := (y.length - x.length + 1 : Int).toNat) rfl (by decide) rfl rfl (by rw [sizeLine_eq]; omega) F2 N2 hr (small_one (by omega) (by omega) (by omega) (by omega)) (rng_size rfl)
    (fun i ys nw => nw = ((L1 + 1 + 1, c1) :: (L1 + 1, c2) :: news) ∧ ∃ ns, IntsAre ys ns ∧ ns.isEmpty = !(List.range i).any (hitW x y)) ⟨rfl, [], .nil, rfl⟩ ?_ (post_none ?_)
  · intro i ti ys nw I oI C oC D mC h3 tk3 E' hi pt914 hC hx F3 N3 off ne
    (with_reducible refine (?_ : let G9 : Prop := _; G9)); intro G9
    obtain ⟨rfl, ns, hin, hys⟩ := pt914
    k_unfold; clear G9
    refine forIn_one ?_
    (repeat' (first | (((fail_if_success (fail_if_success k_unfold)); first | (with_reducible refine (?_ : wpAny _ _ _ _ _ _)) | k_unfold); try dsimp only) | ((fail_if_success (fail_if_success (with_reducible refine ex1 (by constructor) ?_))); (fail_if_success (fail_if_success k_fold)); (with_reducible refine (?_ : let qk := _; let ek := _; wpAny _ _ _ qk ek _)); intro qk ek) | ((fail_if_success (with_reducible first | ((fail_if_success (refine go1 (by constructor) ?_)); refine st1 (by constructor) ?_) | show Exists _)); walk1; try dsimp only)))
    · exact ⟨_, _, _, _, _, rfl, by k_asm, by k_asm, hC, off, rfl, _, ints_snocW hin _ _, by rw [range_any_succ]; simp_all [hitW]⟩
    · exact ⟨_, _, _, _, _, rfl, by k_asm, by k_asm, hC, off, rfl, _, hin, by rw [range_any_succ]; simp_all [hitW]⟩
  · intro D ys _ h3 tk3 F3 N3 off pt98
    (with_reducible refine (?_ : let G9 : Prop := _; G9)); intro G9
    obtain ⟨rfl, ns, hin, hys⟩ := pt98
    k_unfold; clear G9
    (repeat' (first | (((fail_if_success (fail_if_success k_unfold)); first | (with_reducible refine (?_ : wpAny _ _ _ _ _ _)) | k_unfold); try dsimp only) | ((fail_if_success (fail_if_success (with_reducible refine ex1 (by constructor) ?_))); (fail_if_success (fail_if_success k_fold)); (with_reducible refine (?_ : let qk := _; let ek := _; wpAny _ _ _ qk ek _)); intro qk ek) | ((fail_if_success (with_reducible first | ((fail_if_success (refine go1 (by constructor) ?_)); refine st1 (by constructor) ?_) | show Exists _)); walk1; try dsimp only)))
    rename News _ _ _ _ => N4
    refine ne_intsK (vs := ys) (us := []) (News.isList N4 (.tail _ (.head _))) hin (News.isList N4 (.head _)) .nil (show un + 3 + 64 < cLine by omega) ?_
    (repeat' (first | (((fail_if_success (fail_if_success k_unfold)); first | (with_reducible refine (?_ : wpAny _ _ _ _ _ _)) | k_unfold); try dsimp only) | ((fail_if_success (fail_if_success (with_reducible refine ex1 (by constructor) ?_))); (fail_if_success (fail_if_success k_fold)); (with_reducible refine (?_ : let qk := _; let ek := _; wpAny _ _ _ qk ek _)); intro qk ek) | ((fail_if_success (with_reducible first | ((fail_if_success (refine go1 (by constructor) ?_)); refine st1 (by constructor) ?_) | show Exists _)); walk1; try dsimp only)))
    rename Fr h₀ _ _ _ => Fz
    rename News h₀ _ _ _ => Nz
    have e9 : (!decide (ns = [])) = withS x y := by cases ns <;> simp_all [withS]
    rw [e9]
    exact hret _ _ Fz (news_sub Nz fun p hp => .tail _ (.tail _ (.tail _ (.tail _ hp))))
end
section
def smallC (c : Nat) : Nat := if 65 ≤ c ∧ c ≤ 90 then c + 32 else c
def smallL (x : Str) (i : Nat) : List Str := (x.cps.toList.take i).map fun c => ⟨#[smallC c]⟩
def smallS (x : Str) : Str := Txt.join (Str.ofString "") (smallL x x.cps.size)
abbrev bigABC : Str := Str.ofString "ABCDEFGHIJKLMNOPQRSTUVWXYZ"
theorem occ_abc : ∀ c < 128, (Builtin.Str.occurrences bigABC ⟨#[c]⟩ 0 bigABC.length 1).isEmpty = !(decide (65 ≤ c) && decide (c ≤ 90)) := by decide +kernel
theorem find_abc : ∀ c < 128, 65 ≤ c → c ≤ 90 → Txt.find bigABC ⟨#[c]⟩ = ((c - 65 : Nat) : Int) := by decide +kernel
theorem item_abc : ∀ c < 128, 65 ≤ c → c ≤ 90 → Txt.item (Str.ofString "abcdefghijklmnopqrstuvwxyz") ((c - 65 : Nat) : Int) = ⟨#[c + 32]⟩ := by decide +kernel
theorem smallL_succ {x : Str} {i c : Nat} (h : x.cps[i]? = some c) : smallL x (i + 1) = smallL x i ++ [⟨#[smallC c]⟩] := by
  unfold smallL
  rw [List.take_add_one]
  simp [h]
theorem smallL_sum (x : Str) (i : Nat) : ((smallL x i).map (·.length)).sum = (smallL x i).length := by
  unfold smallL
  generalize x.cps.toList.take i = l
  induction l with
  | nil => rfl
  | cons c r ih => simp only [List.map_cons, List.sum_cons, List.length_cons]; rw [ih]; show 1 + _ = _; omega
theorem small_spec {w : World} {dp un : Nat} {gd : Option (List Code)} {cn : Str} {cs : Scope} {a : Addr} {ccd : Value} {cl : List (Str × Addr)} {outer : List Env} {A₀ : Around} {base h₀ : Heap} {L : Addr} {m : Str → Option Value} {news : List (Addr × Obj)} {s : Shared} {p : Program} {loose : List Str} {mean : ExcName → Option Value} {mg mb : Str → Option Value}
    {Q E : Value → Shared → Prop} (B : Below A₀ base outer h₀) (F : Fr h₀ L s.heap m) (X : (Mine.K w.params).In h₀) (N : News h₀ L s.heap news) (T : Top p loose mean mg mb h₀) (hk : cs.kind = .function) (hd : dp + 10 < recursionLimit) (hu : un + 80 < cLine)
    {x : Str} {tx : Tok} (hxl : x.length ≤ 100) (hxa : ∀ (i c : Nat), x.cps[i]? = some c → c < 128)
    (hret : ∀ t' h' tk', Fr h₀ L h' m → News h₀ L h' news → Q (.str (smallS x) t') { s with heap := h', toks := tk' }) :
    wpAny (model PySem.Challenge.pw_nq0248_01 w) (ktrTop dp un gd cn cs L a ccd cl outer) (call (.ref 270) [.str x tx]) Q E s := by
  have hfill : (fun (_ : OpenLaw) (_ : Params → Frag) => True) PySem.Challenge.rw_nq0248_01 Mine.K := by k_fill; trivial
  clear hfill
  refine wpAny_call ?_
  k_dflt ktr_enter
  rename Fr _ _ _ _ => F1
  rename_i g1 L1 h1 FG N1 B1 X1 T1
  replace F1 : Fr g1 L1 h1 (fun y => List.lookup y [(Str.ofString "text", Value.str x tx)]) := F1
  refine gen_toks fun tk0 => ?_
  dsimp only
  refine (?_ : let A1 := _; wpAny _ A1 _ _ _ _)
  intro A1
  (repeat' (first | (((fail_if_success (fail_if_success k_unfold)); first | (with_reducible refine (?_ : wpAny _ _ _ _ _ _)) | k_unfold); try dsimp only) | ((fail_if_success (fail_if_success (with_reducible refine ex1 (by constructor) ?_))); (fail_if_success (fail_if_success k_fold)); (with_reducible refine (?_ : let qk := _; let ek := _; wpAny _ _ _ qk ek _)); intro qk ek) | ((fail_if_success (with_reducible first | ((fail_if_success (refine go1 (by constructor) ?_)); refine st1 (by constructor) ?_) | show Exists _)); walk1; try dsimp only)))
  rw [eval_ListComp]
  refine wpAny_comprehension_free (use := none) rfl (by intro _; rfl) (by rfl) (by rfl) (by decide) ?_
  show wpAny _ _ (eval _ _) _ _ _
  (repeat' (first | (((fail_if_success (fail_if_success k_unfold)); first | (with_reducible refine (?_ : wpAny _ _ _ _ _ _)) | k_unfold); try dsimp only) | ((fail_if_success (fail_if_success (with_reducible refine ex1 (by constructor) ?_))); (fail_if_success (fail_if_success k_fold)); (with_reducible refine (?_ : let qk := _; let ek := _; wpAny _ _ _ qk ek _)); intro qk ek) | ((fail_if_success (with_reducible first | ((fail_if_success (refine go1 (by constructor) ?_)); refine st1 (by constructor) ?_) | show Exists _)); walk1; try dsimp only)))
  rename Fr _ _ _ _ => F2
  rename News _ _ _ _ => N2
  refine comp_str rfl (by decide) rfl rfl (by rw [sizeLine_eq]; show x.length ≤ _; omega) F2 N2
    (fun i ys nw => nw = news ∧ StrsAre ys (smallL x i)) ⟨rfl, .nil⟩ ?_ (post_none ?_)
  · intro i c ti ys nw I oI C oC D mC h3 tk3 E' hi hcc pt916 hC hx F3 N3 off ne
    (with_reducible refine (?_ : let G9 : Prop := _; G9)); intro G9
    obtain ⟨rfl, hys⟩ := pt916
    k_unfold; clear G9
    have hc128 := hxa i c hcc
    have hocc := occ_abc c hc128
    refine forIn_nil0 ?_
    show wpAny _ _ _ _ _ _
    (repeat' (first | (((fail_if_success (fail_if_success k_unfold)); first | (with_reducible refine (?_ : wpAny _ _ _ _ _ _)) | k_unfold); try dsimp only) | ((fail_if_success (fail_if_success (with_reducible refine ex1 (by constructor) ?_))); (fail_if_success (fail_if_success k_fold)); (with_reducible refine (?_ : let qk := _; let ek := _; wpAny _ _ _ qk ek _)); intro qk ek) | ((fail_if_success (with_reducible show wpAny _ _ (subscriptTail _ _ _ _) _ _ _)); (fail_if_success (with_reducible first | ((fail_if_success (refine go1 (by constructor) ?_)); refine st1 (by constructor) ?_) | show Exists _)); walk1; try dsimp only)))
    · rename_i e
      rw [hocc] at e
      refine ⟨_, _, _, _, _, rfl, F3, N3, hC, off, rfl, ?_⟩
      rw [smallL_succ hcc, show smallC c = c by unfold smallC; simp at e; split <;> omega]
      exact strs_snoc hys _ _
    · simp_all
    · rename_i e _ _
      rw [hocc] at e
      simp at e
      rw [find_abc c hc128 e.1 e.2]
      (repeat' (first | (((fail_if_success (fail_if_success k_unfold)); first | (with_reducible refine (?_ : wpAny _ _ _ _ _ _)) | k_unfold); try dsimp only) | ((fail_if_success (fail_if_success (with_reducible refine ex1 (by constructor) ?_))); (fail_if_success (fail_if_success k_fold)); (with_reducible refine (?_ : let qk := _; let ek := _; wpAny _ _ _ qk ek _)); intro qk ek) | ((fail_if_success (with_reducible first | ((fail_if_success (refine go1 (by constructor) ?_)); refine st1 (by constructor) ?_) | show Exists _)); walk1; try dsimp only)))
      refine ⟨_, _, _, _, _, rfl, F3, N3, hC, off, rfl, ?_⟩
      rw [smallL_succ hcc, show smallC c = c + 32 by unfold smallC; simp [e], item_abc c hc128 e.1 e.2]
      exact strs_snoc hys _ _
  · intro D ys _ h3 tk3 F3 N3 off pt98
    (with_reducible refine (?_ : let G9 : Prop := _; G9)); intro G9
    obtain ⟨rfl, hys⟩ := pt98
    k_unfold; clear G9
    (repeat' (first | (((fail_if_success (fail_if_success k_unfold)); first | (with_reducible refine (?_ : wpAny _ _ _ _ _ _)) | k_unfold); try dsimp only) | ((fail_if_success (fail_if_success (with_reducible refine ex1 (by constructor) ?_))); (fail_if_success (fail_if_success k_fold)); (with_reducible refine (?_ : let qk := _; let ek := _; wpAny _ _ _ qk ek _)); intro qk ek) | ((fail_if_success (with_reducible show wpAny _ _ (call (Value.builtin "str.join") _) _ _ _)); (fail_if_success (with_reducible first | ((fail_if_success (refine go1 (by constructor) ?_)); refine st1 (by constructor) ?_) | show Exists _)); walk1; try dsimp only)))
    refine join_list (News.isList N3 (.head _)) hys (by rw [smallL_sum]; simp only [smallL, List.length_map, List.length_take, Array.length_toList, Nat.min_self]; rw [show (Str.ofString "").length = 0 by decide +kernel]; have : x.cps.size = x.length := rfl; omega) fun t' k' => ?_
    (repeat' (first | (((fail_if_success (fail_if_success k_unfold)); first | (with_reducible refine (?_ : wpAny _ _ _ _ _ _)) | k_unfold); try dsimp only) | ((fail_if_success (fail_if_success (with_reducible refine ex1 (by constructor) ?_))); (fail_if_success (fail_if_success k_fold)); (with_reducible refine (?_ : let qk := _; let ek := _; wpAny _ _ _ qk ek _)); intro qk ek) | ((fail_if_success (with_reducible first | ((fail_if_success (refine go1 (by constructor) ?_)); refine st1 (by constructor) ?_) | show Exists _)); walk1; try dsimp only)))
    rename Fr h₀ _ _ _ => Fz
    rename News h₀ _ _ _ => Nz
    exact hret _ _ _ Fz (news_sub Nz fun p hp => .tail _ hp)
end
section
def tailS (k : Int) : Str := [Str.ofString "", Str.ofString "/", Str.ofString "/rwx"].getD (k.fmod 3).toNat PySem.Str.empty
def nameS (x : Str) (k : Int) : Str := (if k.fmod 2 = 1 then Txt.upper x else x) ++ tailS k
theorem tails_len : ∀ i < 3, ([Str.ofString "", Str.ofString "/", Str.ofString "/rwx"].getD i PySem.Str.empty).length ≤ 4 := by decide +kernel
theorem name_spec {w : World} {dp un : Nat} {gd : Option (List Code)} {cn : Str} {cs : Scope} {a : Addr} {ccd : Value} {cl : List (Str × Addr)} {outer : List Env} {A₀ : Around} {base h₀ : Heap} {L : Addr} {m : Str → Option Value} {news : List (Addr × Obj)} {s : Shared} {p : Program} {loose : List Str} {mean : ExcName → Option Value} {mg mb : Str → Option Value}
    {Q E : Value → Shared → Prop} (B : Below A₀ base outer h₀) (F : Fr h₀ L s.heap m) (X : (Mine.K w.params).In h₀) (N : News h₀ L s.heap news) (T : Top p loose mean mg mb h₀) (hk : cs.kind = .function) (hd : dp + 10 < recursionLimit) (hu : un + 80 < cLine)
    {x : Str} {tx tk9 : Tok} {k : Int} (hxl : x.length ≤ 100)
    (hret : ∀ t' h' tk', Fr h₀ L h' m → News h₀ L h' news → Q (.str (nameS x k) t') { s with heap := h', toks := tk' }) :
    wpAny (model PySem.Challenge.pw_nq0248_01 w) (ktrTop dp un gd cn cs L a ccd cl outer) (call (.ref 258) [.str x tx, .int k tk9]) Q E s := by
  have hfill : (fun (_ : OpenLaw) (_ : Params → Frag) => True) PySem.Challenge.rw_nq0248_01 Mine.K := by k_fill; trivial
  clear hfill
  refine wpAny_call ?_
  k_dflt ktr_enter
  rename Fr _ _ _ _ => F1
  rename_i g1 L1 h1 FG N1 B1 X1 T1
  replace F1 : Fr g1 L1 h1 (fun y => List.lookup y [(Str.ofString "k", Value.int k tk9), (Str.ofString "word", Value.str x tx)]) := F1
  refine gen_toks fun tk0 => ?_
  dsimp only
  refine (?_ : let A1 := _; wpAny _ A1 _ _ _ _)
  intro A1
  have h3 : 0 ≤ k.fmod 3 ∧ k.fmod 3 < 3 := ⟨Int.fmod_nonneg_of_pos _ (by decide), Int.fmod_lt_of_pos _ (by decide)⟩
  have h4 := tails_len (k.fmod 3).toNat (by omega)
  (repeat' (first | (((fail_if_success (fail_if_success k_unfold)); first | (with_reducible refine (?_ : wpAny _ _ _ _ _ _)) | k_unfold); try dsimp only) | ((fail_if_success (fail_if_success (with_reducible refine ex1 (by constructor) ?_))); (fail_if_success (fail_if_success k_fold)); (with_reducible refine (?_ : let qk := _; let ek := _; wpAny _ _ _ qk ek _)); intro qk ek) | ((fail_if_success (with_reducible show wpAny _ _ (subscriptTail _ _ _ _) _ _ _)); (fail_if_success (with_reducible first | ((fail_if_success (refine go1 (by constructor) ?_)); refine st1 (by constructor) ?_) | show Exists _)); walk1; try dsimp only)))
  all_goals (
    rename Fr _ _ _ _ => F2
    rename News _ _ _ _ => N2
    refine KTb.item_list (vs := [_, _, _]) (ws := [Str.ofString "", Str.ofString "/", Str.ofString "/rwx"]) (News.isList N2 (.head _)) (.cons _ _ (.cons _ _ (.cons _ _ .nil))) h3.1 h3.2 (by omega) ?_
    intro t3 _
    refine add_str ?_ ?z
    case z => rw [sizeLine_eq]; omega
    intro _ _
    (repeat' (first | (((fail_if_success (fail_if_success k_unfold)); first | (with_reducible refine (?_ : wpAny _ _ _ _ _ _)) | k_unfold); try dsimp only) | ((fail_if_success (fail_if_success (with_reducible refine ex1 (by constructor) ?_))); (fail_if_success (fail_if_success k_fold)); (with_reducible refine (?_ : let qk := _; let ek := _; wpAny _ _ _ qk ek _)); intro qk ek) | ((fail_if_success (with_reducible first | ((fail_if_success (refine go1 (by constructor) ?_)); refine st1 (by constructor) ?_) | show Exists _)); walk1; try dsimp only)))
    rename Fr h₀ _ _ _ => Fz
    rename News h₀ _ _ _ => Nz
    have e9 : ∀ z, z = nameS x k → ∀ t' h' tk', Fr h₀ L h' m → News h₀ L h' news → Q (.str z t') { s with heap := h', toks := tk' } := fun z e => e ▸ hret
    exact e9 _ (by simp_all [nameS, tailS]) _ _ _ Fz (news_sub Nz fun p hp => .tail _ hp))
end
section
def RecOf (u e : Addr) (own : List (Addr × Obj)) : Prop := ∃ d r, ∃ (h1 h2 h3 h4 : Int) (t1 t2 t3 t4 : Tok), (e, instObj 233 d) ∈ own ∧
  (d, dictOf [⟨h1, .str (Str.ofString "useragents") t1, .ref u⟩, ⟨h2, .str (Str.ofString "rulelines") t2, r⟩, ⟨h3, .str (Str.ofString "delay") t3, .none⟩, ⟨h4, .str (Str.ofString "req_rate") t4, .none⟩] 4) ∈ own
theorem record_spec {w : World} {dp un : Nat} {gd : Option (List Code)} {cn : Str} {cs : Scope} {a : Addr} {ccd : Value} {cl : List (Str × Addr)} {outer : List Env} {A₀ : Around} {base h₀ : Heap} {L : Addr} {m : Str → Option Value} {news : List (Addr × Obj)} {s : Shared} {p : Program} {loose : List Str} {mean : ExcName → Option Value} {mg mb : Str → Option Value}
    {Q E : Value → Shared → Prop} (B : Below A₀ base outer h₀) (F : Fr h₀ L s.heap m) (X : (Mine.K w.params).In h₀) (N : News h₀ L s.heap news) (T : Top p loose mean mg mb h₀) (hk : cs.kind = .function) (hd : dp + 10 < recursionLimit) (hu : un + 80 < cLine)
    {u : Addr}
    (hret : ∀ e own h' tk', Fr h₀ L h' m → News h₀ L h' (own ++ news) → RecOf u e own → (∀ p ∈ own, ∀ q ∈ news, q.1 < p.1) → Q (.ref e) { s with heap := h', toks := tk' }) :
    wpAny (model PySem.Challenge.pw_nq0248_01 w) (ktrTop dp un gd cn cs L a ccd cl outer) (call (.ref 251) [.ref u]) Q E s := by
  have hfill : (fun (_ : OpenLaw) (_ : Params → Frag) => True) PySem.Challenge.rw_nq0248_01 Mine.K := by k_fill; trivial
  clear hfill
  refine wpAny_call ?_
  k_dflt ktr_enter
  rename Fr _ _ _ _ => F1
  rename_i g1 L1 h1 FG N1 B1 X1 T1
  replace F1 : Fr g1 L1 h1 (fun y => List.lookup y [(Str.ofString "agents", Value.ref u)]) := F1
  refine gen_toks fun tk0 => ?_
  dsimp only
  (repeat' (first | (((fail_if_success (fail_if_success k_unfold)); first | (with_reducible refine (?_ : wpAny _ _ _ _ _ _)) | k_unfold); try dsimp only) | ((fail_if_success (fail_if_success (with_reducible refine ex1 (by constructor) ?_))); (fail_if_success (fail_if_success k_fold)); (with_reducible refine (?_ : let qk := _; let ek := _; wpAny _ _ _ qk ek _)); intro qk ek) | ((fail_if_success (with_reducible first | ((fail_if_success (refine go1 (by constructor) ?_)); refine st1 (by constructor) ?_) | show Exists _)); walk1; try dsimp only)))
  rename ∀ p ∈ news, p.1 < _ => hl1
  rename Fr h₀ _ _ _ => Fz
  rename News h₀ _ _ _ => Nz
  refine hret _ [_, _, _, _] _ _ Fz Nz ⟨_, _, _, _, _, _, _, _, _, _, .tail _ (.tail _ (.head _)), .tail _ (.tail _ (.tail _ (.head _)))⟩ ?_
  intro p hp q hq
  have := ltN (hl1 q hq)
  simp only [List.mem_cons, List.not_mem_nil, or_false] at hp
  rcases hp with rfl | rfl | rfl | rfl <;> (refine ltN ?_; dsimp only; omega)
end
section
theorem applies_none {w : World} {dp un : Nat} {gd : Option (List Code)} {cn : Str} {cs : Scope} {a : Addr} {ccd : Value} {cl : List (Str × Addr)} {outer : List Env} {A₀ : Around} {base h₀ : Heap} {L : Addr} {m : Str → Option Value} {news : List (Addr × Obj)} {s : Shared} {p : Program} {loose : List Str} {mean : ExcName → Option Value} {mg mb : Str → Option Value}
    {Q E : Value → Shared → Prop} (B : Below A₀ base outer h₀) (F : Fr h₀ L s.heap m) (X : (Mine.K w.params).In h₀) (N : News h₀ L s.heap news) (T : Top p loose mean mg mb h₀) (hk : cs.kind = .function) (hd : dp + 10 < recursionLimit) (hu : un + 80 < cLine)
    {e d u : Addr} {n1 n2 : Nat} {h1 h2 h3 h4 : Int} {t1 t2 t3 t4 : Tok} {r : Value} {vs : Array Value} {ags : List Str}
    (he : (e, instObj 233 d) ∈ news) (hdd : (d, dictOf [⟨h1, .str (Str.ofString "useragents") t1, .ref u⟩, ⟨h2, .str (Str.ofString "rulelines") t2, r⟩, ⟨h3, .str (Str.ofString "delay") t3, .none⟩, ⟨h4, .str (Str.ofString "req_rate") t4, .none⟩] n1) ∈ news)
    (hus : (u, listOf vs n2) ∈ news) (hvs : StrsAre vs.toList ags) (hsz : vs.size ≤ 100)
    (hret : ∀ h' tk', Fr h₀ L h' m → News h₀ L h' news → Q (.bool (ags.any fun x => x == Str.ofString "*")) { s with heap := h', toks := tk' }) :
    wpAny (model PySem.Challenge.pw_nq0248_01 w) (ktrTop dp un gd cn cs L a ccd cl outer) (call (.ref 223) [.ref e, .none]) Q E s := by
  have hfill : (fun (_ : OpenLaw) (_ : Params → Frag) => True) PySem.Challenge.rw_nq0248_01 Mine.K := by k_fill; trivial
  clear hfill
  refine wpAny_call ?_
  k_dflt ktr_enter
  rename Fr _ _ _ _ => F1
  rename_i g1 L1 h1 FG N1 B1 X1 T1
  replace F1 : Fr _ _ _ (fun y => List.lookup y [(Str.ofString "useragent", Value.none), (Str.ofString "self", Value.ref e)]) := F1
  refine gen_toks fun tk0 => ?_
  dsimp only
  refine (?_ : let A1 := _; wpAny _ A1 _ _ _ _)
  intro A1
  (repeat' (first | (((fail_if_success (fail_if_success k_unfold)); first | (with_reducible refine (?_ : wpAny _ _ _ _ _ _)) | k_unfold); try dsimp only) | ((fail_if_success (fail_if_success (with_reducible refine ex1 (by constructor) ?_))); (fail_if_success (fail_if_success k_fold)); (with_reducible refine (?_ : let qk := _; let ek := _; wpAny _ _ _ qk ek _)); intro qk ek) | ((fail_if_success (with_reducible first | ((fail_if_success (refine go1 (by constructor) ?_)); refine st1 (by constructor) ?_) | show Exists _)); walk1; try dsimp only)))
  refine in_list_strs (News.isList N1 hus) hvs ?_
  (repeat' (first | (((fail_if_success (fail_if_success k_unfold)); first | (with_reducible refine (?_ : wpAny _ _ _ _ _ _)) | k_unfold); try dsimp only) | ((fail_if_success (fail_if_success (with_reducible refine ex1 (by constructor) ?_))); (fail_if_success (fail_if_success k_fold)); (with_reducible refine (?_ : let qk := _; let ek := _; wpAny _ _ _ qk ek _)); intro qk ek) | ((fail_if_success (with_reducible first | ((fail_if_success (refine go1 (by constructor) ?_)); refine st1 (by constructor) ?_) | show Exists _)); walk1; try dsimp only)))
  rename Fr h₀ _ _ _ => Fz
  rename News h₀ _ _ _ => Nz
  exact hret _ _ Fz Nz
end
section
def RowIs (vs : Array Value) (rs : List Int) : Prop := IntsAre vs.toList rs ∧ rs.length ≤ 63 ∧ ∀ z ∈ rs, 0 ≤ z ∧ z < 1000000
abbrev tup4 (q : Int × Int × Int × Int) (t1 t2 t3 t4 : Tok) : Obj := { cls := .type "tuple", data := .seq #[.int q.1 t1, .int q.2.1 t2, .int q.2.2.1 t3, .int q.2.2.2 t4] }
def ModeOk (q : Int × Int × Int × Int) : Prop := 0 ≤ q.1 ∧ 0 ≤ q.2.1 ∧ 0 ≤ q.2.2.1 ∧ q.2.2.1 ≤ 8 ∧ q.2.2.1 < q.2.2.2 ∧ q.2.2.2 ≤ q.2.2.1 + 5
def ModeAt (own : List (Addr × Obj)) (v : Value) (q : Int × Int × Int × Int) : Prop := ∃ T t1 t2 t3 t4, v = .ref T ∧ (T, tup4 q t1 t2 t3 t4) ∈ own
structure ModesAt (own : List (Addr × Obj)) (ws : Array Value) (ms : List (Int × Int × Int × Int)) : Prop where
  len : ws.size = ms.length
  at' : ∀ (i : Nat) (v : Value), ws[i]? = some v → ∃ q, ms[i]? = some q ∧ ModeAt own v q ∧ ModeOk q
theorem ModesAt.push {own own' : List (Addr × Obj)} {ws : Array Value} {ms : List (Int × Int × Int × Int)} {v : Value} {q : Int × Int × Int × Int} (h : ModesAt own ws ms) (hs : ∀ p ∈ own, p ∈ own') (hv : ModeAt own' v q) (ho : ModeOk q) : ModesAt own' (ws.push v) (ms ++ [q]) := by
  refine ⟨by simp [h.len], fun i u e => ?_⟩
  rw [Array.getElem?_push] at e
  split at e
  · cases e
    refine ⟨q, ?_, hv, ho⟩
    rename_i e; rw [e, h.len]; simp
  · obtain ⟨q', e1, ⟨T, t1, t2, t3, t4, e2, e3⟩, e4⟩ := h.at' i u e
    refine ⟨q', ?_, ⟨T, t1, t2, t3, t4, e2, hs _ e3⟩, e4⟩
    rw [List.getElem?_append_left (List.getElem?_eq_some_iff.mp e1).1]; exact e1
def mMD (u1 u2 u3 u4 : Option Value) (M r : Addr) : Str → Option Value := fun y => if y = Str.ofString "kind" then u1 else if y = Str.ofString "begin" then u2 else if y = Str.ofString "x" then u3 else if y = Str.ofString "k" then u4 else if y = Str.ofString "modes" then some (.ref M) else List.lookup y [(Str.ofString "row", Value.ref r)]
inductive JMD (r : Addr) (news : List (Addr × Obj)) (i : Nat) (m₁ : Str → Option Value) (news₁ : List (Addr × Obj)) : Prop
  | mk (M) (ws) (nn) (own) (ms) (u1) (u2) (u3) (u4) (h99 : m₁ = mMD u1 u2 u3 u4 M r) (h910 : news₁ = (M, W.listOf ws nn) :: (own ++ news)) (h911 : ModesAt own ws ms) (h912 : ws.size = 4 + i) (h913 : ∀ p ∈ own, ∀ q ∈ news, q.1 < p.1) (h914 : ∀ q ∈ news, q.1 < M) (h915 : ∀ p ∈ own ++ news, p.1 ≠ M) : JMD r news i m₁ news₁
theorem mMD_canon {a b c d u1 u2 u3 u4 : Option Value} {M r : Addr} : (fun y => if y = Str.ofString "kind" then a else if y = Str.ofString "begin" then b else if y = Str.ofString "x" then c else if y = Str.ofString "k" then d else mMD u1 u2 u3 u4 M r y) = mMD a b c d M r := by
  funext y
  unfold mMD
  by_cases h1 : y = Str.ofString "kind"
  · simp [h1]
  by_cases h2 : y = Str.ofString "begin"
  · simp [h1, h2]
  by_cases h3 : y = Str.ofString "x"
  · simp [h1, h2, h3]
  by_cases h4 : y = Str.ofString "k"
  · simp [h1, h2, h3, h4]
  simp only [h1, h2, h3, h4, if_false]
theorem mMD_zero {M r : Addr} : (fun y => if y = Str.ofString "modes" then some (.ref M) else List.lookup y [(Str.ofString "row", Value.ref r)]) = mMD none none none none M r := by
  funext y
  unfold mMD
  by_cases h1 : y = Str.ofString "kind"
  · subst h1; rw [if_neg (show ¬ Str.ofString "kind" = Str.ofString "modes" by decide +kernel), show List.lookup (Str.ofString "kind") [(Str.ofString "row", Value.ref r)] = none by rw [List.lookup_cons, show (Str.ofString "kind" == Str.ofString "row") = false by decide +kernel]; rfl]; simp
  by_cases h2 : y = Str.ofString "begin"
  · subst h2; rw [if_neg (show ¬ Str.ofString "begin" = Str.ofString "modes" by decide +kernel), show List.lookup (Str.ofString "begin") [(Str.ofString "row", Value.ref r)] = none by rw [List.lookup_cons, show (Str.ofString "begin" == Str.ofString "row") = false by decide +kernel]; rfl]; simp
  by_cases h3 : y = Str.ofString "x"
  · subst h3; rw [if_neg (show ¬ Str.ofString "x" = Str.ofString "modes" by decide +kernel), show List.lookup (Str.ofString "x") [(Str.ofString "row", Value.ref r)] = none by rw [List.lookup_cons, show (Str.ofString "x" == Str.ofString "row") = false by decide +kernel]; rfl]; simp
  by_cases h4 : y = Str.ofString "k"
  · subst h4; rw [if_neg (show ¬ Str.ofString "k" = Str.ofString "modes" by decide +kernel), show List.lookup (Str.ofString "k") [(Str.ofString "row", Value.ref r)] = none by rw [List.lookup_cons, show (Str.ofString "k" == Str.ofString "row") = false by decide +kernel]; rfl]; simp
  simp only [h1, h2, h3, h4, if_false]
theorem kinds_pos : ∀ i < 8, (0 : Int) ≤ [(16384 : Int), 32768, 40960, 49152, 24576, 8192, 4096, 57344].getD i 0 := by decide +kernel
theorem modeOk_new (S : Int) (hS : 0 ≤ S) : ModeOk ([(16384 : Int), 32768, 40960, 49152, 24576, 8192, 4096, 57344].getD ((S.fdiv 36).fmod 8).toNat 0 + S.fmod 4096, S + 65536 * S.fmod 3, (S.fdiv 4).fmod 9, (S.fdiv 4).fmod 9 + 1 + S.fmod 5) := by
  have h8 : ((S.fdiv 36).fmod 8).toNat < 8 := by rw [Int.fmod_eq_emod_of_nonneg _ (by decide)]; lia
  have := kinds_pos _ h8
  generalize List.getD _ _ _ = t at this ⊢
  simp only [Int.fmod_eq_emod_of_nonneg _ (show (0 : Int) ≤ 4096 by decide), Int.fmod_eq_emod_of_nonneg _ (show (0 : Int) ≤ 3 by decide), Int.fmod_eq_emod_of_nonneg _ (show (0 : Int) ≤ 9 by decide), Int.fmod_eq_emod_of_nonneg _ (show (0 : Int) ≤ 5 by decide)]
  refine ⟨?_, ?_, ?_, ?_, ?_, ?_⟩ <;> dsimp only <;> lia
theorem modes_zero {own : List (Addr × Obj)} {a b c d : Addr} {t1 t2 t3 t4 t5 t6 t7 t8 t9 t10 t11 t12 t13 t14 t15 t16 : Tok}
    (ha : (a, tup4 (16384, 33261, 1, 4) t1 t2 t3 t4) ∈ own) (hb : (b, tup4 (40960, 16, 6, 7) t5 t6 t7 t8) ∈ own) (hc : (c, tup4 (32768, 2541, 0, 5) t9 t10 t11 t12) ∈ own) (hd : (d, tup4 (4096, 146, 5, 6) t13 t14 t15 t16) ∈ own) :
    ModesAt own #[.ref a, .ref b, .ref c, .ref d] [(16384, 33261, 1, 4), (40960, 16, 6, 7), (32768, 2541, 0, 5), (4096, 146, 5, 6)] := by
  refine ⟨rfl, fun i v e => ?_⟩
  match i, e with
  | 0, e => cases e; exact ⟨_, rfl, ⟨_, _, _, _, _, rfl, ha⟩, by unfold ModeOk; decide⟩
  | 1, e => cases e; exact ⟨_, rfl, ⟨_, _, _, _, _, rfl, hb⟩, by unfold ModeOk; decide⟩
  | 2, e => cases e; exact ⟨_, rfl, ⟨_, _, _, _, _, rfl, hc⟩, by unfold ModeOk; decide⟩
  | 3, e => cases e; exact ⟨_, rfl, ⟨_, _, _, _, _, rfl, hd⟩, by unfold ModeOk; decide⟩
  | i + 4, e => simp at e
theorem md_fin {g h8 : Heap} {L D9 I M r : Addr} {x y z u : Int} {t1 t2 t3 t4 : Tok} {X1 X2 : Addr × Obj} {oI : Obj} {ws : Array Value} {nn i : Nat} {own news : List (Addr × Obj)} {ms : List (Int × Int × Int × Int)} {m' : Str → Option Value} {v1 v2 v3 v4 u1 u2 u3 u4 : Option Value} {s : Shared} {tk : Nat}
    (F8 : Fr g L h8 m') (N8 : News g L h8 ((D9, { cls := .type "tuple", data := .seq #[.int x t1, .int y t2, .int z t3, .int u t4] }) :: X1 :: X2 :: (I, oI) :: (M, W.listOf (ws.push (.ref D9)) (nn + 1)) :: (own ++ news)))
    (hm : m' = fun y => if y = Str.ofString "kind" then v1 else if y = Str.ofString "begin" then v2 else if y = Str.ofString "x" then v3 else if y = Str.ofString "k" then v4 else mMD u1 u2 u3 u4 M r y)
    (hms : ModesAt own ws ms) (hok : ModeOk (x, y, z, u)) (hws : ws.size = 4 + i) (hf1 : ∀ p ∈ own, ∀ q ∈ news, q.1 < p.1) (hf2 : ∀ q ∈ news, q.1 < M) (hne : ∀ p ∈ own ++ news, p.1 ≠ M)
    (hw : ∀ p ∈ (M, W.listOf ws nn) :: (own ++ news), p.1 ≠ I) (l1 : @LT.lt Nat _ I D9) (l2 : @LT.lt Nat _ M D9) :
    ∃ h' tk' m' news', ({ s with heap := h8, toks := tk } : Shared) = { s with heap := h', toks := tk' } ∧ Fr g L h' m' ∧ News g L h' ((I, oI) :: news') ∧ (∀ p ∈ news', p.1 ≠ I) ∧ JMD r news (i + 1) m' news' := by
  subst hm
  refine ⟨h8, _, _, (M, W.listOf (ws.push (.ref D9)) (nn + 1)) :: (((D9, { cls := .type "tuple", data := .seq #[.int x t1, .int y t2, .int z t3, .int u t4] }) :: own) ++ news), rfl, F8, news_sub N8 ?_, ?_, M, ws.push (.ref D9), nn + 1, (D9, _) :: own, ms ++ [(x, y, z, u)], _, _, _, _, mMD_canon, rfl,
      hms.push (fun p hp => .tail _ hp) ⟨D9, t1, t2, t3, t4, rfl, .head _⟩ hok, by rw [Array.size_push, hws]; omega, ?_, hf2, ?_⟩
  · intro p hp
    rcases List.mem_cons.mp hp with rfl | hp
    · exact .tail _ (.tail _ (.tail _ (.head _)))
    rcases List.mem_cons.mp hp with rfl | hp
    · exact .tail _ (.tail _ (.tail _ (.tail _ (.head _))))
    rcases List.mem_cons.mp hp with rfl | hp
    · exact .head _
    · exact .tail _ (.tail _ (.tail _ (.tail _ (.tail _ hp))))
  · intro p hp
    rcases List.mem_cons.mp hp with rfl | hp
    · exact hw (M, W.listOf ws nn) (.head _)
    rcases List.mem_cons.mp hp with rfl | hp
    · exact Nat.ne_of_gt l1
    · exact hw _ (.tail _ hp)
  · intro p hp q hq
    rcases List.mem_cons.mp hp with rfl | hp
    · exact Nat.lt_trans (hf2 q hq) l2
    · exact hf1 p hp q hq
  · intro p hp
    rcases List.mem_cons.mp hp with rfl | hp
    · exact Nat.ne_of_gt l2
    · exact hne p hp
theorem md_zero {r a b c d l : Addr} {news : List (Addr × Obj)} {t1 t2 t3 t4 t5 t6 t7 t8 t9 t10 t11 t12 t13 t14 t15 t16 : Tok} (h1 : ∀ p ∈ news, p.1 < a) (h2 : @LT.lt Nat _ a b ∧ AllLt b news) (h3 : @LT.lt Nat _ b c ∧ @LT.lt Nat _ a c ∧ AllLt c news)
    (h4 : @LT.lt Nat _ c d ∧ @LT.lt Nat _ b d ∧ @LT.lt Nat _ a d ∧ AllLt d news) (h5 : @LT.lt Nat _ d l ∧ @LT.lt Nat _ c l ∧ @LT.lt Nat _ b l ∧ @LT.lt Nat _ a l ∧ AllLt l news) :
    JMD r news 0 (fun y => if y = Str.ofString "modes" then some (.ref l) else List.lookup y [(Str.ofString "row", Value.ref r)])
      ((l, W.listOf #[.ref a, .ref b, .ref c, .ref d] 0) :: (d, tup4 (4096, 146, 5, 6) t13 t14 t15 t16) :: (c, tup4 (32768, 2541, 0, 5) t9 t10 t11 t12) :: (b, tup4 (40960, 16, 6, 7) t5 t6 t7 t8) :: (a, tup4 (16384, 33261, 1, 4) t1 t2 t3 t4) :: news) := by
  have key : ∀ q ∈ news, @LT.lt Nat _ q.1 a := h1
  refine ⟨_, _, _, [_, _, _, _], _, _, _, _, _, mMD_zero, rfl, modes_zero (.tail _ (.tail _ (.tail _ (.head _)))) (.tail _ (.tail _ (.head _))) (.tail _ (.head _)) (.head _), rfl, ?_, ?_, ?_⟩
  · intro p hp q hq
    have := key q hq
    simp only [List.mem_cons, List.not_mem_nil, or_false] at hp
    rcases hp with rfl | rfl | rfl | rfl
    · exact ltN (Nat.lt_trans this h4.2.2.1)
    · exact ltN (Nat.lt_trans this h3.2.1)
    · exact ltN (Nat.lt_trans this h2.1)
    · exact ltN this
  · intro q hq
    exact ltN (Nat.lt_trans (key q hq) h5.2.2.2.1)
  · intro p hp
    simp only [List.cons_append, List.nil_append, List.mem_cons] at hp
    rcases hp with rfl | rfl | rfl | rfl | hp
    · exact Nat.ne_of_lt h5.1
    · exact Nat.ne_of_lt h5.2.1
    · exact Nat.ne_of_lt h5.2.2.1
    · exact Nat.ne_of_lt h5.2.2.2.1
    · have := key p hp
      refine neN ?_; omega
theorem min8 (n : Nat) : min 8 n = (if (n : Int) < 8 then (n : Int) else 8).toNat := by
  split
  · rename_i h; rw [Int.toNat_natCast]; exact Nat.min_eq_right (Nat.le_of_lt (Int.ofNat_lt.mp h))
  · rename_i h; exact Nat.min_eq_left (Int.ofNat_le.mp (Int.not_lt.mp h))
theorem small8 (n : Nat) : Builtin.Range.small 0 (if (n : Int) < 8 then (n : Int) else 8) 1 = true := by
  split
  · exact small_one (by lia) (by lia) (by lia) (by lia)
  · exact small_one (by lia) (by lia) (by lia) (by lia)
theorem modes_spec {w : World} {dp un : Nat} {gd : Option (List Code)} {cn : Str} {cs : Scope} {a : Addr} {ccd : Value} {cl : List (Str × Addr)} {outer : List Env} {A₀ : Around} {base h₀ : Heap} {L : Addr} {m : Str → Option Value} {news : List (Addr × Obj)} {s : Shared} {p : Program} {loose : List Str} {mean : ExcName → Option Value} {mg mb : Str → Option Value}
    {Q E : Value → Shared → Prop} (B : Below A₀ base outer h₀) (F : Fr h₀ L s.heap m) (X : (Mine.K w.params).In h₀) (N : News h₀ L s.heap news) (T : Top p loose mean mg mb h₀) (hk : cs.kind = .function) (hd : dp + 10 < recursionLimit) (hu : un + 80 < cLine)
    {r : Addr} {vs : Array Value} {n2 : Nat} {rs : List Int} (hr : (r, listOf vs n2) ∈ news) (hvs : RowIs vs rs)
    (hret : ∀ M ws nn own ms h' tk', Fr h₀ L h' m → News h₀ L h' ((M, W.listOf ws nn) :: (own ++ news)) → ModesAt own ws ms → (ws.size = 4 + min 8 rs.length) → (∀ p ∈ own, ∀ q ∈ news, q.1 < p.1) → (∀ q ∈ news, q.1 < M) → (∀ p ∈ own ++ news, p.1 ≠ M) → Q (.ref M) { s with heap := h', toks := tk' }) :
    wpAny (model PySem.Challenge.pw_nq0248_01 w) (ktrTop dp un gd cn cs L a ccd cl outer) (call (.ref 244) [.ref r]) Q E s := by
  have hfill : (fun (_ : OpenLaw) (_ : Params → Frag) => True) PySem.Challenge.rw_nq0248_01 Mine.K := by k_fill; trivial
  clear hfill
  refine wpAny_call ?_
  k_dflt ((refine' code_def ?k1 ?k2 ?k3 ?k4 ?k5 ?kA ?kF ?kK ?k6 ?k7 ?k8 ?k9 ?kB ?_ ?c2 ?c3 ?c4 ?c5; (case kA | kF => exact rfl); (case kK => assumption); (case k1 | k2 | k3 | k4 | k5 => k_asm); (case k6 | k7 => k_is); (case k8 => ktr_room); (case k9 => exact BindsTo.of_eq rfl); (case c5 => decide); (case kB => exact locs rfl); (case c2 | c3 | c4 => exact rfl); k_whole; intro _ _ _ _ _ _ _ _ _; (try dsimp only)))
  rename Fr _ _ _ _ => F1
  rename_i g1 L1 h1 FG N1 B1 X1 T1
  replace F1 : Fr _ _ _ (fun y => List.lookup y [(Str.ofString "row", Value.ref r)]) := F1
  with_reducible refine gen_toks fun tk0 => ?_
  try dsimp only
  with_reducible refine (?_ : let A1 := _; wpAny _ A1 _ _ _ _)
  intro A1
  (repeat' (first | (((fail_if_success (fail_if_success k_unfold)); first | (with_reducible refine (?_ : wpAny _ _ _ _ _ _)) | k_unfold); try dsimp only) | ((fail_if_success (fail_if_success (with_reducible refine ex1 (by constructor) ?_))); (fail_if_success (fail_if_success k_fold)); (with_reducible refine (?_ : let qk := _; let ek := _; wpAny _ _ _ qk ek _)); intro qk ek) | ((fail_if_success (with_reducible first | ((fail_if_success (refine go1 (by constructor) ?_)); refine st1 (by constructor) ?_) | show Exists _)); walk1; try dsimp only)))
  refine wpAny_For ?_
  with_reducible refine gen_toks fun tk8 => ?_
  try dsimp only
  have hlen : vs.size = rs.length := by have := hvs.1.length; rw [Array.length_toList] at this; exact this
  have hsz : vs.size ≤ 63 := by have := hvs.1.length; rw [Array.length_toList] at this; rw [this]; exact hvs.2.1
  (repeat' (first | (((fail_if_success (fail_if_success k_unfold)); first | (with_reducible refine (?_ : wpAny _ _ _ _ _ _)) | k_unfold); try dsimp only) | ((fail_if_success (fail_if_success (with_reducible refine ex1 (by constructor) ?_))); (fail_if_success (fail_if_success k_fold)); (with_reducible refine (?_ : let qk := _; let ek := _; wpAny _ _ _ qk ek _)); intro qk ek) | ((fail_if_success (with_reducible first | ((fail_if_success (refine go1 (by constructor) ?_)); refine st1 (by constructor) ?_) | show Exists _)); walk1; try dsimp only)))
  rename Fr _ _ _ _ => F3
  rename News _ _ _ _ => N3
  rename IsRange _ _ _ _ _ _ _ _ => hrg
  refine forJ_range (n := min 8 rs.length) rfl F3 N3 hrg (small8 vs.size) (rng_size (by rw [← hlen]; exact min8 _)) (JMD r news) ?_ ?_ ?_
  · exact md_zero (by assumption) (by assumption) (by assumption) (by assumption) (by assumption)
  · intro i ti _ _ I oI h₁ tk₁ hi pt99 hw Fi Ni
    (with_reducible refine (?_ : let G9 : Prop := _; G9)); intro G9
    obtain ⟨M, ws, nn, own, ms, u1, u2, u3, u4, rfl, rfl, hms, hws, hf1, hf2, hne⟩ := pt99
    k_unfold; clear G9
    have hr' : (r, W.listOf vs n2) ∈ own ++ news := List.mem_append_right _ hr
    show wpAny _ _ _ _ _ _
    try dsimp only
    (repeat' (first | (((fail_if_success (fail_if_success k_unfold)); first | (with_reducible refine (?_ : wpAny _ _ _ _ _ _)) | k_unfold); try dsimp only) | ((fail_if_success (fail_if_success (with_reducible refine ex1 (by constructor) ?_))); (fail_if_success (fail_if_success k_fold)); (with_reducible refine (?_ : let qk := _; let ek := _; wpAny _ _ _ qk ek _)); intro qk ek) | ((fail_if_success (with_reducible show wpAny _ _ (subscriptTail _ _ _ _) _ _ _)); (fail_if_success (with_reducible first | ((fail_if_success (refine go1 (by constructor) ?_)); refine st1 (by constructor) ?_) | show Exists _)); walk1; try dsimp only)))
    rename Fr _ _ _ _ => F5
    rename News _ _ _ _ => N5
    rename Heap => h5
    k_dflt (refine' slice_list3 (s := { s with heap := h5, toks := tk + 1 }) ?yF ?yN ?yl ?yp ?yq ?yk ?yo ?_ ?ys ?yt ?yz; (case yF => exact F5); (case yN => exact N5); (case yl => exact News.isList N5 (.tail _ (.tail _ hr'))); (case yp => exact .int _ _); (case yq => exact .none); (case yk => exact .int _ _); (case yo => decide); (case ys => with_unfolding_all rfl); (case yt => (intro _; with_unfolding_all rfl)); (case yz => (rw [sizeLine_eq]; omega)))
    intro h6 F6 N6
    (repeat' (first | (((fail_if_success (fail_if_success k_unfold)); first | (with_reducible refine (?_ : wpAny _ _ _ _ _ _)) | k_unfold); try dsimp only) | ((fail_if_success (fail_if_success (with_reducible refine ex1 (by constructor) ?_))); (fail_if_success (fail_if_success k_fold)); (with_reducible refine (?_ : let qk := _; let ek := _; wpAny _ _ _ qk ek _)); intro qk ek) | ((fail_if_success (with_reducible first | ((fail_if_success (refine go1 (by constructor) ?_)); refine st1 (by constructor) ?_) | show Exists _)); walk1; try dsimp only)))
    refine sumK rfl (by k_asm) (by k_asm) (News.isList N6 (.head _)) (hvs.1.pick _ _ _) ?_
    intro h7 tk7 t7 F7 N7
    generalize (pickNums rs _ _ _).sum = S9
    have hIM : @Ne Nat M I := hw _ (.head _)
    have hMs : @LT.lt Nat _ M h5.objs.size := Heap.lt_size (N5 _ (.tail _ (.head _))).1
    have hIs : @LT.lt Nat _ I h5.objs.size := Heap.lt_size (N5 _ (.head _)).1
    (repeat' (first | (((fail_if_success (fail_if_success k_unfold)); first | (with_reducible refine (?_ : wpAny _ _ _ _ _ _)) | k_unfold); try dsimp only) | ((fail_if_success (fail_if_success (with_reducible refine ex1 (by constructor) ?_))); (fail_if_success (fail_if_success k_fold)); (with_reducible refine (?_ : let qk := _; let ek := _; wpAny _ _ _ qk ek _)); intro qk ek) | ((fail_if_success (with_reducible first | ((fail_if_success (refine go1 (by constructor) ?_)); refine st1 (by constructor) ?_) | show Exists _)); walk1; try dsimp only)))
    rename Fr _ _ _ _ => F8
    rename News _ _ _ _ => N8
    rename_i D9 _ l9 h8
    exact md_fin F8 N8 rfl hms (modeOk_new (S9.fmod 1000000) (Int.fmod_nonneg_of_pos _ (by decide))) hws hf1 hf2 hne hw l9.2.2.1 l9.2.2.2.1
  · intro h4 tk4 _ _ F4 N4 pt96
    (with_reducible refine (?_ : let G9 : Prop := _; G9)); intro G9
    obtain ⟨M, ws, nn, own, ms, u1, u2, u3, u4, rfl, rfl, hms, hws, hf1, hf2, hne⟩ := pt96
    k_unfold; clear G9
    (repeat' (first | (((fail_if_success (fail_if_success k_unfold)); first | (with_reducible refine (?_ : wpAny _ _ _ _ _ _)) | k_unfold); try dsimp only) | ((fail_if_success (fail_if_success (with_reducible refine ex1 (by constructor) ?_))); (fail_if_success (fail_if_success k_fold)); (with_reducible refine (?_ : let qk := _; let ek := _; wpAny _ _ _ qk ek _)); intro qk ek) | ((fail_if_success (with_reducible first | ((fail_if_success (refine go1 (by constructor) ?_)); refine st1 (by constructor) ?_) | show Exists _)); walk1; try dsimp only)))
    rename Fr h₀ _ _ _ => Fz
    rename News h₀ _ _ _ => Nz
    exact hret M ws nn own ms _ _ Fz Nz hms hws hf1 hf2 hne
end
section
theorem getinfo_spec {w : World} {dp un : Nat} {gd : Option (List Code)} {cn : Str} {cs : Scope} {a : Addr} {ccd : Value} {cl : List (Str × Addr)} {outer : List Env} {A₀ : Around} {base h₀ : Heap} {L : Addr} {m : Str → Option Value} {news : List (Addr × Obj)} {s : Shared} {p : Program} {loose : List Str} {mean : ExcName → Option Value} {mg mb : Str → Option Value}
    {Q E : Value → Shared → Prop} (B : Below A₀ base outer h₀) (F : Fr h₀ L s.heap m) (X : (Mine.K w.params).In h₀) (N : News h₀ L s.heap news) (T : Top p loose mean mg mb h₀) (hk : cs.kind = .function) (hd : dp + 10 < recursionLimit) (hu : un + 80 < cLine)
    {S dS G : Addr} {rv : Value} {po nf k : Int} {tk9 : Tok} {ns : List Nde} {oth : List (Addr × Obj)} (Sr : Srt w news S dS G rv po nf ns oth) (hr : ns.length < 100)
    (hret : ∀ n ns' news' h' tk', Fr h₀ L h' m → News h₀ L h' news' → Srt w news' S dS G rv po nf ns' oth → n ∈ ns' → n.k = k → ((n ∈ ns ∧ ns' = ns) ∨ ((∀ n ∈ ns, n.k ≠ k) ∧ n.np = 0 ∧ n.succ = [] ∧ ns' = ns ++ [n])) → plG ns' = gEnsure (plG ns) k → Q (.ref n.N) { s with heap := h', toks := tk' }) :
    wpAny (model PySem.Challenge.pw_nq0248_01 w) (ktrTop dp un gd cn cs L a ccd cl outer) (call (.ref 134) [.ref S, .int k tk9]) Q E s := by
  have hfill : (fun (_ : OpenLaw) (_ : Params → Frag) => True) PySem.Challenge.rw_nq0248_01 Mine.K := by k_fill; trivial
  clear hfill
  refine wpAny_call ?_
  k_dflt ktr_enter
  rename Fr _ _ _ _ => F1
  rename_i g1 L1 h1 FG N1 B1 X1 T1
  replace F1 : Fr g1 L1 h1 (fun y => List.lookup y [(Str.ofString "node", Value.int k tk9), (Str.ofString "self", Value.ref S)]) := F1
  with_reducible refine gen_toks fun tk0 => ?_
  try dsimp only
  have hS := Sr.inst
  (with_reducible refine (?_ : let G9 : Prop := _; G9)); intro G9
  obtain ⟨q1, q2, q3, q4, t1, t2, t3, t4, t5, t6, hdS⟩ := Sr.dict
  k_unfold; clear G9
  (repeat' (first | (((fail_if_success (fail_if_success k_unfold)); first | (with_reducible refine (?_ : wpAny _ _ _ _ _ _)) | k_unfold); try dsimp only) | ((fail_if_success (fail_if_success (with_reducible refine ex1 (by constructor) ?_))); (fail_if_success (fail_if_success k_fold)); (with_reducible refine (?_ : let qk := _; let ek := _; wpAny _ _ _ qk ek _)); intro qk ek) | ((fail_if_success (with_reducible first | ((fail_if_success (refine go1 (by constructor) ?_)); refine st1 (by constructor) ?_) | show Exists _)); walk1; try dsimp only)))
  refine dg_getMethod Sr.map N1 ?_
  (repeat' (first | (((fail_if_success (fail_if_success k_unfold)); first | (with_reducible refine (?_ : wpAny _ _ _ _ _ _)) | k_unfold); try dsimp only) | ((fail_if_success (fail_if_success (with_reducible refine ex1 (by constructor) ?_))); (fail_if_success (fail_if_success k_fold)); (with_reducible refine (?_ : let qk := _; let ek := _; wpAny _ _ _ qk ek _)); intro qk ek) | ((fail_if_success (with_reducible first | ((fail_if_success (refine go1 (by constructor) ?_)); refine st1 (by constructor) ?_) | show Exists _)); walk1; try dsimp only)))
  refine dg_get Sr.map N1 ?_
  cases hv : valueAt (ns.map fun n => (n.k, Value.ref n.N)) k with
  | none =>
    dsimp only [Option.getD]
    (repeat' (first | (((fail_if_success (fail_if_success k_unfold)); first | (with_reducible refine (?_ : wpAny _ _ _ _ _ _)) | k_unfold); try dsimp only) | ((fail_if_success (fail_if_success (with_reducible refine ex1 (by constructor) ?_))); (fail_if_success (fail_if_success k_fold)); (with_reducible refine (?_ : let qk := _; let ek := _; wpAny _ _ _ qk ek _)); intro qk ek) | ((fail_if_success (with_reducible show wpAny _ _ (setItem _ _ _) _ _ _)); (fail_if_success (with_reducible first | ((fail_if_success (refine go1 (by constructor) ?_)); refine st1 (by constructor) ?_) | show Exists _)); walk1; try dsimp only)))
    rename Fr g1 _ _ _ => F2
    rename News g1 _ _ _ => N2
    refine dg_set (Sr.map.sub fun p hp _ => .tail _ (.tail _ (.tail _ hp))) F2 N2 (by rw [List.length_map, sizeLine_eq]; omega) fun o' h' F3 N3 D3 => ?_
    (repeat' (first | (((fail_if_success (fail_if_success k_unfold)); first | (with_reducible refine (?_ : wpAny _ _ _ _ _ _)) | k_unfold); try dsimp only) | ((fail_if_success (fail_if_success (with_reducible refine ex1 (by constructor) ?_))); (fail_if_success (fail_if_success k_fold)); (with_reducible refine (?_ : let qk := _; let ek := _; wpAny _ _ _ qk ek _)); intro qk ek) | ((fail_if_success (with_reducible first | ((fail_if_success (refine go1 (by constructor) ?_)); refine st1 (by constructor) ?_) | show Exists _)); walk1; try dsimp only)))
    rename Fr h₀ _ _ _ => Fz
    rename News h₀ _ _ _ => Nz
    rename ∀ p ∈ news, p.1 < _ => hl1
    rename (@LT.lt Nat _ _ _) => l2
    rename (@LT.lt Nat _ _ _ ∧ @LT.lt Nat _ _ _ ∧ AllLt _ news) => l3
    refine hret ⟨_, _, _, k, 0, []⟩ _ _ _ _ Fz Nz (srt_new Sr hl1 l2 l3.1 (valueAt_none hv) hr D3) (List.mem_append_right _ (.head _)) rfl (.inr ⟨valueAt_none hv, rfl, rfl, rfl⟩) ?_
    unfold gEnsure
    rw [if_neg]
    · exact List.map_append
    · intro pt90
      (with_reducible refine (?_ : let G9 : Prop := _; G9)); intro G9
      obtain ⟨e, he, ek⟩ := pt90
      k_unfold; clear G9
      (with_reducible refine (?_ : let G9 : Prop := _; G9)); intro G9
      obtain ⟨n, hn, rfl⟩ := List.mem_map.mp he
      k_unfold; clear G9
      exact valueAt_none hv n hn ek
  | some v =>
    (with_reducible refine (?_ : let G9 : Prop := _; G9)); intro G9
    obtain ⟨n, hn, hnk, rfl⟩ := valueAt_map hv
    k_unfold; clear G9
    dsimp only [Option.getD]
    (repeat' (first | (((fail_if_success (fail_if_success k_unfold)); first | (with_reducible refine (?_ : wpAny _ _ _ _ _ _)) | k_unfold); try dsimp only) | ((fail_if_success (fail_if_success (with_reducible refine ex1 (by constructor) ?_))); (fail_if_success (fail_if_success k_fold)); (with_reducible refine (?_ : let qk := _; let ek := _; wpAny _ _ _ qk ek _)); intro qk ek) | ((fail_if_success (with_reducible first | ((fail_if_success (refine go1 (by constructor) ?_)); refine st1 (by constructor) ?_) | show Exists _)); walk1; try dsimp only)))
    rename Fr h₀ _ _ _ => Fz
    rename News h₀ _ _ _ => Nz
    exact hret n ns news _ _ Fz Nz Sr hn hnk (.inl ⟨hn, rfl⟩) (by unfold gEnsure; rw [if_pos ⟨n.pl, List.mem_map.mpr ⟨n, hn, rfl⟩, hnk⟩])
end
section
theorem newTup_ok {vs : List Value} (h : vs.length ≤ sizeLine) (l : List Value) (e : l = vs) : newTuple l = newObjAsIs (.type "tuple") (.seq vs.toArray) none := by
  subst e
  unfold newTuple newObj
  try dsimp only
  rw [if_neg (by rw [List.size_toArray]; exact Nat.not_lt.mpr h)]
theorem ints_get {vs : List Value} {ns : List Int} (h : IntsAre vs ns) {i : Nat} {v : Value} (e : vs[i]? = some v) : ∃ k t, v = .int k t ∧ ns[i]? = some k := by
  induction h generalizing i with
  | nil => cases e
  | cons n t _ ih =>
    cases i with
    | zero => cases e; exact ⟨n, t, rfl, rfl⟩
    | succ i => exact ih e
theorem ints_snoc {vs : List Value} {ns : List Int} (h : IntsAre vs ns) (k : Int) (t : Tok) : IntsAre (vs ++ [.int k t]) (ns ++ [k]) := by
  induction h with
  | nil => exact IntsAre.cons _ _ IntsAre.nil
  | cons _ _ _ ih => exact IntsAre.cons _ _ ih
theorem take_snoc {α : Type} {l : List α} {i : Nat} {x : α} (e : l[i]? = some x) : l.take (i + 1) = l.take i ++ [x] := by
  rw [List.take_add_one, e]; rfl
theorem turn_len {k : Int} {f : Nde → Nde} {ns : List Nde} : (turnK k f ns).length = ns.length := List.length_map ..
inductive JAD (w : World) (S dS G : Addr) (po nf k : Int) (ps : List Int) (g0 : Gr) (b : Str → Option Value) (oth : List (Addr × Obj)) (B : Nat) (i : Nat) (m : Str → Option Value) (nw : List (Addr × Obj)) : Prop
  | mk (h90 : ∀ y, y ≠ Str.ofString "pred" → y ≠ Str.ofString "pred_info" → m y = b y) (ns') (h92 : Srt w nw S dS G .none po nf ns' oth) (h93 : plG ns' = (ps.take i).foldl (fun g p => gPush (gEnsure g p) p k) g0) (h94 : ns'.length ≤ B + i) (h95 : ∀ n ∈ ns', n.succ.length + (ps.length - i) ≤ 1000) : JAD w S dS G po nf k ps g0 b oth B i m nw
theorem add_spec {w : World} {dp un : Nat} {gd : Option (List Code)} {cn : Str} {cs : Scope} {a : Addr} {ccd : Value} {cl : List (Str × Addr)} {outer : List Env} {A₀ : Around} {base h₀ : Heap} {L : Addr} {m : Str → Option Value} {news : List (Addr × Obj)} {s : Shared} {p : Program} {loose : List Str} {mean : ExcName → Option Value} {mg mb : Str → Option Value}
    {Q E : Value → Shared → Prop} (B : Below A₀ base outer h₀) (F : Fr h₀ L s.heap m) (X : (Mine.K w.params).In h₀) (N : News h₀ L s.heap news) (T : Top p loose mean mg mb h₀) (hk : cs.kind = .function) (hd : dp + 20 < recursionLimit) (hu : un + 160 < cLine)
    {S dS G : Addr} {po nf k : Int} {tk9 : Tok} {ns : List Nde} {oth : List (Addr × Obj)} {vs : List Value} {ps : List Int} (Sr : Srt w news S dS G .none po nf ns oth) (hvs : IntsAre vs ps)
    (hr : ns.length + ps.length + 1 ≤ 100) (hs : ∀ n ∈ ns, n.succ.length + ps.length ≤ 1000)
    (hret : ∀ ns' news' h' tk', Fr h₀ L h' m → News h₀ L h' news' → Srt w news' S dS G .none po nf ns' oth → plG ns' = gAdd (plG ns) k ps → Q .none { s with heap := h', toks := tk' }) :
    codeAny (model PySem.Challenge.pw_nq0248_01 w) (ktrTop dp un gd cn cs L a ccd cl outer) (.call (.ref 141) ⟨.ref S :: .int k tk9 :: vs, []⟩) (fun r s' => match r with | .ok (.ret v) => Q v s' | .ok _ => False | .error e => E e s') s := by
  have hfill : (fun (_ : OpenLaw) (_ : Params → Frag) => True) PySem.Challenge.rw_nq0248_01 Mine.K := by k_fill; trivial
  clear hfill
  have hps9 : ps.length ≤ 100 := Nat.le_trans (Nat.le_add_left _ _) (Nat.le_of_succ_le hr)
  have hns9 : ns.length < 100 := Nat.lt_of_le_of_lt (Nat.le_add_right _ _) hr
  have hsz9 : vs.length ≤ sizeLine := by rw [hvs.length]; exact sz_le (Nat.le_trans hps9 (by decide))
  k_dflt (refine' kp_rest (vs := vs) (g₁ := fun D => some [(Str.ofString "self", Value.ref S), (Str.ofString "node", Value.int k tk9), (Str.ofString "predecessors", Value.ref D)]) (binds := fun D => [(Str.ofString "self", Value.ref S), (Str.ofString "node", Value.int k tk9), (Str.ofString "predecessors", Value.ref D)]) ?k1 ?k2 ?k3 ?k4 ?k5 ?kA ?kF ?kK ?k6 ?k7 ?k8 ?kV ?kP ?kG ?kB ?_ ?c2 ?c3 ?c4 ?c5; (case kA => exact rfl); (case kF => exact rfl); (case kK => assumption); (case k1 => k_asm); (case k2 => k_asm); (case k3 => k_asm); (case k4 => k_asm); (case k5 => k_asm); (case k6 => k_is); (case k7 => k_is); (case k8 => ktr_room); (case kV => exact rfl); (case kP => (unfold bindArgs; simp only [Option.isNone, Bool.and_false]; rw [newTup_ok hsz9]; (exact rfl); (exact rfl))); (case kG => exact fun _ => rfl); (case kB => exact fun _ => locs rfl); (case c5 => decide); (case c2 => exact rfl); (case c3 => exact rfl); (case c4 => exact rfl); k_whole; intro D' g' L' h' l1 FG' F' N' B' X' T')
  rename Fr _ _ _ _ => F1
  replace F1 : Fr g' L' h' (fun y => List.lookup y [(Str.ofString "predecessors", Value.ref D'), (Str.ofString "node", Value.int k tk9), (Str.ofString "self", Value.ref S)]) := F1
  with_reducible refine gen_toks fun tk0 => ?_
  try dsimp only
  have hS := Sr.inst
  (with_reducible refine (?_ : let G9 : Prop := _; G9)); intro G9
  obtain ⟨q1, q2, q3, q4, t1, t2, t3, t4, t5, t6, hdS⟩ := Sr.dict
  k_unfold; clear G9
  with_reducible refine (?_ : let A1 := _; wpAny _ A1 _ _ _ _)
  intro A1
  (repeat' (first | (((fail_if_success (fail_if_success k_unfold)); first | (with_reducible refine (?_ : wpAny _ _ _ _ _ _)) | k_unfold); try dsimp only) | ((fail_if_success (fail_if_success (with_reducible refine ex1 (by constructor) ?_))); (fail_if_success (fail_if_success k_fold)); (with_reducible refine (?_ : let qk := _; let ek := _; wpAny _ _ _ qk ek _)); intro qk ek) | ((fail_if_success (with_reducible first | ((fail_if_success (refine go1 (by constructor) ?_)); refine st1 (by constructor) ?_) | show Exists _)); walk1; try dsimp only)))
  have hoff : ∀ q ∈ news, q.1 ≠ D' := fun q hq => Nat.ne_of_lt (l1 q hq)
  refine getinfo_spec (by k_asm) (by k_asm) (by k_asm) (by k_asm) (by k_asm) (by first | exact rfl | assumption) (by ktr_room) (by ktr_units) (Sr.cons (p := (D', ({ cls := .type "tuple", data := .seq vs.toArray } : Obj))) hoff) hns9 fun n ns1 news1 h1 tk1 F2 N2 Sr1 hn hnk hcase hpl => ?_
  clear hS hdS
  (with_reducible refine (?_ : let G9 : Prop := _; G9)); intro G9
  obtain ⟨u1, u2, hnd⟩ := (Sr1.nodes n hn).node
  k_unfold; clear G9
  have hD1 := (Sr1.apart _ (.head _)).1
  have hndd := (Sr1.nodes n hn).dict
  (repeat' (first | (((fail_if_success (fail_if_success k_unfold)); first | (with_reducible refine (?_ : wpAny _ _ _ _ _ _)) | k_unfold); try dsimp only) | ((fail_if_success (fail_if_success (with_reducible refine ex1 (by constructor) ?_))); (fail_if_success (fail_if_success k_fold)); (with_reducible refine (?_ : let qk := _; let ek := _; wpAny _ _ _ qk ek _)); intro qk ek) | ((fail_if_success (with_reducible show wpAny _ _ (call (Value.builtin "len") _) _ _ _)); (fail_if_success (with_reducible first | ((fail_if_success (refine go1 (by constructor) ?_)); refine st1 (by constructor) ?_) | show Exists _)); walk1; try dsimp only)))
  rename Fr g' L' _ _ => F3
  rename News g' L' _ _ => N3
  refine PyProof.Rows.len_tuple (News.isTup N3 hD1 : IsTup _ D' vs.toArray) (by rw [List.size_toArray, hvs.length]; exact n63 (Nat.le_trans hps9 (by decide))) ?_
  rw [List.size_toArray, hvs.length]
  (repeat' (first | (((fail_if_success (fail_if_success k_unfold)); first | (with_reducible refine (?_ : wpAny _ _ _ _ _ _)) | k_unfold); try dsimp only) | ((fail_if_success (fail_if_success (with_reducible refine ex1 (by constructor) ?_))); (fail_if_success (fail_if_success k_fold)); (with_reducible refine (?_ : let qk := _; let ek := _; wpAny _ _ _ qk ek _)); intro qk ek) | ((fail_if_success (with_reducible first | ((fail_if_success (refine go1 (by constructor) ?_)); refine st1 (by constructor) ?_) | show Exists _)); walk1; try dsimp only)))
  rename Fr g' L' _ _ => F4
  rename News g' L' _ _ => N4
  refine wpAny_For ?_
  (repeat' (first | (((fail_if_success (fail_if_success k_unfold)); first | (with_reducible refine (?_ : wpAny _ _ _ _ _ _)) | k_unfold); try dsimp only) | ((fail_if_success (fail_if_success (with_reducible refine ex1 (by constructor) ?_))); (fail_if_success (fail_if_success k_fold)); (with_reducible refine (?_ : let qk := _; let ek := _; wpAny _ _ _ qk ek _)); intro qk ek) | ((fail_if_success (with_reducible first | ((fail_if_success (refine go1 (by constructor) ?_)); refine st1 (by constructor) ?_) | show Exists _)); walk1; try dsimp only)))
  rename Fr g' L' _ _ => F5
  rename News g' L' _ _ => N5
  refine forJ_tup (its := vs.toArray) rfl F5 N5 ?_ (JAD w S dS G po nf k ps (gNp (gEnsure (plG ns) k) k (· + (ps.length : Int))) (fun y => if y = Str.ofString "nodeinfo" then some (Value.ref n.N) else List.lookup y [(Str.ofString "predecessors", Value.ref D'), (Str.ofString "node", Value.int k tk9), (Str.ofString "self", Value.ref S)]) ((D', ({ cls := .type "tuple", data := .seq vs.toArray } : Obj)) :: oth) (ns.length + 1)) ?_ ?_ ?_ ?_
  · exact ⟨_, ((Sr1.np hn).apart _ (.head _)).1, rfl, _, rfl⟩
  · intro i m₁ nw pt93
    (with_reducible refine (?_ : let G9 : Prop := _; G9)); intro G9
    obtain ⟨_, ns', Sr', _⟩ := pt93
    k_unfold; clear G9
    exact ⟨_, (Sr'.apart _ (.head _)).1, rfl, _, rfl⟩
  · refine ⟨fun y _ _ => rfl, _, Sr1.np hn, ?_, ?_, ?_⟩
    · rw [pl_np (f := (· + (ps.length : Int))) Sr1.keys hn, hnk, hpl]; rfl
    · rw [turn_len]
      rcases hcase with ⟨_, e⟩ | ⟨_, _, _, e⟩ <;> rw [e]
      · exact Nat.le_succ _
      · rw [List.length_append]; exact Nat.le_refl _
    · intro x hx
      have key : ∀ z ∈ ns1, z.succ.length + (ps.length - 0) ≤ 1000 := by
        intro z hz
        rcases hcase with ⟨_, e⟩ | ⟨_, _, e2, e⟩ <;> rw [e] at hz
        · exact hs z hz
        · rcases List.mem_append.mp hz with hz | hz
          · exact hs z hz
          · rw [List.mem_singleton.mp hz, e2]; show 0 + _ ≤ 1000; rw [Nat.zero_add]; exact Nat.le_trans (Nat.sub_le _ _) (Nat.le_trans hps9 (by decide))
      rcases of_turnK hx with ⟨y, hy, _, rfl⟩ | ⟨hx, _⟩
      · exact key y hy
      · exact key x hx
  · intro i v m₁ news₁ I oI h₁ tk₁ hi hv pt910 hw F₁ N₁
    (with_reducible refine (?_ : let G9 : Prop := _; G9)); intro G9
    obtain ⟨hm, ns', Sr', hg', hl', hs'⟩ := pt910
    k_unfold; clear G9
    rw [List.getElem?_toArray] at hv
    (with_reducible refine (?_ : let G9 : Prop := _; G9)); intro G9
    obtain ⟨pv, tp, rfl, hp⟩ := ints_get hvs hv
    obtain ⟨u1, u2, rfl⟩ := canon2 hm
    k_unfold; clear G9
    have hS := Sr'.inst
    (with_reducible refine (?_ : let G9 : Prop := _; G9)); intro G9
    obtain ⟨q1, q2, q3, q4, t1, t2, t3, t4, t5, t6, hdS⟩ := Sr'.dict
    k_unfold; clear G9
    rw [List.size_toArray, hvs.length] at hi
    (repeat' (first | (((fail_if_success (fail_if_success k_unfold)); first | (with_reducible refine (?_ : wpAny _ _ _ _ _ _)) | k_unfold); try dsimp only) | ((fail_if_success (fail_if_success (with_reducible refine ex1 (by constructor) ?_))); (fail_if_success (fail_if_success k_fold)); (with_reducible refine (?_ : let qk := _; let ek := _; wpAny _ _ _ qk ek _)); intro qk ek) | ((fail_if_success (with_reducible first | ((fail_if_success (refine go1 (by constructor) ?_)); refine st1 (by constructor) ?_) | show Exists _)); walk1; try dsimp only)))
    have hl9 : ns'.length < 100 := Nat.lt_of_le_of_lt hl' (Nat.lt_of_lt_of_le (Nat.add_lt_add_left hi _) (by rw [Nat.add_right_comm]; exact hr))
    refine getinfo_spec (by k_asm) (by k_asm) (by k_asm) (by k_asm) (by k_asm) (by first | exact rfl | assumption) (by ktr_room) (by ktr_units) (Sr'.cons (p := (I, oI)) hw) hl9 fun n ns1 news1 h1 tk1 F2 N2 Sr1 hn hnk hcase hpl => ?_
    clear hS hdS
    (with_reducible refine (?_ : let G9 : Prop := _; G9)); intro G9
    obtain ⟨u1, u2, hnd⟩ := (Sr1.nodes n hn).node
    obtain ⟨us, cu, hls, hus⟩ := (Sr1.nodes n hn).list
    k_unfold; clear G9
    have hndd := (Sr1.nodes n hn).dict
    have key : ∀ z ∈ ns1, z.succ.length + (ps.length - i) ≤ 1000 := by
      intro z hz
      rcases hcase with ⟨_, e⟩ | ⟨_, _, e2, e⟩ <;> rw [e] at hz
      · exact hs' z hz
      · rcases List.mem_append.mp hz with hz | hz
        · exact hs' z hz
        · rw [List.mem_singleton.mp hz, e2]; show 0 + _ ≤ 1000; rw [Nat.zero_add]; exact Nat.le_trans (Nat.sub_le _ _) (Nat.le_trans hps9 (by decide))
    have hcap := key n hn
    have hsz : us.size = n.succ.length := by rw [← Array.length_toList]; exact hus.length
    have husz : us.size ≤ 1000 := by rw [hsz]; exact Nat.le_trans (Nat.le_add_right _ _) hcap
    (repeat' (first | (((fail_if_success (fail_if_success k_unfold)); first | (with_reducible refine (?_ : wpAny _ _ _ _ _ _)) | k_unfold); try dsimp only) | ((fail_if_success (fail_if_success (with_reducible refine ex1 (by constructor) ?_))); (fail_if_success (fail_if_success k_fold)); (with_reducible refine (?_ : let qk := _; let ek := _; wpAny _ _ _ qk ek _)); intro qk ek) | ((fail_if_success (with_reducible first | ((fail_if_success (refine go1 (by constructor) ?_)); refine st1 (by constructor) ?_) | show Exists _)); walk1; try dsimp only)))
    rename Fr g' L' _ _ => F7
    rename News g' L' _ _ => N7
    have SrP := Sr1.push hn (vs' := us.push (.int k tk9)) (c' := cu + 1) (succ' := n.succ ++ [k]) (by rw [Array.toList_push]; exact ints_snoc hus k tk9)
    refine ⟨_, _, _, cutN I _, rfl, F7, news_cut N7 (SrP.apart _ (.head _)).1, cut_off, fun y h1 h2 => by simp only [h1, h2, if_false], _, SrP.cut (SrP.off (.head _)) fun p hp => ⟨.tail _ hp, ?_⟩, ?_, ?_, ?_⟩
    · exact hw p (Sr'.apart p hp).1
    · rw [pl_push Sr1.keys hn, hpl, hg', hnk, take_snoc hp, List.foldl_append]; rfl
    · rw [turn_len]
      rcases hcase with ⟨_, e⟩ | ⟨_, _, _, e⟩ <;> rw [e]
      · exact Nat.le_succ_of_le hl'
      · rw [List.length_append, List.length_singleton]; exact Nat.succ_le_succ hl'
    · intro x hx
      rcases of_turnK hx with ⟨y, hy, hyk, rfl⟩ | ⟨hx, _⟩
      · show (n.succ ++ [k]).length + _ ≤ _
        rw [List.length_append, List.length_singleton]; exact sub_step hcap hi
      · exact sub_keep (key x hx)
  · intro h' tk m' news' F' N' pt96
    (with_reducible refine (?_ : let G9 : Prop := _; G9)); intro G9
    obtain ⟨hm, ns', Sr', hg', hl', hs'⟩ := pt96
    k_unfold; clear G9
    (repeat' (first | (((fail_if_success (fail_if_success k_unfold)); first | (with_reducible refine (?_ : wpAny _ _ _ _ _ _)) | k_unfold); try dsimp only) | ((fail_if_success (fail_if_success (with_reducible refine ex1 (by constructor) ?_))); (fail_if_success (fail_if_success k_fold)); (with_reducible refine (?_ : let qk := _; let ek := _; wpAny _ _ _ qk ek _)); intro qk ek) | ((fail_if_success (with_reducible first | ((fail_if_success (refine go1 (by constructor) ?_)); refine st1 (by constructor) ?_) | show Exists _)); walk1; try dsimp only)))
    rename Fr h₀ _ _ _ => Fz
    rename News h₀ _ _ _ => Nz
    refine hret ns' news' h' tk Fz Nz (Sr'.less fun p hp => .tail _ hp) ?_
    rw [hg', List.size_toArray, hvs.length, List.take_length]
    rfl
end
section
theorem active_spec {w : World} {dp un : Nat} {gd : Option (List Code)} {cn : Str} {cs : Scope} {a : Addr} {ccd : Value} {cl : List (Str × Addr)} {outer : List Env} {A₀ : Around} {base h₀ : Heap} {L : Addr} {m : Str → Option Value} {news : List (Addr × Obj)} {s : Shared} {p : Program} {loose : List Str} {mean : ExcName → Option Value} {mg mb : Str → Option Value}
    {Q E : Value → Shared → Prop} (B : Below A₀ base outer h₀) (F : Fr h₀ L s.heap m) (X : (Mine.K w.params).In h₀) (N : News h₀ L s.heap news) (T : Top p loose mean mg mb h₀) (hk : cs.kind = .function) (hd : dp + 10 < recursionLimit) (hu : un + 80 < cLine)
    {S dS G R : Addr} {po : Int} {ns : List Nde} {oth : List (Addr × Obj)} {us : Array Value} {c : Nat} (Sr : Srt w news S dS G (.ref R) po po ns oth) (hR : (R, W.listOf us c) ∈ news) (hsz : us.size ≤ 1000)
    (hret : ∀ h' tk', Fr h₀ L h' m → News h₀ L h' news → Q (.bool (!us.isEmpty)) { s with heap := h', toks := tk' }) :
    wpAny (model PySem.Challenge.pw_nq0248_01 w) (ktrTop dp un gd cn cs L a ccd cl outer) (call (.ref 160) [.ref S]) Q E s := by
  have hfill : (fun (_ : OpenLaw) (_ : Params → Frag) => True) PySem.Challenge.rw_nq0248_01 Mine.K := by k_fill; trivial
  clear hfill
  refine wpAny_call ?_
  k_dflt ktr_enter
  rename Fr _ _ _ _ => F1
  rename_i g1 L1 h1 FG N1 B1 X1 T1
  replace F1 : Fr g1 L1 h1 (fun y => List.lookup y [(Str.ofString "self", Value.ref S)]) := F1
  with_reducible refine gen_toks fun tk0 => ?_
  dsimp only
  have hS := Sr.inst
  (with_reducible refine (?_ : let G9 : Prop := _; G9)); intro G9
  obtain ⟨q1, q2, q3, q4, t1, t2, t3, t4, t5, t6, hdS⟩ := Sr.dict
  k_unfold; clear G9
  (repeat' (first | (((fail_if_success (fail_if_success k_unfold)); first | (with_reducible refine (?_ : wpAny _ _ _ _ _ _)) | k_unfold); try dsimp only) | ((fail_if_success (fail_if_success (with_reducible refine ex1 (by constructor) ?_))); (fail_if_success (fail_if_success k_fold)); (with_reducible refine (?_ : let qk := _; let ek := _; wpAny _ _ _ qk ek _)); intro qk ek) | ((fail_if_success (with_reducible show wpAny _ _ (call (Value.type "bool") _) _ _ _)); (fail_if_success (with_reducible first | ((fail_if_success (refine go1 (by constructor) ?_)); refine st1 (by constructor) ?_) | show Exists _)); walk1; try dsimp only)))
  · omega
  refine call_bool_list (News.isList N1 hR) (by omega) ?_
  (repeat' (first | (((fail_if_success (fail_if_success k_unfold)); first | (with_reducible refine (?_ : wpAny _ _ _ _ _ _)) | k_unfold); try dsimp only) | ((fail_if_success (fail_if_success (with_reducible refine ex1 (by constructor) ?_))); (fail_if_success (fail_if_success k_fold)); (with_reducible refine (?_ : let qk := _; let ek := _; wpAny _ _ _ qk ek _)); intro qk ek) | ((fail_if_success (with_reducible first | ((fail_if_success (refine go1 (by constructor) ?_)); refine st1 (by constructor) ?_) | show Exists _)); walk1; try dsimp only)))
  rename Fr h₀ _ _ _ => Fz
  rename News h₀ _ _ _ => Nz
  trace_state
  exact hret _ _ Fz Nz
end
section
inductive JGR (w : World) (S dS G R : Addr) (po nf : Int) (rs : List Int) (g0 : Gr) (b : Str → Option Value) (ks : List Int) (oth : List (Addr × Obj)) (i : Nat) (m : Str → Option Value) (nw : List (Addr × Obj)) : Prop
  | mk (h90 : ∀ y, y ≠ Str.ofString "node" → m y = b y) (ns') (h92 : Srt w nw S dS G (.ref R) po nf ns' oth) (h93 : plG ns' = (rs.take i).foldl (fun g r => gNp g r fun _ => -1) g0) (h94 : ns'.map (·.k) = ks) : JGR w S dS G R po nf rs g0 b ks oth i m nw
theorem canon1 {m b : Str → Option Value} {x1 : Str} (h : ∀ y, y ≠ x1 → m y = b y) : ∃ u1, m = fun y => if y = x1 then u1 else b y := by
  refine ⟨m x1, funext fun y => ?_⟩
  by_cases h1 : y = x1
  · simp [h1]
  simp only [h1, if_false]
  exact h y h1
theorem ready_spec {w : World} {dp un : Nat} {gd : Option (List Code)} {cn : Str} {cs : Scope} {a : Addr} {ccd : Value} {cl : List (Str × Addr)} {outer : List Env} {A₀ : Around} {base h₀ : Heap} {L : Addr} {m : Str → Option Value} {news : List (Addr × Obj)} {s : Shared} {p : Program} {loose : List Str} {mean : ExcName → Option Value} {mg mb : Str → Option Value}
    {Q E : Value → Shared → Prop} (B : Below A₀ base outer h₀) (F : Fr h₀ L s.heap m) (X : (Mine.K w.params).In h₀) (N : News h₀ L s.heap news) (T : Top p loose mean mg mb h₀) (hk : cs.kind = .function) (hd : dp + 10 < recursionLimit) (hu : un + 80 < cLine)
    {S dS G R : Addr} {po nf : Int} {ns : List Nde} {oth : List (Addr × Obj)} {us : Array Value} {cR : Nat} {rs : List Int} (Sr : Srt w news S dS G (.ref R) po nf ns ((R, W.listOf us cR) :: oth)) (hus : IntsAre us.toList rs) (hsz : rs.length ≤ 1000) (hne : rs ≠ []) (hRo : ∀ p ∈ oth, p.1 ≠ R)
    (hkey : ∀ r ∈ rs, ∃ n ∈ ns, n.k = r)
    (hret : ∀ T ns' news' c' h' tk', Fr h₀ L h' m → News h₀ L h' news' → Srt w news' S dS G (.ref R) (po + rs.length) nf ns' ((T, ({ cls := .type "tuple", data := .seq us } : Obj)) :: (R, W.listOf #[] c') :: oth) → plG ns' = rs.foldl (fun g r => gNp g r fun _ => -1) (plG ns) → Q (.ref T) { s with heap := h', toks := tk' }) :
    wpAny (model PySem.Challenge.pw_nq0248_01 w) (ktrTop dp un gd cn cs L a ccd cl outer) (call (.ref 153) [.ref S]) Q E s := by
  have hfill : (fun (_ : OpenLaw) (_ : Params → Frag) => True) PySem.Challenge.rw_nq0248_01 Mine.K := by k_fill; trivial
  clear hfill
  refine wpAny_call ?_
  k_dflt ktr_enter
  rename Fr _ _ _ _ => F1
  rename_i g1 L1 h1 FG N1 B1 X1 T1
  replace F1 : Fr g1 L1 h1 (fun y => List.lookup y [(Str.ofString "self", Value.ref S)]) := F1
  with_reducible refine gen_toks fun tk0 => ?_
  try dsimp only
  have hS := Sr.inst
  (with_reducible refine (?_ : let G9 : Prop := _; G9)); intro G9
  obtain ⟨q1, q2, q3, q4, t1, t2, t3, t4, t5, t6, hdS⟩ := Sr.dict
  k_unfold; clear G9
  have hR := (Sr.apart _ (.head _)).1
  have hlen : us.size = rs.length := by rw [← Array.length_toList]; exact hus.length
  with_reducible refine (?_ : let A1 := _; wpAny _ A1 _ _ _ _)
  intro A1
  (repeat' (first | (((fail_if_success (fail_if_success k_unfold)); first | (with_reducible refine (?_ : wpAny _ _ _ _ _ _)) | k_unfold); try dsimp only) | ((fail_if_success (fail_if_success (with_reducible refine ex1 (by constructor) ?_))); (fail_if_success (fail_if_success k_fold)); (with_reducible refine (?_ : let qk := _; let ek := _; wpAny _ _ _ qk ek _)); intro qk ek) | ((fail_if_success (with_reducible show wpAny _ _ (call (Value.type "tuple") _) _ _ _)); (fail_if_success (with_reducible first | ((fail_if_success (refine go1 (by constructor) ?_)); refine st1 (by constructor) ?_) | show Exists _)); walk1; try dsimp only)))
  refine kde_tupleOf F1 N1 (News.isList N1 hR) (by omega) rfl fun D h2 F2 N2 l1 => ?_
  rw [Array.toArray_toList] at N2
  have Sr1 := Sr.cons (p := (D, ({ cls := .type "tuple", data := .seq us } : Obj))) (fun q hq => Nat.ne_of_lt (l1 q hq))
  generalize hnw : (D, ({ cls := .type "tuple", data := .seq us } : Obj)) :: news = news1 at N2 Sr1
  clear hS hdS hR
  have hS := Sr1.inst
  (with_reducible refine (?_ : let G9 : Prop := _; G9)); intro G9
  obtain ⟨q1, q2, q3, q4, t1, t2, t3, t4, t5, t6, hdS⟩ := Sr1.dict
  k_unfold; clear G9
  (repeat' (first | (((fail_if_success (fail_if_success k_unfold)); first | (with_reducible refine (?_ : wpAny _ _ _ _ _ _)) | k_unfold); try dsimp only) | ((fail_if_success (fail_if_success (with_reducible refine ex1 (by constructor) ?_))); (fail_if_success (fail_if_success k_fold)); (with_reducible refine (?_ : let qk := _; let ek := _; wpAny _ _ _ qk ek _)); intro qk ek) | ((fail_if_success (with_reducible first | ((fail_if_success (refine go1 (by constructor) ?_)); refine st1 (by constructor) ?_) | show Exists _)); walk1; try dsimp only)))
  refine wpAny_For ?_
  (repeat' (first | (((fail_if_success (fail_if_success k_unfold)); first | (with_reducible refine (?_ : wpAny _ _ _ _ _ _)) | k_unfold); try dsimp only) | ((fail_if_success (fail_if_success (with_reducible refine ex1 (by constructor) ?_))); (fail_if_success (fail_if_success k_fold)); (with_reducible refine (?_ : let qk := _; let ek := _; wpAny _ _ _ qk ek _)); intro qk ek) | ((fail_if_success (with_reducible first | ((fail_if_success (refine go1 (by constructor) ?_)); refine st1 (by constructor) ?_) | show Exists _)); walk1; try dsimp only)))
  rename Fr g1 L1 _ _ => F3
  rename News g1 L1 _ _ => N3
  refine forJ_tup (its := us) rfl F3 N3 ?_ (JGR w S dS G R po nf rs (plG ns) (fun y => if y = Str.ofString "n2i" then some (Value.ref G) else if y = Str.ofString "result" then some (Value.ref D) else List.lookup y [(Str.ofString "self", Value.ref S)]) (ns.map (·.k)) ((D, ({ cls := .type "tuple", data := .seq us } : Obj)) :: (R, W.listOf us cR) :: oth)) ?_ ?_ ?_ ?_
  · exact ⟨_, (Sr1.apart _ (.head _)).1, rfl, _, rfl⟩
  · intro i m₁ nw pt93
    (with_reducible refine (?_ : let G9 : Prop := _; G9)); intro G9
    obtain ⟨_, ns', Sr', _⟩ := pt93
    k_unfold; clear G9
    exact ⟨_, (Sr'.apart _ (.head _)).1, rfl, _, rfl⟩
  · exact ⟨fun y _ => rfl, _, Sr1, rfl, rfl⟩
  · intro i v m₁ news₁ I oI h₁ tk₁ hi hv pt910 hw F₁ N₁
    (with_reducible refine (?_ : let G9 : Prop := _; G9)); intro G9
    obtain ⟨hm, ns', Sr', hg', hk'⟩ := pt910
    k_unfold; clear G9
    rw [← Array.getElem?_toList] at hv
    (with_reducible refine (?_ : let G9 : Prop := _; G9)); intro G9
    obtain ⟨pv, tp, rfl, hp⟩ := ints_get hus hv
    obtain ⟨u1, rfl⟩ := canon1 hm
    k_unfold; clear G9
    clear hm
    (with_reducible refine (?_ : let G9 : Prop := _; G9)); intro G9
    obtain ⟨n0, hn0, hk0⟩ := hkey pv (List.mem_of_getElem? hp)
    obtain ⟨n, hn, hnk⟩ : ∃ n ∈ ns', n.k = pv := by
      have : pv ∈ ns'.map (·.k) := by rw [hk']; exact List.mem_map.mpr ⟨n0, hn0, hk0⟩
      obtain ⟨n, a, b⟩ := List.mem_map.mp this
      exact ⟨n, a, b⟩
    k_unfold; clear G9
    subst hnk
    have SrI := Sr'.cons (p := (I, oI)) hw
    generalize hnw9 : (I, oI) :: news₁ = news2 at SrI N₁
    (with_reducible refine (?_ : let G9 : Prop := _; G9)); intro G9
    obtain ⟨v1, v2, hnd⟩ := (SrI.nodes n hn).node
    k_unfold; clear G9
    have hndd := (SrI.nodes n hn).dict
    (repeat' (first | (((fail_if_success (fail_if_success k_unfold)); first | (with_reducible refine (?_ : wpAny _ _ _ _ _ _)) | k_unfold); try dsimp only) | ((fail_if_success (fail_if_success (with_reducible refine ex1 (by constructor) ?_))); (fail_if_success (fail_if_success k_fold)); (with_reducible refine (?_ : let qk := _; let ek := _; wpAny _ _ _ qk ek _)); intro qk ek) | ((fail_if_success (with_reducible show wpAny _ _ (subscriptTail _ _ _ _) _ _ _)); (fail_if_success (with_reducible first | ((fail_if_success (refine go1 (by constructor) ?_)); refine st1 (by constructor) ?_) | show Exists _)); walk1; try dsimp only)))
    rename Fr g1 L1 _ _ => F4
    rename News g1 L1 _ _ => N4
    refine dg_item SrI.map N4 (valueAt_key SrI.keys hn) ?_
    (repeat' (first | (((fail_if_success (fail_if_success k_unfold)); first | (with_reducible refine (?_ : wpAny _ _ _ _ _ _)) | k_unfold); try dsimp only) | ((fail_if_success (fail_if_success (with_reducible refine ex1 (by constructor) ?_))); (fail_if_success (fail_if_success k_fold)); (with_reducible refine (?_ : let qk := _; let ek := _; wpAny _ _ _ qk ek _)); intro qk ek) | ((fail_if_success (with_reducible first | ((fail_if_success (refine go1 (by constructor) ?_)); refine st1 (by constructor) ?_) | show Exists _)); walk1; try dsimp only)))
    rename Fr g1 L1 _ _ => F5
    rename News g1 L1 _ _ => N5
    have SrP := SrI.np hn (np' := -1) (t1 := v1) (t2 := 289)
    refine ⟨_, _, _, cutN I _, rfl, F5, news_cut N5 (SrP.apart _ (.head _)).1, cut_off, fun y h1 => by simp only [h1, if_false], _, SrP.cut (SrP.off (.head _)) fun p hp => ⟨.tail _ hp, ?_⟩, ?_, ?_⟩
    · exact hw p (Sr'.apart p hp).1
    · rw [pl_np (f := fun _ => -1) Sr'.keys hn, hg', take_snoc hp, List.foldl_append]; rfl
    · rw [turnK_map (f := fun x => { x with np := -1 }) (g := fun x => x.k) (fun _ => rfl)]; exact hk'
  · intro h' tk m' news' F' N' pt96
    (with_reducible refine (?_ : let G9 : Prop := _; G9)); intro G9
    obtain ⟨hm, ns', Sr', hg', hk'⟩ := pt96
    k_unfold; clear G9
    (with_reducible refine (?_ : let G9 : Prop := _; G9)); intro G9
    obtain ⟨u1, rfl⟩ := canon1 hm
    k_unfold; clear G9
    clear hm hS hdS
    have hS := Sr'.inst
    (with_reducible refine (?_ : let G9 : Prop := _; G9)); intro G9
    obtain ⟨q1, q2, q3, q4, t1, t2, t3, t4, t5, t6, hdS⟩ := Sr'.dict
    k_unfold; clear G9
    have hR := (Sr'.apart _ (.tail _ (.head _))).1
    have hD := (Sr'.apart _ (.head _)).1
    (repeat' (first | (((fail_if_success (fail_if_success k_unfold)); first | (with_reducible refine (?_ : wpAny _ _ _ _ _ _)) | k_unfold); try dsimp only) | ((fail_if_success (fail_if_success (with_reducible refine ex1 (by constructor) ?_))); (fail_if_success (fail_if_success k_fold)); (with_reducible refine (?_ : let qk := _; let ek := _; wpAny _ _ _ qk ek _)); intro qk ek) | ((fail_if_success (with_reducible first | ((fail_if_success (refine go1 (by constructor) ?_)); refine st1 (by constructor) ?_) | show Exists _)); walk1; try dsimp only)))
    rename Fr g1 L1 _ _ => F4
    rename News g1 L1 _ _ => N4
    have hnz : rs.length ≠ 0 := fun e => hne (List.length_eq_zero_iff.mp e)
    refine kl_clear F4 N4 (upd_setN Sr'.nd hR) (by rw [Array.length_toList]; omega) (by rw [Array.length_toList, sizeLine_eq]; omega) fun h5 F5 N5 => ?_
    have Sr2 := (Sr'.other (a := R) (o := W.listOf #[] (cR + 1)) (Sr'.off (.tail _ (.head _)))).less (oth' := (D, ({ cls := .type "tuple", data := .seq us } : Obj)) :: (R, W.listOf #[] (cR + 1)) :: oth) (fun p hp => by
      rcases List.mem_cons.mp hp with rfl | hp
      · exact mem_setN_ne (.head _) (addr_ne Sr'.nd hD hR (cls_ne rfl rfl (by intro e; injection e with e; exact absurd e (by decide))))
      rcases List.mem_cons.mp hp with rfl | hp
      · exact mem_setN_self (.tail _ (.head _))
      · exact mem_setN_ne (.tail _ (.tail _ hp)) (hRo p hp))
    generalize hnw9 : setN R (W.listOf #[] (cR + 1)) news' = news2 at N5 Sr2
    clear hS hdS hR hD
    have hS := Sr2.inst
    (with_reducible refine (?_ : let G9 : Prop := _; G9)); intro G9
    obtain ⟨q1, q2, q3, q4, t1, t2, t3, t4, t5, t6, hdS⟩ := Sr2.dict
    k_unfold; clear G9
    have hD := (Sr2.apart _ (.head _)).1
    (repeat' (first | (((fail_if_success (fail_if_success k_unfold)); first | (with_reducible refine (?_ : wpAny _ _ _ _ _ _)) | k_unfold); try dsimp only) | ((fail_if_success (fail_if_success (with_reducible refine ex1 (by constructor) ?_))); (fail_if_success (fail_if_success k_fold)); (with_reducible refine (?_ : let qk := _; let ek := _; wpAny _ _ _ qk ek _)); intro qk ek) | ((fail_if_success (with_reducible show wpAny _ _ (call (Value.builtin "len") _) _ _ _)); (fail_if_success (with_reducible first | ((fail_if_success (refine go1 (by constructor) ?_)); refine st1 (by constructor) ?_) | show Exists _)); walk1; try dsimp only)))
    rename Fr g1 L1 _ _ => F6
    rename News g1 L1 _ _ => N6
    refine PyProof.Rows.len_tuple (News.isTup N6 hD : IsTup _ D us) (by omega) ?_
    (repeat' (first | (((fail_if_success (fail_if_success k_unfold)); first | (with_reducible refine (?_ : wpAny _ _ _ _ _ _)) | k_unfold); try dsimp only) | ((fail_if_success (fail_if_success (with_reducible refine ex1 (by constructor) ?_))); (fail_if_success (fail_if_success k_fold)); (with_reducible refine (?_ : let qk := _; let ek := _; wpAny _ _ _ qk ek _)); intro qk ek) | ((fail_if_success (with_reducible first | ((fail_if_success (refine go1 (by constructor) ?_)); refine st1 (by constructor) ?_) | show Exists _)); walk1; try dsimp only)))
    rename Fr h₀ _ _ _ => Fz
    rename News h₀ _ _ _ => Nz
    rw [hlen] at Nz
    refine hret D ns' _ _ _ _ Fz Nz Sr2.attr ?_
    rw [hg', hlen, List.take_length]
end
section
def gNpOf (g : Gr) (k : Int) : Int := ((g.find? fun e => e.1 == k).map (·.2.1)).getD 0
def gSu (g : Gr) (k : Int) : List Int := ((g.find? fun e => e.1 == k).map (·.2.2)).getD []
def gDec (x : Gr × List Int) (j : Int) : Gr × List Int := (gNp x.1 j (· - 1), if gNpOf (gNp x.1 j (· - 1)) j = 0 then x.2 ++ [j] else x.2)
def gOne (x : Gr × List Int) (k : Int) : Gr × List Int := (gSu x.1 k).foldl gDec (gNp x.1 k (fun _ => -2), x.2)
theorem find_pl {ns : List Nde} (hk : (ns.map (·.k)).Nodup) {n : Nde} (hn : n ∈ ns) : (plG ns).find? (fun e => e.1 == n.k) = some n.pl := by
  cases hf : (plG ns).find? (fun e => e.1 == n.k) with
  | none => exact absurd (List.find?_eq_none.mp hf n.pl (List.mem_map.mpr ⟨n, hn, rfl⟩)) (by simp [Nde.pl])
  | some e =>
    obtain ⟨x, hx, rfl⟩ := List.mem_map.mp (List.mem_of_find?_eq_some hf)
    have : x.k = n.k := by simpa [Nde.pl] using List.find?_some hf
    rw [key_inj hk hx hn this]
theorem npOf_pl {ns : List Nde} (hk : (ns.map (·.k)).Nodup) {n : Nde} (hn : n ∈ ns) : gNpOf (plG ns) n.k = n.np := by unfold gNpOf; rw [find_pl hk hn]; rfl
theorem su_pl {ns : List Nde} (hk : (ns.map (·.k)).Nodup) {n : Nde} (hn : n ∈ ns) : gSu (plG ns) n.k = n.succ := by unfold gSu; rw [find_pl hk hn]; rfl
def Nde.st (n : Nde) : Int × List Int × Addr × Addr × Addr := (n.k, n.succ, n.N, n.d, n.Ls)
theorem st_np {ns : List Nde} {k np' : Int} : (turnK k (fun x => { x with np := np' }) ns).map Nde.st = ns.map Nde.st := turnK_map (f := fun x => { x with np := np' }) (g := Nde.st) fun _ => rfl
theorem st_mem {ns ns' : List Nde} (h : ns'.map Nde.st = ns.map Nde.st) {n : Nde} (hn : n ∈ ns) : ∃ n' ∈ ns', n'.k = n.k ∧ n'.succ = n.succ ∧ n'.Ls = n.Ls := by
  have : n.st ∈ ns'.map Nde.st := by rw [h]; exact List.mem_map.mpr ⟨n, hn, rfl⟩
  obtain ⟨n', a, b⟩ := List.mem_map.mp this
  unfold Nde.st at b
  simp only [Prod.mk.injEq] at b
  exact ⟨n', a, b.1, b.2.1, b.2.2.2.2⟩
abbrev tupA (vs : Array Value) : Obj := { cls := .type "tuple", data := .seq vs }
inductive JDN (w : World) (S dS G R : Addr) (po nf : Int) (ks : List Int) (ns : List Nde) (rd : List Int) (b : Str → Option Value) (D : Addr) (its : Array Value) (oth : List (Addr × Obj)) (i : Nat) (m : Str → Option Value) (nw : List (Addr × Obj)) : Prop
  | mk (h90 : ∀ y, y ≠ Str.ofString "node" → y ≠ Str.ofString "nodeinfo" → y ≠ Str.ofString "stat" → y ≠ Str.ofString "successor" → y ≠ Str.ofString "successor_info" → m y = b y) (ns') (us) (cu) (rd') (h95 : Srt w nw S dS G (.ref R) po (nf + (i : Int)) ns' ((D, tupA its) :: (R, W.listOf us cu) :: oth)) (h96 : IntsAre us.toList rd') (h97 : (plG ns', rd') = (ks.take i).foldl gOne (plG ns, rd)) (h98 : ns'.map Nde.st = ns.map Nde.st) (h99 : rd'.length ≤ rd.length + i * 1000) (h910 : ∀ r ∈ ks.drop i, ∀ n ∈ ns', n.k = r → n.np = -1) : JDN w S dS G R po nf ks ns rd b D its oth i m nw
inductive JDI (w : World) (S dS G R : Addr) (po nf : Int) (ks : List Int) (ns : List Nde) (g1 : Gr) (su : List Int) (rd : List Int) (b : Str → Option Value) (Ls : Addr) (lv : Array Value) (lc : Nat) (oth : List (Addr × Obj)) (i : Nat) (m : Str → Option Value) (nw : List (Addr × Obj)) : Prop
  | mk (h90 : ∀ y, y ≠ Str.ofString "successor" → y ≠ Str.ofString "successor_info" → m y = b y) (h91 : (Ls, W.listOf lv lc) ∈ nw) (ns') (us) (cu) (rd') (h96 : Srt w nw S dS G (.ref R) po nf ns' ((R, W.listOf us cu) :: oth)) (h97 : IntsAre us.toList rd') (h98 : (plG ns', rd') = (su.take i).foldl gDec (g1, rd)) (h99 : ns'.map Nde.st = ns.map Nde.st) (h910 : rd'.length ≤ rd.length + i) (h911 : ∀ r ∈ ks, ∀ n ∈ ns', n.k = r → n.np = -1) : JDI w S dS G R po nf ks ns g1 su rd b Ls lv lc oth i m nw
theorem mem_drop {α : Type} {l : List α} {i : Nat} {x : α} (h : l[i]? = some x) : x ∈ l.drop i := by
  obtain ⟨hi, e⟩ := List.getElem?_eq_some_iff.mp h
  rw [List.drop_eq_getElem_cons hi, e]; exact .head _
theorem drop_tail {α : Type} {l : List α} {i : Nat} {x : α} (h : x ∈ l.drop (i + 1)) : x ∈ l.drop i := by
  rw [← List.drop_drop] at h; exact List.mem_of_mem_drop h
theorem nodup_drop {α : Type} {l : List α} (hn : l.Nodup) {i : Nat} {x : α} (h : l[i]? = some x) : x ∉ l.drop (i + 1) := by
  obtain ⟨hi, e⟩ := List.getElem?_eq_some_iff.mp h
  have := hn.sublist (List.drop_sublist i l)
  rw [List.drop_eq_getElem_cons hi, e] at this
  exact (List.nodup_cons.mp this).1
theorem Srt.ready {w : World} {news oth : List (Addr × Obj)} {S dS G R : Addr} {rv : Value} {po nf : Int} {ns : List Nde} {o o' : Obj} (Sr : Srt w news S dS G rv po nf ns ((R, o) :: oth)) (hRo : ∀ p ∈ oth, p.1 ≠ R) : Srt w (setN R o' news) S dS G rv po nf ns ((R, o') :: oth) :=
  (Sr.other (a := R) (o := o') (Sr.off (.head _))).less fun p hp => by
    rcases List.mem_cons.mp hp with rfl | hp
    · exact mem_setN_self (.head _)
    · exact mem_setN_ne (.tail _ hp) (hRo p hp)
theorem canon5 {m b : Str → Option Value} {x1 x2 x3 x4 x5 : Str} (h : ∀ y, y ≠ x1 → y ≠ x2 → y ≠ x3 → y ≠ x4 → y ≠ x5 → m y = b y) :
    ∃ u1 u2 u3 u4 u5, m = fun y => if y = x1 then u1 else if y = x2 then u2 else if y = x3 then u3 else if y = x4 then u4 else if y = x5 then u5 else b y := by
  refine ⟨m x1, m x2, m x3, m x4, m x5, funext fun y => ?_⟩
  by_cases h1 : y = x1
  · simp [h1]
  by_cases h2 : y = x2
  · subst h2; simp [h1]
  by_cases h3 : y = x3
  · subst h3; simp [h1, h2]
  by_cases h4 : y = x4
  · subst h4; simp [h1, h2, h3]
  by_cases h5 : y = x5
  · subst h5; simp [h1, h2, h3, h4]
  simp only [h1, h2, h3, h4, h5, if_false]
  exact h y h1 h2 h3 h4 h5
theorem absQ {α : Type} {M : Model} {A : Around} {t : Sem α} {Q : α → Shared → Prop} {E : Value → Shared → Prop} {s : Shared} (h : ∀ Q' : α → Shared → Prop, (∀ f s, Q f s → Q' f s) → wpAny M A t Q' E s) : wpAny M A t Q E s := h Q fun _ _ h => h
theorem absB {α : Type} {M : Model} {A : Around} {t : Sem α} {b : List Stmt} {env : Env} {Q : Flow → Shared → Prop} {E : Value → Shared → Prop} {s : Shared}
    (h : ∀ (Q' : Flow → Shared → Prop) (E' : Value → Shared → Prop), (∀ f s, Q f s → Q' f s) → wpAny M A t (fun _ s₂ => wpAny M A (execs b env) Q' E' s₂) E' s) : wpAny M A t (fun _ s₂ => wpAny M A (execs b env) Q E s₂) E s := h Q E fun _ _ h => h
theorem done_spec {w : World} {dp un : Nat} {gd : Option (List Code)} {cn : Str} {cs : Scope} {a : Addr} {ccd : Value} {cl : List (Str × Addr)} {outer : List Env} {A₀ : Around} {base h₀ : Heap} {L : Addr} {m : Str → Option Value} {news : List (Addr × Obj)} {s : Shared} {p : Program} {loose : List Str} {mean : ExcName → Option Value} {mg mb : Str → Option Value}
    {Q E : Value → Shared → Prop} (B : Below A₀ base outer h₀) (F : Fr h₀ L s.heap m) (X : (Mine.K w.params).In h₀) (N : News h₀ L s.heap news) (T : Top p loose mean mg mb h₀) (hk : cs.kind = .function) (hd : dp + 10 < recursionLimit) (hu : un + 80 < cLine)
    {S dS G R : Addr} {po nf : Int} {ns : List Nde} {oth : List (Addr × Obj)} {us : Array Value} {cR : Nat} {rd : List Int} {vs : List Value} {ks : List Int} (Sr : Srt w news S dS G (.ref R) po nf ns ((R, W.listOf us cR) :: oth)) (hus : IntsAre us.toList rd) (hvs : IntsAre vs ks)
    (hsz : rd.length ≤ 1000) (hsk : ks.length ≤ 100) (hRo : ∀ p ∈ oth, p.1 ≠ R) (hsu : ∀ n ∈ ns, n.succ.length ≤ 1000) (hcl : ∀ n ∈ ns, ∀ j ∈ n.succ, ∃ x ∈ ns, x.k = j)
    (hks : ∀ k ∈ ks, ∃ n ∈ ns, n.k = k ∧ n.np = -1 ∧ ∀ j ∈ n.succ, j ∉ ks) (hnd : ks.Nodup)
    (hret : ∀ ns' us' c' rd' news' h' tk', Fr h₀ L h' m → News h₀ L h' news' → Srt w news' S dS G (.ref R) po (nf + ks.length) ns' ((R, W.listOf us' c') :: oth) → IntsAre us'.toList rd' → (plG ns', rd') = ks.foldl gOne (plG ns, rd) → ns'.map Nde.st = ns.map Nde.st → Q .none { s with heap := h', toks := tk' }) :
    codeAny (model PySem.Challenge.pw_nq0248_01 w) (ktrTop dp un gd cn cs L a ccd cl outer) (.call (.ref 174) ⟨.ref S :: vs, []⟩) (fun r s' => match r with | .ok (.ret v) => Q v s' | .ok _ => False | .error e => E e s') s := by
  have hfill : (fun (_ : OpenLaw) (_ : Params → Frag) => True) PySem.Challenge.rw_nq0248_01 Mine.K := by k_fill; trivial
  clear hfill
  have hsz9 : vs.length ≤ sizeLine := by rw [hvs.length]; first | exact sz_le (Nat.le_trans (by assumption) (by decide)) | (rw [sizeLine_eq]; omega)
  k_dflt (refine' kp_rest (vs := vs) (g₁ := fun D => some [(Str.ofString "self", Value.ref S), (Str.ofString "nodes", Value.ref D)]) (binds := fun D => [(Str.ofString "self", Value.ref S), (Str.ofString "nodes", Value.ref D)]) ?k1 ?k2 ?k3 ?k4 ?k5 ?kA ?kF ?kK ?k6 ?k7 ?k8 ?kV ?kP ?kG ?kB ?_ ?c2 ?c3 ?c4 ?c5; (case kA => exact rfl); (case kF => exact rfl); (case kK => assumption); (case k1 => k_asm); (case k2 => k_asm); (case k3 => k_asm); (case k4 => k_asm); (case k5 => k_asm); (case k6 => k_is); (case k7 => k_is); (case k8 => ktr_room); (case kV => exact rfl); (case kP => (unfold bindArgs; simp only [Option.isNone, Bool.and_false]; rw [newTup_ok hsz9]; (exact rfl); (exact rfl))); (case kG => exact fun _ => rfl); (case kB => exact fun _ => locs rfl); (case c5 => decide); (case c2 => exact rfl); (case c3 => exact rfl); (case c4 => exact rfl); k_whole; intro D' g' L' h' l1 FG' F' N' B' X' T')
  rename Fr _ _ _ _ => F1
  replace F1 : Fr g' L' h' (fun y => List.lookup y [(Str.ofString "nodes", Value.ref D'), (Str.ofString "self", Value.ref S)]) := F1
  with_reducible refine gen_toks fun tk0 => ?_
  try dsimp only
  have Sr1 := Sr.cons (p := (D', tupA vs.toArray)) (fun q hq => Nat.ne_of_lt (l1 q hq))
  replace N' : News g' L' h' ((D', tupA vs.toArray) :: news) := N'
  generalize hnw : (D', tupA vs.toArray) :: news = news1 at N' Sr1
  refine absQ fun Q1 hQ1 => ?_
  have hS := Sr1.inst
  (with_reducible refine (?_ : let G9 : Prop := _; G9)); intro G9
  obtain ⟨q1, q2, q3, q4, t1, t2, t3, t4, t5, t6, hdS⟩ := Sr1.dict
  k_unfold; clear G9
  with_reducible refine (?_ : let A1 := _; wpAny _ A1 _ _ _ _)
  intro A1
  (repeat' (first | (((fail_if_success (fail_if_success k_unfold)); first | (with_reducible refine (?_ : wpAny _ _ _ _ _ _)) | k_unfold); try dsimp only) | ((fail_if_success (fail_if_success (with_reducible refine ex1 (by constructor) ?_))); (fail_if_success (fail_if_success k_fold)); (with_reducible refine (?_ : let qk := _; let ek := _; wpAny _ _ _ qk ek _)); intro qk ek) | ((fail_if_success (with_reducible first | ((fail_if_success (refine go1 (by constructor) ?_)); refine st1 (by constructor) ?_) | show Exists _)); walk1; try dsimp only)))
  refine wpAny_For ?_
  (repeat' (first | (((fail_if_success (fail_if_success k_unfold)); first | (with_reducible refine (?_ : wpAny _ _ _ _ _ _)) | k_unfold); try dsimp only) | ((fail_if_success (fail_if_success (with_reducible refine ex1 (by constructor) ?_))); (fail_if_success (fail_if_success k_fold)); (with_reducible refine (?_ : let qk := _; let ek := _; wpAny _ _ _ qk ek _)); intro qk ek) | ((fail_if_success (with_reducible first | ((fail_if_success (refine go1 (by constructor) ?_)); refine st1 (by constructor) ?_) | show Exists _)); walk1; try dsimp only)))
  rename Fr g' L' _ _ => F3
  rename News g' L' _ _ => N3
  refine forJ_tup (its := vs.toArray) rfl F3 N3 ?_ (JDN w S dS G R po nf ks ns rd (fun y => if y = Str.ofString "n2i" then some (Value.ref G) else List.lookup y [(Str.ofString "nodes", Value.ref D'), (Str.ofString "self", Value.ref S)]) D' vs.toArray oth) ?_ ?_ ?_ ?_
  · exact ⟨_, (Sr1.apart _ (.head _)).1, rfl, _, rfl⟩
  · intro i m₁ nw pt93
    (with_reducible refine (?_ : let G9 : Prop := _; G9)); intro G9
    obtain ⟨_, ns', _, _, _, Sr', _⟩ := pt93
    k_unfold; clear G9
    exact ⟨_, (Sr'.apart _ (.head _)).1, rfl, _, rfl⟩
  · refine ⟨fun y _ _ _ _ _ => rfl, ns, us, cR, rd, ?_, hus, rfl, rfl, Nat.le_refl _, ?_⟩
    · rw [show nf + ((0 : Nat) : Int) = nf from Int.add_zero nf]; exact Sr1
    · intro r hr n hn e
      (with_reducible refine (?_ : let G9 : Prop := _; G9)); intro G9
      obtain ⟨x, hx, e2, e3, _⟩ := hks r hr
      k_unfold; clear G9
      rw [key_inj Sr.keys hn hx (e.trans e2.symm)]; exact e3
  · intro i v m₁ news₁ I oI h₁ tk₁ hi hv pt910 hw F₁ N₁
    (with_reducible refine (?_ : let G9 : Prop := _; G9)); intro G9
    obtain ⟨hm, ns', us', cu', rd', Sr', hus', hg', hst', hrl', hnp'⟩ := pt910
    k_unfold; clear G9
    refine absB fun Q2 E2 hQ2 => ?_
    rw [List.getElem?_toArray] at hv
    (with_reducible refine (?_ : let G9 : Prop := _; G9)); intro G9
    obtain ⟨kv, tp, rfl, hp⟩ := ints_get hvs hv
    obtain ⟨u1, u2, u3, u4, u5, rfl⟩ := canon5 hm
    k_unfold; clear G9
    clear hm hS hdS
    (with_reducible refine (?_ : let G9 : Prop := _; G9)); intro G9
    obtain ⟨n0, hn0, hk0, _, hj0⟩ := hks kv (List.mem_of_getElem? hp)
    obtain ⟨n, hn, hnk, hnsu, hnL⟩ := st_mem hst' hn0
    k_unfold; clear G9
    have hnp : n.np = -1 := hnp' kv (mem_drop hp) n hn (hnk.trans hk0)
    obtain rfl : n.k = kv := hnk.trans hk0
    have SrI := Sr'.cons (p := (I, oI)) hw
    have hRm := (Sr'.apart _ (.tail _ (.head _))).1
    have hRo' : ∀ p ∈ (I, oI) :: (D', tupA vs.toArray) :: oth, p.1 ≠ R := by
      intro p hp
      rcases List.mem_cons.mp hp with rfl | hp
      · exact fun e => hw _ hRm e.symm
      rcases List.mem_cons.mp hp with rfl | hp
      · exact addr_ne Sr'.nd (Sr'.apart _ (.head _)).1 hRm (cls_ne rfl rfl (by intro e; injection e with e; exact absurd e (by decide)))
      · exact hRo p hp
    generalize hnw9 : (I, oI) :: news₁ = news2 at SrI N₁
    (with_reducible refine (?_ : let G9 : Prop := _; G9)); intro G9
    obtain ⟨v1, v2, hndm⟩ := (SrI.nodes n hn).node
    k_unfold; clear G9
    rw [hnp] at hndm
    have hndd := (SrI.nodes n hn).dict
    (repeat' (first | (((fail_if_success (fail_if_success k_unfold)); first | (with_reducible refine (?_ : wpAny _ _ _ _ _ _)) | k_unfold); try dsimp only) | ((fail_if_success (fail_if_success (with_reducible refine ex1 (by constructor) ?_))); (fail_if_success (fail_if_success k_fold)); (with_reducible refine (?_ : let qk := _; let ek := _; wpAny _ _ _ qk ek _)); intro qk ek) | ((fail_if_success (with_reducible first | ((fail_if_success (refine go1 (by constructor) ?_)); refine st1 (by constructor) ?_) | show Exists _)); walk1; try dsimp only)))
    rename Fr g' L' _ _ => F4
    rename News g' L' _ _ => N4
    refine dg_getMethod SrI.map N4 ?_
    (repeat' (first | (((fail_if_success (fail_if_success k_unfold)); first | (with_reducible refine (?_ : wpAny _ _ _ _ _ _)) | k_unfold); try dsimp only) | ((fail_if_success (fail_if_success (with_reducible refine ex1 (by constructor) ?_))); (fail_if_success (fail_if_success k_fold)); (with_reducible refine (?_ : let qk := _; let ek := _; wpAny _ _ _ qk ek _)); intro qk ek) | ((fail_if_success (with_reducible first | ((fail_if_success (refine go1 (by constructor) ?_)); refine st1 (by constructor) ?_) | show Exists _)); walk1; try dsimp only)))
    refine dg_get SrI.map N4 ?_
    rw [valueAt_key SrI.keys hn]
    dsimp only [Option.getD]
    (repeat' (first | (((fail_if_success (fail_if_success k_unfold)); first | (with_reducible refine (?_ : wpAny _ _ _ _ _ _)) | k_unfold); try dsimp only) | ((fail_if_success (fail_if_success (with_reducible refine ex1 (by constructor) ?_))); (fail_if_success (fail_if_success k_fold)); (with_reducible refine (?_ : let qk := _; let ek := _; wpAny _ _ _ qk ek _)); intro qk ek) | ((fail_if_success (with_reducible first | ((fail_if_success (refine go1 (by constructor) ?_)); refine st1 (by constructor) ?_) | show Exists _)); walk1; try dsimp only)))
    rename Fr g' L' _ _ => F5
    rename News g' L' _ _ => N5
    (with_reducible refine (?_ : let G9 : Prop := _; G9)); intro G9
    obtain ⟨lv, lc, hls, hli⟩ := (SrI.nodes n hn).list
    k_unfold; clear G9
    have Sr2 := SrI.np hn (np' := -2) (t1 := v1) (t2 := 292)
    have hls2 := mem_setN_ne (o := nodeO n.d n.k (-2) v1 292 n.Ls) hls ((SrI.N_ne hn).2.2.2 n hn).2.1
    have hndm2 := mem_setN_self (o' := nodeO n.d n.k (-2) v1 292 n.Ls) hndm
    have hndd2 := mem_setN_ne (o := nodeO n.d n.k (-2) v1 292 n.Ls) hndd ((SrI.N_ne hn).2.2.2 n hn).1
    replace N5 : News g' L' _ (setN n.N (nodeO n.d n.k (-2) v1 292 n.Ls) news2) := N5
    generalize hnw8 : setN n.N (nodeO n.d n.k (-2) v1 292 n.Ls) news2 = news3 at N5 Sr2 hls2 hndm2 hndd2
    clear hndm hndd
    refine wpAny_For ?_
    (repeat' (first | (((fail_if_success (fail_if_success k_unfold)); first | (with_reducible refine (?_ : wpAny _ _ _ _ _ _)) | k_unfold); try dsimp only) | ((fail_if_success (fail_if_success (with_reducible refine ex1 (by constructor) ?_))); (fail_if_success (fail_if_success k_fold)); (with_reducible refine (?_ : let qk := _; let ek := _; wpAny _ _ _ qk ek _)); intro qk ek) | ((fail_if_success (with_reducible first | ((fail_if_success (refine go1 (by constructor) ?_)); refine st1 (by constructor) ?_) | show Exists _)); walk1; try dsimp only)))
    rename Fr g' L' _ _ => F6
    rename News g' L' _ _ => N6
    refine forJ_listM (its := lv) rfl F6 N6 (.inr ⟨_, hls2, rfl, _, rfl⟩) (fun b => JDI w S dS G R po (nf + (i : Int)) (ks.drop (i + 1)) ns (gNp (plG ns') n.k fun _ => -2) n.succ rd' b n.Ls lv lc ((I, oI) :: (D', tupA vs.toArray) :: oth)) ?_ ?_ ?_ ?_
    · intro i m₁ nw pt93
      (with_reducible refine (?_ : let G9 : Prop := _; G9)); intro G9
      obtain ⟨_, h, _⟩ := pt93
      k_unfold; clear G9
      exact .inr ⟨_, h, rfl, _, rfl⟩
    · refine ⟨fun y _ _ => rfl, hls2, _, us', cu', rd', Sr2.less ?_, hus', ?_, ?_, Nat.le_refl _, ?_⟩
      · intro p hp
        rcases List.mem_cons.mp hp with rfl | hp
        · exact .tail _ (.tail _ (.head _))
        rcases List.mem_cons.mp hp with rfl | hp
        · exact .head _
        rcases List.mem_cons.mp hp with rfl | hp
        · exact .tail _ (.head _)
        · exact .tail _ (.tail _ (.tail _ hp))
      · rw [pl_np (f := fun _ => -2) SrI.keys hn]; rfl
      · rw [st_np]; exact hst'
      · intro r hr x hx e
        rcases of_turnK hx with ⟨y, hy, hyk, rfl⟩ | ⟨hx, hxk⟩
        · exact absurd hr (by rw [← e]; show y.k ∉ _; rw [hyk]; exact nodup_drop hnd hp)
        · exact hnp' r (drop_tail hr) x hx e
    · intro j v m₁ news₄ I2 oI2 h₁ tk₁ hj hv2 pt910 hw4 F₁ N₁
      (with_reducible refine (?_ : let G9 : Prop := _; G9)); intro G9
      obtain ⟨hm, hls4, ns4, us4, cu4, rd4, Sr4, hus4, hg4, hst4, hrl4, hnp4⟩ := pt910
      k_unfold; clear G9
      refine absB fun Q3 E3 hQ3 => ?_
      rw [← Array.getElem?_toList] at hv2
      (with_reducible refine (?_ : let G9 : Prop := _; G9)); intro G9
      obtain ⟨jv, tj, rfl, hpj⟩ := ints_get hli hv2
      obtain ⟨w1, w2, rfl⟩ := canon2 hm
      k_unfold; clear G9
      clear hm
      (with_reducible refine (?_ : let G9 : Prop := _; G9)); intro G9
      obtain ⟨x0, hx0, hxk0⟩ := hcl n0 hn0 jv (by rw [← hnsu]; exact List.mem_of_getElem? hpj)
      obtain ⟨x, hx, hxk, hxsu, hxL⟩ := st_mem hst4 hx0
      k_unfold; clear G9
      obtain rfl : x.k = jv := hxk.trans hxk0
      have SrJ := Sr4.cons (p := (I2, oI2)) hw4
      generalize hnw7 : (I2, oI2) :: news₄ = news5 at SrJ N₁
      (with_reducible refine (?_ : let G9 : Prop := _; G9)); intro G9
      obtain ⟨x1, x2, hxm⟩ := (SrJ.nodes x hx).node
      k_unfold; clear G9
      have hxd := (SrJ.nodes x hx).dict
      (repeat' (first | (((fail_if_success (fail_if_success k_unfold)); first | (with_reducible refine (?_ : wpAny _ _ _ _ _ _)) | k_unfold); try dsimp only) | ((fail_if_success (fail_if_success (with_reducible refine ex1 (by constructor) ?_))); (fail_if_success (fail_if_success k_fold)); (with_reducible refine (?_ : let qk := _; let ek := _; wpAny _ _ _ qk ek _)); intro qk ek) | ((fail_if_success (with_reducible show wpAny _ _ (subscriptTail _ _ _ _) _ _ _)); (fail_if_success (with_reducible first | ((fail_if_success (refine go1 (by constructor) ?_)); refine st1 (by constructor) ?_) | show Exists _)); walk1; try dsimp only)))
      rename Fr g' L' _ _ => F7
      rename News g' L' _ _ => N7
      refine dg_item SrJ.map N7 (valueAt_key SrJ.keys hx) ?_
      (repeat' (first | (((fail_if_success (fail_if_success k_unfold)); first | (with_reducible refine (?_ : wpAny _ _ _ _ _ _)) | k_unfold); try dsimp only) | ((fail_if_success (fail_if_success (with_reducible refine ex1 (by constructor) ?_))); (fail_if_success (fail_if_success k_fold)); (with_reducible refine (?_ : let qk := _; let ek := _; wpAny _ _ _ qk ek _)); intro qk ek) | ((fail_if_success (with_reducible first | ((fail_if_success (refine go1 (by constructor) ?_)); refine st1 (by constructor) ?_) | show Exists _)); walk1; try dsimp only)))
      rename Fr g' L' _ _ => F8
      rename News g' L' _ _ => N8
      (with_reducible refine (?_ : let G9 : Prop := _; G9)); intro G9
      obtain ⟨t9, N9⟩ : ∃ t9, News g' L' _ (setN x.N (nodeO x.d x.k (x.np - 1) x1 t9 x.Ls) news5) := ⟨_, N8⟩
      k_unfold; clear G9
      have Sr5 := SrJ.np hx (np' := x.np - 1) (t1 := x1) (t2 := t9)
      (with_reducible refine (?_ : let G9 : Prop := _; G9)); intro G9
      obtain ⟨xn1, xn2, xn3, xn4⟩ := SrJ.N_ne hx
      k_unfold; clear G9
      have hxm2 := mem_setN_self (o' := nodeO x.d x.k (x.np - 1) x1 t9 x.Ls) hxm
      have hxd2 := mem_setN_ne (o := nodeO x.d x.k (x.np - 1) x1 t9 x.Ls) hxd (xn4 x hx).1
      have hls5 : (n.Ls, W.listOf lv lc) ∈ news5 := by rw [← hnw7]; exact .tail _ hls4
      (with_reducible refine (?_ : let G9 : Prop := _; G9)); intro G9
      obtain ⟨n4, hn4, hnk4, _, hnL4⟩ := st_mem hst4 hn0
      k_unfold; clear G9
      have hls6 := mem_setN_ne (o := nodeO x.d x.k (x.np - 1) x1 t9 x.Ls) hls5 (addr_ne SrJ.nd hls5 hxm (cls_ne rfl rfl (by nofun)))
      clear N8
      generalize hnw6 : setN x.N (nodeO x.d x.k (x.np - 1) x1 t9 x.Ls) news5 = news6 at N9 Sr5 hxm2 hxd2 hls6
      clear hxm hxd
      have hS := Sr5.inst
      (with_reducible refine (?_ : let G9 : Prop := _; G9)); intro G9
      obtain ⟨q1, q2, q3, q4, t1, t2, t3, t4, t5, t6, hdS⟩ := Sr5.dict
      k_unfold; clear G9
      have hR5 := (Sr5.apart _ (.tail _ (.head _))).1
      have hlvs : lv.size = n.succ.length := by rw [← Array.length_toList]; exact hli.length
      have hsz4 : us4.size = rd4.length := by rw [← Array.length_toList]; exact hus4.length
      have hsu0 := hsu n0 hn0
      rw [← hnsu] at hsu0
      have hi' : i < ks.length := by rw [List.size_toArray, hvs.length] at hi; exact hi
      have hjks : x.k ∉ ks := hj0 x.k (by rw [← hnsu]; exact List.mem_of_getElem? hpj)
      have hnp5 : ∀ r ∈ ks.drop (i + 1), ∀ z ∈ turnK x.k (fun y => { y with np := x.np - 1 }) ns4, z.k = r → z.np = -1 := by
        intro r hr z hz e
        rcases of_turnK hz with ⟨y, hy, hyk, rfl⟩ | ⟨hz, _⟩
        · exact absurd (List.mem_of_mem_drop hr) (by rw [← e]; show y.k ∉ ks; rw [hyk]; exact hjks)
        · exact hnp4 r hr z hz e
      have hpl5 : plG (turnK x.k (fun y => { y with np := x.np - 1 }) ns4) = gNp (plG ns4) x.k (· - 1) := pl_np (f := (· - 1)) Sr4.keys hx
      have hof5 : gNpOf (gNp (plG ns4) x.k (· - 1)) x.k = x.np - 1 := by
        rw [← hpl5]
        exact npOf_pl (n := { x with np := x.np - 1 }) Sr5.keys (mem_turnK (f := fun y => { y with np := x.np - 1 }) hx rfl)
      have hRo5 : ∀ p ∈ (I2, oI2) :: (I, oI) :: (D', tupA vs.toArray) :: oth, p.1 ≠ R := by
        intro p hp
        rcases List.mem_cons.mp hp with rfl | hp
        · exact fun e => hw4 _ (Sr4.apart _ (.head _)).1 e.symm
        · exact hRo' p hp
      have hI2 : ∀ p ∈ (I, oI) :: (D', tupA vs.toArray) :: oth, p.1 ≠ I2 := fun p hp => hw4 p (Sr4.apart p (.tail _ hp)).1
      have hIR : R ≠ I2 := hw4 _ (Sr4.apart _ (.head _)).1
      have hLI : n.Ls ≠ I2 := hw4 _ hls4
      have Sr5r := Sr5.less (oth' := (R, W.listOf us4 cu4) :: (I2, oI2) :: (I, oI) :: (D', tupA vs.toArray) :: oth) (by
        intro p hp
        rcases List.mem_cons.mp hp with rfl | hp
        · exact .tail _ (.head _)
        rcases List.mem_cons.mp hp with rfl | hp
        · exact .head _
        · exact .tail _ (.tail _ hp))
      have hLR : n.Ls ≠ R := fun e => (Sr4.apart _ (.head _)).2 (by rw [← e, hnL, ← hnL4]; exact foot_L hn4)
      (repeat' (first | (((fail_if_success (fail_if_success k_unfold)); first | (with_reducible refine (?_ : wpAny _ _ _ _ _ _)) | k_unfold); try dsimp only) | ((fail_if_success (fail_if_success (with_reducible refine ex1 (by constructor) ?_))); (fail_if_success (fail_if_success k_fold)); (with_reducible refine (?_ : let qk := _; let ek := _; wpAny _ _ _ qk ek _)); intro qk ek) | ((fail_if_success (with_reducible first | ((fail_if_success (refine go1 (by constructor) ?_)); refine st1 (by constructor) ?_) | show Exists _)); walk1; try dsimp only)))
      · rename Fr g' L' _ _ => Fa
        rename News g' L' _ _ => Na
        rename x.np - 1 = 0 => hz0
        have SrA := Sr5r.ready (o' := W.listOf (us4.push (Value.int x.k tj)) (cu4 + 1)) hRo5
        refine hQ3 _ _ ⟨_, _, _, cutN I2 _, rfl, Fa, news_cut Na (SrA.apart _ (.tail _ (.head _))).1, cut_off, fun y h1 h2 => by simp only [h1, h2, if_false], mem_cutN.mpr ⟨mem_setN_ne hls6 hLR, hLI⟩, _, us4.push (Value.int x.k tj), cu4 + 1, rd4 ++ [x.k],
          SrA.cut (SrA.off (.tail _ (.head _))) ?_, by rw [Array.toList_push]; exact ints_snoc hus4 _ _, ?_, by rw [st_np]; exact hst4, by rw [List.length_append, List.length_singleton]; exact Nat.succ_le_succ (by assumption), hnp5⟩
        · intro p hp
          rcases List.mem_cons.mp hp with rfl | hp
          · exact ⟨.head _, hIR⟩
          · exact ⟨.tail _ (.tail _ hp), hI2 p hp⟩
        · rw [take_snoc hpj, List.foldl_append, ← hg4, hpl5]
          show _ = gDec (plG ns4, rd4) x.k
          unfold gDec
          rw [hof5, if_pos hz0]
      · rename x.np - 1 ≠ 0 => hz0
        refine hQ3 _ _ ⟨_, _, _, cutN I2 _, rfl, F8, news_cut N9 (Sr5r.apart _ (.tail _ (.head _))).1, cut_off, fun y h1 h2 => by simp only [h1, h2, if_false], mem_cutN.mpr ⟨hls6, hLI⟩, _, us4, cu4, rd4,
          Sr5r.cut (Sr5r.off (.tail _ (.head _))) ?_, hus4, ?_, by rw [st_np]; exact hst4, Nat.le_succ_of_le (by assumption), hnp5⟩
        · intro p hp
          rcases List.mem_cons.mp hp with rfl | hp
          · exact ⟨.head _, hIR⟩
          · exact ⟨.tail _ (.tail _ hp), hI2 p hp⟩
        · rw [take_snoc hpj, List.foldl_append, ← hg4, hpl5]
          show _ = gDec (plG ns4, rd4) x.k
          unfold gDec
          rw [hof5, if_neg hz0]
    · intro h' tk m' news' F' N' pt96
      (with_reducible refine (?_ : let G9 : Prop := _; G9)); intro G9
      obtain ⟨hm, hls4, ns4, us4, cu4, rd4, Sr4, hus4, hg4, hst4, hrl4, hnp4⟩ := pt96
      k_unfold; clear G9
      (with_reducible refine (?_ : let G9 : Prop := _; G9)); intro G9
      obtain ⟨w1, w2, rfl⟩ := canon2 hm
      k_unfold; clear G9
      clear hm
      have hS := Sr4.inst
      (with_reducible refine (?_ : let G9 : Prop := _; G9)); intro G9
      obtain ⟨q1, q2, q3, q4, t1, t2, t3, t4, t5, t6, hdS⟩ := Sr4.dict
      k_unfold; clear G9
      have hlvs : lv.size = n.succ.length := by rw [← Array.length_toList]; exact hli.length
      have hsu0 := hsu n0 hn0
      rw [← hnsu] at hsu0
      (repeat' (first | (((fail_if_success (fail_if_success k_unfold)); first | (with_reducible refine (?_ : wpAny _ _ _ _ _ _)) | k_unfold); try dsimp only) | ((fail_if_success (fail_if_success (with_reducible refine ex1 (by constructor) ?_))); (fail_if_success (fail_if_success k_fold)); (with_reducible refine (?_ : let qk := _; let ek := _; wpAny _ _ _ qk ek _)); intro qk ek) | ((fail_if_success (with_reducible first | ((fail_if_success (refine go1 (by constructor) ?_)); refine st1 (by constructor) ?_) | show Exists _)); walk1; try dsimp only)))
      rename Fr g' _ _ _ => Fa
      rename News g' _ _ _ => Na
      (with_reducible refine (?_ : let G9 : Prop := _; G9)); intro G9
      obtain ⟨t9, Na⟩ : ∃ t9, News g' _ _ (setN dS (srtD G (.ref R) po (nf + ((i + 1 : Nat) : Int)) q1 q2 q3 q4 t1 t2 t3 t4 t5 t9) news') := ⟨_, by rw [show nf + ((i + 1 : Nat) : Int) = nf + (i : Int) + 1 from (Int.add_assoc nf i 1).symm]; exact Na⟩
      k_unfold; clear G9
      have SrA := Sr4.attr (rv' := .ref R) (po' := po) (nf' := nf + ((i + 1 : Nat) : Int)) (h1 := q1) (h2 := q2) (h3 := q3) (h4 := q4) (t1 := t1) (t2 := t2) (t3 := t3) (t4 := t4) (t5 := t5) (t6 := t9)
      refine hQ2 _ _ ⟨_, _, _, cutN I _, rfl, Fa, news_cut Na (SrA.apart _ (.tail _ (.head _))).1, cut_off, fun y h1 h2 h3 h4 h5 => by simp only [h1, h2, h3, h4, h5, if_false], ns4, us4, cu4, rd4, SrA.cut (SrA.off (.tail _ (.head _))) ?_, hus4, ?_, hst4, ?_, hnp4⟩
      · intro p hp
        rcases List.mem_cons.mp hp with rfl | hp
        · exact ⟨.tail _ (.tail _ (.head _)), hw _ (Sr'.apart _ (.head _)).1⟩
        rcases List.mem_cons.mp hp with rfl | hp
        · exact ⟨.head _, fun e => hw _ hRm e⟩
        · exact ⟨.tail _ (.tail _ (.tail _ hp)), hw _ (Sr'.apart _ (.tail _ (.tail _ hp))).1⟩
      · rw [take_snoc hp, List.foldl_append, ← hg']
        show _ = gOne (plG ns', rd') n.k
        unfold gOne
        rw [su_pl Sr'.keys hn]
        rw [hlvs, List.take_length] at hg4
        exact hg4
      · first | (rw [Nat.succ_mul, ← Nat.add_assoc]; exact Nat.le_trans (by assumption) (Nat.add_le_add (by assumption) (by assumption))) | omega
  · intro h' tk m' news' F' N' pt96
    (with_reducible refine (?_ : let G9 : Prop := _; G9)); intro G9
    obtain ⟨hm, ns', us', cu', rd', Sr', hus', hg', hst', hrl', hnp'⟩ := pt96
    k_unfold; clear G9
    (repeat' (first | (((fail_if_success (fail_if_success k_unfold)); first | (with_reducible refine (?_ : wpAny _ _ _ _ _ _)) | k_unfold); try dsimp only) | ((fail_if_success (fail_if_success (with_reducible refine ex1 (by constructor) ?_))); (fail_if_success (fail_if_success k_fold)); (with_reducible refine (?_ : let qk := _; let ek := _; wpAny _ _ _ qk ek _)); intro qk ek) | ((fail_if_success (with_reducible first | ((fail_if_success (refine go1 (by constructor) ?_)); refine st1 (by constructor) ?_) | show Exists _)); walk1; try dsimp only)))
    refine hQ1 _ _ ?_
    (repeat' (first | (((fail_if_success (fail_if_success k_unfold)); first | (with_reducible refine (?_ : wpAny _ _ _ _ _ _)) | k_unfold); try dsimp only) | ((fail_if_success (fail_if_success (with_reducible refine ex1 (by constructor) ?_))); (fail_if_success (fail_if_success k_fold)); (with_reducible refine (?_ : let qk := _; let ek := _; wpAny _ _ _ qk ek _)); intro qk ek) | ((fail_if_success (with_reducible first | ((fail_if_success (refine go1 (by constructor) ?_)); refine st1 (by constructor) ?_) | show Exists _)); walk1; try dsimp only)))
    rename Fr h₀ _ _ _ => Fz
    rename News h₀ _ _ _ => Nz
    rw [List.size_toArray, hvs.length] at Sr' hg'
    rw [List.take_length] at hg'
    exact hret ns' us' cu' rd' _ _ _ Fz Nz (Sr'.less fun p hp => .tail _ hp) hus' hg' hst'
end
section
theorem refused_add {w : World} {dp un : Nat} {gd : Option (List Code)} {cn : Str} {cs : Scope} {a : Addr} {ccd : Value} {cl : List (Str × Addr)} {outer : List Env} {A₀ : Around} {base h₀ : Heap} {L : Addr} {m : Str → Option Value} {news : List (Addr × Obj)} {s : Shared} {p : Program} {loose : List Str} {mean : ExcName → Option Value} {mg mb : Str → Option Value}
    {Q E : Value → Shared → Prop} (B : Below A₀ base outer h₀) (F : Fr h₀ L s.heap m) (X : (Mine.K w.params).In h₀) (N : News h₀ L s.heap news) (T : Top p loose mean mg mb h₀) (hk : cs.kind = .function) (hd : dp + 20 < recursionLimit) (hu : un + 160 < cLine) (XB : (Mine.K w.params).In base) (TB : Top p loose mean mg mb base) (D : KtsDicts (outer.filterMap (·.frame)) h₀)
    {S dS G R M : Addr} {po nf k : Int} {tk9 : Tok} {ns : List Nde} {oth : List (Addr × Obj)} (Sr : Srt w news S dS G (.ref R) po nf ns oth) (hM : (M, methodObj (.ref 141) (.ref S)) ∈ news)
    (hret : ∀ h₀' h' tk', KtsTurn (outer.filterMap (·.frame)) h₀ h₀' → Below A₀ base outer h₀' → (Mine.K w.params).In h₀' → Top p loose mean mg mb h₀' → KtsDicts (outer.filterMap (·.frame)) h₀' → Fr h₀' L h' m → News h₀' L h' news → Q (.bool true) { s with heap := h', toks := tk' }) :
    wpAny (model PySem.Challenge.pw_nq0248_01 w) (ktrTop dp un gd cn cs L a ccd cl outer) (call (.ref 282) [.ref M, .int k tk9]) Q E s := by
  have hfill : (fun (_ : OpenLaw) (_ : Params → Frag) => True) PySem.Challenge.rw_nq0248_01 Mine.K := by k_fill; trivial
  clear hfill
  refine wpAny_call ?_
  k_dflt ((refine' code_S ?k1 ?k2 ?k3 ?k4 ?k5 ?XB ?TB ?D ?T0 ?kA ?kF ?kK ?k6 ?k7 ?k8 ?k9 ?kB ?_ ?c2 ?c3 ?c4 ?c5; (case kA | kF => exact rfl); (case kK | k1 | k2 | k3 | k4 | k5 | XB | TB | D => assumption); (case T0 => exact KtsTurn.refl); (case k6 | k7 => k_is); (case k8 => ktr_room); (case k9 => exact BindsTo.of_eq rfl); (case c5 => decide); (case kB => exact locs rfl); (case c2 | c3 | c4 => exact rfl); k_whole; intro _ _ _ _ _ _ _ _ _ _; (try dsimp only)))
  rename Fr _ _ _ _ => F1
  rename_i g1 L1 h1 FG N1 B1 X1 T1 D1
  replace F1 : Fr g1 L1 h1 (fun y => List.lookup y [(Str.ofString "node", Value.int k tk9), (Str.ofString "call", Value.ref M)]) := F1
  with_reducible refine gen_toks fun tk0 => ?_
  try dsimp only
  have hS := Sr.inst
  (with_reducible refine (?_ : let G9 : Prop := _; G9)); intro G9
  obtain ⟨q1, q2, q3, q4, t1, t2, t3, t4, t5, t6, hdS⟩ := Sr.dict
  k_unfold; clear G9
  (repeat' (first | (((fail_if_success (fail_if_success k_unfold)); first | (with_reducible refine (?_ : wpAny _ _ _ _ _ _)) | k_unfold); try dsimp only) | ((fail_if_success (fail_if_success (with_reducible refine ex1 (by constructor) ?_))); (fail_if_success (fail_if_success k_fold)); (with_reducible refine (?_ : let qk := _; let ek := _; wpAny _ _ _ qk ek _)); intro qk ek) | ((fail_if_success (with_reducible first | ((fail_if_success (refine go1 (by constructor) ?_)); refine st1 (by constructor) ?_) | show Exists _)); walk1; try dsimp only)))
  walk1
  try dsimp only
  (repeat' (first | (((fail_if_success (fail_if_success k_unfold)); first | (with_reducible refine (?_ : wpAny _ _ _ _ _ _)) | k_unfold); try dsimp only) | ((fail_if_success (fail_if_success (with_reducible refine ex1 (by constructor) ?_))); (fail_if_success (fail_if_success k_fold)); (with_reducible refine (?_ : let qk := _; let ek := _; wpAny _ _ _ qk ek _)); intro qk ek) | ((fail_if_success (with_reducible first | ((fail_if_success (refine go1 (by constructor) ?_)); refine st1 (by constructor) ?_) | show Exists _)); walk1; try dsimp only)))
  rename KtsTurn _ h₀ _ => kT
  rename Fr _ L _ m => kF
  rename News _ L _ _ => kN
  rename Below A₀ base outer _ => kB
  rename (K w.params).In _ => kX
  rename Top p loose mean mg mb _ => kP
  rename KtsDicts (outer.filterMap _) _ => kD
  exact hret _ _ _ kT kB kX kP kD kF (news_sub kN fun p hp => .tail _ hp)
set_option maxHeartbeats 6000000 in
theorem refused_done {w : World} {dp un : Nat} {gd : Option (List Code)} {cn : Str} {cs : Scope} {a : Addr} {ccd : Value} {cl : List (Str × Addr)} {outer : List Env} {A₀ : Around} {base h₀ : Heap} {L : Addr} {m : Str → Option Value} {news : List (Addr × Obj)} {s : Shared} {p : Program} {loose : List Str} {mean : ExcName → Option Value} {mg mb : Str → Option Value}
    {Q E : Value → Shared → Prop} (B : Below A₀ base outer h₀) (F : Fr h₀ L s.heap m) (X : (Mine.K w.params).In h₀) (N : News h₀ L s.heap news) (T : Top p loose mean mg mb h₀) (hk : cs.kind = .function) (hd : dp + 20 < recursionLimit) (hu : un + 160 < cLine) (XB : (Mine.K w.params).In base) (TB : Top p loose mean mg mb base) (D : KtsDicts (outer.filterMap (·.frame)) h₀)
    {S dS G R M : Addr} {po nf : Int} {tk9 : Tok} {ns : List Nde} {n : Nde} {oth : List (Addr × Obj)} (Sr : Srt w news S dS G (.ref R) po nf ns oth) (hM : (M, methodObj (.ref 174) (.ref S)) ∈ news) (hn : n ∈ ns) (hnp : 0 ≤ n.np ∨ n.np = -2) (hkb : 0 ≤ n.k ∧ n.k < 1000)
    (hret : ∀ h₀' h' tk', KtsTurn (outer.filterMap (·.frame)) h₀ h₀' → Below A₀ base outer h₀' → (Mine.K w.params).In h₀' → Top p loose mean mg mb h₀' → KtsDicts (outer.filterMap (·.frame)) h₀' → Fr h₀' L h' m → News h₀' L h' news → Q (.bool true) { s with heap := h', toks := tk' }) :
    wpAny (model PySem.Challenge.pw_nq0248_01 w) (ktrTop dp un gd cn cs L a ccd cl outer) (call (.ref 282) [.ref M, .int n.k tk9]) Q E s := by
  have hfill : (fun (_ : OpenLaw) (_ : Params → Frag) => True) PySem.Challenge.rw_nq0248_01 Mine.K := by k_fill; trivial
  clear hfill
  refine wpAny_call ?_
  k_dflt ((refine' code_S ?k1 ?k2 ?k3 ?k4 ?k5 ?XB ?TB ?D ?T0 ?kA ?kF ?kK ?k6 ?k7 ?k8 ?k9 ?kB ?_ ?c2 ?c3 ?c4 ?c5; (case kA | kF => exact rfl); (case kK | k1 | k2 | k3 | k4 | k5 | XB | TB | D => assumption); (case T0 => exact KtsTurn.refl); (case k6 | k7 => k_is); (case k8 => ktr_room); (case k9 => exact BindsTo.of_eq rfl); (case c5 => decide); (case kB => exact locs rfl); (case c2 | c3 | c4 => exact rfl); k_whole; intro _ _ _ _ _ _ _ _ _ _; (try dsimp only)))
  rename Fr _ _ _ _ => F1
  rename_i g1 L1 h1 FG N1 B1 X1 T1 D1
  replace F1 : Fr g1 L1 h1 (fun y => List.lookup y [(Str.ofString "node", Value.int n.k tk9), (Str.ofString "call", Value.ref M)]) := F1
  with_reducible refine gen_toks fun tk0 => ?_
  try dsimp only
  have hS := Sr.inst
  (with_reducible refine (?_ : let G9 : Prop := _; G9)); intro G9
  obtain ⟨q1, q2, q3, q4, t1, t2, t3, t4, t5, t6, hdS⟩ := Sr.dict
  obtain ⟨v1, v2, hndm⟩ := (Sr.nodes n hn).node
  k_unfold; clear G9
  have hndd := (Sr.nodes n hn).dict
  (repeat' (first | (((fail_if_success (fail_if_success k_unfold)); first | (with_reducible refine (?_ : wpAny _ _ _ _ _ _)) | k_unfold); try dsimp only) | ((fail_if_success (fail_if_success (with_reducible refine ex1 (by constructor) ?_))); (fail_if_success (fail_if_success k_fold)); (with_reducible refine (?_ : let qk := _; let ek := _; wpAny _ _ _ qk ek _)); intro qk ek) | ((fail_if_success (with_reducible first | ((fail_if_success (refine go1 (by constructor) ?_)); refine st1 (by constructor) ?_) | show Exists _)); walk1; try dsimp only)))
  walk1
  try dsimp only
  (repeat' (first | (((fail_if_success (fail_if_success k_unfold)); first | (with_reducible refine (?_ : wpAny _ _ _ _ _ _)) | k_unfold); try dsimp only) | ((fail_if_success (fail_if_success (with_reducible refine ex1 (by constructor) ?_))); (fail_if_success (fail_if_success k_fold)); (with_reducible refine (?_ : let qk := _; let ek := _; wpAny _ _ _ qk ek _)); intro qk ek) | ((fail_if_success (with_reducible first | ((fail_if_success (refine go1 (by constructor) ?_)); refine st1 (by constructor) ?_) | show Exists _)); walk1; try dsimp only)))
  rename Fr _ _ _ _ => F2
  rename News _ _ _ _ => N2
  refine wpAny_For ?_
  (repeat' (first | (((fail_if_success (fail_if_success k_unfold)); first | (with_reducible refine (?_ : wpAny _ _ _ _ _ _)) | k_unfold); try dsimp only) | ((fail_if_success (fail_if_success (with_reducible refine ex1 (by constructor) ?_))); (fail_if_success (fail_if_success k_fold)); (with_reducible refine (?_ : let qk := _; let ek := _; wpAny _ _ _ qk ek _)); intro qk ek) | ((fail_if_success (with_reducible first | ((fail_if_success (refine go1 (by constructor) ?_)); refine st1 (by constructor) ?_) | show Exists _)); walk1; try dsimp only)))
  rename Fr _ _ _ _ => F3
  rename News _ _ _ _ => N3
  refine forJ_tupM (its := #[.int n.k tk9]) rfl F3 N3 ⟨_, .head _, rfl, _, rfl⟩ (fun b i m' nw => m' = b ∧ nw = _ ∧ i = 0) ?_ ⟨rfl, rfl, rfl⟩ ?_ ?_
  · intro i m' nw pt93
    (with_reducible refine (?_ : let G9 : Prop := _; G9)); intro G9
    obtain ⟨_, rfl, _⟩ := pt93
    k_unfold; clear G9
    exact ⟨_, .head _, rfl, _, rfl⟩
  · intro i v m₁ nw I oI h₁ tk₁ hi hv pt910 hw F₁ N₁
    (with_reducible refine (?_ : let G9 : Prop := _; G9)); intro G9
    obtain ⟨rfl, rfl, rfl⟩ := pt910
    k_unfold; clear G9
    obtain rfl : Value.int n.k tk9 = v := Option.some.inj hv
    (repeat' (first | (((fail_if_success (fail_if_success k_unfold)); first | (with_reducible refine (?_ : wpAny _ _ _ _ _ _)) | k_unfold); try dsimp only) | ((fail_if_success (fail_if_success (with_reducible refine ex1 (by constructor) ?_))); (fail_if_success (fail_if_success k_fold)); (with_reducible refine (?_ : let qk := _; let ek := _; wpAny _ _ _ qk ek _)); intro qk ek) | ((fail_if_success (with_reducible first | ((fail_if_success (refine go1 (by constructor) ?_)); refine st1 (by constructor) ?_) | show Exists _)); walk1; try dsimp only)))
    rename Fr _ _ _ _ => F4
    rename News _ _ _ _ => N4
    refine dg_getMethod (Sr.map.sub fun p hp _ => .tail _ (.tail _ hp)) N4 ?_
    (repeat' (first | (((fail_if_success (fail_if_success k_unfold)); first | (with_reducible refine (?_ : wpAny _ _ _ _ _ _)) | k_unfold); try dsimp only) | ((fail_if_success (fail_if_success (with_reducible refine ex1 (by constructor) ?_))); (fail_if_success (fail_if_success k_fold)); (with_reducible refine (?_ : let qk := _; let ek := _; wpAny _ _ _ qk ek _)); intro qk ek) | ((fail_if_success (with_reducible first | ((fail_if_success (refine go1 (by constructor) ?_)); refine st1 (by constructor) ?_) | show Exists _)); walk1; try dsimp only)))
    refine dg_get (Sr.map.sub fun p hp _ => .tail _ (.tail _ hp)) N4 ?_
    rw [valueAt_key Sr.keys hn]
    dsimp only [Option.getD]
    have hlen : (Str.ofString (toString n.k)).length ≤ 4 := by
      have := int_text_length_le10 (a := n.k) (k := 3) (by decide) (by omega)
      rw [PySem.ofString_length]; exact this
    rcases hnp with hnp | hnp
    · (repeat' (first | (((fail_if_success (fail_if_success k_unfold)); first | (with_reducible refine (?_ : wpAny _ _ _ _ _ _)) | k_unfold); try dsimp only) | ((fail_if_success (fail_if_success (with_reducible refine ex1 (by constructor) ?_))); (fail_if_success (fail_if_success k_fold)); (with_reducible refine (?_ : let qk := _; let ek := _; wpAny _ _ _ qk ek _)); intro qk ek) | ((fail_if_success (with_reducible first | ((fail_if_success (refine go1 (by constructor) ?_)); refine st1 (by constructor) ?_) | show Exists _)); walk1; try dsimp only)))
      · with_reducible refine joinParts_nilE ?_
        with_reducible refine joinParts_nil ?_ ?z
        case z => (simp only [Str.length_append]; rw [sizeLine_eq, show (Str.empty).length = 0 from rfl, show (Str.ofString "node ").length = 5 from by decide +kernel, show (Str.ofString " was not passed out (still not ready)").length = 37 from by decide +kernel]; exact Nat.le_trans (Nat.add_le_add_right (Nat.add_le_add_left hlen _) _) (by decide))
        (repeat' (first | (((fail_if_success (fail_if_success k_unfold)); first | (with_reducible refine (?_ : wpAny _ _ _ _ _ _)) | k_unfold); try dsimp only) | ((fail_if_success (fail_if_success (with_reducible refine ex1 (by constructor) ?_))); (fail_if_success (fail_if_success k_fold)); (with_reducible refine (?_ : let qk := _; let ek := _; wpAny _ _ _ qk ek _)); intro qk ek) | ((fail_if_success (with_reducible first | ((fail_if_success (refine go1 (by constructor) ?_)); refine st1 (by constructor) ?_) | show Exists _)); walk1; try dsimp only)))
        rename Heap.NewExc _ _ _ _ => hx
        rename Fr _ _ _ _ => F5
        rename News _ _ _ _ => N5
        rename Below _ base _ _ => B5
        dsimp only at hx
        show wpAny _ _ (noteFrame _ _) (fun _ s₂ => cameBackBy _ _ _ (fun x s₃ => wpAny _ _ (leaving _ x) _ _ s₃) _ s₂) _ _
        refine leave_noted B5 hx F5 N5 (by exact rfl) (by exact rfl) (by exact rfl) ?_
        intro h' R' U'
        dsimp only at R' U' ⊢
        (repeat' (first | (((fail_if_success (fail_if_success k_unfold)); first | (with_reducible refine (?_ : wpAny _ _ _ _ _ _)) | k_unfold); try dsimp only) | ((fail_if_success (fail_if_success (with_reducible refine ex1 (by constructor) ?_))); (fail_if_success (fail_if_success k_fold)); (with_reducible refine (?_ : let qk := _; let ek := _; wpAny _ _ _ qk ek _)); intro qk ek) | ((fail_if_success (with_reducible first | ((fail_if_success (refine go1 (by constructor) ?_)); refine st1 (by constructor) ?_) | show Exists _)); walk1; try dsimp only)))
        rename KtsTurn _ h₀ _ => kT
        rename Fr _ L _ m => kF
        rename News _ L _ _ => kN
        rename Below A₀ base outer _ => kB
        rename (K w.params).In _ => kX
        rename Top p loose mean mg mb _ => kP
        rename KtsDicts (outer.filterMap _) _ => kD
        exact hret _ _ _ kT kB kX kP kD kF (news_sub kN fun p hp => .tail _ (.tail _ hp))
      · exfalso; omega
    · rw [hnp] at hndm
      (repeat' (first | (((fail_if_success (fail_if_success k_unfold)); first | (with_reducible refine (?_ : wpAny _ _ _ _ _ _)) | k_unfold); try dsimp only) | ((fail_if_success (fail_if_success (with_reducible refine ex1 (by constructor) ?_))); (fail_if_success (fail_if_success k_fold)); (with_reducible refine (?_ : let qk := _; let ek := _; wpAny _ _ _ qk ek _)); intro qk ek) | ((fail_if_success (with_reducible first | ((fail_if_success (refine go1 (by constructor) ?_)); refine st1 (by constructor) ?_) | show Exists _)); walk1; try dsimp only)))
      · with_reducible refine joinParts_nilE ?_
        with_reducible refine joinParts_nil ?_ ?z
        case z => (simp only [Str.length_append]; rw [sizeLine_eq, show (Str.empty).length = 0 from rfl, show (Str.ofString "node ").length = 5 from by decide +kernel, show (Str.ofString " was already marked done").length = 24 from by decide +kernel]; exact Nat.le_trans (Nat.add_le_add_right (Nat.add_le_add_left hlen _) _) (by decide))
        (repeat' (first | (((fail_if_success (fail_if_success k_unfold)); first | (with_reducible refine (?_ : wpAny _ _ _ _ _ _)) | k_unfold); try dsimp only) | ((fail_if_success (fail_if_success (with_reducible refine ex1 (by constructor) ?_))); (fail_if_success (fail_if_success k_fold)); (with_reducible refine (?_ : let qk := _; let ek := _; wpAny _ _ _ qk ek _)); intro qk ek) | ((fail_if_success (with_reducible first | ((fail_if_success (refine go1 (by constructor) ?_)); refine st1 (by constructor) ?_) | show Exists _)); walk1; try dsimp only)))
        rename Heap.NewExc _ _ _ _ => hx
        rename Fr _ _ _ _ => F5
        rename News _ _ _ _ => N5
        rename Below _ base _ _ => B5
        dsimp only at hx
        show wpAny _ _ (noteFrame _ _) (fun _ s₂ => cameBackBy _ _ _ (fun x s₃ => wpAny _ _ (leaving _ x) _ _ s₃) _ s₂) _ _
        refine leave_noted B5 hx F5 N5 (by exact rfl) (by exact rfl) (by exact rfl) ?_
        intro h' R' U'
        dsimp only at R' U' ⊢
        (repeat' (first | (((fail_if_success (fail_if_success k_unfold)); first | (with_reducible refine (?_ : wpAny _ _ _ _ _ _)) | k_unfold); try dsimp only) | ((fail_if_success (fail_if_success (with_reducible refine ex1 (by constructor) ?_))); (fail_if_success (fail_if_success k_fold)); (with_reducible refine (?_ : let qk := _; let ek := _; wpAny _ _ _ qk ek _)); intro qk ek) | ((fail_if_success (with_reducible first | ((fail_if_success (refine go1 (by constructor) ?_)); refine st1 (by constructor) ?_) | show Exists _)); walk1; try dsimp only)))
        rename KtsTurn _ h₀ _ => kT
        rename Fr _ L _ m => kF
        rename News _ L _ _ => kN
        rename Below A₀ base outer _ => kB
        rename (K w.params).In _ => kX
        rename Top p loose mean mg mb _ => kP
        rename KtsDicts (outer.filterMap _) _ => kD
        exact hret _ _ _ kT kB kX kP kD kF (news_sub kN fun p hp => .tail _ (.tail _ hp))
  · intro h' tk m' nw F' N' pt96
    (with_reducible refine (?_ : let G9 : Prop := _; G9)); intro G9
    obtain ⟨_, _, h0⟩ := pt96
    k_unfold; clear G9
    cases h0
end
section
def GdS (w : World) (A₀ : Around) (base : Heap) (outer : List Env) (p : Program) (loose : List Str) (mean : ExcName → Option Value) (mg mb : Str → Option Value) (g₀ g : Heap) : Prop :=
  KtsTurn (outer.filterMap (·.frame)) g₀ g ∧ Below A₀ base outer g ∧ (K w.params).In g ∧ Top p loose mean mg mb g ∧ KtsDicts (outer.filterMap (·.frame)) g
inductive JFC (w : World) (news : List (Addr × Obj)) (ns : List Nde) (ST IT SE N2 : Addr) (b : Str → Option Value) (i : Nat) (m : Str → Option Value) (nw : List (Addr × Obj)) : Prop
  | mk (h90 : ∀ y, y ≠ Str.ofString "node" → m y = b y) (bl) (oSE) (c1) (c2) (oN2) (h96 : Own news nw [(N2, oN2), (SE, oSE), (IT, W.listOf #[] c2), (ST, W.listOf #[] c1)]) (h97 : oSE.SetObjOf (intKind PySem.Challenge.pw_nq0248_01 w) (fun k => decide (k ∈ bl)) bl.length) (h98 : oN2.IsDictOf (intKind PySem.Challenge.pw_nq0248_01 w) []) (h99 : Closed (gSu (plG ns)) bl) (h910 : bl.Nodup) (h911 : ∀ k ∈ bl, k ∈ ns.map (·.k)) (h912 : ∀ k ∈ (ns.map (·.k)).take i, k ∈ bl) : JFC w news ns ST IT SE N2 b i m nw
structure Fra where
  W : Addr
  It : Addr
  n : Nde
  j : Nat
def Fra.kj (f : Fra) : Int × Nat := (f.n.k, f.j)
def fraL (fr : List Fra) : List (Addr × Obj) := fr.flatMap fun f => [(f.It, itO f.n.Ls f.j), (f.W, wrO f.It)]
def N2Ok (fr : List Fra) (kvs : List (Int × Value)) : Prop := (kvs.map (·.1)) = fr.reverse.map (·.n.k) ∧ ∀ (i : Nat) f, fr.reverse[i]? = some f → ∃ t, valueAt kvs f.n.k = some (.int i t)
structure StW (w : World) (news nw : List (Addr × Obj)) (ns : List Nde) (ST IT SE N2 I : Addr) (oI : Obj) (fr : List Fra) (bl : List Int) : Prop where
  ex : ∃ oSE c1 c2 oN2 vs kvs cnt, Own news nw ((N2, oN2) :: (SE, oSE) :: (IT, W.listOf (fr.reverse.map fun f => Value.ref f.W).toArray c2) :: (ST, W.listOf vs c1) :: (I, oI) :: fraL fr) ∧
    IntsAre vs.toList (fr.reverse.map (·.n.k)) ∧ oN2.IsDictOf (intKind PySem.Challenge.pw_nq0248_01 w) kvs ∧ N2Ok fr kvs ∧ oSE.SetObjOf (intKind PySem.Challenge.pw_nq0248_01 w) (fun k => decide (k ∈ bl ∨ k ∈ fr.map (·.n.k))) cnt ∧ cnt = bl.length + fr.length
  closed : Closed (gSu (plG ns)) bl
  nodup : (bl ++ fr.map (·.n.k)).Nodup
  keys : ∀ k ∈ bl, k ∈ ns.map (·.k)
  nodes : ∀ f ∈ fr, f.n ∈ ns
def rootOk (k : Int) (fr : List Fra) (v : Int) : Prop := match fr.getLast? with
  | some f => f.n.k = k
  | none => v = k
def rootIn (k : Int) (fr : List Fra) (bl : List Int) : Prop := match fr.getLast? with
  | some f => f.n.k = k
  | none => k ∈ bl
inductive IW (w : World) (s : Shared) (Gd : Heap → Prop) (L1 : Addr) (b : Str → Option Value) (news : List (Addr × Obj)) (ns : List Nde) (ST IT SE N2 I : Addr) (oI : Obj) (k : Int) (bl0 : List Int) (n : Nat) (s' : Shared) : Prop
  | mk (g) (h) (tk) (m') (nw) (fr) (bl) (v) (tv) (h99 : s' = { s with heap := h, toks := tk }) (h910 : Gd g) (h911 : Fr g L1 h m') (h912 : News g L1 h nw) (h913 : ∀ y, y ≠ Str.ofString "node" → m' y = b y) (h914 : m' (Str.ofString "node") = some (.int v tv)) (h915 : StW w news nw ns ST IT SE N2 I oI fr bl) (h916 : Path (gSu (plG ns)) bl (fr.map Fra.kj) v) (h917 : v ∈ ns.map (·.k)) (h918 : fr = [] → v ∉ bl) (h919 : rootOk k fr v) (h920 : ∀ x ∈ bl0, x ∈ bl) (h921 : n = leftAll (gSu (plG ns)) (ns.map (·.k)) (fr.map Fra.kj) bl) : IW w s Gd L1 b news ns ST IT SE N2 I oI k bl0 n s'
inductive IV (w : World) (s : Shared) (Gd : Heap → Prop) (L1 : Addr) (b : Str → Option Value) (news : List (Addr × Obj)) (ns : List Nde) (ST IT SE N2 I : Addr) (oI : Obj) (k : Int) (bl0 : List Int) (N : Nat) (n : Nat) (s' : Shared) : Prop
  | mk (g) (h) (tk) (m') (nw) (fr) (bl) (v) (tv) (h99 : s' = { s with heap := h, toks := tk }) (h910 : Gd g) (h911 : Fr g L1 h m') (h912 : News g L1 h nw) (h913 : ∀ y, y ≠ Str.ofString "node" → m' y = b y) (h914 : m' (Str.ofString "node") = some (.int v tv)) (h915 : StW w news nw ns ST IT SE N2 I oI fr bl) (h916 : Inner (gSu (plG ns)) bl (fr.map Fra.kj)) (h917 : rootIn k fr bl) (h918 : ∀ x ∈ bl0, x ∈ bl) (h919 : N = leftAll (gSu (plG ns)) (ns.map (·.k)) (fr.map Fra.kj) bl) (h920 : n = fr.length) : IV w s Gd L1 b news ns ST IT SE N2 I oI k bl0 N n s'
theorem n2_some {fr : List Fra} {kvs : List (Int × Value)} {v : Int} (h : N2Ok fr kvs) (hv : v ∈ fr.map (·.n.k)) : (valueAt kvs v).isSome = true := by
  have : v ∈ fr.reverse.map (·.n.k) := by rw [List.map_reverse]; exact List.mem_reverse.mpr hv
  obtain ⟨f, hf, rfl⟩ := List.mem_map.mp this
  obtain ⟨i, hi⟩ := List.getElem?_of_mem hf
  obtain ⟨t, e⟩ := h.2 i f hi
  rw [e]; rfl
theorem n2_none {fr : List Fra} {kvs : List (Int × Value)} {v : Int} (h : N2Ok fr kvs) (hv : v ∉ fr.map (·.n.k)) : (valueAt kvs v).isSome = false := by
  unfold valueAt
  rw [Option.isSome_map]
  cases hf : kvs.find? (fun x => x.1 == v) with
  | none => simp [hf]
  | some p =>
    exfalso
    have h1 : p.1 ∈ kvs.map (·.1) := List.mem_map.mpr ⟨p, List.mem_of_find?_eq_some hf, rfl⟩
    rw [h.1, List.map_reverse, List.mem_reverse] at h1
    have : p.1 = v := by simpa using List.find?_some hf
    exact hv (this ▸ h1)
theorem n2_at {fr : List Fra} {kvs : List (Int × Value)} {v : Int} (h : N2Ok fr kvs) (hv : v ∈ fr.map (·.n.k)) : ∃ (i : Nat) (t : Tok), i < fr.length ∧ valueAt kvs v = some (.int i t) := by
  have : v ∈ fr.reverse.map (·.n.k) := by rw [List.map_reverse]; exact List.mem_reverse.mpr hv
  obtain ⟨f, hf, rfl⟩ := List.mem_map.mp this
  obtain ⟨i, hi⟩ := List.getElem?_of_mem hf
  obtain ⟨t, e⟩ := h.2 i f hi
  exact ⟨i, t, by have := (List.getElem?_eq_some_iff.mp hi).1; simpa using this, e⟩
theorem key_mem {ns : List Nde} {i : Nat} {k : Int} {x0 : Value} (hk : (ns.map fun n => (n.k, Value.ref n.N))[i]? = some (k, x0)) : k ∈ ns.map (·.k) := by
  obtain ⟨n, hn, e⟩ := List.mem_map.mp (List.mem_of_getElem? hk)
  exact List.mem_map.mpr ⟨n, hn, (Prod.mk.inj e).1⟩
theorem take_all {ns : List Nde} {i : Nat} {k : Int} {x0 : Value} {bl : List Int} (hall : ∀ k ∈ (ns.map (·.k)).take i, k ∈ bl) (hk : (ns.map fun n => (n.k, Value.ref n.N))[i]? = some (k, x0)) (hin : k ∈ bl) : ∀ k ∈ (ns.map (·.k)).take (i + 1), k ∈ bl := by
  have e : (ns.map (·.k))[i]? = some k := by
    rw [List.getElem?_map] at hk ⊢
    obtain ⟨n, hn, e⟩ := Option.map_eq_some_iff.mp hk
    rw [hn]; exact congrArg some (Prod.mk.inj e).1
  rw [take_snoc e]
  intro x hx
  rcases List.mem_append.mp hx with hx | hx
  · exact hall x hx
  · rw [List.mem_singleton.mp hx]; exact hin
theorem absR {α : Type} {M : Model} {A : Around} {t : Sem α} {b : List Stmt} {env : Env} {Q : Flow → Shared → Prop} {E : Value → Shared → Prop} {s : Shared}
    (h : ∀ (Q' : Flow → Shared → Prop), (∀ f s, Q f s → Q' f s) → wpAny M A t (fun _ s₂ => wpAny M A (execs b env) Q' E s₂) E s) : wpAny M A t (fun _ s₂ => wpAny M A (execs b env) Q E s₂) E s := h Q fun _ _ h => h
theorem absW {M : Model} {A : Around} {t : Sem Bool} {b o : List Stmt} {env : Env} {Q Qo : Flow → Shared → Prop} {E : Value → Shared → Prop} {s : Shared}
    (h : ∀ (Q' Qo' : Flow → Shared → Prop), (∀ f s, Q f s → Q' f s) → (∀ f s, Qo f s → Qo' f s) → wpAny M A t (fun c s₂ => if c then wpAny M A (execs b env) Q' E s₂ else wpAny M A (execs o env) Qo' E s₂) E s) :
    wpAny M A t (fun c s₂ => if c then wpAny M A (execs b env) Q E s₂ else wpAny M A (execs o env) Qo E s₂) E s := h Q Qo (fun _ _ h => h) fun _ _ h => h
theorem len_le {A B : List Int} (hn : A.Nodup) (h : ∀ x ∈ A, x ∈ B) : A.length ≤ B.length := by
  induction A generalizing B with
  | nil => exact Nat.zero_le _
  | cons a r ih =>
    have hc := List.nodup_cons.mp hn
    have ha : a ∈ B := h a (.head _)
    have := ih (B := B.erase a) hc.2 fun x hx => (List.mem_erase_of_ne fun e => hc.1 (by rw [← e]; exact hx)).mpr (h x (.tail _ hx))
    rw [List.length_erase_of_mem ha] at this
    have := List.length_pos_of_mem ha
    rw [List.length_cons]; omega
theorem StW.small {w : World} {news nw : List (Addr × Obj)} {ns : List Nde} {ST IT SE N2 I : Addr} {oI : Obj} {fr : List Fra} {bl : List Int} (St : StW w news nw ns ST IT SE N2 I oI fr bl) (hr : ns.length ≤ 100) : bl.length + fr.length ≤ 100 := by
  have := len_le St.nodup (B := ns.map (·.k)) fun x hx => by
    rcases List.mem_append.mp hx with hx | hx
    · exact St.keys x hx
    · obtain ⟨f, hf, rfl⟩ := List.mem_map.mp hx
      exact List.mem_map.mpr ⟨_, St.nodes f hf, rfl⟩
  rw [List.length_append, List.length_map, List.length_map] at this
  omega
theorem stw_zero {w : World} {news nw : List (Addr × Obj)} {ns : List Nde} {ST IT SE N2 I : Addr} {oI oSE oN2 : Obj} {c1 c2 : Nat} {bl : List Int} (O : Own news nw ((I, oI) :: [(N2, oN2), (SE, oSE), (IT, W.listOf #[] c2), (ST, W.listOf #[] c1)]))
    (hse : oSE.SetObjOf (intKind PySem.Challenge.pw_nq0248_01 w) (fun k => decide (k ∈ bl)) bl.length) (hn2 : oN2.IsDictOf (intKind PySem.Challenge.pw_nq0248_01 w) []) (hc : Closed (gSu (plG ns)) bl) (hnd : bl.Nodup) (hbk : ∀ k ∈ bl, k ∈ ns.map (·.k)) :
    StW w news nw ns ST IT SE N2 I oI [] bl where
  ex := by
    refine ⟨oSE, c1, c2, oN2, #[], [], bl.length, O.perm ?_, .nil, hn2, ⟨rfl, fun i f h => ?_⟩, ?_, rfl⟩
    · exact (List.perm_append_comm (l₁ := [(N2, oN2), (SE, oSE), (IT, W.listOf #[] c2), (ST, W.listOf #[] c1)]) (l₂ := [(I, oI)]))
    · simp at h
    · simpa using hse
  closed := hc
  nodup := by simpa using hnd
  keys := hbk
  nodes := fun f hf => by cases hf
theorem val_app {kvs : List (Int × Value)} {k x : Int} {v : Value} (h : x ≠ k) : valueAt (kvs ++ [(k, v)]) x = valueAt kvs x := by
  unfold valueAt
  rw [List.find?_append]
  cases hf : kvs.find? (fun kv => decide (kv.1 = x)) with
  | some p => simp [hf]
  | none => simp [hf, Ne.symm h]
theorem val_new {kvs : List (Int × Value)} {k : Int} {v : Value} (h : k ∉ kvs.map (·.1)) : valueAt (kvs ++ [(k, v)]) k = some v := by
  unfold valueAt
  rw [List.find?_append, List.find?_eq_none.mpr fun p hp => by simpa using fun e => h (List.mem_map.mpr ⟨p, hp, e⟩)]
  simp
theorem n2_push {fr : List Fra} {kvs : List (Int × Value)} (h : N2Ok fr kvs) (f : Fra) (hf : f.n.k ∉ fr.map (·.n.k)) {i : Int} (hi : i = (fr.length : Int)) (t : Tok) : N2Ok (f :: fr) (stored kvs f.n.k (.int i t)) := by
  subst hi
  have hk : f.n.k ∉ kvs.map (·.1) := by rw [h.1, List.map_reverse]; simpa using hf
  have hn : valueAt kvs f.n.k = none := by
    have := n2_none h hf
    cases hv : valueAt kvs f.n.k with
    | none => rfl
    | some v => rw [hv] at this; cases this
  rw [stored_absent hn]
  refine ⟨by rw [List.map_append, h.1]; simp, fun i g hg => ?_⟩
  rw [List.reverse_cons] at hg
  rcases Nat.lt_or_ge i fr.reverse.length with hi | hi
  · rw [List.getElem?_append_left hi] at hg
    obtain ⟨t', e⟩ := h.2 i g hg
    refine ⟨t', ?_⟩
    rw [val_app (fun e' => hf ?_)]
    · exact e
    · rw [← e']; exact List.mem_map.mpr ⟨g, List.mem_reverse.mp (List.mem_of_getElem? hg), rfl⟩
  · rw [List.getElem?_append_right hi] at hg
    have h0 : i - fr.reverse.length = 0 := by
      rcases Nat.eq_zero_or_pos (i - fr.reverse.length) with z | z
      · exact z
      · rw [List.getElem?_eq_none (by rw [List.length_singleton]; exact z)] at hg; cases hg
    rw [h0] at hg
    cases hg
    have : i = fr.length := by rw [List.length_reverse] at hi h0; omega
    subst this
    exact ⟨t, val_new hk⟩
theorem n2_pop {fr : List Fra} {kvs : List (Int × Value)} {f : Fra} (h : N2Ok (f :: fr) kvs) (hn : ((f :: fr).map (·.n.k)).Nodup) : N2Ok fr (without kvs f.n.k) := by
  have hc := List.nodup_cons.mp hn
  refine ⟨?_, fun i g hg => ?_⟩
  · have e : (without kvs f.n.k).map (·.1) = (kvs.map (·.1)).filter fun x => decide (x ≠ f.n.k) := by
      unfold without
      rw [List.filter_map]; rfl
    rw [e, h.1, List.reverse_cons, List.map_append, List.filter_append]
    have e1 : (fr.reverse.map (·.n.k)).filter (fun x => decide (x ≠ f.n.k)) = fr.reverse.map (·.n.k) := by
      refine List.filter_eq_self.mpr fun x hx => ?_
      have : x ∈ fr.map (·.n.k) := by rw [List.map_reverse] at hx; exact List.mem_reverse.mp hx
      exact decide_eq_true fun e => hc.1 (by show f.n.k ∈ _; rw [← e]; exact this)
    rw [e1]
    simp
  · have hgm : g ∈ fr := List.mem_reverse.mp (List.mem_of_getElem? hg)
    have hne : g.n.k ≠ f.n.k := fun e => hc.1 (by show f.n.k ∈ _; rw [← e]; exact List.mem_map.mpr ⟨g, hgm, rfl⟩)
    obtain ⟨t, e⟩ := h.2 i g (by rw [List.reverse_cons, List.getElem?_append_left (List.getElem?_eq_some_iff.mp hg).1]; exact hg)
    refine ⟨t, ?_⟩
    rw [← e]
    unfold valueAt without
    rw [List.find?_filter]
    congr 2
    funext p
    by_cases hp : p.1 = g.n.k
    · simp [hp, hne]
    · simp [hp]
theorem fraL_cons {f : Fra} {fr : List Fra} : fraL (f :: fr) = (f.It, itO f.n.Ls f.j) :: (f.W, wrO f.It) :: fraL fr := rfl
theorem setObj_congr {prog : Program} {w : World} {o : Obj} {S S' : Int → Bool} {n n' : Nat} (h : o.SetObjOf (intKind prog w) S n) (e : ∀ k, S k = S' k) (en : n = n') : o.SetObjOf (intKind prog w) S' n' := by
  obtain rfl : S = S' := funext e
  subst en
  exact h
theorem stw_push {w : World} {news nw nw' : List (Addr × Obj)} {ns : List Nde} {ST IT SE N2 I Wr It : Addr} {oI oSE oN2 : Obj} {fr : List Fra} {bl : List Int} {nv : Nde} {us : List Value} {kvs : List (Int × Value)} {c1 c2 cnt : Nat} {tv t : Tok}
    (St : StW w news nw ns ST IT SE N2 I oI fr bl)
    (O : Own news nw' ((Wr, wrO It) :: (It, itO nv.Ls 0) :: (N2, oN2) :: (SE, oSE) :: (IT, W.listOf ((fr.reverse.map fun f => Value.ref f.W).toArray.push (.ref Wr)) c2) :: (ST, W.listOf (us.toArray.push (.int nv.k tv)) c1) :: (I, oI) :: fraL fr))
    (hvs : IntsAre us (fr.reverse.map (·.n.k))) {i : Int} (hlen : i = (fr.length : Int)) (hd : oN2.IsDictOf (intKind PySem.Challenge.pw_nq0248_01 w) (stored kvs nv.k (.int i t))) (hok : N2Ok fr kvs)
    (hse : oSE.SetObjOf (intKind PySem.Challenge.pw_nq0248_01 w) (fun k' => decide (k' ∈ bl ∨ k' ∈ fr.map (·.n.k)) || decide (k' = nv.k)) cnt) (hcnt : cnt = bl.length + fr.length + 1) (hnew : ¬(nv.k ∈ bl ∨ nv.k ∈ fr.map (·.n.k))) (hnv : nv ∈ ns) :
    StW w news nw' ns ST IT SE N2 I oI (⟨Wr, It, nv, 0⟩ :: fr) bl where
  ex := by
    refine ⟨oSE, c1, c2, oN2, us.toArray.push (.int nv.k tv), _, cnt, O.perm ?_, ?_, hd, n2_push hok ⟨Wr, It, nv, 0⟩ (fun h => hnew (.inr h)) hlen t, setObj_congr hse ?_ rfl, by rw [hcnt, List.length_cons]; omega⟩
    · rw [fraL_cons, List.reverse_cons, List.map_append]
      show List.Perm ((N2, oN2) :: (SE, oSE) :: (IT, W.listOf (List.map (fun f => Value.ref f.W) fr.reverse ++ [Value.ref Wr]).toArray c2) :: (ST, _) :: (I, oI) :: (It, itO nv.Ls 0) :: (Wr, wrO It) :: fraL fr) _
      rw [show (List.map (fun f => Value.ref f.W) fr.reverse ++ [Value.ref Wr]).toArray = (List.map (fun f => Value.ref f.W) fr.reverse).toArray.push (Value.ref Wr) by simp]
      exact List.perm_append_comm (l₁ := [(N2, oN2), (SE, oSE), _, (ST, _), (I, oI)]) (l₂ := [(It, itO nv.Ls 0), (Wr, wrO It)]) |>.append_right _ |>.trans (List.Perm.swap _ _ _)
    · rw [Array.toList_push, List.reverse_cons, List.map_append]
      exact ints_snoc hvs _ _
    · intro k
      rw [List.map_cons, Bool.eq_iff_iff]
      simp only [Bool.or_eq_true, decide_eq_true_eq, List.mem_cons]
      constructor
      · rintro ((h | h) | h)
        · exact .inl h
        · exact .inr (.inr h)
        · exact .inr (.inl h)
      · rintro (h | h | h)
        · exact .inl (.inl h)
        · exact .inr h
        · exact .inl (.inr h)
  closed := St.closed
  nodup := by
    have h := List.nodup_append.mp St.nodup
    rw [List.map_cons]
    refine List.nodup_append.mpr ⟨h.1, List.nodup_cons.mpr ⟨fun e => hnew (.inr e), h.2.1⟩, fun a ha b hb e => ?_⟩
    rcases List.mem_cons.mp hb with rfl | hb
    · exact hnew (.inl (e ▸ ha))
    · exact h.2.2 a ha b hb e
  keys := St.keys
  nodes := fun f hf => by
    rcases List.mem_cons.mp hf with rfl | hf
    · exact hnv
    · exact St.nodes f hf
theorem root_in {k v : Int} {fr : List Fra} {bl : List Int} (h : rootOk k fr v) (hv : fr = [] → k ∈ bl) : rootIn k fr bl := by
  unfold rootOk at h; unfold rootIn
  cases fr with
  | nil => exact hv rfl
  | cons f r => rw [List.getLast?_cons] at h ⊢; exact h
theorem inner_of {su : Int → List Int} {bl : List Int} {fr : List Fra} {k v : Int} (hp : Path su bl (fr.map Fra.kj) v) (h0 : fr = [] → v ∉ bl) (hv : v ∈ bl) (hr : rootOk k fr v) : Inner su bl (fr.map Fra.kj) ∧ rootIn k fr bl := by
  cases fr with
  | nil => exact absurd hv (h0 rfl)
  | cons f r => exact ⟨inner_seen hp hv, root_in hr fun e => by cases e⟩
theorem root_push {k : Int} {fr : List Fra} {f : Fra} {bl : List Int} (h : rootOk k fr f.n.k) : rootIn k (f :: fr) bl := by
  unfold rootOk at h; unfold rootIn
  cases fr with
  | nil => exact h
  | cons g r => rw [List.getLast?_cons] at h; rw [List.getLast?_cons_cons, List.getLast?_cons]; exact h
theorem in_stk {fr : List Fra} {v : Int} (h : v ∈ fr.map (·.n.k)) : v ∈ (fr.map Fra.kj).map (·.1) := by rw [List.map_map]; exact h
theorem stw_pop {w : World} {news nw nw' : List (Addr × Obj)} {ns : List Nde} {ST IT SE N2 I : Addr} {oI oSE oN2 : Obj} {fr : List Fra} {f : Fra} {bl : List Int} {us : List Value} {kvs : List (Int × Value)} {c1 c2 cnt : Nat} {its : Array Value}
    (St : StW w news nw ns ST IT SE N2 I oI (f :: fr) bl)
    (O : Own news nw' ((N2, oN2) :: (SE, oSE) :: (IT, W.listOf its c2) :: (ST, W.listOf us.toArray c1) :: (I, oI) :: fraL fr)) (hits : its = (fr.reverse.map fun f => Value.ref f.W).toArray)
    (hvs : IntsAre us (fr.reverse.map (·.n.k))) (hd : oN2.IsDictOf (intKind PySem.Challenge.pw_nq0248_01 w) (without kvs f.n.k)) (hok : N2Ok (f :: fr) kvs)
    (hse : oSE.SetObjOf (intKind PySem.Challenge.pw_nq0248_01 w) (fun k => decide (k ∈ bl ∨ k ∈ (f :: fr).map (·.n.k))) cnt) (hcnt : cnt = bl.length + (f :: fr).length)
    (hin : Inner (gSu (plG ns)) bl ((f :: fr).map Fra.kj)) (hend : (gSu (plG ns) f.n.k)[f.j]? = none) :
    StW w news nw' ns ST IT SE N2 I oI fr (bl ++ [f.n.k]) where
  ex := by
    subst hits
    have hnd := (List.nodup_append.mp St.nodup).2.1
    refine ⟨oSE, c1, c2, oN2, us.toArray, _, cnt, O, hvs, hd, n2_pop hok hnd, setObj_congr hse (fun k => ?_) rfl, by rw [hcnt, List.length_append, List.length_cons, List.length_singleton]; omega⟩
    rw [List.map_cons, Bool.eq_iff_iff]
    simp only [decide_eq_true_eq, List.mem_cons, List.mem_append, List.mem_singleton, List.not_mem_nil, or_false]
    constructor
    · rintro (h | h | h)
      · exact .inl (.inl h)
      · exact .inl (.inr h)
      · exact .inr h
    · rintro ((h | h) | h)
      · exact .inl h
      · exact .inr (.inl h)
      · exact .inr (.inr h)
  closed := closed_pop St.closed hin hend
  nodup := by
    have := St.nodup
    rw [List.map_cons] at this
    rw [List.append_assoc]; exact this
  keys := fun k hk => by
    rcases List.mem_append.mp hk with hk | hk
    · exact St.keys k hk
    · rw [List.mem_singleton.mp hk]; exact List.mem_map.mpr ⟨f.n, St.nodes f (.head _), rfl⟩
  nodes := fun g hg => St.nodes g (.tail _ hg)
theorem root_pop {k : Int} {f : Fra} {fr : List Fra} {bl : List Int} (h : rootIn k (f :: fr) bl) : rootIn k fr (bl ++ [f.n.k]) := by
  unfold rootIn at h ⊢
  cases fr with
  | nil => exact List.mem_append_right _ (by rw [← show f.n.k = k from h]; exact .head _)
  | cons g r => rw [List.getLast?_cons_cons, List.getLast?_cons] at h; rw [List.getLast?_cons]; exact h
theorem ints_at {vs : List Value} {ns : List Int} (h : IntsAre vs ns) {i : Nat} {k : Int} (e : ns[i]? = some k) : ∃ t, vs[i]? = some (.int k t) := by
  induction h generalizing i with
  | nil => cases e
  | cons n t _ ih =>
    cases i with
    | zero => cases e; exact ⟨t, rfl⟩
    | succ i => exact ih e
theorem top_last {f : Fra} {r : List Fra} : ((f :: r).reverse.map fun f => Value.ref f.W)[((f :: r).reverse.map fun f => Value.ref f.W).length - 1]? = some (.ref f.W) := by
  rw [List.reverse_cons, List.map_append, List.length_append]
  simp
theorem top_place {f : Fra} {r : List Fra} : seqIndex? (-1) ((f :: r).reverse.map fun f => Value.ref f.W).length = some (((f :: r).reverse.map fun f => Value.ref f.W).length - 1) := by
  refine seqIndex?_neg_one ?_
  simp
theorem isEmpty_cons {us : List Value} {f : Fra} {r : List Fra} (h : us.length = (f :: r).length) : us.toArray.isEmpty = false := by
  cases us with
  | nil => cases h
  | cons a t => rfl
theorem last_snoc {y : Value} : ∀ {p : List Value}, kl_last (p ++ [y]) = some (p, y)
  | [] => rfl
  | [_] => rfl
  | a :: b :: r => by
    have := last_snoc (y := y) (p := b :: r)
    rw [List.cons_append] at this ⊢
    rw [List.cons_append]
    unfold kl_last
    rw [this]
theorem top_split {f : Fra} {r : List Fra} : kl_last (((f :: r).reverse.map fun f => Value.ref f.W).toArray.toList) = some (r.reverse.map fun f => Value.ref f.W, .ref f.W) := by
  rw [List.reverse_cons, List.map_append]
  exact last_snoc
theorem stw_take {w : World} {news nw nw' : List (Addr × Obj)} {ns : List Nde} {ST IT SE N2 I : Addr} {oI oSE oN2 : Obj} {fr : List Fra} {f : Fra} {bl : List Int} {vs : Array Value} {kvs : List (Int × Value)} {c1 c2 cnt : Nat}
    (St : StW w news nw ns ST IT SE N2 I oI (f :: fr) bl)
    (O : Own news nw' ((N2, oN2) :: (SE, oSE) :: (IT, W.listOf ((f :: fr).reverse.map fun f => Value.ref f.W).toArray c2) :: (ST, W.listOf vs c1) :: (I, oI) :: (f.It, itO f.n.Ls (f.j + 1)) :: (f.W, wrO f.It) :: fraL fr))
    (hvs : IntsAre vs.toList ((f :: fr).reverse.map (·.n.k))) (hd : oN2.IsDictOf (intKind PySem.Challenge.pw_nq0248_01 w) kvs) (hok : N2Ok (f :: fr) kvs)
    (hse : oSE.SetObjOf (intKind PySem.Challenge.pw_nq0248_01 w) (fun k => decide (k ∈ bl ∨ k ∈ (f :: fr).map (·.n.k))) cnt) (hcnt : cnt = bl.length + (f :: fr).length) :
    StW w news nw' ns ST IT SE N2 I oI ({ f with j := f.j + 1 } :: fr) bl where
  ex := by
    refine ⟨oSE, c1, c2, oN2, vs, kvs, cnt, ?_, ?_, hd, ⟨?_, fun i g hg => ?_⟩, hse, hcnt⟩
    · simpa [fraL_cons] using O
    · simpa using hvs
    · simpa using hok.1
    · rw [List.reverse_cons] at hg
      have h2 := hok.2 i
      rw [List.reverse_cons] at h2
      rcases Nat.lt_or_ge i fr.reverse.length with hi | hi
      · rw [List.getElem?_append_left hi] at hg h2; exact h2 g hg
      · rw [List.getElem?_append_right hi] at hg h2
        have h0 : i - fr.reverse.length = 0 := by
          rcases Nat.eq_zero_or_pos (i - fr.reverse.length) with z | z
          · exact z
          · rw [List.getElem?_eq_none (by rw [List.length_singleton]; exact z)] at hg; cases hg
        rw [h0] at hg h2
        cases hg
        exact h2 f rfl
  closed := St.closed
  nodup := St.nodup
  keys := St.keys
  nodes := fun g hg => by
    rcases List.mem_cons.mp hg with rfl | hg
    · exact St.nodes f (.head _)
    · exact St.nodes g (.tail _ hg)
theorem root_take {k v : Int} {f : Fra} {fr : List Fra} {bl : List Int} (h : rootIn k (f :: fr) bl) : rootOk k ({ f with j := f.j + 1 } :: fr) v := by
  unfold rootIn at h; unfold rootOk
  cases fr with
  | nil => exact h
  | cons g r => rw [List.getLast?_cons_cons] at h ⊢; rw [List.getLast?_cons] at h ⊢; exact h
end
section
theorem cycle_spec {w : World} {dp un : Nat} {gd : Option (List Code)} {cn : Str} {cs : Scope} {a : Addr} {ccd : Value} {cl : List (Str × Addr)} {outer : List Env} {A₀ : Around} {base h₀ : Heap} {L : Addr} {m : Str → Option Value} {news : List (Addr × Obj)} {s : Shared} {p : Program} {loose : List Str} {mean : ExcName → Option Value} {mg mb : Str → Option Value}
    {Q E : Value → Shared → Prop} (B : Below A₀ base outer h₀) (F : Fr h₀ L s.heap m) (X : (Mine.K w.params).In h₀) (N : News h₀ L s.heap news) (T : Top p loose mean mg mb h₀) (hk : cs.kind = .function) (hd : dp + 20 < recursionLimit) (hu : un + 160 < cLine) (XB : (Mine.K w.params).In base) (TB : Top p loose mean mg mb base) (D : KtsDicts (outer.filterMap (·.frame)) h₀)
    {S dS G : Addr} {rv : Value} {po nf : Int} {ns : List Nde} {oth : List (Addr × Obj)} (Sr : Srt w news S dS G rv po nf ns oth) (hcl : ∀ n ∈ ns, ∀ j ∈ n.succ, ∃ x ∈ ns, x.k = j) (hsu : ∀ n ∈ ns, n.succ.length ≤ 1000)
    (hnone : (∀ n ∈ ns, ¬ Rch (gSu (plG ns)) n.k n.k) → ∀ h₀' h' tk', KtsTurn (outer.filterMap (·.frame)) h₀ h₀' → Below A₀ base outer h₀' → (Mine.K w.params).In h₀' → Top p loose mean mg mb h₀' → KtsDicts (outer.filterMap (·.frame)) h₀' → Fr h₀' L h' m → News h₀' L h' news → Q .none { s with heap := h', toks := tk' })
    (hring : ∀ v, Rch (gSu (plG ns)) v v → ∀ T us c h₀' h' tk', us.size ≠ 0 → us.size ≤ 1000 → KtsTurn (outer.filterMap (·.frame)) h₀ h₀' → Below A₀ base outer h₀' → (Mine.K w.params).In h₀' → Top p loose mean mg mb h₀' → KtsDicts (outer.filterMap (·.frame)) h₀' → Fr h₀' L h' m → News h₀' L h' ((T, W.listOf us c) :: news) → (∀ p ∈ news, p.1 ≠ T) → Q (.ref T) { s with heap := h', toks := tk' }) :
    wpAny (model PySem.Challenge.pw_nq0248_01 w) (ktrTop dp un gd cn cs L a ccd cl outer) (call (.ref 181) [.ref S]) Q E s := by
  have hfill : (fun (_ : OpenLaw) (_ : Params → Frag) => True) PySem.Challenge.rw_nq0248_01 Mine.K := by k_fill; trivial
  clear hfill
  refine wpAny_call ?_
  k_dflt ((refine' code_S ?k1 ?k2 ?k3 ?k4 ?k5 ?XB ?TB ?D ?T0 ?kA ?kF ?kK ?k6 ?k7 ?k8 ?k9 ?kB ?_ ?c2 ?c3 ?c4 ?c5; (case kA | kF => exact rfl); (case kK | k1 | k2 | k3 | k4 | k5 | XB | TB | D => assumption); (case T0 => exact KtsTurn.refl); (case k6 | k7 => k_is); (case k8 => ktr_room); (case k9 => exact BindsTo.of_eq rfl); (case c5 => decide); (case kB => exact locs rfl); (case c2 | c3 | c4 => exact rfl); k_whole; intro _ _ _ _ _ _ _ _ _ _; (try dsimp only)))
  rename Fr _ _ _ _ => F1
  rename_i g1 L1 h1 FG N1 B1 X1 T1 D1
  replace F1 : Fr g1 L1 h1 (fun y => List.lookup y [(Str.ofString "self", Value.ref S)]) := F1
  with_reducible refine gen_toks fun tk0 => ?_
  try dsimp only
  have hS := Sr.inst
  refine absQ fun Q1 hQ1 => ?_
  (with_reducible refine (?_ : let G9 : Prop := _; G9)); intro G9
  obtain ⟨q1, q2, q3, q4, t1, t2, t3, t4, t5, t6, hdS⟩ := Sr.dict
  k_unfold; clear G9
  with_reducible refine (?_ : let A1 := _; wpAny _ A1 _ _ _ _)
  intro A1
  (repeat' (first | (((fail_if_success (fail_if_success k_unfold)); first | (with_reducible refine (?_ : wpAny _ _ _ _ _ _)) | k_unfold); try dsimp only) | ((fail_if_success (fail_if_success (with_reducible refine ex1 (by constructor) ?_))); (fail_if_success (fail_if_success k_fold)); (with_reducible refine (?_ : let qk := _; let ek := _; wpAny _ _ _ qk ek _)); intro qk ek) | ((fail_if_success (with_reducible first | ((fail_if_success (refine go1 (by constructor) ?_)); refine st1 (by constructor) ?_) | show Exists _)); walk1; try dsimp only)))
  rename_i ST _ lST _ _ _ _ IT _ lIT _ _ _ _ SE _ led hset _ lSE _ _ _ _ N2 _ oN2 lo _ _ hdict _ lN2 _ _ _
  refine wpAny_For ?_
  (repeat' (first | (((fail_if_success (fail_if_success k_unfold)); first | (with_reducible refine (?_ : wpAny _ _ _ _ _ _)) | k_unfold); try dsimp only) | ((fail_if_success (fail_if_success (with_reducible refine ex1 (by constructor) ?_))); (fail_if_success (fail_if_success k_fold)); (with_reducible refine (?_ : let qk := _; let ek := _; wpAny _ _ _ qk ek _)); intro qk ek) | ((fail_if_success (with_reducible first | ((fail_if_success (refine go1 (by constructor) ?_)); refine st1 (by constructor) ?_) | show Exists _)); walk1; try dsimp only)))
  rename Fr g1 L1 _ _ => F3
  rename News g1 L1 _ _ => N3
  (with_reducible refine (?_ : let G9 : Prop := _; G9)); intro G9
  obtain ⟨oG, hG, hGd⟩ := Sr.map.ex
  k_unfold; clear G9
  refine forJ_keysS (Gd := GdS w (ktrTop dp un gd cn cs L a ccd cl outer) base (envX cn cs L a ccd cl :: outer) p loose mean mg mb g1) (oG := oG) (kvs := ns.map fun n => (n.k, .ref n.N)) rfl ⟨KtsTurn.refl, B1, X1, T1, D1⟩ F3 N3 (.tail _ (.tail _ (.tail _ (.tail _ hG)))) hGd Sr.map.sys (JFC w news ns ST IT SE N2 (fun y => if y = Str.ofString "node2stacki" then some (Value.ref N2) else if y = Str.ofString "seen" then some (Value.ref SE) else if y = Str.ofString "itstack" then some (Value.ref IT) else if y = Str.ofString "stack" then some (Value.ref ST) else if y = Str.ofString "n2i" then some (Value.ref G) else List.lookup y [(Str.ofString "self", Value.ref S)])) ?_ ?_ ?_ ?_
  · intro i m' nw pt93
    (with_reducible refine (?_ : let G9 : Prop := _; G9)); intro G9
    obtain ⟨_, bl, _, _, _, _, O, _⟩ := pt93
    k_unfold; clear G9
    exact O.keep _ hG
  · have O4 := own_four (o1 := W.listOf #[] 0) (o2 := W.listOf #[] 0) (o3 := { cls := .type "set", data := .set #[] 0 (SetTable.fresh 0 0 led) }) (o4 := oN2) Sr.nd lST lIT lSE lN2
    refine ⟨fun y _ => rfl, [], _, 0, 0, oN2, O4, ?_, hdict, ?_, List.nodup_nil, nofun, nofun⟩
    · simpa using hset
    · intro i k e; simp at e
  · intro i k x0 t g m₁ news₁ I oI h₁ tk₁ hi hk pt913 pt914 hw F₁ N₁
    (with_reducible refine (?_ : let G9 : Prop := _; G9)); intro G9
    obtain ⟨gT, gB, gX, gP, gD⟩ := pt913
    obtain ⟨hm, bl, oSE, c1, c2, oN2', O, hse, hn2, hc, hnd, hbk, hall⟩ := pt914
    k_unfold; clear G9
    refine absR fun Q2 hQ2 => ?_
    (with_reducible refine (?_ : let G9 : Prop := _; G9)); intro G9
    obtain ⟨u1, rfl⟩ := canon1 hm
    k_unfold; clear G9
    clear hm
    have O' := Own.cons (p := (I, oI)) O hw
    generalize hnw9 : (I, oI) :: news₁ = news2 at O' N₁
    have hSE := O'.here (SE, oSE) (.tail _ (.tail _ (.head _)))
    have hN2 := O'.here (N2, oN2') (.tail _ (.head _))
    have hbl : bl.length < 1000 := by
      have := len_le hnd hbk
      rw [List.length_map] at this
      exact Nat.lt_of_le_of_lt (Nat.le_trans this Sr.room) (by decide)
    (repeat' (first | (((fail_if_success (fail_if_success k_unfold)); first | (with_reducible refine (?_ : wpAny _ _ _ _ _ _)) | k_unfold); try dsimp only) | ((fail_if_success (fail_if_success (with_reducible refine ex1 (by constructor) ?_))); (fail_if_success (fail_if_success k_fold)); (with_reducible refine (?_ : let qk := _; let ek := _; wpAny _ _ _ qk ek _)); intro qk ek) | ((fail_if_success (with_reducible first | ((fail_if_success (refine go1 (by constructor) ?_)); refine st1 (by constructor) ?_) | show Exists _)); walk1; try dsimp only)))
    rename Fr g L1 _ _ => F4
    rename News g L1 _ _ => N4
    refine kse_in (knd := intKind _ w) N4 (updF_setN O'.nd hSE) hse (Nat.lt_trans hbl (by decide)) (k := k) (intKind_is _ _ _ _) rfl ?_
    by_cases hin : k ∈ bl
    · rw [decide_eq_true hin]
      (repeat' (first | (((fail_if_success (fail_if_success k_unfold)); first | (with_reducible refine (?_ : wpAny _ _ _ _ _ _)) | k_unfold); try dsimp only) | ((fail_if_success (fail_if_success (with_reducible refine ex1 (by constructor) ?_))); (fail_if_success (fail_if_success k_fold)); (with_reducible refine (?_ : let qk := _; let ek := _; wpAny _ _ _ qk ek _)); intro qk ek) | ((fail_if_success (with_reducible first | ((fail_if_success (refine go1 (by constructor) ?_)); refine st1 (by constructor) ?_) | show Exists _)); walk1; try dsimp only)))
      refine hQ2 _ _ ⟨g, _, _, _, news₁, rfl, ⟨gT, gB, gX, gP, gD⟩, F4, by rw [hnw9]; exact N4, hw, fun y h1 => by simp only [h1, if_false], bl, oSE, c1, c2, oN2', O, hse, hn2, hc, hnd, hbk, ?_⟩
      exact take_all hall hk hin
    · rw [decide_eq_false hin]
      (repeat' (first | (((fail_if_success (fail_if_success k_unfold)); first | (with_reducible refine (?_ : wpAny _ _ _ _ _ _)) | k_unfold); try dsimp only) | ((fail_if_success (fail_if_success (with_reducible refine ex1 (by constructor) ?_))); (fail_if_success (fail_if_success k_fold)); (with_reducible refine (?_ : let qk := _; let ek := _; wpAny _ _ _ qk ek _)); intro qk ek) | ((fail_if_success (with_reducible first | ((fail_if_success (refine go1 (by constructor) ?_)); refine st1 (by constructor) ?_) | show Exists _)); walk1; try dsimp only)))
      have Z := stw_zero (ns := ns) O' hse hn2 hc hnd hbk
      have hkk : k ∈ ns.map (·.k) := key_mem hk
      refine wpAny_While ?_
      refine codeAny_whileLoop (IW w s (GdS w (ktrTop dp un gd cn cs L a ccd cl outer) base (envX cn cs L a ccd cl :: outer) p loose mean mg mb g1) L1 (fun y => if y = Str.ofString "node2stacki" then some (Value.ref N2) else if y = Str.ofString "seen" then some (Value.ref SE) else if y = Str.ofString "itstack" then some (Value.ref IT) else if y = Str.ofString "stack" then some (Value.ref ST) else if y = Str.ofString "n2i" then some (Value.ref G) else List.lookup y [(Str.ofString "self", Value.ref S)]) news ns ST IT SE N2 I oI k bl) ?_ _ ⟨g, _, _, _, news2, [], bl, k, t, rfl, ⟨gT, gB, gX, gP, gD⟩, F4, N4, fun y h1 => by simp only [h1, if_false], if_pos rfl, Z, trivial, hkk, fun _ => hin, rfl, fun x hx => hx, rfl⟩
      intro n s' pt92
      (with_reducible refine (?_ : let G9 : Prop := _; G9)); intro G9
      obtain ⟨g2, h2, tk2, m2, nw, fr, bl2, v, tv, rfl, ⟨gT2, gB2, gX2, gP2, gD2⟩, F5, N5, hm, hmn, St, hpath, hvk, hfr0, hroot, hsub, rfl⟩ := pt92
      k_unfold; clear G9
      refine absW fun Q3 Q3o hQ3 hQ3o => ?_
      (with_reducible refine (?_ : let G9 : Prop := _; G9)); intro G9
      obtain ⟨u, rfl⟩ := canon1 hm
      k_unfold; clear G9
      obtain rfl : u = some (.int v tv) := by simpa using hmn
      clear hm hmn
      (repeat' (first | (((fail_if_success (fail_if_success k_unfold)); first | (with_reducible refine (?_ : wpAny _ _ _ _ _ _)) | k_unfold); try dsimp only) | ((fail_if_success (fail_if_success (with_reducible refine ex1 (by constructor) ?_))); (fail_if_success (fail_if_success k_fold)); (with_reducible refine (?_ : let qk := _; let ek := _; wpAny _ _ _ qk ek _)); intro qk ek) | ((fail_if_success (with_reducible show wpAny _ _ (exec (PySem.Stmt.If _ _ _ _) _) _ _ _)); (fail_if_success (with_reducible show wpAny _ _ (exec (PySem.Stmt.Try _ _ _ _ _) _) _ _ _)); (fail_if_success (with_reducible first | ((fail_if_success (refine go1 (by constructor) ?_)); refine st1 (by constructor) ?_) | show Exists _)); walk1; try dsimp only)))
      refine cut_next (fun s₂ => ∃ n2, (IV w s (GdS w (ktrTop dp un gd cn cs L a ccd cl outer) base (envX cn cs L a ccd cl :: outer) p loose mean mg mb g1) L1 (fun y => if y = Str.ofString "node2stacki" then some (Value.ref N2) else if y = Str.ofString "seen" then some (Value.ref SE) else if y = Str.ofString "itstack" then some (Value.ref IT) else if y = Str.ofString "stack" then some (Value.ref ST) else if y = Str.ofString "n2i" then some (Value.ref G) else List.lookup y [(Str.ofString "self", Value.ref S)]) news ns ST IT SE N2 I oI k bl (leftAll (gSu (plG ns)) (ns.map (·.k)) (fr.map Fra.kj) bl2)) n2 s₂) ?_ ?_
      · (with_reducible refine (?_ : let G9 : Prop := _; G9)); intro G9
        obtain ⟨oSE2, d1, d2, oN22, vs, kvs, cnt, O2, hvs, hd2, hn2ok, hse2, hcnt⟩ := St.ex
        k_unfold; clear G9
        have hSE2 := O2.here (SE, oSE2) (.tail _ (.head _))
        have hN22 := O2.here (N2, oN22) (.head _)
        have hIT2 := O2.here _ (.tail _ (.tail _ (.head _)))
        have hST2 := O2.here _ (.tail _ (.tail _ (.tail _ (.head _))))
        (with_reducible refine (?_ : let G9 : Prop := _; G9)); intro G9
        obtain ⟨us, rfl⟩ : ∃ us, vs = List.toArray us := ⟨vs.toList, by simp⟩
        k_unfold; clear G9
        replace hvs : IntsAre us _ := hvs
        have hL9 := hvs.length
        rw [List.length_map, List.length_reverse] at hL9
        have hfl := St.small Sr.room
        have hfr9 : fr.length ≤ 100 := Nat.le_trans (Nat.le_add_left _ _) hfl
        have hct9 : cnt < 1000 := by rw [hcnt]; exact Nat.lt_of_le_of_lt hfl (by decide)
        have hus9 : us.toArray.size = fr.length := by rw [List.size_toArray]; exact hL9
        have husa : us.toArray.size ≤ 100 := by rw [hus9]; exact hfr9
        have husb : us.length ≤ 100 := by rw [hL9]; exact hfr9
        have husc : (us.toArray.size : Int) < 2 ^ 63 := n63 (Nat.le_trans husa (by decide))
        (repeat' (first | (((fail_if_success (fail_if_success k_unfold)); first | (with_reducible refine (?_ : wpAny _ _ _ _ _ _)) | k_unfold); try dsimp only) | ((fail_if_success (fail_if_success (with_reducible refine ex1 (by constructor) ?_))); (fail_if_success (fail_if_success k_fold)); (with_reducible refine (?_ : let qk := _; let ek := _; wpAny _ _ _ qk ek _)); intro qk ek) | ((fail_if_success (with_reducible first | ((fail_if_success (refine go1 (by constructor) ?_)); refine st1 (by constructor) ?_) | show Exists _)); walk1; try dsimp only)))
        rename Fr g2 L1 _ _ => F6
        rename News g2 L1 _ _ => N6
        refine kse_in (knd := intKind _ w) N6 (updF_setN O2.nd hSE2) hse2 (Nat.lt_trans hct9 (by decide)) (k := v) (intKind_is _ _ _ _) rfl ?_
        by_cases hin2 : v ∈ bl2 ∨ v ∈ fr.map (·.n.k)
        · rw [decide_eq_true hin2]
          (repeat' (first | (((fail_if_success (fail_if_success k_unfold)); first | (with_reducible refine (?_ : wpAny _ _ _ _ _ _)) | k_unfold); try dsimp only) | ((fail_if_success (fail_if_success (with_reducible refine ex1 (by constructor) ?_))); (fail_if_success (fail_if_success k_fold)); (with_reducible refine (?_ : let qk := _; let ek := _; wpAny _ _ _ qk ek _)); intro qk ek) | ((fail_if_success (with_reducible first | ((fail_if_success (refine go1 (by constructor) ?_)); refine st1 (by constructor) ?_) | show Exists _)); walk1; try dsimp only)))
          rename Fr g2 L1 _ _ => F7
          rename News g2 L1 _ _ => N7
          by_cases hstk : v ∈ fr.map (·.n.k)
          · refine kda_in (knd := intKind _ w) N7 hN22 hd2 lo (k := v) (intKind_is _ _ _ _) true (n2_some hn2ok hstk) ?_
            (repeat' (first | (((fail_if_success (fail_if_success k_unfold)); first | (with_reducible refine (?_ : wpAny _ _ _ _ _ _)) | k_unfold); try dsimp only) | ((fail_if_success (fail_if_success (with_reducible refine ex1 (by constructor) ?_))); (fail_if_success (fail_if_success k_fold)); (with_reducible refine (?_ : let qk := _; let ek := _; wpAny _ _ _ qk ek _)); intro qk ek) | ((fail_if_success (with_reducible show wpAny _ _ (subscriptTail _ _ _ _) _ _ _)); (fail_if_success (with_reducible first | ((fail_if_success (refine go1 (by constructor) ?_)); refine st1 (by constructor) ?_) | show Exists _)); walk1; try dsimp only)))
            rename Fr g2 L1 _ _ => F8
            rename News g2 L1 _ _ => N8
            (with_reducible refine (?_ : let G9 : Prop := _; G9)); intro G9
            obtain ⟨i9, t9, hi9, hv9⟩ := n2_at hn2ok hstk
            k_unfold; clear G9
            refine dg_item (kvs := kvs) (k := v) ⟨⟨_, hN22, hd2⟩, lo⟩ N8 hv9 ?_
            have hbn : us.toArray.size ≤ sizeLine := sz_le (Nat.le_trans husa (by decide))
            (repeat' (first | (((fail_if_success (fail_if_success k_unfold)); first | (with_reducible refine (?_ : wpAny _ _ _ _ _ _)) | k_unfold); try dsimp only) | ((fail_if_success (fail_if_success (with_reducible refine ex1 (by constructor) ?_))); (fail_if_success (fail_if_success k_fold)); (with_reducible refine (?_ : let qk := _; let ek := _; wpAny _ _ _ qk ek _)); intro qk ek) | ((fail_if_success (with_reducible show wpAny _ _ (subscriptTail _ (PySem.Expr.Slice _ _ _ _) _ _) _ _ _)); (fail_if_success (with_reducible first | ((fail_if_success (refine go1 (by constructor) ?_)); refine st1 (by constructor) ?_) | show Exists _)); walk1; try dsimp only)))
            refine' kmk_slice_ints (s := { s with heap := h2, toks := _ }) F8 N8 (News.isList N8 hST2) (IsPart.int _ _) IsPart.none hvs (kmk_from hvs (Int.natCast_nonneg _)) rfl ?_ ?yS1 ?yS2 hbn; (case yS1 => with_unfolding_all rfl); (case yS2 => (intro _; with_unfolding_all rfl))
            intro D' ws' h' F' N' l1 hI' hC' hL'
            (repeat' (first | (((fail_if_success (fail_if_success k_unfold)); first | (with_reducible refine (?_ : wpAny _ _ _ _ _ _)) | k_unfold); try dsimp only) | ((fail_if_success (fail_if_success (with_reducible refine ex1 (by constructor) ?_))); (fail_if_success (fail_if_success k_fold)); (with_reducible refine (?_ : let qk := _; let ek := _; wpAny _ _ _ qk ek _)); intro qk ek) | ((fail_if_success (with_reducible first | ((fail_if_success (refine go1 (by constructor) ?_)); refine st1 (by constructor) ?_) | show Exists _)); walk1; try dsimp only)))
            refine hQ3 _ _ ?_
            try dsimp only
            refine hQ2 _ _ ?_
            try dsimp only
            refine hQ1 _ _ ?_
            (repeat' (first | (((fail_if_success (fail_if_success k_unfold)); first | (with_reducible refine (?_ : wpAny _ _ _ _ _ _)) | k_unfold); try dsimp only) | ((fail_if_success (fail_if_success (with_reducible refine ex1 (by constructor) ?_))); (fail_if_success (fail_if_success k_fold)); (with_reducible refine (?_ : let qk := _; let ek := _; wpAny _ _ _ qk ek _)); intro qk ek) | ((fail_if_success (with_reducible first | ((fail_if_success (refine go1 (by constructor) ?_)); refine st1 (by constructor) ?_) | show Exists _)); walk1; try dsimp only)))
            rename KtsTurn _ h₀ _ => kT
            rename Fr _ L _ m => kF
            rename News _ L _ _ => kN
            rename Below A₀ base outer _ => kB
            rename (K w.params).In _ => kX
            rename Top p loose mean mg mb _ => kP
            rename KtsDicts (outer.filterMap _) _ => kD
            rename IntsAre _ (_ ++ [v]) => hIz
            rename _ ∧ _ ∧ AllLt _ nw => lz
            have key : ∀ ws : List Value, IntsAre ws (List.drop (Int.toNat i9) (fr.reverse.map (·.n.k)) ++ [v]) → ws.toArray.size ≠ 0 ∧ ws.toArray.size ≤ 1000 := fun ws hI => by
              have := hI.length
              rw [List.length_append, List.length_drop, List.length_map, List.length_reverse, List.length_singleton] at this
              rw [List.size_toArray, this]
              exact ⟨Nat.succ_ne_zero _, Nat.le_trans (Nat.succ_le_succ (Nat.le_trans (Nat.sub_le _ _) hfr9)) (by decide)⟩
            refine hring v (path_rch hpath (in_stk hstk)) _ _ 0 _ _ _ (key _ hIz).1 (key _ hIz).2 kT kB kX kP kD kF (news_sub kN fun q hq => ?_) fun q hq => Nat.ne_of_lt (mem_lt lz.2.2 q (O2.keep q hq))
            rcases List.mem_cons.mp hq with rfl | hq
            · exact .head _
            · exact .tail _ (.tail _ (.tail _ (O2.keep q hq)))
          · refine kda_in (knd := intKind _ w) N7 hN22 hd2 lo (k := v) (intKind_is _ _ _ _) false (n2_none hn2ok hstk) ?_
            (repeat' (first | (((fail_if_success (fail_if_success k_unfold)); first | (with_reducible refine (?_ : wpAny _ _ _ _ _ _)) | k_unfold); try dsimp only) | ((fail_if_success (fail_if_success (with_reducible refine ex1 (by constructor) ?_))); (fail_if_success (fail_if_success k_fold)); (with_reducible refine (?_ : let qk := _; let ek := _; wpAny _ _ _ qk ek _)); intro qk ek) | ((fail_if_success (with_reducible first | ((fail_if_success (refine go1 (by constructor) ?_)); refine st1 (by constructor) ?_) | show Exists _)); walk1; try dsimp only)))
            (with_reducible refine (?_ : let G9 : Prop := _; G9)); intro G9
            obtain ⟨hinner, hrin⟩ := inner_of hpath hfr0 (hin2.resolve_right hstk) hroot
            k_unfold; clear G9
            exact ⟨_, g2, _, _, _, nw, fr, bl2, v, tv, rfl, ⟨gT2, gB2, gX2, gP2, gD2⟩, F7, N7, fun y h1 => by simp only [h1, if_false], if_pos rfl, St, hinner, hrin, hsub, rfl, rfl⟩
        · rw [decide_eq_false hin2]
          (repeat' (first | (((fail_if_success (fail_if_success k_unfold)); first | (with_reducible refine (?_ : wpAny _ _ _ _ _ _)) | k_unfold); try dsimp only) | ((fail_if_success (fail_if_success (with_reducible refine ex1 (by constructor) ?_))); (fail_if_success (fail_if_success k_fold)); (with_reducible refine (?_ : let qk := _; let ek := _; wpAny _ _ _ qk ek _)); intro qk ek) | ((fail_if_success (with_reducible first | ((fail_if_success (refine go1 (by constructor) ?_)); refine st1 (by constructor) ?_) | show Exists _)); walk1; try dsimp only)))
          rename Fr g2 L1 _ _ => F8
          rename News g2 L1 _ _ => N8
          refine kse_method (knd := intKind _ w) N8 (updF_setN O2.nd hSE2) hse2 (Nat.lt_trans hct9 (by decide)) ?_
          (repeat' (first | (((fail_if_success (fail_if_success k_unfold)); first | (with_reducible refine (?_ : wpAny _ _ _ _ _ _)) | k_unfold); try dsimp only) | ((fail_if_success (fail_if_success (with_reducible refine ex1 (by constructor) ?_))); (fail_if_success (fail_if_success k_fold)); (with_reducible refine (?_ : let qk := _; let ek := _; wpAny _ _ _ qk ek _)); intro qk ek) | ((fail_if_success (with_reducible first | ((fail_if_success (refine go1 (by constructor) ?_)); refine st1 (by constructor) ?_) | show Exists _)); walk1; try dsimp only)))
          refine kse_add (knd := intKind _ w) F8 N8 (updF_setN O2.nd hSE2) hse2 (Nat.lt_of_le_of_lt (Nat.succ_le_of_lt hct9) (by decide)) (k := v) (intKind_is _ _ _ _) rfl fun h3 oSE3 F9 N9 hse3 => ?_
          have O3 := O2.set (pre := [_]) oSE3
          generalize hq9 : setN SE oSE3 nw = nw3 at O3 N9
          have hN23 := O3.here (N2, oN22) (.head _)
          have hIT3 := O3.here _ (.tail _ (.tail _ (.head _)))
          have hST3 := O3.here _ (.tail _ (.tail _ (.tail _ (.head _))))
          have hS3 := O3.keep _ hS
          have hdS3 := O3.keep _ hdS
          (repeat' (first | (((fail_if_success (fail_if_success k_unfold)); first | (with_reducible refine (?_ : wpAny _ _ _ _ _ _)) | k_unfold); try dsimp only) | ((fail_if_success (fail_if_success (with_reducible refine ex1 (by constructor) ?_))); (fail_if_success (fail_if_success k_fold)); (with_reducible refine (?_ : let qk := _; let ek := _; wpAny _ _ _ qk ek _)); intro qk ek) | ((fail_if_success (with_reducible show wpAny _ _ (subscriptTail _ _ _ _) _ _ _)); (fail_if_success (with_reducible first | ((fail_if_success (refine go1 (by constructor) ?_)); refine st1 (by constructor) ?_) | show Exists _)); walk1; try dsimp only)))
          rename Fr g2 L1 _ _ => F9
          rename News g2 L1 _ _ => N9
          (with_reducible refine (?_ : let G9 : Prop := _; G9)); intro G9
          obtain ⟨nv, hnv, rfl⟩ := List.mem_map.mp hvk
          obtain ⟨t9, t8, hNv⟩ := (Sr.nodes nv hnv).node
          k_unfold; clear G9
          have hNdv := (Sr.nodes nv hnv).dict
          (with_reducible refine (?_ : let G9 : Prop := _; G9)); intro G9
          obtain ⟨lv, lc, hLv, hLi⟩ := (Sr.nodes nv hnv).list
          k_unfold; clear G9
          replace hNv := O3.keep _ hNv
          replace hNdv := O3.keep _ hNdv
          replace hLv := O3.keep _ hLv
          refine dg_item (kvs := ns.map fun n => (n.k, .ref n.N)) (k := nv.k) ⟨⟨_, O3.keep _ hG, hGd⟩, Sr.map.sys⟩ N9 (valueAt_key Sr.keys hnv) ?_
          have hlvn : lv.size ≤ 1000 := by rw [← Array.length_toList, hLi.length]; exact hsu nv hnv
          (repeat' (first | (((fail_if_success (fail_if_success k_unfold)); first | (with_reducible refine (?_ : wpAny _ _ _ _ _ _)) | k_unfold); try dsimp only) | ((fail_if_success (fail_if_success (with_reducible refine ex1 (by constructor) ?_))); (fail_if_success (fail_if_success k_fold)); (with_reducible refine (?_ : let qk := _; let ek := _; wpAny _ _ _ qk ek _)); intro qk ek) | ((fail_if_success (with_reducible first | ((fail_if_success (refine go1 (by constructor) ?_)); refine st1 (by constructor) ?_) | show Exists _)); walk1; try dsimp only)))
          rename Fr g2 L1 _ _ => Fa
          rename News g2 L1 _ _ => Na
          refine it_list Fa Na hLv fun It h4 Fb Nb lIt => ?_
          have O4 := O3.cons (p := (It, itO nv.Ls 0)) (all_ne lIt (Nat.le_refl _))
          generalize hq8 : (It, itO nv.Ls 0) :: nw3 = nw4 at O4 Nb
          (repeat' (first | (((fail_if_success (fail_if_success k_unfold)); first | (with_reducible refine (?_ : wpAny _ _ _ _ _ _)) | k_unfold); try dsimp only) | ((fail_if_success (fail_if_success (with_reducible refine ex1 (by constructor) ?_))); (fail_if_success (fail_if_success k_fold)); (with_reducible refine (?_ : let qk := _; let ek := _; wpAny _ _ _ qk ek _)); intro qk ek) | ((fail_if_success (with_reducible first | ((fail_if_success (refine go1 (by constructor) ?_)); refine st1 (by constructor) ?_) | show Exists _)); walk1; try dsimp only)))
          rename Fr g2 L1 _ _ => Fc
          rename News g2 L1 _ _ => Nc
          refine next_N Fc Nc (O4.here _ (.head _)) fun Wr h5 tk5 Fd Nd lWr => ?_
          have O5 := O4.cons (p := (Wr, wrO It)) (all_ne lWr (Nat.le_refl _))
          generalize hq7 : (Wr, wrO It) :: nw4 = nw5 at O5 Nd
          have hIT5 := O5.here _ (.tail _ (.tail _ (.tail _ (.tail _ (.head _)))))
          have hST5 := O5.here _ (.tail _ (.tail _ (.tail _ (.tail _ (.tail _ (.head _))))))
          (repeat' (first | (((fail_if_success (fail_if_success k_unfold)); first | (with_reducible refine (?_ : wpAny _ _ _ _ _ _)) | k_unfold); try dsimp only) | ((fail_if_success (fail_if_success (with_reducible refine ex1 (by constructor) ?_))); (fail_if_success (fail_if_success k_fold)); (with_reducible refine (?_ : let qk := _; let ek := _; wpAny _ _ _ qk ek _)); intro qk ek) | ((fail_if_success (with_reducible show wpAny _ _ (call (Value.builtin "list.append") _) _ _ _)); (fail_if_success (with_reducible first | ((fail_if_success (refine go1 (by constructor) ?_)); refine st1 (by constructor) ?_) | show Exists _)); walk1; try dsimp only)))
          rename Fr g2 L1 _ _ => Fe
          rename News g2 L1 _ _ => Ne
          refine append_K Fe Ne (upd_setN O5.nd hIT5) (fun h6 Ff Nf => ?_) (by rw [List.size_toArray, List.length_map, List.length_reverse]; exact sz_le (Nat.le_trans hfr9 (by decide)))
          have O6 := O5.set (pre := [_, _, _, _]) (W.listOf ((List.map (fun f => Value.ref f.W) fr.reverse).toArray.push (.ref Wr)) (d2 + 1))
          generalize hq6 : setN IT _ nw5 = nw6 at O6 Nf
          have hST6 := O6.here _ (.tail _ (.tail _ (.tail _ (.tail _ (.tail _ (.head _))))))
          have hN26 := O6.here _ (.tail _ (.tail _ (.head _)))
          (repeat' (first | (((fail_if_success (fail_if_success k_unfold)); first | (with_reducible refine (?_ : wpAny _ _ _ _ _ _)) | k_unfold); try dsimp only) | ((fail_if_success (fail_if_success (with_reducible refine ex1 (by constructor) ?_))); (fail_if_success (fail_if_success k_fold)); (with_reducible refine (?_ : let qk := _; let ek := _; wpAny _ _ _ qk ek _)); intro qk ek) | ((fail_if_success (with_reducible show wpAny _ _ (setItem _ _ _) _ _ _)); (fail_if_success (with_reducible first | ((fail_if_success (refine go1 (by constructor) ?_)); refine st1 (by constructor) ?_) | show Exists _)); walk1; try dsimp only)))
          rename Fr g2 L1 _ _ => Fg
          rename News g2 L1 _ _ => Ng
          refine kda_set (knd := intKind _ w) Fg Ng (updF_setN O6.nd hN26) hd2 (intKind_is _ _ _ _) (by have := congrArg List.length hn2ok.1; rw [List.length_map, List.length_map, List.length_reverse] at this; first | (rw [this]; exact sz_le (Nat.le_trans hfr9 (by decide))) | (rw [sizeLine_eq]; omega)) fun h7 oN27 Fh Nh hd7 => ?_
          have O7 := O6.set (pre := [_, _]) oN27
          generalize hq5 : setN N2 oN27 nw6 = nw7 at O7 Nh
          have hST7 := O7.here _ (.tail _ (.tail _ (.tail _ (.tail _ (.tail _ (.head _))))))
          (repeat' (first | (((fail_if_success (fail_if_success k_unfold)); first | (with_reducible refine (?_ : wpAny _ _ _ _ _ _)) | k_unfold); try dsimp only) | ((fail_if_success (fail_if_success (with_reducible refine ex1 (by constructor) ?_))); (fail_if_success (fail_if_success k_fold)); (with_reducible refine (?_ : let qk := _; let ek := _; wpAny _ _ _ qk ek _)); intro qk ek) | ((fail_if_success (with_reducible first | ((fail_if_success (refine go1 (by constructor) ?_)); refine st1 (by constructor) ?_) | show Exists _)); walk1; try dsimp only)))
          rename Fr g2 L1 _ _ => Fi
          rename News g2 L1 _ _ => Ni
          have O8 := O7.set (pre := [_, _, _, _, _]) (W.listOf (us.toArray.push (Value.int nv.k tv)) (d1 + 1))
          have hns : nv.k ∉ fr.map (·.n.k) := fun e => hin2 (.inr e)
          exact ⟨_, g2, _, _, _, _, ⟨Wr, It, nv, 0⟩ :: fr, bl2, nv.k, tv, rfl, ⟨gT2, gB2, gX2, gP2, gD2⟩, Fi, Ni, fun y h1 => by simp only [h1, if_false], if_pos rfl, stw_push St O8 hvs (by rw [hus9]) hd7 hn2ok hse3 (by rw [if_neg (by simpa using hin2), hcnt]) hin2 hnv,
            inner_push hpath, root_push hroot, hsub, (left_push (fun e => hns (by rw [List.map_map] at e; exact e))).symm, rfl⟩
      · intro s₂ pt91
        (with_reducible refine (?_ : let G9 : Prop := _; G9)); intro G9
        obtain ⟨n2, hIV⟩ := pt91
        k_unfold; clear G9
        try dsimp only
        (repeat' (first | (((fail_if_success (fail_if_success k_unfold)); first | (with_reducible refine (?_ : wpAny _ _ _ _ _ _)) | k_unfold); try dsimp only) | ((fail_if_success (fail_if_success (with_reducible refine ex1 (by constructor) ?_))); (fail_if_success (fail_if_success k_fold)); (with_reducible refine (?_ : let qk := _; let ek := _; wpAny _ _ _ qk ek _)); intro qk ek) | ((fail_if_success (with_reducible first | ((fail_if_success (refine go1 (by constructor) ?_)); refine st1 (by constructor) ?_) | show Exists _)); walk1; try dsimp only)))
        refine wpAny_While ?_
        refine codeAny_whileLoop (IV w s (GdS w (ktrTop dp un gd cn cs L a ccd cl outer) base (envX cn cs L a ccd cl :: outer) p loose mean mg mb g1) L1 (fun y => if y = Str.ofString "node2stacki" then some (Value.ref N2) else if y = Str.ofString "seen" then some (Value.ref SE) else if y = Str.ofString "itstack" then some (Value.ref IT) else if y = Str.ofString "stack" then some (Value.ref ST) else if y = Str.ofString "n2i" then some (Value.ref G) else List.lookup y [(Str.ofString "self", Value.ref S)]) news ns ST IT SE N2 I oI k bl (leftAll (gSu (plG ns)) (ns.map (·.k)) (fr.map Fra.kj) bl2)) ?_ n2 hIV
        intro n s' pt92
        (with_reducible refine (?_ : let G9 : Prop := _; G9)); intro G9
        obtain ⟨g3, h3, tk3, m3, nw3, fr3, bl3, v3, tv3, rfl, ⟨gT3, gB3, gX3, gP3, gD3⟩, F8, N8, hm, hmn, St3, hinn, hrin, hsub3, hN3, rfl⟩ := pt92
        k_unfold; clear G9
        (with_reducible refine (?_ : let G9 : Prop := _; G9)); intro G9
        obtain ⟨u, rfl⟩ := canon1 hm
        k_unfold; clear G9
        obtain rfl : u = some (.int v3 tv3) := by simpa using hmn
        clear hm hmn
        refine absW fun Q4 Q4o hQ4 hQ4o => ?_
        (with_reducible refine (?_ : let G9 : Prop := _; G9)); intro G9
        obtain ⟨oSE3, d3, d4, oN23, vs3, kvs3, cnt3, O3, hvs3, hd3, hn2ok3, hse3, hcnt3⟩ := St3.ex
        k_unfold; clear G9
        have hfl3 := St3.small Sr.room
        have hfr39 : fr3.length ≤ 100 := Nat.le_trans (Nat.le_add_left _ _) hfl3
        (with_reducible refine (?_ : let G9 : Prop := _; G9)); intro G9
        obtain ⟨us3, rfl⟩ : ∃ us, vs3 = List.toArray us := ⟨vs3.toList, by simp⟩
        k_unfold; clear G9
        replace hvs3 : IntsAre us3 _ := hvs3
        have hL39 := hvs3.length
        rw [List.length_map, List.length_reverse] at hL39
        have hST3 := O3.here _ (.tail _ (.tail _ (.tail _ (.head _))))
        have hIT3 := O3.here _ (.tail _ (.tail _ (.head _)))
        have hN23 := O3.here _ (.head _)
        (repeat' (first | (((fail_if_success (fail_if_success k_unfold)); first | (with_reducible refine (?_ : wpAny _ _ _ _ _ _)) | k_unfold); try dsimp only) | ((fail_if_success (fail_if_success (with_reducible refine ex1 (by constructor) ?_))); (fail_if_success (fail_if_success k_fold)); (with_reducible refine (?_ : let qk := _; let ek := _; wpAny _ _ _ qk ek _)); intro qk ek) | ((fail_if_success (with_reducible show wpAny _ _ (truthy (Value.ref _)) _ _ _)); (fail_if_success (with_reducible first | ((fail_if_success (refine go1 (by constructor) ?_)); refine st1 (by constructor) ?_) | show Exists _)); walk1; try dsimp only)))
        have husb : us3.length ≤ 100 := by rw [hL39]; exact hfr39
        refine wpAny_truthy_list (News.isList N8 hST3) (by rw [List.size_toArray]; exact n63 (Nat.le_trans husb (by decide))) ?_
        cases fr3 with
        | nil =>
          obtain rfl : us3 = [] := List.eq_nil_of_length_eq_zero hL39
          (repeat' (first | (((fail_if_success (fail_if_success k_unfold)); first | (with_reducible refine (?_ : wpAny _ _ _ _ _ _)) | k_unfold); try dsimp only) | ((fail_if_success (fail_if_success (with_reducible refine ex1 (by constructor) ?_))); (fail_if_success (fail_if_success k_fold)); (with_reducible refine (?_ : let qk := _; let ek := _; wpAny _ _ _ qk ek _)); intro qk ek) | ((fail_if_success (with_reducible first | ((fail_if_success (refine go1 (by constructor) ?_)); refine st1 (by constructor) ?_) | show Exists _)); walk1; try dsimp only)))
          refine hQ4o _ _ ?_
          try dsimp only
          refine hQ3 _ _ ?_
          try dsimp only
          (repeat' (first | (((fail_if_success (fail_if_success k_unfold)); first | (with_reducible refine (?_ : wpAny _ _ _ _ _ _)) | k_unfold); try dsimp only) | ((fail_if_success (fail_if_success (with_reducible refine ex1 (by constructor) ?_))); (fail_if_success (fail_if_success k_fold)); (with_reducible refine (?_ : let qk := _; let ek := _; wpAny _ _ _ qk ek _)); intro qk ek) | ((fail_if_success (with_reducible first | ((fail_if_success (refine go1 (by constructor) ?_)); refine st1 (by constructor) ?_) | show Exists _)); walk1; try dsimp only)))
          refine hQ2 _ _ ?_
          have O5 := O3.cut (pre := [_, _, _, _])
          have hkv : kvs3 = [] := List.map_eq_nil_iff.mp hn2ok3.1
          rw [hkv] at hd3
          exact ⟨g3, _, _, _, cutN I nw3, rfl, ⟨gT3, gB3, gX3, gP3, gD3⟩, F8, news_cut N8 (O3.here _ (.tail _ (.tail _ (.tail _ (.tail _ (.head _)))))), cut_off, fun y h1 => by simp only [h1, if_false], bl3, oSE3, d3, d4, oN23, O5, setObj_congr hse3 (by simp) hcnt3, hd3, St3.closed, by simpa using St3.nodup, St3.keys, take_all (fun x hx => hsub3 x (hall x hx)) hk hrin⟩
        | cons f r =>
          rw [isEmpty_cons hL39]
          (repeat' (first | (((fail_if_success (fail_if_success k_unfold)); first | (with_reducible refine (?_ : wpAny _ _ _ _ _ _)) | k_unfold); try dsimp only) | ((fail_if_success (fail_if_success (with_reducible refine ex1 (by constructor) ?_))); (fail_if_success (fail_if_success k_fold)); (with_reducible refine (?_ : let qk := _; let ek := _; wpAny _ _ _ qk ek _)); intro qk ek) | ((fail_if_success (with_reducible show wpAny _ _ (subscriptTail _ _ _ _) _ _ _)); (fail_if_success (with_reducible first | ((fail_if_success (refine go1 (by constructor) ?_)); refine st1 (by constructor) ?_) | show Exists _)); walk1; try dsimp only)))
          refine kde_neg (News.isList N8 hIT3) (by decide) (by decide) top_place top_last ?_
          (repeat' (first | (((fail_if_success (fail_if_success k_unfold)); first | (with_reducible refine (?_ : wpAny _ _ _ _ _ _)) | k_unfold); try dsimp only) | ((fail_if_success (fail_if_success (with_reducible refine ex1 (by constructor) ?_))); (fail_if_success (fail_if_success k_fold)); (with_reducible refine (?_ : let qk := _; let ek := _; wpAny _ _ _ qk ek _)); intro qk ek) | ((fail_if_success (with_reducible show wpAny _ _ (callWith _ (Value.ref _) _ _) _ _ _)); (fail_if_success (with_reducible first | ((fail_if_success (refine go1 (by constructor) ?_)); refine st1 (by constructor) ?_) | show Exists _)); walk1; try dsimp only)))
          have hWm := O3.here (f.W, wrO f.It) (.tail _ (.tail _ (.tail _ (.tail _ (.tail _ (.tail _ (.head _)))))))
          have hIm := O3.here (f.It, itO f.n.Ls f.j) (.tail _ (.tail _ (.tail _ (.tail _ (.tail _ (.head _))))))
          have hfn := St3.nodes f (.head _)
          (with_reducible refine (?_ : let G9 : Prop := _; G9)); intro G9
          obtain ⟨lv3, lc3, hLv3, hLi3⟩ := (Sr.nodes f.n hfn).list
          k_unfold; clear G9
          replace hLv3 := O3.keep _ hLv3
          have hsu3 := su_pl Sr.keys hfn
          rename Fr g3 L1 _ _ => F9
          rename News g3 L1 _ _ => N9
          refine callWith_wr N9 hWm ?_
          cases hx : f.n.succ[f.j]? with
          | some x =>
            (with_reducible refine (?_ : let G9 : Prop := _; G9)); intro G9
            obtain ⟨tx, hx'⟩ := ints_at hLi3 hx
            k_unfold; clear G9
            rw [Array.getElem?_toList] at hx'
            refine wr_item_N F9 N9 hWm hIm hLv3 hx' fun h4 Fa Na => ?_
            have O4 := O3.set (pre := [_, _, _, _, _]) (itO f.n.Ls (f.j + 1))
            generalize hq9 : setN f.It _ nw3 = nw4 at O4 Na
            (repeat' (first | (((fail_if_success (fail_if_success k_unfold)); first | (with_reducible refine (?_ : wpAny _ _ _ _ _ _)) | k_unfold); try dsimp only) | ((fail_if_success (fail_if_success (with_reducible refine ex1 (by constructor) ?_))); (fail_if_success (fail_if_success k_fold)); (with_reducible refine (?_ : let qk := _; let ek := _; wpAny _ _ _ qk ek _)); intro qk ek) | ((fail_if_success (with_reducible first | ((fail_if_success (refine go1 (by constructor) ?_)); refine st1 (by constructor) ?_) | show Exists _)); walk1; try dsimp only)))
            rename Fr g3 L1 _ _ => Fb
            rename News g3 L1 _ _ => Nb
            refine hQ4 _ _ ?_
            try dsimp only
            (repeat' (first | (((fail_if_success (fail_if_success k_unfold)); first | (with_reducible refine (?_ : wpAny _ _ _ _ _ _)) | k_unfold); try dsimp only) | ((fail_if_success (fail_if_success (with_reducible refine ex1 (by constructor) ?_))); (fail_if_success (fail_if_success k_fold)); (with_reducible refine (?_ : let qk := _; let ek := _; wpAny _ _ _ qk ek _)); intro qk ek) | ((fail_if_success (with_reducible first | ((fail_if_success (refine go1 (by constructor) ?_)); refine st1 (by constructor) ?_) | show Exists _)); walk1; try dsimp only)))
            refine hQ3 _ _ ?_
            try dsimp only
            have hfk : f.n.k ∈ ns.map (·.k) := List.mem_map.mpr ⟨_, hfn, rfl⟩
            have hfb : f.n.k ∉ bl3 := fun e => (List.nodup_append.mp St3.nodup).2.2 _ e _ (.head _) rfl
            have hxk : x ∈ ns.map (·.k) := by
              (with_reducible refine (?_ : let G9 : Prop := _; G9)); intro G9
              obtain ⟨y, hy, e⟩ := hcl f.n hfn x (List.mem_of_getElem? hx)
              k_unfold; clear G9
              exact List.mem_map.mpr ⟨y, hy, e⟩
            rw [← hsu3] at hx
            refine ⟨_, ?_, g3, _, _, _, nw4, { f with j := f.j + 1 } :: r, bl3, x, tx, rfl, ⟨gT3, gB3, gX3, gP3, gD3⟩, Fb, Nb, fun y h1 => by simp only [h1, if_false], if_pos rfl, stw_take St3 O4 hvs3 hd3 hn2ok3 hse3 hcnt3, inner_yield hinn hx, hxk, nofun, root_take hrin, hsub3, rfl⟩
            rw [hN3]
            exact left_yield hfk hfb hx
          | none =>
            refine wr_end_N rfl F9 N9 hWm hIm hLv3 (by rw [← Array.getElem?_toList]; exact List.getElem?_eq_none (by rw [hLi3.length]; exact List.getElem?_eq_none_iff.mp hx)) fun h4 h5 e5 Fa Na hx5 => ?_
            have O4 := O3.cut (pre := [_, _, _, _, _])
            generalize hq9 : cutN f.It nw3 = nw4 at O4 Na
            clear hWm hIm hLv3 hST3 hIT3 hN23 hSE
            refine caught_here (X := "StopIteration") (T' := "StopIteration") hx5 Fa Na gB3 XB TB gD3 gT3 (by rfl) PyProof.Rows.Boot.«StopIteration» (by decide) isExc_Stop notTuple_Stop sub_Stop (fun h6 g4 T4 Fb Nb B4 X4 P4 D4 => ?_)
            have hST4 := O4.here _ (.tail _ (.tail _ (.tail _ (.head _))))
            have hIT4 := O4.here _ (.tail _ (.tail _ (.head _)))
            have hN24 := O4.here _ (.head _)
            (repeat' (first | (((fail_if_success (fail_if_success k_unfold)); first | (with_reducible refine (?_ : wpAny _ _ _ _ _ _)) | k_unfold); try dsimp only) | ((fail_if_success (fail_if_success (with_reducible refine ex1 (by constructor) ?_))); (fail_if_success (fail_if_success k_fold)); (with_reducible refine (?_ : let qk := _; let ek := _; wpAny _ _ _ qk ek _)); intro qk ek) | ((fail_if_success (with_reducible first | ((fail_if_success (refine go1 (by constructor) ?_)); refine st1 (by constructor) ?_) | show Exists _)); walk1; try dsimp only)))
            rename Fr g4 L1 _ _ => Fc
            rename News g4 L1 _ _ => Nc
            refine kpa_pop Fc Nc (upd_setN O4.nd hST4) hvs3 (by rw [hL39]; exact Nat.succ_pos _) (by first | exact sz_le (Nat.le_trans husb (by decide)) | (rw [sizeLine_eq]; omega)) fun h7 t7 Fd Nd hI7 => ?_
            have O5 := O4.set (pre := [_, _, _]) (W.listOf us3.dropLast.toArray (d3 + 1))
            generalize hq8 : setN ST _ nw4 = nw5 at O5 Nd
            have hIT5 := O5.here _ (.tail _ (.tail _ (.head _)))
            have hN25 := O5.here _ (.head _)
            rw [show (List.map (fun x => x.n.k) (f :: r).reverse).getLastD 0 = f.n.k by simp]
            rw [show (List.map (fun x => x.n.k) (f :: r).reverse).dropLast = List.map (fun x => x.n.k) r.reverse by simp] at hI7
            (repeat' (first | (((fail_if_success (fail_if_success k_unfold)); first | (with_reducible refine (?_ : wpAny _ _ _ _ _ _)) | k_unfold); try dsimp only) | ((fail_if_success (fail_if_success (with_reducible refine ex1 (by constructor) ?_))); (fail_if_success (fail_if_success k_fold)); (with_reducible refine (?_ : let qk := _; let ek := _; wpAny _ _ _ qk ek _)); intro qk ek) | ((fail_if_success (with_reducible first | ((fail_if_success (refine go1 (by constructor) ?_)); refine st1 (by constructor) ?_) | show Exists _)); walk1; try dsimp only)))
            rename Fr g4 L1 _ _ => Fe
            rename News g4 L1 _ _ => Ne
            have hfk : f.n.k ∈ (f :: r).map (·.n.k) := .head _
            refine kob_del (knd := intKind _ w) Fe Ne (updF_setN O5.nd hN25) hd3 (intKind_is _ _ _ _) (n2_some hn2ok3 hfk) (by have := congrArg List.length hn2ok3.1; rw [List.length_map, List.length_map, List.length_reverse] at this; first | (rw [this]; exact sz_le (Nat.le_trans hfr39 (by decide))) | (rw [sizeLine_eq]; omega)) fun h8 oN28 Ff Nf hd8 => ?_
            have O6 := O5.set (pre := []) oN28
            generalize hq7 : setN N2 oN28 nw5 = nw6 at O6 Nf
            have hIT6 := O6.here _ (.tail _ (.tail _ (.head _)))
            (repeat' (first | (((fail_if_success (fail_if_success k_unfold)); first | (with_reducible refine (?_ : wpAny _ _ _ _ _ _)) | k_unfold); try dsimp only) | ((fail_if_success (fail_if_success (with_reducible refine ex1 (by constructor) ?_))); (fail_if_success (fail_if_success k_fold)); (with_reducible refine (?_ : let qk := _; let ek := _; wpAny _ _ _ qk ek _)); intro qk ek) | ((fail_if_success (with_reducible first | ((fail_if_success (refine go1 (by constructor) ?_)); refine st1 (by constructor) ?_) | show Exists _)); walk1; try dsimp only)))
            rename Fr g4 L1 _ _ => Fg
            rename News g4 L1 _ _ => Ng
            refine kl_pop Fg Ng top_split (upd_setN O6.nd hIT6) (by rw [List.length_map, List.length_reverse]; exact sz_le (Nat.le_trans hfr39 (by decide))) fun h9 Fh Nh => ?_
            have O7 := O6.set (pre := [_, _]) (W.listOf (List.map (fun f => Value.ref f.W) r.reverse).toArray (d4 + 1))
            generalize hq6 : setN IT _ nw6 = nw7 at O7 Nh
            (repeat' (first | (((fail_if_success (fail_if_success k_unfold)); first | (with_reducible refine (?_ : wpAny _ _ _ _ _ _)) | k_unfold); try dsimp only) | ((fail_if_success (fail_if_success (with_reducible refine ex1 (by constructor) ?_))); (fail_if_success (fail_if_success k_fold)); (with_reducible refine (?_ : let qk := _; let ek := _; wpAny _ _ _ qk ek _)); intro qk ek) | ((fail_if_success (with_reducible first | ((fail_if_success (refine go1 (by constructor) ?_)); refine st1 (by constructor) ?_) | show Exists _)); walk1; try dsimp only)))
            rename Fr g4 L1 _ _ => Fi
            rename News g4 L1 _ _ => Ni
            refine hQ4 _ _ ?_
            try dsimp only
            have O8 := O7.sub (own' := (N2, oN28) :: (SE, oSE3) :: (IT, W.listOf (List.map (fun f => Value.ref f.W) r.reverse).toArray (d4 + 1)) :: (ST, W.listOf us3.dropLast.toArray (d3 + 1)) :: (I, oI) :: fraL r) (.cons₂ _ (.cons₂ _ (.cons₂ _ (.cons₂ _ (.cons₂ _ (List.sublist_cons_self _ _))))))
            have hend : (gSu (plG ns) f.n.k)[f.j]? = none := by rw [hsu3]; exact hx
            refine ⟨_, ?_, g4, _, _, _, nw7, r, bl3 ++ [f.n.k], v3, tv3, rfl, ⟨T4, B4, X4, P4, D4⟩, Fi, Ni, fun y h1 => by simp only [h1, if_false], if_pos rfl, stw_pop St3 O8 rfl hI7 hd8 hn2ok3 hse3 hcnt3 hinn hend, inner_pop hinn, root_pop hrin, fun x hx => List.mem_append_left _ (hsub3 x hx), ?_, rfl⟩
            · exact Nat.lt_succ_self _
            · rw [hN3]
              refine (left_pop hinn hend fun e => ?_).symm
              rw [List.map_map] at e
              exact (List.nodup_cons.mp (List.nodup_append.mp St3.nodup).2.1).1 e
  · intro g' h' tk m' news' pt95 F' N' pt98
    (with_reducible refine (?_ : let G9 : Prop := _; G9)); intro G9
    obtain ⟨gT, gB, gX, gP, gD⟩ := pt95
    obtain ⟨hm, bl, oSE, c1, c2, oN2', O, hse, hn2, hc, hnd, hbk, hall⟩ := pt98
    k_unfold; clear G9
    (repeat' (first | (((fail_if_success (fail_if_success k_unfold)); first | (with_reducible refine (?_ : wpAny _ _ _ _ _ _)) | k_unfold); try dsimp only) | ((fail_if_success (fail_if_success (with_reducible refine ex1 (by constructor) ?_))); (fail_if_success (fail_if_success k_fold)); (with_reducible refine (?_ : let qk := _; let ek := _; wpAny _ _ _ qk ek _)); intro qk ek) | ((fail_if_success (with_reducible first | ((fail_if_success (refine go1 (by constructor) ?_)); refine st1 (by constructor) ?_) | show Exists _)); walk1; try dsimp only)))
    refine hQ1 _ _ ?_
    (repeat' (first | (((fail_if_success (fail_if_success k_unfold)); first | (with_reducible refine (?_ : wpAny _ _ _ _ _ _)) | k_unfold); try dsimp only) | ((fail_if_success (fail_if_success (with_reducible refine ex1 (by constructor) ?_))); (fail_if_success (fail_if_success k_fold)); (with_reducible refine (?_ : let qk := _; let ek := _; wpAny _ _ _ qk ek _)); intro qk ek) | ((fail_if_success (with_reducible first | ((fail_if_success (refine go1 (by constructor) ?_)); refine st1 (by constructor) ?_) | show Exists _)); walk1; try dsimp only)))
    rename KtsTurn _ h₀ _ => kT
    rename Fr _ L _ m => kF
    rename News _ L _ _ => kN
    rename Below A₀ base outer _ => kB
    rename (K w.params).In _ => kX
    rename Top p loose mean mg mb _ => kP
    rename KtsDicts (outer.filterMap _) _ => kD
    refine hnone (fun n hn hr => no_ring hc hr (hall _ ?_)) _ _ _ kT kB kX kP kD kF (news_sub kN O.keep)
    rw [List.take_of_length_le (by simp)]
    exact List.mem_map.mpr ⟨n, hn, rfl⟩
end
section
theorem prepare_spec {w : World} {dp un : Nat} {gd : Option (List Code)} {cn : Str} {cs : Scope} {a : Addr} {ccd : Value} {cl : List (Str × Addr)} {outer : List Env} {A₀ : Around} {base h₀ : Heap} {L : Addr} {m : Str → Option Value} {news : List (Addr × Obj)} {s : Shared} {p : Program} {loose : List Str} {mean : ExcName → Option Value} {mg mb : Str → Option Value}
    {Q E : Value → Shared → Prop} (B : Below A₀ base outer h₀) (F : Fr h₀ L s.heap m) (X : (Mine.K w.params).In h₀) (N : News h₀ L s.heap news) (T : Top p loose mean mg mb h₀) (hk : cs.kind = .function) (hd : dp + 30 < recursionLimit) (hu : un + 240 < cLine) (XB : (Mine.K w.params).In base) (TB : Top p loose mean mg mb base) (D : KtsDicts (outer.filterMap (·.frame)) h₀)
    {S dS G : Addr} {po nf : Int} {ns : List Nde} {oth : List (Addr × Obj)} (Sr : Srt w news S dS G .none po nf ns oth) (hcl : ∀ n ∈ ns, ∀ j ∈ n.succ, ∃ x ∈ ns, x.k = j) (hsu : ∀ n ∈ ns, n.succ.length ≤ 1000)
    (hnone : (∀ n ∈ ns, ¬ Rch (gSu (plG ns)) n.k n.k) → ∀ R us c news' h₀' h' tk', KtsTurn (outer.filterMap (·.frame)) h₀ h₀' → Below A₀ base outer h₀' → (Mine.K w.params).In h₀' → Top p loose mean mg mb h₀' → KtsDicts (outer.filterMap (·.frame)) h₀' → Fr h₀' L h' m → News h₀' L h' news' → Srt w news' S dS G (.ref R) po nf ns ((R, W.listOf us c) :: oth) → (∀ p ∈ oth, p.1 ≠ R) → IntsAre us.toList ((ns.filter fun n => n.np == 0).map (·.k)) → Q .none { s with heap := h', toks := tk' })
    (hring : ∀ v, Rch (gSu (plG ns)) v v → ∀ e G' R us c news' h' tk' h₀', KtsTurn (outer.filterMap (·.frame)) h₀ h₀' → Fr h₀' L G' m → Below A₀ base outer h₀' → (Mine.K w.params).In h₀' → Top p loose mean mg mb h₀' → KtsDicts (outer.filterMap (·.frame)) h₀' →
      RaisedSN base G' (envX cn cs L a ccd cl :: outer) e (.ref 109) news' h' → G'.UpToSlots h' → Srt w news' S dS G (.ref R) po nf ns ((R, W.listOf us c) :: oth) → (∀ p ∈ oth, p.1 ≠ R) → IntsAre us.toList ((ns.filter fun n => n.np == 0).map (·.k)) → E (.ref e) { s with heap := h', toks := tk' }) :
    wpAny (model PySem.Challenge.pw_nq0248_01 w) (ktrTop dp un gd cn cs L a ccd cl outer) (call (.ref 146) [.ref S]) Q E s := by
  have hfill : (fun (_ : OpenLaw) (_ : Params → Frag) => True) PySem.Challenge.rw_nq0248_01 Mine.K := by k_fill; trivial
  clear hfill
  refine wpAny_call ?_
  k_dflt ((refine' code_S ?k1 ?k2 ?k3 ?k4 ?k5 ?XB ?TB ?D ?T0 ?kA ?kF ?kK ?k6 ?k7 ?k8 ?k9 ?kB ?_ ?c2 ?c3 ?c4 ?c5; (case kA | kF => exact rfl); (case kK | k1 | k2 | k3 | k4 | k5 | XB | TB | D => assumption); (case T0 => exact KtsTurn.refl); (case k6 | k7 => k_is); (case k8 => ktr_room); (case k9 => exact BindsTo.of_eq rfl); (case c5 => decide); (case kB => exact locs rfl); (case c2 | c3 | c4 => exact rfl); k_whole; intro _ _ _ _ _ _ _ _ _ _; (try dsimp only)))
  rename Fr _ _ _ _ => F1
  rename_i g1 L1 h1 FG N1 B1 X1 T1 D1
  replace F1 : Fr g1 L1 h1 (fun y => List.lookup y [(Str.ofString "self", Value.ref S)]) := F1
  with_reducible refine gen_toks fun tk0 => ?_
  try dsimp only
  refine absQ fun Q1 hQ1 => ?_
  have hS := Sr.inst
  (with_reducible refine (?_ : let G9 : Prop := _; G9)); intro G9
  obtain ⟨q1, q2, q3, q4, t1, t2, t3, t4, t5, t6, hdS⟩ := Sr.dict
  k_unfold; clear G9
  (repeat' (first | (((fail_if_success (fail_if_success k_unfold)); first | (with_reducible refine (?_ : wpAny _ _ _ _ _ _)) | k_unfold); try dsimp only) | ((fail_if_success (fail_if_success (with_reducible refine ex1 (by constructor) ?_))); (fail_if_success (fail_if_success k_fold)); (with_reducible refine (?_ : let qk := _; let ek := _; wpAny _ _ _ qk ek _)); intro qk ek) | ((fail_if_success (with_reducible first | ((fail_if_success (refine go1 (by constructor) ?_)); refine st1 (by constructor) ?_) | show Exists _)); walk1; try dsimp only)))
  refine plainObj_wpAny_Assign_Attribute ?_ (by with_unfolding_all rfl)
  rw [eval_ListComp]
  refine wpAny_comprehension_free (use := none) rfl (by intro _; rfl) (by rfl) (by rfl) (by decide) ?_
  show wpAny _ _ (eval _ _) _ _ _
  (repeat' (first | (((fail_if_success (fail_if_success k_unfold)); first | (with_reducible refine (?_ : wpAny _ _ _ _ _ _)) | k_unfold); try dsimp only) | ((fail_if_success (fail_if_success (with_reducible refine ex1 (by constructor) ?_))); (fail_if_success (fail_if_success k_fold)); (with_reducible refine (?_ : let qk := _; let ek := _; wpAny _ _ _ qk ek _)); intro qk ek) | ((fail_if_success (with_reducible first | ((fail_if_success (refine go1 (by constructor) ?_)); refine st1 (by constructor) ?_) | show Exists _)); walk1; try dsimp only)))
  rename Fr g1 L1 _ _ => F2
  rename News g1 L1 _ _ => N2
  refine dg_values Sr.map N2 ?_
  (repeat' (first | (((fail_if_success (fail_if_success k_unfold)); first | (with_reducible refine (?_ : wpAny _ _ _ _ _ _)) | k_unfold); try dsimp only) | ((fail_if_success (fail_if_success (with_reducible refine ex1 (by constructor) ?_))); (fail_if_success (fail_if_success k_fold)); (with_reducible refine (?_ : let qk := _; let ek := _; wpAny _ _ _ qk ek _)); intro qk ek) | ((fail_if_success (with_reducible first | ((fail_if_success (refine go1 (by constructor) ?_)); refine st1 (by constructor) ?_) | show Exists _)); walk1; try dsimp only)))
  refine dg_callvalues Sr.map F2 N2 fun V h3 F3 N3 lV => ?_
  (repeat' (first | (((fail_if_success (fail_if_success k_unfold)); first | (with_reducible refine (?_ : wpAny _ _ _ _ _ _)) | k_unfold); try dsimp only) | ((fail_if_success (fail_if_success (with_reducible refine ex1 (by constructor) ?_))); (fail_if_success (fail_if_success k_fold)); (with_reducible refine (?_ : let qk := _; let ek := _; wpAny _ _ _ qk ek _)); intro qk ek) | ((fail_if_success (with_reducible first | ((fail_if_success (refine go1 (by constructor) ?_)); refine st1 (by constructor) ?_) | show Exists _)); walk1; try dsimp only)))
  (with_reducible refine (?_ : let G9 : Prop := _; G9)); intro G9
  obtain ⟨oG, hG, hGd⟩ := Sr.map.ex
  k_unfold; clear G9
  have hroom := Sr.room
  refine comp_vals (kvs := ns.map fun n => (n.k, .ref n.N)) rfl (by decide) rfl rfl (by rw [sizeLine_eq, List.length_map]; omega) F3 N3 (.head _) (.tail _ hG) hGd
    (fun i ys nw => nw = (V, viewO G) :: news ∧ IntsAre ys (((ns.take i).filter fun n => n.np == 0).map (·.k))) ?_ ⟨rfl, .nil⟩ ?_ (post_none ?_)
  · rintro i ys nw ⟨rfl, _⟩; exact .tail _ hG
  · intro i k v ys nw I oI C oC D mC h4 tk4 E' hi hk pt916 hC hx F4 N4 off ne
    (with_reducible refine (?_ : let G9 : Prop := _; G9)); intro G9
    obtain ⟨rfl, hys⟩ := pt916
    k_unfold; clear G9
    rw [List.getElem?_map] at hk
    (with_reducible refine (?_ : let G9 : Prop := _; G9)); intro G9
    obtain ⟨n, hn, e⟩ := Option.map_eq_some_iff.mp hk
    obtain ⟨rfl, rfl⟩ := Prod.mk.inj e
    k_unfold; clear G9
    have hnm := List.mem_of_getElem? hn
    (with_reducible refine (?_ : let G9 : Prop := _; G9)); intro G9
    obtain ⟨v1, v2, hNm⟩ := (Sr.nodes n hnm).node
    k_unfold; clear G9
    have hNd := (Sr.nodes n hnm).dict
    refine forIn_one ?_
    (repeat' (first | (((fail_if_success (fail_if_success k_unfold)); first | (with_reducible refine (?_ : wpAny _ _ _ _ _ _)) | k_unfold); try dsimp only) | ((fail_if_success (fail_if_success (with_reducible refine ex1 (by constructor) ?_))); (fail_if_success (fail_if_success k_fold)); (with_reducible refine (?_ : let qk := _; let ek := _; wpAny _ _ _ qk ek _)); intro qk ek) | ((fail_if_success (with_reducible first | ((fail_if_success (refine go1 (by constructor) ?_)); refine st1 (by constructor) ?_) | show Exists _)); walk1; try dsimp only)))
    · rename n.np = 0 => hz
      exact ⟨_, _, _, _, _, rfl, by k_asm, by k_asm, hC, off, rfl, by rw [take_snoc hn, List.filter_append, List.map_append]; simp only [List.filter_cons, hz, beq_self_eq_true, if_true, List.filter_nil, List.map_cons, List.map_nil]; exact ints_snoc hys _ _⟩
    · rename n.np ≠ 0 => hz
      exact ⟨_, _, _, _, _, rfl, by k_asm, by k_asm, hC, off, rfl, by rw [take_snoc hn, List.filter_append, List.map_append]; simp only [List.filter_cons, beq_eq_false_iff_ne.mpr hz, Bool.false_eq_true, if_false, List.filter_nil, List.map_nil, List.append_nil]; exact hys⟩
  · intro D ys _ h5 tk5 F5 N5 off pt98
    (with_reducible refine (?_ : let G9 : Prop := _; G9)); intro G9
    obtain ⟨rfl, hys⟩ := pt98
    k_unfold; clear G9
    rw [List.length_map, List.take_length] at hys
    have Sr2 := (Sr.cons (p := (V, viewO G)) fun q hq => Nat.ne_of_lt (lV q hq)).cons (p := (D, lst ys)) (fun q hq => off1_mem off q hq)
    generalize hq9 : (D, lst ys) :: (V, viewO G) :: news = news2 at N5 Sr2
    have hS := Sr2.inst
    (with_reducible refine (?_ : let G9 : Prop := _; G9)); intro G9
    obtain ⟨q1, q2, q3, q4, t1, t2, t3, t4, t5, t6, hdS⟩ := Sr2.dict
    k_unfold; clear G9
    (repeat' (first | (((fail_if_success (fail_if_success k_unfold)); first | (with_reducible refine (?_ : wpAny _ _ _ _ _ _)) | k_unfold); try dsimp only) | ((fail_if_success (fail_if_success (with_reducible refine ex1 (by constructor) ?_))); (fail_if_success (fail_if_success k_fold)); (with_reducible refine (?_ : let qk := _; let ek := _; wpAny _ _ _ qk ek _)); intro qk ek) | ((fail_if_success (with_reducible show wpAny _ _ (getMethod _ (Str.ofString "_find_cycle") _) _ _ _)); (fail_if_success (with_reducible first | ((fail_if_success (refine go1 (by constructor) ?_)); refine st1 (by constructor) ?_) | show Exists _)); walk1; try dsimp only)))
    rename Fr g1 L1 _ _ => F6
    rename News g1 L1 _ _ => N6
    have Sr3 := Sr2.attr (rv' := .ref D) (po' := po) (nf' := nf) (h1 := q1) (h2 := q2) (h3 := q3) (h4 := q4) (t1 := t1) (t2 := t2) (t3 := t3) (t4 := t4) (t5 := t5) (t6 := t6)
    replace N6 : News g1 L1 _ (setN dS (srtD G (.ref D) po nf q1 q2 q3 q4 t1 t2 t3 t4 t5 t6) news2) := N6
    generalize hq8 : setN dS (srtD G (.ref D) po nf q1 q2 q3 q4 t1 t2 t3 t4 t5 t6) news2 = news3 at N6 Sr3
    have hS := Sr3.inst
    (with_reducible refine (?_ : let G9 : Prop := _; G9)); intro G9
    obtain ⟨q1, q2, q3, q4, t1, t2, t3, t4, t5, t6, hdS⟩ := Sr3.dict
    k_unfold; clear G9
    (repeat' (first | (((fail_if_success (fail_if_success k_unfold)); first | (with_reducible refine (?_ : wpAny _ _ _ _ _ _)) | k_unfold); try dsimp only) | ((fail_if_success (fail_if_success (with_reducible refine ex1 (by constructor) ?_))); (fail_if_success (fail_if_success k_fold)); (with_reducible refine (?_ : let qk := _; let ek := _; wpAny _ _ _ qk ek _)); intro qk ek) | ((fail_if_success (with_reducible first | ((fail_if_success (refine go1 (by constructor) ?_)); refine st1 (by constructor) ?_) | show Exists _)); walk1; try dsimp only)))
    refine cycle_spec (by k_asm) (by k_asm) (by k_asm) (by k_asm) (by k_asm) (by first | exact rfl | assumption) (by ktr_room) (by ktr_units) XB TB D1 Sr3 hcl hsu ?_ ?_
    · intro hno h0' h' tk' T' B' X' P' D' F' N'
      (repeat' (first | (((fail_if_success (fail_if_success k_unfold)); first | (with_reducible refine (?_ : wpAny _ _ _ _ _ _)) | k_unfold); try dsimp only) | ((fail_if_success (fail_if_success (with_reducible refine ex1 (by constructor) ?_))); (fail_if_success (fail_if_success k_fold)); (with_reducible refine (?_ : let qk := _; let ek := _; wpAny _ _ _ qk ek _)); intro qk ek) | ((fail_if_success (with_reducible first | ((fail_if_success (refine go1 (by constructor) ?_)); refine st1 (by constructor) ?_) | show Exists _)); walk1; try dsimp only)))
      refine hQ1 _ _ ?_
      (repeat' (first | (((fail_if_success (fail_if_success k_unfold)); first | (with_reducible refine (?_ : wpAny _ _ _ _ _ _)) | k_unfold); try dsimp only) | ((fail_if_success (fail_if_success (with_reducible refine ex1 (by constructor) ?_))); (fail_if_success (fail_if_success k_fold)); (with_reducible refine (?_ : let qk := _; let ek := _; wpAny _ _ _ qk ek _)); intro qk ek) | ((fail_if_success (with_reducible first | ((fail_if_success (refine go1 (by constructor) ?_)); refine st1 (by constructor) ?_) | show Exists _)); walk1; try dsimp only)))
      rename KtsTurn _ h₀ _ => kT
      rename Fr _ L _ m => kF
      rename News _ L _ _ => kN
      rename Below A₀ base outer _ => kB
      rename (K w.params).In _ => kX
      rename Top p loose mean mg mb _ => kP
      rename KtsDicts (outer.filterMap _) _ => kD
      exact hnone hno _ _ _ _ _ _ _ kT kB kX kP kD kF kN (Sr3.less fun q hq => by
        cases hq with
        | head => exact .head _
        | tail _ hq => exact .tail _ (.tail _ hq)) (fun q hq => off1_mem off q (.tail _ (Sr.apart q hq).1)) hys
    · intro v hv T us c h0' h' tk' hne hsz T' B' X' P' D' F' N' hoff
      have hpack := ground_turn (env := envX cn cs L a ccd cl) rfl B FG XB TB ‹KtsDicts (outer.filterMap (·.frame)) h₀› T'
      have Sr4 := (Sr3.cons (p := (T, W.listOf us c)) hoff).less (oth' := (D, lst ys) :: oth) (fun q hq => by
        cases hq with
        | head => exact .tail _ (.head _)
        | tail _ hq => exact .tail _ (.tail _ (.tail _ hq)))
      (repeat' (first | (((fail_if_success (fail_if_success k_unfold)); first | (with_reducible refine (?_ : wpAny _ _ _ _ _ _)) | k_unfold); try dsimp only) | ((fail_if_success (fail_if_success (with_reducible refine ex1 (by constructor) ?_))); (fail_if_success (fail_if_success k_fold)); (with_reducible refine (?_ : let qk := _; let ek := _; wpAny _ _ _ qk ek _)); intro qk ek) | ((fail_if_success (with_reducible first | ((fail_if_success (refine go1 (by constructor) ?_)); refine st1 (by constructor) ?_) | show Exists _)); walk1; try dsimp only)))
      · rename us.isEmpty = true => hem
        exact absurd (by simpa [Array.isEmpty] using hem) hne
      · rename RaisedS _ _ _ _ _ _ _ _ _ => hR
        rename Heap.UpToSlots _ _ => hU
        (with_reducible refine (?_ : let G9 : Prop := _; G9)); intro G9
        obtain ⟨h₀', gT, gF, gB, gX, gP, gD⟩ := hpack
        k_unfold; clear G9
        exact hring v hv _ _ _ _ _ _ _ _ _ gT gF gB gX gP gD hR.toSN hU Sr4 (fun q hq => off1_mem off q (.tail _ (Sr.apart q hq).1)) hys
end
section
def rng (n : Nat) : List Int := (List.range n).map fun (k : Nat) => (k : Int)
theorem mem_rng {n : Nat} {x : Int} : x ∈ rng n ↔ 0 ≤ x ∧ x < n := by
  unfold rng
  rw [List.mem_map]
  constructor
  · rintro ⟨k, hk, rfl⟩
    have := List.mem_range.mp hk
    lia
  · rintro ⟨h0, h1⟩
    exact ⟨x.toNat, List.mem_range.mpr (by lia), by lia⟩
theorem rng_nodup (n : Nat) : (rng n).Nodup := by
  unfold rng
  induction n with
  | zero => exact List.nodup_nil
  | succ n ih =>
    rw [List.range_succ, List.map_append]
    refine List.nodup_append.mpr ⟨ih, by simp, ?_⟩
    intro a ha b hb e
    obtain ⟨k, hk, rfl⟩ := List.mem_map.mp ha
    have := List.mem_range.mp hk
    have hb : b = (n : Int) := by simpa using hb
    lia
theorem rng_succ (n : Nat) : rng (n + 1) = rng n ++ [(n : Int)] := by unfold rng; rw [List.range_succ, List.map_append]; rfl
theorem len_leG {A B : List Int} (hn : A.Nodup) (h : ∀ x ∈ A, x ∈ B) : A.length ≤ B.length := by
  induction A generalizing B with
  | nil => exact Nat.zero_le _
  | cons a r ih =>
    have hc := List.nodup_cons.mp hn
    have ha : a ∈ B := h a (.head _)
    have := ih (B := B.erase a) hc.2 fun x hx => (List.mem_erase_of_ne fun e => hc.1 (by rw [← e]; exact hx)).mpr (h x (.tail _ hx))
    rw [List.length_erase_of_mem ha] at this
    have := List.length_pos_of_mem ha
    rw [List.length_cons]; omega
theorem gEnsure_has {g : Gr} {k : Int} : ∃ e ∈ gEnsure g k, e.1 = k := by
  unfold gEnsure
  split
  · assumption
  · exact ⟨_, List.mem_append_right _ (.head _), rfl⟩
theorem of_gEnsure {g : Gr} {k : Int} {e : Int × Int × List Int} (h : e ∈ gEnsure g k) : e ∈ g ∨ (e = (k, 0, []) ∧ ∀ x ∈ g, x.1 ≠ k) := by
  unfold gEnsure at h
  split at h
  · exact .inl h
  · rename_i hn
    rcases List.mem_append.mp h with h | h
    · exact .inl h
    · exact .inr ⟨List.mem_singleton.mp h, fun x hx e => hn ⟨x, hx, e⟩⟩
theorem gEnsure_sub {g : Gr} {k : Int} {e : Int × Int × List Int} (h : e ∈ g) : e ∈ gEnsure g k := by
  unfold gEnsure
  split
  · exact h
  · exact List.mem_append_left _ h
theorem gEnsure_nd {g : Gr} {k : Int} (h : (g.map (·.1)).Nodup) : ((gEnsure g k).map (·.1)).Nodup := by
  unfold gEnsure
  split
  · exact h
  · rename_i hn
    rw [List.map_append]
    refine List.nodup_append.mpr ⟨h, by simp, ?_⟩
    intro a ha b hb e
    obtain ⟨x, hx, rfl⟩ := List.mem_map.mp ha
    have hb : b = k := by simpa using hb
    exact hn ⟨x, hx, e.trans hb⟩
theorem gNp_keys {g : Gr} {k : Int} {f : Int → Int} : (gNp g k f).map (·.1) = g.map (·.1) := by
  unfold gNp
  rw [List.map_map]
  refine List.map_congr_left fun e _ => ?_
  show (if e.1 = k then _ else e).1 = e.1
  split <;> rfl
theorem gPush_keys {g : Gr} {k j : Int} : (gPush g k j).map (·.1) = g.map (·.1) := by
  unfold gPush
  rw [List.map_map]
  refine List.map_congr_left fun e _ => ?_
  show (if e.1 = k then _ else e).1 = e.1
  split <;> rfl
theorem of_gNp {g : Gr} {k : Int} {f : Int → Int} {e : Int × Int × List Int} (h : e ∈ gNp g k f) : ∃ x ∈ g, e.1 = x.1 ∧ e.2.2 = x.2.2 ∧ e.2.1 = if x.1 = k then f x.2.1 else x.2.1 := by
  obtain ⟨x, hx, rfl⟩ := List.mem_map.mp h
  refine ⟨x, hx, ?_⟩
  by_cases hk : x.1 = k
  · simp [hk]
  · simp [hk]
theorem of_gPush {g : Gr} {k j : Int} {e : Int × Int × List Int} (h : e ∈ gPush g k j) : ∃ x ∈ g, e.1 = x.1 ∧ e.2.1 = x.2.1 ∧ e.2.2 = if x.1 = k then x.2.2 ++ [j] else x.2.2 := by
  obtain ⟨x, hx, rfl⟩ := List.mem_map.mp h
  refine ⟨x, hx, ?_⟩
  by_cases hk : x.1 = k
  · simp [hk]
  · simp [hk]
theorem gNp_mem {g : Gr} {k : Int} {f : Int → Int} {x : Int} (h : ∃ e ∈ g, e.1 = x) : ∃ e ∈ gNp g k f, e.1 = x := by
  have : x ∈ (gNp g k f).map (·.1) := by rw [gNp_keys]; obtain ⟨e, he, rfl⟩ := h; exact List.mem_map.mpr ⟨e, he, rfl⟩
  obtain ⟨e, he, q⟩ := List.mem_map.mp this
  exact ⟨e, he, q⟩
theorem gPush_mem {g : Gr} {k j : Int} {x : Int} (h : ∃ e ∈ g, e.1 = x) : ∃ e ∈ gPush g k j, e.1 = x := by
  have : x ∈ (gPush g k j).map (·.1) := by rw [gPush_keys]; obtain ⟨e, he, rfl⟩ := h; exact List.mem_map.mpr ⟨e, he, rfl⟩
  obtain ⟨e, he, q⟩ := List.mem_map.mp this
  exact ⟨e, he, q⟩
structure GOk (N : Nat) (pr : Int → List Int) (i : Nat) (g : Gr) : Prop where
  nd : (g.map (·.1)).Nodup
  at' : ∀ e ∈ g, 0 ≤ e.1 ∧ e.1 < N ∧ e.2.1 = (if e.1 < i then ((pr e.1).length : Int) else 0) ∧ e.2.2 = (rng i).filter fun k => decide (e.1 ∈ pr k)
  all : ∀ k : Int, 0 ≤ k → k < i → ∃ e ∈ g, e.1 = k
  cl : ∀ k : Int, 0 ≤ k → k < i → ∀ p ∈ pr k, ∃ e ∈ g, e.1 = p
theorem gok_zero (N : Nat) (pr : Int → List Int) : GOk N pr 0 [] := ⟨List.nodup_nil, fun e h => (List.not_mem_nil h).elim, fun k h0 h1 => by omega, fun k h0 h1 => by omega⟩
structure GMid (N : Nat) (pr : Int → List Int) (i : Nat) (ps : List Int) (g : Gr) : Prop where
  nd : (g.map (·.1)).Nodup
  at' : ∀ e ∈ g, 0 ≤ e.1 ∧ e.1 < N ∧ e.2.1 = (if e.1 < (i : Int) + 1 then ((pr e.1).length : Int) else 0) ∧ e.2.2 = ((rng i).filter fun k => decide (e.1 ∈ pr k)) ++ (if e.1 ∈ ps then [(i : Int)] else [])
  all : ∀ k : Int, 0 ≤ k → k < (i : Int) + 1 → ∃ e ∈ g, e.1 = k
  cl : ∀ k : Int, 0 ≤ k → k < i → ∀ p ∈ pr k, ∃ e ∈ g, e.1 = p
  cp : ∀ p ∈ ps, ∃ e ∈ g, e.1 = p
theorem gmid_step {N : Nat} {pr : Int → List Int} {i : Nat} {ps : List Int} {g : Gr} {p : Int} (h : GMid N pr i ps g) (hp : 0 ≤ p ∧ p < N) (hn : p ∉ ps) (hi : ∀ k : Int, 0 ≤ k → k < i → p ∈ pr k → ∃ e ∈ g, e.1 = p) : GMid N pr i (ps ++ [p]) (gPush (gEnsure g p) p i) where
  nd := by rw [gPush_keys]; exact gEnsure_nd h.nd
  at' := fun e he => by
    obtain ⟨x, hx, e1, e2, e3⟩ := of_gPush he
    rcases of_gEnsure hx with hx | ⟨rfl, hno⟩
    · obtain ⟨a, b, c, d⟩ := h.at' x hx
      refine ⟨by rw [e1]; exact a, by rw [e1]; exact b, by rw [e1, e2]; exact c, ?_⟩
      rw [e3, d, e1]
      by_cases hk : x.1 = p
      · rw [if_pos hk, hk, if_neg hn, List.append_nil, if_pos (List.mem_append_right _ (.head _))]
      · rw [if_neg hk]
        congr 1
        by_cases hm : x.1 ∈ ps
        · rw [if_pos hm, if_pos (List.mem_append_left _ hm)]
        · rw [if_neg hm, if_neg (fun q => by rcases List.mem_append.mp q with q | q; exact hm q; exact hk (List.mem_singleton.mp q))]
    · dsimp only at e1 e2 e3
      have hnp : ¬ (p < (i : Int) + 1) := fun q => by
        obtain ⟨x, hx, ex⟩ := h.all p hp.1 q
        exact hno x hx ex
      refine ⟨by rw [e1]; exact hp.1, by rw [e1]; exact hp.2, by rw [e1, e2, if_neg hnp], ?_⟩
      rw [e3, e1, if_pos rfl, if_pos (List.mem_append_right _ (.head _))]
      have : (rng i).filter (fun k => decide (p ∈ pr k)) = [] := by
        refine List.filter_eq_nil_iff.mpr fun k hk => ?_
        have hk := mem_rng.mp hk
        simp only [decide_eq_true_eq]
        intro q
        obtain ⟨x, hx, ex⟩ := hi k hk.1 hk.2 q
        exact hno x hx ex
      rw [this]
  all := fun k h0 h1 => gPush_mem (let ⟨e, he, q⟩ := h.all k h0 h1; ⟨e, gEnsure_sub he, q⟩)
  cl := fun k h0 h1 q hq => gPush_mem (let ⟨e, he, z⟩ := h.cl k h0 h1 q hq; ⟨e, gEnsure_sub he, z⟩)
  cp := fun q hq => by
    rcases List.mem_append.mp hq with hq | hq
    · exact gPush_mem (let ⟨e, he, z⟩ := h.cp q hq; ⟨e, gEnsure_sub he, z⟩)
    · rw [List.mem_singleton.mp hq]; exact gPush_mem gEnsure_has
theorem gmid_fold {N : Nat} {pr : Int → List Int} {i : Nat} : ∀ (rest ps : List Int) (g : Gr), GMid N pr i ps g → (ps ++ rest).Nodup → (∀ p ∈ rest, 0 ≤ p ∧ p < N) → GMid N pr i (ps ++ rest) (rest.foldl (fun g p => gPush (gEnsure g p) p i) g)
  | [], ps, g, h, _, _ => by rw [List.append_nil]; exact h
  | p :: r, ps, g, h, hn, hb => by
    have hps : p ∉ ps := fun q => (List.nodup_append.mp hn).2.2 _ q _ (.head _) rfl
    have h1 := gmid_step h (hb p (.head _)) hps fun k h0 h1 q => h.cl k h0 h1 p q
    have := gmid_fold r (ps ++ [p]) _ h1 (by rw [List.append_assoc]; exact hn) fun q hq => hb q (.tail _ hq)
    rw [List.append_assoc] at this
    exact this
theorem gok_add {N : Nat} {pr : Int → List Int} {i : Nat} {g : Gr} (h : GOk N pr i g) (hi : i < N) (hnd : (pr i).Nodup) (hb : ∀ p ∈ pr i, 0 ≤ p ∧ p < N) : GOk N pr (i + 1) (gAdd g i (pr i)) := by
  have h0 : GMid N pr i [] (gNp (gEnsure g i) i (· + ((pr i).length : Int))) := by
    refine ⟨by rw [gNp_keys]; exact gEnsure_nd h.nd, fun e he => ?_, fun k h0 h1 => ?_, fun k h0 h1 p hp => gNp_mem (let ⟨e, he, q⟩ := h.cl k h0 h1 p hp; ⟨e, gEnsure_sub he, q⟩), fun p hp => (List.not_mem_nil hp).elim⟩
    · obtain ⟨x, hx, e1, e2, e3⟩ := of_gNp he
      rw [if_neg (List.not_mem_nil), List.append_nil]
      rcases of_gEnsure hx with hx | ⟨rfl, hno⟩
      · obtain ⟨a, b, c, d⟩ := h.at' x hx
        refine ⟨by rw [e1]; exact a, by rw [e1]; exact b, ?_, by rw [e1, e2]; exact d⟩
        rw [e3, e1]
        by_cases hk : x.1 = i
        · rw [if_pos hk, c, if_neg (by lia), if_pos (by lia), hk]; lia
        · rw [if_neg hk, c]
          by_cases hl : x.1 < (i : Int)
          · rw [if_pos hl, if_pos (by lia)]
          · rw [if_neg hl, if_neg (by lia)]
      · dsimp only at e1 e2 e3
        refine ⟨by rw [e1]; lia, by rw [e1]; lia, ?_, ?_⟩
        · rw [e3, e1, if_pos rfl, if_pos (by lia)]; lia
        · rw [e2, e1]
          refine (List.filter_eq_nil_iff.mpr fun k hk => ?_).symm
          have hk := mem_rng.mp hk
          simp only [decide_eq_true_eq]
          intro q
          obtain ⟨x, hx, ex⟩ := h.cl k hk.1 hk.2 _ q
          exact hno x hx ex
    · by_cases hk : k < (i : Int)
      · exact gNp_mem (let ⟨e, he, q⟩ := h.all k h0 hk; ⟨e, gEnsure_sub he, q⟩)
      · obtain rfl : k = i := by lia
        exact gNp_mem gEnsure_has
  have h1 := gmid_fold (pr i) [] _ h0 (by simpa using hnd) hb
  rw [List.nil_append] at h1
  unfold gAdd
  refine ⟨h1.nd, fun e he => ?_, fun k k0 k1 => h1.all k k0 (by lia), fun k k0 k1 p hp => ?_⟩
  · obtain ⟨a, b, c, d⟩ := h1.at' e he
    refine ⟨a, b, ?_, ?_⟩
    · rw [c]
      by_cases hl : e.1 < (i : Int) + 1
      · rw [if_pos hl, if_pos (by lia)]
      · rw [if_neg hl, if_neg (by lia)]
    · rw [d, rng_succ, List.filter_append]
      congr 1
      by_cases hm : e.1 ∈ pr i
      · simp [hm]
      · simp [hm]
  · by_cases hk : k < (i : Int)
    · exact h1.cl k k0 hk p hp
    · obtain rfl : k = i := by lia
      exact h1.cp p hp
theorem gok_len {N : Nat} {pr : Int → List Int} {i : Nat} {g : Gr} (h : GOk N pr i g) : g.length ≤ N := by
  have := len_leG h.nd (B := rng N) fun x hx => by
    obtain ⟨e, he, rfl⟩ := List.mem_map.mp hx
    exact mem_rng.mpr ⟨(h.at' e he).1, (h.at' e he).2.1⟩
  rw [List.length_map] at this
  unfold rng at this
  rw [List.length_map, List.length_range] at this
  exact this
theorem gok_su {N : Nat} {pr : Int → List Int} {i : Nat} {g : Gr} (h : GOk N pr i g) : ∀ e ∈ g, e.2.2.length ≤ i := fun e he => by
  rw [(h.at' e he).2.2.2]
  refine Nat.le_trans (List.length_filter_le _ _) ?_
  unfold rng
  rw [List.length_map, List.length_range]
  exact Nat.le_refl _
end
section
theorem gNpOf_at {g : Gr} {e : Int × Int × List Int} (hn : (g.map (·.1)).Nodup) (he : e ∈ g) : gNpOf g e.1 = e.2.1 ∧ gSu g e.1 = e.2.2 := by
  have : g.find? (fun x => x.1 == e.1) = some e := by
    induction g with
    | nil => cases he
    | cons a r ih =>
      have hc := List.nodup_cons.mp hn
      cases he with
      | head => simp
      | tail _ he =>
        have hne : a.1 ≠ e.1 := fun q => hc.1 (List.mem_map.mpr ⟨e, he, q.symm⟩)
        rw [List.find?_cons_of_neg (by simpa using hne)]
        exact ih hc.2 he
  unfold gNpOf gSu
  rw [this]
  exact ⟨rfl, rfl⟩
theorem keys_gNp {g : Gr} {k : Int} {f : Int → Int} {x : Int} : (∃ e ∈ gNp g k f, e.1 = x) ↔ ∃ e ∈ g, e.1 = x := by
  constructor
  · rintro ⟨e, he, rfl⟩
    obtain ⟨y, hy, q, _⟩ := of_gNp he
    exact ⟨y, hy, q.symm⟩
  · exact gNp_mem
def lf (ps dn : List Int) : Int := ((ps.filter fun p => decide (p ∉ dn)).length : Int)
structure KS (N : Nat) (pr : Int → List Int) (dn : List Int) (g : Gr) (rd : List Int) : Prop where
  nd : (g.map (·.1)).Nodup
  keys : ∀ x, (∃ e ∈ g, e.1 = x) ↔ 0 ≤ x ∧ x < N
  su : ∀ e ∈ g, e.2.2 = (rng N).filter fun k => decide (e.1 ∈ pr k)
  np : ∀ e ∈ g, e.2.1 = if e.1 ∈ dn then -2 else lf (pr e.1) dn
  dcl : ∀ k ∈ dn, 0 ≤ k ∧ k < N ∧ ∀ p ∈ pr k, p ∈ dn
  rnd : rd.Nodup
  rmem : ∀ x, x ∈ rd ↔ 0 ≤ x ∧ x < N ∧ x ∉ dn ∧ ∀ p ∈ pr x, p ∈ dn
theorem lf_zero {ps dn : List Int} : lf ps dn = 0 ↔ ∀ p ∈ ps, p ∈ dn := by
  unfold lf
  constructor
  · intro h p hp
    have : (ps.filter fun p => decide (p ∉ dn)).length = 0 := by lia
    have := List.eq_nil_of_length_eq_zero this
    have := List.filter_eq_nil_iff.mp this p hp
    simpa using this
  · intro h
    have : ps.filter (fun p => decide (p ∉ dn)) = [] := List.filter_eq_nil_iff.mpr fun p hp => by simpa using h p hp
    rw [this]; rfl
theorem lf_nonneg {ps dn : List Int} : 0 ≤ lf ps dn := by unfold lf; lia
theorem lf_snoc {ps dn : List Int} {k : Int} (hn : ps.Nodup) (hk : k ∉ dn) : lf ps (dn ++ [k]) = lf ps dn - (if k ∈ ps then 1 else 0) := by
  have hf : (fun p : Int => decide (p ∉ dn ++ [k])) = fun p => decide (p ∉ dn) && decide (p ≠ k) := by
    funext p
    rw [Bool.eq_iff_iff]
    simp
  unfold lf
  rw [hf]
  induction ps with
  | nil => simp
  | cons a r ih =>
    have hc := List.nodup_cons.mp hn
    have h1 := ih hc.2
    rw [List.filter_cons, List.filter_cons]
    by_cases ha : a = k
    · subst ha
      rw [if_neg hc.1] at h1
      rw [if_neg (by simp), if_pos (by simpa using hk), if_pos (.head _), List.length_cons]
      lia
    · have hm : (k ∈ a :: r) ↔ k ∈ r := by simp [Ne.symm ha]
      simp only [hm]
      by_cases hd : a ∈ dn
      · rw [if_neg (by simp [hd]), if_neg (by simp [hd])]; exact h1
      · rw [if_pos (by simp [hd, ha]), if_pos (by simp [hd]), List.length_cons, List.length_cons]
        lia
theorem ks_init {N : Nat} {pr : Int → List Int} {g : Gr} (h : GOk N pr N g) : KS N pr [] g ((g.filter fun e => e.2.1 == 0).map (·.1)) where
  nd := h.nd
  keys := fun x => ⟨fun ⟨e, he, q⟩ => q ▸ ⟨(h.at' e he).1, (h.at' e he).2.1⟩, fun hx => h.all x hx.1 hx.2⟩
  su := fun e he => (h.at' e he).2.2.2
  np := fun e he => by
    obtain ⟨a, b, c, _⟩ := h.at' e he
    rw [c, if_pos b, if_neg (List.not_mem_nil)]
    unfold lf
    rw [List.filter_eq_self.mpr fun p _ => by simp]
  dcl := fun k hk => by cases hk
  rnd := (h.nd.sublist ((List.filter_sublist ..).map _))
  rmem := fun x => by
    constructor
    · intro hx
      obtain ⟨e, he, rfl⟩ := List.mem_map.mp hx
      obtain ⟨he, hz⟩ := List.mem_filter.mp he
      obtain ⟨a, b, c, _⟩ := h.at' e he
      refine ⟨a, b, List.not_mem_nil, fun p hp => ?_⟩
      rw [if_pos b] at c
      have hz : e.2.1 = 0 := by simpa using hz
      have : (pr e.1).length = 0 := by lia
      rw [List.eq_nil_of_length_eq_zero this] at hp
      cases hp
    · rintro ⟨a, b, _, hp⟩
      obtain ⟨e, he, rfl⟩ := h.all x a b
      refine List.mem_map.mpr ⟨e, List.mem_filter.mpr ⟨he, ?_⟩, rfl⟩
      obtain ⟨_, _, c, _⟩ := h.at' e he
      have : pr e.1 = [] := by
        cases hq : pr e.1 with
        | nil => rfl
        | cons p r => exact absurd (hp p (by rw [hq]; exact .head _)) List.not_mem_nil
      rw [c, if_pos b, this]; rfl
structure KM (N : Nat) (pr : Int → List Int) (dn ds rest : List Int) (g : Gr) (rd : List Int) : Prop where
  nd : (g.map (·.1)).Nodup
  keys : ∀ x, (∃ e ∈ g, e.1 = x) ↔ 0 ≤ x ∧ x < N
  su : ∀ e ∈ g, e.2.2 = (rng N).filter fun k => decide (e.1 ∈ pr k)
  np : ∀ e ∈ g, e.2.1 = if e.1 ∈ dn ++ ds then -2 else if e.1 ∈ rest then -1 else lf (pr e.1) (dn ++ ds)
  rnd : rd.Nodup
  rmem : ∀ x, x ∈ rd ↔ 0 ≤ x ∧ x < N ∧ x ∉ dn ++ ds ∧ x ∉ rest ∧ ∀ p ∈ pr x, p ∈ dn ++ ds
structure KI (N : Nat) (pr : Int → List Int) (dd rest : List Int) (k : Int) (rd0 js : List Int) (g : Gr) (rd : List Int) : Prop where
  nd : (g.map (·.1)).Nodup
  keys : ∀ x, (∃ e ∈ g, e.1 = x) ↔ 0 ≤ x ∧ x < N
  su : ∀ e ∈ g, e.2.2 = (rng N).filter fun k => decide (e.1 ∈ pr k)
  np : ∀ e ∈ g, e.2.1 = if e.1 ∈ dd ++ [k] then -2 else if e.1 ∈ rest then -1 else lf (pr e.1) dd - (if e.1 ∈ js then 1 else 0)
  rnd : rd.Nodup
  rmem : ∀ x, x ∈ rd ↔ x ∈ rd0 ∨ (x ∈ js ∧ lf (pr x) dd - 1 = 0)
theorem ki_step {N : Nat} {pr : Int → List Int} {dd rest rd0 js : List Int} {k j : Int} {g : Gr} {rd : List Int} (h : KI N pr dd rest k rd0 js g rd) (hj : 0 ≤ j ∧ j < N) (h1 : j ∉ dd ++ [k]) (h2 : j ∉ rest) (h3 : j ∉ js) (h4 : j ∉ rd0) :
    KI N pr dd rest k rd0 (js ++ [j]) (gDec (g, rd) j).1 (gDec (g, rd) j).2 := by
  have hnd' : ((gNp g j (· - 1)).map (·.1)).Nodup := by rw [gNp_keys]; exact h.nd
  have hnp' : ∀ e ∈ gNp g j (· - 1), e.2.1 = if e.1 ∈ dd ++ [k] then -2 else if e.1 ∈ rest then -1 else lf (pr e.1) dd - (if e.1 ∈ js ++ [j] then 1 else 0) := fun e he => by
    obtain ⟨x, hx, e1, e2, e3⟩ := of_gNp he
    rw [e3, e1, h.np x hx]
    by_cases hk : x.1 = j
    · rw [if_pos hk, hk, if_neg h1, if_neg h2, if_neg h3, if_neg h1, if_neg h2, if_pos (List.mem_append_right _ (.head _))]; lia
    · have hjs : (x.1 ∈ js ++ [j]) ↔ x.1 ∈ js := by simp [hk]
      rw [if_neg hk]
      simp only [hjs]
  obtain ⟨e, he, rfl⟩ := (keys_gNp (g := g) (k := j) (f := (· - 1))).mpr ((h.keys j).mpr hj)
  have hof : gNpOf (gNp g e.1 (· - 1)) e.1 = lf (pr e.1) dd - 1 := by
    rw [(gNpOf_at hnd' he).1, hnp' e he, if_neg h1, if_neg h2, if_pos (List.mem_append_right _ (.head _))]
  have hg1 : (gDec (g, rd) e.1).1 = gNp g e.1 (· - 1) := rfl
  refine ⟨by rw [hg1]; exact hnd', fun x => by rw [hg1]; exact keys_gNp.trans (h.keys x), fun x hx => ?_, by rw [hg1]; exact hnp', ?_, fun x => ?_⟩
  · rw [hg1] at hx
    obtain ⟨y, hy, e1, e2, _⟩ := of_gNp hx
    rw [e2, e1]; exact h.su y hy
  · unfold gDec
    dsimp only
    split
    · refine List.nodup_append.mpr ⟨h.rnd, by simp, fun a ha b hb q => ?_⟩
      have hb : b = e.1 := by simpa using hb
      rw [q, hb] at ha
      rcases (h.rmem _).mp ha with z | ⟨z, _⟩
      · exact h4 z
      · exact h3 z
    · exact h.rnd
  · unfold gDec
    dsimp only
    rw [hof]
    split
    · rename_i hz
      rw [List.mem_append, h.rmem, List.mem_append, List.mem_singleton]
      constructor
      · rintro ((z | ⟨z, q⟩) | z)
        · exact .inl z
        · exact .inr ⟨.inl z, q⟩
        · exact .inr ⟨.inr z, by rw [z]; exact hz⟩
      · rintro (z | ⟨z | z, q⟩)
        · exact .inl (.inl z)
        · exact .inl (.inr ⟨z, q⟩)
        · exact .inr z
    · rename_i hz
      rw [h.rmem, List.mem_append, List.mem_singleton]
      constructor
      · rintro (z | ⟨z, q⟩)
        · exact .inl z
        · exact .inr ⟨.inl z, q⟩
      · rintro (z | ⟨z | z, q⟩)
        · exact .inl z
        · exact .inr ⟨z, q⟩
        · rw [z] at q; exact absurd q hz
theorem ki_fold {N : Nat} {pr : Int → List Int} {dd rest rd0 : List Int} {k : Int} : ∀ (todo js : List Int) (g : Gr) (rd : List Int), KI N pr dd rest k rd0 js g rd → (js ++ todo).Nodup → (∀ j ∈ todo, (0 ≤ j ∧ j < N) ∧ j ∉ dd ++ [k] ∧ j ∉ rest ∧ j ∉ rd0) →
    KI N pr dd rest k rd0 (js ++ todo) (todo.foldl gDec (g, rd)).1 (todo.foldl gDec (g, rd)).2
  | [], js, g, rd, h, _, _ => by rw [List.append_nil]; exact h
  | j :: r, js, g, rd, h, hn, hb => by
    have hj : j ∉ js := fun q => (List.nodup_append.mp hn).2.2 _ q _ (.head _) rfl
    obtain ⟨a, b, c, d⟩ := hb j (.head _)
    have h1 := ki_step h a b c hj d
    have := ki_fold r (js ++ [j]) _ _ h1 (by rw [List.append_assoc]; exact hn) fun q hq => hb q (.tail _ hq)
    rw [List.append_assoc] at this
    exact this
theorem km_step {N : Nat} {pr : Int → List Int} {dn ds rest : List Int} {k : Int} {g : Gr} {rd : List Int} (hpn : ∀ x, (pr x).Nodup) (h : KM N pr dn ds (k :: rest) g rd) (hk : 0 ≤ k ∧ k < N) (hkd : k ∉ dn ++ ds) (hkr : k ∉ rest)
    (hno : ∀ j, k ∈ pr j → j ∉ dn ++ ds ∧ j ∉ k :: rest) : KM N pr dn (ds ++ [k]) rest (gOne (g, rd) k).1 (gOne (g, rd) k).2 := by
  obtain ⟨e, he, rfl⟩ := (h.keys k).mpr hk
  have hsu : gSu g e.1 = (rng N).filter fun j => decide (e.1 ∈ pr j) := by rw [(gNpOf_at h.nd he).2]; exact h.su e he
  have h0 : KI N pr (dn ++ ds) rest e.1 rd [] (gNp g e.1 fun _ => -2) rd := by
    refine ⟨by rw [gNp_keys]; exact h.nd, fun x => keys_gNp.trans (h.keys x), fun x hx => ?_, fun x hx => ?_, h.rnd, fun x => ⟨.inl, fun q => q.elim id fun z => absurd z.1 List.not_mem_nil⟩⟩
    · obtain ⟨y, hy, e1, e2, _⟩ := of_gNp hx
      rw [e2, e1]; exact h.su y hy
    · obtain ⟨y, hy, e1, e2, e3⟩ := of_gNp hx
      rw [e3, e1]
      by_cases hq : y.1 = e.1
      · rw [if_pos hq, hq, if_pos (List.mem_append_right _ (.head _))]
      · have h5 : (y.1 ∈ dn ++ ds ++ [e.1]) ↔ y.1 ∈ dn ++ ds := by
          rw [List.mem_append (s := dn ++ ds), List.mem_singleton]
          exact ⟨fun z => z.resolve_right hq, .inl⟩
        have h6 : (y.1 ∈ e.1 :: rest) ↔ y.1 ∈ rest := by
          rw [List.mem_cons]
          exact ⟨fun z => z.resolve_left hq, .inr⟩
        rw [if_neg hq, h.np y hy, if_neg (List.not_mem_nil (a := y.1))]
        simp only [h5, h6, Int.sub_zero]
  have hsn : ((rng N).filter fun j => decide (e.1 ∈ pr j)).Nodup := (rng_nodup N).filter _
  have h1 := ki_fold ((rng N).filter fun j => decide (e.1 ∈ pr j)) [] _ _ h0 (by rw [List.nil_append]; exact hsn) fun j hj => by
    obtain ⟨a, b⟩ := List.mem_filter.mp hj
    have b : e.1 ∈ pr j := by simpa using b
    obtain ⟨c, d⟩ := hno j b
    refine ⟨mem_rng.mp a, fun z => ?_, fun z => d (.tail _ z), fun z => hkd (((h.rmem j).mp z).2.2.2.2 _ b)⟩
    rcases List.mem_append.mp z with z | z
    · exact c z
    · exact d (List.mem_singleton.mp z ▸ .head _)
  rw [List.nil_append] at h1
  unfold gOne
  dsimp only
  rw [hsu]
  have hsm : ∀ x : Int, 0 ≤ x → x < N → (x ∈ (rng N).filter (fun j => decide (e.1 ∈ pr j)) ↔ e.1 ∈ pr x) := fun x a b => by
    rw [List.mem_filter, mem_rng]
    simp [a, b]
  refine ⟨h1.nd, h1.keys, h1.su, fun x hx => ?_, h1.rnd, fun x => ?_⟩
  · have hb := (h1.keys x.1).mp ⟨x, hx, rfl⟩
    rw [h1.np x hx, ← List.append_assoc, lf_snoc (hpn _) hkd]
    by_cases hm : e.1 ∈ pr x.1
    · rw [if_pos ((hsm _ hb.1 hb.2).mpr hm), if_pos hm]
    · rw [if_neg (fun z => hm ((hsm _ hb.1 hb.2).mp z)), if_neg hm]
  · rw [h1.rmem, h.rmem, ← List.append_assoc]
    constructor
    · rintro (⟨a, b, c, d, f⟩ | ⟨a, b⟩)
      · refine ⟨a, b, fun z => ?_, fun z => d (.tail _ z), fun p hp => List.mem_append_left _ (f p hp)⟩
        rcases List.mem_append.mp z with z | z
        · exact c z
        · exact d (List.mem_singleton.mp z ▸ .head _)
      · obtain ⟨a1, a2⟩ := List.mem_filter.mp a
        have a1 := mem_rng.mp a1
        have a2 : e.1 ∈ pr x := by simpa using a2
        obtain ⟨c, d⟩ := hno x a2
        refine ⟨a1.1, a1.2, fun z => ?_, fun z => d (.tail _ z), ?_⟩
        · rcases List.mem_append.mp z with z | z
          · exact c z
          · exact d (List.mem_singleton.mp z ▸ .head _)
        · rw [← lf_zero, lf_snoc (hpn _) hkd, if_pos a2]; exact b
    · rintro ⟨a, b, c, d, f⟩
      by_cases hm : e.1 ∈ pr x
      · refine .inr ⟨(hsm x a b).mpr hm, ?_⟩
        have := lf_zero.mpr f
        rw [lf_snoc (hpn _) hkd, if_pos hm] at this
        exact this
      · refine .inl ⟨a, b, fun z => c (List.mem_append_left _ z), fun z => ?_, fun p hp => ?_⟩
        · rcases List.mem_cons.mp z with z | z
          · exact c (z ▸ List.mem_append_right _ (.head _))
          · exact d z
        · rcases List.mem_append.mp (f p hp) with q | q
          · exact q
          · exact absurd (List.mem_singleton.mp q ▸ hp) hm
theorem km_fold {N : Nat} {pr : Int → List Int} {dn : List Int} (hpn : ∀ x, (pr x).Nodup) : ∀ (rest ds : List Int) (g : Gr) (rd : List Int), KM N pr dn ds rest g rd → (ds ++ rest).Nodup → (∀ k ∈ rest, (0 ≤ k ∧ k < N) ∧ k ∉ dn) → (∀ k ∈ rest, ∀ j, k ∈ pr j → j ∉ dn ∧ j ∉ ds ++ rest) →
    KM N pr dn (ds ++ rest) [] (rest.foldl gOne (g, rd)).1 (rest.foldl gOne (g, rd)).2
  | [], ds, g, rd, h, _, _, _ => by rw [List.append_nil]; exact h
  | k :: r, ds, g, rd, h, hn, hb, hno => by
    have hks : k ∉ ds := fun q => (List.nodup_append.mp hn).2.2 _ q _ (.head _) rfl
    have hkr : k ∉ r := (List.nodup_cons.mp (List.nodup_append.mp hn).2.1).1
    obtain ⟨a, b⟩ := hb k (.head _)
    have h1 := km_step hpn h a (fun z => by rcases List.mem_append.mp z with z | z; exact b z; exact hks z) hkr fun j hj => by
      obtain ⟨c, d⟩ := hno k (.head _) j hj
      exact ⟨fun z => by rcases List.mem_append.mp z with z | z; exact c z; exact d (List.mem_append_left _ z), fun z => d (List.mem_append_right _ z)⟩
    have := km_fold hpn r (ds ++ [k]) _ _ h1 (by rw [List.append_assoc]; exact hn) (fun q hq => hb q (.tail _ hq)) fun q hq j hj => by
      obtain ⟨c, d⟩ := hno q (.tail _ hq) j hj
      exact ⟨c, by rw [List.append_assoc]; exact d⟩
    rw [List.append_assoc] at this
    exact this
theorem out_np {rs : List Int} : ∀ {g : Gr} {e : Int × Int × List Int}, e ∈ rs.foldl (fun g r => gNp g r fun _ => -1) g → ∃ x ∈ g, e.1 = x.1 ∧ e.2.2 = x.2.2 ∧ e.2.1 = if x.1 ∈ rs then -1 else x.2.1 := by
  induction rs with
  | nil => intro g e he; exact ⟨e, he, rfl, rfl, by rw [if_neg List.not_mem_nil]⟩
  | cons r t ih =>
    intro g e he
    obtain ⟨y, hy, e1, e2, e3⟩ := ih he
    obtain ⟨x, hx, f1, f2, f3⟩ := of_gNp hy
    refine ⟨x, hx, e1.trans f1, e2.trans f2, ?_⟩
    rw [e3, f3, f1]
    by_cases ht : x.1 ∈ t
    · rw [if_pos ht, if_pos (List.mem_cons_of_mem _ ht)]
    · rw [if_neg ht]
      by_cases hr : x.1 = r
      · rw [if_pos hr, if_pos (hr ▸ .head _)]
      · rw [if_neg hr, if_neg (fun z => by rcases List.mem_cons.mp z with z | z; exact hr z; exact ht z)]
theorem out_keys {rs : List Int} : ∀ {g : Gr}, (rs.foldl (fun g r => gNp g r fun _ => -1) g).map (·.1) = g.map (·.1) := by
  induction rs with
  | nil => intro g; rfl
  | cons r t ih => intro g; exact (ih (g := gNp g r fun _ => -1)).trans gNp_keys
theorem ks_out {N : Nat} {pr : Int → List Int} {dn rs : List Int} {g : Gr} (h : KS N pr dn g rs) : KM N pr dn [] rs (rs.foldl (fun g r => gNp g r fun _ => -1) g) [] where
  nd := by rw [out_keys]; exact h.nd
  keys := fun x => by
    rw [← h.keys x]
    constructor
    · rintro ⟨e, he, rfl⟩
      obtain ⟨y, hy, e1, _⟩ := out_np he
      exact ⟨y, hy, e1.symm⟩
    · rintro ⟨e, he, rfl⟩
      have : e.1 ∈ (rs.foldl (fun g r => gNp g r fun _ => -1) g).map (·.1) := by rw [out_keys]; exact List.mem_map.mpr ⟨e, he, rfl⟩
      obtain ⟨y, hy, q⟩ := List.mem_map.mp this
      exact ⟨y, hy, q⟩
  su := fun e he => by
    obtain ⟨y, hy, e1, e2, _⟩ := out_np he
    rw [e2, e1]; exact h.su y hy
  np := fun e he => by
    obtain ⟨y, hy, e1, e2, e3⟩ := out_np he
    rw [e3, e1, h.np y hy, List.append_nil]
    by_cases hd : y.1 ∈ dn
    · rw [if_pos hd, if_pos hd, if_neg (fun z => ((h.rmem _).mp z).2.2.1 hd)]
    · rw [if_neg hd, if_neg hd]
  rnd := List.nodup_nil
  rmem := fun x => by
    rw [List.append_nil]
    constructor
    · intro hx; cases hx
    · rintro ⟨a, b, c, d, f⟩
      exact absurd ((h.rmem x).mpr ⟨a, b, c, f⟩) d
theorem ks_turn {N : Nat} {pr : Int → List Int} {dn rs : List Int} {g g' : Gr} {rd' : List Int} (hpn : ∀ x, (pr x).Nodup) (h : KS N pr dn g rs) (e : (g', rd') = rs.foldl gOne (rs.foldl (fun g r => gNp g r fun _ => -1) g, [])) : KS N pr (dn ++ rs) g' rd' := by
  have hm := km_fold hpn rs [] _ _ (ks_out h) (by rw [List.nil_append]; exact h.rnd) (fun k hk => let q := (h.rmem k).mp hk; ⟨⟨q.1, q.2.1⟩, q.2.2.1⟩) fun k hk j hj => by
    have q := (h.rmem k).mp hk
    refine ⟨fun z => q.2.2.1 ((h.dcl j z).2.2 k hj), fun z => ?_⟩
    rw [List.nil_append] at z
    exact q.2.2.1 (((h.rmem j).mp z).2.2.2 k hj)
  rw [← e, List.nil_append] at hm
  refine ⟨hm.nd, hm.keys, hm.su, fun e he => ?_, fun k hk => ?_, hm.rnd, fun x => ?_⟩
  · rw [hm.np e he, if_neg (List.not_mem_nil (a := e.1))]
  · rcases List.mem_append.mp hk with hk | hk
    · obtain ⟨a, b, c⟩ := h.dcl k hk
      exact ⟨a, b, fun p hp => List.mem_append_left _ (c p hp)⟩
    · obtain ⟨a, b, _, c⟩ := (h.rmem k).mp hk
      exact ⟨a, b, fun p hp => List.mem_append_left _ (c p hp)⟩
  · rw [hm.rmem]
    exact ⟨fun ⟨a, b, c, _, d⟩ => ⟨a, b, c, d⟩, fun ⟨a, b, c, d⟩ => ⟨a, b, c, List.not_mem_nil, d⟩⟩
def nextK (N : Nat) (pr : Int → List Int) (dn : List Int) : List Int := (rng N).filter fun k => decide (k ∉ dn) && (pr k).all fun p => decide (p ∈ dn)
theorem mem_nextK {N : Nat} {pr : Int → List Int} {dn : List Int} {x : Int} : x ∈ nextK N pr dn ↔ 0 ≤ x ∧ x < N ∧ x ∉ dn ∧ ∀ p ∈ pr x, p ∈ dn := by
  unfold nextK
  rw [List.mem_filter, mem_rng]
  simp [and_assoc]
inductive KRun (N : Nat) (pr : Int → List Int) : List (List Int) → List Int → Prop
  | nil : KRun N pr [] []
  | snoc {rounds dn dn'} : KRun N pr rounds dn → nextK N pr dn ≠ [] → (∀ x, x ∈ dn' ↔ x ∈ dn ∨ x ∈ nextK N pr dn) → KRun N pr (rounds ++ [nextK N pr dn]) dn'
theorem rng_sorted (n : Nat) : (rng n).Pairwise (· < ·) := by
  induction n with
  | zero => exact List.Pairwise.nil
  | succ n ih =>
    rw [rng_succ]
    refine List.pairwise_append.mpr ⟨ih, by simp, fun a ha b hb => ?_⟩
    have hb : b = (n : Int) := by simpa using hb
    have := mem_rng.mp ha
    lia
theorem sorted_same : ∀ {a b : List Int}, a.Pairwise (· < ·) → b.Pairwise (· < ·) → (∀ x, x ∈ a ↔ x ∈ b) → a = b
  | [], [], _, _, _ => rfl
  | [], y :: r, _, _, h => absurd ((h y).mpr (.head _)) List.not_mem_nil
  | x :: r, [], _, _, h => absurd ((h x).mp (.head _)) List.not_mem_nil
  | x :: r, y :: t, ha, hb, h => by
    have ha' := List.pairwise_cons.mp ha
    have hb' := List.pairwise_cons.mp hb
    have exy : x = y := by
      rcases List.mem_cons.mp ((h x).mp (.head _)) with e | e
      · exact e
      · rcases List.mem_cons.mp ((h y).mpr (.head _)) with e2 | e2
        · exact e2.symm
        · have := hb'.1 _ e; have := ha'.1 _ e2; lia
    subst exy
    rw [sorted_same ha'.2 hb'.2 fun z => ?_]
    constructor
    · intro hz
      rcases List.mem_cons.mp ((h z).mp (.tail _ hz)) with e | e
      · have := ha'.1 _ hz; lia
      · exact e
    · intro hz
      rcases List.mem_cons.mp ((h z).mpr (.tail _ hz)) with e | e
      · have := hb'.1 _ hz; lia
      · exact e
theorem sorted_next {N : Nat} {pr : Int → List Int} {dn rs ns' : List Int} {g : Gr} (h : KS N pr dn g rs) (hp : ns'.Perm rs) (ho : ns'.Pairwise (· ≤ ·)) : ns' = nextK N pr dn := by
  have hn : ns'.Nodup := hp.nodup_iff.mpr h.rnd
  refine sorted_same ?_ ((rng_sorted N).filter _) fun x => ?_
  · have : ns'.Pairwise fun a b => a ≤ b ∧ a ≠ b := List.Pairwise.and ho hn
    exact this.imp fun {a b} q => by lia
  · rw [hp.mem_iff, h.rmem, mem_nextK]
end
section
theorem small_n {n : Nat} (h : n ≤ 1000) : Builtin.Range.small 0 (n : Int) 1 = true := small_one (by omega) (by omega) (by omega) (by omega)
theorem nat63 {k n : Nat} (h : k < n) (hn : n ≤ 1000) : (k : Int) < 2 ^ 63 := by omega
theorem un64 {un b : Nat} (h : un + (b + 64) < cLine) : un + 64 < cLine := by omega
theorem le12 {n : Nat} (h : n ≤ 12) : n ≤ 1000 := Nat.le_trans h (by decide)
end
section
def wd (ws : List Str) (k : Nat) : Str := ws.getD k (Str.ofString "")
theorem strs_wd {vs : List Value} {ns : List Str} (h : StrsAre vs ns) {i : Nat} (hi : i < ns.length) : ∃ t, vs[i]? = some (.str (wd ns i) t) := by
  induction h generalizing i with
  | nil => exact absurd hi (Nat.not_lt_zero _)
  | cons n t _ ih =>
    cases i with
    | zero => exact ⟨t, rfl⟩
    | succ i => exact ih (Nat.lt_of_succ_lt_succ hi)
theorem ints_iv {vs : List Value} {ns : List Int} (h : IntsAre vs ns) {i : Nat} (hi : i < ns.length) : ∃ t, vs[i]? = some (.int (ns.getD i 0) t) := by
  induction h generalizing i with
  | nil => exact absurd hi (Nat.not_lt_zero _)
  | cons n t _ ih =>
    cases i with
    | zero => exact ⟨t, rfl⟩
    | succ i => exact ih (Nat.lt_of_succ_lt_succ hi)
theorem countIn_strs (x : Str) : ∀ ns : List Str, countIn (.str x) (ns.map PyData.str) = ((ns.count x : Nat) : Int)
  | [] => rfl
  | a :: r => by
    have ih := countIn_strs x r
    rw [List.count_cons]
    simp only [List.map_cons, Spec.countIn, PyProof.V.same_str]
    rw [ih]
    by_cases h : a = x <;> simp [h] <;> omega
section
variable {prog : Program} {w : World} {A : Around} {E : Value → Shared → Prop} {s : Shared} {h₀ : Heap} {L l : Addr} {news : List (Addr × Obj)} {vs : Array Value} {c i : Nat} {value slice : PySem.Expr} {u : Tok} {Q : Value → Shared → Prop}
theorem item_wd {ns : List Str} (N : News h₀ L s.heap news) (hm : (l, W.listOf vs c) ∈ news) (hv : StrsAre vs.toList ns) (hi : i < ns.length) (hb : i < 1000000) (h : ∀ t, Q (.str (wd ns i) t) s)
    (hs : subscripted slice false (.ref l) (.int (i : Int) u) = operate [.ref l, .int (i : Int) u] (getItem (.ref l) (.int (i : Int) u)) := by with_unfolding_all rfl) :
    wpAny (model prog w) A (subscriptTail value slice (.ref l) (.int (i : Int) u)) Q E s := by
  obtain ⟨t, ht⟩ := strs_wd hv hi
  exact item_litK (vs := vs.toList) (by rw [Array.toArray_toList]; exact News.isList N hm) (Int.natCast_nonneg _) (by omega) ht (h t) hs
theorem item_iv {ns : List Int} (N : News h₀ L s.heap news) (hm : (l, W.listOf vs c) ∈ news) (hv : IntsAre vs.toList ns) (hi : i < ns.length) (hb : i < 1000000) (h : ∀ t, Q (.int (ns.getD i 0) t) s)
    (hs : subscripted slice false (.ref l) (.int (i : Int) u) = operate [.ref l, .int (i : Int) u] (getItem (.ref l) (.int (i : Int) u)) := by with_unfolding_all rfl) :
    wpAny (model prog w) A (subscriptTail value slice (.ref l) (.int (i : Int) u)) Q E s := by
  obtain ⟨t, ht⟩ := ints_iv hv hi
  exact item_litK (vs := vs.toList) (by rw [Array.toArray_toList]; exact News.isList N hm) (Int.natCast_nonneg _) (by omega) ht (h t) hs
theorem count_wd {ns : List Str} {x : Str} {t : Tok} (N : News h₀ L s.heap news) (hm : (l, W.listOf vs c) ∈ news) (hv : StrsAre vs.toList ns) (h : Q (.int (ns.count x : Nat) s.toks) { s with toks := s.toks + 1 }) :
    wpAny (model prog w) A (call (.builtin "list.count") [.ref l, .str x t]) Q E s :=
  count_list_strs (vs := vs.toList) (by rw [Array.toArray_toList]; exact News.isList N hm) hv (by rw [countIn_strs]; exact h)
end
theorem nest_off {I C D X D4 : Addr} {oI oC oD oX o4 : Obj} {nw : List (Addr × Obj)} (off : Off3 I C D ((X, oX) :: nw)) (off4 : Off1 D4 ((I, oI) :: (C, oC) :: (D, oD) :: (X, oX) :: nw)) (offX : ∀ p ∈ nw, p.1 ≠ X) :
    Off3 I C D ((X, oX) :: (D4, o4) :: nw) ∧ (∀ p ∈ (D4, o4) :: nw, p.1 ≠ X) ∧ (∀ p ∈ nw, p.1 ≠ D4) ∧ ∀ p ∈ (I, oI) :: (C, oC) :: (D, oD) :: (X, oX) :: (D4, o4) :: nw, p ∈ (D4, o4) :: (I, oI) :: (C, oC) :: (D, oD) :: (X, oX) :: nw := by
  have o4m := off1_mem off4
  have om := off.mem
  refine ⟨Off3.of fun p hp => ?_, fun p hp => ?_, fun p hp => o4m p (.tail _ (.tail _ (.tail _ (.tail _ hp)))), fun p hp => ?_⟩
  · rcases List.mem_cons.mp hp with rfl | hp
    · exact om _ (.head _)
    rcases List.mem_cons.mp hp with rfl | hp
    · exact ⟨Ne.symm (o4m _ (.head _)), Ne.symm (o4m _ (.tail _ (.head _))), Ne.symm (o4m _ (.tail _ (.tail _ (.head _))))⟩
    · exact om _ (.tail _ hp)
  · rcases List.mem_cons.mp hp with rfl | hp
    · exact Ne.symm (o4m _ (.tail _ (.tail _ (.tail _ (.head _)))))
    · exact offX p hp
  · rcases List.mem_cons.mp hp with rfl | hp
    · exact .tail _ (.head _)
    rcases List.mem_cons.mp hp with rfl | hp
    · exact .tail _ (.tail _ (.head _))
    rcases List.mem_cons.mp hp with rfl | hp
    · exact .tail _ (.tail _ (.tail _ (.head _)))
    rcases List.mem_cons.mp hp with rfl | hp
    · exact .tail _ (.tail _ (.tail _ (.tail _ (.head _))))
    rcases List.mem_cons.mp hp with rfl | hp
    · exact .head _
    · exact .tail _ (.tail _ (.tail _ (.tail _ (.tail _ hp))))
end
section
def RecAt (nw : List (Addr × Obj)) (v : Value) (ags : List Str) : Prop := ∃ e u vs c own, v = .ref e ∧ RecOf u e own ∧ (∀ p ∈ own, p ∈ nw) ∧ (u, W.listOf vs c) ∈ nw ∧ StrsAre vs.toList ags
def Al2 {α β : Type} (P : α → β → Prop) (l : List α) (r : List β) : Prop := l.length = r.length ∧ ∀ (i : Nat) a b, l[i]? = some a → r[i]? = some b → P a b
def RecsAre (nw : List (Addr × Obj)) (vs : List Value) (words : List Str) : Prop := Al2 (fun v x => RecAt nw v [Str.ofString "*", x]) vs words
def IntsL (nw : List (Addr × Obj)) (v : Value) (r : List Int) : Prop := ∃ R vs c, v = .ref R ∧ (R, W.listOf vs c) ∈ nw ∧ IntsAre vs.toList r
def TripL (nw : List (Addr × Obj)) (T : Addr) (ring right : Bool) (rows : List (List Int)) : Prop := ∃ RL ws c, (T, tupA #[.bool ring, .bool right, .ref RL]) ∈ nw ∧ (RL, W.listOf ws c) ∈ nw ∧ Al2 (IntsL nw) ws.toList rows
theorem srt_init {w : World} {oth : List (Addr × Obj)} {S dS G : Addr} {oG : Obj} {h1 h2 h3 h4 : Int} {t1 t2 t3 t4 t5 t6 : Tok} (hnd : Nd oth) (l1 : ∀ p ∈ oth, p.1 < dS) (l2 : @LT.lt Nat _ dS S) (l3 : @LT.lt Nat _ S G) (lo : (G == sysModules) = false) (hd : oG.IsDictOf (intKind PySem.Challenge.pw_nq0248_01 w) []) :
    Srt w ((G, oG) :: (S, instObj 191 dS) :: (dS, srtD G .none 0 0 h1 h2 h3 h4 t1 t2 t3 t4 t5 t6) :: oth) S dS G .none 0 0 [] oth where
  nd := by
    have a1 : ∀ p ∈ oth, p.1 ≠ dS := all_ne l1 (Nat.le_refl _)
    have a2 : ∀ p ∈ oth, p.1 ≠ S := all_ne l1 (Nat.le_of_lt l2)
    have a3 : ∀ p ∈ oth, p.1 ≠ G := all_ne l1 (Nat.le_of_lt (Nat.lt_trans l2 l3))
    refine nd_cons (nd_cons (nd_cons hnd a1) fun p hp => ?_) fun p hp => ?_
    · cases hp with
      | head => exact Nat.ne_of_lt l2
      | tail _ hp => exact a2 p hp
    · cases hp with
      | head => exact Nat.ne_of_lt l3
      | tail _ hp =>
        cases hp with
        | head => exact Nat.ne_of_lt (Nat.lt_trans l2 l3)
        | tail _ hp => exact a3 p hp
  inst := .tail _ (.head _)
  dict := ⟨_, _, _, _, _, _, _, _, _, _, .tail _ (.tail _ (.head _))⟩
  map := ⟨⟨oG, .head _, hd⟩, lo⟩
  nodes := fun n hn => by cases hn
  lists := List.nodup_nil
  keys := List.nodup_nil
  ne0 := Nat.ne_of_lt (Nat.lt_trans l2 l3)
  ne1 := fun n hn => by cases hn
  room := Nat.zero_le _
  apart := fun p hp => ⟨.tail _ (.tail _ (.tail _ hp)), fun hf => by
    have q := l1 p hp
    rcases mem_foot hf with e | e | e | ⟨n, hn, _⟩ | ⟨n, hn, _⟩ | ⟨n, hn, _⟩
    · rw [e] at q; exact Nat.lt_irrefl _ (Nat.lt_trans q l2)
    · rw [e] at q; exact Nat.lt_irrefl _ q
    · rw [e] at q; exact Nat.lt_irrefl _ (Nat.lt_trans q (Nat.lt_trans l2 l3))
    all_goals cases hn⟩
theorem nd_cells4 {news : List (Addr × Obj)} {L : Nat} {o1 o2 o3 o4 : Obj} (h : Nd news) (l : ∀ p ∈ news, p.1 < L) : Nd ((L + 1 + 1 + 1 + 1, o1) :: (L + 1 + 1 + 1, o2) :: (L + 1 + 1, o3) :: (L + 1, o4) :: news) := by
  have a : ∀ d, L ≤ d → ∀ p ∈ news, p.1 ≠ d := fun d hd => all_ne l hd
  have e : ∀ i j : Nat, i < j → L + i ≠ L + j := fun i j h => Nat.ne_of_lt (Nat.add_lt_add_left h L)
  refine nd_cons (nd_cons (nd_cons (nd_cons h (a _ (by omega))) fun p hp => ?_) fun p hp => ?_) fun p hp => ?_
  · cases hp with
    | head => exact e 1 2 (by decide)
    | tail _ hp => exact a _ (by omega) p hp
  · cases hp with
    | head => exact e 2 3 (by decide)
    | tail _ hp =>
      cases hp with
      | head => exact e 1 3 (by decide)
      | tail _ hp => exact a _ (by omega) p hp
  · cases hp with
    | head => exact e 3 4 (by decide)
    | tail _ hp =>
      cases hp with
      | head => exact e 2 4 (by decide)
      | tail _ hp =>
        cases hp with
        | head => exact e 1 4 (by decide)
        | tail _ hp => exact a _ (by omega) p hp
theorem srt_swap {a b : Addr × Obj} {oth : List (Addr × Obj)} : ∀ p ∈ a :: b :: oth, p ∈ b :: a :: oth := fun p hp => by
  cases hp with
  | head => exact .tail _ (.head _)
  | tail _ hp =>
    cases hp with
    | head => exact .head _
    | tail _ hp => exact .tail _ (.tail _ hp)
theorem cells_off {news : List (Addr × Obj)} {L : Nat} {o3 o4 : Obj} (l : ∀ p ∈ news, p.1 < L) : ∀ p ∈ (L + 1 + 1, o3) :: (L + 1, o4) :: news, p.1 ≠ L + 1 + 1 + 1 ∧ p.1 ≠ L + 1 + 1 + 1 + 1 := fun p hp => by
  have e : ∀ i j : Nat, i < j → L + i ≠ L + j := fun i j h => Nat.ne_of_lt (Nat.add_lt_add_left h L)
  cases hp with
  | head => exact ⟨e 2 3 (by decide), e 2 4 (by decide)⟩
  | tail _ hp =>
    cases hp with
    | head => exact ⟨e 1 3 (by decide), e 1 4 (by decide)⟩
    | tail _ hp => exact ⟨all_ne l (by omega) p hp, all_ne l (by omega) p hp⟩
theorem cell_off {oth : List (Addr × Obj)} {K C I : Addr} {o oI : Obj} (h : ∀ p ∈ oth, p.1 ≠ K ∧ p.1 ≠ C) (hI : I ≠ K) (hC : C ≠ K) : ∀ p ∈ (I, oI) :: (C, o) :: oth, p.1 ≠ K := fun p hp => by
  cases hp with
  | head => exact hI
  | tail _ hp =>
    cases hp with
    | head => exact hC
    | tail _ hp => exact (h p hp).1
theorem strs_of {vs : List Value} {ns : List Str} (h : StrsAre vs ns) {i : Nat} {k : Str} (e : ns[i]? = some k) : ∃ t, vs[i]? = some (.str k t) := by
  induction h generalizing i with
  | nil => cases e
  | cons n t _ ih =>
    cases i with
    | zero => cases e; exact ⟨t, rfl⟩
    | succ i => exact ih e
def appS (words names : List Str) (j k : Nat) : Bool := match (Txt.split (names.getD k (Str.ofString "")) (Str.ofString "/")).head? with
  | some y => [Str.ofString "*", words.getD j (Str.ofString "")].any (hitA y)
  | none => false
def preS (words names : List Str) (k : Int) : List Int := (rng words.length).filter fun j => decide (j ≠ k) && appS words names j.toNat k.toNat
theorem map_twice {x : Str} {a b : Option Value} {m : Str → Option Value} : (fun y => if y = x then a else if y = x then b else m y) = fun y => if y = x then a else m y := by
  funext y
  by_cases h : y = x
  · rw [if_pos h, if_pos h]
  · rw [if_neg h, if_neg h, if_neg h]
inductive AfterPrep (w : World) (s : Shared) (Gd : Heap → Prop) (L : Addr) (S dS G : Addr) (ns : List Nde) (oth : List (Addr × Obj)) (s₂ : Shared) : Prop
  | mk (g) (h) (tk) (nw) (ring) (R) (us) (c) (h98 : s₂ = { s with heap := h, toks := tk }) (h99 : Gd g) (h910 : Fr g L h (fun y => if y = Str.ofString "ring" then some (Value.bool ring) else if y = Str.ofString "sorter" then some (Value.ref S) else none)) (h911 : News g L h nw) (h912 : Srt w nw S dS G (.ref R) 0 0 ns ((R, W.listOf us c) :: oth)) (h913 : ∀ p ∈ oth, p.1 ≠ R) (h914 : IntsAre us.toList ((ns.filter fun n => n.np == 0).map (·.k))) (h915 : ring = true → ∃ v, Rch (gSu (plG ns)) v v) (h916 : ring = false → ∀ n ∈ ns, ¬ Rch (gSu (plG ns)) n.k n.k) : AfterPrep w s Gd L S dS G ns oth s₂
def mapW (S RL : Addr) (ring : Bool) : Str → Option Value := fun y => if y = Str.ofString "right" then some (Value.bool true) else if y = Str.ofString "rounds" then some (Value.ref RL) else if y = Str.ofString "ring" then some (Value.bool ring) else if y = Str.ofString "sorter" then some (Value.ref S) else none
def Apart (as : List Addr) (oth : List (Addr × Obj)) : Prop := as.Nodup ∧ ∀ p ∈ oth, p.1 ∉ as
inductive WS (w : World) (s : Shared) (Gd : Heap → Prop) (L S dS G RL : Addr) (N : Nat) (pr : Int → List Int) (ring : Bool) (oth : List (Addr × Obj)) (n : Nat) (s' : Shared) : Prop
  | mk (g) (h) (tk) (nw) (m) (ns) (R) (us) (c) (ws) (cr) (oK) (oC) (kv) (cv) (othx) (po) (rd) (dn) (rounds) (h920 : s' = { s with heap := h, toks := tk }) (h921 : Gd g) (h922 : Fr g L h m) (h923 : News g L h nw) (h924 : ∀ y, y ≠ Str.ofString "ready" → y ≠ Str.ofString "waits" → m y = mapW S RL ring y) (h925 : oK.data = Data.cell kv) (h926 : oC.data = Data.cell cv) (h927 : Srt w nw S dS G (.ref R) po po ns ((R, W.listOf us c) :: (RL, W.listOf ws cr) :: (L + 1 + 1 + 1, oK) :: (L + 1 + 1 + 1 + 1, oC) :: othx)) (h928 : ∀ p ∈ oth, p ∈ othx) (h929 : Apart [R, RL, L + 1 + 1 + 1, L + 1 + 1 + 1 + 1] othx) (h930 : IntsAre us.toList rd) (h931 : Al2 (IntsL othx) ws.toList rounds) (h932 : KS N pr dn (plG ns) rd) (h933 : KRun N pr rounds dn) (h934 : dn.Nodup) (h935 : rounds.length ≤ dn.length ∧ rounds.flatten.length ≤ dn.length) (h936 : n = N - dn.length) : WS w s Gd L S dS G RL N pr ring oth n s'
theorem nodup4 {a b c d : Nat} (h1 : a ≠ b) (h2 : a ≠ c) (h3 : a ≠ d) (h4 : b ≠ c) (h5 : b ≠ d) (h6 : c ≠ d) : [a, b, c, d].Nodup := by
  simp [h1, h2, h3, h4, h5, h6]
theorem ready_pl {ns : List Nde} : (ns.filter fun n => n.np == 0).map (·.k) = ((plG ns).filter fun e => e.2.1 == 0).map (·.1) := by
  unfold plG
  rw [List.filter_map, List.map_map]
  rfl
def suN (N : Nat) (pr : Int → List Int) (j : Int) : List Int := if 0 ≤ j ∧ j < N then (rng N).filter fun k => decide (j ∈ pr k) else []
theorem su_eq {N : Nat} {pr : Int → List Int} {g : Gr} (h : GOk N pr N g) : gSu g = suN N pr := by
  funext j
  unfold suN
  by_cases hj : 0 ≤ j ∧ j < N
  · rw [if_pos hj]
    obtain ⟨e, he, rfl⟩ := h.all j hj.1 hj.2
    rw [(gNpOf_at h.nd he).2]
    exact (h.at' e he).2.2.2
  · rw [if_neg hj]
    unfold gSu
    rw [List.find?_eq_none.mpr fun e he => ?_]
    · rfl
    · have := h.at' e he
      simp only [beq_iff_eq]
      intro q
      exact hj (q ▸ ⟨this.1, this.2.1⟩)
def RunOk (N : Nat) (pr : Int → List Int) (rounds : List (List Int)) : Prop := ∃ dn, KRun N pr rounds dn ∧ nextK N pr dn = []
theorem next_nil {N : Nat} {pr : Int → List Int} {dn : List Int} {g : Gr} (h : KS N pr dn g []) : nextK N pr dn = [] := by
  refine List.eq_nil_iff_forall_not_mem.mpr fun x hx => ?_
  exact absurd ((h.rmem x).mpr (mem_nextK.mp hx)) List.not_mem_nil
theorem apart_first {R RL K C : Addr} {o1 o2 o3 : Obj} {oth : List (Addr × Obj)} (h : Apart [R, RL, K, C] oth) : ∀ p ∈ (RL, o1) :: (K, o2) :: (C, o3) :: oth, p.1 ≠ R := fun p hp => by
  have hn := (List.nodup_cons.mp h.1).1
  cases hp with
  | head => exact fun e => hn (e ▸ .head _)
  | tail _ hp =>
    cases hp with
    | head => exact fun e => hn (e ▸ .tail _ (.head _))
    | tail _ hp =>
      cases hp with
      | head => exact fun e => hn (e ▸ .tail _ (.tail _ (.head _)))
      | tail _ hp => exact fun e => h.2 p hp (e ▸ .head _)
theorem al2_mono {nw nw' : List (Addr × Obj)} (h : ∀ p ∈ nw, p ∈ nw') {ws : List Value} {rows : List (List Int)} (a : Al2 (IntsL nw) ws rows) : Al2 (IntsL nw') ws rows :=
  ⟨a.1, fun i x y hx hy => let ⟨R, vs, c, e, hm, hi⟩ := a.2 i x y hx hy; ⟨R, vs, c, e, h _ hm, hi⟩⟩
theorem Srt.setP {w : World} {nw pre post : List (Addr × Obj)} {S dS G a : Addr} {o o' : Obj} {rv : Value} {po nf : Int} {ns : List Nde} (Sr : Srt w nw S dS G rv po nf ns (pre ++ (a, o) :: post)) (hne : ∀ p ∈ pre ++ post, p.1 ≠ a) :
    Srt w (setN a o' nw) S dS G rv po nf ns (pre ++ (a, o') :: post) :=
  (Sr.other (a := a) (o := o') (Sr.off (List.mem_append_right _ (.head _)))).less fun p hp => by
    rcases List.mem_append.mp hp with hp | hp
    · exact mem_setN_ne (List.mem_append_left _ hp) (hne p (List.mem_append_left _ hp))
    · cases hp with
      | head => exact mem_setN_self (List.mem_append_right _ (.head _))
      | tail _ hp => exact mem_setN_ne (List.mem_append_right _ (.tail _ hp)) (hne p (List.mem_append_right _ hp))
theorem apart_ne {R RL K C : Addr} {oth : List (Addr × Obj)} (h : Apart [R, RL, K, C] oth) : R ≠ RL ∧ R ≠ K ∧ R ≠ C ∧ RL ≠ K ∧ RL ≠ C ∧ K ≠ C ∧ ∀ p ∈ oth, p.1 ≠ R ∧ p.1 ≠ RL ∧ p.1 ≠ K ∧ p.1 ≠ C := by
  have h1 := List.nodup_cons.mp h.1
  have h2 := List.nodup_cons.mp h1.2
  have h3 := List.nodup_cons.mp h2.2
  refine ⟨fun e => h1.1 (e ▸ .head _), fun e => h1.1 (e ▸ .tail _ (.head _)), fun e => h1.1 (e ▸ .tail _ (.tail _ (.head _))), fun e => h2.1 (e ▸ .head _), fun e => h2.1 (e ▸ .tail _ (.head _)), fun e => h3.1 (e ▸ .head _), fun p hp => ?_⟩
  have := h.2 p hp
  exact ⟨fun e => this (e ▸ .head _), fun e => this (e ▸ .tail _ (.head _)), fun e => this (e ▸ .tail _ (.tail _ (.head _))), fun e => this (e ▸ .tail _ (.tail _ (.tail _ (.head _))))⟩
theorem al2_snoc {α β : Type} {P : α → β → Prop} {l : List α} {r : List β} {a : α} {b : β} (h : Al2 P l r) (hp : P a b) : Al2 P (l ++ [a]) (r ++ [b]) := by
  refine ⟨by rw [List.length_append, List.length_append, h.1]; rfl, fun i x y hx hy => ?_⟩
  rcases Nat.lt_or_ge i l.length with hi | hi
  · rw [List.getElem?_append_left hi] at hx
    rw [List.getElem?_append_left (h.1 ▸ hi)] at hy
    exact h.2 i x y hx hy
  · rw [List.getElem?_append_right hi] at hx
    rw [List.getElem?_append_right (h.1 ▸ hi), ← h.1] at hy
    have h0 : i - l.length = 0 := by
      rcases Nat.eq_zero_or_pos (i - l.length) with z | z
      · exact z
      · rw [List.getElem?_eq_none (by rw [List.length_singleton]; exact z)] at hx; cases hx
    rw [h0] at hx hy
    cases hx; cases hy
    exact hp
theorem ints_app {a b : List Value} {x y : List Int} (h : IntsAre a x) (k : IntsAre b y) : IntsAre (a ++ b) (x ++ y) := by
  induction h with
  | nil => exact k
  | cons n t _ ih => exact .cons n t ih
theorem al2_vss {nw : List (Addr × Obj)} : ∀ {ws : List Value} {rows : List (List Int)}, Al2 (IntsL nw) ws rows → ∃ vss : List (List Value), vss.length = ws.length ∧ IntsAre vss.flatten rows.flatten ∧ ∀ (i : Nat) v, ws[i]? = some v → ∃ l us c, v = .ref l ∧ (l, W.listOf us c) ∈ nw ∧ vss[i]? = some us.toList
  | [], [], _ => ⟨[], rfl, .nil, fun i v h => by simp at h⟩
  | [], _ :: _, h => by cases h.1
  | _ :: _, [], h => by cases h.1
  | a :: r, b :: t, h => by
    obtain ⟨vss, h1, h2, h3⟩ := al2_vss (ws := r) (rows := t) ⟨Nat.succ.inj h.1, fun i x y hx hy => h.2 (i + 1) x y hx hy⟩
    obtain ⟨R, vs, c, rfl, hm, hi⟩ := h.2 0 a b rfl rfl
    refine ⟨vs.toList :: vss, by rw [List.length_cons, List.length_cons, h1], ?_, fun i v hv => ?_⟩
    · rw [List.flatten_cons, List.flatten_cons]; exact ints_app hi h2
    · cases i with
      | zero => cases hv; exact ⟨R, vs, c, rfl, hm, rfl⟩
      | succ i => exact h3 i v hv
theorem new_here {g h : Heap} {L a : Addr} {m : Str → Option Value} {news : List (Addr × Obj)} (F : Fr g L h m) (N : News g L h news) (ha : h.get? a = none) : a ≠ L ∧ g.get? a = none ∧ ∀ p ∈ news, p.1 ≠ a := by
  refine ⟨fun e => ?_, ?_, fun p hp e => ?_⟩
  · obtain ⟨o, _, _, ho, _⟩ := F.ns
    rw [← e, ha] at ho; cases ho
  · cases q : g.get? a with
    | none => rfl
    | some o => have := F.keep _ _ q; rw [ha] at this; cases this
  · have := (N p hp).1
    rw [e, ha] at this; cases this
theorem pre_nodup (words names : List Str) (x : Int) : (preS words names x).Nodup := (rng_nodup _).filter _
theorem km_ready {N : Nat} {pr : Int → List Int} {dn rs : List Int} {g : Gr} {ns : List Nde} (h : KS N pr dn g rs) (e : plG ns = rs.foldl (fun g r => gNp g r fun _ => -1) g) :
    (∀ n ∈ ns, n.succ.length ≤ N) ∧ (∀ n ∈ ns, ∀ j ∈ n.succ, ∃ x ∈ ns, x.k = j) ∧ ∀ k ∈ rs, ∃ n ∈ ns, n.k = k ∧ n.np = -1 ∧ ∀ j ∈ n.succ, j ∉ rs := by
  have hm := ks_out h
  rw [← e] at hm
  have hk : ∀ x, 0 ≤ x ∧ x < (N : Int) → ∃ n ∈ ns, n.k = x := fun x hx => by
    obtain ⟨y, hy, q⟩ := (hm.keys x).mpr hx
    obtain ⟨n, hn, rfl⟩ := List.mem_map.mp hy
    exact ⟨n, hn, q⟩
  have hs : ∀ n ∈ ns, n.succ = (rng N).filter fun k => decide (n.k ∈ pr k) := fun n hn => hm.su n.pl (List.mem_map.mpr ⟨n, hn, rfl⟩)
  refine ⟨fun n hn => ?_, fun n hn j hj => ?_, fun k hr => ?_⟩
  · rw [hs n hn]
    refine Nat.le_trans (List.length_filter_le _ _) ?_
    unfold rng
    rw [List.length_map, List.length_range]
    exact Nat.le_refl _
  · rw [hs n hn] at hj
    exact hk j (mem_rng.mp (List.mem_filter.mp hj).1)
  · have hq := (h.rmem k).mp hr
    obtain ⟨n, hn, rfl⟩ := hk k ⟨hq.1, hq.2.1⟩
    refine ⟨n, hn, rfl, ?_, fun j hj hjr => ?_⟩
    · have hnp := hm.np n.pl (List.mem_map.mpr ⟨n, hn, rfl⟩)
      rw [List.append_nil, if_neg (show n.pl.1 ∉ dn from hq.2.2.1), if_pos (show n.pl.1 ∈ rs from hr)] at hnp
      exact hnp
    · rw [hs n hn] at hj
      have : n.k ∈ pr j := by simpa using (List.mem_filter.mp hj).2
      exact hq.2.2.1 (((h.rmem j).mp hjr).2.2.2 _ this)
theorem srt_six {a b c d e f : Addr × Obj} {oth : List (Addr × Obj)} : ∀ p ∈ f :: a :: b :: c :: d :: e :: oth, p ∈ a :: b :: c :: d :: e :: f :: oth := fun p hp => by
  cases hp with
  | head => exact .tail _ (.tail _ (.tail _ (.tail _ (.tail _ (.head _)))))
  | tail _ hp =>
    cases hp with
    | head => exact .head _
    | tail _ hp =>
      cases hp with
      | head => exact .tail _ (.head _)
      | tail _ hp =>
        cases hp with
        | head => exact .tail _ (.tail _ (.head _))
        | tail _ hp =>
          cases hp with
          | head => exact .tail _ (.tail _ (.tail _ (.head _)))
          | tail _ hp =>
            cases hp with
            | head => exact .tail _ (.tail _ (.tail _ (.tail _ (.head _))))
            | tail _ hp => exact .tail _ (.tail _ (.tail _ (.tail _ (.tail _ (.tail _ hp)))))
theorem krun_mem {N : Nat} {pr : Int → List Int} {rounds : List (List Int)} {dn : List Int} (h : KRun N pr rounds dn) : ∀ x, x ∈ dn ↔ x ∈ rounds.flatten := by
  induction h with
  | nil => intro x; simp
  | snoc _ _ hm ih =>
    intro x
    rw [hm, ih, List.flatten_append, List.mem_append, List.flatten_singleton]
theorem krun_more {N : Nat} {pr : Int → List Int} {rounds : List (List Int)} {dn rd ns7 : List Int} {g : Gr} (h : KRun N pr rounds dn) (hks : KS N pr dn g rd) (hp : ns7.Perm rd) (ho : ns7.Pairwise (· ≤ ·)) (hne : rd ≠ []) : KRun N pr (rounds ++ [ns7]) (dn ++ rd) := by
  have e := sorted_next hks hp ho
  subst e
  refine .snoc h (fun q => hne ?_) fun x => ?_
  · rw [q] at hp
    exact List.nil_perm.mp hp
  · rw [List.mem_append, hp.mem_iff]
theorem wait_nodes {N : Nat} {pr : Int → List Int} {dn rd rd6 ns7 : List Int} {rounds : List (List Int)} {ns6 : List Nde} {r0 : Int} (hks6 : KS N pr (dn ++ rd) (plG ns6) rd6) (hN : N ≤ 12) (hm : ∀ x, x ∈ dn ++ rd ↔ x ∈ (rounds ++ [ns7]).flatten) (hr : r0 ∈ rd) :
    ∀ kk ∈ (((rng N).filter fun k => !(rounds ++ [ns7]).flatten.any (· == k)).take (Int.toNat 2)) ++ [r0], ∃ n ∈ ns6, n.k = kk ∧ (0 ≤ n.np ∨ n.np = -2) ∧ (0 ≤ n.k ∧ n.k < 1000) := by
  have node : ∀ x, 0 ≤ x ∧ x < (N : Int) → ∃ n ∈ ns6, n.k = x := fun x hx => by
    obtain ⟨y, hy, q⟩ := (hks6.keys x).mpr hx
    obtain ⟨n, hn, rfl⟩ := List.mem_map.mp hy
    exact ⟨n, hn, q⟩
  intro kk hk
  rcases List.mem_append.mp hk with hk | hk
  · obtain ⟨h1, h2⟩ := List.mem_filter.mp (List.mem_of_mem_take hk)
    have hb := mem_rng.mp h1
    obtain ⟨n, hn, rfl⟩ := node kk hb
    refine ⟨n, hn, rfl, .inl ?_, hb.1, by omega⟩
    have hno : n.k ∉ dn ++ rd := fun q => by
      rw [hm] at q
      have : (rounds ++ [ns7]).flatten.any (· == n.k) = true := List.any_eq_true.mpr ⟨_, q, by simp⟩
      rw [this] at h2; cases h2
    have := hks6.np n.pl (List.mem_map.mpr ⟨n, hn, rfl⟩)
    rw [if_neg (show n.pl.1 ∉ dn ++ rd from hno)] at this
    show 0 ≤ n.pl.2.1
    rw [this]
    exact lf_nonneg
  · obtain rfl := List.mem_singleton.mp hk
    have hd : kk ∈ dn ++ rd := List.mem_append_right _ hr
    have hb := hks6.dcl kk hd
    obtain ⟨n, hn, rfl⟩ := node kk ⟨hb.1, hb.2.1⟩
    refine ⟨n, hn, rfl, .inr ?_, hb.1, by omega⟩
    have := hks6.np n.pl (List.mem_map.mpr ⟨n, hn, rfl⟩)
    rw [if_pos (show n.pl.1 ∈ dn ++ rd from hd)] at this
    exact this
theorem mapW_right {S RL : Addr} {ring : Bool} {y : Str} : (if y = Str.ofString "right" then some (Value.bool true) else mapW S RL ring y) = mapW S RL ring y := by
  unfold mapW
  by_cases h : y = Str.ofString "right"
  · rw [if_pos h, if_pos h]
  · rw [if_neg h]
theorem map_end {S RL : Addr} {ring : Bool} {u v : Option Value} : ∀ y, y ≠ Str.ofString "ready" → y ≠ Str.ofString "waits" → (if y = Str.ofString "right" then some (Value.bool true) else if y = Str.ofString "ready" then u else if y = Str.ofString "waits" then v else mapW S RL ring y) = mapW S RL ring y := fun y h1 h2 => by
  rw [if_neg h1, if_neg h2]; exact mapW_right
theorem map_head {S RL D T : Addr} {ring : Bool} {u v : Option Value} : ∀ y, y ≠ Str.ofString "ready" → y ≠ Str.ofString "waits" → (if y = Str.ofString "waits" then some (Value.ref D) else if y = Str.ofString "ready" then some (Value.ref T) else if y = Str.ofString "ready" then u else if y = Str.ofString "waits" then v else mapW S RL ring y) = mapW S RL ring y := fun y h1 h2 => by
  rw [if_neg h2, if_neg h1, if_neg h1, if_neg h2]
inductive JW (w : World) (L S dS G R RL : Addr) (ring : Bool) (po : Int) (ns : List Nde) (rest : List (Addr × Obj)) (_i : Nat) (m : Str → Option Value) (nw : List (Addr × Obj)) : Prop
  | mk (h90 : ∀ y, y ≠ Str.ofString "ready" → y ≠ Str.ofString "waits" → m y = mapW S RL ring y) (oK) (kv) (h93 : oK.data = Data.cell kv) (h94 : Srt w nw S dS G (.ref R) po po ns ((L + 1 + 1 + 1, oK) :: rest)) : JW w L S dS G R RL ring po ns rest _i m nw
theorem gok_cl {N : Nat} {pr : Int → List Int} {ns : List Nde} (h : GOk N pr N (plG ns)) : ∀ n ∈ ns, ∀ j ∈ n.succ, ∃ x ∈ ns, x.k = j := fun n hn j hj => by
  have := (h.at' n.pl (List.mem_map.mpr ⟨n, hn, rfl⟩)).2.2.2
  have hj : j ∈ n.pl.2.2 := hj
  rw [this] at hj
  have hm := mem_rng.mp (List.mem_filter.mp hj).1
  obtain ⟨e, he, q⟩ := h.all j hm.1 hm.2
  obtain ⟨x, hx, rfl⟩ := List.mem_map.mp he
  exact ⟨x, hx, q⟩
theorem run_spec {w : World} {dp un : Nat} {gd : Option (List Code)} {cn : Str} {cs : Scope} {a : Addr} {ccd : Value} {cl : List (Str × Addr)} {outer : List Env} {A₀ : Around} {base h₀ : Heap} {L : Addr} {m : Str → Option Value} {news : List (Addr × Obj)} {s : Shared} {p : Program} {loose : List Str} {mean : ExcName → Option Value} {mg mb : Str → Option Value}
    {Q E : Value → Shared → Prop} (B : Below A₀ base outer h₀) (F : Fr h₀ L s.heap m) (X : (Mine.K w.params).In h₀) (N : News h₀ L s.heap news) (T : Top p loose mean mg mb h₀) (hk : cs.kind = .function) (hd : dp + 40 < recursionLimit) (hu : un + 320 < cLine) (XB : (Mine.K w.params).In base) (TB : Top p loose mean mg mb base) (D : KtsDicts (outer.filterMap (·.frame)) h₀)
    {NM RC : Addr} {nvs rvs : Array Value} {cN cR : Nat} {names words : List Str} (hN : (NM, W.listOf nvs cN) ∈ news) (hnv : StrsAre nvs.toList names) (hR : (RC, W.listOf rvs cR) ∈ news) (hrv : RecsAre news rvs.toList words)
    (hlen : names.length = words.length) (hn : words.length ≤ 12) (hn0 : 0 < words.length) (hnd : Nd news) (hnl : ∀ x ∈ names, x.length ≤ 100) (hwl : ∀ x ∈ words, x.length ≤ 100)
    (hret : ∀ T ring rounds nw' h₀' h' tk', KtsTurn (outer.filterMap (·.frame)) h₀ h₀' → Below A₀ base outer h₀' → (Mine.K w.params).In h₀' → Top p loose mean mg mb h₀' → KtsDicts (outer.filterMap (·.frame)) h₀' → Fr h₀' L h' m → News h₀' L h' nw' → (∀ p ∈ news, p ∈ nw') → TripL nw' T ring true rounds → RunOk words.length (preS words names) rounds →
      (ring = true → ∃ v, Rch (suN words.length (preS words names)) v v) → (ring = false → ∀ k, 0 ≤ k → k < (words.length : Int) → ¬ Rch (suN words.length (preS words names)) k k) → Q (.ref T) { s with heap := h', toks := tk' }) :
    wpAny (model PySem.Challenge.pw_nq0248_01 w) (ktrTop dp un gd cn cs L a ccd cl outer) (call (.ref 287) [.ref NM, .ref RC]) Q E s := by
  have hfill : (fun (_ : OpenLaw) (_ : Params → Frag) => True) PySem.Challenge.rw_nq0248_01 Mine.K := by k_fill; trivial
  clear hfill
  refine wpAny_call ?_
  k_dflt (refine' code_SC ?k1 ?k2 ?k3 ?k4 ?k5 ?XB ?TB ?D ?T0 ?kA ?kF ?kK ?k6 ?k7 ?k8 ?k9 ?kB ?kD ?_ ?c2 ?c3 ?c4; (case kA => exact rfl); (case kF => exact rfl); (case kK => assumption); (case k1 => assumption); (case k2 => assumption); (case k3 => assumption); (case k4 => assumption); (case k5 => assumption); (case XB => assumption); (case TB => assumption); (case D => assumption); (case T0 => exact KtsTurn.refl); (case k6 => k_is); (case k7 => k_is); (case k8 => ktr_room); (case k9 => exact BindsTo.of_eq rfl); (case kB => exact rfl); (case kD => decide +kernel); (case c2 => exact rfl); (case c3 => exact rfl); (case c4 => exact rfl); k_whole; intro g' L' h' tk' cells' FG' F' N' Y' B' X' T' D' l1; (try k_lt l1); k_cells Y'; (try simp only [List.cons_append, List.nil_append] at N'); (try dsimp only))
  rename_i o1 o2 o3 o4 d1 d2 d3 d4
  replace F' : Fr g' L' h' (fun _ => none) := F'
  replace d4 : o4.data = Data.cell (some (.ref NM)) := d4
  replace d3 : o3.data = Data.cell (some (.ref RC)) := d3
  replace d2 : o2.data = Data.cell none := d2
  replace d1 : o1.data = Data.cell none := d1
  with_reducible refine gen_toks fun tk0 => ?_
  try dsimp only
  refine absQ fun Q1 hQ1 => ?_
  (repeat' (first | (((fail_if_success (fail_if_success k_unfold)); first | (with_reducible refine (?_ : wpAny _ _ _ _ _ _)) | k_unfold); try dsimp only) | ((fail_if_success (fail_if_success (with_reducible refine ex1 (by constructor) ?_))); (fail_if_success (fail_if_success k_fold)); (with_reducible refine (?_ : let qk := _; let ek := _; wpAny _ _ _ qk ek _)); intro qk ek) | ((fail_if_success (with_reducible first | ((fail_if_success (refine go1 (by constructor) ?_)); refine st1 (by constructor) ?_) | show Exists _)); walk1; try dsimp only)))
  with_reducible refine (?_ : let A1 := _; wpAny _ A1 _ _ _ _)
  intro A1
  rename Fr g' L' _ _ => F3
  rename News g' L' _ _ => N3
  rename Obj.IsDictOf (intKind _ _) _ [] => hd0
  rename (_ == sysModules) = false => lo0
  rename _ ∧ _ ∧ _ ∧ _ ∧ _ ∧ _ ∧ AllLt _ news => lG
  rename _ ∧ _ ∧ _ ∧ _ ∧ AllLt _ news => ldS
  rename @LT.lt Nat _ _ _ => lS
  (with_reducible refine (?_ : let G9 : Prop := _; G9)); intro G9
  obtain ⟨S, dS, G, nw1, oth, F4, N4, Sr, hc3, hc4, hnews, hKC⟩ : ∃ S dS G nw1 oth, Fr g' L' _ (fun y => if y = Str.ofString "sorter" then some (Value.ref S) else none) ∧ News g' L' _ nw1 ∧ Srt w nw1 S dS G .none 0 0 [] ((L' + 1 + 1 + 1, o2) :: (L' + 1 + 1 + 1 + 1, o1) :: oth) ∧
      (L' + 1 + 1, o3) ∈ oth ∧ (L' + 1, o4) ∈ oth ∧ (∀ p ∈ news, p ∈ oth) ∧ ∀ p ∈ oth, p.1 ≠ L' + 1 + 1 + 1 ∧ p.1 ≠ L' + 1 + 1 + 1 + 1 :=
    ⟨_, _, _, _, (L' + 1 + 1, o3) :: (L' + 1, o4) :: news, F3, N3, (srt_init (nd_cells4 hnd l1) (mem_lt ldS) lS lG.1 lo0 hd0).less srt_swap, .head _, .tail _ (.head _), fun q hq => .tail _ (.tail _ hq), cells_off l1⟩
  k_unfold; clear G9
  clear N3 F3 lG ldS lS lo0 hd0
  have hns : nvs.size = words.length := by rw [← hlen, ← Array.length_toList]; exact hnv.length
  have hn63 : (nvs.size : Int) < 2 ^ 63 := n63 (by rw [hns]; exact le12 hn)
  have hc4' := (Sr.apart _ (.tail _ (.tail _ hc4))).1
  have hN1 := (Sr.apart _ (.tail _ (.tail _ (hnews _ hN)))).1
  refine wpAny_For ?_
  (repeat' (first | (((fail_if_success (fail_if_success k_unfold)); first | (with_reducible refine (?_ : wpAny _ _ _ _ _ _)) | k_unfold); try dsimp only) | ((fail_if_success (fail_if_success (with_reducible refine ex1 (by constructor) ?_))); (fail_if_success (fail_if_success k_fold)); (with_reducible refine (?_ : let qk := _; let ek := _; wpAny _ _ _ qk ek _)); intro qk ek) | ((fail_if_success (with_reducible first | ((fail_if_success (refine go1 (by constructor) ?_)); refine st1 (by constructor) ?_) | show Exists _)); walk1; try dsimp only)))
  rename Fr g' L' _ _ => F5
  rename News g' L' _ _ => N5
  rename IsRange _ _ _ _ _ _ _ _ => hr
  clear hc4' hN1
  refine forJ_range (n := words.length) rfl F5 N5 hr (small_n (by rw [hns]; exact le12 hn)) (by rw [hns]; exact rng_size rfl)
    (fun i m nw => m = (fun y => if y = Str.ofString "sorter" then some (Value.ref S) else none) ∧ ∃ ns oK kv, oK.data = Data.cell kv ∧ Srt w nw S dS G .none 0 0 ns ((L' + 1 + 1 + 1, oK) :: (L' + 1 + 1 + 1 + 1, o1) :: oth) ∧ GOk words.length (preS words names) i (plG ns))
    ⟨rfl, [], o2, none, d2, Sr, gok_zero _ _⟩ ?_ ?_
  · intro i ti m₁ nw I oI h₁ tk₁ hi pt99 hw F₁ N₁
    (with_reducible refine (?_ : let G9 : Prop := _; G9)); intro G9
    obtain ⟨rfl, ns, oK, kv, hoK, Sr1, hg⟩ := pt99
    k_unfold; clear G9
    refine absB fun Q2 E2 hQ2 => ?_
    have SrI := Sr1.cons (p := (I, oI)) hw
    generalize hq9 : (I, oI) :: nw = nw2 at SrI N₁
    have hK := (SrI.apart _ (.tail _ (.head _))).1
    (repeat' (first | (((fail_if_success (fail_if_success k_unfold)); first | (with_reducible refine (?_ : wpAny _ _ _ _ _ _)) | k_unfold); try dsimp only) | ((fail_if_success (fail_if_success (with_reducible refine ex1 (by constructor) ?_))); (fail_if_success (fail_if_success k_fold)); (with_reducible refine (?_ : let qk := _; let ek := _; wpAny _ _ _ qk ek _)); intro qk ek) | ((fail_if_success (with_reducible show wpAny _ _ (storeName _ _ _) _ _ _)); (fail_if_success (with_reducible first | ((fail_if_success (refine go1 (by constructor) ?_)); refine st1 (by constructor) ?_) | show Exists _)); walk1; try dsimp only)))
    rename Fr g' _ _ _ => F6
    rename News g' _ _ nw2 => N6
    refine storeX_C F6 N6 rfl (updF_setN SrI.nd hK) hoK (fun h2 oK2 F7 N7 dK => ?_) rfl rfl
    have SrK := (SrI.less (oth' := (L' + 1 + 1 + 1, oK) :: (I, oI) :: (L' + 1 + 1 + 1 + 1, o1) :: oth) srt_swap).ready (o' := oK2) (cell_off (o := o1) hKC (fun e => hw _ (Sr1.apart _ (.head _)).1 e.symm) (Nat.succ_ne_self _))
    generalize hq8 : setN (L' + 1 + 1 + 1) oK2 nw2 = nw3 at N7 SrK
    clear hK N6
    have hK := (SrK.apart _ (.head _)).1
    have hc3' := (SrK.apart _ (.tail _ (.tail _ (.tail _ hc3)))).1
    have hc4' := (SrK.apart _ (.tail _ (.tail _ (.tail _ hc4)))).1
    have hN1 := (SrK.apart _ (.tail _ (.tail _ (.tail _ (hnews _ hN))))).1
    have hR1 := (SrK.apart _ (.tail _ (.tail _ (.tail _ (hnews _ hR))))).1
    have hS := SrK.inst
    (with_reducible refine (?_ : let G9 : Prop := _; G9)); intro G9
    obtain ⟨q1, q2, q3, q4, t1, t2, t3, t4, t5, t6, hdS⟩ := SrK.dict
    k_unfold; clear G9
    (repeat' (first | (((fail_if_success (fail_if_success k_unfold)); first | (with_reducible refine (?_ : wpAny _ _ _ _ _ _)) | k_unfold); try dsimp only) | ((fail_if_success (fail_if_success (with_reducible refine ex1 (by constructor) ?_))); (fail_if_success (fail_if_success k_fold)); (with_reducible refine (?_ : let qk := _; let ek := _; wpAny _ _ _ qk ek _)); intro qk ek) | ((fail_if_success (with_reducible first | ((fail_if_success (refine go1 (by constructor) ?_)); refine st1 (by constructor) ?_) | show Exists _)); walk1; try dsimp only)))
    refine MethodCallStar ?_
    (repeat' (first | (((fail_if_success (fail_if_success k_unfold)); first | (with_reducible refine (?_ : wpAny _ _ _ _ _ _)) | k_unfold); try dsimp only) | ((fail_if_success (fail_if_success (with_reducible refine ex1 (by constructor) ?_))); (fail_if_success (fail_if_success k_fold)); (with_reducible refine (?_ : let qk := _; let ek := _; wpAny _ _ _ qk ek _)); intro qk ek) | ((fail_if_success (with_reducible show wpAny _ _ (callWith _ (Value.ref _) _ _) _ _ _)); (fail_if_success (with_reducible first | ((fail_if_success (refine go1 (by constructor) ?_)); refine st1 (by constructor) ?_) | show Exists _)); walk1; try dsimp only)))
    rename Addr => M
    rename News g' _ _ (_ :: nw3) => N8
    rename ∀ p ∈ nw3, p.1 < M => lM
    have SrM := SrK.cons (p := (M, methodObj (.ref 141) (.ref S))) (fun q hq => Nat.ne_of_lt (lM q hq))
    generalize hq7 : (M, methodObj (.ref 141) (.ref S)) :: nw3 = nw4 at N8 SrM
    clear hK hc3' hc4' hN1 hR1 hS hdS lM
    have hM := (SrM.apart _ (.head _)).1
    have hK := (SrM.apart _ (.tail _ (.head _))).1
    have hc3' := (SrM.apart _ (.tail _ (.tail _ (.tail _ (.tail _ hc3))))).1
    have hc4' := (SrM.apart _ (.tail _ (.tail _ (.tail _ (.tail _ hc4))))).1
    have hN1 := (SrM.apart _ (.tail _ (.tail _ (.tail _ (.tail _ (hnews _ hN)))))).1
    have hR1 := (SrM.apart _ (.tail _ (.tail _ (.tail _ (.tail _ (hnews _ hR)))))).1
    refine callWith_MS (K := Mine.K w.params) (g := 141) (self := .ref S) (by k_is) ?_
    (repeat' (first | (((fail_if_success (fail_if_success k_unfold)); first | (with_reducible refine (?_ : wpAny _ _ _ _ _ _)) | k_unfold); try dsimp only) | ((fail_if_success (fail_if_success (with_reducible refine ex1 (by constructor) ?_))); (fail_if_success (fail_if_success k_fold)); (with_reducible refine (?_ : let qk := _; let ek := _; wpAny _ _ _ qk ek _)); intro qk ek) | ((fail_if_success (with_reducible first | ((fail_if_success (refine go1 (by constructor) ?_)); refine st1 (by constructor) ?_) | show Exists _)); walk1; try dsimp only)))
    rw [eval_ListComp]
    refine wpAny_comprehension_free (use := none) rfl (by intro _; rfl) (by rfl) (by rfl) (by decide) ?_
    show wpAny _ _ (eval _ _) _ _ _
    (repeat' (first | (((fail_if_success (fail_if_success k_unfold)); first | (with_reducible refine (?_ : wpAny _ _ _ _ _ _)) | k_unfold); try dsimp only) | ((fail_if_success (fail_if_success (with_reducible refine ex1 (by constructor) ?_))); (fail_if_success (fail_if_success k_fold)); (with_reducible refine (?_ : let qk := _; let ek := _; wpAny _ _ _ qk ek _)); intro qk ek) | ((fail_if_success (with_reducible first | ((fail_if_success (refine go1 (by constructor) ?_)); refine st1 (by constructor) ?_) | show Exists _)); walk1; try dsimp only)))
    clear hr
    rename IsRange _ _ _ _ _ _ _ _ => hr
    rename Fr g' _ _ _ => F9
    rename News g' _ _ nw4 => N9
    (with_reducible refine (?_ : let G9 : Prop := _; G9)); intro G9
    obtain ⟨xk, hxk⟩ : ∃ x, names[i]? = some x := ⟨_, List.getElem?_eq_getElem (by rw [hlen]; exact hi)⟩
    obtain ⟨tx, hvk⟩ := strs_of hnv hxk
    k_unfold; clear G9
    rw [Array.getElem?_toList] at hvk
    refine comp_range (n := words.length) rfl (by decide) rfl rfl (sz_le (le12 hn)) F9 N9 hr (small_n (by rw [hns]; exact le12 hn)) (by rw [hns]; exact rng_size rfl)
      (fun q ys nw => nw4 = nw ∧ IntsAre ys ((rng q).filter fun j => decide (j ≠ (i : Int)) && appS words names j.toNat (i : Int).toNat)) ⟨rfl, .nil⟩ ?_ (post_none ?_)
    · intro j tj ys nw I2 oI2 C oC D mC h3 tk3 E3 hj pt914 hC hx F3 N3 off ne
      (with_reducible refine (?_ : let G9 : Prop := _; G9)); intro G9
      obtain ⟨rfl, hys⟩ := pt914
      k_unfold; clear G9
      (with_reducible refine (?_ : let G9 : Prop := _; G9)); intro G9
      obtain ⟨wj, hwj⟩ : ∃ x, words[j]? = some x := ⟨_, List.getElem?_eq_getElem hj⟩
      obtain ⟨rj, hrj⟩ : ∃ x, rvs.toList[j]? = some x := ⟨_, List.getElem?_eq_getElem (by rw [hrv.1]; exact hj)⟩
      obtain ⟨e, u, vs, c, own, rfl, ⟨d, r, h1, h2, h3, h4, t1, t2, t3, t4, he, hd⟩, hown, hu, hvs⟩ := hrv.2 j _ _ hrj hwj
      k_unfold; clear G9
      rw [Array.getElem?_toList] at hrj
      have he' := (SrM.apart _ (.tail _ (.tail _ (.tail _ (.tail _ (hnews _ (hown _ he))))))).1
      have hd' := (SrM.apart _ (.tail _ (.tail _ (.tail _ (.tail _ (hnews _ (hown _ hd))))))).1
      have hu' := (SrM.apart _ (.tail _ (.tail _ (.tail _ (.tail _ (hnews _ hu)))))).1
      have hkk := z0n i
      have hjj := z0n j
      have happ : ∀ y0, (Txt.split xk (Str.ofString "/")).head? = some y0 → appS words names j i = [Str.ofString "*", wj].any (hitA y0) := fun y0 hy => by
        unfold appS
        rw [List.getD_eq_getElem?_getD, hxk, Option.getD_some, hy, List.getD_eq_getElem?_getD, hwj, Option.getD_some]
      refine forIn_one ?_
      (repeat' (first | (((fail_if_success (fail_if_success k_unfold)); first | (with_reducible refine (?_ : wpAny _ _ _ _ _ _)) | k_unfold); try dsimp only) | ((fail_if_success (fail_if_success (with_reducible refine ex1 (by constructor) ?_))); (fail_if_success (fail_if_success k_fold)); (with_reducible refine (?_ : let qk := _; let ek := _; wpAny _ _ _ qk ek _)); intro qk ek) | ((fail_if_success (with_reducible first | ((fail_if_success (refine go1 (by constructor) ?_)); refine st1 (by constructor) ?_) | show Exists _)); walk1; try dsimp only)))
      · rename (0 : Int) + (j : Int) ≠ _ => hne
        rename News g' _ _ (_ :: _ :: _ :: _) => Na
        refine item_litK (vs := rvs.toList) (k := 0 + (j : Int)) (by rw [Array.toArray_toList]; exact News.isList Na (.tail _ (.tail _ (.tail _ hR1)))) (z0p j) (z063 hj hn) (by rw [hjj, Array.getElem?_toList]; exact hrj) ?_
        (repeat' (first | (((fail_if_success (fail_if_success k_unfold)); first | (with_reducible refine (?_ : wpAny _ _ _ _ _ _)) | k_unfold); try dsimp only) | ((fail_if_success (fail_if_success (with_reducible refine ex1 (by constructor) ?_))); (fail_if_success (fail_if_success k_fold)); (with_reducible refine (?_ : let qk := _; let ek := _; wpAny _ _ _ qk ek _)); intro qk ek) | ((fail_if_success (with_reducible show wpAny _ _ (subscriptTail _ _ _ _) _ _ _)); (fail_if_success (with_reducible first | ((fail_if_success (refine go1 (by constructor) ?_)); refine st1 (by constructor) ?_) | show Exists _)); walk1; try dsimp only)))
        rename News g' _ _ (_ :: _ :: _ :: _) => Nb
        refine item_litK (vs := nvs.toList) (k := 0 + (i : Int)) (by rw [Array.toArray_toList]; exact News.isList Nb (.tail _ (.tail _ (.tail _ hN1)))) (z0p i) (z063 hi hn) (by rw [hkk, Array.getElem?_toList]; exact hvk) ?_
        (repeat' (first | (((fail_if_success (fail_if_success k_unfold)); first | (with_reducible refine (?_ : wpAny _ _ _ _ _ _)) | k_unfold); try dsimp only) | ((fail_if_success (fail_if_success (with_reducible refine ex1 (by constructor) ?_))); (fail_if_success (fail_if_success k_fold)); (with_reducible refine (?_ : let qk := _; let ek := _; wpAny _ _ _ qk ek _)); intro qk ek) | ((fail_if_success (with_reducible first | ((fail_if_success (refine go1 (by constructor) ?_)); refine st1 (by constructor) ?_) | show Exists _)); walk1; try dsimp only)))
        refine applies_spec (by k_asm) (by k_asm) (by k_asm) (by k_asm) (by k_asm) (by first | exact rfl | assumption) (by ktr_room) (by ktr_units) (.tail _ (.tail _ (.tail _ he'))) (.tail _ (.tail _ (.tail _ hd'))) (.tail _ (.tail _ (.tail _ hu'))) hvs (hnl _ (List.mem_of_getElem? hxk)) ?_ ?_
        · intro ag hag
          cases hag with
          | head => exact Nat.le_of_ble_eq_true (by decide +kernel)
          | tail _ hag =>
            cases hag with
            | head => exact hwl _ (List.mem_of_getElem? hwj)
            | tail _ hag => cases hag
        · intro y0 h4 tk4 hy0 F4 N4
          rw [← happ y0 hy0]
          have hij : (decide ((j : Int) ≠ (i : Int)) && appS words names (j : Int).toNat (i : Int).toNat) = appS words names j i := by
            rw [decide_eq_true (z0ne hne), Bool.true_and, Int.toNat_natCast, Int.toNat_natCast]
          (repeat' (first | (((fail_if_success (fail_if_success k_unfold)); first | (with_reducible refine (?_ : wpAny _ _ _ _ _ _)) | k_unfold); try dsimp only) | ((fail_if_success (fail_if_success (with_reducible refine ex1 (by constructor) ?_))); (fail_if_success (fail_if_success k_fold)); (with_reducible refine (?_ : let qk := _; let ek := _; wpAny _ _ _ qk ek _)); intro qk ek) | ((fail_if_success (with_reducible first | ((fail_if_success (refine go1 (by constructor) ?_)); refine st1 (by constructor) ?_) | show Exists _)); walk1; try dsimp only)))
          · rename appS words names j i = true => hap
            refine ⟨_, _, _, _, _, rfl, F4, N4, hC, off, rfl, ?_⟩
            rw [rng_succ, List.filter_append, List.filter_cons, hij, hap, Int.zero_add]
            exact ints_snoc hys _ _
          · rename appS words names j i = false => hap
            refine ⟨_, _, _, _, _, rfl, F4, N4, hC, off, rfl, ?_⟩
            rw [rng_succ, List.filter_append, List.filter_cons, hij, hap]
            simpa using hys
      · rename (0 : Int) + (j : Int) = _ => hne
        refine ⟨_, _, _, _, _, rfl, F3, N3, hC, off, rfl, ?_⟩
        rw [rng_succ, List.filter_append]
        have : (decide ((j : Int) ≠ (i : Int)) && appS words names (j : Int).toNat (i : Int).toNat) = false := by rw [decide_eq_false (by omega)]; rfl
        rw [List.filter_cons, this]
        simpa using hys
    · intro D2 ys nw5 h3 tk3 F3 N3 off pt98
      (with_reducible refine (?_ : let G9 : Prop := _; G9)); intro G9
      obtain ⟨e5, hys⟩ := pt98
      k_unfold; clear G9
      subst e5
      have hps : ((rng words.length).filter fun j => decide (j ≠ (i : Int)) && appS words names j.toNat (i : Int).toNat).length ≤ 12 := by
        refine Nat.le_trans (List.length_filter_le _ _) ?_
        unfold rng
        rw [List.length_map, List.length_range]; exact hn
      have hgl := gok_len hg
      have hgs := gok_su hg
      have hnl2 : (plG ns).length = ns.length := List.length_map ..
      have SrD := SrM.cons (p := (D2, lst ys)) (off1_mem off)
      refine star_seq F3 N3 (.head _) rfl rfl (.inl rfl) rfl (by rw [List.size_toArray, hys.length]; exact sz_le (le12 hps)) fun h4 F4 N4 => ?_
      (repeat' (first | (((fail_if_success (fail_if_success k_unfold)); first | (with_reducible refine (?_ : wpAny _ _ _ _ _ _)) | k_unfold); try dsimp only) | ((fail_if_success (fail_if_success (with_reducible refine ex1 (by constructor) ?_))); (fail_if_success (fail_if_success k_fold)); (with_reducible refine (?_ : let qk := _; let ek := _; wpAny _ _ _ qk ek _)); intro qk ek) | ((fail_if_success (with_reducible first | ((fail_if_success (refine go1 (by constructor) ?_)); refine st1 (by constructor) ?_) | show Exists _)); walk1; try dsimp only)))
      rename Fr g' _ _ _ => Ff
      rename News g' _ _ _ => Nf
      refine call_meth Nf (.tail _ hM) (add_spec (by k_asm) (by k_asm) (by k_asm) (by k_asm) (by k_asm) (by first | exact rfl | assumption) (by ktr_room) (by ktr_units) SrD (ps := preS words names i) (by rw [List.append_nil]; exact hys) (by have h9 : (preS words names i).length ≤ 12 := hps; first | exact Nat.succ_le_succ (add_le2 (by rw [← hnl2]; exact Nat.le_trans hgl hn) h9 (by decide : 12 + 12 ≤ 99)) | omega) (fun n hm9 => ?_) fun ns2 nw6 h5 tk5 F5 N5 Sr5 hpl => ?_)
      · have := hgs n.pl (List.mem_map.mpr ⟨n, hm9, rfl⟩)
        have h9 : (preS words names i).length ≤ 12 := hps
        show n.pl.2.2.length + _ ≤ 1000
        exact add_le2 (Nat.le_trans this (Nat.le_trans (Nat.le_of_lt hi) hn)) h9 (by decide)
      · (repeat' (first | (((fail_if_success (fail_if_success k_unfold)); first | (with_reducible refine (?_ : wpAny _ _ _ _ _ _)) | k_unfold); try dsimp only) | ((fail_if_success (fail_if_success (with_reducible refine ex1 (by constructor) ?_))); (fail_if_success (fail_if_success k_fold)); (with_reducible refine (?_ : let qk := _; let ek := _; wpAny _ _ _ qk ek _)); intro qk ek) | ((fail_if_success (with_reducible first | ((fail_if_success (refine go1 (by constructor) ?_)); refine st1 (by constructor) ?_) | show Exists _)); walk1; try dsimp only)))
        rename Fr g' _ _ _ => Fe
        rename News g' _ _ nw6 => Ne
        rw [Int.zero_add] at hpl
        refine hQ2 _ _ ⟨_, _, _, cutN I nw6, rfl, Fe, news_cut Ne (Sr5.apart _ (.tail _ (.tail _ (.tail _ (.head _))))).1, cut_off, rfl, ns2, oK2, _, dK, Sr5.cut (Sr5.off (.tail _ (.tail _ (.tail _ (.head _))))) (fun q hq => ?_), ?_⟩
        · have hIn : ∀ p ∈ nw, p.1 ≠ I := hw
          cases hq with
          | head => exact ⟨.tail _ (.tail _ (.head _)), fun e => hIn _ (Sr1.apart _ (.head _)).1 e⟩
          | tail _ hq => exact ⟨.tail _ (.tail _ (.tail _ (.tail _ hq))), hIn _ (Sr1.apart _ (.tail _ hq)).1⟩
        · rw [hpl]
          refine gok_add hg hi ((rng_nodup _).filter _) fun p hp => ?_
          exact mem_rng.mp (List.mem_filter.mp hp).1
  · intro h1 tk1 m' nw F₁ N₁ pt96
    (with_reducible refine (?_ : let G9 : Prop := _; G9)); intro G9
    obtain ⟨rfl, ns, oK, kv, hoK, Sr1, hg⟩ := pt96
    k_unfold; clear G9
    have hS := Sr1.inst
    (with_reducible refine (?_ : let G9 : Prop := _; G9)); intro G9
    obtain ⟨q1, q2, q3, q4, t1, t2, t3, t4, t5, t6, hdS⟩ := Sr1.dict
    k_unfold; clear G9
    (repeat' (first | (((fail_if_success (fail_if_success k_unfold)); first | (with_reducible refine (?_ : wpAny _ _ _ _ _ _)) | k_unfold); try dsimp only) | ((fail_if_success (fail_if_success (with_reducible refine ex1 (by constructor) ?_))); (fail_if_success (fail_if_success k_fold)); (with_reducible refine (?_ : let qk := _; let ek := _; wpAny _ _ _ qk ek _)); intro qk ek) | ((fail_if_success (with_reducible show wpAny _ _ (exec (PySem.Stmt.If _ _ _ _) _) _ _ _)); (fail_if_success (with_reducible show wpAny _ _ (exec (PySem.Stmt.Try _ _ _ _ _) _) _ _ _)); (fail_if_success (with_reducible first | ((fail_if_success (refine go1 (by constructor) ?_)); refine st1 (by constructor) ?_) | show Exists _)); walk1; try dsimp only)))
    rename Fr g' _ _ _ => F2
    rename News g' _ _ nw => N2
    refine cut_next (AfterPrep w s (GdS w (ktrTop dp un gd cn cs L a ccd cl outer) base (envX cn cs L a ccd cl :: outer) p loose mean mg mb g') L' S dS G ns ((L' + 1 + 1 + 1, oK) :: (L' + 1 + 1 + 1 + 1, o1) :: oth)) ?_ ?_
    · refine wpAny_Try_except ?_
      (repeat' (first | (((fail_if_success (fail_if_success k_unfold)); first | (with_reducible refine (?_ : wpAny _ _ _ _ _ _)) | k_unfold); try dsimp only) | ((fail_if_success (fail_if_success (with_reducible refine ex1 (by constructor) ?_))); (fail_if_success (fail_if_success k_fold)); (with_reducible refine (?_ : let qk := _; let ek := _; wpAny _ _ _ qk ek _)); intro qk ek) | ((fail_if_success (with_reducible first | ((fail_if_success (refine go1 (by constructor) ?_)); refine st1 (by constructor) ?_) | show Exists _)); walk1; try dsimp only)))
      refine prepare_spec (by k_asm) (by k_asm) (by k_asm) (by k_asm) (by k_asm) (by first | exact rfl | assumption) (by ktr_room) (by ktr_units) XB TB D' Sr1 (gok_cl hg) (fun n hm9 => ?_) ?_ ?_
      · have := gok_su hg n.pl (List.mem_map.mpr ⟨n, hm9, rfl⟩)
        exact Nat.le_trans this (Nat.le_trans hn (by decide))
      · intro hno R us c nw2 g2 h2 tk2 T2 B2 X2 P2 D2 F3 N3 Sr2 hRo hus
        (repeat' (first | (((fail_if_success (fail_if_success k_unfold)); first | (with_reducible refine (?_ : wpAny _ _ _ _ _ _)) | k_unfold); try dsimp only) | ((fail_if_success (fail_if_success (with_reducible refine ex1 (by constructor) ?_))); (fail_if_success (fail_if_success k_fold)); (with_reducible refine (?_ : let qk := _; let ek := _; wpAny _ _ _ qk ek _)); intro qk ek) | ((fail_if_success (with_reducible first | ((fail_if_success (refine go1 (by constructor) ?_)); refine st1 (by constructor) ?_) | show Exists _)); walk1; try dsimp only)))
        exact ⟨g2, h2, _, nw2, false, R, us, c, rfl, ⟨T2, B2, X2, P2, D2⟩, F3, N3, Sr2, hRo, hus, nofun, fun _ => hno⟩
      · intro v hv e G' R us c nw2 h2 tk2 g2 T2 F3 B2 X2 P2 D2 hRz hU Sr2 hRo hus
        refine caught_any (KF := Mine.K w.params) rfl hRz F3 B2 hU XB TB D2 T2 (fun g5 s5 Qb E5 A5 F5 X5 P5 LT q => ?_) fun h5 g5 T5 F5 N5 B5 X5 P5 D5 => ?_
        · refine nameX_K (v := .ref 109) F5 X5 (topRead_of P5) (by k_is) ?_ rfl rfl
          exact (exm_one (X5.keeps F5.keep) LT (b := true) (by kts_exm)).here q
        · (repeat' (first | (((fail_if_success (fail_if_success k_unfold)); first | (with_reducible refine (?_ : wpAny _ _ _ _ _ _)) | k_unfold); try dsimp only) | ((fail_if_success (fail_if_success (with_reducible refine ex1 (by constructor) ?_))); (fail_if_success (fail_if_success k_fold)); (with_reducible refine (?_ : let qk := _; let ek := _; wpAny _ _ _ qk ek _)); intro qk ek) | ((fail_if_success (with_reducible first | ((fail_if_success (refine go1 (by constructor) ?_)); refine st1 (by constructor) ?_) | show Exists _)); walk1; try dsimp only)))
          rename Fr g5 _ _ _ => F6
          rename News g5 _ _ nw2 => N6
          rw [map_twice] at F6
          exact ⟨g5, _, _, nw2, true, R, us, c, rfl, ⟨T5, B5, X5, P5, D5⟩, F6, N6, Sr2, hRo, hus, fun _ => ⟨v, hv⟩, nofun⟩
    · intro s₂ pt91
      (with_reducible refine (?_ : let G9 : Prop := _; G9)); intro G9
      obtain ⟨g2, h2, tk2, nw2, ring, R, us, c, rfl, ⟨gT, gB, gX, gP, gD⟩, F3, N3, Sr2, hRo, hus, hr1, hr2⟩ := pt91
      k_unfold; clear G9
      clear hS hdS
      try dsimp only
      have hS := Sr2.inst
      (with_reducible refine (?_ : let G9 : Prop := _; G9)); intro G9
      obtain ⟨q1, q2, q3, q4, t1, t2, t3, t4, t5, t6, hdS⟩ := Sr2.dict
      k_unfold; clear G9
      (repeat' (first | (((fail_if_success (fail_if_success k_unfold)); first | (with_reducible refine (?_ : wpAny _ _ _ _ _ _)) | k_unfold); try dsimp only) | ((fail_if_success (fail_if_success (with_reducible refine ex1 (by constructor) ?_))); (fail_if_success (fail_if_success k_fold)); (with_reducible refine (?_ : let qk := _; let ek := _; wpAny _ _ _ qk ek _)); intro qk ek) | ((fail_if_success (with_reducible first | ((fail_if_success (refine go1 (by constructor) ?_)); refine st1 (by constructor) ?_) | show Exists _)); walk1; try dsimp only)))
      rename Addr => M2
      rename Fr g2 _ _ _ => F4
      rename News g2 _ _ _ => N4
      rename _ ∧ AllLt _ nw2 => lM2
      rename ∀ p ∈ nw2, p.1 < _ => lRL
      rename_i RL _ _ _
      have SrA := (Sr2.cons (p := (RL, W.listOf #[] 0)) (fun q hq => Nat.ne_of_lt (lRL q hq))).cons (p := (M2, methodObj (.ref 141) (.ref S))) (all_ne' (news := (RL, W.listOf #[] 0) :: nw2) lM2 (Nat.le_refl _))
      refine refused_add (by k_asm) (by k_asm) (by k_asm) (by k_asm) (by k_asm) (by first | exact rfl | assumption) (by ktr_room) (by ktr_units) XB TB gD SrA (SrA.apart _ (.head _)).1 fun g3 h3 tk3 T3 B3 X3 P3 D3 F5 N5 => ?_
      (repeat' (first | (((fail_if_success (fail_if_success k_unfold)); first | (with_reducible refine (?_ : wpAny _ _ _ _ _ _)) | k_unfold); try dsimp only) | ((fail_if_success (fail_if_success (with_reducible refine ex1 (by constructor) ?_))); (fail_if_success (fail_if_success k_fold)); (with_reducible refine (?_ : let qk := _; let ek := _; wpAny _ _ _ qk ek _)); intro qk ek) | ((fail_if_success (with_reducible first | ((fail_if_success (refine go1 (by constructor) ?_)); refine st1 (by constructor) ?_) | show Exists _)); walk1; try dsimp only)))
      rename Fr g3 _ _ _ => F6
      rename News g3 _ _ _ => N6
      refine wpAny_While ?_
      refine codeAny_whileLoop (WS w s (GdS w (ktrTop dp un gd cn cs L a ccd cl outer) base (envX cn cs L a ccd cl :: outer) p loose mean mg mb g') L' S dS G RL words.length (preS words names) ring oth) ?_ words.length ?_
      rotate_left
      · have hRm := (Sr2.apart _ (.head _)).1
        have hKm := (Sr2.apart _ (.tail _ (.head _))).1
        have hCm := (Sr2.apart _ (.tail _ (.tail _ (.head _)))).1
        refine ⟨g3, _, _, _, _, ns, R, us, c, #[], 0, oK, o1, kv, none, oth, 0, _, [], [], rfl, ⟨gT.trans T3, B3, X3, P3, D3⟩, F6, N6, fun y _ _ => rfl, hoK, d1, SrA.less fun q hq => ?_, fun p hp => hp, ⟨?_, fun p hp hm => ?_⟩, ready_pl ▸ hus, ⟨rfl, fun i a b h => by simp at h⟩, ks_init hg, .nil, List.nodup_nil, ⟨Nat.le_refl _, Nat.le_refl _⟩, rfl⟩
        · cases hq with
          | head => exact .tail _ (.tail _ (.head _))
          | tail _ hq =>
            cases hq with
            | head => exact .tail _ (.head _)
            | tail _ hq => exact .tail _ (.tail _ (.tail _ hq))
        · have a1 : R ≠ RL := Nat.ne_of_lt (lRL _ hRm)
          have a2 : R ≠ L' + 1 + 1 + 1 := fun e => hRo _ (.head _) e.symm
          have a3 : R ≠ L' + 1 + 1 + 1 + 1 := fun e => hRo _ (.tail _ (.head _)) e.symm
          have a4 : RL ≠ L' + 1 + 1 + 1 := Nat.ne_of_gt (lRL _ hKm)
          have a5 : RL ≠ L' + 1 + 1 + 1 + 1 := Nat.ne_of_gt (lRL _ hCm)
          exact nodup4 a1 a2 a3 a4 a5 (Nat.ne_of_lt (Nat.lt_succ_self _))
        · have hpm := (Sr2.apart p (.tail _ (.tail _ (.tail _ hp)))).1
          rcases List.mem_cons.mp hm with e | hm
          · exact hRo p (.tail _ (.tail _ hp)) e
          rcases List.mem_cons.mp hm with e | hm
          · exact Nat.ne_of_lt (lRL p hpm) e
          rcases List.mem_cons.mp hm with e | hm
          · exact (hKC p hp).1 e
          · exact (hKC p hp).2 (List.mem_singleton.mp hm)
      intro n s' pt92
      (with_reducible refine (?_ : let G9 : Prop := _; G9)); intro G9
      obtain ⟨g4, h4, tk4, nw4, m4, ns4, R4, us4, c4, ws, cr, oK4, oC4, kv4, cv4, othx, po, rd, dn, rounds, rfl, ⟨gT4, gB4, gX4, gP4, gD4⟩, F7, N7, hm, hoK4, hoC4, Sr4, hox, hap, hus4, hrow, hks, hrun, hdnn, hrdn, rfl⟩ := pt92
      k_unfold; clear G9
      (with_reducible refine (?_ : let G9 : Prop := _; G9)); intro G9
      obtain ⟨u1, u2, rfl⟩ := canon2 hm
      k_unfold; clear G9
      clear hm
      refine absW fun Q3 Q3o hQ3 hQ3o => ?_
      clear hS hdS
      have hS := Sr4.inst
      (with_reducible refine (?_ : let G9 : Prop := _; G9)); intro G9
      obtain ⟨q1, q2, q3, q4, t1, t2, t3, t4, t5, t6, hdS⟩ := Sr4.dict
      k_unfold; clear G9
      (repeat' (first | (((fail_if_success (fail_if_success k_unfold)); first | (with_reducible refine (?_ : wpAny _ _ _ _ _ _)) | k_unfold); try dsimp only) | ((fail_if_success (fail_if_success (with_reducible refine ex1 (by constructor) ?_))); (fail_if_success (fail_if_success k_fold)); (with_reducible refine (?_ : let qk := _; let ek := _; wpAny _ _ _ qk ek _)); intro qk ek) | ((fail_if_success (with_reducible first | ((fail_if_success (refine go1 (by constructor) ?_)); refine st1 (by constructor) ?_) | show Exists _)); walk1; try dsimp only)))
      have hR4 := (Sr4.apart _ (.head _)).1
      have hul : us4.size = rd.length := by rw [← Array.length_toList]; exact hus4.length
      have hrdl : rd.length ≤ 12 := by
        have := len_leG hks.rnd (B := rng words.length) fun x hx => mem_rng.mpr ⟨((hks.rmem x).mp hx).1, ((hks.rmem x).mp hx).2.1⟩
        unfold rng at this
        rw [List.length_map, List.length_range] at this
        exact Nat.le_trans this hn
      have husz : us4.size ≤ 1000 := by rw [hul]; exact le12 hrdl
      refine active_spec (by k_asm) (by k_asm) (by k_asm) (by k_asm) (by k_asm) (by first | exact rfl | assumption) (by ktr_room) (by ktr_units) Sr4 hR4 husz fun h5 tk5 F8 N8 => ?_
      by_cases hem : rd = []
      · have : us4.isEmpty = true := by simp [Array.isEmpty, hul, hem]
        rw [this]
        (repeat' (first | (((fail_if_success (fail_if_success k_unfold)); first | (with_reducible refine (?_ : wpAny _ _ _ _ _ _)) | k_unfold); try dsimp only) | ((fail_if_success (fail_if_success (with_reducible refine ex1 (by constructor) ?_))); (fail_if_success (fail_if_success k_fold)); (with_reducible refine (?_ : let qk := _; let ek := _; wpAny _ _ _ qk ek _)); intro qk ek) | ((fail_if_success (with_reducible first | ((fail_if_success (refine go1 (by constructor) ?_)); refine st1 (by constructor) ?_) | show Exists _)); walk1; try dsimp only)))
        refine hQ3o _ _ ?_
        try dsimp only
        (repeat' (first | (((fail_if_success (fail_if_success k_unfold)); first | (with_reducible refine (?_ : wpAny _ _ _ _ _ _)) | k_unfold); try dsimp only) | ((fail_if_success (fail_if_success (with_reducible refine ex1 (by constructor) ?_))); (fail_if_success (fail_if_success k_fold)); (with_reducible refine (?_ : let qk := _; let ek := _; wpAny _ _ _ qk ek _)); intro qk ek) | ((fail_if_success (with_reducible first | ((fail_if_success (refine go1 (by constructor) ?_)); refine st1 (by constructor) ?_) | show Exists _)); walk1; try dsimp only)))
        refine hQ1 _ _ ?_
        (repeat' (first | (((fail_if_success (fail_if_success k_unfold)); first | (with_reducible refine (?_ : wpAny _ _ _ _ _ _)) | k_unfold); try dsimp only) | ((fail_if_success (fail_if_success (with_reducible refine ex1 (by constructor) ?_))); (fail_if_success (fail_if_success k_fold)); (with_reducible refine (?_ : let qk := _; let ek := _; wpAny _ _ _ qk ek _)); intro qk ek) | ((fail_if_success (with_reducible first | ((fail_if_success (refine go1 (by constructor) ?_)); refine st1 (by constructor) ?_) | show Exists _)); walk1; try dsimp only)))
        rename KtsTurn _ h₀ _ => kT
        rename Fr _ L _ m => kF
        rename News _ L _ _ => kN
        rename Below A₀ base outer _ => kB
        rename (K w.params).In _ => kX
        rename Top p loose mean mg mb _ => kP
        rename KtsDicts (outer.filterMap _) _ => kD
        refine hret _ ring rounds _ _ _ _ kT kB kX kP kD kF kN (fun q hq => .tail _ (Sr4.apart _ (.tail _ (.tail _ (.tail _ (.tail _ (hox _ (hnews _ hq))))))).1) ⟨RL, ws, cr, .head _, .tail _ (Sr4.apart _ (.tail _ (.head _))).1, al2_mono (fun q hq => .tail _ (Sr4.apart _ (.tail _ (.tail _ (.tail _ (.tail _ hq))))).1) hrow⟩ ⟨dn, hrun, next_nil (hem ▸ hks)⟩ (fun e => ?_) fun e k h0 h1 hr => ?_
        · rw [← su_eq hg]; exact hr1 e
        · (with_reducible refine (?_ : let G9 : Prop := _; G9)); intro G9
          obtain ⟨x, hx, q⟩ := hg.all k h0 h1
          obtain ⟨n, hn', rfl⟩ := List.mem_map.mp hx
          k_unfold; clear G9
          refine hr2 e n hn' ?_
          rw [su_eq hg, show n.k = k from q]
          exact hr
      · have : us4.isEmpty = false := by
          have : rd.length ≠ 0 := fun e => hem (List.eq_nil_of_length_eq_zero e)
          simp [Array.isEmpty, hul]; omega
        rw [this]
        (repeat' (first | (((fail_if_success (fail_if_success k_unfold)); first | (with_reducible refine (?_ : wpAny _ _ _ _ _ _)) | k_unfold); try dsimp only) | ((fail_if_success (fail_if_success (with_reducible refine ex1 (by constructor) ?_))); (fail_if_success (fail_if_success k_fold)); (with_reducible refine (?_ : let qk := _; let ek := _; wpAny _ _ _ qk ek _)); intro qk ek) | ((fail_if_success (with_reducible first | ((fail_if_success (refine go1 (by constructor) ?_)); refine st1 (by constructor) ?_) | show Exists _)); walk1; try dsimp only)))
        refine ready_spec (by k_asm) (by k_asm) (by k_asm) (by k_asm) (by k_asm) (by first | exact rfl | assumption) (by ktr_room) (by ktr_units) Sr4 hus4 (by omega) hem (apart_first hap) (fun r hr => ?_) fun T ns5 nw5 c5 h6 tk6 F9 N9 Sr5 hpl5 => ?_
        · (with_reducible refine (?_ : let G9 : Prop := _; G9)); intro G9
          obtain ⟨e, he, q⟩ := (hks.keys r).mpr ⟨((hks.rmem r).mp hr).1, ((hks.rmem r).mp hr).2.1⟩
          obtain ⟨x, hx, rfl⟩ := List.mem_map.mp he
          k_unfold; clear G9
          exact ⟨x, hx, q⟩
        have hdl : dn.length ≤ 12 := by
          have := len_leG hdnn (B := rng words.length) fun x hx => mem_rng.mpr ⟨(hks.dcl x hx).1, (hks.dcl x hx).2.1⟩
          unfold rng at this
          rw [List.length_map, List.length_range] at this
          exact Nat.le_trans this hn
        have hwsl : ws.size ≤ 12 := by
          have := hrow.1
          rw [Array.length_toList] at this
          rw [this]
          exact Nat.le_trans hrdn.1 hdl
        clear hS hdS hR4
        have hT5 := (Sr5.apart _ (.head _)).1
        have hRL5 := (Sr5.apart _ (.tail _ (.tail _ (.head _)))).1
        (repeat' (first | (((fail_if_success (fail_if_success k_unfold)); first | (with_reducible refine (?_ : wpAny _ _ _ _ _ _)) | k_unfold); try dsimp only) | ((fail_if_success (fail_if_success (with_reducible refine ex1 (by constructor) ?_))); (fail_if_success (fail_if_success k_fold)); (with_reducible refine (?_ : let qk := _; let ek := _; wpAny _ _ _ qk ek _)); intro qk ek) | ((fail_if_success (with_reducible first | ((fail_if_success (refine go1 (by constructor) ?_)); refine st1 (by constructor) ?_) | show Exists _)); walk1; try dsimp only)))
        rename Fr g4 _ _ _ => Fa
        rename News g4 _ _ _ => Na
        refine sorted_tup (vs := us4.toList) Fa Na hT5 rfl (n := 0) (by rw [Array.toArray_toList]) hus4 (by rw [hus4.length]; exact Nat.lt_of_le_of_lt hrdl (by decide)) fun D5 h7 vs7 ns7 e7 Fb Nb lD hI7 hp7 ho7 => ?_
        have Sr6 := Sr5.cons (p := (D5, W.listOf vs7.toArray e7)) fun q hq => Nat.ne_of_lt (lD q hq)
        generalize hq6 : (D5, W.listOf vs7.toArray e7) :: nw5 = nw6 at Nb Sr6
        clear hT5 hRL5 Fa Na
        have hRL6 := (Sr6.apart _ (.tail _ (.tail _ (.tail _ (.head _))))).1
        (repeat' (first | (((fail_if_success (fail_if_success k_unfold)); first | (with_reducible refine (?_ : wpAny _ _ _ _ _ _)) | k_unfold); try dsimp only) | ((fail_if_success (fail_if_success (with_reducible refine ex1 (by constructor) ?_))); (fail_if_success (fail_if_success k_fold)); (with_reducible refine (?_ : let qk := _; let ek := _; wpAny _ _ _ qk ek _)); intro qk ek) | ((fail_if_success (with_reducible first | ((fail_if_success (refine go1 (by constructor) ?_)); refine st1 (by constructor) ?_) | show Exists _)); walk1; try dsimp only)))
        (with_reducible refine (?_ : let G9 : Prop := _; G9)); intro G9
        obtain ⟨a1, a2, a3, a4, a5, a6, a7⟩ := apart_ne hap
        k_unfold; clear G9
        have hTm := (Sr6.apart _ (.tail _ (.head _))).1
        have hKm := (Sr6.apart _ (.tail _ (.tail _ (.tail _ (.tail _ (.head _)))))).1
        have hCm := (Sr6.apart _ (.tail _ (.tail _ (.tail _ (.tail _ (.tail _ (.head _))))))).1
        have b1 : T ≠ RL := addr_ne Sr6.nd hTm hRL6 (cls_ne rfl rfl (by intro e; injection e with e; exact absurd e (by decide)))
        have b2 : T ≠ L' + 1 + 1 + 1 := addr_ne Sr6.nd hTm hKm fun e => by have := congrArg Obj.data e; rw [hoK4] at this; cases this
        have b3 : T ≠ L' + 1 + 1 + 1 + 1 := addr_ne Sr6.nd hTm hCm fun e => by have := congrArg Obj.data e; rw [hoC4] at this; cases this
        have d1' : ∀ p ∈ nw5, p.1 ≠ D5 := fun q hq => Nat.ne_of_lt (lD q hq)
        have b4 : D5 ≠ RL := (d1' _ (Sr5.apart _ (.tail _ (.tail _ (.head _)))).1).symm
        have b5 : D5 ≠ L' + 1 + 1 + 1 := (d1' _ (Sr5.apart _ (.tail _ (.tail _ (.tail _ (.head _))))).1).symm
        have b6 : D5 ≠ L' + 1 + 1 + 1 + 1 := (d1' _ (Sr5.apart _ (.tail _ (.tail _ (.tail _ (.tail _ (.head _)))))).1).symm
        have b7 : D5 ≠ R4 := (d1' _ (Sr5.apart _ (.tail _ (.head _))).1).symm
        rename Fr g4 _ _ _ => Fc
        rename News g4 _ _ (setN RL _ nw6) => Nc
        have Sr7 := Sr6.setP (pre := [_, _, _]) (o' := W.listOf (ws.push (.ref D5)) (cr + 1)) (by
          simp only [List.cons_append, List.nil_append, List.forall_mem_cons]
          exact ⟨b4, b1, a1, a4.symm, a5.symm, fun q hq => (a7 q hq).2.1⟩)
        generalize hq7 : setN RL _ nw6 = nw7 at Nc Sr7
        have hRL7 := (Sr7.apart _ (.tail _ (.tail _ (.tail _ (.head _))))).1
        have hrow7 : Al2 (IntsL ((D5, W.listOf vs7.toArray e7) :: othx)) (ws.push (.ref D5)).toList (rounds ++ [ns7]) := by
          rw [Array.toList_push]
          exact al2_snoc (al2_mono (fun _ hq => .tail _ hq) hrow) ⟨D5, vs7.toArray, e7, rfl, .head _, hI7⟩
        have hsub7 : ∀ p ∈ (D5, W.listOf vs7.toArray e7) :: othx, p ∈ nw7 := fun q hq => by
          cases hq with
          | head => exact (Sr7.apart _ (.head _)).1
          | tail _ hq => exact (Sr7.apart _ (.tail _ (.tail _ (.tail _ (.tail _ (.tail _ (.tail _ hq))))))).1
        (with_reducible refine (?_ : let G9 : Prop := _; G9)); intro G9
        obtain ⟨vss, hv1, hv2, hv3⟩ := al2_vss (al2_mono hsub7 hrow7)
        k_unfold; clear G9
        refine wpAny_Assign_Name ?_
        rw [eval_ListComp]
        refine wpAny_comprehension_free (use := none) rfl (by intro _; rfl) (by rfl) (by rfl) (by decide) ?_
        show wpAny _ _ (eval _ _) _ _ _
        (repeat' (first | (((fail_if_success (fail_if_success k_unfold)); first | (with_reducible refine (?_ : wpAny _ _ _ _ _ _)) | k_unfold); try dsimp only) | ((fail_if_success (fail_if_success (with_reducible refine ex1 (by constructor) ?_))); (fail_if_success (fail_if_success k_fold)); (with_reducible refine (?_ : let qk := _; let ek := _; wpAny _ _ _ qk ek _)); intro qk ek) | ((fail_if_success (with_reducible first | ((fail_if_success (refine go1 (by constructor) ?_)); refine st1 (by constructor) ?_) | show Exists _)); walk1; try dsimp only)))
        rename Fr g4 _ _ _ => Fd
        rename News g4 _ _ nw7 => Nd7
        refine comp_flat (ws := ws.push (.ref D5)) (vss := vss) rfl (by decide) rfl rfl rfl (by decide) (by decide) (News.isList Nd7 hRL7) (fun i v hv => ?_) (by rw [hv1, Array.length_toList]) ?_ fun D8 C8 h8 tk8 m8 hk8 hD0 hC0 hDC hn8 hD8 => ?_
        · (with_reducible refine (?_ : let G9 : Prop := _; G9)); intro G9
          obtain ⟨l, us, cc, rfl, hm, hu⟩ := hv3 i v (by rw [Array.getElem?_toList]; exact hv)
          k_unfold; clear G9
          exact ⟨l, us, rfl, News.isList Nd7 hm, hu⟩
        · rw [hv2.length, List.flatten_append, List.length_append, List.flatten_singleton, hp7.length_eq, sizeLine_eq]
          exact add_le2 (Nat.le_trans hrdn.2 hdl) hrdl (by decide)
        refine ⟨m8, hn8, fun h9 hs9 => ?_⟩
        dsimp only at hD0 hC0 hk8 ⊢
        have keep9 : ∀ b o, _ → h9.get? b = some o := fun b o e => hs9.extBut b o (fun z => by rw [z, hC0] at e; cases e) (hk8 b o e)
        (with_reducible refine (?_ : let G9 : Prop := _; G9)); intro G9
        obtain ⟨Fe, Ne⟩ := led_keep Fd Nd7 keep9
        obtain ⟨n1, n2, n3⟩ := new_here Fd Nd7 hD0
        k_unfold; clear G9
        have Ne' := news_cons Ne (hs9.extBut _ _ hDC hD8) n1 n2
        have Sr8 := Sr7.cons (p := (D8, lst vss.flatten)) n3
        generalize hq8 : (D8, lst vss.flatten) :: nw7 = nw8 at Ne' Sr8
        have hC8 := (Sr8.apart _ (.tail _ (.tail _ (.tail _ (.tail _ (.tail _ (.tail _ (.head _)))))))).1
        refine storeX_C Fe Ne' rfl (updF_setN Sr8.nd hC8) hoC4 (fun h10 oC5 Ff Nf dC => ?_) rfl rfl
        have c1 : D8 ≠ L' + 1 + 1 + 1 + 1 := (n3 _ (Sr7.apart _ (.tail _ (.tail _ (.tail _ (.tail _ (.tail _ (.head _))))))).1).symm
        have Sr9 := Sr8.setP (pre := [_, _, _, _, _, _]) (o' := oC5) (by
          simp only [List.cons_append, List.nil_append, List.forall_mem_cons]
          exact ⟨c1, b6, b3, a3, a5, a6, fun q hq => (a7 q hq).2.2.2⟩)
        generalize hq9 : setN (L' + 1 + 1 + 1 + 1) oC5 nw8 = nw9 at Nf Sr9
        have hD9 := (Sr9.apart _ (.head _)).1
        have hT9 := (Sr9.apart _ (.tail _ (.tail _ (.head _)))).1
        have hC9 := (Sr9.apart _ (.tail _ (.tail _ (.tail _ (.tail _ (.tail _ (.tail _ (.head _)))))))).1
        have hc4n := (Sr9.apart _ (.tail _ (.tail _ (.tail _ (.tail _ (.tail _ (.tail _ (.tail _ (hox _ hc4))))))))).1
        have hN9 := (Sr9.apart _ (.tail _ (.tail _ (.tail _ (.tail _ (.tail _ (.tail _ (.tail _ (hox _ (hnews _ hN)))))))))).1
        clear hRL6 hTm hKm hCm hRL7 hC8
        (repeat' (first | (((fail_if_success (fail_if_success k_unfold)); first | (with_reducible refine (?_ : wpAny _ _ _ _ _ _)) | k_unfold); try dsimp only) | ((fail_if_success (fail_if_success (with_reducible refine ex1 (by constructor) ?_))); (fail_if_success (fail_if_success k_fold)); (with_reducible refine (?_ : let qk := _; let ek := _; wpAny _ _ _ qk ek _)); intro qk ek) | ((fail_if_success (with_reducible first | ((fail_if_success (refine go1 (by constructor) ?_)); refine st1 (by constructor) ?_) | show Exists _)); walk1; try dsimp only)))
        refine assign_LC (by rfl) (by intro _; rfl) (by rfl) rfl (by decide) ?_
        (repeat' (first | (((fail_if_success (fail_if_success k_unfold)); first | (with_reducible refine (?_ : wpAny _ _ _ _ _ _)) | k_unfold); try dsimp only) | ((fail_if_success (fail_if_success (with_reducible refine ex1 (by constructor) ?_))); (fail_if_success (fail_if_success k_fold)); (with_reducible refine (?_ : let qk := _; let ek := _; wpAny _ _ _ qk ek _)); intro qk ek) | ((fail_if_success (with_reducible first | ((fail_if_success (refine go1 (by constructor) ?_)); refine st1 (by constructor) ?_) | show Exists _)); walk1; try dsimp only)))
        clear hr
        rename IsRange _ _ _ _ _ _ _ _ => hr
        rename Fr g4 _ _ _ => Fg
        rename News g4 _ _ nw9 => Ng
        refine comp_range (n := words.length) rfl (by decide) rfl rfl (sz_le (le12 hn)) Fg Ng hr (small_n (by rw [hns]; exact le12 hn)) (by rw [hns]; exact rng_size rfl)
          (fun q ys nw => nw9 = nw ∧ IntsAre ys ((rng q).filter fun k => !(rounds ++ [ns7]).flatten.any (· == k))) ⟨rfl, .nil⟩ ?_ (post_some rfl rfl rfl ?_)
        · intro j tj ys nw I2 oI2 C oC D2 mC h3 tk3 E3 hj pt914 hC hx F3 N3 off ne
          (with_reducible refine (?_ : let G9 : Prop := _; G9)); intro G9
          obtain ⟨rfl, hys⟩ := pt914
          k_unfold; clear G9
          refine forIn_one ?_
          rw [Int.zero_add] at hx
          (repeat' (first | (((fail_if_success (fail_if_success k_unfold)); first | (with_reducible refine (?_ : wpAny _ _ _ _ _ _)) | k_unfold); try dsimp only) | ((fail_if_success (fail_if_success (with_reducible refine ex1 (by constructor) ?_))); (fail_if_success (fail_if_success k_fold)); (with_reducible refine (?_ : let qk := _; let ek := _; wpAny _ _ _ qk ek _)); intro qk ek) | ((fail_if_success (with_reducible first | ((fail_if_success (refine go1 (by constructor) ?_)); refine st1 (by constructor) ?_) | show Exists _)); walk1; try dsimp only)))
          rename News g4 _ _ (_ :: _) => Nh
          refine notin_list_ints (vs := vss.flatten) (News.isList Nh (.tail _ (.tail _ (.tail _ hD9)))) hv2 ?_
          cases hb : (rounds ++ [ns7]).flatten.any (· == (j : Int)) with
          | true =>
            (repeat' (first | (((fail_if_success (fail_if_success k_unfold)); first | (with_reducible refine (?_ : wpAny _ _ _ _ _ _)) | k_unfold); try dsimp only) | ((fail_if_success (fail_if_success (with_reducible refine ex1 (by constructor) ?_))); (fail_if_success (fail_if_success k_fold)); (with_reducible refine (?_ : let qk := _; let ek := _; wpAny _ _ _ qk ek _)); intro qk ek) | ((fail_if_success (with_reducible first | ((fail_if_success (refine go1 (by constructor) ?_)); refine st1 (by constructor) ?_) | show Exists _)); walk1; try dsimp only)))
            refine ⟨_, _, _, _, _, rfl, by k_asm, by k_asm, hC, off, rfl, ?_⟩
            rw [rng_succ, List.filter_append, List.filter_cons, hb]
            simpa using hys
          | false =>
            (repeat' (first | (((fail_if_success (fail_if_success k_unfold)); first | (with_reducible refine (?_ : wpAny _ _ _ _ _ _)) | k_unfold); try dsimp only) | ((fail_if_success (fail_if_success (with_reducible refine ex1 (by constructor) ?_))); (fail_if_success (fail_if_success k_fold)); (with_reducible refine (?_ : let qk := _; let ek := _; wpAny _ _ _ qk ek _)); intro qk ek) | ((fail_if_success (with_reducible first | ((fail_if_success (refine go1 (by constructor) ?_)); refine st1 (by constructor) ?_) | show Exists _)); walk1; try dsimp only)))
            refine ⟨_, _, _, _, _, rfl, by k_asm, by k_asm, hC, off, rfl, ?_⟩
            rw [rng_succ, List.filter_append, List.filter_cons, hb]
            exact ints_snoc hys _ _
        · intro D2 ys nw10 h11 tk11 F3 N3 off pt98
          (with_reducible refine (?_ : let G9 : Prop := _; G9)); intro G9
          obtain ⟨e5, hys⟩ := pt98
          k_unfold; clear G9
          subst e5
          (with_reducible refine (?_ : let G9 : Prop := _; G9)); intro G9
          obtain ⟨m1, m2, m3⟩ := km_ready hks hpl5
          k_unfold; clear G9
          have offm := off1_mem off
          have Sr10 := Sr9.cons (p := (D2, lst ys)) offm
          have hD2R : D2 ≠ R4 := (offm _ (Sr9.apart _ (.tail _ (.tail _ (.tail _ (.head _))))).1).symm
          have hD8R : D8 ≠ R4 := (n3 _ (Sr7.apart _ (.tail _ (.tail _ (.head _)))).1).symm
          have hTR : T ≠ R4 := addr_ne Sr9.nd hT9 (Sr9.apart _ (.tail _ (.tail _ (.tail _ (.head _))))).1 (cls_ne rfl rfl (by intro e; injection e with e; exact absurd e (by decide)))
          generalize hq10 : (D2, lst ys) :: nw9 = nw11 at N3 Sr10
          have hS := Sr10.inst
          (with_reducible refine (?_ : let G9 : Prop := _; G9)); intro G9
          obtain ⟨q1, q2, q3, q4, t1, t2, t3, t4, t5, t6, hdS⟩ := Sr10.dict
          k_unfold; clear G9
          (repeat' (first | (((fail_if_success (fail_if_success k_unfold)); first | (with_reducible refine (?_ : wpAny _ _ _ _ _ _)) | k_unfold); try dsimp only) | ((fail_if_success (fail_if_success (with_reducible refine ex1 (by constructor) ?_))); (fail_if_success (fail_if_success k_fold)); (with_reducible refine (?_ : let qk := _; let ek := _; wpAny _ _ _ qk ek _)); intro qk ek) | ((fail_if_success (with_reducible first | ((fail_if_success (refine go1 (by constructor) ?_)); refine st1 (by constructor) ?_) | show Exists _)); walk1; try dsimp only)))
          refine MethodCallStar ?_
          (repeat' (first | (((fail_if_success (fail_if_success k_unfold)); first | (with_reducible refine (?_ : wpAny _ _ _ _ _ _)) | k_unfold); try dsimp only) | ((fail_if_success (fail_if_success (with_reducible refine ex1 (by constructor) ?_))); (fail_if_success (fail_if_success k_fold)); (with_reducible refine (?_ : let qk := _; let ek := _; wpAny _ _ _ qk ek _)); intro qk ek) | ((fail_if_success (with_reducible show wpAny _ _ (callWith _ (Value.ref _) _ _) _ _ _)); (fail_if_success (with_reducible first | ((fail_if_success (refine go1 (by constructor) ?_)); refine st1 (by constructor) ?_) | show Exists _)); walk1; try dsimp only)))
          rename Addr => M3
          rename Fr g4 _ _ _ => Fi
          rename News g4 _ _ (_ :: nw11) => Ni
          rename ∀ p ∈ nw11, p.1 < M3 => lM3
          have Sr11 := Sr10.cons (p := (M3, methodObj (.ref 174) (.ref S))) (fun q hq => Nat.ne_of_lt (lM3 q hq))
          have hM3R : M3 ≠ R4 := Nat.ne_of_gt (lM3 _ (Sr10.apart _ (.tail _ (.tail _ (.tail _ (.tail _ (.head _)))))).1)
          generalize hq11 : (M3, methodObj (.ref 174) (.ref S)) :: nw11 = nw12 at Ni Sr11
          have hM := (Sr11.apart _ (.head _)).1
          have hT12 := (Sr11.apart _ (.tail _ (.tail _ (.tail _ (.tail _ (.head _)))))).1
          refine callWith_MS1 (K := Mine.K w.params) (g := 174) (self := .ref S) (by k_is) ?_
          (repeat' (first | (((fail_if_success (fail_if_success k_unfold)); first | (with_reducible refine (?_ : wpAny _ _ _ _ _ _)) | k_unfold); try dsimp only) | ((fail_if_success (fail_if_success (with_reducible refine ex1 (by constructor) ?_))); (fail_if_success (fail_if_success k_fold)); (with_reducible refine (?_ : let qk := _; let ek := _; wpAny _ _ _ qk ek _)); intro qk ek) | ((fail_if_success (with_reducible first | ((fail_if_success (refine go1 (by constructor) ?_)); refine st1 (by constructor) ?_) | show Exists _)); walk1; try dsimp only)))
          rename Fr g4 _ _ _ => Fj
          rename News g4 _ _ nw12 => Nj
          refine star_seq Fj Nj hT12 rfl rfl (.inr rfl) rfl (sz_le husz) fun h12 Fk Nk => ?_
          refine ⟨methP Nk hM (gX4.keeps Fk.keep), call_meth Nk hM (done_spec (by k_asm) (by k_asm) (by k_asm) (by k_asm) (by k_asm) (by first | exact rfl | assumption) (by ktr_room) (by ktr_units) (us := #[]) (cR := c5) (rd := []) (vs := us4.toList) (ks := rd) (oth := (M3, methodObj (.ref 174) (.ref S)) :: (D2, lst ys) :: (D8, lst vss.flatten) :: (D5, W.listOf vs7.toArray e7) :: (T, { cls := .type "tuple", data := .seq us4 }) :: (RL, W.listOf (ws.push (.ref D5)) (cr + 1)) :: (L' + 1 + 1 + 1, oK4) :: (L' + 1 + 1 + 1 + 1, oC5) :: othx)
            (Sr11.less srt_six) .nil hus4 (Nat.zero_le _) (Nat.le_trans hrdl (by decide)) ?_ (fun n hm9 => Nat.le_trans (m1 n hm9) (le12 hn)) m2 m3 hks.rnd fun ns6 us6 c6 rd6 nw13 h13 tk13 Fl Nl Sr12 hus6 hpl6 hst6 => ?_)⟩
          · simp only [List.forall_mem_cons]
            exact ⟨hM3R, hD2R, hD8R, b7, hTR, a1.symm, a2.symm, a3.symm, fun q hq => (a7 q hq).1⟩
          have hks6 := ks_turn (pre_nodup words names) hks (hpl5 ▸ hpl6)
          have hT13 := (Sr12.apart _ (.tail _ (.tail _ (.tail _ (.tail _ (.tail _ (.head _))))))).1
          have hD213 := (Sr12.apart _ (.tail _ (.tail _ (.head _)))).1
          (repeat' (first | (((fail_if_success (fail_if_success k_unfold)); first | (with_reducible refine (?_ : wpAny _ _ _ _ _ _)) | k_unfold); try dsimp only) | ((fail_if_success (fail_if_success (with_reducible refine ex1 (by constructor) ?_))); (fail_if_success (fail_if_success k_fold)); (with_reducible refine (?_ : let qk := _; let ek := _; wpAny _ _ _ qk ek _)); intro qk ek) | ((fail_if_success (with_reducible first | ((fail_if_success (refine go1 (by constructor) ?_)); refine st1 (by constructor) ?_) | show Exists _)); walk1; try dsimp only)))
          refine wpAny_For ?_
          have hyl : ys.length ≤ 12 := by
            rw [hys.length]
            refine Nat.le_trans (List.length_filter_le _ _) ?_
            unfold rng
            rw [List.length_map, List.length_range]; exact hn
          (with_reducible refine (?_ : let G9 : Prop := _; G9)); intro G9
          obtain ⟨r0, rt, hre⟩ : ∃ r0 rt, rd = r0 :: rt := List.exists_cons_of_ne_nil hem
          obtain ⟨t0, ht0⟩ := ints_at hus4 (i := 0) (k := r0) (by rw [hre]; rfl)
          k_unfold; clear G9
          (repeat' (first | (((fail_if_success (fail_if_success k_unfold)); first | (with_reducible refine (?_ : wpAny _ _ _ _ _ _)) | k_unfold); try dsimp only) | ((fail_if_success (fail_if_success (with_reducible refine ex1 (by constructor) ?_))); (fail_if_success (fail_if_success k_fold)); (with_reducible refine (?_ : let qk := _; let ek := _; wpAny _ _ _ qk ek _)); intro qk ek) | ((fail_if_success (with_reducible show wpAny _ _ (subscriptTail _ _ _ _) _ _ _)); (fail_if_success (with_reducible first | ((fail_if_success (refine go1 (by constructor) ?_)); refine st1 (by constructor) ?_) | show Exists _)); walk1; try dsimp only)))
          refine' kmk_slice_ints (s := { s with heap := h13, toks := _ }) Fl Nl (News.isList Nl hD213) IsPart.none (IsPart.int _ _) hys (kmk_upto hys (by decide)) rfl ?_ ?yS3 ?yS4 (by rw [List.size_toArray, sizeLine_eq]; omega); (case yS3 => with_unfolding_all rfl); (case yS4 => (intro _; with_unfolding_all rfl))
          intro D20 ws20 h20 F20 N20 l20 hI20 hC20 hL20
          have Sr13 := Sr12.cons (p := (D20, W.listOf ws20.toArray 0)) fun q hq => Nat.ne_of_lt (l20 q hq)
          generalize hq13 : (D20, W.listOf ws20.toArray 0) :: nw13 = nw14 at N20 Sr13
          have hT14 := (Sr13.apart _ (.tail _ (.tail _ (.tail _ (.tail _ (.tail _ (.tail _ (.head _)))))))).1
          have hD20 := (Sr13.apart _ (.head _)).1
          (repeat' (first | (((fail_if_success (fail_if_success k_unfold)); first | (with_reducible refine (?_ : wpAny _ _ _ _ _ _)) | k_unfold); try dsimp only) | ((fail_if_success (fail_if_success (with_reducible refine ex1 (by constructor) ?_))); (fail_if_success (fail_if_success k_fold)); (with_reducible refine (?_ : let qk := _; let ek := _; wpAny _ _ _ qk ek _)); intro qk ek) | ((fail_if_success (with_reducible show wpAny _ _ (subscriptTail _ _ _ _) _ _ _)); (fail_if_success (with_reducible first | ((fail_if_success (refine go1 (by constructor) ?_)); refine st1 (by constructor) ?_) | show Exists _)); walk1; try dsimp only)))
          rename Fr g4 _ _ _ => F21
          rename News g4 _ _ nw14 => N21
          refine item_tupleT (l := us4.toList) (k := 0) (j := 0) ⟨_, (N21 _ hT14).1, rfl, 0, by rw [Array.toArray_toList]⟩ (by decide) (by decide) (seqIndex?_zero (by rw [hus4.length, hre]; exact Nat.succ_pos _)) ht0 ?_
          (repeat' (first | (((fail_if_success (fail_if_success k_unfold)); first | (with_reducible refine (?_ : wpAny _ _ _ _ _ _)) | k_unfold); try dsimp only) | ((fail_if_success (fail_if_success (with_reducible refine ex1 (by constructor) ?_))); (fail_if_success (fail_if_success k_fold)); (with_reducible refine (?_ : let qk := _; let ek := _; wpAny _ _ _ qk ek _)); intro qk ek) | ((fail_if_success (with_reducible first | ((fail_if_success (refine go1 (by constructor) ?_)); refine st1 (by constructor) ?_) | show Exists _)); walk1; try dsimp only)))
          rename Addr => D21
          rename List Value => ws21
          rename _ ∧ AllLt _ nw14 => l21
          rename ∀ p ∈ nw14, p.1 < _ => l22
          rename Fr g4 _ _ _ => F22
          rename News g4 _ _ (_ :: _ :: nw14) => N22
          rename IntsAre _ (List.take _ _ ++ [r0]) => hI21
          rename_i l9 _ _
          have Sr14 := (Sr13.cons (p := (l9, W.listOf #[.int r0 t0] 0)) fun q hq => Nat.ne_of_lt (l22 q hq)).cons (p := (D21, W.listOf ws21.toArray 0)) (all_ne' (news := (l9, W.listOf #[.int r0 t0] 0) :: nw14) l21 (Nat.le_refl _))
          have hK14 := (Sr13.apart _ (List.mem_of_getElem? (i := 8) rfl)).1
          have hKD : D21 ≠ L' + 1 + 1 + 1 := Nat.ne_of_gt (mem_lt l21.2 _ hK14)
          have Sr15 : Srt w _ S dS G (.ref R4) (po + rd.length) (po + rd.length) ns6 ((L' + 1 + 1 + 1, oK4) :: (R4, W.listOf us6 c6) :: (RL, W.listOf (ws.push (.ref D5)) (cr + 1)) :: (L' + 1 + 1 + 1 + 1, oC5) :: (D21, W.listOf ws21.toArray 0) :: (D5, W.listOf vs7.toArray e7) :: othx) := Sr14.less (by
            simp only [List.forall_mem_cons]
            exact ⟨List.mem_of_getElem? (i := 10) rfl, List.mem_of_getElem? (i := 3) rfl, List.mem_of_getElem? (i := 9) rfl, List.mem_of_getElem? (i := 11) rfl, List.mem_of_getElem? (i := 0) rfl, List.mem_of_getElem? (i := 7) rfl,
              fun q hq => .tail _ (.tail _ (.tail _ (.tail _ (.tail _ (.tail _ (.tail _ (.tail _ (.tail _ (.tail _ (.tail _ (.tail _ hq)))))))))))⟩)
          generalize hq15 : (D21, W.listOf ws21.toArray 0) :: (l9, W.listOf #[.int r0 t0] 0) :: nw14 = nw15 at N22 Sr15
          have hKo : ∀ q ∈ (R4, W.listOf us6 c6) :: (RL, W.listOf (ws.push (.ref D5)) (cr + 1)) :: (L' + 1 + 1 + 1 + 1, oC5) :: (D21, W.listOf ws21.toArray 0) :: (D5, W.listOf vs7.toArray e7) :: othx, q.1 ≠ L' + 1 + 1 + 1 := by
            simp only [List.forall_mem_cons]
            exact ⟨a2, a4, a6.symm, hKD, b5, fun q hq => (a7 q hq).2.2.1⟩
          have hrun6 := krun_more hrun hks hp7 ho7 hem
          have hel := wait_nodes hks6 hn (krun_mem hrun6) (r0 := r0) (by rw [hre]; exact .head _)
          have hap6 : Apart [R4, RL, L' + 1 + 1 + 1, L' + 1 + 1 + 1 + 1] ((D5, W.listOf vs7.toArray e7) :: othx) := ⟨hap.1, by
            simp only [List.forall_mem_cons]
            refine ⟨fun q => ?_, hap.2⟩
            rcases List.mem_cons.mp q with q | q
            · exact b7 q
            rcases List.mem_cons.mp q with q | q
            · exact b4 q
            rcases List.mem_cons.mp q with q | q
            · exact b5 q
            · exact b6 (List.mem_singleton.mp q)⟩
          clear hS hdS
          refine forJ_listS (Gd := GdS w (ktrTop dp un gd cn cs L a ccd cl outer) base (envX cn cs L a ccd cl :: outer) p loose mean mg mb g') rfl ⟨gT4, gB4, gX4, gP4, gD4⟩ F22 N22 (Sr15.apart _ (List.mem_of_getElem? (i := 4) rfl)).1
            (JW w L' S dS G R4 RL ring (po + rd.length) ns6 ((R4, W.listOf us6 c6) :: (RL, W.listOf (ws.push (.ref D5)) (cr + 1)) :: (L' + 1 + 1 + 1 + 1, oC5) :: (D21, W.listOf ws21.toArray 0) :: (D5, W.listOf vs7.toArray e7) :: othx)) ?_ ⟨map_head, oK4, kv4, hoK4, Sr15⟩ ?_ ?_
          · intro i m nw pt93
            (with_reducible refine (?_ : let G9 : Prop := _; G9)); intro G9
            obtain ⟨_, oK5, _, _, Sr5⟩ := pt93
            k_unfold; clear G9
            exact (Sr5.apart _ (List.mem_of_getElem? (i := 4) rfl)).1
          · intro i v g5 m5 nw16 I oI h23 tk23 hi hv pt911 pt912 hw F23 N23
            (with_reducible refine (?_ : let G9 : Prop := _; G9)); intro G9
            obtain ⟨gT5, gB5, gX5, gP5, gD5⟩ := pt911
            obtain ⟨hm5, oK5, kv5, hoK5, Sr16⟩ := pt912
            k_unfold; clear G9
            rw [List.getElem?_toArray] at hv
            (with_reducible refine (?_ : let G9 : Prop := _; G9)); intro G9
            obtain ⟨kk, tt, rfl, hkk⟩ := ints_get hI21 hv
            obtain ⟨nd, hnd6, rfl, hndp, hndb⟩ := hel kk (List.mem_of_getElem? hkk)
            obtain ⟨u3, u4, rfl⟩ := canon2 hm5
            k_unfold; clear G9
            clear hm5
            refine absR fun Q5 hQ5 => ?_
            have SrI := Sr16.cons (p := (I, oI)) hw
            generalize hq17 : (I, oI) :: nw16 = nw17 at SrI N23
            have hK17 := (SrI.apart _ (.tail _ (.head _))).1
            (repeat' (first | (((fail_if_success (fail_if_success k_unfold)); first | (with_reducible refine (?_ : wpAny _ _ _ _ _ _)) | k_unfold); try dsimp only) | ((fail_if_success (fail_if_success (with_reducible refine ex1 (by constructor) ?_))); (fail_if_success (fail_if_success k_fold)); (with_reducible refine (?_ : let qk := _; let ek := _; wpAny _ _ _ qk ek _)); intro qk ek) | ((fail_if_success (with_reducible show wpAny _ _ (storeName _ _ _) _ _ _)); (fail_if_success (with_reducible first | ((fail_if_success (refine go1 (by constructor) ?_)); refine st1 (by constructor) ?_) | show Exists _)); walk1; try dsimp only)))
            rename Fr g5 _ _ _ => F24
            rename News g5 _ _ nw17 => N24
            refine storeX_C F24 N24 rfl (updF_setN SrI.nd hK17) hoK5 (fun h24 oK6 F25 N25 dK6 => ?_) rfl rfl
            have hIK : I ≠ L' + 1 + 1 + 1 := fun e => hw _ (Sr16.apart _ (.head _)).1 e.symm
            have SrK := (SrI.less srt_swap).ready (o' := oK6) (by
              rw [List.forall_mem_cons]
              exact ⟨hIK, hKo⟩)
            generalize hq18 : setN (L' + 1 + 1 + 1) oK6 nw17 = nw18 at N25 SrK
            have hS := SrK.inst
            (with_reducible refine (?_ : let G9 : Prop := _; G9)); intro G9
            obtain ⟨q1, q2, q3, q4, t1, t2, t3, t4, t5, t6, hdS⟩ := SrK.dict
            k_unfold; clear G9
            have hK18 := (SrK.apart _ (.head _)).1
            (repeat' (first | (((fail_if_success (fail_if_success k_unfold)); first | (with_reducible refine (?_ : wpAny _ _ _ _ _ _)) | k_unfold); try dsimp only) | ((fail_if_success (fail_if_success (with_reducible refine ex1 (by constructor) ?_))); (fail_if_success (fail_if_success k_fold)); (with_reducible refine (?_ : let qk := _; let ek := _; wpAny _ _ _ qk ek _)); intro qk ek) | ((fail_if_success (with_reducible first | ((fail_if_success (refine go1 (by constructor) ?_)); refine st1 (by constructor) ?_) | show Exists _)); walk1; try dsimp only)))
            rename Addr => M5
            rename Fr g5 _ _ _ => F26
            rename News g5 _ _ (_ :: nw18) => N26
            rename ∀ p ∈ nw18, p.1 < M5 => lM5
            have SrM := SrK.cons (p := (M5, methodObj (.ref 174) (.ref S))) fun q hq => Nat.ne_of_lt (lM5 q hq)
            refine refused_done (by k_asm) (by k_asm) (by k_asm) (by k_asm) (by k_asm) (by first | exact rfl | assumption) (by ktr_room) (by ktr_units) XB TB gD5 SrM (SrM.apart _ (.head _)).1 hnd6 hndp hndb fun g6 h25 tk25 T6 B6 X6 P6 D6 F27 N27 => ?_
            (repeat' (first | (((fail_if_success (fail_if_success k_unfold)); first | (with_reducible refine (?_ : wpAny _ _ _ _ _ _)) | k_unfold); try dsimp only) | ((fail_if_success (fail_if_success (with_reducible refine ex1 (by constructor) ?_))); (fail_if_success (fail_if_success k_fold)); (with_reducible refine (?_ : let qk := _; let ek := _; wpAny _ _ _ qk ek _)); intro qk ek) | ((fail_if_success (with_reducible first | ((fail_if_success (refine go1 (by constructor) ?_)); refine st1 (by constructor) ?_) | show Exists _)); walk1; try dsimp only)))
            rename Fr g6 _ _ _ => F29
            rename News g6 _ _ (_ :: nw18) => N30
            have hIm := (SrM.apart _ (.tail _ (.tail _ (.head _)))).1
            refine hQ5 _ _ ⟨g6, _, _, _, cutN I _, rfl, ⟨gT5.trans T6, B6, X6, P6, D6⟩, F29, news_cut N30 hIm, cut_off, map_end, oK6, _, dK6, SrM.cut (SrM.off (.tail _ (.tail _ (.head _)))) fun q hq => ?_⟩
            cases hq with
            | head => exact ⟨.tail _ (.head _), hIK.symm⟩
            | tail _ hq => exact ⟨.tail _ (.tail _ (.tail _ hq)), hw _ (Sr16.apart _ (.tail _ hq)).1⟩
          · intro g6 h26 tk26 m6 nw19 pt95 F28 N29 pt98
            (with_reducible refine (?_ : let G9 : Prop := _; G9)); intro G9
            obtain ⟨gT6, gB6, gX6, gP6, gD6⟩ := pt95
            obtain ⟨hm6, oK7, kv7, hoK7, Sr17⟩ := pt98
            k_unfold; clear G9
            (repeat' (first | (((fail_if_success (fail_if_success k_unfold)); first | (with_reducible refine (?_ : wpAny _ _ _ _ _ _)) | k_unfold); try dsimp only) | ((fail_if_success (fail_if_success (with_reducible refine ex1 (by constructor) ?_))); (fail_if_success (fail_if_success k_fold)); (with_reducible refine (?_ : let qk := _; let ek := _; wpAny _ _ _ qk ek _)); intro qk ek) | ((fail_if_success (with_reducible first | ((fail_if_success (refine go1 (by constructor) ?_)); refine st1 (by constructor) ?_) | show Exists _)); walk1; try dsimp only)))
            refine hQ3 _ _ ?_
            try dsimp only
            have hnd2 : (dn ++ rd).Nodup := List.nodup_append.mpr ⟨hdnn, hks.rnd, fun x hx y hy e => ((hks.rmem y).mp hy).2.2.1 (e ▸ hx)⟩
            have hle2 : (dn ++ rd).length ≤ words.length := by
              have := len_leG hnd2 (B := rng words.length) fun x hx => mem_rng.mpr ⟨(hks6.dcl x hx).1, (hks6.dcl x hx).2.1⟩
              unfold rng at this
              rw [List.length_map, List.length_range] at this
              exact this
            have hrl : rd.length ≠ 0 := fun e => hem (List.eq_nil_of_length_eq_zero e)
            rw [List.length_append] at hle2
            refine ⟨words.length - (dn ++ rd).length, ?_, g6, h26, tk26, nw19, m6, ns6, R4, us6, c6, ws.push (.ref D5), cr + 1, oK7, oC5, kv7, _, (D5, W.listOf vs7.toArray e7) :: othx, po + rd.length, rd6, dn ++ rd, rounds ++ [ns7], rfl, ⟨gT6, gB6, gX6, gP6, gD6⟩, F28, N29, hm6, hoK7, dC, Sr17.less ?_, fun q hq => .tail _ (hox q hq), hap6, hus6, hrow7, hks6, hrun6, hnd2, ⟨?_, ?_⟩, rfl⟩
            · rw [List.length_append]; exact Nat.sub_lt_sub_left (Nat.lt_of_lt_of_le (Nat.lt_add_of_pos_right (Nat.pos_of_ne_zero hrl)) hle2) (Nat.lt_add_of_pos_right (Nat.pos_of_ne_zero hrl))
            · simp only [List.forall_mem_cons]
              exact ⟨List.mem_of_getElem? (i := 1) rfl, List.mem_of_getElem? (i := 2) rfl, List.mem_of_getElem? (i := 0) rfl, List.mem_of_getElem? (i := 3) rfl, List.mem_of_getElem? (i := 5) rfl, fun q hq => .tail _ (.tail _ (.tail _ (.tail _ (.tail _ (.tail _ hq)))))⟩
            · rw [List.length_append, List.length_append, List.length_singleton]
              have := hrdn.1
              exact Nat.add_le_add this (Nat.pos_of_ne_zero hrl)
            · rw [List.flatten_append, List.length_append, List.flatten_singleton, List.length_append, hp7.length_eq]
              have := hrdn.2
              exact Nat.add_le_add_right this _
end
section
theorem toNat_le {M : Int} (h : M ≤ 100) : M.toNat ≤ 1000 := Nat.le_trans (Int.toNat_le.mpr h : _ ≤ 100) (by decide)
theorem toNat_pred (M : Int) : M.toNat = (M + 1 - 1).toNat := by rw [Int.add_sub_cancel]
theorem small_M {M : Int} (h0 : 0 ≤ M) (h : M ≤ 100) : Builtin.Range.small 1 (M + 1) 1 = true := small_one (by lia) (by lia) (by lia) (by lia)
theorem len_lt {a z : Nat} (h : (a : Int) < 1 + (z : Int)) : decide (a < z + 1) = true := decide_eq_true (Int.ofNat_lt.mp (by rw [Int.add_comm] at h; exact h))
theorem len_ge {a z : Nat} (h : ¬ (a : Int) < 1 + (z : Int)) : decide (a < z + 1) = false := decide_eq_false fun q => h (by rw [Int.add_comm]; exact Int.ofNat_lt.mpr q)
theorem len_of1 {a : Nat} (h : (a : Int) = 1) : a = 1 := Int.ofNat.inj h
theorem two_le {a : Nat} (h : a ≤ 12) : 1 + a ≤ sizeLine := sz_le (add_le2 (Nat.le_refl 1) h (by decide))
theorem two_le' {a : Nat} (h : a ≤ 12) : a + 1 ≤ sizeLine := sz_le (add_le2 h (Nat.le_refl 1) (by decide))
def dueIn (ws : List Str) (hs : List Int) (z k n : Nat) : List Int := ((List.range n).filter fun j => decide ((wd ws j).length < z) && withS (wd ws j) (wd ws k)).map fun j => hs.getD j 0
def maxL (l : List Int) : Int := l.foldl max 0
def dueStep (ws : List Str) (z : Nat) (st : Bool × List Int) (k : Nat) : Bool × List Int :=
  if (wd ws k).length = z then (st.1 || decide (1 < ws.count (wd ws k)), st.2.set k (if ws.count (wd ws k) = 1 ∧ (-1 : Int) ∉ dueIn ws st.2 z k ws.length then 1 + maxL (dueIn ws st.2 z k ws.length) else -1)) else st
def dueTurn (ws : List Str) (st : Bool × List Int) (i : Nat) : Bool × List Int := (List.range ws.length).foldl (dueStep ws (i + 1)) st
def dueSt (ws : List Str) (i : Nat) : Bool × List Int := (List.range i).foldl (dueTurn ws) (false, List.replicate ws.length 0)
def dueRows (hs : List Int) : List (List Int) := (List.range (maxL hs).toNat).map fun (d : Nat) => (rng hs.length).filter fun k => decide (hs.getD k.toNat 0 = 1 + (d : Int))
def mD (b : Bool) (u : Option Value) : Str → Option Value := fun y => if y = Str.ofString "inner" then u else if y = Str.ofString "ring" then some (Value.bool b) else none
abbrev ownD (L H : Addr) (vs : Array Value) (c : Nat) (oZ oK oH oW : Obj) : List (Addr × Obj) := [(H, W.listOf vs c), (L + 1 + 1 + 1 + 1, oZ), (L + 1 + 1 + 1, oK), (L + 1 + 1, oH), (L + 1, oW)]
inductive D1 (news : List (Addr × Obj)) (L H : Addr) (oZ oH oW : Obj) (i : Nat) (m : Str → Option Value) (nw : List (Addr × Obj)) : Prop
  | mk (hm : m = mD false none) (oK : Obj) (kv : Option Value) (vs : Array Value) (c : Nat) (dK : oK.data = Data.cell kv) (O : Own news nw (ownD L H vs c oZ oK oH oW)) (hv : IntsAre vs.toList (List.replicate i 0)) : D1 news L H oZ oH oW i m nw
inductive D2 (news : List (Addr × Obj)) (L H : Addr) (oH oW : Obj) (words : List Str) (i : Nat) (m : Str → Option Value) (nw : List (Addr × Obj)) : Prop
  | mk (u : Option Value) (hm : m = mD (dueSt words i).1 u) (oZ oK : Obj) (zv kv : Option Value) (vs : Array Value) (c : Nat) (dZ : oZ.data = Data.cell zv) (dK : oK.data = Data.cell kv) (O : Own news nw (ownD L H vs c oZ oK oH oW)) (hv : IntsAre vs.toList (dueSt words i).2) : D2 news L H oH oW words i m nw
def dueIt (words : List Str) (z i : Nat) : Bool × List Int := (List.range i).foldl (dueStep words (z + 1)) (dueSt words z)
inductive D3 (news : List (Addr × Obj)) (L H I : Addr) (oI oZ oH oW : Obj) (words : List Str) (z : Nat) (i : Nat) (m : Str → Option Value) (nw : List (Addr × Obj)) : Prop
  | mk (u : Option Value) (hm : m = mD (dueIt words z i).1 u) (oK : Obj) (kv : Option Value) (vs : Array Value) (c : Nat) (dK : oK.data = Data.cell kv) (O : Own news nw ((I, oI) :: ownD L H vs c oZ oK oH oW)) (hv : IntsAre vs.toList (dueIt words z i).2) : D3 news L H I oI oZ oH oW words z i m nw
theorem lt_cons {nw : List (Addr × Obj)} {a b : Nat} {o : Obj} (h : ∀ q ∈ nw, @LT.lt Nat _ q.1 a) (hab : a < b) : ∀ q ∈ (a, o) :: nw, @LT.lt Nat _ q.1 b := fun q hq => by
  rcases List.mem_cons.mp hq with rfl | hq
  · exact hab
  · exact Nat.lt_trans (h q hq) hab
theorem own_due {news : List (Addr × Obj)} {L H : Nat} {o5 oZ oK oH oW : Obj} (hn : Nd news) (l : ∀ p ∈ news, @LT.lt Nat _ p.1 L) (lH : L + 1 + 1 + 1 + 1 < H) :
    Own news ((H, o5) :: (L + 1 + 1 + 1 + 1, oZ) :: (L + 1 + 1 + 1, oK) :: (L + 1 + 1, oH) :: (L + 1, oW) :: news) [(H, o5), (L + 1 + 1 + 1 + 1, oZ), (L + 1 + 1 + 1, oK), (L + 1 + 1, oH), (L + 1, oW)] := by
  have l1 := fun q hq => Nat.lt_succ_of_lt (l q hq)
  have l2 := lt_cons (o := oW) l1 (Nat.lt_succ_self _)
  have l3 := lt_cons (o := oH) l2 (Nat.lt_succ_self _)
  have l4 := lt_cons (o := oK) l3 (Nat.lt_succ_self _)
  have l5 := lt_cons (o := oZ) l4 lH
  exact (((((own_nil hn).cons (p := (L + 1, oW)) fun q hq => Nat.ne_of_lt (l1 q hq)).cons (p := (L + 1 + 1, oH)) fun q hq => Nat.ne_of_lt (l2 q hq)).cons (p := (L + 1 + 1 + 1, oK)) fun q hq => Nat.ne_of_lt (l3 q hq)).cons (p := (L + 1 + 1 + 1 + 1, oZ)) fun q hq => Nat.ne_of_lt (l4 q hq)).cons (p := (H, o5)) fun q hq => Nat.ne_of_lt (l5 q hq)
theorem mD_ring (b : Bool) : (fun y => if y = Str.ofString "ring" then some (Value.bool b) else none) = mD b none := by
  funext y; unfold mD; by_cases h : y = Str.ofString "inner" <;> simp [h] <;> decide
theorem dueIn_snoc (ws : List Str) (hs : List Int) (z k q : Nat) : dueIn ws hs z k (q + 1) = dueIn ws hs z k q ++ (if (decide ((wd ws q).length < z) && withS (wd ws q) (wd ws k)) = true then [hs.getD q 0] else []) := by
  unfold dueIn
  rw [List.range_succ, List.filter_append, List.map_append]
  congr 1
  cases h : decide ((wd ws q).length < z) && withS (wd ws q) (wd ws k) <;> simp [h]
theorem dueStep_len (ws : List Str) (z : Nat) (st : Bool × List Int) (k : Nat) : (dueStep ws z st k).2.length = st.2.length := by
  unfold dueStep
  split
  · exact List.length_set ..
  · rfl
theorem dueFold_len (ws : List Str) (z : Nat) : ∀ (l : List Nat) (st : Bool × List Int), (l.foldl (dueStep ws z) st).2.length = st.2.length
  | [], _ => rfl
  | a :: r, st => (dueFold_len ws z r _).trans (dueStep_len ws z st a)
theorem dueSt_len (ws : List Str) : ∀ i, (dueSt ws i).2.length = ws.length
  | 0 => List.length_replicate ..
  | i + 1 => by
    unfold dueSt
    rw [List.range_succ, List.foldl_append]
    exact (dueFold_len ..).trans (dueSt_len ws i)
theorem dueIt_len (ws : List Str) (z i : Nat) : (dueIt ws z i).2.length = ws.length := (dueFold_len ..).trans (dueSt_len ws z)
theorem dueIt_succ (ws : List Str) (z i : Nat) : dueIt ws z (i + 1) = dueStep ws (z + 1) (dueIt ws z i) i := by
  unfold dueIt
  rw [List.range_succ, List.foldl_append]
  rfl
theorem dueSt_succ (ws : List Str) (z : Nat) : dueSt ws (z + 1) = dueIt ws z ws.length := by
  unfold dueSt
  rw [List.range_succ, List.foldl_append]
  rfl
theorem dueIt_skip {ws : List Str} {z i : Nat} (h : ((wd ws i).length : Int) ≠ 1 + (z : Int)) : dueIt ws z (i + 1) = dueIt ws z i := by
  rw [dueIt_succ]
  unfold dueStep
  rw [if_neg (by lia)]
theorem mD_true (b : Bool) (u : Option Value) : (fun y => if y = Str.ofString "ring" then some (Value.bool true) else mD b u y) = mD true u := by
  funext y; unfold mD; by_cases h : y = Str.ofString "ring"
  · subst h; rw [if_pos rfl, if_neg (by decide), if_pos rfl]
  · simp [h]
theorem dueIt_here {ws : List Str} {z i : Nat} {inn : List Int} (h : ((wd ws i).length : Int) = 1 + (z : Int)) (hi : dueIn ws (dueIt ws z i).2 (z + 1) i ws.length = inn) :
    dueIt ws z (i + 1) = ((dueIt ws z i).1 || decide (1 < ws.count (wd ws i)), (dueIt ws z i).2.set i (if ws.count (wd ws i) = 1 ∧ (-1 : Int) ∉ inn then 1 + maxL inn else -1)) := by
  subst hi
  rw [dueIt_succ]
  unfold dueStep
  rw [if_pos (by lia)]
theorem maxL_is {l : List Int} {M : Int} (h1 : M ∈ [0] ++ l) (h2 : ∀ a, a ∈ [0] ++ l → a ≤ M) : maxL l = M := by
  unfold maxL
  have key : ∀ (l : List Int) (b : Int), b ≤ l.foldl max b ∧ (∀ a ∈ l, a ≤ l.foldl max b) ∧ (l.foldl max b = b ∨ l.foldl max b ∈ l) := by
    intro l
    induction l with
    | nil => exact fun b => ⟨Int.le_refl _, (fun a h => by cases h), .inl rfl⟩
    | cons a r ih =>
      intro b
      obtain ⟨q1, q2, q3⟩ := ih (max b a)
      rw [List.foldl_cons]
      refine ⟨by lia, fun x hx => ?_, ?_⟩
      · rcases List.mem_cons.mp hx with rfl | hx
        · lia
        · exact q2 x hx
      · rcases q3 with q3 | q3
        · rcases Int.le_total a b with h | h
          · exact .inl (q3.trans (Int.max_eq_left h))
          · exact .inr (by rw [q3, Int.max_eq_right h]; exact .head _)
        · exact .inr (.tail _ q3)
  obtain ⟨q1, q2, q3⟩ := key l 0
  refine Int.le_antisymm (h2 _ ?_) ?_
  · rcases q3 with q | q
    · rw [q]; exact .head _
    · exact .tail _ q
  · rcases List.mem_cons.mp h1 with rfl | h
    · exact q1
    · exact q2 _ h
theorem wd_len {ws : List Str} (h : ∀ x ∈ ws, x.length ≤ 100) (i : Nat) : (wd ws i).length ≤ 100 := by
  unfold wd
  rw [List.getD_eq_getElem?_getD]
  cases e : ws[i]? with
  | none => exact Nat.zero_le _
  | some x => exact h x (List.mem_of_getElem? e)
theorem maxL_snoc {l : List Int} {M : Int} (h1 : M ∈ l ++ [0]) (h2 : ∀ a, a ∈ l ++ [0] → a ≤ M) : maxL l = M :=
  maxL_is (List.mem_append.mpr (List.mem_append.mp h1).symm) fun a ha => h2 a (List.mem_append.mpr (List.mem_append.mp ha).symm)
def DueOk (ws : List Str) (hs : List Int) : Prop := ∀ j, hs.getD j 0 ≤ ((wd ws j).length : Int)
theorem getD_set' {l : List Int} {i j : Nat} {x : Int} : (l.set i x).getD j 0 = if i = j ∧ j < l.length then x else l.getD j 0 := by
  rw [List.getD_eq_getElem?_getD, List.getD_eq_getElem?_getD, List.getElem?_set]
  by_cases h : i = j
  · subst h
    by_cases h2 : i < l.length
    · rw [if_pos rfl, if_pos h2, if_pos ⟨rfl, h2⟩]; rfl
    · rw [if_pos rfl, if_neg h2, if_neg fun q => h2 q.2, List.getElem?_eq_none (Nat.not_lt.mp h2)]
  · rw [if_neg h, if_neg fun q => h q.1]
theorem maxL_le {l : List Int} {b : Int} (h0 : 0 ≤ b) (h : ∀ a ∈ l, a ≤ b) : maxL l ≤ b := by
  unfold maxL
  suffices key : ∀ (l : List Int) (c : Int), c ≤ b → (∀ a ∈ l, a ≤ b) → l.foldl max c ≤ b from key l 0 h0 h
  intro l
  induction l with
  | nil => exact fun c hc _ => hc
  | cons a r ih => exact fun c hc hl => ih _ (Int.max_le.mpr ⟨hc, hl a (.head _)⟩) fun x hx => hl x (.tail _ hx)
theorem dueStep_ok {ws : List Str} {z : Nat} {st : Bool × List Int} {k : Nat} (hz : 0 < z) (h : DueOk ws st.2) : DueOk ws (dueStep ws z st k).2 := by
  unfold dueStep
  split
  · rename_i e
    intro j
    show (st.2.set k _).getD j 0 ≤ _
    rw [getD_set']
    split
    · rename_i q
      obtain ⟨rfl, _⟩ := q
      split
      · have : maxL (dueIn ws st.2 z k ws.length) ≤ (z : Int) - 1 := by
          refine maxL_le (by lia) fun a ha => ?_
          unfold dueIn at ha
          obtain ⟨j, hj, rfl⟩ := List.mem_map.mp ha
          have hj2 := (List.mem_filter.mp hj).2
          rw [Bool.and_eq_true, decide_eq_true_eq] at hj2
          have := h j
          lia
        lia
      · lia
    · exact h j
  · exact h
theorem dueFold_ok {ws : List Str} {z : Nat} (hz : 0 < z) : ∀ (l : List Nat) (st : Bool × List Int), DueOk ws st.2 → DueOk ws (l.foldl (dueStep ws z) st).2
  | [], _, h => h
  | _ :: r, _, h => dueFold_ok hz r _ (dueStep_ok hz h)
theorem dueSt_ok (ws : List Str) : ∀ i, DueOk ws (dueSt ws i).2
  | 0 => fun j => by
    show (List.replicate ws.length (0 : Int)).getD j 0 ≤ _
    rw [List.getD_eq_getElem?_getD, List.getElem?_replicate]
    split <;> exact Int.natCast_nonneg _
  | i + 1 => by
    rw [dueSt_succ]
    exact dueFold_ok (Nat.succ_pos _) _ _ (dueSt_ok ws i)
theorem dueSt_le {ws : List Str} (h : ∀ x ∈ ws, x.length ≤ 100) {i : Nat} {x : Int} (hx : x ∈ (dueSt ws i).2) : x ≤ 100 := by
  obtain ⟨j, hj, rfl⟩ := List.getElem_of_mem hx
  have h1 := dueSt_ok ws i j
  have h2 := wd_len h j
  rw [List.getD_eq_getElem?_getD, List.getElem?_eq_getElem hj] at h1
  exact Int.le_trans h1 (by lia)
theorem mD_inner (b : Bool) (u v : Option Value) : (fun y => if y = Str.ofString "inner" then v else mD b u y) = mD b v := by
  funext y; unfold mD; by_cases h : y = Str.ofString "inner" <;> simp [h]
theorem rep_snoc {vs : List Value} {i : Nat} {t : Tok} (h : IntsAre vs (List.replicate i 0)) : IntsAre (vs ++ [.int 0 t]) (List.replicate (i + 1) 0) := by
  rw [List.replicate_succ']
  exact ints_snoc h 0 t
local macro_rules | `(tactic| walk_at "subscriptTail") => `(tactic| (k_here; (with_reducible show wpAny _ _ (subscriptTail _ _ (Value.ref _) (Value.int _ _)) _ _ _); k_dflt (first
  | (refine' item_wd ?k1 ?k2 ?k3 ?k4 ?k5 ?_ ?k7; (case k1 => k_asm); (case k2 => k_mem); (case k3 => with_reducible assumption); (case k4 | k5 => first | assumption | omega); (case k7 => with_unfolding_all rfl))
  | (refine' item_iv ?k1 ?k2 ?k3 ?k4 ?k5 ?_ ?k7; (case k1 => k_asm); (case k2 => k_mem); (case k3 => with_reducible assumption); (case k4 | k5 => first | assumption | omega); (case k7 => with_unfolding_all rfl))); intro _))
def rowD (ws : List Str) (d : Nat) : List Int := (rng ws.length).filter fun k => decide ((dueSt ws 5).2.getD k.toNat 0 = 1 + (d : Int))
theorem rowD_all (ws : List Str) : dueRows (dueSt ws 5).2 = (List.range (maxL (dueSt ws 5).2).toNat).map (rowD ws) := by
  unfold dueRows rowD
  rw [dueSt_len]
theorem due_spec {w : World} {dp un : Nat} {gd : Option (List Code)} {cn : Str} {cs : Scope} {a : Addr} {ccd : Value} {cl : List (Str × Addr)} {outer : List Env} {A₀ : Around} {base h₀ : Heap} {L : Addr} {m : Str → Option Value} {news : List (Addr × Obj)} {s : Shared} {p : Program} {loose : List Str} {mean : ExcName → Option Value} {mg mb : Str → Option Value}
    {Q E : Value → Shared → Prop} (B : Below A₀ base outer h₀) (F : Fr h₀ L s.heap m) (X : (Mine.K w.params).In h₀) (N : News h₀ L s.heap news) (T : Top p loose mean mg mb h₀) (hk : cs.kind = .function) (hd : dp + 20 < recursionLimit) (hu : un + 160 < cLine)
    {WM : Addr} {wvs : Array Value} {cW : Nat} {words : List Str} (hW : (WM, W.listOf wvs cW) ∈ news) (hwv : StrsAre wvs.toList words) (hnd : Nd news)
    (hn : words.length ≤ 12) (hn0 : 0 < words.length) (hwl : ∀ x ∈ words, x.length ≤ 100)
    (hret : ∀ T nw' h' tk', Fr h₀ L h' m → News h₀ L h' nw' → (∀ p ∈ news, p ∈ nw') → TripL nw' T (dueSt words 5).1 true (dueRows (dueSt words 5).2) → Q (.ref T) { s with heap := h', toks := tk' }) :
    wpAny (model PySem.Challenge.pw_nq0248_01 w) (ktrTop dp un gd cn cs L a ccd cl outer) (call (.ref 292) [.ref WM]) Q E s := by
  have hfill : (fun (_ : OpenLaw) (_ : Params → Frag) => True) PySem.Challenge.rw_nq0248_01 Mine.K := by k_fill; trivial
  clear hfill
  refine wpAny_call ?_
  k_dflt ((refine' code_defC ?k1 ?k2 ?k3 ?k4 ?k5 ?kA ?kF ?kK ?k6 ?k7 ?k8 ?k9 ?kB ?kD ?_ ?c2 ?c3 ?c4; (case kA | kF => exact rfl); (case kK => assumption); (case k1 | k2 | k3 | k4 | k5 => k_asm); (case k6 | k7 => k_is); (case k8 => ktr_room); (case k9 => exact BindsTo.of_eq rfl); (case kB | c2 | c3 | c4 => exact rfl); (case kD => decide +kernel); k_whole; intro _ _ _ _ _ _ _ N1 Y9 _ _ _ l1; (try k_lt l1); k_cells Y9; (try simp only [List.cons_append, List.nil_append] at N1); (try dsimp only)))
  rename_i g1 L1 h1 tk1 FG F1 B1 X1 T1 oZ oK oH oW dZ dK dH dW
  replace F1 : Fr g1 L1 h1 (fun _ => none) := F1
  replace dW : oW.data = Data.cell (some (.ref WM)) := dW
  replace dH : oH.data = Data.cell none := dH
  replace dK : oK.data = Data.cell none := dK
  replace dZ : oZ.data = Data.cell none := dZ
  refine (?_ : let A1 := _; wpAny _ A1 _ _ _ _)
  intro A1
  (repeat' (first | (((fail_if_success (fail_if_success k_unfold)); first | (with_reducible refine (?_ : wpAny _ _ _ _ _ _)) | k_unfold); try dsimp only) | ((fail_if_success (fail_if_success (with_reducible refine ex1 (by constructor) ?_))); (fail_if_success (fail_if_success k_fold)); (with_reducible refine (?_ : let qk := _; let ek := _; wpAny _ _ _ qk ek _)); intro qk ek) | ((fail_if_success (with_reducible first | ((fail_if_success (refine go1 (by constructor) ?_)); refine st1 (by constructor) ?_) | show Exists _)); walk1; try dsimp only)))
  rename Addr => H
  rename_i lH _ oH' FH NH dH'
  rw [mD_ring] at FH
  have OH := own_due hnd l1 lH.1 (o5 := W.listOf #[] 0) (oZ := oZ) (oK := oK) (oH := oH') (oW := oW)
  generalize hq1 : (H, W.listOf #[] 0) :: (L1 + 1 + 1 + 1 + 1, oZ) :: (L1 + 1 + 1 + 1, oK) :: (L1 + 1 + 1, oH') :: (L1 + 1, oW) :: news = nw1 at NH OH
  clear lH hq1
  have hws : wvs.size = words.length := by rw [← hwv.length, Array.length_toList]
  have hw63 : (wvs.size : Int) < 2 ^ 63 := n63 (by rw [hws]; exact le12 hn)
  have hW1 := OH.here _ (.tail _ (.tail _ (.tail _ (.tail _ (.head _)))))
  have hWM := OH.keep _ hW
  refine wpAny_For ?_
  (repeat' (first | (((fail_if_success (fail_if_success k_unfold)); first | (with_reducible refine (?_ : wpAny _ _ _ _ _ _)) | k_unfold); try dsimp only) | ((fail_if_success (fail_if_success (with_reducible refine ex1 (by constructor) ?_))); (fail_if_success (fail_if_success k_fold)); (with_reducible refine (?_ : let qk := _; let ek := _; wpAny _ _ _ qk ek _)); intro qk ek) | ((fail_if_success (with_reducible first | ((fail_if_success (refine go1 (by constructor) ?_)); refine st1 (by constructor) ?_) | show Exists _)); walk1; try dsimp only)))
  rename Fr g1 L1 _ _ => F5
  rename News g1 L1 _ _ => N5
  rename IsRange _ _ _ _ _ _ _ _ => hr
  refine forJ_range (n := words.length) rfl F5 N5 hr (small_n (by rw [hws]; exact le12 hn)) (by rw [hws]; exact rng_size rfl) (D1 news L1 H oZ oH' oW) (.mk rfl oK none #[] 0 dK OH .nil) ?_ ?_
  · intro i ti m₁ nw I oI h₁ tk₁ hi hJ hw F₁ N₁
    refine absB fun Q2 E2 hQ2 => ?_
    (with_reducible refine (?_ : let G9 : Prop := _; G9)); intro G9
    obtain ⟨rfl, oK2, kv, vs, c, dK2, O, hv⟩ := hJ
    k_unfold; clear G9
    have OI := O.cons (p := (I, oI)) hw
    generalize hq2 : (I, oI) :: nw = nw2 at OI N₁
    have hK := OI.here _ (.tail _ (.tail _ (.tail _ (.head _))))
    (repeat' (first | (((fail_if_success (fail_if_success k_unfold)); first | (with_reducible refine (?_ : wpAny _ _ _ _ _ _)) | k_unfold); try dsimp only) | ((fail_if_success (fail_if_success (with_reducible refine ex1 (by constructor) ?_))); (fail_if_success (fail_if_success k_fold)); (with_reducible refine (?_ : let qk := _; let ek := _; wpAny _ _ _ qk ek _)); intro qk ek) | ((fail_if_success (with_reducible show wpAny _ _ (storeName _ _ _) _ _ _)); (fail_if_success (with_reducible first | ((fail_if_success (refine go1 (by constructor) ?_)); refine st1 (by constructor) ?_) | show Exists _)); walk1; try dsimp only)))
    refine storeX_C F₁ N₁ rfl (updF_setN OI.nd hK) dK2 (fun h2 oK3 F7 N7 dK3 => ?_) rfl rfl
    have O2 := OI.set (pre := [_, _, _]) oK3
    generalize hq3 : setN (L1 + 1 + 1 + 1) oK3 nw2 = nw3 at N7 O2
    clear hK hq3
    have hHc := O2.here _ (.tail _ (.tail _ (.tail _ (.tail _ (.head _)))))
    have hHl := O2.here _ (.tail _ (.head _))
    (repeat' (first | (((fail_if_success (fail_if_success k_unfold)); first | (with_reducible refine (?_ : wpAny _ _ _ _ _ _)) | k_unfold); try dsimp only) | ((fail_if_success (fail_if_success (with_reducible refine ex1 (by constructor) ?_))); (fail_if_success (fail_if_success k_fold)); (with_reducible refine (?_ : let qk := _; let ek := _; wpAny _ _ _ qk ek _)); intro qk ek) | ((fail_if_success (with_reducible first | ((fail_if_success (refine go1 (by constructor) ?_)); refine st1 (by constructor) ?_) | show Exists _)); walk1; try dsimp only)))
    rename Fr g1 L1 _ _ => F9
    rename News g1 L1 _ _ => N9
    have O3 := O2.set (pre := [_]) (W.listOf (vs.push (Value.int 0 tk₁)) (c + 1))
    refine hQ2 _ _ ⟨_, _, _, cutN I _, rfl, F9, news_cut N9 (O3.here _ (.head _)), cut_off, .mk rfl oK3 _ _ _ dK3 (O3.cut (pre := [])) (by rw [Array.toList_push]; exact rep_snoc hv)⟩
  · intro h' tk m' nw Fz Nz hJ
    (with_reducible refine (?_ : let G9 : Prop := _; G9)); intro G9
    obtain ⟨rfl, oK2, kv, vs, c, dK2, O, hv⟩ := hJ
    k_unfold; clear G9
    clear hr OH N5 F5 hW1 hWM
    (repeat' (first | (((fail_if_success (fail_if_success k_unfold)); first | (with_reducible refine (?_ : wpAny _ _ _ _ _ _)) | k_unfold); try dsimp only) | ((fail_if_success (fail_if_success (with_reducible refine ex1 (by constructor) ?_))); (fail_if_success (fail_if_success k_fold)); (with_reducible refine (?_ : let qk := _; let ek := _; wpAny _ _ _ qk ek _)); intro qk ek) | ((fail_if_success (with_reducible first | ((fail_if_success (refine go1 (by constructor) ?_)); refine st1 (by constructor) ?_) | show Exists _)); walk1; try dsimp only)))
    refine wpAny_For ?_
    (repeat' (first | (((fail_if_success (fail_if_success k_unfold)); first | (with_reducible refine (?_ : wpAny _ _ _ _ _ _)) | k_unfold); try dsimp only) | ((fail_if_success (fail_if_success (with_reducible refine ex1 (by constructor) ?_))); (fail_if_success (fail_if_success k_fold)); (with_reducible refine (?_ : let qk := _; let ek := _; wpAny _ _ _ qk ek _)); intro qk ek) | ((fail_if_success (with_reducible first | ((fail_if_success (refine go1 (by constructor) ?_)); refine st1 (by constructor) ?_) | show Exists _)); walk1; try dsimp only)))
    rename Fr g1 L1 _ _ => F5
    rename News g1 L1 _ _ => N5
    rename IsRange _ _ _ _ _ _ _ _ => hr
    refine forJ_range (n := 5) rfl F5 N5 hr (small_one (by decide) (by decide) (by decide) (by decide)) (rng_size1 (by decide)) (D2 news L1 H oH' oW words) (.mk none rfl oZ oK2 none kv vs c dZ dK2 O hv) ?_ ?_
    · intro z tz m₁ nw I oI h₁ tk₁ hz hJ hw F₁ N₁
      refine absB fun Q2 E2 hQ2 => ?_
      (with_reducible refine (?_ : let G9 : Prop := _; G9)); intro G9
      obtain ⟨u, rfl, oZ3, oK3, zv, kv3, vs3, c3, dZ3, dK3, O3, hv3⟩ := hJ
      k_unfold; clear G9
      have OI := O3.cons (p := (I, oI)) hw
      generalize hq2 : (I, oI) :: nw = nw2 at OI N₁
      have hZ := OI.here _ (.tail _ (.tail _ (.head _)))
      (repeat' (first | (((fail_if_success (fail_if_success k_unfold)); first | (with_reducible refine (?_ : wpAny _ _ _ _ _ _)) | k_unfold); try dsimp only) | ((fail_if_success (fail_if_success (with_reducible refine ex1 (by constructor) ?_))); (fail_if_success (fail_if_success k_fold)); (with_reducible refine (?_ : let qk := _; let ek := _; wpAny _ _ _ qk ek _)); intro qk ek) | ((fail_if_success (with_reducible show wpAny _ _ (storeName _ _ _) _ _ _)); (fail_if_success (with_reducible first | ((fail_if_success (refine go1 (by constructor) ?_)); refine st1 (by constructor) ?_) | show Exists _)); walk1; try dsimp only)))
      refine storeX_C F₁ N₁ rfl (updF_setN OI.nd hZ) dZ3 (fun h2 oZ4 F7 N7 dZ4 => ?_) rfl rfl
      have O4 := OI.set (pre := [_, _]) oZ4
      generalize hq3 : setN (L1 + 1 + 1 + 1 + 1) oZ4 nw2 = nw3 at N7 O4
      clear hZ hq3 hq2 N₁ OI F₁ O3 hr
      have hWc := O4.here _ (.tail _ (.tail _ (.tail _ (.tail _ (.tail _ (.head _))))))
      have hWM := O4.keep _ hW
      (repeat' (first | (((fail_if_success (fail_if_success k_unfold)); first | (with_reducible refine (?_ : wpAny _ _ _ _ _ _)) | k_unfold); try dsimp only) | ((fail_if_success (fail_if_success (with_reducible refine ex1 (by constructor) ?_))); (fail_if_success (fail_if_success k_fold)); (with_reducible refine (?_ : let qk := _; let ek := _; wpAny _ _ _ qk ek _)); intro qk ek) | ((fail_if_success (with_reducible first | ((fail_if_success (refine go1 (by constructor) ?_)); refine st1 (by constructor) ?_) | show Exists _)); walk1; try dsimp only)))
      refine wpAny_For ?_
      (repeat' (first | (((fail_if_success (fail_if_success k_unfold)); first | (with_reducible refine (?_ : wpAny _ _ _ _ _ _)) | k_unfold); try dsimp only) | ((fail_if_success (fail_if_success (with_reducible refine ex1 (by constructor) ?_))); (fail_if_success (fail_if_success k_fold)); (with_reducible refine (?_ : let qk := _; let ek := _; wpAny _ _ _ qk ek _)); intro qk ek) | ((fail_if_success (with_reducible first | ((fail_if_success (refine go1 (by constructor) ?_)); refine st1 (by constructor) ?_) | show Exists _)); walk1; try dsimp only)))
      rename Fr g1 L1 _ _ => F8
      rename News g1 L1 _ _ => N8
      rename IsRange _ _ _ _ _ _ _ _ => hr
      clear hWc hWM
      refine forJ_range (n := words.length) rfl F8 N8 hr (small_n (by rw [hws]; exact le12 hn)) (by rw [hws]; exact rng_size rfl) (D3 news L1 H I oI oZ4 oH' oW words z) (.mk u rfl oK3 kv3 vs3 c3 dK3 O4 hv3) ?_ ?_
      · intro k tk0 m₁ nw J oJ h₃ tk₃ hk hJ hw3 F₃ N₃
        refine absB fun Q3 E3 hQ3 => ?_
        (with_reducible refine (?_ : let G9 : Prop := _; G9)); intro G9
        obtain ⟨u5, rfl, oK5, kv5, vs5, c5, dK5, O5, hv5⟩ := hJ
        k_unfold; clear G9
        have OJ := O5.cons (p := (J, oJ)) hw3
        generalize hq4 : (J, oJ) :: nw = nw4 at OJ N₃
        have hK := OJ.here _ (.tail _ (.tail _ (.tail _ (.tail _ (.head _)))))
        rw [Int.zero_add]
        (repeat' (first | (((fail_if_success (fail_if_success k_unfold)); first | (with_reducible refine (?_ : wpAny _ _ _ _ _ _)) | k_unfold); try dsimp only) | ((fail_if_success (fail_if_success (with_reducible refine ex1 (by constructor) ?_))); (fail_if_success (fail_if_success k_fold)); (with_reducible refine (?_ : let qk := _; let ek := _; wpAny _ _ _ qk ek _)); intro qk ek) | ((fail_if_success (with_reducible show wpAny _ _ (storeName _ _ _) _ _ _)); (fail_if_success (with_reducible first | ((fail_if_success (refine go1 (by constructor) ?_)); refine st1 (by constructor) ?_) | show Exists _)); walk1; try dsimp only)))
        refine storeX_C F₃ N₃ rfl (updF_setN OJ.nd hK) dK5 (fun h2 oK6 F9 N9 dK6 => ?_) rfl rfl
        have O6 := OJ.set (pre := [_, _, _, _]) oK6
        generalize hq5 : setN (L1 + 1 + 1 + 1) oK6 nw4 = nw5 at N9 O6
        clear hK hq5 hq4 N₃ F₃ O5 OJ hr
        have hWc := O6.here _ (.tail _ (.tail _ (.tail _ (.tail _ (.tail _ (.tail _ (.head _)))))))
        have hHc := O6.here _ (.tail _ (.tail _ (.tail _ (.tail _ (.tail _ (.head _))))))
        have hKc := O6.here _ (.tail _ (.tail _ (.tail _ (.tail _ (.head _)))))
        have hZc := O6.here _ (.tail _ (.tail _ (.tail _ (.head _))))
        have hHl := O6.here _ (.tail _ (.tail _ (.head _)))
        have hWM := O6.keep _ hW
        have hwk := wd_len hwl k
        have hk6 := Nat.lt_of_lt_of_le hk (Nat.le_trans hn (by decide : 12 ≤ 1000000))
        have hil := dueIt_len words z k
        have hkl : (k : Int) < ((dueIt words z k).2.length : Int) := by rw [hil]; exact Int.ofNat_lt.mpr hk
        have hkp : (0 : Int) ≤ (k : Int) := Int.natCast_nonneg k
        have hk63 : (k : Int) < 2 ^ 63 := n63 (Nat.le_trans (Nat.le_of_lt hk) (le12 hn))
        (repeat' (first | (((fail_if_success (fail_if_success k_unfold)); first | (with_reducible refine (?_ : wpAny _ _ _ _ _ _)) | k_unfold); try dsimp only) | ((fail_if_success (fail_if_success (with_reducible refine ex1 (by constructor) ?_))); (fail_if_success (fail_if_success k_fold)); (with_reducible refine (?_ : let qk := _; let ek := _; wpAny _ _ _ qk ek _)); intro qk ek) | ((fail_if_success (with_reducible first | ((fail_if_success (refine go1 (by constructor) ?_)); refine st1 (by constructor) ?_) | show Exists _)); walk1; try dsimp only)))
        · rename ((wd words k).length : Int) = 1 + (z : Int) => elen
          refine assign_LC (by rfl) (by intro _; rfl) (by rfl) rfl (by decide) ?_
          (repeat' (first | (((fail_if_success (fail_if_success k_unfold)); first | (with_reducible refine (?_ : wpAny _ _ _ _ _ _)) | k_unfold); try dsimp only) | ((fail_if_success (fail_if_success (with_reducible refine ex1 (by constructor) ?_))); (fail_if_success (fail_if_success k_fold)); (with_reducible refine (?_ : let qk := _; let ek := _; wpAny _ _ _ qk ek _)); intro qk ek) | ((fail_if_success (with_reducible first | ((fail_if_success (refine go1 (by constructor) ?_)); refine st1 (by constructor) ?_) | show Exists _)); walk1; try dsimp only)))
          rename IsRange _ _ _ _ _ _ _ _ => hr
          rename Fr g1 L1 _ _ => Fg
          rename News g1 L1 _ _ => Ng
          refine comp_range (n := words.length) rfl (by decide) rfl rfl (sz_le (le12 hn)) Fg Ng hr (small_n (by rw [hws]; exact le12 hn)) (by rw [hws]; exact rng_size rfl)
            (fun q ys nw => nw5 = nw ∧ IntsAre ys (dueIn words (dueIt words z k).2 (z + 1) k q)) ⟨rfl, .nil⟩ ?_ (post_some rfl rfl rfl ?_)
          · intro j tj ys nw7 I2 oI2 C oC D2 mC h3 tk3 E3 hj pt914 hC hx F3 N3 off ne
            (with_reducible refine (?_ : let G9 : Prop := _; G9)); intro G9
            obtain ⟨e7, hys⟩ := pt914
            subst e7
            k_unfold; clear G9
            refine forIn_one ?_
            rw [Int.zero_add] at hx
            have hwj := wd_len hwl j
            have hj6 := Nat.lt_of_lt_of_le hj (Nat.le_trans hn (by decide : 12 ≤ 1000000))
            have hjl : j < (dueIt words z k).2.length := hil.symm ▸ hj
            clear hr
            (repeat' (first | (((fail_if_success (fail_if_success k_unfold)); first | (with_reducible refine (?_ : wpAny _ _ _ _ _ _)) | k_unfold); try dsimp only) | ((fail_if_success (fail_if_success (with_reducible refine ex1 (by constructor) ?_))); (fail_if_success (fail_if_success k_fold)); (with_reducible refine (?_ : let qk := _; let ek := _; wpAny _ _ _ qk ek _)); intro qk ek) | ((fail_if_success (with_reducible first | ((fail_if_success (refine go1 (by constructor) ?_)); refine st1 (by constructor) ?_) | show Exists _)); walk1; try dsimp only)))
            · rename ((wd words j).length : Int) < 1 + (z : Int) => elj
              refine within_spec (by k_asm) (by k_asm) (by k_asm) (by k_asm) (by k_asm) (by first | exact rfl | assumption) (by ktr_room) (by ktr_units) hwj hwk fun h4 tk4 F4 N4 => ?_
              have ed : decide ((wd words j).length < z + 1) = true := len_lt elj
              cases hb : withS (wd words j) (wd words k) with
              | true =>
                (repeat' (first | (((fail_if_success (fail_if_success k_unfold)); first | (with_reducible refine (?_ : wpAny _ _ _ _ _ _)) | k_unfold); try dsimp only) | ((fail_if_success (fail_if_success (with_reducible refine ex1 (by constructor) ?_))); (fail_if_success (fail_if_success k_fold)); (with_reducible refine (?_ : let qk := _; let ek := _; wpAny _ _ _ qk ek _)); intro qk ek) | ((fail_if_success (with_reducible first | ((fail_if_success (refine go1 (by constructor) ?_)); refine st1 (by constructor) ?_) | show Exists _)); walk1; try dsimp only)))
                exact ⟨_, _, _, _, _, rfl, by k_asm, by k_asm, hC, off, rfl, by rw [dueIn_snoc, if_pos (by rw [ed, hb]; rfl)]; exact ints_snoc hys _ _⟩
              | false =>
                (repeat' (first | (((fail_if_success (fail_if_success k_unfold)); first | (with_reducible refine (?_ : wpAny _ _ _ _ _ _)) | k_unfold); try dsimp only) | ((fail_if_success (fail_if_success (with_reducible refine ex1 (by constructor) ?_))); (fail_if_success (fail_if_success k_fold)); (with_reducible refine (?_ : let qk := _; let ek := _; wpAny _ _ _ qk ek _)); intro qk ek) | ((fail_if_success (with_reducible first | ((fail_if_success (refine go1 (by constructor) ?_)); refine st1 (by constructor) ?_) | show Exists _)); walk1; try dsimp only)))
                exact ⟨_, _, _, _, _, rfl, by k_asm, by k_asm, hC, off, rfl, by rw [dueIn_snoc, if_neg (by rw [hb]; simp), List.append_nil]; exact hys⟩
            · rename ¬ ((wd words j).length : Int) < 1 + (z : Int) => elj
              exact ⟨_, _, _, _, _, rfl, by k_asm, by k_asm, hC, off, rfl, by rw [dueIn_snoc, if_neg (by rw [len_ge elj]; simp), List.append_nil]; exact hys⟩
          · intro D2 ys nw7 h11 tk11 F3 N3 off pt98
            (with_reducible refine (?_ : let G9 : Prop := _; G9)); intro G9
            obtain ⟨e7, hys⟩ := pt98
            subst e7
            k_unfold; clear G9
            rw [mD_inner] at F3
            have O7 := O6.cons (p := (D2, lst ys)) (off1_mem off)
            generalize hq6 : (D2, lst ys) :: nw5 = nw6 at N3 O7
            clear hWc hHc hKc hZc hHl hWM hq6 Ng Fg hr
            have hWc := O7.here _ (.tail _ (.tail _ (.tail _ (.tail _ (.tail _ (.tail _ (.tail _ (.head _))))))))
            have hHc := O7.here _ (.tail _ (.tail _ (.tail _ (.tail _ (.tail _ (.tail _ (.head _)))))))
            have hKc := O7.here _ (.tail _ (.tail _ (.tail _ (.tail _ (.tail _ (.head _))))))
            have hHl := O7.here _ (.tail _ (.tail _ (.tail _ (.head _))))
            have hDl := O7.here _ (.head _)
            have hWM := O7.keep _ hW
            (repeat' (first | (((fail_if_success (fail_if_success k_unfold)); first | (with_reducible refine (?_ : wpAny _ _ _ _ _ _)) | k_unfold); try dsimp only) | ((fail_if_success (fail_if_success (with_reducible refine ex1 (by constructor) ?_))); (fail_if_success (fail_if_success k_fold)); (with_reducible refine (?_ : let qk := _; let ek := _; wpAny _ _ _ qk ek _)); intro qk ek) | ((fail_if_success (with_reducible show wpAny _ _ (exec (PySem.Stmt.If _ _ _ _) _) _ _ _)); (fail_if_success (with_reducible show wpAny _ _ (exec (PySem.Stmt.Try _ _ _ _ _) _) _ _ _)); (fail_if_success (with_reducible first | ((fail_if_success (refine go1 (by constructor) ?_)); refine st1 (by constructor) ?_) | show Exists _)); walk1; try dsimp only)))
            refine cut_next (fun s₂ => ∃ h' tk, s₂ = { s with heap := h', toks := tk } ∧ Fr g1 L1 h' (mD ((dueIt words z k).1 || decide (1 < words.count (wd words k))) (some (.ref D2))) ∧ News g1 L1 h' nw6) ?_ ?_
            · (repeat' (first | (((fail_if_success (fail_if_success k_unfold)); first | (with_reducible refine (?_ : wpAny _ _ _ _ _ _)) | k_unfold); try dsimp only) | ((fail_if_success (fail_if_success (with_reducible refine ex1 (by constructor) ?_))); (fail_if_success (fail_if_success k_fold)); (with_reducible refine (?_ : let qk := _; let ek := _; wpAny _ _ _ qk ek _)); intro qk ek) | ((fail_if_success (with_reducible first | ((fail_if_success (refine go1 (by constructor) ?_)); refine st1 (by constructor) ?_) | show Exists _)); walk1; try dsimp only)))
              refine listMethod_K N3 hWM PySem.F.slot_list_count PySem.F.type_list_count ?_
              (repeat' (first | (((fail_if_success (fail_if_success k_unfold)); first | (with_reducible refine (?_ : wpAny _ _ _ _ _ _)) | k_unfold); try dsimp only) | ((fail_if_success (fail_if_success (with_reducible refine ex1 (by constructor) ?_))); (fail_if_success (fail_if_success k_fold)); (with_reducible refine (?_ : let qk := _; let ek := _; wpAny _ _ _ qk ek _)); intro qk ek) | ((fail_if_success (with_reducible first | ((fail_if_success (refine go1 (by constructor) ?_)); refine st1 (by constructor) ?_) | show Exists _)); walk1; try dsimp only)))
              refine count_wd N3 hWM hwv ?_
              cases hb : decide (1 < words.count (wd words k)) with
              | true =>
                (repeat' (first | (((fail_if_success (fail_if_success k_unfold)); first | (with_reducible refine (?_ : wpAny _ _ _ _ _ _)) | k_unfold); try dsimp only) | ((fail_if_success (fail_if_success (with_reducible refine ex1 (by constructor) ?_))); (fail_if_success (fail_if_success k_fold)); (with_reducible refine (?_ : let qk := _; let ek := _; wpAny _ _ _ qk ek _)); intro qk ek) | ((fail_if_success (with_reducible first | ((fail_if_success (refine go1 (by constructor) ?_)); refine st1 (by constructor) ?_) | show Exists _)); walk1; try dsimp only)))
                rename Fr g1 L1 _ _ => F7
                rename News g1 L1 _ _ => N7
                rw [mD_true] at F7
                exact ⟨_, _, rfl, by rw [hb, Bool.or_true]; exact F7, N7⟩
              | false =>
                (repeat' (first | (((fail_if_success (fail_if_success k_unfold)); first | (with_reducible refine (?_ : wpAny _ _ _ _ _ _)) | k_unfold); try dsimp only) | ((fail_if_success (fail_if_success (with_reducible refine ex1 (by constructor) ?_))); (fail_if_success (fail_if_success k_fold)); (with_reducible refine (?_ : let qk := _; let ek := _; wpAny _ _ _ qk ek _)); intro qk ek) | ((fail_if_success (with_reducible first | ((fail_if_success (refine go1 (by constructor) ?_)); refine st1 (by constructor) ?_) | show Exists _)); walk1; try dsimp only)))
                exact ⟨_, _, rfl, by rw [hb, Bool.or_false]; exact F3, N3⟩
            · rintro s₂ ⟨h7, tk7, rfl, F7, N7⟩
              try dsimp only
              clear F3 N3
              generalize hinn : dueIn words (dueIt words z k).2 (z + 1) k words.length = inn at hys
              have fin : ∀ nwx h8 tk8 t8 v8, Own news nwx ((J, oJ) :: (I, oI) :: ownD L1 H vs5 c5 oZ4 oK6 oH' oW) → Fr g1 L1 h8 (mD ((dueIt words z k).1 || decide (1 < words.count (wd words k))) (some (.ref D2))) → News g1 L1 h8 (setN H (W.listOf (vs5.toList.set k (Value.int v8 t8)).toArray c5) nwx) → IntsAre (vs5.toList.set k (Value.int v8 t8)) ((dueIt words z k).2.set k v8) →
                  (if words.count (wd words k) = 1 ∧ (-1 : Int) ∉ inn then 1 + maxL inn else -1) = v8 → Q3 .next { s with heap := h8, toks := tk8 } := by
                intro nwx h8 tk8 t8 v8 Ox F8 N8 hi8 e8
                have O8 := Ox.set (pre := [_, _]) (W.listOf (vs5.toList.set k (Value.int v8 t8)).toArray c5)
                exact hQ3 _ _ ⟨_, _, _, cutN J _, rfl, F8, news_cut N8 (O8.here _ (.head _)), cut_off, .mk _ (by rw [dueIt_here elen hinn]) oK6 _ _ _ dK6 (O8.cut (pre := [])) (by rw [dueIt_here elen hinn, e8]; exact hi8)⟩
              have O7' := O7.sub (List.sublist_cons_self _ _)
              (repeat' (first | (((fail_if_success (fail_if_success k_unfold)); first | (with_reducible refine (?_ : wpAny _ _ _ _ _ _)) | k_unfold); try dsimp only) | ((fail_if_success (fail_if_success (with_reducible refine ex1 (by constructor) ?_))); (fail_if_success (fail_if_success k_fold)); (with_reducible refine (?_ : let qk := _; let ek := _; wpAny _ _ _ qk ek _)); intro qk ek) | ((fail_if_success (with_reducible first | ((fail_if_success (refine go1 (by constructor) ?_)); refine st1 (by constructor) ?_) | show Exists _)); walk1; try dsimp only)))
              refine listMethod_K N7 hWM PySem.F.slot_list_count PySem.F.type_list_count ?_
              (repeat' (first | (((fail_if_success (fail_if_success k_unfold)); first | (with_reducible refine (?_ : wpAny _ _ _ _ _ _)) | k_unfold); try dsimp only) | ((fail_if_success (fail_if_success (with_reducible refine ex1 (by constructor) ?_))); (fail_if_success (fail_if_success k_fold)); (with_reducible refine (?_ : let qk := _; let ek := _; wpAny _ _ _ qk ek _)); intro qk ek) | ((fail_if_success (with_reducible first | ((fail_if_success (refine go1 (by constructor) ?_)); refine st1 (by constructor) ?_) | show Exists _)); walk1; try dsimp only)))
              refine count_wd N7 hWM hwv ?_
              (repeat' (first | (((fail_if_success (fail_if_success k_unfold)); first | (with_reducible refine (?_ : wpAny _ _ _ _ _ _)) | k_unfold); try dsimp only) | ((fail_if_success (fail_if_success (with_reducible refine ex1 (by constructor) ?_))); (fail_if_success (fail_if_success k_fold)); (with_reducible refine (?_ : let qk := _; let ek := _; wpAny _ _ _ qk ek _)); intro qk ek) | ((fail_if_success (with_reducible first | ((fail_if_success (refine go1 (by constructor) ?_)); refine st1 (by constructor) ?_) | show Exists _)); walk1; try dsimp only)))
              · rename ((words.count (wd words k) : Nat) : Int) = 1 => ec
                refine notin_list_ints (vs := ys) (News.isList N7 hDl) hys ?_
                cases hb : inn.any (· == -1) with
                | true =>
                  (repeat' (first | (((fail_if_success (fail_if_success k_unfold)); first | (with_reducible refine (?_ : wpAny _ _ _ _ _ _)) | k_unfold); try dsimp only) | ((fail_if_success (fail_if_success (with_reducible refine ex1 (by constructor) ?_))); (fail_if_success (fail_if_success k_fold)); (with_reducible refine (?_ : let qk := _; let ek := _; wpAny _ _ _ qk ek _)); intro qk ek) | ((fail_if_success (with_reducible first | ((fail_if_success (refine go1 (by constructor) ?_)); refine st1 (by constructor) ?_) | show Exists _)); walk1; try dsimp only)))
                  rename Fr g1 L1 _ _ => F8
                  rename News g1 L1 _ _ => N8
                  rename IntsAre (vs5.toList.set _ _) _ => hi8
                  exact fin _ _ _ _ _ O7' F8 N8 hi8 (if_neg fun q => q.2 (by simpa using hb))
                | false =>
                  (repeat' (first | (((fail_if_success (fail_if_success k_unfold)); first | (with_reducible refine (?_ : wpAny _ _ _ _ _ _)) | k_unfold); try dsimp only) | ((fail_if_success (fail_if_success (with_reducible refine ex1 (by constructor) ?_))); (fail_if_success (fail_if_success k_fold)); (with_reducible refine (?_ : let qk := _; let ek := _; wpAny _ _ _ qk ek _)); intro qk ek) | ((fail_if_success (with_reducible show wpAny _ _ (binaryOp _ (Value.ref _) (Value.ref _)) _ _ _)); (fail_if_success (with_reducible first | ((fail_if_success (refine go1 (by constructor) ?_)); refine st1 (by constructor) ?_) | show Exists _)); walk1; try dsimp only)))
                  rename Addr => Z0
                  rename ∀ p ∈ nw6, p.1 < Z0 => lZ
                  rename Fr g1 L1 _ _ => F8
                  rename News g1 L1 _ _ => N8
                  have hlen := hys.length
                  have hil2 : inn.length ≤ 12 := by rw [← hinn]; unfold dueIn; rw [List.length_map]; exact Nat.le_trans (List.length_filter_le _ _) (by rw [List.length_range]; exact hn)
                  refine kmk_add_ints (vs := [.int 0 _]) (ws := ys) F8 N8 (News.isList N8 (.head _)) (News.isList N8 (.tail _ hDl)) (.cons _ _ .nil) hys (fun D3 us3 h8 F9 N9 l8 hi8 => ?_) (two_le hil2)
                  have O8 := (O7.cons (p := (Z0, W.listOf #[Value.int 0 (tk + 1)] 0)) (fun q hq => Nat.ne_of_lt (lZ q hq))).cons (p := (D3, W.listOf (List.toArray us3) 0)) (fun q hq => Nat.ne_of_lt (l8 q hq))
                  generalize hq8 : (D3, W.listOf (List.toArray us3) 0) :: (Z0, W.listOf #[Value.int 0 (tk + 1)] 0) :: nw6 = nw8 at O8 N9
                  have hD3 := O8.here _ (.head _)
                  clear hWc hHc hKc hHl hDl hWM hq8 N8 O7 O7'
                  have hHc := O8.here _ (.tail _ (.tail _ (.tail _ (.tail _ (.tail _ (.tail _ (.tail _ (.tail _ (.head _)))))))))
                  have hKc := O8.here _ (.tail _ (.tail _ (.tail _ (.tail _ (.tail _ (.tail _ (.tail _ (.head _))))))))
                  have hHl := O8.here _ (.tail _ (.tail _ (.tail _ (.tail _ (.tail _ (.head _))))))
                  (repeat' (first | (((fail_if_success (fail_if_success k_unfold)); first | (with_reducible refine (?_ : wpAny _ _ _ _ _ _)) | k_unfold); try dsimp only) | ((fail_if_success (fail_if_success (with_reducible refine ex1 (by constructor) ?_))); (fail_if_success (fail_if_success k_fold)); (with_reducible refine (?_ : let qk := _; let ek := _; wpAny _ _ _ qk ek _)); intro qk ek) | ((fail_if_success (with_reducible first | ((fail_if_success (refine go1 (by constructor) ?_)); refine st1 (by constructor) ?_) | show Exists _)); walk1; try dsimp only)))
                  refine' kso_max ?yF ?yN ?yl ?yi ?yn ?yh ?_
                  case yh => rfl
                  case yF => exact F9
                  case yN => exact N9
                  case yl => exact News.isList N9 hD3
                  case yi => exact hi8
                  case yn => exact Nat.succ_pos _
                  intro h9 M t9 tk9 F10 N10 hM1 hM2
                  (repeat' (first | (((fail_if_success (fail_if_success k_unfold)); first | (with_reducible refine (?_ : wpAny _ _ _ _ _ _)) | k_unfold); try dsimp only) | ((fail_if_success (fail_if_success (with_reducible refine ex1 (by constructor) ?_))); (fail_if_success (fail_if_success k_fold)); (with_reducible refine (?_ : let qk := _; let ek := _; wpAny _ _ _ qk ek _)); intro qk ek) | ((fail_if_success (with_reducible first | ((fail_if_success (refine go1 (by constructor) ?_)); refine st1 (by constructor) ?_) | show Exists _)); walk1; try dsimp only)))
                  rename Fr g1 L1 _ _ => F8
                  rename News g1 L1 _ _ => N8
                  rename IntsAre (vs5.toList.set _ _) _ => hi8
                  exact fin _ _ _ _ _ (O8.sub ((List.sublist_cons_self _ _).trans ((List.sublist_cons_self _ _).trans (List.sublist_cons_self _ _)))) F8 N8 hi8 (by rw [if_pos ⟨len_of1 ec, fun q => by have := List.any_eq_false.mp hb _ q; simp at this⟩, maxL_is hM1 hM2])
              · rename ¬ ((words.count (wd words k) : Nat) : Int) = 1 => ec
                rename Fr g1 L1 _ _ => F8
                rename News g1 L1 _ _ => N8
                rename IntsAre (vs5.toList.set _ _) _ => hi8
                exact fin _ _ _ _ _ O7' F8 N8 hi8 (if_neg fun q => ec (by rw [q.1]; rfl))
        · rename ((wd words k).length : Int) ≠ 1 + (z : Int) => elen
          exact hQ3 _ _ ⟨_, _, _, cutN J _, rfl, F9, news_cut N9 (O6.here _ (.head _)), cut_off, .mk u5 (by rw [dueIt_skip elen]) oK6 _ _ _ dK6 (O6.cut (pre := [])) (by rw [dueIt_skip elen]; exact hv5)⟩
      · intro h5 tk5 m5 nw5 F5 N5 hJ5
        (with_reducible refine (?_ : let G9 : Prop := _; G9)); intro G9
        obtain ⟨u5, rfl, oK5, kv5, vs5, c5, dK5, O5, hv5⟩ := hJ5
        k_unfold; clear G9
        (repeat' (first | (((fail_if_success (fail_if_success k_unfold)); first | (with_reducible refine (?_ : wpAny _ _ _ _ _ _)) | k_unfold); try dsimp only) | ((fail_if_success (fail_if_success (with_reducible refine ex1 (by constructor) ?_))); (fail_if_success (fail_if_success k_fold)); (with_reducible refine (?_ : let qk := _; let ek := _; wpAny _ _ _ qk ek _)); intro qk ek) | ((fail_if_success (with_reducible first | ((fail_if_success (refine go1 (by constructor) ?_)); refine st1 (by constructor) ?_) | show Exists _)); walk1; try dsimp only)))
        exact hQ2 _ _ ⟨_, _, _, cutN I _, rfl, F5, news_cut N5 (O5.here _ (.head _)), cut_off, .mk u5 (by rw [dueSt_succ]) oZ4 oK5 _ _ _ _ dZ4 dK5 (O5.cut (pre := [])) (by rw [dueSt_succ]; exact hv5)⟩
    · intro h5 tk5 m5 nw5 F5 N5 hJ5
      (with_reducible refine (?_ : let G9 : Prop := _; G9)); intro G9
      obtain ⟨u5, rfl, oZ5, oK5, zv5, kv5, vs5, c5, dZ5, dK5, O5, hv5⟩ := hJ5
      k_unfold; clear G9
      clear hr
      have hHc := O5.here _ (.tail _ (.tail _ (.tail _ (.head _))))
      have hHl := O5.here _ (.head _)
      have hWc := O5.here _ (.tail _ (.tail _ (.tail _ (.tail _ (.head _)))))
      have hWM := O5.keep _ hW
      (repeat' (first | (((fail_if_success (fail_if_success k_unfold)); first | (with_reducible refine (?_ : wpAny _ _ _ _ _ _)) | k_unfold); try dsimp only) | ((fail_if_success (fail_if_success (with_reducible refine ex1 (by constructor) ?_))); (fail_if_success (fail_if_success k_fold)); (with_reducible refine (?_ : let qk := _; let ek := _; wpAny _ _ _ qk ek _)); intro qk ek) | ((fail_if_success (with_reducible first | ((fail_if_success (refine go1 (by constructor) ?_)); refine st1 (by constructor) ?_) | show Exists _)); walk1; try dsimp only)))
      rw [eval_ListComp]
      refine wpAny_comprehension_free (use := none) rfl (by intro _; rfl) (by rfl) (by rfl) (by decide) ?_
      show wpAny _ _ (eval _ _) _ _ _
      (repeat' (first | (((fail_if_success (fail_if_success k_unfold)); first | (with_reducible refine (?_ : wpAny _ _ _ _ _ _)) | k_unfold); try dsimp only) | ((fail_if_success (fail_if_success (with_reducible refine ex1 (by constructor) ?_))); (fail_if_success (fail_if_success k_fold)); (with_reducible refine (?_ : let qk := _; let ek := _; wpAny _ _ _ qk ek _)); intro qk ek) | ((fail_if_success (with_reducible show wpAny _ _ (binaryOp _ (Value.ref _) (Value.ref _)) _ _ _)); (fail_if_success (with_reducible first | ((fail_if_success (refine go1 (by constructor) ?_)); refine st1 (by constructor) ?_) | show Exists _)); walk1; try dsimp only)))
      rename Addr => Z0
      rename ∀ p ∈ nw5, p.1 < Z0 => lZ
      rename Fr g1 _ _ _ => F8
      rename News g1 _ _ _ => N8
      have hil5 := dueSt_len words 5
      refine kmk_add_ints (vs := vs5.toList) (ws := [.int 0 _]) F8 N8 (by rw [Array.toArray_toList]; exact News.isList N8 (.tail _ hHl)) (News.isList N8 (.head _)) hv5 (.cons _ _ .nil) (fun D3 us3 h8 F9 N9 l8 hi8 => ?_) (two_le' (hil5.symm ▸ hn))
      have O8 := (O5.cons (p := (Z0, W.listOf #[Value.int 0 (tk5 + 1)] 0)) (fun q hq => Nat.ne_of_lt (lZ q hq))).cons (p := (D3, W.listOf (List.toArray us3) 0)) (fun q hq => Nat.ne_of_lt (l8 q hq))
      generalize hq8 : (D3, W.listOf (List.toArray us3) 0) :: (Z0, W.listOf #[Value.int 0 (tk5 + 1)] 0) :: nw5 = nw8 at O8 N9
      have hD3 := O8.here _ (.head _)
      clear hHc hHl hWc hWM hq8 N8 O5
      have hHc := O8.here _ (.tail _ (.tail _ (.tail _ (.tail _ (.tail _ (.head _))))))
      have hHl := O8.here _ (.tail _ (.tail _ (.head _)))
      have hWc := O8.here _ (.tail _ (.tail _ (.tail _ (.tail _ (.tail _ (.tail _ (.head _)))))))
      have hWM := O8.keep _ hW
      (repeat' (first | (((fail_if_success (fail_if_success k_unfold)); first | (with_reducible refine (?_ : wpAny _ _ _ _ _ _)) | k_unfold); try dsimp only) | ((fail_if_success (fail_if_success (with_reducible refine ex1 (by constructor) ?_))); (fail_if_success (fail_if_success k_fold)); (with_reducible refine (?_ : let qk := _; let ek := _; wpAny _ _ _ qk ek _)); intro qk ek) | ((fail_if_success (with_reducible first | ((fail_if_success (refine go1 (by constructor) ?_)); refine st1 (by constructor) ?_) | show Exists _)); walk1; try dsimp only)))
      refine' kso_max ?zF ?zN ?zl ?zi ?zn ?zh ?_
      case zh => rfl
      case zF => exact F9
      case zN => exact N9
      case zl => exact News.isList N9 hD3
      case zi => exact hi8
      case zn => rw [List.length_append, List.length_singleton]; exact Nat.succ_pos _
      intro h9 M t9 tk9 F10 N10 hM1 hM2
      (repeat' (first | (((fail_if_success (fail_if_success k_unfold)); first | (with_reducible refine (?_ : wpAny _ _ _ _ _ _)) | k_unfold); try dsimp only) | ((fail_if_success (fail_if_success (with_reducible refine ex1 (by constructor) ?_))); (fail_if_success (fail_if_success k_fold)); (with_reducible refine (?_ : let qk := _; let ek := _; wpAny _ _ _ qk ek _)); intro qk ek) | ((fail_if_success (with_reducible first | ((fail_if_success (refine go1 (by constructor) ?_)); refine st1 (by constructor) ?_) | show Exists _)); walk1; try dsimp only)))
      rename IsRange _ _ _ _ _ _ _ _ => hr
      rename Fr g1 _ _ _ => Fa
      rename News g1 _ _ _ => Na
      have hM3 : M ≤ 100 := by
        rcases List.mem_append.mp hM1 with h | h
        · exact dueSt_le hwl h
        · rw [List.mem_singleton.mp h]; decide
      have hM0 : 0 ≤ M := hM2 0 (List.mem_append_right _ (.head _))
      refine comp_rangeC (n := M.toNat) rfl (fun _ _ => rfl) (fun _ => rfl) rfl rfl (sz_le (toNat_le hM3)) Fa Na hr (small_M hM0 hM3) (rng_size1 (toNat_pred M))
        (fun q ys nw => Nd nw ∧ (∀ p ∈ nw8, p ∈ nw) ∧ Al2 (IntsL nw) ys ((List.range q).map (rowD words))) ⟨O8.nd, fun _ h => h, rfl, fun i a b h => by cases h⟩ ?_ (fun X => post_none ?_)
      · intro d td ys nwd Id oId C oC D X oX mC h3 tk3 E3 hd hJ hC F3 hdX N3 off offX ne
        (with_reducible refine (?_ : let G9 : Prop := _; G9)); intro G9
        obtain ⟨hnd2, hsub, hal⟩ := hJ
        k_unfold; clear G9
        refine forIn_nil0 ?_
        rw [if_pos rfl, eval_ListComp]
        refine wpAny_comprehension_free (use := none) rfl (by intro _; rfl) (by rfl) (by rfl) (by decide) ?_
        show wpAny _ _ (eval _ _) _ _ _
        have hHc := hsub _ hHc
        have hHl := hsub _ hHl
        have hWc := hsub _ hWc
        have hWM := hsub _ hWM
        (repeat' (first | (((fail_if_success (fail_if_success k_unfold)); first | (with_reducible refine (?_ : wpAny _ _ _ _ _ _)) | k_unfold); try dsimp only) | ((fail_if_success (fail_if_success (with_reducible refine ex1 (by constructor) ?_))); (fail_if_success (fail_if_success k_fold)); (with_reducible refine (?_ : let qk := _; let ek := _; wpAny _ _ _ qk ek _)); intro qk ek) | ((fail_if_success (with_reducible first | ((fail_if_success (refine go1 (by constructor) ?_)); refine st1 (by constructor) ?_) | show Exists _)); walk1; try dsimp only)))
        rename IsRange _ _ _ _ _ _ _ _ => hr2
        rename Fr g1 _ _ _ => Fb
        rename News g1 _ _ ((_, _) :: _) => Nb
        clear hr
        refine comp_range (n := words.length) rfl (by decide) rfl rfl (sz_le (le12 hn)) Fb Nb hr2 (small_n (by rw [hws]; exact le12 hn)) (by rw [hws]; exact rng_size rfl)
          (fun q zs nw => ((Id, oId) :: (C, oC) :: (D, lst ys) :: (X, oX) :: nwd) = nw ∧ IntsAre zs ((rng q).filter fun k => decide ((dueSt words 5).2.getD k.toNat 0 = 1 + (d : Int)))) ⟨rfl, .nil⟩ ?_ (post_none ?_)
        · intro k tk0 zs nwk Ik oIk Ck oCk Dk mCk h4 tk4 E4 hk hJ hCk hxk F4 N4 offk nek
          (with_reducible refine (?_ : let G9 : Prop := _; G9)); intro G9
          obtain ⟨ek, hzs⟩ := hJ
          subst ek
          k_unfold; clear G9
          refine forIn_one ?_
          rw [Int.zero_add] at hxk
          (repeat' (first | (((fail_if_success (fail_if_success k_unfold)); first | (with_reducible refine (?_ : wpAny _ _ _ _ _ _)) | k_unfold); try dsimp only) | ((fail_if_success (fail_if_success (with_reducible refine ex1 (by constructor) ?_))); (fail_if_success (fail_if_success k_fold)); (with_reducible refine (?_ : let qk := _; let ek := _; wpAny _ _ _ qk ek _)); intro qk ek) | ((fail_if_success (with_reducible first | ((fail_if_success (refine go1 (by constructor) ?_)); refine st1 (by constructor) ?_) | show Exists _)); walk1; try dsimp only)))
          · rename (dueSt words 5).2.getD k 0 = 1 + (d : Int) => e9
            replace e9 : (dueSt words 5).2.getD (k : Int).toNat 0 = 1 + (d : Int) := e9
            exact ⟨_, _, _, _, _, rfl, by k_asm, by k_asm, hCk, offk, rfl, by rw [rng_succ, List.filter_append, List.filter_cons, if_pos (decide_eq_true e9)]; exact ints_snoc hzs _ _⟩
          · rename (dueSt words 5).2.getD k 0 ≠ 1 + (d : Int) => e9
            exact ⟨_, _, _, _, _, rfl, by k_asm, by k_asm, hCk, offk, rfl, by rw [rng_succ, List.filter_append, List.filter_cons, if_neg (by rw [decide_eq_false (show ¬ (dueSt words 5).2.getD (k : Int).toNat 0 = 1 + (d : Int) from e9)]; decide), List.filter_nil, List.append_nil]; exact hzs⟩
        · intro D4 zs nwk h4 tk4 F4 N4 off4 hJ
          (with_reducible refine (?_ : let G9 : Prop := _; G9)); intro G9
          obtain ⟨ek, hzs⟩ := hJ
          subst ek
          k_unfold; clear G9
          obtain ⟨n1, n2, n3, n4⟩ := nest_off (o4 := lst zs) off off4 offX
          exact ⟨_, _, (X, oX) :: (D4, lst zs) :: nwd, oC, mC, rfl, F4, news_sub N4 n4, hC, n1, oX, _, (D4, lst zs) :: nwd, rfl, hdX, n2, nd_cons hnd2 n3, fun p hp => .tail _ (hsub p hp), by
            rw [List.range_succ, List.map_append]
            exact al2_snoc (al2_mono (fun p hp => .tail _ hp) hal) ⟨D4, _, _, rfl, .head _, hzs⟩⟩
      · intro D4 ys nwf h4 tk4 F4 N4 off4 hJ
        (with_reducible refine (?_ : let G9 : Prop := _; G9)); intro G9
        obtain ⟨oX, v0, nwd, rfl, hdX, offX, hnd2, hsub, hal⟩ := hJ
        k_unfold; clear G9
        (repeat' (first | (((fail_if_success (fail_if_success k_unfold)); first | (with_reducible refine (?_ : wpAny _ _ _ _ _ _)) | k_unfold); try dsimp only) | ((fail_if_success (fail_if_success (with_reducible refine ex1 (by constructor) ?_))); (fail_if_success (fail_if_success k_fold)); (with_reducible refine (?_ : let qk := _; let ek := _; wpAny _ _ _ qk ek _)); intro qk ek) | ((fail_if_success (with_reducible first | ((fail_if_success (refine go1 (by constructor) ?_)); refine st1 (by constructor) ?_) | show Exists _)); walk1; try dsimp only)))
        rename Fr h₀ L _ m => Fz
        rename News h₀ L _ _ => Nz
        have eM : maxL (dueSt words 5).2 = M := maxL_snoc hM1 hM2
        subst eM
        exact hret _ _ _ _ Fz Nz (fun p hp => .tail _ (.tail _ (.tail _ (hsub _ (O8.keep p hp))))) ⟨D4, ys.toArray, _, .head _, .tail _ (.head _), by rw [rowD_all]; exact al2_mono (fun p hp => .tail _ (.tail _ (.tail _ hp))) hal⟩
end
section
def Rd (h : Heap) (v : Value) (d : PyData) : Prop := ∃ as, Reads h v d as
def Pl (k : Nat) (d : PyData) : Prop := d.canLay0 = true ∧ d.depth ≤ k
theorem rd_all {h : Heap} : ∀ {vs : List Value} {ds : List PyData}, Al2 (Rd h) vs ds → ∃ as, ReadsAll h vs ds as
  | [], [], _ => ⟨[], .nil⟩
  | [], _ :: _, a => by cases a.1
  | _ :: _, [], a => by cases a.1
  | v :: vs, d :: ds, a => by
    obtain ⟨as, h1⟩ := a.2 0 v d rfl rfl
    obtain ⟨bs, h2⟩ := rd_all (vs := vs) (ds := ds) ⟨Nat.succ.inj a.1, fun i x y hx hy => a.2 (i + 1) x y hx hy⟩
    exact ⟨as ++ bs, .cons h1 h2⟩
theorem rd_list {h₀ h : Heap} {L R : Addr} {nw : List (Addr × Obj)} {vs : Array Value} {c : Nat} {ds : List PyData} (N : News h₀ L h nw) (hm : (R, W.listOf vs c) ∈ nw) (a : Al2 (Rd h) vs.toList ds) : Rd h (.ref R) (.list ds) := by
  obtain ⟨as, r⟩ := rd_all a
  exact ⟨_, .list (N _ hm).1 rfl rfl r⟩
theorem rd_tuple {h₀ h : Heap} {L R : Addr} {nw : List (Addr × Obj)} {vs : Array Value} {ds : List PyData} (N : News h₀ L h nw) (hm : (R, tupA vs) ∈ nw) (a : Al2 (Rd h) vs.toList ds) : Rd h (.ref R) (.tuple ds) := by
  obtain ⟨as, r⟩ := rd_all a
  exact ⟨_, .tuple (N _ hm).1 rfl rfl r⟩
theorem rd_ints {h : Heap} {vs : List Value} {ns : List Int} (a : IntsAre vs ns) : Al2 (Rd h) vs (ns.map .int) := by
  induction a with
  | nil => exact ⟨rfl, fun i a b q => by cases q⟩
  | cons k t _ ih => exact ⟨congrArg (· + 1) ih.1, fun i a b q r => by
      cases i with
      | zero => cases q; cases r; exact ⟨_, .int _ _⟩
      | succ i => exact ih.2 i a b q r⟩
theorem rd_strs {h : Heap} {vs : List Value} {ns : List Str} (a : StrsAre vs ns) : Al2 (Rd h) vs (ns.map .str) := by
  induction a with
  | nil => exact ⟨rfl, fun i a b q => by cases q⟩
  | cons k t _ ih => exact ⟨congrArg (· + 1) ih.1, fun i a b q r => by
      cases i with
      | zero => cases q; cases r; exact ⟨_, .str _ _⟩
      | succ i => exact ih.2 i a b q r⟩
theorem rd_bools {h : Heap} : ∀ bs : List Bool, Al2 (Rd h) (bs.map Value.bool) (bs.map .bool)
  | [] => ⟨rfl, fun i a b q => by cases q⟩
  | _ :: r => ⟨congrArg (· + 1) (rd_bools (h := h) r).1, fun i a b q s => by
      cases i with
      | zero => cases q; cases s; exact ⟨_, .bool _⟩
      | succ i => exact (rd_bools r).2 i a b q s⟩
theorem al2_rd {α : Type} {P : Value → α → Prop} {h : Heap} {f : α → PyData} (hP : ∀ v x, P v x → Rd h v (f x)) {vs : List Value} {xs : List α} (a : Al2 P vs xs) : Al2 (Rd h) vs (xs.map f) := by
  refine ⟨a.1.trans (List.length_map ..).symm, fun i v d hv hd => ?_⟩
  rw [List.getElem?_map] at hd
  obtain ⟨x, hx, rfl⟩ := Option.map_eq_some_iff.mp hd
  exact hP v x (a.2 i v x hv hx)
def BoolsL (nw : List (Addr × Obj)) (v : Value) (bs : List Bool) : Prop := ∃ R vs c, v = .ref R ∧ (R, W.listOf vs c) ∈ nw ∧ vs.toList = bs.map Value.bool
def dB (bs : List Bool) : PyData := .list (bs.map .bool)
def dI (ns : List Int) : PyData := .list (ns.map .int)
def dT (ring right : Bool) (rows : List (List Int)) : PyData := .tuple [.bool ring, .bool right, .list (rows.map dI)]
theorem rd_matrix {h₀ h : Heap} {L R : Addr} {nw : List (Addr × Obj)} {vs : Array Value} {c : Nat} {rows : List (List Bool)} (N : News h₀ L h nw) (hm : (R, W.listOf vs c) ∈ nw) (a : Al2 (BoolsL nw) vs.toList rows) : Rd h (.ref R) (.list (rows.map dB)) :=
  rd_list N hm (al2_rd (fun v x hx => by
    obtain ⟨R', vs', c', rfl, h1, h2⟩ := hx
    exact rd_list N h1 (h2 ▸ rd_bools x)) a)
theorem rd_trip {h₀ h : Heap} {L T : Addr} {nw : List (Addr × Obj)} {ring right : Bool} {rows : List (List Int)} (N : News h₀ L h nw) (t : TripL nw T ring right rows) : Rd h (.ref T) (dT ring right rows) := by
  obtain ⟨RL, ws, c, h1, h2, h3⟩ := t
  refine rd_tuple N h1 ⟨rfl, fun i v d hv hd => ?_⟩
  match i, hv, hd with
  | 0, hv, hd => cases hv; cases hd; exact ⟨_, .bool _⟩
  | 1, hv, hd => cases hv; cases hd; exact ⟨_, .bool _⟩
  | 2, hv, hd =>
    cases hv; cases hd
    exact rd_list N h2 (al2_rd (fun v x hx => by
      obtain ⟨R', vs', c', rfl, h1, h2⟩ := hx
      exact rd_list N h1 (rd_ints h2)) h3)
theorem pl_all {k : Nat} : ∀ {ds : List PyData}, (∀ d ∈ ds, Pl k d) → PyData.canLayAll0 ds = true ∧ PyData.depthAll ds ≤ k
  | [], _ => ⟨by simp [PyData.canLayAll0], by simp [PyData.depthAll]⟩
  | d :: r, h => by
    obtain ⟨h1, h2⟩ := h d (.head _)
    obtain ⟨h3, h4⟩ := pl_all fun x hx => h x (.tail _ hx)
    refine ⟨by simp [PyData.canLayAll0, h1, h3], ?_⟩
    simp only [PyData.depthAll]
    omega
theorem pl_list {k : Nat} {ds : List PyData} (h : ∀ d ∈ ds, Pl k d) : Pl (k + 1) (.list ds) := by
  obtain ⟨h1, h2⟩ := pl_all h
  exact ⟨by simp only [PyData.canLay0]; exact h1, by simp only [PyData.depth]; omega⟩
theorem pl_tuple {k : Nat} {ds : List PyData} (h : ∀ d ∈ ds, Pl k d) : Pl (k + 1) (.tuple ds) := by
  obtain ⟨h1, h2⟩ := pl_all h
  exact ⟨by simp only [PyData.canLay0]; exact h1, by simp only [PyData.depth]; omega⟩
theorem pl_up {k : Nat} {d : PyData} (h : Pl k d) {j : Nat} (hj : k ≤ j) : Pl j d := ⟨h.1, Nat.le_trans h.2 hj⟩
theorem pl_bool (b : Bool) : Pl 0 (.bool b) := ⟨by simp [PyData.canLay0], by simp [PyData.depth]⟩
theorem pl_int (b : Int) : Pl 0 (.int b) := ⟨by simp [PyData.canLay0], by simp [PyData.depth]⟩
theorem pl_str {x : Str} (h : ∀ (i c : Nat), x.cps[i]? = some c → c < 128) : Pl 0 (.str x) := by
  refine ⟨?_, by simp [PyData.depth]⟩
  simp only [PyData.canLay0]
  unfold PyData.strOk
  rw [Array.all_eq_true]
  intro i hi
  have := h i _ (Array.getElem?_eq_getElem hi)
  simp only [decide_eq_true_eq]
  omega
theorem pl_map {α : Type} {k : Nat} {f : α → PyData} {xs : List α} (h : ∀ x ∈ xs, Pl k (f x)) : ∀ d ∈ xs.map f, Pl k d := fun d hd => by
  obtain ⟨x, hx, rfl⟩ := List.mem_map.mp hd
  exact h x hx
theorem pl_dB (bs : List Bool) : Pl 1 (dB bs) := pl_list (pl_map fun b _ => pl_bool b)
theorem pl_dI (ns : List Int) : Pl 1 (dI ns) := pl_list (pl_map fun b _ => pl_int b)
theorem pl_dT (ring right : Bool) (rows : List (List Int)) : Pl 3 (dT ring right rows) := by
  refine pl_tuple fun d hd => ?_
  simp only [List.mem_cons, List.not_mem_nil, or_false] at hd
  rcases hd with rfl | rfl | rfl
  · exact pl_up (pl_bool _) (by decide)
  · exact pl_up (pl_bool _) (by decide)
  · exact pl_list (pl_map fun r _ => pl_dI r)
section
variable {prog : Program} {w : World} {A : Around} {E : Value → Shared → Prop} {s : Shared} {a b : Value} {d : PyData} {Q : Value → Shared → Prop}
theorem eq_rd (ra : Rd s.heap a d) (rb : Rd s.heap b d) (hp : Pl 60 d) (hu : A.units + 64 < cLine) (h : Q (.bool true) s) : wpAny (model prog w) A (compareOp .Eq a b) Q E s := by
  obtain ⟨as, ra⟩ := ra
  obtain ⟨bs, rb⟩ := rb
  have hs : PySem.SeqAt.shaped d = true := by unfold PySem.SeqAt.shaped; rw [Bool.and_eq_true, decide_eq_true_eq]; exact ⟨hp.1, Nat.le_trans hp.2 (by decide)⟩
  exact eq_dataH ra rb hs hs hu (by rw [PySem.SeqAt.eqv_refl d hp.1]; exact h)
theorem ne_rd (ra : Rd s.heap a d) (rb : Rd s.heap b d) (hp : Pl 60 d) (hu : A.units + 64 < cLine) (h : Q (.bool false) s) : wpAny (model prog w) A (compareOp .NotEq a b) Q E s := by
  obtain ⟨as, ra⟩ := ra
  obtain ⟨bs, rb⟩ := rb
  have hs : PySem.SeqAt.shaped d = true := by unfold PySem.SeqAt.shaped; rw [Bool.and_eq_true, decide_eq_true_eq]; exact ⟨hp.1, Nat.le_trans hp.2 (by decide)⟩
  exact ne_dataH ra rb hs hs hu (by rw [PySem.SeqAt.eqv_refl d hp.1]; exact h)
end
end
section
theorem ifmt_spec {w : World} {dp un : Nat} {gd : Option (List Code)} {cn : Str} {cs : Scope} {a : Addr} {ccd : Value} {cl : List (Str × Addr)} {outer : List Env} {A₀ : Around} {base h₀ : Heap} {L : Addr} {m : Str → Option Value} {news : List (Addr × Obj)} {s : Shared} {p : Program} {loose : List Str} {mean : ExcName → Option Value} {mg mb : Str → Option Value}
    {Q E : Value → Shared → Prop} (B : Below A₀ base outer h₀) (F : Fr h₀ L s.heap m) (X : (Mine.K w.params).In h₀) (N : News h₀ L s.heap news) (T : Top p loose mean mg mb h₀) (hk : cs.kind = .function) (hd : dp + 10 < recursionLimit) (hu : un + 80 < cLine)
    {k : Int} {t : Tok}
    (hret : ∀ t' h' tk', Fr h₀ L h' m → News h₀ L h' news → Q (.int (Builtin.bitAnd k 61440) t') { s with heap := h', toks := tk' }) :
    wpAny (model PySem.Challenge.pw_nq0248_01 w) (ktrTop dp un gd cn cs L a ccd cl outer) (call (.ref 35) [.int k t]) Q E s := by
  have hfill : (fun (_ : OpenLaw) (_ : Params → Frag) => True) PySem.Challenge.rw_nq0248_01 Mine.K := by k_fill; trivial
  clear hfill
  refine wpAny_call ?_
  k_dflt ktr_enter
  rename Fr _ _ _ _ => F1
  rename_i g1 L1 h1 FG N1 B1 X1 T1
  replace F1 : Fr g1 L1 h1 (fun y => List.lookup y [(Str.ofString "mode", Value.int k t)]) := F1
  refine gen_toks fun tk0 => ?_
  dsimp only
  (repeat' (first | (((fail_if_success (fail_if_success k_unfold)); first | (with_reducible refine (?_ : wpAny _ _ _ _ _ _)) | k_unfold); try dsimp only) | ((fail_if_success (fail_if_success (with_reducible refine ex1 (by constructor) ?_))); (fail_if_success (fail_if_success k_fold)); (with_reducible refine (?_ : let qk := _; let ek := _; wpAny _ _ _ qk ek _)); intro qk ek) | ((fail_if_success (with_reducible first | ((fail_if_success (refine go1 (by constructor) ?_)); refine st1 (by constructor) ?_) | show Exists _)); walk1; try dsimp only)))
  rename Fr h₀ _ _ _ => Fz
  rename News h₀ _ _ _ => Nz
  exact hret _ _ _ Fz Nz
theorem imode_spec {w : World} {dp un : Nat} {gd : Option (List Code)} {cn : Str} {cs : Scope} {a : Addr} {ccd : Value} {cl : List (Str × Addr)} {outer : List Env} {A₀ : Around} {base h₀ : Heap} {L : Addr} {m : Str → Option Value} {news : List (Addr × Obj)} {s : Shared} {p : Program} {loose : List Str} {mean : ExcName → Option Value} {mg mb : Str → Option Value}
    {Q E : Value → Shared → Prop} (B : Below A₀ base outer h₀) (F : Fr h₀ L s.heap m) (X : (Mine.K w.params).In h₀) (N : News h₀ L s.heap news) (T : Top p loose mean mg mb h₀) (hk : cs.kind = .function) (hd : dp + 10 < recursionLimit) (hu : un + 80 < cLine)
    {k : Int} {t : Tok}
    (hret : ∀ t' h' tk', Fr h₀ L h' m → News h₀ L h' news → Q (.int (Builtin.bitAnd k 4095) t') { s with heap := h', toks := tk' }) :
    wpAny (model PySem.Challenge.pw_nq0248_01 w) (ktrTop dp un gd cn cs L a ccd cl outer) (call (.ref 28) [.int k t]) Q E s := by
  have hfill : (fun (_ : OpenLaw) (_ : Params → Frag) => True) PySem.Challenge.rw_nq0248_01 Mine.K := by k_fill; trivial
  clear hfill
  refine wpAny_call ?_
  k_dflt ktr_enter
  rename Fr _ _ _ _ => F1
  rename_i g1 L1 h1 FG N1 B1 X1 T1
  replace F1 : Fr g1 L1 h1 (fun y => List.lookup y [(Str.ofString "mode", Value.int k t)]) := F1
  refine gen_toks fun tk0 => ?_
  dsimp only
  (repeat' (first | (((fail_if_success (fail_if_success k_unfold)); first | (with_reducible refine (?_ : wpAny _ _ _ _ _ _)) | k_unfold); try dsimp only) | ((fail_if_success (fail_if_success (with_reducible refine ex1 (by constructor) ?_))); (fail_if_success (fail_if_success k_fold)); (with_reducible refine (?_ : let qk := _; let ek := _; wpAny _ _ _ qk ek _)); intro qk ek) | ((fail_if_success (with_reducible first | ((fail_if_success (refine go1 (by constructor) ?_)); refine st1 (by constructor) ?_) | show Exists _)); walk1; try dsimp only)))
  rename Fr h₀ _ _ _ => Fz
  rename News h₀ _ _ _ => Nz
  exact hret _ _ _ Fz Nz
end
section
theorem len_leN {α : Type} {A B : List α} (hn : A.Nodup) (h : ∀ x ∈ A, x ∈ B) : A.length ≤ B.length := by
  classical
  induction A generalizing B with
  | nil => exact Nat.zero_le _
  | cons a r ih =>
    obtain ⟨h1, h2⟩ := List.nodup_cons.mp hn
    obtain ⟨s, t, rfl⟩ := List.append_of_mem (h a (.head _))
    have := ih (B := s ++ t) h2 fun x hx => by
      have hb := h x (.tail _ hx)
      rcases List.mem_append.mp hb with q | q
      · exact List.mem_append_left _ q
      rcases List.mem_cons.mp q with rfl | q
      · exact absurd hx h1
      · exact List.mem_append_right _ q
    rw [List.length_append] at this
    rw [List.length_cons, List.length_append, List.length_cons]
    lia
theorem eq_map_wd (l : List Str) : l = (List.range l.length).map (wd l) := by
  refine List.ext_getElem (by rw [List.length_map, List.length_range]) fun i h1 h2 => ?_
  rw [List.getElem_map, List.getElem_range]
  unfold wd
  rw [List.getD_eq_getElem?_getD, List.getElem?_eq_getElem h1]
  rfl
theorem count_wds (l : List Str) (x : Str) : l.count x = ((List.range l.length).filter fun j => wd l j == x).length := by
  conv => lhs; rw [eq_map_wd l]
  rw [List.count_eq_countP, List.countP_map, List.countP_eq_length_filter]
  rfl
theorem count_two {l : List Str} {k : Nat} (hk : k < l.length) : 1 < l.count (wd l k) ↔ ∃ j, j < l.length ∧ j ≠ k ∧ wd l j = wd l k := by
  rw [count_wds]
  have hnd : ((List.range l.length).filter fun j => wd l j == wd l k).Nodup := List.nodup_range.filter _
  have hkm : k ∈ (List.range l.length).filter fun j => wd l j == wd l k := List.mem_filter.mpr ⟨List.mem_range.mpr hk, beq_self_eq_true _⟩
  constructor
  · intro h
    refine Classical.byContradiction fun hno => ?_
    have : ((List.range l.length).filter fun j => wd l j == wd l k).length ≤ [k].length := len_leN hnd fun x hx => by
      obtain ⟨h1, h2⟩ := List.mem_filter.mp hx
      rw [List.mem_range] at h1
      refine List.mem_singleton.mpr (Classical.byContradiction fun hne => hno ⟨x, h1, hne, eq_of_beq h2⟩)
    rw [List.length_singleton] at this
    lia
  · rintro ⟨j, hj, hne, he⟩
    have : [j, k].length ≤ ((List.range l.length).filter fun j => wd l j == wd l k).length := len_leN (by simp [hne]) fun x hx => by
      rcases List.mem_cons.mp hx with rfl | hx
      · exact List.mem_filter.mpr ⟨List.mem_range.mpr hj, by rw [he]; exact beq_self_eq_true _⟩
      · rw [List.mem_singleton.mp hx]; exact hkm
    exact this
theorem count_pos {l : List Str} {k : Nat} (hk : k < l.length) : 0 < l.count (wd l k) := by
  rw [count_wds]
  exact List.length_pos_of_mem (List.mem_filter.mpr ⟨List.mem_range.mpr hk, beq_self_eq_true _⟩)
theorem dueIn_congr {ws : List Str} {hs hs' : List Int} {z k n : Nat} (h : ∀ j, j < n → (wd ws j).length < z → hs.getD j 0 = hs'.getD j 0) : dueIn ws hs z k n = dueIn ws hs' z k n := by
  unfold dueIn
  refine List.map_congr_left fun j hj => ?_
  obtain ⟨h1, h2⟩ := List.mem_filter.mp hj
  rw [Bool.and_eq_true, decide_eq_true_eq] at h2
  exact h j (List.mem_range.mp h1) h2.1
def dueV (ws : List Str) (hs : List Int) (z k : Nat) : Int := if ws.count (wd ws k) = 1 ∧ (-1 : Int) ∉ dueIn ws hs z k ws.length then 1 + maxL (dueIn ws hs z k ws.length) else -1
theorem dueIt_at (ws : List Str) (z : Nat) : ∀ i, i ≤ ws.length → (∀ k, k < ws.length → (dueIt ws z i).2.getD k 0 = if (wd ws k).length = z + 1 ∧ k < i then dueV ws (dueSt ws z).2 (z + 1) k else (dueSt ws z).2.getD k 0) ∧
    ((dueIt ws z i).1 = true ↔ (dueSt ws z).1 = true ∨ ∃ k, k < i ∧ (wd ws k).length = z + 1 ∧ 1 < ws.count (wd ws k))
  | 0, _ => ⟨fun k _ => by rw [if_neg (by lia)]; rfl, ⟨fun h => .inl h, fun h => by
      rcases h with h | ⟨k, h, _⟩
      · exact h
      · exact absurd h (Nat.not_lt_zero _)⟩⟩
  | i + 1, hi => by
    obtain ⟨h1, h2⟩ := dueIt_at ws z i (Nat.le_of_lt hi)
    rw [dueIt_succ]
    unfold dueStep
    by_cases hl : (wd ws i).length = z + 1
    · rw [if_pos hl]
      have hin : dueIn ws (dueIt ws z i).2 (z + 1) i ws.length = dueIn ws (dueSt ws z).2 (z + 1) i ws.length := dueIn_congr fun j hj hjl => by
        rw [h1 j hj, if_neg (by lia)]
      refine ⟨fun k hk => ?_, ?_⟩
      · show ((dueIt ws z i).2.set i _).getD k 0 = _
        rw [getD_set', dueIt_len]
        by_cases e : i = k
        · subst e
          have e2 : (if (wd ws i).length = z + 1 ∧ i < i + 1 then dueV ws (dueSt ws z).2 (z + 1) i else (dueSt ws z).2.getD i 0) = dueV ws (dueSt ws z).2 (z + 1) i := if_pos ⟨hl, Nat.lt_succ_self _⟩
          rw [e2, if_pos ⟨rfl, hk⟩, hin]
          rfl
        · rw [if_neg (fun q => e q.1), h1 k hk]
          by_cases q : (wd ws k).length = z + 1 ∧ k < i
          · rw [if_pos q, if_pos ⟨q.1, by lia⟩]
          · rw [if_neg q, if_neg (by lia)]
      · show ((dueIt ws z i).1 || decide _) = true ↔ _
        rw [Bool.or_eq_true, decide_eq_true_eq, h2]
        constructor
        · rintro ((h | ⟨k, h3, h4⟩) | h)
          · exact .inl h
          · exact .inr ⟨k, by lia, h4⟩
          · exact .inr ⟨i, Nat.lt_succ_self _, hl, h⟩
        · rintro (h | ⟨k, h3, h4, h5⟩)
          · exact .inl (.inl h)
          · by_cases e : k = i
            · subst e; exact .inr h5
            · exact .inl (.inr ⟨k, by lia, h4, h5⟩)
    · rw [if_neg hl]
      refine ⟨fun k hk => ?_, ?_⟩
      · rw [h1 k hk]
        by_cases q : (wd ws k).length = z + 1 ∧ k < i
        · rw [if_pos q, if_pos ⟨q.1, by lia⟩]
        · rw [if_neg q, if_neg fun r => q ⟨r.1, by
            have : k ≠ i := fun e => hl (e ▸ r.1)
            lia⟩]
      · rw [h2]
        constructor
        · rintro (h | ⟨k, h3, h4⟩)
          · exact .inl h
          · exact .inr ⟨k, by lia, h4⟩
        · rintro (h | ⟨k, h3, h4, h5⟩)
          · exact .inl h
          · exact .inr ⟨k, by
              have : k ≠ i := fun e => hl (e ▸ h4)
              lia, h4, h5⟩
theorem dueSt_at (ws : List Str) (z : Nat) {k : Nat} (hk : k < ws.length) : (dueSt ws (z + 1)).2.getD k 0 = if (wd ws k).length = z + 1 then dueV ws (dueSt ws z).2 (z + 1) k else (dueSt ws z).2.getD k 0 := by
  rw [dueSt_succ, (dueIt_at ws z ws.length (Nat.le_refl _)).1 k hk]
  by_cases q : (wd ws k).length = z + 1
  · rw [if_pos ⟨q, hk⟩, if_pos q]
  · rw [if_neg (fun r => q r.1), if_neg q]
theorem dueSt_stays (ws : List Str) {k : Nat} (hk : k < ws.length) {i : Nat} (hl : (wd ws k).length ≤ i) : ∀ d, (dueSt ws (i + d)).2.getD k 0 = (dueSt ws i).2.getD k 0
  | 0 => rfl
  | d + 1 => by
    rw [show i + (d + 1) = i + d + 1 from rfl, dueSt_at ws (i + d) hk, if_neg (by lia), dueSt_stays ws hk hl d]
def dueH (ws : List Str) (k : Nat) : Int := (dueSt ws 5).2.getD k 0
theorem dueH_eq {ws : List Str} {k : Nat} (hk : k < ws.length) (h0 : 0 < (wd ws k).length) (h5 : (wd ws k).length ≤ 5) : dueH ws k = dueV ws (dueSt ws 5).2 (wd ws k).length k := by
  obtain ⟨z, hz⟩ : ∃ z, (wd ws k).length = z + 1 := ⟨(wd ws k).length - 1, by lia⟩
  have e1 : dueH ws k = (dueSt ws (z + 1)).2.getD k 0 := by
    have := dueSt_stays ws hk (Nat.le_of_eq hz) (5 - (z + 1))
    rw [show z + 1 + (5 - (z + 1)) = 5 by lia] at this
    exact this
  rw [e1, dueSt_at ws z hk, if_pos hz, hz]
  have e2 : dueIn ws (dueSt ws z).2 (z + 1) k ws.length = dueIn ws (dueSt ws 5).2 (z + 1) k ws.length := dueIn_congr fun j hj hjl => by
    have := dueSt_stays ws hj (Nat.le_of_lt_succ hjl) (5 - z)
    rw [show z + (5 - z) = 5 by lia] at this
    exact this.symm
  unfold dueV
  rw [e2]
theorem dueRing {ws : List Str} (hl : ∀ k, k < ws.length → 0 < (wd ws k).length ∧ (wd ws k).length ≤ 5) : (dueSt ws 5).1 = true ↔ ∃ k, k < ws.length ∧ 1 < ws.count (wd ws k) := by
  have key : ∀ i, (dueSt ws i).1 = true ↔ ∃ k, k < ws.length ∧ 0 < (wd ws k).length ∧ (wd ws k).length ≤ i ∧ 1 < ws.count (wd ws k) := by
    intro i
    induction i with
    | zero => exact ⟨fun h => (by cases h), fun ⟨k, _, h1, h2, _⟩ => (by lia)⟩
    | succ i ih =>
      rw [dueSt_succ, (dueIt_at ws i ws.length (Nat.le_refl _)).2, ih]
      constructor
      · rintro (⟨k, h1, h2, h3, h4⟩ | ⟨k, h1, h2, h3⟩)
        · exact ⟨k, h1, h2, by lia, h4⟩
        · exact ⟨k, h1, by lia, by lia, h3⟩
      · rintro ⟨k, h1, h2, h3, h4⟩
        by_cases e : (wd ws k).length = i + 1
        · exact .inr ⟨k, h1, e, h4⟩
        · exact .inl ⟨k, h1, h2, by lia, h4⟩
  rw [key]
  exact ⟨fun ⟨k, h1, _, _, h2⟩ => ⟨k, h1, h2⟩, fun ⟨k, h1, h2⟩ => ⟨k, h1, (hl k h1).1, (hl k h1).2, h2⟩⟩
structure HOk (N : Nat) (pr : Int → List Int) (H : Int → Int) : Prop where
  at' : ∀ k, 0 ≤ k → k < (N : Int) → (H k = -1 ∧ ∃ p ∈ pr k, H p = -1) ∨ (1 ≤ H k ∧ (∀ p ∈ pr k, 1 ≤ H p ∧ H p < H k) ∧ (H k = 1 ∨ ∃ p ∈ pr k, H p = H k - 1))
  cl : ∀ k, 0 ≤ k → k < (N : Int) → ∀ p ∈ pr k, 0 ≤ p ∧ p < (N : Int)
def rowH (N : Nat) (H : Int → Int) (d : Nat) : List Int := (rng N).filter fun k => decide (H k = 1 + (d : Int))
theorem next_row {N : Nat} {pr : Int → List Int} {H : Int → Int} (h : HOk N pr H) {dn : List Int} {d : Nat} (hd : ∀ x, x ∈ dn ↔ 0 ≤ x ∧ x < (N : Int) ∧ 1 ≤ H x ∧ H x ≤ (d : Int)) : nextK N pr dn = rowH N H d := by
  unfold nextK rowH
  refine List.filter_congr fun k hk => ?_
  obtain ⟨h0, h1⟩ := mem_rng.mp hk
  rw [Bool.eq_iff_iff, Bool.and_eq_true, decide_eq_true_eq, decide_eq_true_eq, List.all_eq_true]
  constructor
  · rintro ⟨q1, q2⟩
    have q3 : ∀ p ∈ pr k, p ∈ dn := fun p hp => by simpa using q2 p hp
    rcases h.at' k h0 h1 with ⟨_, p, hp, hp2⟩ | ⟨a1, a2, a3⟩
    · have := (hd p).mp (q3 p hp)
      lia
    · have q4 : ¬ H k ≤ (d : Int) := fun q => q1 ((hd k).mpr ⟨h0, h1, a1, q⟩)
      rcases a3 with a3 | ⟨p, hp, a3⟩
      · lia
      · have := (hd p).mp (q3 p hp)
        lia
  · intro e
    rcases h.at' k h0 h1 with ⟨a, _⟩ | ⟨a1, a2, a3⟩
    · lia
    · refine ⟨fun q => ?_, fun p hp => ?_⟩
      · have := (hd k).mp q
        lia
      · have := a2 p hp
        have hc := h.cl k h0 h1 p hp
        exact decide_eq_true ((hd p).mpr ⟨hc.1, hc.2, this.1, by lia⟩)
theorem krun_rows {N : Nat} {pr : Int → List Int} {H : Int → Int} (h : HOk N pr H) {rounds : List (List Int)} {dn : List Int} (r : KRun N pr rounds dn) :
    (∀ x, x ∈ dn ↔ 0 ≤ x ∧ x < (N : Int) ∧ 1 ≤ H x ∧ H x ≤ (rounds.length : Int)) ∧ rounds = (List.range rounds.length).map (rowH N H) ∧ ∀ d, d < rounds.length → rowH N H d ≠ [] := by
  induction r with
  | nil => exact ⟨fun x => ⟨fun q => absurd q List.not_mem_nil, fun q => by
      have := q.2.2.1; have := q.2.2.2
      simp only [List.length_nil] at this
      omega⟩, rfl, fun d hd => absurd hd (Nat.not_lt_zero _)⟩
  | snoc r hne hm ih =>
    rename_i rounds dn dn'
    obtain ⟨i1, i2, i3⟩ := ih
    have e := next_row h i1
    rw [e] at hne hm
    refine ⟨fun x => ?_, ?_, fun d hd => ?_⟩
    · rw [hm, i1, List.length_append, List.length_singleton]
      unfold rowH
      rw [List.mem_filter, mem_rng, decide_eq_true_eq]
      constructor
      · rintro (q | q) <;> refine ⟨?_, ?_, ?_, ?_⟩ <;> omega
      · rintro ⟨a, b, c, d⟩
        by_cases q : H x ≤ (rounds.length : Int)
        · exact .inl ⟨a, b, c, q⟩
        · exact .inr ⟨⟨a, b⟩, by omega⟩
    · rw [List.length_append, List.length_singleton, List.range_succ, List.map_append, ← i2, e]
      rfl
    · rw [List.length_append, List.length_singleton] at hd
      by_cases q : d = rounds.length
      · exact q ▸ hne
      · exact i3 d (by omega)
theorem rows_done {N : Nat} {pr : Int → List Int} {hs : List Int} (hN : hs.length = N) (h : HOk N pr fun k => hs.getD k.toNat 0) {rounds : List (List Int)} (r : RunOk N pr rounds) : dueRows hs = rounds := by
  obtain ⟨dn, r, hend⟩ := r
  obtain ⟨i1, i2, i3⟩ := krun_rows h r
  rw [next_row h i1] at hend
  have noRow : ∀ k, 0 ≤ k → k < (N : Int) → hs.getD k.toNat 0 ≠ 1 + (rounds.length : Int) := fun k h0 h1 e => by
    have : k ∈ rowH N (fun k => hs.getD k.toNat 0) rounds.length := List.mem_filter.mpr ⟨mem_rng.mpr ⟨h0, h1⟩, decide_eq_true e⟩
    rw [hend] at this
    exact absurd this List.not_mem_nil
  have top : ∀ (n : Nat) k, 0 ≤ k → k < (N : Int) → hs.getD k.toNat 0 ≤ (rounds.length : Int) + n := by
    intro n
    have desc : ∀ n : Nat, ∀ k, 0 ≤ k → k < (N : Int) → hs.getD k.toNat 0 = 1 + (rounds.length : Int) + n → False := by
      intro n
      induction n with
      | zero => exact fun k h0 h1 e => noRow k h0 h1 (by lia)
      | succ n ih =>
        intro k h0 h1 e
        rcases h.at' k h0 h1 with ⟨a, _⟩ | ⟨a1, a2, a3⟩
        · lia
        · rcases a3 with a3 | ⟨p, hp, a3⟩
          · lia
          · have hc := h.cl k h0 h1 p hp
            exact ih p hc.1 hc.2 (by lia)
    intro k h0 h1
    refine Int.not_lt.mp fun q => desc (hs.getD k.toNat 0 - 1 - rounds.length).toNat k h0 h1 (by lia)
  have hM : maxL hs = (rounds.length : Int) := by
    refine maxL_is ?_ fun a ha => ?_
    · cases e : rounds.length with
      | zero => exact .head _
      | succ d =>
        refine .tail _ ?_
        obtain ⟨k, hk⟩ := List.exists_mem_of_ne_nil _ (i3 d (by lia))
        obtain ⟨h1, h2⟩ := List.mem_filter.mp hk
        obtain ⟨h3, h4⟩ := mem_rng.mp h1
        have hk2 : k.toNat < hs.length := by lia
        have h2 : hs.getD k.toNat 0 = 1 + (d : Int) := of_decide_eq_true h2
        rw [List.getD_eq_getElem?_getD, List.getElem?_eq_getElem hk2] at h2
        have : hs[k.toNat] = ((d + 1 : Nat) : Int) := h2.trans (by lia)
        exact this ▸ List.getElem_mem hk2
    · rcases List.mem_append.mp ha with ha | ha
      · rw [List.mem_singleton.mp ha]; exact Int.natCast_nonneg _
      · obtain ⟨i, hi, rfl⟩ := List.getElem_of_mem ha
        have := top 0 (i : Int) (Int.natCast_nonneg _) (by lia)
        rw [Int.toNat_natCast, List.getD_eq_getElem?_getD, List.getElem?_eq_getElem hi] at this
        simpa using this
  unfold dueRows
  rw [hM, Int.toNat_natCast, hN]
  exact i2.symm
end
section
open PySem.Builtin.Str in
theorem slice_nat (y : Str) (a b : Nat) : (Txt.slice y (some (a : Int)) (some (b : Int))).cps.toList = (y.cps.toList.drop (min a y.length)).take (min b y.length - min a y.length) := by
  have e : strSliceIndices (some (a : Int)) (some (b : Int)) 1 y.length = (List.range (min b y.length - min a y.length)).map (min a y.length + ·) := by
    rw [← sliceRange_one]
    unfold strSliceIndices
    simp only [show (1 : Int) > 0 by decide, if_true, if_neg (show ¬ ((a : Int) < 0) by omega), if_neg (show ¬ ((b : Int) < 0) by omega)]
    congr 1 <;> omega
  unfold Txt.slice
  rw [e]
  split
  · rename_i h
    simp only [List.length_map, List.length_range] at h
    have h2 : min b y.length - min a y.length = y.length := by simpa using h
    have h3 : min a y.length = 0 := by omega
    rw [h3, Nat.sub_zero, List.drop_zero, List.take_of_length_le]
    rw [Array.length_toList]
    show y.length ≤ _
    omega
  · rw [pick_run]
def AtS (x y : Str) (i : Nat) : Prop := i + x.length ≤ y.length ∧ (y.cps.toList.drop i).take x.length = x.cps.toList
theorem str_eq {x y : Str} (h : x.cps.toList = y.cps.toList) : x = y := by
  cases x; cases y
  exact congrArg Str.mk (Array.toList_inj.mp h)
theorem with_iff {x y : Str} : withS x y = true ↔ ∃ i, AtS x y i := by
  unfold withS
  rw [List.any_eq_true]
  have key : ∀ i, i + x.length ≤ y.length → (hitW x y i = true ↔ AtS x y i) := fun i hi => by
    unfold hitW AtS
    rw [Int.zero_add, ← Int.natCast_add, beq_iff_eq]
    constructor
    · intro e
      refine ⟨hi, ?_⟩
      rw [← e, slice_nat]
      rw [Nat.min_eq_left hi, Nat.min_eq_left (by lia)]
      rw [show i + x.length - i = (Txt.slice y (some (i : Int)) (some ((i + x.length : Nat) : Int))).length by rw [e]; lia, e]
    · rintro ⟨_, e⟩
      refine str_eq ?_
      rw [slice_nat, Nat.min_eq_left hi, Nat.min_eq_left (by lia), show i + x.length - i = x.length by lia]
      exact e
  constructor
  · rintro ⟨i, hi, h⟩
    rw [List.mem_range] at hi
    exact ⟨i, (key i (by lia)).mp h⟩
  · rintro ⟨i, h⟩
    exact ⟨i, List.mem_range.mpr (by have := h.1; lia), (key i h.1).mpr h⟩
theorem contains_iffS {x y : Str} : Txt.contains y x = true ↔ ∃ i, AtS x y i := by
  unfold Txt.contains
  rw [PySem.StrLaws.found_iff]
  refine exists_congr fun i => and_congr_right fun _ => ?_
  rw [PySem.StrLaws.subAt_eq, beq_iff_eq]
theorem with_contains (x y : Str) : withS x y = Txt.contains y x := Bool.eq_iff_iff.mpr (with_iff.trans contains_iffS.symm)
theorem with_len {x y : Str} (h : withS x y = true) : x.length ≤ y.length := by
  obtain ⟨i, h, _⟩ := with_iff.mp h
  lia
theorem with_same {x y : Str} (h : withS x y = true) (e : x.length = y.length) : x = y := by
  obtain ⟨i, h1, h2⟩ := with_iff.mp h
  obtain rfl : i = 0 := by lia
  refine str_eq ?_
  rw [← h2, List.drop_zero, List.take_of_length_le]
  rw [Array.length_toList]
  exact Nat.le_of_eq e.symm
theorem with_refl (x : Str) : withS x x = true := with_iff.mpr ⟨0, Nat.le_of_eq (Nat.zero_add _), by
  rw [List.drop_zero, List.take_of_length_le]
  rw [Array.length_toList]
  exact Nat.le_refl _⟩
theorem with_trans {x y z : Str} (h1 : withS x y = true) (h2 : withS y z = true) : withS x z = true := by
  obtain ⟨i, a1, a2⟩ := with_iff.mp h1
  obtain ⟨j, b1, b2⟩ := with_iff.mp h2
  refine with_iff.mpr ⟨j + i, by lia, ?_⟩
  rw [← a2, ← b2, List.drop_take, List.take_take, List.drop_drop]
  congr 1
  lia
end
section
theorem foldl_cps (g : Str) (hg : g.cps = #[]) : ∀ (ps : List Str) (acc : Array Nat), (ps.foldl (fun acc p => acc ++ g.cps ++ p.cps) acc).toList = acc.toList ++ (ps.map (·.cps.toList)).flatten
  | [], acc => by simp
  | p :: r, acc => by
    rw [List.foldl_cons, foldl_cps g hg r, hg]
    simp
theorem join_empty (ts : List Str) : (Txt.join (Str.ofString "") ts).cps.toList = (ts.map (·.cps.toList)).flatten := by
  have hg : (Str.ofString "").cps = #[] := by decide +kernel
  unfold Txt.join PySem.Builtin.Str.glued
  cases ts with
  | nil => simp [Str.empty]
  | cons p r =>
    have := foldl_cps _ hg r p.cps
    exact this
theorem flat_one {α β : Type} (f : α → β) : ∀ l : List α, (l.map fun c => [f c]).flatten = l.map f
  | [] => rfl
  | a :: r => by rw [List.map_cons, List.flatten_cons, flat_one f r]; rfl
theorem small_cps (x : Str) : (smallS x).cps.toList = x.cps.toList.map smallC := by
  unfold smallS smallL
  rw [join_empty, List.take_of_length_le (by rw [Array.length_toList]; exact Nat.le_refl _), List.map_map]
  exact flat_one smallC _
theorem small_len (x : Str) : (smallS x).length = x.length := by
  have := congrArg List.length (small_cps x)
  rwa [List.length_map, Array.length_toList, Array.length_toList] at this
open PySem.Builtin PySem.Builtin.Str in
theorem placed_one {x : Str} {f : Nat → Nat → List Nat} {g : Nat → Nat} (h : ∀ i c, x.cps[i]? = some c → f i c = [g c]) : (placed x f).toList = x.cps.toList.map g := by
  unfold placed
  have e : (x.cps.mapIdx fun i c => (f i c).toArray) = x.cps.map fun c => #[g c] := by
    refine Array.ext (by simp) fun i h1 h2 => ?_
    have hi : i < x.cps.size := by simpa using h1
    rw [Array.getElem_mapIdx, Array.getElem_map, h i _ (Array.getElem?_eq_getElem hi)]
  rw [e]
  have e2 : ∀ l : List Nat, (((l.toArray).map fun c => #[g c]).flatten).toList = l.map g := fun l => by
    induction l with
    | nil => simp
    | cons a r ih => simp_all
  have := e2 x.cps.toList
  rwa [Array.toArray_toList] at this
def upC (c : Nat) : Nat := if 97 ≤ c ∧ c ≤ 122 then c - 32 else c
theorem low128 : ∀ c, c < 128 → PySem.Unicode.lowerOf c = [smallC c] := by decide +kernel
theorem up128 : ∀ c, c < 128 → PySem.Unicode.upperOf c = [upC c] := by decide +kernel
theorem lower_ascii {x : Str} (h : ∀ (i c : Nat), x.cps[i]? = some c → c < 128) : Txt.lower x = smallS x := by
  refine str_eq ?_
  rw [small_cps]
  exact placed_one fun i c hc => by
    show PySem.Unicode.lowerAt x.cps i = _
    unfold PySem.Unicode.lowerAt
    rw [hc]
    have := h i c hc
    have hne : (c == 0x3A3) = false := by rw [beq_eq_false_iff_ne]; omega
    simp only [hne, Bool.false_and, Bool.false_eq_true, if_false]
    exact low128 c this
theorem upper_cps {x : Str} (h : ∀ (i c : Nat), x.cps[i]? = some c → c < 128) : (Txt.upper x).cps.toList = x.cps.toList.map upC := placed_one fun i c hc => up128 c (h i c hc)
theorem all_cps {x : Str} {P : Nat → Prop} : (∀ (i c : Nat), x.cps[i]? = some c → P c) ↔ ∀ c ∈ x.cps.toList, P c := by
  constructor
  · intro h c hc
    obtain ⟨i, hi, e⟩ := List.getElem_of_mem hc
    exact h i c (by rw [← Array.getElem?_toList, List.getElem?_eq_getElem hi, e])
  · intro h i c hc
    exact h c (List.mem_of_getElem? (by rw [Array.getElem?_toList]; exact hc))
theorem up_small : ∀ c, c < 128 → smallC (upC c) = smallC c ∧ upC c < 128 ∧ (upC c = 47 → c = 47) := by decide +kernel
theorem lower_upper {x : Str} (h : ∀ (i c : Nat), x.cps[i]? = some c → c < 128) : Txt.lower (Txt.upper x) = smallS x ∧ (∀ (i c : Nat), (Txt.upper x).cps[i]? = some c → c < 128) := by
  have h' := all_cps.mp h
  have hu : ∀ (i c : Nat), (Txt.upper x).cps[i]? = some c → c < 128 := all_cps.mpr fun c hc => by
    rw [upper_cps h] at hc
    obtain ⟨d, hd, rfl⟩ := List.mem_map.mp hc
    exact (up_small d (h' d hd)).2.1
  refine ⟨?_, hu⟩
  rw [lower_ascii hu]
  refine str_eq ?_
  rw [small_cps, small_cps, upper_cps h, List.map_map]
  exact List.map_congr_left fun c hc => (up_small c (h' c hc)).1
open PySem.Builtin.Str PySem.StrLaws in
theorem occ_some (s sub : Str) (hi lim : Nat) : ∀ (l : List Nat) (free : Nat), (∀ i ∈ l, free ≤ i) → (∃ i ∈ l, i + sub.length ≤ hi ∧ subAt s sub i = true) → (forIn l ((#[] : Array Nat), free) (occBody s sub hi (lim + 1))).run.fst ≠ #[]
  | [], _, _, ⟨i, hi, _⟩ => by cases hi
  | a :: l, free, hf, ⟨i, hm, hc⟩ => by
    rw [List.forIn_cons]
    unfold occBody
    by_cases q : a + sub.length ≤ hi ∧ subAt s sub a = true
    · rw [if_pos ⟨⟨⟨Nat.succ_pos _, hf a (.head _)⟩, q.1⟩, q.2⟩]
      exact occ_grows s sub hi (lim + 1) l _ (by simp)
    · rw [if_neg (fun r => q ⟨r.1.2, r.2⟩)]
      rcases List.mem_cons.mp hm with rfl | hm
      · exact absurd hc q
      · exact occ_some s sub hi lim l free (fun j hj => hf j (.tail _ hj)) ⟨i, hm, hc⟩
theorem slash_cps : (Str.ofString "/").cps = #[47] ∧ (Str.ofString "/").length = 1 ∧ PySem.Builtin.Str.strKind (Str.ofString "/") = 1 := by decide +kernel
open PySem.Builtin.Str PySem.StrLaws in
theorem split_head {u r : Str} (hu : ∀ c ∈ u.cps.toList, c ≠ 47) (hr : ∀ c ∈ r.cps.toList, c ≠ 47) : (Txt.split (u ++ (Str.ofString "/" ++ r)) (Str.ofString "/")).head? = some u := by
  obtain ⟨s1, s2, s3⟩ := slash_cps
  generalize hs : u ++ (Str.ofString "/" ++ r) = s
  have hsl : s.cps.toList = u.cps.toList ++ 47 :: r.cps.toList := by
    rw [← hs, Str.cps_append, Str.cps_append, s1, Array.toList_append, Array.toList_append]
    rfl
  have hlen : s.length = u.length + 1 + r.length := by
    have := congrArg List.length hsl
    rw [List.length_append, List.length_cons, Array.length_toList, Array.length_toList, Array.length_toList] at this
    exact this.trans (Nat.add_right_comm u.cps.size r.cps.size 1)
  have at_iff : ∀ i, subAt s (Str.ofString "/") i = true ↔ s.cps.toList[i]? = some 47 := fun i => by
    rw [subAt_eq, beq_iff_eq, s1, s2, List.take_one, List.head?_drop]
    cases s.cps.toList[i]? with
    | none => simp
    | some c => simp
  have only : ∀ i, s.cps.toList[i]? = some 47 → i = u.length := fun i h => by
    rw [hsl] at h
    have hul : u.cps.toList.length = u.length := Array.length_toList ..
    rcases Nat.lt_trichotomy i u.length with q | q | q
    · rw [List.getElem?_append_left (by rw [hul]; exact q)] at h
      exact absurd rfl (hu _ (List.mem_of_getElem? h))
    · exact q
    · rw [List.getElem?_append_right (by rw [hul]; exact Nat.le_of_lt q), hul] at h
      obtain ⟨d, hd⟩ : ∃ d, i - u.length = d + 1 := ⟨i - u.length - 1, (Nat.sub_add_cancel (Nat.sub_pos_of_lt q)).symm⟩
      rw [hd] at h
      exact absurd rfl (hr _ (List.mem_of_getElem? h))
  have here : s.cps.toList[u.length]? = some 47 := by
    have hul : u.cps.toList.length = u.length := Array.length_toList ..
    rw [hsl, List.getElem?_append_right (by rw [hul]; exact Nat.le_refl _), hul, Nat.sub_self]
    rfl
  have hne : occurrences s (Str.ofString "/") 0 s.length (s.length + 1) ≠ [] := by
    rw [occ_eq]
    intro e
    refine occ_some s (Str.ofString "/") s.length s.length (List.range' 0 (s.length + 1 - 0)) 0 (fun _ _ => Nat.zero_le _) ⟨u.length, ?_, ?_, (at_iff _).mpr here⟩ ?_
    · rw [List.mem_range'_1, Nat.zero_add, Nat.sub_zero, hlen]; exact ⟨Nat.zero_le _, Nat.lt_succ_of_le (Nat.le_trans (Nat.le_succ _) (Nat.le_add_right _ _))⟩
    · rw [s2, hlen]; exact Nat.le_add_right _ _
    · exact Array.toList_eq_nil_iff.mp e
  obtain ⟨f, hc⟩ := occ_chain s (Str.ofString "/") (s.length + 1)
  unfold Txt.split
  rw [if_neg, if_neg]
  · cases e : occurrences s (Str.ofString "/") 0 s.length (s.length + 1) with
    | nil => exact absurd e hne
    | cons c rest =>
      rw [e] at hc
      have hcu : c = u.length := only c ((at_iff c).mp hc.2.1.2)
      unfold partsBetween
      show some (strSub s 0 c) = some u
      rw [hcu]
      refine congrArg some (str_eq ?_)
      show (s.cps.extract 0 u.length).toList = _
      rw [Array.toList_extract, hsl]
      have hul : u.cps.toList.length = u.length := Array.length_toList ..
      simp [← hul]
  · rw [List.isEmpty_iff]; exact hne
  · rw [Bool.or_eq_true, decide_eq_true_eq, decide_eq_true_eq, s2, s3]
    have hk : 1 ≤ PySem.Builtin.Str.strKind s := by unfold PySem.Builtin.Str.strKind; split <;> (try split) <;> decide
    exact fun q => q.elim (fun q => absurd q (Nat.not_lt.mpr (by rw [hlen, Nat.add_right_comm]; exact Nat.le_add_left 1 _))) (fun q => absurd q (Nat.not_lt.mpr hk))
open PySem.Builtin.Str PySem.StrLaws in
theorem split_none {u : Str} (hu : ∀ c ∈ u.cps.toList, c ≠ 47) : (Txt.split u (Str.ofString "/")).head? = some u := by
  obtain ⟨s1, s2, s3⟩ := slash_cps
  have hno : occurrences u (Str.ofString "/") 0 u.length (u.length + 1) = [] := by
    obtain ⟨f, hc⟩ := occ_chain u (Str.ofString "/") (u.length + 1)
    cases e : occurrences u (Str.ofString "/") 0 u.length (u.length + 1) with
    | nil => rfl
    | cons c rest =>
      rw [e] at hc
      have h := hc.2.1.2
      rw [subAt_eq, beq_iff_eq, s1, s2, List.take_one, List.head?_drop] at h
      cases q : u.cps.toList[c]? with
      | none => rw [q] at h; cases h
      | some d =>
        rw [q] at h
        have : d = 47 := by simpa using h
        exact absurd this (hu d (List.mem_of_getElem? q))
  unfold Txt.split
  rw [hno]
  split
  · rfl
  · rfl
theorem tail_cases (k : Int) : tailS k = Str.ofString "" ∨ ∃ r, tailS k = Str.ofString "/" ++ r ∧ ∀ c ∈ r.cps.toList, c ≠ 47 := by
  have h : ∀ i < 3, [Str.ofString "", Str.ofString "/", Str.ofString "/rwx"].getD i PySem.Str.empty = Str.ofString "" ∨ [Str.ofString "", Str.ofString "/", Str.ofString "/rwx"].getD i PySem.Str.empty = Str.ofString "/" ++ Str.ofString "" ∨ [Str.ofString "", Str.ofString "/", Str.ofString "/rwx"].getD i PySem.Str.empty = Str.ofString "/" ++ Str.ofString "rwx" := by decide +kernel
  have h3 : 0 ≤ k.fmod 3 ∧ k.fmod 3 < 3 := ⟨Int.fmod_nonneg_of_pos _ (by decide), Int.fmod_lt_of_pos _ (by decide)⟩
  rcases h (k.fmod 3).toNat (by omega) with e | e | e
  · exact .inl e
  · exact .inr ⟨_, e, by decide +kernel⟩
  · exact .inr ⟨_, e, by decide +kernel⟩
theorem name_head {x : Str} (h : ∀ c ∈ x.cps.toList, c < 128 ∧ c ≠ 47) (k : Int) : ∃ u, (Txt.split (nameS x k) (Str.ofString "/")).head? = some u ∧ Txt.lower u = smallS x := by
  have h1 : ∀ (i c : Nat), x.cps[i]? = some c → c < 128 := all_cps.mpr fun c hc => (h c hc).1
  have main : ∀ u : Str, (∀ c ∈ u.cps.toList, c ≠ 47) → (Txt.split (u ++ tailS k) (Str.ofString "/")).head? = some u := fun u hu => by
    rcases tail_cases k with e | ⟨r, e, hr⟩
    · rw [e, show u ++ Str.ofString "" = u from str_eq (by rw [Str.cps_append, show (Str.ofString "").cps = #[] by decide +kernel, Array.append_empty])]
      exact split_none hu
    · rw [e]
      exact split_head hu hr
  unfold nameS
  split
  · refine ⟨_, main _ fun c hc => ?_, (lower_upper h1).1⟩
    rw [upper_cps h1] at hc
    obtain ⟨d, hd, rfl⟩ := List.mem_map.mp hc
    exact fun e => (h d hd).2 ((up_small d (h d hd).1).2.2 e)
  · exact ⟨_, main _ fun c hc => (h c hc).2, lower_ascii h1⟩
end
section
theorem ba2 (x y : Int) : Builtin.bitAnd x (2 * y) = 2 * Builtin.bitAnd (x / 2) y := by
  rw [kbt_halves, show 2 * y / 2 = y by omega, if_neg (by omega), Int.add_zero]
theorem ba1 (x y : Int) : Builtin.bitAnd x (2 * y + 1) = 2 * Builtin.bitAnd (x / 2) y + x % 2 := by
  rw [kbt_halves, show (2 * y + 1) / 2 = y by omega]
  split <;> omega
theorem bit_is (x : Int) (k : Nat) : Builtin.bitAnd x (2 ^ k) = 2 ^ k ↔ x / 2 ^ k % 2 = 1 := by
  rw [kbt_bit]
  have h : (0 : Int) < 2 ^ k := Int.pow_pos (by decide)
  rcases Int.emod_two_eq (x / 2 ^ k) with e | e <;> rw [e]
  · rw [Int.zero_mul]; exact ⟨fun q => absurd q (Int.ne_of_lt h), fun q => absurd q (by decide)⟩
  · rw [Int.one_mul]; exact ⟨fun _ => rfl, fun _ => rfl⟩
theorem ba_pow (y : Int) : ∀ (k : Nat) (x : Int), Builtin.bitAnd x (2 ^ k * y) = 2 ^ k * Builtin.bitAnd (x / 2 ^ k) y
  | 0, x => by rw [Int.pow_zero, Int.one_mul, Int.one_mul, Int.ediv_one]
  | k + 1, x => by
    rw [show (2 : Int) ^ (k + 1) = 2 * 2 ^ k by rw [Int.pow_succ, Int.mul_comm], Int.mul_assoc, ba2, ba_pow y k, Int.mul_assoc, Int.ediv_ediv_of_nonneg (by decide)]
theorem two_bits (p q m n : Int) (hp : p = 0 ∨ p = 1) (hq : q = 0 ∨ q = 1) (hm : 0 < m) (hn : 0 < n) : (m * (2 * (q * n) + p) = m * (2 * n + 1)) ↔ p = 1 ∧ q = 1 := by
  constructor
  · intro h
    have h := Int.eq_of_mul_eq_mul_left (Int.ne_of_gt hm) h
    rcases hp with rfl | rfl <;> rcases hq with rfl | rfl
    · omega
    · omega
    · omega
    · exact ⟨rfl, rfl⟩
  · rintro ⟨rfl, rfl⟩
    rw [Int.one_mul]
theorem bits2 (x : Int) (k j : Nat) {v d e : Int} (hv : 2 ^ k * (2 * 2 ^ j + 1) = v) (hd : (2 : Int) ^ k = d) (he : d * (2 * 2 ^ j) = e) : Builtin.bitAnd x v = v ↔ x / d % 2 = 1 ∧ x / e % 2 = 1 := by
  subst hv hd he
  have h2 : ∀ n : Nat, (0 : Int) < 2 ^ n := fun n => Int.pow_pos (by decide)
  rw [ba_pow, ba1, kbt_bit, Int.ediv_ediv_of_nonneg (by decide), Int.ediv_ediv_of_nonneg (Int.le_of_lt (h2 k)), two_bits _ _ _ _ (Int.emod_two_eq _) (Int.emod_two_eq _) (h2 k) (h2 j)]
theorem b2112 (x : Int) : Builtin.bitAnd x 2112 = 2112 ↔ x / 64 % 2 = 1 ∧ x / 2048 % 2 = 1 := bits2 x 6 4 (by decide) (by decide) (by decide)
theorem b1032 (x : Int) : Builtin.bitAnd x 1032 = 1032 ↔ x / 8 % 2 = 1 ∧ x / 1024 % 2 = 1 := bits2 x 3 6 (by decide) (by decide) (by decide)
theorem b513 (x : Int) : Builtin.bitAnd x 513 = 513 ↔ x / 1 % 2 = 1 ∧ x / 512 % 2 = 1 := bits2 x 0 8 (by decide) (by decide) (by decide)
theorem fig_r (a : Int) : a / 4 % 2 = 1 ↔ 3 < a % 8 := by omega
theorem fig_w (a : Int) : a / 2 % 2 = 1 ↔ 1 < a % 8 % 4 := by omega
theorem fig_x (a : Int) : a % 2 = 1 ↔ a % 8 % 2 = 1 := by omega
theorem dd (x : Int) {a b c : Int} (h : a * b = c) (ha : 0 ≤ a) : x / c = x / a / b := by rw [← h, Int.ediv_ediv_of_nonneg ha]
theorem sign_one {i : Nat} (hi : i ≠ 0) (md b : Int) (c : Str) : signS i md [(b, c)] = if Builtin.bitAnd md b = b then c else Str.ofString "-" := by
  unfold signS hitS
  rw [List.find?_cons, List.find?_nil, if_neg hi, if_neg hi]
  by_cases h : Builtin.bitAnd md b = b
  · rw [if_pos h, decide_eq_true h]
  · rw [if_neg h, decide_eq_false h]
theorem sign_three {i : Nat} (hi : i ≠ 0) (md b1 b2 b3 : Int) (c1 c2 c3 : Str) : signS i md [(b1, c1), (b2, c2), (b3, c3)] = if Builtin.bitAnd md b1 = b1 then c1 else if Builtin.bitAnd md b2 = b2 then c2 else if Builtin.bitAnd md b3 = b3 then c3 else Str.ofString "-" := by
  unfold signS hitS
  simp only [List.find?_cons, List.find?_nil, if_neg hi]
  by_cases h1 : Builtin.bitAnd md b1 = b1
  · rw [if_pos h1, decide_eq_true h1]
  · rw [if_neg h1, decide_eq_false h1]
    by_cases h2 : Builtin.bitAnd md b2 = b2
    · rw [if_pos h2, decide_eq_true h2]
    · rw [if_neg h2, decide_eq_false h2]
      by_cases h3 : Builtin.bitAnd md b3 = b3
      · rw [if_pos h3, decide_eq_true h3]
      · rw [if_neg h3, decide_eq_false h3]
theorem b61440 (x : Int) : Builtin.bitAnd x 61440 = x / 4096 % 16 * 4096 := by
  rw [show (61440 : Int) = 2 ^ 12 * (2 ^ 4 - 1) by decide, ba_pow, kbt_mask, show (2 : Int) ^ 12 = 4096 by decide, show (2 : Int) ^ 4 = 16 by decide, Int.mul_comm]
theorem kind_sign (a : Int) (h0 : 0 ≤ a) (h1 : a < 16) : signS 0 (a * 4096) (fmTab.getD 0 []) = Txt.item (Str.ofString "?pc?d?b?-?l?s???") a := by
  have key : ∀ n : Nat, n < 16 → signS 0 ((n : Int) * 4096) (fmTab.getD 0 []) = Txt.item (Str.ofString "?pc?d?b?-?l?s???") (n : Int) := by decide +kernel
  have := key a.toNat (by omega)
  rwa [Int.toNat_of_nonneg h0] at this
theorem sign0_eq (md : Int) : signS 0 md (fmTab.getD 0 []) = Txt.item (Str.ofString "?pc?d?b?-?l?s???") ((md.fdiv 4096).fmod 16) := by
  have e : signS 0 md (fmTab.getD 0 []) = signS 0 (md / 4096 % 16 * 4096) (fmTab.getD 0 []) := by
    have : hitS 0 md = hitS 0 (md / 4096 % 16 * 4096) := by
      funext p
      unfold hitS
      rw [if_pos rfl, if_pos rfl, b61440, b61440, show md / 4096 % 16 * 4096 / 4096 % 16 = md / 4096 % 16 by omega]
    unfold signS
    rw [this]
  rw [e, kind_sign _ (by omega) (by omega), Int.fdiv_eq_ediv_of_nonneg _ (by decide), Int.fmod_eq_emod_of_nonneg _ (by decide)]
theorem fig_is (md : Int) : figS md 0 = md / 64 % 8 ∧ figS md 1 = md / 8 % 8 ∧ figS md 2 = md % 8 ∧ abvS md 0 = md / 2048 % 2 ∧ abvS md 1 = md / 1024 % 2 ∧ abvS md 2 = md / 512 % 2 := by
  have d : ∀ (a b : Int), 0 ≤ b → a.fdiv b = a / b := fun a b h => Int.fdiv_eq_ediv_of_nonneg a h
  have m : ∀ (a b : Int), 0 ≤ b → a.fmod b = a % b := fun a b h => Int.fmod_eq_emod_of_nonneg a h
  unfold figS abvS
  refine ⟨?_, ?_, ?_, ?_, ?_, ?_⟩ <;> simp [d, m]
theorem ups : Txt.upper (Str.ofString "s") = Str.ofString "S" ∧ Txt.upper (Str.ofString "t") = Str.ofString "T" := by decide +kernel
theorem ite_same {α : Type} {p q : Prop} [Decidable p] [Decidable q] {a b : α} (h : p ↔ q) : (if p then a else b) = if q then a else b := by
  by_cases hp : p
  · rw [if_pos hp, if_pos (h.mp hp)]
  · rw [if_neg hp, if_neg fun q => hp (h.mpr q)]
theorem three_same {α : Type} {p1 p2 p3 q1 q2 : Prop} {b : Bool} [Decidable p1] [Decidable p2] [Decidable p3] [Decidable q1] [Decidable q2] {a1 a2 a3 a4 : α} (h1 : p1 ↔ q1 ∧ q2) (h2 : p2 ↔ q1) (h3 : p3 ↔ q2) (hb : b = true ↔ q2) :
    (if p1 then a1 else if p2 then a2 else if p3 then a3 else a4) = if q1 then (if q2 then a1 else a2) else (if b = true then a3 else a4) := by
  by_cases x1 : q1 <;> by_cases x2 : q2
  · rw [if_pos (h1.mpr ⟨x1, x2⟩), if_pos x1, if_pos x2]
  · rw [if_neg (fun q => x2 (h1.mp q).2), if_pos (h2.mpr x1), if_pos x1, if_neg x2]
  · rw [if_neg (fun q => x1 (h1.mp q).1), if_neg (fun q => x1 (h2.mp q)), if_pos (h3.mpr x2), if_neg x1, if_pos (hb.mpr x2)]
  · rw [if_neg (fun q => x1 (h1.mp q).1), if_neg (fun q => x1 (h2.mp q)), if_neg (fun q => x2 (h3.mp q)), if_neg x1, if_neg (fun q => x2 (hb.mp q))]
theorem bitk (x : Int) (k : Nat) (b : Int) (h : (2 : Int) ^ k = b) : Builtin.bitAnd x b = b ↔ x / b % 2 = 1 := by subst h; exact bit_is x k
theorem fm_text (md : Int) : fmS md = textS md 3 := by
  obtain ⟨f0, f1, f2, a0, a1, a2⟩ := fig_is md
  have m2 : ∀ a : Int, a.fmod 2 = a % 2 := fun a => Int.fmod_eq_emod_of_nonneg a (by decide)
  have m4 : ∀ a : Int, a.fmod 4 = a % 4 := fun a => Int.fmod_eq_emod_of_nonneg a (by decide)
  have bt : ∀ a : Int, (a == 1) = true ↔ a = 1 := fun a => beq_iff_eq
  have e1 : signS 1 md [(256, Str.ofString "r")] = if decide (3 < figS md 0) = true then Str.ofString "r" else Str.ofString "-" := by
    rw [sign_one (by decide)]
    exact ite_same ((bitk md 8 256 (by decide)).trans (by rw [f0, decide_eq_true_eq, dd md (a := 64) (b := 4) (by decide) (by decide)]; exact fig_r _))
  have e2 : signS 2 md [(128, Str.ofString "w")] = if decide (1 < (figS md 0).fmod 4) = true then Str.ofString "w" else Str.ofString "-" := by
    rw [sign_one (by decide)]
    exact ite_same ((bitk md 7 128 (by decide)).trans (by rw [f0, m4, decide_eq_true_eq, dd md (a := 64) (b := 2) (by decide) (by decide)]; exact fig_w _))
  have e3 : signS 3 md [(2112, Str.ofString "s"), (2048, Str.ofString "S"), (64, Str.ofString "x")] = if abvS md 0 = 1 then (if (figS md 0).fmod 2 = 1 then sgnS 0 else Txt.upper (sgnS 0)) else (if ((figS md 0).fmod 2 == 1) = true then Str.ofString "x" else Str.ofString "-") := by
    rw [sign_three (by decide), show sgnS 0 = Str.ofString "s" from rfl, ups.1]
    exact three_same ((b2112 md).trans (by rw [a0, f0, m2, ← fig_x]; exact and_comm)) ((bitk md 11 2048 (by decide)).trans (by rw [a0])) ((bitk md 6 64 (by decide)).trans (by rw [f0, m2]; exact fig_x _)) (bt _)
  have e4 : signS 4 md [(32, Str.ofString "r")] = if decide (3 < figS md 1) = true then Str.ofString "r" else Str.ofString "-" := by
    rw [sign_one (by decide)]
    exact ite_same ((bitk md 5 32 (by decide)).trans (by rw [f1, decide_eq_true_eq, dd md (a := 8) (b := 4) (by decide) (by decide)]; exact fig_r _))
  have e5 : signS 5 md [(16, Str.ofString "w")] = if decide (1 < (figS md 1).fmod 4) = true then Str.ofString "w" else Str.ofString "-" := by
    rw [sign_one (by decide)]
    exact ite_same ((bitk md 4 16 (by decide)).trans (by rw [f1, m4, decide_eq_true_eq, dd md (a := 8) (b := 2) (by decide) (by decide)]; exact fig_w _))
  have e6 : signS 6 md [(1032, Str.ofString "s"), (1024, Str.ofString "S"), (8, Str.ofString "x")] = if abvS md 1 = 1 then (if (figS md 1).fmod 2 = 1 then sgnS 1 else Txt.upper (sgnS 1)) else (if ((figS md 1).fmod 2 == 1) = true then Str.ofString "x" else Str.ofString "-") := by
    rw [sign_three (by decide), show sgnS 1 = Str.ofString "s" from rfl, ups.1]
    exact three_same ((b1032 md).trans (by rw [a1, f1, m2, ← fig_x]; exact and_comm)) ((bitk md 10 1024 (by decide)).trans (by rw [a1])) ((bitk md 3 8 (by decide)).trans (by rw [f1, m2]; exact fig_x _)) (bt _)
  have e7 : signS 7 md [(4, Str.ofString "r")] = if decide (3 < figS md 2) = true then Str.ofString "r" else Str.ofString "-" := by
    rw [sign_one (by decide)]
    exact ite_same ((bitk md 2 4 (by decide)).trans (by rw [f2, decide_eq_true_eq]; exact fig_r _))
  have e8 : signS 8 md [(2, Str.ofString "w")] = if decide (1 < (figS md 2).fmod 4) = true then Str.ofString "w" else Str.ofString "-" := by
    rw [sign_one (by decide)]
    exact ite_same ((bitk md 1 2 (by decide)).trans (by rw [f2, m4, decide_eq_true_eq]; exact fig_w _))
  have e9 : signS 9 md [(513, Str.ofString "t"), (512, Str.ofString "T"), (1, Str.ofString "x")] = if abvS md 2 = 1 then (if (figS md 2).fmod 2 = 1 then sgnS 2 else Txt.upper (sgnS 2)) else (if ((figS md 2).fmod 2 == 1) = true then Str.ofString "x" else Str.ofString "-") := by
    rw [sign_three (by decide), show sgnS 2 = Str.ofString "t" from rfl, ups.2]
    exact three_same ((b513 md).trans (by rw [a2, f2, m2, ← fig_x, Int.ediv_one]; exact and_comm)) ((bitk md 9 512 (by decide)).trans (by rw [a2])) ((bitk md 0 1 (by decide)).trans (by rw [f2, m2, Int.ediv_one]; exact fig_x _)) (bt _)
  refine str_eq ?_
  unfold fmS
  rw [join_empty, show signsS md 10 = [signS 0 md (fmTab.getD 0 []), signS 1 md [(256, Str.ofString "r")], signS 2 md [(128, Str.ofString "w")], signS 3 md [(2112, Str.ofString "s"), (2048, Str.ofString "S"), (64, Str.ofString "x")],
    signS 4 md [(32, Str.ofString "r")], signS 5 md [(16, Str.ofString "w")], signS 6 md [(1032, Str.ofString "s"), (1024, Str.ofString "S"), (8, Str.ofString "x")], signS 7 md [(4, Str.ofString "r")], signS 8 md [(2, Str.ofString "w")], signS 9 md [(513, Str.ofString "t"), (512, Str.ofString "T"), (1, Str.ofString "x")]] from rfl,
    sign0_eq, e1, e2, e3, e4, e5, e6, e7, e8, e9]
  unfold textS turnS textS turnS textS turnS textS
  simp only [List.map_cons, List.map_nil, List.flatten_cons, List.flatten_nil, Str.cps_append, Array.toList_append, List.append_assoc, List.append_nil]
end
section
abbrev Md := Int × Int × Int × Int
def mdI (q : Md) : Int := Builtin.bitOr (Builtin.bitAnd q.1 61440) (Builtin.bitAnd q.2.1 4095)
def mdL (q : Md) : Int := (q.1.fdiv 4096).fmod 16 * 4096 + q.2.1.fmod 4096
def txF (q : Md) : Str := fmS (mdI q)
def txL (q : Md) : Str := textS (mdL q) 3
def SignC (c : Nat) : Prop := c ∈ [63, 112, 99, 100, 98, 45, 108, 115, 114, 119, 120, 83, 116, 84]
theorem and_low {r A : Int} (h0 : 0 ≤ r) (h1 : r < 4096) : Builtin.bitAnd r (A * 4096) = 0 := by
  rw [Int.mul_comm, show (4096 : Int) = 2 ^ 12 by decide, ba_pow, show r / 2 ^ 12 = 0 from Int.ediv_eq_zero_of_lt h0 h1, bitAnd_comm, bitAnd_zero]
  rfl
theorem tx_eq {q : Md} (_h : ModeOk q) : txF q = txL q := by
  unfold txF txL
  rw [fm_text]
  congr 1
  unfold mdI mdL
  rw [b61440, show (4095 : Int) = 2 ^ 12 - 1 from rfl, kbt_mask, bitOr_and, bitAnd_comm, show (2 : Int) ^ 12 = 4096 from rfl, and_low (by omega) (by omega), Int.fdiv_eq_ediv_of_nonneg _ (by decide), Int.fmod_eq_emod_of_nonneg _ (by decide), Int.fmod_eq_emod_of_nonneg _ (by decide), Int.sub_zero]
theorem item_sign (a : Int) (h0 : 0 ≤ a) (h1 : a < 16) : (Txt.item (Str.ofString "?pc?d?b?-?l?s???") a).length = 1 ∧ ∀ c ∈ (Txt.item (Str.ofString "?pc?d?b?-?l?s???") a).cps.toList, SignC c := by
  have key : ∀ n : Nat, n < 16 → (Txt.item (Str.ofString "?pc?d?b?-?l?s???") (n : Int)).length = 1 ∧ ∀ c ∈ (Txt.item (Str.ofString "?pc?d?b?-?l?s???") (n : Int)).cps.toList, c ∈ [63, 112, 99, 100, 98, 45, 108, 115, 114, 119, 120, 83, 116, 84] := by decide +kernel
  have := key a.toNat (by omega)
  rwa [Int.toNat_of_nonneg h0] at this
theorem lit_sign : (∀ c ∈ (Str.ofString "r").cps.toList, SignC c) ∧ (∀ c ∈ (Str.ofString "w").cps.toList, SignC c) ∧ (∀ c ∈ (Str.ofString "-").cps.toList, SignC c) ∧ (∀ c ∈ (Str.ofString "x").cps.toList, SignC c) ∧ (∀ c ∈ (Str.ofString "s").cps.toList, SignC c) ∧ (∀ c ∈ (Str.ofString "S").cps.toList, SignC c) ∧ (∀ c ∈ (Str.ofString "t").cps.toList, SignC c) ∧ ∀ c ∈ (Str.ofString "T").cps.toList, SignC c := by
  unfold SignC
  decide +kernel
theorem turn_sign {md : Int} {i : Nat} {tx : Str} (h : ∀ c ∈ tx.cps.toList, SignC c) : ∀ c ∈ (turnS md i tx).cps.toList, SignC c := by
  obtain ⟨l1, l2, l3, l4, l5, l6, l7, l8⟩ := lit_sign
  have app : ∀ {a b : Str}, (∀ c ∈ a.cps.toList, SignC c) → (∀ c ∈ b.cps.toList, SignC c) → ∀ c ∈ (a ++ b).cps.toList, SignC c := fun ha hb c hc => by
    rw [Str.cps_append, Array.toList_append] at hc
    rcases List.mem_append.mp hc with hc | hc
    · exact ha c hc
    · exact hb c hc
  have sg : ∀ c ∈ (sgnS i).cps.toList, SignC c := by unfold sgnS; split <;> assumption
  have su : ∀ c ∈ (Txt.upper (sgnS i)).cps.toList, SignC c := by
    unfold sgnS
    split
    · rw [ups.2]; exact l8
    · rw [ups.1]; exact l6
  unfold turnS
  refine app (app (app h ?_) ?_) ?_
  · split <;> assumption
  · split <;> assumption
  · split
    · split <;> assumption
    · split <;> assumption
theorem tx_ok (q : Md) : (txL q).length = 10 ∧ ∀ (i c : Nat), (txL q).cps[i]? = some c → SignC c := by
  have h0 := item_sign (((mdL q).fdiv 4096).fmod 16) (Int.fmod_nonneg_of_pos _ (by decide)) (Int.fmod_lt_of_pos _ (by decide))
  refine ⟨?_, all_cps.mpr ?_⟩
  · show (turnS _ 2 (turnS _ 1 (turnS _ 0 _))).length = 10
    rw [turnS_len, turnS_len, turnS_len, show (textS (mdL q) 0).length = 1 from h0.1]
  · exact turn_sign (turn_sign (turn_sign h0.2))
theorem sign_lt {c : Nat} (h : SignC c) : c < 128 ∧ c ≠ 42 ∧ c ≠ 47 :=
  (by decide : ∀ c ∈ [63, 112, 99, 100, 98, 45, 108, 115, 114, 119, 120, 83, 116, 84], c < 128 ∧ c ≠ 42 ∧ c ≠ 47) c h
theorem tx_lt (q : Md) : ∀ (i c : Nat), (txL q).cps[i]? = some c → c < 128 := fun i c h => (sign_lt ((tx_ok q).2 i c h)).1
def wordL (q : Md) : Str := Txt.slice (txL q) (some q.2.2.1) (some q.2.2.2)
theorem slice_sub (x : Str) (l u : Option Int) : ∀ c ∈ (Txt.slice x l u).cps.toList, c ∈ x.cps.toList := fun c hc => by
  unfold Txt.slice at hc
  split at hc
  · exact hc
  · obtain ⟨i, _, hi⟩ := List.mem_filterMap.mp (show c ∈ List.filterMap _ _ from hc)
    exact List.mem_of_getElem? (by rw [Array.getElem?_toList]; exact hi)
theorem sz_nat {b e : Nat} (hb : b ≤ 8) : min (min e 10 - min b 10) (10 - min b 10) = min e 10 - b := by
  rw [Nat.min_eq_left (Nat.le_trans hb (by decide) : b ≤ 10)]
  exact Nat.min_eq_left (Nat.sub_le_sub_right (Nat.min_le_right e 10) b)
theorem word_size {q : Md} (h : ModeOk q) : (wordL q).length = min q.2.2.2.toNat 10 - q.2.2.1.toNat := by
  obtain ⟨_, _, h1, h2, h3, h4⟩ := h
  have e := slice_nat (txL q) q.2.2.1.toNat q.2.2.2.toNat
  rw [Int.toNat_of_nonneg h1, Int.toNat_of_nonneg (Int.le_of_lt (Int.lt_of_le_of_lt h1 h3)), (tx_ok q).1] at e
  have := congrArg List.length e
  rw [Array.length_toList, List.length_take, List.length_drop, Array.length_toList, show (txL q).cps.size = 10 from (tx_ok q).1] at this
  exact this.trans (sz_nat (Int.toNat_le.mpr h2))
theorem word_len {q : Md} (h : ModeOk q) : (wordL q).length ≤ 5 := by
  rw [word_size h]
  obtain ⟨_, _, h1, h2, h3, h4⟩ := h
  have h9 : q.2.2.2.toNat ≤ 5 + q.2.2.1.toNat := Int.toNat_le.mpr (by rw [Int.natCast_add, Int.toNat_of_nonneg h1, Int.add_comm]; exact h4)
  exact Nat.sub_le_iff_le_add.mpr (Nat.le_trans (Nat.min_le_left ..) h9)
theorem word_pos {q : Md} (h : ModeOk q) : 0 < (wordL q).length := by
  rw [word_size h]
  obtain ⟨_, _, h1, h2, h3, h4⟩ := h
  exact Nat.sub_pos_of_lt (Nat.lt_min.mpr ⟨(Int.toNat_lt_toNat (Int.lt_of_le_of_lt h1 h3)).mpr h3, Nat.lt_of_le_of_lt (Int.toNat_le.mpr h2 : _ ≤ 8) (by decide)⟩)
theorem word_sign (q : Md) : ∀ (i c : Nat), (wordL q).cps[i]? = some c → SignC c := all_cps.mpr fun c hc => all_cps.mp (tx_ok q).2 c (slice_sub _ _ _ c hc)
theorem word_small (q : Md) : ∀ c ∈ (wordL q).cps.toList, c < 128 ∧ c ≠ 47 := fun c hc => by
  have := sign_lt (all_cps.mp (word_sign q) c hc)
  exact ⟨this.1, this.2.2⟩
theorem name_len {q : Md} (h : ModeOk q) (k : Int) : (nameS (wordL q) k).length ≤ 100 := by
  have h3 : 0 ≤ k.fmod 3 ∧ k.fmod 3 < 3 := ⟨Int.fmod_nonneg_of_pos _ (by decide), Int.fmod_lt_of_pos _ (by decide)⟩
  have h4 : (tailS k).length ≤ 4 := tails_len (k.fmod 3).toNat (by omega)
  have h5 := word_len h
  have h6 : (Txt.upper (wordL q)).length = (wordL q).length := by
    have := congrArg List.length (upper_cps (all_cps.mpr fun c hc => (word_small q c hc).1))
    rwa [List.length_map, Array.length_toList, Array.length_toList] at this
  unfold nameS
  rw [Str.length_append]
  split
  · omega
  · omega
def namesL (ws : List Str) : List Str := (List.range ws.length).map fun k => nameS (wd ws k) k
theorem app_eq {ws : List Str} (hs : ∀ x ∈ ws, ∀ (i c : Nat), x.cps[i]? = some c → SignC c) {j k : Nat} (hj : j < ws.length) (hk : k < ws.length) :
    appS ws (namesL ws) j k = withS (wd (ws.map smallS) j) (wd (ws.map smallS) k) := by
  have hx : ∀ i, i < ws.length → ∀ c ∈ (wd ws i).cps.toList, SignC c := fun i hi => all_cps.mp (hs _ (by
    unfold wd
    rw [List.getD_eq_getElem?_getD, List.getElem?_eq_getElem hi]
    exact List.getElem_mem hi))
  have sm : ∀ i, i < ws.length → wd (ws.map smallS) i = smallS (wd ws i) := fun i hi => by
    unfold wd
    rw [List.getD_eq_getElem?_getD, List.getD_eq_getElem?_getD, List.getElem?_map, List.getElem?_eq_getElem hi]
    rfl
  obtain ⟨u, e1, e2⟩ := name_head (x := wd ws k) (fun c hc => by
    have := sign_lt (hx k hk c hc)
    exact ⟨this.1, this.2.2⟩) k
  have hn : (namesL ws).getD k (Str.ofString "") = nameS (wd ws k) k := by
    unfold namesL
    rw [List.getD_eq_getElem?_getD, List.getElem?_map, List.getElem?_range hk]
    rfl
  unfold appS
  rw [hn, e1]
  show [Str.ofString "*", wd ws j].any (hitA u) = _
  have hne : (wd ws j != Str.ofString "*") = true := bne_iff_ne.mpr fun e => by
    have := hx j hj 42 (by rw [e]; decide +kernel)
    exact (sign_lt this).2.1 rfl
  rw [List.any_cons, List.any_cons, List.any_nil, Bool.or_false]
  unfold hitA
  rw [bne_self_eq_false, Bool.false_and, Bool.false_or, hne, Bool.true_and, e2, lower_ascii (all_cps.mpr fun c hc => (sign_lt (hx j hj c hc)).1), sm j hj, sm k hk, with_contains]
theorem maxL_ge {l : List Int} : 0 ≤ maxL l ∧ (∀ a ∈ l, a ≤ maxL l) ∧ (maxL l = 0 ∨ maxL l ∈ l) := by
  unfold maxL
  suffices key : ∀ (l : List Int) (b : Int), b ≤ l.foldl max b ∧ (∀ a ∈ l, a ≤ l.foldl max b) ∧ (l.foldl max b = b ∨ l.foldl max b ∈ l) from key l 0
  intro l
  induction l with
  | nil => exact fun b => ⟨Int.le_refl _, (fun a h => by cases h), .inl rfl⟩
  | cons a r ih =>
    intro b
    obtain ⟨q1, q2, q3⟩ := ih (max b a)
    rw [List.foldl_cons]
    refine ⟨by omega, fun x hx => ?_, ?_⟩
    · rcases List.mem_cons.mp hx with rfl | hx
      · omega
      · exact q2 x hx
    · rcases q3 with q3 | q3
      · rcases Int.le_total a b with h | h
        · exact .inl (q3.trans (Int.max_eq_left h))
        · exact .inr (by rw [q3, Int.max_eq_right h]; exact .head _)
      · exact .inr (.tail _ q3)
theorem wd_small {ws : List Str} {k : Nat} (hk : k < ws.length) : (wd (ws.map smallS) k).length = (wd ws k).length := by
  unfold wd
  rw [List.getD_eq_getElem?_getD, List.getD_eq_getElem?_getD, List.getElem?_map, List.getElem?_eq_getElem hk]
  exact small_len _
theorem wd_mem {ws : List Str} {k : Nat} (hk : k < ws.length) : wd ws k ∈ ws := by
  unfold wd
  rw [List.getD_eq_getElem?_getD, List.getElem?_eq_getElem hk]
  exact List.getElem_mem hk
theorem mem_dueIn {ws : List Str} {hs : List Int} {z k n : Nat} {a : Int} : a ∈ dueIn ws hs z k n ↔ ∃ j, j < n ∧ (wd ws j).length < z ∧ withS (wd ws j) (wd ws k) = true ∧ hs.getD j 0 = a := by
  unfold dueIn
  rw [List.mem_map]
  constructor
  · rintro ⟨j, hj, e⟩
    obtain ⟨h1, h2⟩ := List.mem_filter.mp hj
    rw [Bool.and_eq_true, decide_eq_true_eq] at h2
    exact ⟨j, List.mem_range.mp h1, h2.1, h2.2, e⟩
  · rintro ⟨j, h1, h2, h3, e⟩
    exact ⟨j, List.mem_filter.mpr ⟨List.mem_range.mpr h1, by rw [Bool.and_eq_true, decide_eq_true_eq]; exact ⟨h2, h3⟩⟩, e⟩
theorem due_hok {sm : List Str} {pr : Int → List Int} (hl : ∀ k, k < sm.length → 0 < (wd sm k).length ∧ (wd sm k).length ≤ 5)
    (hpr : ∀ k : Nat, k < sm.length → ∀ j : Int, j ∈ pr k ↔ 0 ≤ j ∧ j < (sm.length : Int) ∧ j ≠ k ∧ withS (wd sm j.toNat) (wd sm k) = true) :
    HOk sm.length pr fun k => (dueSt sm 5).2.getD k.toNat 0 where
  cl := fun k h0 h1 p hp => by
    have e : ((k.toNat : Nat) : Int) = k := Int.toNat_of_nonneg h0
    have := (hpr k.toNat (by omega) p).mp (by rw [e]; exact hp)
    exact ⟨this.1, this.2.1⟩
  at' := fun k h0 h1 => by
    obtain ⟨i, rfl⟩ : ∃ i : Nat, k = (i : Int) := ⟨k.toNat, (Int.toNat_of_nonneg h0).symm⟩
    have hi : i < sm.length := by omega
    simp only [Int.toNat_natCast]
    have hv : ∀ j, j < sm.length → (dueSt sm 5).2.getD j 0 = dueV sm (dueSt sm 5).2 (wd sm j).length j := fun j hj => dueH_eq hj (hl j hj).1 (hl j hj).2
    have hcase : ∀ j, j < sm.length → (dueSt sm 5).2.getD j 0 = -1 ∨ 1 ≤ (dueSt sm 5).2.getD j 0 := fun j hj => by
      rw [hv j hj]
      unfold dueV
      split
      · have := (maxL_ge (l := dueIn sm (dueSt sm 5).2 (wd sm j).length j sm.length)).1
        omega
      · exact .inl rfl
    by_cases c : sm.count (wd sm i) = 1
    · by_cases m : (-1 : Int) ∈ dueIn sm (dueSt sm 5).2 (wd sm i).length i sm.length
      · left
        refine ⟨by rw [hv i hi]; unfold dueV; rw [if_neg fun q => q.2 m], ?_⟩
        obtain ⟨j, h1, h2, h3, e⟩ := mem_dueIn.mp m
        exact ⟨(j : Int), (hpr i hi j).mpr ⟨Int.natCast_nonneg _, by omega, fun q => by
          have : j = i := by omega
          subst this; omega, h3⟩, by rw [Int.toNat_natCast]; exact e⟩
      · right
        have hk : (dueSt sm 5).2.getD i 0 = 1 + maxL (dueIn sm (dueSt sm 5).2 (wd sm i).length i sm.length) := by
          rw [hv i hi]; unfold dueV; rw [if_pos ⟨c, m⟩]
        obtain ⟨g1, g2, g3⟩ := maxL_ge (l := dueIn sm (dueSt sm 5).2 (wd sm i).length i sm.length)
        rw [hk]
        refine ⟨by omega, fun p hp => ?_, ?_⟩
        · obtain ⟨p0, p1, p2, p3⟩ := (hpr i hi p).mp hp
          have hpn : p.toNat < sm.length := by omega
          have hlt : (wd sm p.toNat).length < (wd sm i).length := by
            refine Nat.lt_of_le_of_ne (with_len p3) fun e => ?_
            have := (count_two hi).mpr ⟨p.toNat, hpn, by omega, with_same p3 e⟩
            omega
          have hm : (dueSt sm 5).2.getD p.toNat 0 ∈ dueIn sm (dueSt sm 5).2 (wd sm i).length i sm.length := mem_dueIn.mpr ⟨p.toNat, hpn, hlt, p3, rfl⟩
          have := g2 _ hm
          rcases hcase p.toNat hpn with e | e
          · rw [e] at hm; exact absurd hm m
          · exact ⟨e, by omega⟩
        · rcases g3 with g3 | g3
          · left; omega
          · right
            obtain ⟨j, h1, h2, h3, e⟩ := mem_dueIn.mp g3
            exact ⟨(j : Int), (hpr i hi j).mpr ⟨Int.natCast_nonneg _, by omega, fun q => by
              have : j = i := by omega
              subst this; omega, h3⟩, by rw [Int.toNat_natCast, e]; omega⟩
    · left
      have hc2 : 1 < sm.count (wd sm i) := by
        have := count_pos hi
        omega
      obtain ⟨j, hj, hne, he⟩ := (count_two hi).mp hc2
      refine ⟨by rw [hv i hi]; unfold dueV; rw [if_neg fun q => c q.1], (j : Int), (hpr i hi j).mpr ⟨Int.natCast_nonneg _, by omega, by omega, by rw [Int.toNat_natCast, he]; exact with_refl _⟩, ?_⟩
      rw [Int.toNat_natCast, hv j hj]
      unfold dueV
      rw [if_neg fun q => c (by rw [← he]; exact q.1)]
theorem pre_mem {ws : List Str} (hs : ∀ x ∈ ws, ∀ (i c : Nat), x.cps[i]? = some c → SignC c) {k : Nat} (hk : k < ws.length) {j : Int} :
    j ∈ preS ws (namesL ws) k ↔ 0 ≤ j ∧ j < (ws.length : Int) ∧ j ≠ k ∧ withS (wd (ws.map smallS) j.toNat) (wd (ws.map smallS) k) = true := by
  unfold preS
  rw [List.mem_filter, mem_rng, Bool.and_eq_true, decide_eq_true_eq, Int.toNat_natCast]
  constructor
  · rintro ⟨⟨a, b⟩, c, d⟩
    rw [app_eq hs (by omega) hk] at d
    exact ⟨a, b, c, d⟩
  · rintro ⟨a, b, c, d⟩
    rw [app_eq hs (by omega) hk]
    exact ⟨⟨a, b⟩, c, d⟩
theorem due_run {ws : List Str} (hs : ∀ x ∈ ws, ∀ (i c : Nat), x.cps[i]? = some c → SignC c) (hl : ∀ x ∈ ws, 0 < x.length ∧ x.length ≤ 5) {ring : Bool} {rounds : List (List Int)} (hrun : RunOk ws.length (preS ws (namesL ws)) rounds)
    (h1 : ring = true → ∃ v, Rch (suN ws.length (preS ws (namesL ws))) v v) (h2 : ring = false → ∀ k, 0 ≤ k → k < (ws.length : Int) → ¬ Rch (suN ws.length (preS ws (namesL ws))) k k) :
    (dueSt (ws.map smallS) 5).1 = ring ∧ dueRows (dueSt (ws.map smallS) 5).2 = rounds := by
  have hsl : (ws.map smallS).length = ws.length := List.length_map ..
  have hl' : ∀ k, k < (ws.map smallS).length → 0 < (wd (ws.map smallS) k).length ∧ (wd (ws.map smallS) k).length ≤ 5 := fun k hk => by
    rw [hsl] at hk
    rw [wd_small hk]
    exact hl _ (wd_mem hk)
  have hpr := fun (k : Nat) (hk : k < ws.length) (j : Int) => pre_mem hs hk (j := j)
  have hok := due_hok (pr := preS ws (namesL ws)) hl' (by rw [hsl]; exact hpr)
  rw [hsl] at hok
  refine ⟨?_, rows_done ((dueSt_len _ _).trans hsl) hok hrun⟩
  have su_mem : ∀ x y : Int, y ∈ suN ws.length (preS ws (namesL ws)) x → 0 ≤ x ∧ x < (ws.length : Int) ∧ 0 ≤ y ∧ y < (ws.length : Int) ∧ x ≠ y ∧ withS (wd (ws.map smallS) x.toNat) (wd (ws.map smallS) y.toNat) = true := fun x y h => by
    unfold suN at h
    split at h
    · rename_i hx
      obtain ⟨h3, h4⟩ := List.mem_filter.mp h
      obtain ⟨h5, h6⟩ := mem_rng.mp h3
      have h4 := of_decide_eq_true h4
      have e : ((y.toNat : Nat) : Int) = y := Int.toNat_of_nonneg h5
      have := (hpr y.toNat (by omega) x).mp (by rw [e]; exact h4)
      exact ⟨hx.1, hx.2, h5, h6, by omega, this.2.2.2⟩
    · exact absurd h List.not_mem_nil
  have rch : ∀ x y : Int, Rch (suN ws.length (preS ws (namesL ws))) x y → 0 ≤ x ∧ x < (ws.length : Int) ∧ 0 ≤ y ∧ y < (ws.length : Int) ∧ withS (wd (ws.map smallS) x.toNat) (wd (ws.map smallS) y.toNat) = true := fun x y h => by
    induction h with
    | one h => have := su_mem _ _ h; exact ⟨this.1, this.2.1, this.2.2.1, this.2.2.2.1, this.2.2.2.2.2⟩
    | step _ h ih => have := su_mem _ _ h; exact ⟨ih.1, ih.2.1, this.2.2.1, this.2.2.2.1, with_trans ih.2.2.2.2 this.2.2.2.2.2⟩
  have hring := dueRing hl'
  cases hr : ring with
  | true =>
    obtain ⟨v, hv⟩ := h1 hr
    refine hring.mpr ?_
    cases hv with
    | one h => exact absurd rfl (su_mem _ _ h).2.2.2.2.1
    | step h3 h4 =>
      rename_i y
      obtain ⟨a1, a2, a3, a4, a5⟩ := rch _ _ h3
      obtain ⟨b1, b2, b3, b4, b5, b6⟩ := su_mem _ _ h4
      refine ⟨v.toNat, by rw [hsl]; omega, (count_two (by rw [hsl]; omega)).mpr ⟨y.toNat, by rw [hsl]; omega, by omega, with_same b6 (Nat.le_antisymm (with_len b6) (with_len a5))⟩⟩
  | false =>
    refine Bool.eq_false_iff.mpr fun e => ?_
    obtain ⟨k, hk, hc⟩ := hring.mp e
    obtain ⟨j, hj, hne, he⟩ := (count_two hk).mp hc
    rw [hsl] at hk hj
    refine h2 hr (k : Int) (Int.natCast_nonneg _) (by omega) ?_
    have step : ∀ a b : Nat, a < ws.length → b < ws.length → a ≠ b → wd (ws.map smallS) a = wd (ws.map smallS) b → (b : Int) ∈ suN ws.length (preS ws (namesL ws)) (a : Int) := fun a b ha hb hab hw => by
      unfold suN
      rw [if_pos ⟨Int.natCast_nonneg _, by omega⟩]
      refine List.mem_filter.mpr ⟨mem_rng.mpr ⟨Int.natCast_nonneg _, by omega⟩, decide_eq_true ((hpr b hb a).mpr ⟨Int.natCast_nonneg _, by omega, by omega, ?_⟩)⟩
      rw [Int.toNat_natCast, hw]
      exact with_refl _
    exact .step (.one (step k j hk hj (Ne.symm hne) he.symm)) (step j k hj hk hne he)
end
section
theorem nodup_news {h₀ h : Heap} {L : Addr} {l : List (Addr × Obj)} (N : News h₀ L h l) : ∃ l', Nd l' ∧ ∀ p, p ∈ l' ↔ p ∈ l := by
  induction l with
  | nil => exact ⟨[], List.nodup_nil, fun _ => Iff.rfl⟩
  | cons p r ih =>
    obtain ⟨l', h1, h2⟩ := ih fun q hq => N q (.tail _ hq)
    by_cases e : ∃ q ∈ l', q.1 = p.1
    · obtain ⟨q, hq, e⟩ := e
      refine ⟨l', h1, fun x => ⟨fun hx => .tail _ ((h2 x).mp hx), fun hx => ?_⟩⟩
      rcases List.mem_cons.mp hx with rfl | hx
      · have a := (N x (.head _)).1
        have b := (N q (.tail _ ((h2 q).mp hq))).1
        rw [e, a] at b
        obtain rfl : q = x := Prod.ext e (Option.some.inj b).symm
        exact hq
      · exact (h2 x).mpr hx
    · exact ⟨p :: l', nd_cons h1 fun q hq he => e ⟨q, hq, he⟩, fun x => by rw [List.mem_cons, List.mem_cons, h2]⟩
theorem own_law {h₀ h : Heap} {own : List (Addr × Obj)} {L M D1 D0 : Nat} {oM x1 x0 o1 o2 o3 o4 o5 : Obj} (N : News h₀ L h ((M, oM) :: (own ++ [(D1, x1), (D0, x0), (L + 1 + 1 + 1 + 1 + 1, o5), (L + 1 + 1 + 1 + 1, o4), (L + 1 + 1 + 1, o3), (L + 1 + 1, o2), (L + 1, o1)])))
    (h1 : ∀ p ∈ own, ∀ q ∈ [(D1, x1), (D0, x0), (L + 1 + 1 + 1 + 1 + 1, o5), (L + 1 + 1 + 1 + 1, o4), (L + 1 + 1 + 1, o3), (L + 1 + 1, o2), (L + 1, o1)], @LT.lt Nat _ q.1 p.1)
    (h2 : ∀ q ∈ [(D1, x1), (D0, x0), (L + 1 + 1 + 1 + 1 + 1, o5), (L + 1 + 1 + 1 + 1, o4), (L + 1 + 1 + 1, o3), (L + 1 + 1, o2), (L + 1, o1)], @LT.lt Nat _ q.1 M)
    (h3 : ∀ p ∈ own ++ [(D1, x1), (D0, x0), (L + 1 + 1 + 1 + 1 + 1, o5), (L + 1 + 1 + 1 + 1, o4), (L + 1 + 1 + 1, o3), (L + 1 + 1, o2), (L + 1, o1)], p.1 ≠ M) :
    ∃ nw, News h₀ L h nw ∧ Own own nw [(M, oM), (L + 1 + 1 + 1 + 1 + 1, o5), (L + 1 + 1 + 1 + 1, o4), (L + 1 + 1 + 1, o3), (L + 1 + 1, o2), (L + 1, o1)] := by
  obtain ⟨nw, hn, hm⟩ := nodup_news N
  have k2 : ∀ q ∈ [(L + 1 + 1 + 1 + 1 + 1, o5), (L + 1 + 1 + 1 + 1, o4), (L + 1 + 1 + 1, o3), (L + 1 + 1, o2), (L + 1, o1)], q ∈ [(D1, x1), (D0, x0), (L + 1 + 1 + 1 + 1 + 1, o5), (L + 1 + 1 + 1 + 1, o4), (L + 1 + 1 + 1, o3), (L + 1 + 1, o2), (L + 1, o1)] := fun q hq => .tail _ (.tail _ hq)
  refine ⟨nw, fun p hp => N p ((hm p).mp hp), hn, fun p hp => (hm p).mpr (.tail _ (List.mem_append_left _ hp)), fun p hp => (hm p).mpr ?_, ?_, fun p hp q hq => ?_⟩
  · rcases List.mem_cons.mp hp with rfl | hp
    · exact .head _
    · exact .tail _ (List.mem_append_right _ (k2 p hp))
  · refine nd_cons ?_ fun q hq => Nat.ne_of_lt (h2 q (k2 q hq))
    have a : Nd [(L + 1 + 1 + 1 + 1 + 1, o5), (L + 1 + 1 + 1 + 1, o4), (L + 1 + 1 + 1, o3), (L + 1 + 1, o2), (L + 1, o1)] := by
      unfold Nd
      simp only [List.map_cons, List.map_nil]
      have n : ([L + 5, L + 4, L + 3, L + 2, L + 1] : List Nat).Nodup := by
        exact (List.pairwise_map (f := fun i => L + i)).mpr ((by decide : List.Pairwise (· ≠ ·) [5, 4, 3, 2, 1]).imp fun h e => h (Nat.add_left_cancel e))
      exact n
    exact a
  · rcases List.mem_cons.mp hq with rfl | hq
    · exact h3 p (List.mem_append_left _ hp)
    · exact Ne.symm (Nat.ne_of_lt (h1 p hp q (k2 q hq)))
theorem modes_ok {own : List (Addr × Obj)} {ws : Array Value} {ms : List Md} (h : ModesAt own ws ms) : ∀ q ∈ ms, ModeOk q := fun q hq => by
  obtain ⟨i, hi, rfl⟩ := List.getElem_of_mem hq
  obtain ⟨v, hv⟩ : ∃ v, ws[i]? = some v := ⟨_, Array.getElem?_eq_getElem (by rw [h.len]; exact hi)⟩
  obtain ⟨q', e1, _, e2⟩ := h.at' i v hv
  rw [List.getElem?_eq_getElem hi] at e1
  cases e1
  exact e2
local macro_rules | `(tactic| walk_at "subscriptTail") => `(tactic| (k_here; (with_reducible show wpAny _ _ (subscriptTail _ _ (Value.ref _) (Value.int _ _)) _ _ _); k_dflt (first
  | (refine' item_wd ?k1 ?k2 ?k3 ?k4 ?k5 ?_ ?k7; (case k1 => k_asm); (case k2 => k_mem); (case k3 => with_reducible assumption); (case k4 | k5 => first | assumption | omega); (case k7 => with_unfolding_all rfl))
  | (refine' item_iv ?k1 ?k2 ?k3 ?k4 ?k5 ?_ ?k7; (case k1 => k_asm); (case k2 => k_mem); (case k3 => with_reducible assumption); (case k4 | k5 => first | assumption | omega); (case k7 => with_unfolding_all rfl))); intro _))
theorem Own.grow {n0 nw nw' own : List (Addr × Obj)} (O : Own n0 nw own) (hn : Nd nw') (h : ∀ p ∈ nw, p ∈ nw') : Own n0 nw' own := ⟨hn, fun p hp => h p (O.keep p hp), fun p hp => h p (O.here p hp), O.dist, O.off⟩
theorem rec_end {I C D U : Addr} {oI oC oD oU : Obj} {ow nw : List (Addr × Obj)} (off : Off3 I C D nw) (lU : @LT.lt Nat _ I U ∧ @LT.lt Nat _ C U ∧ @LT.lt Nat _ D U ∧ AllLt U nw)
    (hl : ∀ p ∈ ow, ∀ q ∈ (U, oU) :: (I, oI) :: (C, oC) :: (D, oD) :: nw, @LT.lt Nat _ q.1 p.1) : Off3 I C D (ow ++ (U, oU) :: nw) ∧ ∀ p ∈ (I, oI) :: (C, oC) :: (D, oD) :: (ow ++ (U, oU) :: nw), p ∈ ow ++ (U, oU) :: (I, oI) :: (C, oC) :: (D, oD) :: nw := by
  refine ⟨Off3.of fun p hp => ?_, fun p hp => ?_⟩
  · rcases List.mem_append.mp hp with hp | hp
    · exact ⟨Ne.symm (Nat.ne_of_lt (hl p hp _ (.tail _ (.head _)))), Ne.symm (Nat.ne_of_lt (hl p hp _ (.tail _ (.tail _ (.head _))))), Ne.symm (Nat.ne_of_lt (hl p hp _ (.tail _ (.tail _ (.tail _ (.head _))))))⟩
    rcases List.mem_cons.mp hp with rfl | hp
    · exact ⟨Ne.symm (Nat.ne_of_lt lU.1), Ne.symm (Nat.ne_of_lt lU.2.1), Ne.symm (Nat.ne_of_lt lU.2.2.1)⟩
    · exact off.mem p hp
  · rcases List.mem_cons.mp hp with rfl | hp
    · exact List.mem_append_right _ (.tail _ (.head _))
    rcases List.mem_cons.mp hp with rfl | hp
    · exact List.mem_append_right _ (.tail _ (.tail _ (.head _)))
    rcases List.mem_cons.mp hp with rfl | hp
    · exact List.mem_append_right _ (.tail _ (.tail _ (.tail _ (.head _))))
    rcases List.mem_append.mp hp with hp | hp
    · exact List.mem_append_left _ hp
    rcases List.mem_cons.mp hp with rfl | hp
    · exact List.mem_append_right _ (.head _)
    · exact List.mem_append_right _ (.tail _ (.tail _ (.tail _ (.tail _ hp))))
theorem recs_mono {nw nw' : List (Addr × Obj)} (h : ∀ p ∈ nw, p ∈ nw') {vs : List Value} {ws : List Str} (a : RecsAre nw vs ws) : RecsAre nw' vs ws :=
  ⟨a.1, fun i v x hv hx => by
    obtain ⟨e, u, us, c, own, h1, h2, h3, h4, h5⟩ := a.2 i v x hv hx
    exact ⟨e, u, us, c, own, h1, h2, fun p hp => h p (h3 p hp), h _ h4, h5⟩⟩
theorem ne_cell {h₀ h : Heap} {L a : Addr} {nw : List (Addr × Obj)} {o : Obj} {v : Option Value} (N : News h₀ L h nw) (ha : (a, o) ∈ nw) (hd : o.data = .cell v) {p : Addr × Obj} (hp : p ∈ nw) (hc : ∀ v, p.2.data ≠ .cell v) : p.1 ≠ a := fun e => by
  have h1 := (N _ hp).1
  have h2 := (N _ ha).1
  rw [e, h2] at h1
  exact hc v (Option.some.inj h1 ▸ hd)
theorem recs_set {h₀ h : Heap} {L a : Addr} {nw : List (Addr × Obj)} {o o' : Obj} {v : Option Value} (N : News h₀ L h nw) (ha : (a, o) ∈ nw) (hd : o.data = .cell v) {vs : List Value} {ws : List Str} (r : RecsAre nw vs ws) : RecsAre (setN a o' nw) vs ws :=
  ⟨r.1, fun i x y hx hy => by
    obtain ⟨e, u, us, c, own, h1, ⟨d, r, k1, k2, k3, k4, t1, t2, t3, t4, he, hdd⟩, h3, h4, h5⟩ := r.2 i x y hx hy
    have up : ∀ p ∈ nw, (∀ v, p.2.data ≠ .cell v) → p ∈ setN a o' nw := fun p hp hc => mem_setN_ne hp (ne_cell N ha hd hp hc)
    refine ⟨e, u, us, c, [_, _], h1, ⟨d, r, k1, k2, k3, k4, t1, t2, t3, t4, .head _, .tail _ (.head _)⟩, fun p hp => ?_, up _ h4 (fun _ q => by cases q), h5⟩
    rcases List.mem_cons.mp hp with rfl | hp
    · exact up _ (h3 _ he) fun _ q => by cases q
    · rw [List.mem_singleton.mp hp]
      exact up _ (h3 _ hdd) fun _ q => by cases q⟩
def wTab (ws : List Str) (j k : Nat) : Bool := withS (wd (ws.map smallS) j) (wd (ws.map smallS) k)
def wRow (ws : List Str) (j : Nat) : List Bool := (List.range ws.length).map (wTab ws j)
theorem app_any {ws : List Str} (hs : ∀ x ∈ ws, ∀ (i c : Nat), x.cps[i]? = some c → SignC c) {j k : Nat} (hj : j < ws.length) (hk : k < ws.length) {xk wj y0 : Str} (hxk : (namesL ws)[k]? = some xk) (hwj : ws[j]? = some wj)
    (hy : (Txt.split xk (Str.ofString "/")).head? = some y0) : [Str.ofString "*", wj].any (hitA y0) = wTab ws j k := by
  have e : appS ws (namesL ws) j k = wTab ws j k := app_eq hs hj hk
  rw [← e]
  unfold appS
  rw [List.getD_eq_getElem?_getD, hxk, Option.getD_some, hy, List.getD_eq_getElem?_getD, hwj, Option.getD_some]
theorem agl_two {x : Str} (h : x.length ≤ 100) : ∀ ag ∈ [Str.ofString "*", x], ag.length ≤ 100 := fun ag hag => by
  cases hag with
  | head => exact Nat.le_of_ble_eq_true (by decide +kernel)
  | tail _ hag =>
    cases hag with
    | head => exact h
    | tail _ hag => cases hag
theorem bools_snoc {f : Nat → Bool} {zs : List Value} {q : Nat} (h : zs = ((List.range q).map f).map Value.bool) : zs ++ [Value.bool (f q)] = ((List.range (q + 1)).map f).map Value.bool := by
  rw [List.range_succ, List.map_append, List.map_append, ← h]
  rfl
theorem bools_mono {nw nw' : List (Addr × Obj)} (h : ∀ p ∈ nw, p ∈ nw') {vs : List Value} {rows : List (List Bool)} (a : Al2 (BoolsL nw) vs rows) : Al2 (BoolsL nw') vs rows :=
  ⟨a.1, fun i v x hv hx => let ⟨R, us, c, e, hm, hi⟩ := a.2 i v x hv hx; ⟨R, us, c, e, h _ hm, hi⟩⟩
theorem not_star {x : Str} (h : ∀ (i c : Nat), x.cps[i]? = some c → SignC c) : [x].any (fun x => x == Str.ofString "*") = false := by
  rw [List.any_cons, List.any_nil, Bool.or_false]
  refine beq_eq_false_iff_ne.mpr fun e => ?_
  subst e
  exact (sign_lt (h 0 42 (by decide +kernel))).2.1 rfl
theorem trip_mono {nw nw' : List (Addr × Obj)} (h : ∀ p ∈ nw, p ∈ nw') {T : Addr} {ring right : Bool} {rows : List (List Int)} (t : TripL nw T ring right rows) : TripL nw' T ring right rows := by
  obtain ⟨RL, ws, c, h1, h2, h3⟩ := t
  exact ⟨RL, ws, c, h _ h1, h _ h2, al2_mono h h3⟩
set_option maxHeartbeats 20000000 in
theorem law_rest {d : DefRec} {kwd : List (Str × Expr)} (hdef : defOf Mine.q (Str.ofString "law") = some (d, kwd)) {SC : Addr} {o1 o2 o3 o4 o5 : Obj} {w : World} {dp un : Nat} {gd : Option (List Code)} {a : Addr} {ccd : Value} {outer : List Env} {A₀ : Around} {base h₀ : Heap} {L : Addr} {s : Shared} {p : Program} {loose : List Str} {mean : ExcName → Option Value} {mg mb : Str → Option Value}
    {Q : Flow → Shared → Prop} {E : Value → Shared → Prop} (B : Below A₀ base outer h₀) (F : Fr h₀ L s.heap (fun y => if y = Str.ofString "script" then some (.ref SC) else none)) (X : (Mine.K w.params).In h₀) (N : News h₀ L s.heap [(L + 1 + 1 + 1 + 1 + 1, o5), (L + 1 + 1 + 1 + 1, o4), (L + 1 + 1 + 1, o3), (L + 1 + 1, o2), (L + 1, o1)]) (T : Top p loose mean mg mb h₀) (hd : dp + 60 < recursionLimit) (hu : un + 480 < cLine) (XB : (Mine.K w.params).In base) (TB : Top p loose mean mg mb base) (D : KtsDicts (outer.filterMap (·.frame)) h₀)
    {svs : List Value} {sns : List Int} (hS : h₀.IsList SC svs.toArray) (hsv : IntsAre svs sns) (hsl : sns.length ≤ 63) (hne : SC ≠ L)
    (d1 : o1.data = Data.cell none) (d2 : o2.data = Data.cell none) (d3 : o3.data = Data.cell none) (d4 : o4.data = Data.cell none) (d5 : o5.data = Data.cell none)
    (hret : ∀ m' nw' h₀' h' tk', KtsTurn (outer.filterMap (·.frame)) h₀ h₀' → Fr h₀' L h' m' → News h₀' L h' nw' → Q (.ret (.bool true)) { s with heap := h', toks := tk' }) :
    wpAny (model PySem.Challenge.pw_nq0248_01 w) (ktrTop dp un gd d.name d.scope L a ccd (cellsFrom (L + 1) d.scope.names []) outer) (execs d.body (envX d.name d.scope L a ccd (cellsFrom (L + 1) d.scope.names []))) Q E s := by
  have e9 : (d, kwd) = _ := Option.some.inj (hdef.symm.trans (Eq.refl _ : defOf Mine.q (Str.ofString "law") = some _))
  obtain ⟨rfl, rfl⟩ := Prod.mk.inj e9
  clear e9 hdef
  have hfill : (fun (_ : OpenLaw) (_ : Params → Frag) => True) PySem.Challenge.rw_nq0248_01 Mine.K := by k_fill; trivial
  clear hfill
  dsimp only
  with_reducible refine (?_ : let A1 := _; wpAny _ A1 _ _ _ _)
  intro A1
  (repeat' (first | (((fail_if_success (fail_if_success k_unfold)); first | (with_reducible refine (?_ : wpAny _ _ _ _ _ _)) | k_unfold); try dsimp only) | ((fail_if_success (fail_if_success (with_reducible refine ex1 (by constructor) ?_))); (fail_if_success (fail_if_success k_fold)); (with_reducible refine (?_ : let qk := _; let ek := _; wpAny _ _ _ qk ek _)); intro qk ek) | ((fail_if_success (with_reducible first | ((fail_if_success (refine go1 (by constructor) ?_)); refine st1 (by constructor) ?_) | show Exists _)); walk1; try dsimp only)))
  refine assign_LC (by rfl) (by intro _; rfl) (by rfl) rfl (by decide) ?_
  (repeat' (first | (((fail_if_success (fail_if_success k_unfold)); first | (with_reducible refine (?_ : wpAny _ _ _ _ _ _)) | k_unfold); try dsimp only) | ((fail_if_success (fail_if_success (with_reducible refine ex1 (by constructor) ?_))); (fail_if_success (fail_if_success k_fold)); (with_reducible refine (?_ : let qk := _; let ek := _; wpAny _ _ _ qk ek _)); intro qk ek) | ((fail_if_success (with_reducible show wpAny _ _ (subscriptTail _ _ _ _) _ _ _)); (fail_if_success (with_reducible first | ((fail_if_success (refine go1 (by constructor) ?_)); refine st1 (by constructor) ?_) | show Exists _)); walk1; try dsimp only)))
  rename Fr h₀ L _ _ => F1
  rename News h₀ L _ _ => N1
  have hsz : svs.length = sns.length := hsv.length
  refine kmk_slice_ints (s := { s with toks := s.toks + 1 }) F1 N1 (hS.at fun o e => F1.keep _ o e) .none (.int _ _) hsv (kmk_upto hsv (by decide)) rfl (fun D0 ws h1 F2 N2 l2 hws _ hle => ?_) (by with_unfolding_all rfl) (by intro _; with_unfolding_all rfl) (by rw [List.size_toArray, sizeLine_eq]; omega)
  have hrl : (sns.take (Int.toNat 63)).length = ws.length := hws.length.symm
  refine comp_listX (its := ws.toArray) rfl (by decide) rfl rfl (sz_le (Nat.le_trans (Nat.le_of_eq hrl.symm) (Nat.le_trans hle (Nat.le_trans hsl (by decide))))) F2 N2 (.inr ⟨_, .head _, rfl, _, rfl⟩)
    (fun q ys nw => [(D0, W.listOf ws.toArray 0), (L + 1 + 1 + 1 + 1 + 1, o5), (L + 1 + 1 + 1 + 1, o4), (L + 1 + 1 + 1, o3), (L + 1 + 1, o2), (L + 1, o1)] = nw ∧ IntsAre ys (((sns.take (Int.toNat 63)).take q).map (·.fmod 1000000))) (fun _ _ _ h => by rw [← h.1]; exact .inr ⟨_, .head _, rfl, _, rfl⟩) ⟨rfl, .nil⟩ ?_ (post_some rfl rfl rfl ?_)
  · intro i v ys nw I oI C oC D1 mC h3 tk3 E3 hi hv hJ hC hx F3 N3 off ne
    (with_reducible refine (?_ : let G9 : Prop := _; G9)); intro G9
    obtain ⟨ek, hys⟩ := hJ
    subst ek
    k_unfold; clear G9
    rw [List.getElem?_toArray] at hv
    obtain ⟨kv, tv, rfl, hk⟩ := ints_get hws hv
    refine forIn_nil0 ?_
    rw [if_pos rfl]
    (repeat' (first | (((fail_if_success (fail_if_success k_unfold)); first | (with_reducible refine (?_ : wpAny _ _ _ _ _ _)) | k_unfold); try dsimp only) | ((fail_if_success (fail_if_success (with_reducible refine ex1 (by constructor) ?_))); (fail_if_success (fail_if_success k_fold)); (with_reducible refine (?_ : let qk := _; let ek := _; wpAny _ _ _ qk ek _)); intro qk ek) | ((fail_if_success (with_reducible first | ((fail_if_success (refine go1 (by constructor) ?_)); refine st1 (by constructor) ?_) | show Exists _)); walk1; try dsimp only)))
    exact ⟨_, _, _, _, _, rfl, by k_asm, by k_asm, hC, off, rfl, by rw [take_snoc hk, List.map_append]; exact ints_snoc hys _ _⟩
  · intro D1 rvs nw h3 tk3 F3 N3 off hJ
    (with_reducible refine (?_ : let G9 : Prop := _; G9)); intro G9
    obtain ⟨ek, hrv⟩ := hJ
    subst ek
    k_unfold; clear G9
    try dsimp only
    obtain ⟨row, hrow⟩ : ∃ row, row = (((sns.take (Int.toNat 63)).take ws.toArray.size).map (·.fmod 1000000)) := ⟨_, rfl⟩
    rw [← hrow] at hrv
    have hrow63 : row.length ≤ 63 := by rw [hrow, List.length_map]; exact Nat.le_trans (List.length_take_le' ..) (Nat.le_trans hle hsl)
    have hri : RowIs rvs.toArray row := ⟨hrv, hrow63, fun z hz => by
      rw [hrow] at hz
      obtain ⟨y, _, rfl⟩ := List.mem_map.mp hz
      exact ⟨Int.fmod_nonneg_of_pos _ (by decide), Int.fmod_lt_of_pos _ (by decide)⟩⟩
    clear hrow hrow63 hrl hle hsz
    (repeat' (first | (((fail_if_success (fail_if_success k_unfold)); first | (with_reducible refine (?_ : wpAny _ _ _ _ _ _)) | k_unfold); try dsimp only) | ((fail_if_success (fail_if_success (with_reducible refine ex1 (by constructor) ?_))); (fail_if_success (fail_if_success k_fold)); (with_reducible refine (?_ : let qk := _; let ek := _; wpAny _ _ _ qk ek _)); intro qk ek) | ((fail_if_success (with_reducible first | ((fail_if_success (refine go1 (by constructor) ?_)); refine st1 (by constructor) ?_) | show Exists _)); walk1; try dsimp only)))
    refine modes_spec (by k_asm) (by k_asm) (by k_asm) (by k_asm) (by k_asm) (by first | exact rfl | assumption) (by ktr_room) (by ktr_units) (.head _) hri fun M mvs mc own ms h4 tk4 F4 N4 hms hml hl1 hl2 hl3 => ?_
    have hm12 : mvs.size ≤ 12 := by rw [hml]; exact Nat.add_le_add_left (Nat.min_le_left 8 _) 4
    have hm0 : 0 < mvs.size := by rw [hml]; exact Nat.lt_of_lt_of_le (by decide) (Nat.le_add_right 4 _)
    clear hml
    obtain ⟨nw1, N5, O⟩ := own_law N4 hl1 hl2 hl3
    clear N4 N3 F3 hl1 hl2 hl3 off l2 hri hrv
    refine storeX_C F4 N5 rfl (updF_setN O.nd (O.here _ (.tail _ (.tail _ (.tail _ (.tail _ (.tail _ (.head _)))))))) d1 (fun h5 o1' F5 N6 d1' => ?_) rfl rfl
    replace O := O.set (pre := [_, _, _, _, _]) o1'
    generalize hq1 : setN (L + 1) o1' nw1 = nw2 at N6 O
    clear hq1 N5 F4
    have hMc := O.here _ (.tail _ (.tail _ (.tail _ (.tail _ (.tail _ (.head _))))))
    (repeat' (first | (((fail_if_success (fail_if_success k_unfold)); first | (with_reducible refine (?_ : wpAny _ _ _ _ _ _)) | k_unfold); try dsimp only) | ((fail_if_success (fail_if_success (with_reducible refine ex1 (by constructor) ?_))); (fail_if_success (fail_if_success k_fold)); (with_reducible refine (?_ : let qk := _; let ek := _; wpAny _ _ _ qk ek _)); intro qk ek) | ((fail_if_success (with_reducible first | ((fail_if_success (refine go1 (by constructor) ?_)); refine st1 (by constructor) ?_) | show Exists _)); walk1; try dsimp only)))
    refine wpAny_Assign_Name ?_
    rw [eval_ListComp]
    refine wpAny_comprehension_free (use := none) rfl (by intro _; rfl) (by rfl) (by rfl) (by decide) ?_
    show wpAny _ _ (eval _ _) _ _ _
    (repeat' (first | (((fail_if_success (fail_if_success k_unfold)); first | (with_reducible refine (?_ : wpAny _ _ _ _ _ _)) | k_unfold); try dsimp only) | ((fail_if_success (fail_if_success (with_reducible refine ex1 (by constructor) ?_))); (fail_if_success (fail_if_success k_fold)); (with_reducible refine (?_ : let qk := _; let ek := _; wpAny _ _ _ qk ek _)); intro qk ek) | ((fail_if_success (with_reducible first | ((fail_if_success (refine go1 (by constructor) ?_)); refine st1 (by constructor) ?_) | show Exists _)); walk1; try dsimp only)))
    refine comp_list (its := mvs) rfl (by decide) rfl (sz_le (le12 hm12)) F5 N6 (.inr ⟨_, O.here _ (.head _), rfl, _, rfl⟩) (fun q ys nw => nw2 = nw ∧ StrsAre ys ((ms.take q).map txF)) (fun _ _ _ h => by rw [← h.1]; exact .inr ⟨_, O.here _ (.head _), rfl, _, rfl⟩) ⟨rfl, .nil⟩ ?_ (post_none ?_)
    · intro i v ys nw I oI C oC D2 mC h6 tk6 E3 hi hv hJ hC F6 N7 off ne
      (with_reducible refine (?_ : let G9 : Prop := _; G9)); intro G9
      obtain ⟨ek, hys⟩ := hJ
      obtain ⟨q, hq, ⟨T, t1, t2, t3, t4, rfl, hT⟩, hok⟩ := hms.at' i v hv
      subst ek
      k_unfold; clear G9
      refine asg_quad rfl rfl rfl rfl rfl (by rfl) (News.isTup N7 (.tail _ (.tail _ (.tail _ (O.keep _ hT))))) hC F6 N7 off ne fun oC2 h7 tk7 hC2 F7 N8 => ?_
      obtain ⟨mC2, hC3, hx1, hx2⟩ : ∃ mC2, NsObj oC2 mC2 ∧ mC2 (Str.ofString "kind") = some (.int q.1 t1) ∧ mC2 (Str.ofString "rights") = some (.int q.2.1 t2) := ⟨_, hC2, rfl, rfl⟩
      clear hC2
      refine forIn_nil0 ?_
      rw [if_pos rfl]
      (repeat' (first | (((fail_if_success (fail_if_success k_unfold)); first | (with_reducible refine (?_ : wpAny _ _ _ _ _ _)) | k_unfold); try dsimp only) | ((fail_if_success (fail_if_success (with_reducible refine ex1 (by constructor) ?_))); (fail_if_success (fail_if_success k_fold)); (with_reducible refine (?_ : let qk := _; let ek := _; wpAny _ _ _ qk ek _)); intro qk ek) | ((fail_if_success (with_reducible show wpAny _ _ (call (Value.ref 28) _) _ _ _)); (fail_if_success (with_reducible show wpAny _ _ (call (Value.ref 35) _) _ _ _)); (fail_if_success (with_reducible first | ((fail_if_success (refine go1 (by constructor) ?_)); refine st1 (by constructor) ?_) | show Exists _)); walk1; try dsimp only)))
      refine ifmt_spec (by k_asm) (by k_asm) (by k_asm) (by k_asm) (by k_asm) (by first | exact rfl | assumption) (by ktr_room) (by ktr_units) fun u1 h8 tk8 F8 N9 => ?_
      (repeat' (first | (((fail_if_success (fail_if_success k_unfold)); first | (with_reducible refine (?_ : wpAny _ _ _ _ _ _)) | k_unfold); try dsimp only) | ((fail_if_success (fail_if_success (with_reducible refine ex1 (by constructor) ?_))); (fail_if_success (fail_if_success k_fold)); (with_reducible refine (?_ : let qk := _; let ek := _; wpAny _ _ _ qk ek _)); intro qk ek) | ((fail_if_success (with_reducible show wpAny _ _ (call (Value.ref 28) _) _ _ _)); (fail_if_success (with_reducible show wpAny _ _ (call (Value.ref 35) _) _ _ _)); (fail_if_success (with_reducible first | ((fail_if_success (refine go1 (by constructor) ?_)); refine st1 (by constructor) ?_) | show Exists _)); walk1; try dsimp only)))
      refine imode_spec (by k_asm) (by k_asm) (by k_asm) (by k_asm) (by k_asm) (by first | exact rfl | assumption) (by ktr_room) (by ktr_units) fun u2 h9 tk9 F9 N10 => ?_
      (repeat' (first | (((fail_if_success (fail_if_success k_unfold)); first | (with_reducible refine (?_ : wpAny _ _ _ _ _ _)) | k_unfold); try dsimp only) | ((fail_if_success (fail_if_success (with_reducible refine ex1 (by constructor) ?_))); (fail_if_success (fail_if_success k_fold)); (with_reducible refine (?_ : let qk := _; let ek := _; wpAny _ _ _ qk ek _)); intro qk ek) | ((fail_if_success (with_reducible first | ((fail_if_success (refine go1 (by constructor) ?_)); refine st1 (by constructor) ?_) | show Exists _)); walk1; try dsimp only)))
      refine filemode_spec (by k_asm) (by k_asm) (by k_asm) (by k_asm) (by k_asm) (by first | exact rfl | assumption) (by ktr_room) (by ktr_units) fun u3 h10 tk10 F10 N11 => ?_
      (repeat' (first | (((fail_if_success (fail_if_success k_unfold)); first | (with_reducible refine (?_ : wpAny _ _ _ _ _ _)) | k_unfold); try dsimp only) | ((fail_if_success (fail_if_success (with_reducible refine ex1 (by constructor) ?_))); (fail_if_success (fail_if_success k_fold)); (with_reducible refine (?_ : let qk := _; let ek := _; wpAny _ _ _ qk ek _)); intro qk ek) | ((fail_if_success (with_reducible first | ((fail_if_success (refine go1 (by constructor) ?_)); refine st1 (by constructor) ?_) | show Exists _)); walk1; try dsimp only)))
      exact ⟨_, _, _, _, _, rfl, by k_asm, by k_asm, hC3, off, rfl, by rw [take_snoc hq, List.map_append]; exact strs_snoc hys _ _⟩
    · intro D2 tvs nw h6 tk6 F6 N7 off hJ
      (with_reducible refine (?_ : let G9 : Prop := _; G9)); intro G9
      obtain ⟨ek, htv⟩ := hJ
      subst ek
      k_unfold; clear G9
      try dsimp only
      rw [List.take_of_length_le (by rw [hms.len]; exact Nat.le_refl _), List.map_congr_left fun q hq => tx_eq (modes_ok hms q hq)] at htv
      replace htv : StrsAre tvs (ms.map txL) := htv
      replace O := O.cons (p := (D2, lst tvs)) (off1_mem off)
      generalize hq2 : (D2, lst tvs) :: nw2 = nw3 at N7 O
      clear hq2 N6 F5 off hMc
      refine storeX_C F6 N7 rfl (updF_setN O.nd (O.here _ (.tail _ (.tail _ (.tail _ (.tail _ (.tail _ (.head _)))))))) d2 (fun h7 o2' F7 N8 d2' => ?_) rfl rfl
      replace O := O.set (pre := [_, _, _, _, _]) o2'
      generalize hq3 : setN (L + 1 + 1) o2' nw3 = nw4 at N8 O
      clear hq3 N7 F6
      have hMc := O.here _ (.tail _ (.tail _ (.tail _ (.tail _ (.tail _ (.tail _ (.head _)))))))
      have hTc := O.here _ (.tail _ (.tail _ (.tail _ (.tail _ (.tail _ (.head _))))))
      (repeat' (first | (((fail_if_success (fail_if_success k_unfold)); first | (with_reducible refine (?_ : wpAny _ _ _ _ _ _)) | k_unfold); try dsimp only) | ((fail_if_success (fail_if_success (with_reducible refine ex1 (by constructor) ?_))); (fail_if_success (fail_if_success k_fold)); (with_reducible refine (?_ : let qk := _; let ek := _; wpAny _ _ _ qk ek _)); intro qk ek) | ((fail_if_success (with_reducible first | ((fail_if_success (refine go1 (by constructor) ?_)); refine st1 (by constructor) ?_) | show Exists _)); walk1; try dsimp only)))
      rw [eval_ListComp]
      refine wpAny_comprehension_free (use := none) rfl (by intro _; rfl) (by rfl) (by rfl) (by decide) ?_
      show wpAny _ _ (eval _ _) _ _ _
      (repeat' (first | (((fail_if_success (fail_if_success k_unfold)); first | (with_reducible refine (?_ : wpAny _ _ _ _ _ _)) | k_unfold); try dsimp only) | ((fail_if_success (fail_if_success (with_reducible refine ex1 (by constructor) ?_))); (fail_if_success (fail_if_success k_fold)); (with_reducible refine (?_ : let qk := _; let ek := _; wpAny _ _ _ qk ek _)); intro qk ek) | ((fail_if_success (with_reducible first | ((fail_if_success (refine go1 (by constructor) ?_)); refine st1 (by constructor) ?_) | show Exists _)); walk1; try dsimp only)))
      refine comp_list (its := mvs) rfl (by decide) rfl (sz_le (le12 hm12)) F7 N8 (.inr ⟨_, O.here _ (.tail _ (.head _)), rfl, _, rfl⟩) (fun q ys nw => nw4 = nw ∧ StrsAre ys ((ms.take q).map txL)) (fun _ _ _ h => by rw [← h.1]; exact .inr ⟨_, O.here _ (.tail _ (.head _)), rfl, _, rfl⟩) ⟨rfl, .nil⟩ ?_ (post_none ?_)
      · intro i v ys nw I oI C oC D3 mC h6 tk6 E3 hi hv hJ hC F6 N7 off ne
        (with_reducible refine (?_ : let G9 : Prop := _; G9)); intro G9
        obtain ⟨ek, hys⟩ := hJ
        obtain ⟨q, hq, ⟨T, t1, t2, t3, t4, rfl, hT⟩, hok⟩ := hms.at' i v hv
        subst ek
        k_unfold; clear G9
        refine asg_quad rfl rfl rfl rfl rfl (by rfl) (News.isTup N7 (.tail _ (.tail _ (.tail _ (O.keep _ hT))))) hC F6 N7 off ne fun oC2 h7 tk7 hC2 F7 N8 => ?_
        obtain ⟨mC2, hC3, hx1, hx2⟩ : ∃ mC2, NsObj oC2 mC2 ∧ mC2 (Str.ofString "kind") = some (.int q.1 t1) ∧ mC2 (Str.ofString "rights") = some (.int q.2.1 t2) := ⟨_, hC2, rfl, rfl⟩
        clear hC2
        refine forIn_nil0 ?_
        rw [if_pos rfl]
        (repeat' (first | (((fail_if_success (fail_if_success k_unfold)); first | (with_reducible refine (?_ : wpAny _ _ _ _ _ _)) | k_unfold); try dsimp only) | ((fail_if_success (fail_if_success (with_reducible refine ex1 (by constructor) ?_))); (fail_if_success (fail_if_success k_fold)); (with_reducible refine (?_ : let qk := _; let ek := _; wpAny _ _ _ qk ek _)); intro qk ek) | ((fail_if_success (with_reducible first | ((fail_if_success (refine go1 (by constructor) ?_)); refine st1 (by constructor) ?_) | show Exists _)); walk1; try dsimp only)))
        refine signs_spec (by k_asm) (by k_asm) (by k_asm) (by k_asm) (by k_asm) (by first | exact rfl | assumption) (by ktr_room) (by ktr_units) fun u3 h10 tk10 F10 N11 => ?_
        (repeat' (first | (((fail_if_success (fail_if_success k_unfold)); first | (with_reducible refine (?_ : wpAny _ _ _ _ _ _)) | k_unfold); try dsimp only) | ((fail_if_success (fail_if_success (with_reducible refine ex1 (by constructor) ?_))); (fail_if_success (fail_if_success k_fold)); (with_reducible refine (?_ : let qk := _; let ek := _; wpAny _ _ _ qk ek _)); intro qk ek) | ((fail_if_success (with_reducible first | ((fail_if_success (refine go1 (by constructor) ?_)); refine st1 (by constructor) ?_) | show Exists _)); walk1; try dsimp only)))
        exact ⟨_, _, _, _, _, rfl, by k_asm, by k_asm, hC3, off, rfl, by rw [take_snoc hq, List.map_append]; exact strs_snoc hys _ _⟩
      · intro D3 lvs nw h8 tk8 F8 N9 off hJ
        (with_reducible refine (?_ : let G9 : Prop := _; G9)); intro G9
        obtain ⟨ek, hlv⟩ := hJ
        subst ek
        k_unfold; clear G9
        try dsimp only
        rw [List.take_of_length_le (by rw [hms.len]; exact Nat.le_refl _)] at hlv
        replace O := O.cons (p := (D3, lst lvs)) (off1_mem off)
        generalize hq4 : (D3, lst lvs) :: nw4 = nw5 at N9 O
        clear hq4 N8 F7 off hMc hTc
        refine ne_rd (d := .list ((ms.map txL).map .str)) (rd_list N9 (O.here _ (.tail _ (.head _))) (rd_strs htv)) (rd_list N9 (O.here _ (.head _)) (rd_strs hlv)) (pl_up (k := 1) (pl_list (k := 0) (pl_map fun x hx => ?_)) (by decide)) (un64 (b := 416) hu) ?_
        · obtain ⟨q, _, rfl⟩ := List.mem_map.mp hx
          exact pl_str (tx_lt q)
        replace O := O.sub (List.sublist_cons_self _ _)
        have hMc := O.here _ (.tail _ (.tail _ (.tail _ (.tail _ (.tail _ (.tail _ (.head _)))))))
        have hTc := O.here _ (.tail _ (.tail _ (.tail _ (.tail _ (.tail _ (.head _))))))
        have hTl := O.here _ (.head _)
        have hMl := O.here _ (.tail _ (.head _))
        (repeat' (first | (((fail_if_success (fail_if_success k_unfold)); first | (with_reducible refine (?_ : wpAny _ _ _ _ _ _)) | k_unfold); try dsimp only) | ((fail_if_success (fail_if_success (with_reducible refine ex1 (by constructor) ?_))); (fail_if_success (fail_if_success k_fold)); (with_reducible refine (?_ : let qk := _; let ek := _; wpAny _ _ _ qk ek _)); intro qk ek) | ((fail_if_success (with_reducible first | ((fail_if_success (refine go1 (by constructor) ?_)); refine st1 (by constructor) ?_) | show Exists _)); walk1; try dsimp only)))
        refine wpAny_Assign_Name ?_
        rw [eval_ListComp]
        refine wpAny_comprehension_free (use := none) rfl (by intro _; rfl) (by rfl) (by rfl) (by decide) ?_
        show wpAny _ _ (eval _ _) _ _ _
        (repeat' (first | (((fail_if_success (fail_if_success k_unfold)); first | (with_reducible refine (?_ : wpAny _ _ _ _ _ _)) | k_unfold); try dsimp only) | ((fail_if_success (fail_if_success (with_reducible refine ex1 (by constructor) ?_))); (fail_if_success (fail_if_success k_fold)); (with_reducible refine (?_ : let qk := _; let ek := _; wpAny _ _ _ qk ek _)); intro qk ek) | ((fail_if_success (with_reducible first | ((fail_if_success (refine go1 (by constructor) ?_)); refine st1 (by constructor) ?_) | show Exists _)); walk1; try dsimp only)))
        rename IsRange _ _ _ _ _ _ _ _ => hr
        rename Fr h₀ L _ _ => Fr1
        rename News h₀ L _ _ => Nr1
        have hn12 : ms.length ≤ 12 := hms.len ▸ hm12
        have hn0 : 0 < ms.length := hms.len ▸ hm0
        clear hm12 hm0
        refine comp_range (n := ms.length) rfl (by decide) rfl rfl (sz_le (le12 hn12)) Fr1 Nr1 hr (small_n (hms.len ▸ le12 hn12)) (rng_size (by rw [hms.len]; rfl))
          (fun q ys nw => nw5 = nw ∧ StrsAre ys ((ms.take q).map wordL)) ⟨rfl, .nil⟩ ?_ (post_none ?_)
        · intro k tk0 ys nw I oI C oC D4 mC h6 tk6 E3 hk hJ hC hx F6 N7 off ne
          (with_reducible refine (?_ : let G9 : Prop := _; G9)); intro G9
          obtain ⟨ek, hys⟩ := hJ
          subst ek
          obtain ⟨v, hv⟩ : ∃ v, mvs[k]? = some v := ⟨_, Array.getElem?_eq_getElem (by rw [hms.len]; exact hk)⟩
          obtain ⟨q, hq, ⟨T, t1, t2, t3, t4, rfl, hT⟩, hok⟩ := hms.at' k v hv
          k_unfold; clear G9
          have hT := O.keep _ hT
          refine forIn_nil0 ?_
          rw [if_pos rfl]
          rw [Int.zero_add] at hx
          have hk6 := Nat.lt_of_lt_of_le hk (Nat.le_trans hn12 (by decide : 12 ≤ 1000000))
          have hkl : k < (ms.map txL).length := by rw [List.length_map]; exact hk
          have ew : wd (ms.map txL) k = txL q := by unfold wd; rw [List.getD_eq_getElem?_getD, List.getElem?_map, hq]; rfl
          have hwk : (wd (ms.map txL) k).length ≤ 100 := by rw [ew, (tx_ok q).1]; decide
          clear hr
          (repeat' (first | (((fail_if_success (fail_if_success k_unfold)); first | (with_reducible refine (?_ : wpAny _ _ _ _ _ _)) | k_unfold); try dsimp only) | ((fail_if_success (fail_if_success (with_reducible refine ex1 (by constructor) ?_))); (fail_if_success (fail_if_success k_fold)); (with_reducible refine (?_ : let qk := _; let ek := _; wpAny _ _ _ qk ek _)); intro qk ek) | ((fail_if_success (with_reducible show wpAny _ _ (subscriptTail (Expr.Name (Str.ofString "modes") _) _ _ _) _ _ _)); (fail_if_success (with_reducible first | ((fail_if_success (refine go1 (by constructor) ?_)); refine st1 (by constructor) ?_) | show Exists _)); walk1; try dsimp only)))
          refine item_litK (vs := mvs.toList) (k := (k : Int)) (by rw [Array.toArray_toList]; exact News.isList N7 (.tail _ (.tail _ (.tail _ hMl)))) (Int.natCast_nonneg _) (nat63 hk (le12 hn12)) (by rw [Int.toNat_natCast, Array.getElem?_toList]; exact hv) ?_
          (repeat' (first | (((fail_if_success (fail_if_success k_unfold)); first | (with_reducible refine (?_ : wpAny _ _ _ _ _ _)) | k_unfold); try dsimp only) | ((fail_if_success (fail_if_success (with_reducible refine ex1 (by constructor) ?_))); (fail_if_success (fail_if_success k_fold)); (with_reducible refine (?_ : let qk := _; let ek := _; wpAny _ _ _ qk ek _)); intro qk ek) | ((fail_if_success (with_reducible show wpAny _ _ (subscriptTail (Expr.Name (Str.ofString "modes") _) _ _ _) _ _ _)); (fail_if_success (with_reducible first | ((fail_if_success (refine go1 (by constructor) ?_)); refine st1 (by constructor) ?_) | show Exists _)); walk1; try dsimp only)))
          refine item_litK (vs := mvs.toList) (k := (k : Int)) (by rw [Array.toArray_toList]; exact News.isList N7 (.tail _ (.tail _ (.tail _ hMl)))) (Int.natCast_nonneg _) (nat63 hk (le12 hn12)) (by rw [Int.toNat_natCast, Array.getElem?_toList]; exact hv) ?_
          (repeat' (first | (((fail_if_success (fail_if_success k_unfold)); first | (with_reducible refine (?_ : wpAny _ _ _ _ _ _)) | k_unfold); try dsimp only) | ((fail_if_success (fail_if_success (with_reducible refine ex1 (by constructor) ?_))); (fail_if_success (fail_if_success k_fold)); (with_reducible refine (?_ : let qk := _; let ek := _; wpAny _ _ _ qk ek _)); intro qk ek) | ((fail_if_success (with_reducible first | ((fail_if_success (refine go1 (by constructor) ?_)); refine st1 (by constructor) ?_) | show Exists _)); walk1; try dsimp only)))
          exact ⟨_, _, _, _, _, rfl, by k_asm, by k_asm, hC, off, rfl, by rw [take_snoc hq, List.map_append, ew]; exact strs_snoc hys _ _⟩
        · intro D4 wvs nw h6 tk6 F6 N7 off hJ
          (with_reducible refine (?_ : let G9 : Prop := _; G9)); intro G9
          obtain ⟨ek, hwv⟩ := hJ
          subst ek
          k_unfold; clear G9
          try dsimp only
          rw [List.take_length] at hwv
          replace O := O.cons (p := (D4, lst wvs)) (off1_mem off)
          generalize hq5 : (D4, lst wvs) :: nw5 = nw6 at N7 O
          clear hq5 off hMc hTc hTl hMl Fr1 Nr1 hr
          refine storeX_C F6 N7 rfl (updF_setN O.nd (O.here _ (.tail _ (.tail _ (.tail _ (.tail _ (.tail _ (.head _)))))))) d3 (fun h7 o3' F7 N8 d3' => ?_) rfl rfl
          replace O := O.set (pre := [_, _, _, _, _]) o3'
          generalize hq6 : setN (L + 1 + 1 + 1) o3' nw6 = nw7 at N8 O
          clear hq6 N7 F6
          generalize hws : ms.map wordL = words at hwv
          have hwn : words.length = ms.length := by rw [← hws, List.length_map]
          have hw12 : words.length ≤ 12 := hwn ▸ hn12
          have hwp : 0 < words.length := hwn ▸ hn0
          have hwl : ∀ x ∈ words, x.length ≤ 100 := fun x hx => by
            rw [← hws] at hx
            obtain ⟨q, hq, rfl⟩ := List.mem_map.mp hx
            exact Nat.le_trans (word_len (modes_ok hms q hq)) (by decide)
          have hwsz : wvs.toArray.size = words.length := by rw [← hwv.length]; rfl
          have hwvs : StrsAre wvs.toArray.toList words := hwv
          have hwll : wvs.length = words.length := hwv.length
          have hwa : ∀ x ∈ words, ∀ (i c : Nat), x.cps[i]? = some c → SignC c := fun x hx => by
            rw [← hws] at hx
            obtain ⟨q, _, rfl⟩ := List.mem_map.mp hx
            exact word_sign q
          have hnl : ∀ x ∈ namesL words, x.length ≤ 100 := fun x hx => by
            obtain ⟨k, hk, rfl⟩ := List.mem_map.mp hx
            rw [List.mem_range, hwn] at hk
            rw [show wd words k = wordL (ms[k]'hk) by unfold wd; rw [← hws, List.getD_eq_getElem?_getD, List.getElem?_map, List.getElem?_eq_getElem hk]; rfl]
            exact name_len (modes_ok hms _ (List.getElem_mem hk)) _
          have hw5 : ∀ x ∈ words, 0 < x.length ∧ x.length ≤ 5 := fun x hx => by
            rw [← hws] at hx
            obtain ⟨q, hq, rfl⟩ := List.mem_map.mp hx
            exact ⟨word_pos (modes_ok hms q hq), word_len (modes_ok hms q hq)⟩
          have hnn : (namesL words).length = words.length := by unfold namesL; rw [List.length_map, List.length_range]
          have hWl := O.here _ (.head _)
          have hWc := O.here _ (.tail _ (.tail _ (.tail _ (.tail _ (.tail _ (.head _))))))
          (repeat' (first | (((fail_if_success (fail_if_success k_unfold)); first | (with_reducible refine (?_ : wpAny _ _ _ _ _ _)) | k_unfold); try dsimp only) | ((fail_if_success (fail_if_success (with_reducible refine ex1 (by constructor) ?_))); (fail_if_success (fail_if_success k_fold)); (with_reducible refine (?_ : let qk := _; let ek := _; wpAny _ _ _ qk ek _)); intro qk ek) | ((fail_if_success (with_reducible first | ((fail_if_success (refine go1 (by constructor) ?_)); refine st1 (by constructor) ?_) | show Exists _)); walk1; try dsimp only)))
          refine wpAny_Assign_Name ?_
          rw [eval_ListComp]
          refine wpAny_comprehension_free (use := none) rfl (by intro _; rfl) (by rfl) (by rfl) (by decide) ?_
          show wpAny _ _ (eval _ _) _ _ _
          (repeat' (first | (((fail_if_success (fail_if_success k_unfold)); first | (with_reducible refine (?_ : wpAny _ _ _ _ _ _)) | k_unfold); try dsimp only) | ((fail_if_success (fail_if_success (with_reducible refine ex1 (by constructor) ?_))); (fail_if_success (fail_if_success k_fold)); (with_reducible refine (?_ : let qk := _; let ek := _; wpAny _ _ _ qk ek _)); intro qk ek) | ((fail_if_success (with_reducible first | ((fail_if_success (refine go1 (by constructor) ?_)); refine st1 (by constructor) ?_) | show Exists _)); walk1; try dsimp only)))
          rename IsRange _ _ _ _ _ _ _ _ => hr
          rename Fr h₀ L _ _ => Fr1
          rename News h₀ L _ _ => Nr1
          refine comp_range (n := words.length) rfl (by decide) rfl rfl (sz_le (le12 hw12)) Fr1 Nr1 hr (small_n (hwll ▸ le12 hw12)) (rng_size (by rw [← hwv.length]; rfl))
            (fun q ys nw => nw7 = nw ∧ StrsAre ys ((List.range q).map fun k => nameS (wd words k) k)) ⟨rfl, .nil⟩ ?_ (post_none ?_)
          · intro k tk0 ys nw I oI C oC D5 mC h6 tk6 E3 hk hJ hC hx F6 N7 off ne
            (with_reducible refine (?_ : let G9 : Prop := _; G9)); intro G9
            obtain ⟨ek, hys⟩ := hJ
            subst ek
            k_unfold; clear G9
            refine forIn_nil0 ?_
            rw [if_pos rfl]
            rw [Int.zero_add] at hx
            clear hr
            have hk6 := Nat.lt_of_lt_of_le hk (Nat.le_trans hw12 (by decide : 12 ≤ 1000000))
            (repeat' (first | (((fail_if_success (fail_if_success k_unfold)); first | (with_reducible refine (?_ : wpAny _ _ _ _ _ _)) | k_unfold); try dsimp only) | ((fail_if_success (fail_if_success (with_reducible refine ex1 (by constructor) ?_))); (fail_if_success (fail_if_success k_fold)); (with_reducible refine (?_ : let qk := _; let ek := _; wpAny _ _ _ qk ek _)); intro qk ek) | ((fail_if_success (with_reducible first | ((fail_if_success (refine go1 (by constructor) ?_)); refine st1 (by constructor) ?_) | show Exists _)); walk1; try dsimp only)))
            refine name_spec (by k_asm) (by k_asm) (by k_asm) (by k_asm) (by k_asm) (by first | exact rfl | assumption) (by ktr_room) (by ktr_units) (wd_len hwl k) fun t8 h8 tk8 F8 N9 => ?_
            (repeat' (first | (((fail_if_success (fail_if_success k_unfold)); first | (with_reducible refine (?_ : wpAny _ _ _ _ _ _)) | k_unfold); try dsimp only) | ((fail_if_success (fail_if_success (with_reducible refine ex1 (by constructor) ?_))); (fail_if_success (fail_if_success k_fold)); (with_reducible refine (?_ : let qk := _; let ek := _; wpAny _ _ _ qk ek _)); intro qk ek) | ((fail_if_success (with_reducible first | ((fail_if_success (refine go1 (by constructor) ?_)); refine st1 (by constructor) ?_) | show Exists _)); walk1; try dsimp only)))
            exact ⟨_, _, _, _, _, rfl, by k_asm, by k_asm, hC, off, rfl, by rw [List.range_succ, List.map_append]; exact strs_snoc hys _ _⟩
          · intro D5 nvs nw h6 tk6 F6 N7 off hJ
            (with_reducible refine (?_ : let G9 : Prop := _; G9)); intro G9
            obtain ⟨ek, hnv⟩ := hJ
            subst ek
            k_unfold; clear G9
            try dsimp only
            replace hnv : StrsAre nvs (namesL words) := hnv
            replace O := O.cons (p := (D5, lst nvs)) (off1_mem off)
            generalize hq5 : (D5, lst nvs) :: nw7 = nw8 at N7 O
            clear hq5 off hWl hWc Fr1 Nr1 hr
            refine storeX_C F6 N7 rfl (updF_setN O.nd (O.here _ (.tail _ (.tail _ (.tail _ (.tail _ (.tail _ (.head _)))))))) d4 (fun h7 o4' F7 N8 d4' => ?_) rfl rfl
            replace O := O.set (pre := [_, _, _, _, _]) o4'
            generalize hq6 : setN (L + 1 + 1 + 1 + 1) o4' nw8 = nw9 at N8 O
            clear hq6 N7 F6
            have hWc := O.here _ (.tail _ (.tail _ (.tail _ (.tail _ (.tail _ (.tail _ (.head _)))))))
            (repeat' (first | (((fail_if_success (fail_if_success k_unfold)); first | (with_reducible refine (?_ : wpAny _ _ _ _ _ _)) | k_unfold); try dsimp only) | ((fail_if_success (fail_if_success (with_reducible refine ex1 (by constructor) ?_))); (fail_if_success (fail_if_success k_fold)); (with_reducible refine (?_ : let qk := _; let ek := _; wpAny _ _ _ qk ek _)); intro qk ek) | ((fail_if_success (with_reducible first | ((fail_if_success (refine go1 (by constructor) ?_)); refine st1 (by constructor) ?_) | show Exists _)); walk1; try dsimp only)))
            refine assign_LC (by rfl) (by intro _; rfl) (by rfl) rfl (by decide) ?_
            (repeat' (first | (((fail_if_success (fail_if_success k_unfold)); first | (with_reducible refine (?_ : wpAny _ _ _ _ _ _)) | k_unfold); try dsimp only) | ((fail_if_success (fail_if_success (with_reducible refine ex1 (by constructor) ?_))); (fail_if_success (fail_if_success k_fold)); (with_reducible refine (?_ : let qk := _; let ek := _; wpAny _ _ _ qk ek _)); intro qk ek) | ((fail_if_success (with_reducible first | ((fail_if_success (refine go1 (by constructor) ?_)); refine st1 (by constructor) ?_) | show Exists _)); walk1; try dsimp only)))
            refine comp_listX (its := wvs.toArray) rfl (by decide) rfl rfl (sz_le (by rw [hwsz]; exact le12 hw12)) F7 N8 (.inr ⟨_, O.here _ (.tail _ (.head _)), rfl, _, rfl⟩)
              (fun q ys nw => (∀ p ∈ nw9, p ∈ nw) ∧ RecsAre nw ys (words.take q)) (fun _ _ _ h => .inr ⟨_, h.1 _ (O.here _ (.tail _ (.head _))), rfl, _, rfl⟩) ⟨fun _ h => h, rfl, fun i a b h => by cases h⟩ ?_ (post_some rfl rfl rfl ?_)
            · intro i v ys nw I oI C oC D6 mC h8 tk8 E3 hi hv hJ hC hx F8 N9 off ne
              (with_reducible refine (?_ : let G9 : Prop := _; G9)); intro G9
              obtain ⟨hsub, hys⟩ := hJ
              rw [List.getElem?_toArray] at hv
              obtain ⟨x, tx, rfl, hwx⟩ := strs_at hwv hv
              k_unfold; clear G9
              refine forIn_nil0 ?_
              rw [if_pos rfl]
              (repeat' (first | (((fail_if_success (fail_if_success k_unfold)); first | (with_reducible refine (?_ : wpAny _ _ _ _ _ _)) | k_unfold); try dsimp only) | ((fail_if_success (fail_if_success (with_reducible refine ex1 (by constructor) ?_))); (fail_if_success (fail_if_success k_fold)); (with_reducible refine (?_ : let qk := _; let ek := _; wpAny _ _ _ qk ek _)); intro qk ek) | ((fail_if_success (with_reducible first | ((fail_if_success (refine go1 (by constructor) ?_)); refine st1 (by constructor) ?_) | show Exists _)); walk1; try dsimp only)))
              rename Addr => U
              rename _ ∧ _ ∧ _ ∧ AllLt U nw => lU
              refine record_spec (by k_asm) (by k_asm) (by k_asm) (by k_asm) (by k_asm) (by first | exact rfl | assumption) (by ktr_room) (by ktr_units) fun e9 ow h9 tk9 F9 N10 hrec hlt => ?_
              (repeat' (first | (((fail_if_success (fail_if_success k_unfold)); first | (with_reducible refine (?_ : wpAny _ _ _ _ _ _)) | k_unfold); try dsimp only) | ((fail_if_success (fail_if_success (with_reducible refine ex1 (by constructor) ?_))); (fail_if_success (fail_if_success k_fold)); (with_reducible refine (?_ : let qk := _; let ek := _; wpAny _ _ _ qk ek _)); intro qk ek) | ((fail_if_success (with_reducible first | ((fail_if_success (refine go1 (by constructor) ?_)); refine st1 (by constructor) ?_) | show Exists _)); walk1; try dsimp only)))
              obtain ⟨n1, n2⟩ := rec_end off lU hlt
              exact ⟨_, _, ow ++ (U, W.listOf #[Value.str (Str.ofString "*") tk8, Value.str x tx] 0) :: nw, oC, mC, rfl, by k_asm, news_sub N10 n2, hC, n1, fun p hp => List.mem_append_right _ (.tail _ (hsub p hp)), by
                rw [take_snoc hwx]
                exact al2_snoc (recs_mono (fun p hp => List.mem_append_right _ (.tail _ hp)) hys) ⟨e9, U, _, _, ow, rfl, hrec, fun p hp => List.mem_append_left _ hp, List.mem_append_right _ (.head _), .cons _ _ (.cons _ _ .nil)⟩⟩
            · intro D6 rcs nwr h8 tk8 F8 N9 off hJ
              (with_reducible refine (?_ : let G9 : Prop := _; G9)); intro G9
              obtain ⟨hsub, hrc⟩ := hJ
              obtain ⟨nw10, hnd10, hm10⟩ := nodup_news N9
              k_unfold; clear G9
              try dsimp only
              rw [List.take_of_length_le (by rw [hwsz]; exact Nat.le_refl _)] at hrc
              replace N9 : News h₀ L h8 nw10 := fun p hp => N9 p ((hm10 p).mp hp)
              replace O := (O.grow hnd10 fun p hp => (hm10 p).mpr (.tail _ (hsub p hp)))
              replace hrc := recs_mono (fun p hp => (hm10 p).mpr (.tail _ hp)) hrc
              have hD6 := (hm10 (D6, lst rcs)).mpr (.head _)
              clear hm10 hnd10 hsub off hWc N8 F7
              have hWc := O.here _ (.tail _ (.tail _ (.tail _ (.tail _ (.tail _ (.tail _ (.head _)))))))
              (repeat' (first | (((fail_if_success (fail_if_success k_unfold)); first | (with_reducible refine (?_ : wpAny _ _ _ _ _ _)) | k_unfold); try dsimp only) | ((fail_if_success (fail_if_success (with_reducible refine ex1 (by constructor) ?_))); (fail_if_success (fail_if_success k_fold)); (with_reducible refine (?_ : let qk := _; let ek := _; wpAny _ _ _ qk ek _)); intro qk ek) | ((fail_if_success (with_reducible first | ((fail_if_success (refine go1 (by constructor) ?_)); refine st1 (by constructor) ?_) | show Exists _)); walk1; try dsimp only)))
              refine wpAny_Assign_Name ?_
              rw [eval_ListComp]
              refine wpAny_comprehension_free (use := none) rfl (by intro _; rfl) (by rfl) (by rfl) (by decide) ?_
              show wpAny _ _ (eval _ _) _ _ _
              (repeat' (first | (((fail_if_success (fail_if_success k_unfold)); first | (with_reducible refine (?_ : wpAny _ _ _ _ _ _)) | k_unfold); try dsimp only) | ((fail_if_success (fail_if_success (with_reducible refine ex1 (by constructor) ?_))); (fail_if_success (fail_if_success k_fold)); (with_reducible refine (?_ : let qk := _; let ek := _; wpAny _ _ _ qk ek _)); intro qk ek) | ((fail_if_success (with_reducible first | ((fail_if_success (refine go1 (by constructor) ?_)); refine st1 (by constructor) ?_) | show Exists _)); walk1; try dsimp only)))
              refine comp_listX (its := wvs.toArray) rfl (by decide) rfl rfl (sz_le (by rw [hwsz]; exact le12 hw12)) F8 N9 (.inr ⟨_, O.here _ (.tail _ (.head _)), rfl, _, rfl⟩)
                (fun q ys nw => nw10 = nw ∧ StrsAre ys ((words.take q).map smallS)) (fun _ _ _ h => by rw [← h.1]; exact .inr ⟨_, O.here _ (.tail _ (.head _)), rfl, _, rfl⟩) ⟨rfl, .nil⟩ ?_ (post_none ?_)
              · intro i v ys nw I oI C oC D7 mC h9 tk9 E3 hi hv hJ hC hx F9 N10 off ne
                (with_reducible refine (?_ : let G9 : Prop := _; G9)); intro G9
                obtain ⟨ek, hys⟩ := hJ
                subst ek
                rw [List.getElem?_toArray] at hv
                obtain ⟨x, tx, rfl, hwx⟩ := strs_at hwv hv
                k_unfold; clear G9
                refine forIn_nil0 ?_
                rw [if_pos rfl]
                (repeat' (first | (((fail_if_success (fail_if_success k_unfold)); first | (with_reducible refine (?_ : wpAny _ _ _ _ _ _)) | k_unfold); try dsimp only) | ((fail_if_success (fail_if_success (with_reducible refine ex1 (by constructor) ?_))); (fail_if_success (fail_if_success k_fold)); (with_reducible refine (?_ : let qk := _; let ek := _; wpAny _ _ _ qk ek _)); intro qk ek) | ((fail_if_success (with_reducible first | ((fail_if_success (refine go1 (by constructor) ?_)); refine st1 (by constructor) ?_) | show Exists _)); walk1; try dsimp only)))
                refine small_spec (by k_asm) (by k_asm) (by k_asm) (by k_asm) (by k_asm) (by first | exact rfl | assumption) (by ktr_room) (by ktr_units) (hwl x (List.mem_of_getElem? hwx)) (fun i c h => (sign_lt (hwa x (List.mem_of_getElem? hwx) i c h)).1) fun t10 h10 tk10 F10 N11 => ?_
                (repeat' (first | (((fail_if_success (fail_if_success k_unfold)); first | (with_reducible refine (?_ : wpAny _ _ _ _ _ _)) | k_unfold); try dsimp only) | ((fail_if_success (fail_if_success (with_reducible refine ex1 (by constructor) ?_))); (fail_if_success (fail_if_success k_fold)); (with_reducible refine (?_ : let qk := _; let ek := _; wpAny _ _ _ qk ek _)); intro qk ek) | ((fail_if_success (with_reducible first | ((fail_if_success (refine go1 (by constructor) ?_)); refine st1 (by constructor) ?_) | show Exists _)); walk1; try dsimp only)))
                exact ⟨_, _, _, _, _, rfl, by k_asm, by k_asm, hC, off, rfl, by rw [take_snoc hwx, List.map_append]; exact strs_snoc hys _ _⟩
              · intro D7 smv nw h9 tk9 F9 N10 off hJ
                (with_reducible refine (?_ : let G9 : Prop := _; G9)); intro G9
                obtain ⟨ek, hsm⟩ := hJ
                subst ek
                k_unfold; clear G9
                try dsimp only
                rw [List.take_of_length_le (by rw [hwsz]; exact Nat.le_refl _)] at hsm
                replace O := O.cons (p := (D7, lst smv)) (off1_mem off)
                replace hrc := recs_mono (fun p hp => .tail (D7, lst smv) hp) hrc
                replace hD6 : (D6, lst rcs) ∈ (D7, lst smv) :: nw10 := .tail _ hD6
                generalize hq5 : (D7, lst smv) :: nw10 = nw11 at N10 O hrc hD6
                clear hq5 off hWc N9 F8
                refine storeX_C F9 N10 rfl (updF_setN O.nd (O.here _ (.tail _ (.tail _ (.tail _ (.tail _ (.tail _ (.head _)))))))) d5 (fun h10 o5' F10 N11 d5' => ?_) rfl rfl
                replace hrc := recs_set (o' := o5') N10 (O.here _ (.tail _ (.tail _ (.tail _ (.tail _ (.tail _ (.head _))))))) d5 hrc
                replace hD6 := mem_setN_ne (o := o5') hD6 (ne_cell N10 (O.here _ (.tail _ (.tail _ (.tail _ (.tail _ (.tail _ (.head _))))))) d5 hD6 fun _ q => by cases q)
                replace O := O.set (pre := [_, _, _, _, _]) o5'
                generalize hq6 : setN (L + 1 + 1 + 1 + 1 + 1) o5' nw11 = nw12 at N11 O hrc hD6
                clear hq6 N10 F9 d1 d2 d3 d4 d5
                have hNc := O.here _ (.tail _ (.tail _ (.tail _ (.tail _ (.tail _ (.tail _ (.head _)))))))
                have hNl := O.here _ (.tail _ (.head _))
                have hSc := O.here _ (.tail _ (.tail _ (.tail _ (.tail _ (.tail _ (.head _))))))
                have hSl := O.here _ (.head _)
                (repeat' (first | (((fail_if_success (fail_if_success k_unfold)); first | (with_reducible refine (?_ : wpAny _ _ _ _ _ _)) | k_unfold); try dsimp only) | ((fail_if_success (fail_if_success (with_reducible refine ex1 (by constructor) ?_))); (fail_if_success (fail_if_success k_fold)); (with_reducible refine (?_ : let qk := _; let ek := _; wpAny _ _ _ qk ek _)); intro qk ek) | ((fail_if_success (with_reducible first | ((fail_if_success (refine go1 (by constructor) ?_)); refine st1 (by constructor) ?_) | show Exists _)); walk1; try dsimp only)))
                rw [eval_ListComp]
                refine wpAny_comprehension_free (use := none) rfl (by intro _; rfl) (by rfl) (by rfl) (by decide) ?_
                show wpAny _ _ (eval _ _) _ _ _
                (repeat' (first | (((fail_if_success (fail_if_success k_unfold)); first | (with_reducible refine (?_ : wpAny _ _ _ _ _ _)) | k_unfold); try dsimp only) | ((fail_if_success (fail_if_success (with_reducible refine ex1 (by constructor) ?_))); (fail_if_success (fail_if_success k_fold)); (with_reducible refine (?_ : let qk := _; let ek := _; wpAny _ _ _ qk ek _)); intro qk ek) | ((fail_if_success (with_reducible first | ((fail_if_success (refine go1 (by constructor) ?_)); refine st1 (by constructor) ?_) | show Exists _)); walk1; try dsimp only)))
                have hrl : rcs.length = words.length := hrc.1
                refine comp_listC (its := rcs.toArray) rfl (fun _ _ => rfl) (fun _ => rfl) rfl rfl (sz_le (by rw [List.size_toArray, hrl]; exact le12 hw12)) F10 N11 (.inr ⟨_, hD6, rfl, _, rfl⟩)
                  (fun q ys nw => (∀ p ∈ nw12, p ∈ nw) ∧ Al2 (BoolsL nw) ys ((List.range q).map (wRow words))) (fun _ _ _ h => .inr ⟨_, h.1 _ hD6, rfl, _, rfl⟩) ⟨fun _ h => h, rfl, fun i a b h => by cases h⟩ ?_ (fun X => post_none ?_)
                · intro j v ys nwd Id oId C oC D8 X oX mC h11 tk11 E3 hj hv hJ hC F11 hdX N12 off offX ne
                  (with_reducible refine (?_ : let G9 : Prop := _; G9)); intro G9
                  obtain ⟨hsub, hal⟩ := hJ
                  rw [List.size_toArray, hrl] at hj
                  rw [List.getElem?_toArray] at hv
                  obtain ⟨wj, hwj⟩ : ∃ x, words[j]? = some x := ⟨_, List.getElem?_eq_getElem hj⟩
                  obtain ⟨e, u, us, c, ow, rfl, ⟨d, r, k1, k2, k3, k4, t1, t2, t3, t4, he, hdd⟩, how, hu, hst⟩ := hrc.2 j _ _ hv hwj
                  k_unfold; clear G9
                  refine forIn_nil0 ?_
                  rw [if_pos rfl, eval_ListComp]
                  refine wpAny_comprehension_free (use := none) rfl (by intro _; rfl) (by rfl) (by rfl) (by decide) ?_
                  show wpAny _ _ (eval _ _) _ _ _
                  have hNc := hsub _ hNc
                  have hNl := hsub _ hNl
                  have he := hsub _ (how _ he)
                  have hdd := hsub _ (how _ hdd)
                  have hu := hsub _ hu
                  (repeat' (first | (((fail_if_success (fail_if_success k_unfold)); first | (with_reducible refine (?_ : wpAny _ _ _ _ _ _)) | k_unfold); try dsimp only) | ((fail_if_success (fail_if_success (with_reducible refine ex1 (by constructor) ?_))); (fail_if_success (fail_if_success k_fold)); (with_reducible refine (?_ : let qk := _; let ek := _; wpAny _ _ _ qk ek _)); intro qk ek) | ((fail_if_success (with_reducible first | ((fail_if_success (refine go1 (by constructor) ?_)); refine st1 (by constructor) ?_) | show Exists _)); walk1; try dsimp only)))
                  have hnl2 : nvs.length = words.length := hnv.length.trans hnn
                  refine comp_listX (its := nvs.toArray) rfl (by decide) rfl rfl (sz_le (by rw [List.size_toArray, hnl2]; exact le12 hw12)) F11 N12 (.inr ⟨_, .tail _ (.tail _ (.tail _ (.tail _ hNl))), rfl, _, rfl⟩)
                    (fun q zs nw => (Id, oId) :: (C, oC) :: (D8, lst ys) :: (X, oX) :: nwd = nw ∧ zs = ((List.range q).map (wTab words j)).map Value.bool) (fun _ _ _ h => by rw [← h.1]; exact .inr ⟨_, .tail _ (.tail _ (.tail _ (.tail _ hNl))), rfl, _, rfl⟩) ⟨rfl, rfl⟩ ?_ (post_none ?_)
                  · intro k v zs nwk Ik oIk Ck oCk Dk mCk h12 tk12 E4 hk hv hJ hCk hxk F12 N13 offk nek
                    (with_reducible refine (?_ : let G9 : Prop := _; G9)); intro G9
                    obtain ⟨ek, hzs⟩ := hJ
                    subst ek
                    rw [List.size_toArray, hnl2] at hk
                    rw [List.getElem?_toArray] at hv
                    obtain ⟨x, tx, rfl, hnx⟩ := strs_at hnv hv
                    k_unfold; clear G9
                    refine forIn_nil0 ?_
                    rw [if_pos rfl]
                    (repeat' (first | (((fail_if_success (fail_if_success k_unfold)); first | (with_reducible refine (?_ : wpAny _ _ _ _ _ _)) | k_unfold); try dsimp only) | ((fail_if_success (fail_if_success (with_reducible refine ex1 (by constructor) ?_))); (fail_if_success (fail_if_success k_fold)); (with_reducible refine (?_ : let qk := _; let ek := _; wpAny _ _ _ qk ek _)); intro qk ek) | ((fail_if_success (with_reducible first | ((fail_if_success (refine go1 (by constructor) ?_)); refine st1 (by constructor) ?_) | show Exists _)); walk1; try dsimp only)))
                    refine applies_spec (by k_asm) (by k_asm) (by k_asm) (by k_asm) (by k_asm) (by first | exact rfl | assumption) (by ktr_room) (by ktr_units) (.tail _ (.tail _ (.tail _ (.tail _ (.tail _ (.tail _ (.tail _ he))))))) (.tail _ (.tail _ (.tail _ (.tail _ (.tail _ (.tail _ (.tail _ hdd))))))) (.tail _ (.tail _ (.tail _ (.tail _ (.tail _ (.tail _ (.tail _ hu))))))) hst (hnl _ (List.mem_of_getElem? hnx)) (agl_two (hwl _ (List.mem_of_getElem? hwj))) fun y0 h13 tk13 hy F13 N14 => ?_
                    rw [app_any hwa hj hk hnx hwj hy]
                    (repeat' (first | (((fail_if_success (fail_if_success k_unfold)); first | (with_reducible refine (?_ : wpAny _ _ _ _ _ _)) | k_unfold); try dsimp only) | ((fail_if_success (fail_if_success (with_reducible refine ex1 (by constructor) ?_))); (fail_if_success (fail_if_success k_fold)); (with_reducible refine (?_ : let qk := _; let ek := _; wpAny _ _ _ qk ek _)); intro qk ek) | ((fail_if_success (with_reducible first | ((fail_if_success (refine go1 (by constructor) ?_)); refine st1 (by constructor) ?_) | show Exists _)); walk1; try dsimp only)))
                    exact ⟨_, _, _, _, _, rfl, by k_asm, by k_asm, hCk, offk, rfl, bools_snoc hzs⟩
                  · intro D9 zs nwk h12 tk12 F12 N13 off9 hJ
                    (with_reducible refine (?_ : let G9 : Prop := _; G9)); intro G9
                    obtain ⟨ek, hzs⟩ := hJ
                    subst ek
                    k_unfold; clear G9
                    rw [List.size_toArray, hnl2] at hzs
                    obtain ⟨n1, n2, n3, n4⟩ := nest_off (o4 := lst zs) off off9 offX
                    exact ⟨_, _, (X, oX) :: (D9, lst zs) :: nwd, oC, mC, rfl, F12, news_sub N13 n4, hC, n1, oX, _, (D9, lst zs) :: nwd, rfl, hdX, n2, fun p hp => .tail _ (hsub p hp), by
                      rw [List.range_succ, List.map_append]
                      exact al2_snoc (bools_mono (fun p hp => .tail _ hp) hal) ⟨D9, _, _, rfl, .head _, hzs⟩⟩
                · intro D8 rws nwf h11 tk11 F11 N12 off8 hJ
                  (with_reducible refine (?_ : let G9 : Prop := _; G9)); intro G9
                  obtain ⟨oX, v0, nw13, rfl, hdX, offX, hsub, hal⟩ := hJ
                  k_unfold; clear G9
                  try dsimp only
                  rw [List.size_toArray, hrl] at hal
                  replace hal := bools_mono (fun p hp => .tail (D8, lst rws) (.tail (X, oX) hp)) hal
                  replace hsub : ∀ p ∈ nw12, p ∈ (D8, lst rws) :: (X, oX) :: nw13 := fun p hp => .tail _ (.tail _ (hsub p hp))
                  have hD8 : (D8, lst rws) ∈ (D8, lst rws) :: (X, oX) :: nw13 := .head _
                  generalize hq7 : (D8, lst rws) :: (X, oX) :: nw13 = nw14 at N12 hsub hal hD8
                  clear hq7 hdX offX off8
                  have hSc := hsub _ hSc
                  have hSl := hsub _ hSl
                  (repeat' (first | (((fail_if_success (fail_if_success k_unfold)); first | (with_reducible refine (?_ : wpAny _ _ _ _ _ _)) | k_unfold); try dsimp only) | ((fail_if_success (fail_if_success (with_reducible refine ex1 (by constructor) ?_))); (fail_if_success (fail_if_success k_fold)); (with_reducible refine (?_ : let qk := _; let ek := _; wpAny _ _ _ qk ek _)); intro qk ek) | ((fail_if_success (with_reducible first | ((fail_if_success (refine go1 (by constructor) ?_)); refine st1 (by constructor) ?_) | show Exists _)); walk1; try dsimp only)))
                  rw [eval_ListComp]
                  refine wpAny_comprehension_free (use := none) rfl (by intro _; rfl) (by rfl) (by rfl) (by decide) ?_
                  show wpAny _ _ (eval _ _) _ _ _
                  (repeat' (first | (((fail_if_success (fail_if_success k_unfold)); first | (with_reducible refine (?_ : wpAny _ _ _ _ _ _)) | k_unfold); try dsimp only) | ((fail_if_success (fail_if_success (with_reducible refine ex1 (by constructor) ?_))); (fail_if_success (fail_if_success k_fold)); (with_reducible refine (?_ : let qk := _; let ek := _; wpAny _ _ _ qk ek _)); intro qk ek) | ((fail_if_success (with_reducible first | ((fail_if_success (refine go1 (by constructor) ?_)); refine st1 (by constructor) ?_) | show Exists _)); walk1; try dsimp only)))
                  have hsl : (words.map smallS).length = words.length := List.length_map ..
                  have hsl2 : smv.length = words.length := hsm.length.trans hsl
                  have hsml : ∀ k, (wd (words.map smallS) k).length ≤ 100 := wd_len fun x hx => by
                    obtain ⟨y, hy, rfl⟩ := List.mem_map.mp hx
                    exact Nat.le_trans (Nat.le_of_eq (small_len y)) (hwl y hy)
                  refine comp_listC (its := smv.toArray) rfl (fun _ _ => rfl) (fun _ => rfl) rfl rfl (sz_le (by rw [List.size_toArray, hsl2]; exact le12 hw12)) F11 N12 (.inr ⟨_, hSl, rfl, _, rfl⟩)
                    (fun q ys nw => (∀ p ∈ nw14, p ∈ nw) ∧ Al2 (BoolsL nw) ys ((List.range q).map (wRow words))) (fun _ _ _ h => .inr ⟨_, h.1 _ hSl, rfl, _, rfl⟩) ⟨fun _ h => h, rfl, fun i a b h => by cases h⟩ ?_ (fun X => post_none ?_)
                  · intro j v ys nwd Id oId C oC D9 X oX mC h12 tk12 E3 hj hv hJ hC F12 hdX N13 off offX ne
                    (with_reducible refine (?_ : let G9 : Prop := _; G9)); intro G9
                    obtain ⟨hsub2, hal2⟩ := hJ
                    rw [List.size_toArray, hsl2] at hj
                    rw [List.getElem?_toArray] at hv
                    obtain ⟨sj, tsj, rfl, hsj⟩ := strs_at hsm hv
                    obtain rfl : wd (words.map smallS) j = sj := by unfold wd; rw [List.getD_eq_getElem?_getD, hsj]; rfl
                    k_unfold; clear G9
                    refine forIn_nil0 ?_
                    rw [if_pos rfl, eval_ListComp]
                    refine wpAny_comprehension_free (use := none) rfl (by intro _; rfl) (by rfl) (by rfl) (by decide) ?_
                    show wpAny _ _ (eval _ _) _ _ _
                    have hSc := hsub2 _ hSc
                    have hSl := hsub2 _ hSl
                    (repeat' (first | (((fail_if_success (fail_if_success k_unfold)); first | (with_reducible refine (?_ : wpAny _ _ _ _ _ _)) | k_unfold); try dsimp only) | ((fail_if_success (fail_if_success (with_reducible refine ex1 (by constructor) ?_))); (fail_if_success (fail_if_success k_fold)); (with_reducible refine (?_ : let qk := _; let ek := _; wpAny _ _ _ qk ek _)); intro qk ek) | ((fail_if_success (with_reducible first | ((fail_if_success (refine go1 (by constructor) ?_)); refine st1 (by constructor) ?_) | show Exists _)); walk1; try dsimp only)))
                    refine comp_listX (its := smv.toArray) rfl (by decide) rfl rfl (sz_le (by rw [List.size_toArray, hsl2]; exact le12 hw12)) F12 N13 (.inr ⟨_, .tail _ (.tail _ (.tail _ (.tail _ hSl))), rfl, _, rfl⟩)
                      (fun q zs nw => (Id, oId) :: (C, oC) :: (D9, lst ys) :: (X, oX) :: nwd = nw ∧ zs = ((List.range q).map (wTab words j)).map Value.bool) (fun _ _ _ h => by rw [← h.1]; exact .inr ⟨_, .tail _ (.tail _ (.tail _ (.tail _ hSl))), rfl, _, rfl⟩) ⟨rfl, rfl⟩ ?_ (post_none ?_)
                    · intro k v zs nwk Ik oIk Ck oCk Dk mCk h13 tk13 E4 hk hv hJ hCk hxk F13 N14 offk nek
                      (with_reducible refine (?_ : let G9 : Prop := _; G9)); intro G9
                      obtain ⟨ek, hzs⟩ := hJ
                      subst ek
                      rw [List.size_toArray, hsl2] at hk
                      rw [List.getElem?_toArray] at hv
                      obtain ⟨sk, tsk, rfl, hsk⟩ := strs_at hsm hv
                      obtain rfl : wd (words.map smallS) k = sk := by unfold wd; rw [List.getD_eq_getElem?_getD, hsk]; rfl
                      k_unfold; clear G9
                      refine forIn_nil0 ?_
                      rw [if_pos rfl]
                      (repeat' (first | (((fail_if_success (fail_if_success k_unfold)); first | (with_reducible refine (?_ : wpAny _ _ _ _ _ _)) | k_unfold); try dsimp only) | ((fail_if_success (fail_if_success (with_reducible refine ex1 (by constructor) ?_))); (fail_if_success (fail_if_success k_fold)); (with_reducible refine (?_ : let qk := _; let ek := _; wpAny _ _ _ qk ek _)); intro qk ek) | ((fail_if_success (with_reducible first | ((fail_if_success (refine go1 (by constructor) ?_)); refine st1 (by constructor) ?_) | show Exists _)); walk1; try dsimp only)))
                      refine within_spec (by k_asm) (by k_asm) (by k_asm) (by k_asm) (by k_asm) (by first | exact rfl | assumption) (by ktr_room) (by ktr_units) (hsml j) (hsml k) fun h14 tk14 F14 N15 => ?_
                      (repeat' (first | (((fail_if_success (fail_if_success k_unfold)); first | (with_reducible refine (?_ : wpAny _ _ _ _ _ _)) | k_unfold); try dsimp only) | ((fail_if_success (fail_if_success (with_reducible refine ex1 (by constructor) ?_))); (fail_if_success (fail_if_success k_fold)); (with_reducible refine (?_ : let qk := _; let ek := _; wpAny _ _ _ qk ek _)); intro qk ek) | ((fail_if_success (with_reducible first | ((fail_if_success (refine go1 (by constructor) ?_)); refine st1 (by constructor) ?_) | show Exists _)); walk1; try dsimp only)))
                      exact ⟨_, _, _, _, _, rfl, by k_asm, by k_asm, hCk, offk, rfl, bools_snoc hzs⟩
                    · intro D10 zs nwk h13 tk13 F13 N14 off10 hJ
                      (with_reducible refine (?_ : let G9 : Prop := _; G9)); intro G9
                      obtain ⟨ek, hzs⟩ := hJ
                      subst ek
                      k_unfold; clear G9
                      rw [List.size_toArray, hsl2] at hzs
                      obtain ⟨n1, n2, n3, n4⟩ := nest_off (o4 := lst zs) off off10 offX
                      exact ⟨_, _, (X, oX) :: (D10, lst zs) :: nwd, oC, mC, rfl, F13, news_sub N14 n4, hC, n1, oX, _, (D10, lst zs) :: nwd, rfl, hdX, n2, fun p hp => .tail _ (hsub2 p hp), by
                        rw [List.range_succ, List.map_append]
                        exact al2_snoc (bools_mono (fun p hp => .tail _ hp) hal2) ⟨D10, _, _, rfl, .head _, hzs⟩⟩
                  · intro D9 sws nwf h12 tk12 F12 N13 off9 hJ
                    (with_reducible refine (?_ : let G9 : Prop := _; G9)); intro G9
                    obtain ⟨oX, v0, nw15, rfl, hdX, offX, hsub2, hal2⟩ := hJ
                    k_unfold; clear G9
                    try dsimp only
                    rw [List.size_toArray, hsl2] at hal2
                    refine ne_rd (d := .list (((List.range words.length).map (wRow words)).map dB)) (rd_matrix N13 (.tail _ (.tail _ (hsub2 _ hD8))) (bools_mono (fun p hp => .tail _ (.tail _ (hsub2 p hp))) hal)) (rd_matrix N13 (.head _) (bools_mono (fun p hp => .tail _ (.tail _ hp)) hal2)) (pl_up (k := 2) (pl_list (k := 1) (pl_map fun x _ => pl_dB x)) (by decide)) (un64 (b := 416) hu) ?_
                    clear hal hal2
                    replace hsub : ∀ p ∈ nw12, p ∈ (D9, lst sws) :: (X, oX) :: nw15 := fun p hp => .tail _ (.tail _ (hsub2 p (hsub p hp)))
                    obtain ⟨nw16, hnd16, hm16⟩ := nodup_news N13
                    replace N13 : News h₀ L h12 nw16 := fun p hp => N13 p ((hm16 p).mp hp)
                    replace hsub : ∀ p ∈ nw12, p ∈ nw16 := fun p hp => (hm16 p).mpr (hsub p hp)
                    replace O := O.grow hnd16 hsub
                    replace hrc := recs_mono hsub hrc
                    have hD6 := hsub _ hD6
                    clear hm16 hsub2 off9 hdX offX
                    obtain ⟨r0, hr0⟩ : ∃ r0, rcs[0]? = some r0 := ⟨_, List.getElem?_eq_getElem (hrl ▸ hwp)⟩
                    obtain ⟨w0, hw0⟩ : ∃ w0, words[0]? = some w0 := ⟨_, List.getElem?_eq_getElem hwp⟩
                    obtain ⟨e, u, us, c, ow, rfl, ⟨d, r, k1, k2, k3, k4, t1, t2, t3, t4, he, hdd⟩, how, hu, hst⟩ := hrc.2 0 _ _ hr0 hw0
                    have he := how _ he
                    have hdd := how _ hdd
                    have hNl := O.here _ (.tail _ (.head _))
                    have hSl := O.here _ (.head _)
                    have hWc := O.here _ (.tail _ (.tail _ (.tail _ (.tail _ (.tail _ (.tail _ (.tail _ (.head _))))))))
                    have hWl := O.here _ (.tail _ (.tail _ (.head _)))
                    have hNc := O.here _ (.tail _ (.tail _ (.tail _ (.tail _ (.tail _ (.tail _ (.head _)))))))
                    have hSc := O.here _ (.tail _ (.tail _ (.tail _ (.tail _ (.tail _ (.head _))))))
                    have hus2 : us.size ≤ 100 := by rw [← Array.length_toList, hst.length]; exact Nat.le_of_ble_eq_true rfl
                    obtain ⟨t0, ht0⟩ := strs_of hwv hw0
                    (repeat' (first | (((fail_if_success (fail_if_success k_unfold)); first | (with_reducible refine (?_ : wpAny _ _ _ _ _ _)) | k_unfold); try dsimp only) | ((fail_if_success (fail_if_success (with_reducible refine ex1 (by constructor) ?_))); (fail_if_success (fail_if_success k_fold)); (with_reducible refine (?_ : let qk := _; let ek := _; wpAny _ _ _ qk ek _)); intro qk ek) | ((fail_if_success (with_reducible show wpAny _ _ (subscriptTail _ _ _ _) _ _ _)); (fail_if_success (with_reducible first | ((fail_if_success (refine go1 (by constructor) ?_)); refine st1 (by constructor) ?_) | show Exists _)); walk1; try dsimp only)))
                    refine item_litK (vs := rcs) (k := 0) (News.isList N13 hD6) (by decide) (by decide) hr0 ?_
                    (repeat' (first | (((fail_if_success (fail_if_success k_unfold)); first | (with_reducible refine (?_ : wpAny _ _ _ _ _ _)) | k_unfold); try dsimp only) | ((fail_if_success (fail_if_success (with_reducible refine ex1 (by constructor) ?_))); (fail_if_success (fail_if_success k_fold)); (with_reducible refine (?_ : let qk := _; let ek := _; wpAny _ _ _ qk ek _)); intro qk ek) | ((fail_if_success (with_reducible first | ((fail_if_success (refine go1 (by constructor) ?_)); refine st1 (by constructor) ?_) | show Exists _)); walk1; try dsimp only)))
                    refine applies_none (by k_asm) (by k_asm) (by k_asm) (by k_asm) (by k_asm) (by first | exact rfl | assumption) (by ktr_room) (by ktr_units) he hdd hu hst hus2 fun h13 tk13 F13 N14 => ?_
                    rw [show [Str.ofString "*", w0].any (fun x => x == Str.ofString "*") = true by rw [List.any_cons, beq_self_eq_true, Bool.true_or]]
                    (repeat' (first | (((fail_if_success (fail_if_success k_unfold)); first | (with_reducible refine (?_ : wpAny _ _ _ _ _ _)) | k_unfold); try dsimp only) | ((fail_if_success (fail_if_success (with_reducible refine ex1 (by constructor) ?_))); (fail_if_success (fail_if_success k_fold)); (with_reducible refine (?_ : let qk := _; let ek := _; wpAny _ _ _ qk ek _)); intro qk ek) | ((fail_if_success (with_reducible show wpAny _ _ (subscriptTail _ _ _ _) _ _ _)); (fail_if_success (with_reducible first | ((fail_if_success (refine go1 (by constructor) ?_)); refine st1 (by constructor) ?_) | show Exists _)); walk1; try dsimp only)))
                    refine item_litK (vs := wvs) (k := 0) (News.isList N14 hWl) (by decide) (by decide) ht0 ?_
                    (repeat' (first | (((fail_if_success (fail_if_success k_unfold)); first | (with_reducible refine (?_ : wpAny _ _ _ _ _ _)) | k_unfold); try dsimp only) | ((fail_if_success (fail_if_success (with_reducible refine ex1 (by constructor) ?_))); (fail_if_success (fail_if_success k_fold)); (with_reducible refine (?_ : let qk := _; let ek := _; wpAny _ _ _ qk ek _)); intro qk ek) | ((fail_if_success (with_reducible first | ((fail_if_success (refine go1 (by constructor) ?_)); refine st1 (by constructor) ?_) | show Exists _)); walk1; try dsimp only)))
                    rename Addr => U
                    refine record_spec (by k_asm) (by k_asm) (by k_asm) (by k_asm) (by k_asm) (by first | exact rfl | assumption) (by ktr_room) (by ktr_units) fun e2 ow2 h14 tk14 F14 N15 hrec2 hlt2 => ?_
                    obtain ⟨dd2, r2, m1, m2, m3, m4, s1, s2, s3, s4, he2, hdd2⟩ := hrec2
                    have he2 := List.mem_append_left ((U, W.listOf #[Value.str w0 t0] 0) :: nw16) he2
                    have hdd2 := List.mem_append_left ((U, W.listOf #[Value.str w0 t0] 0) :: nw16) hdd2
                    have hu2 := List.mem_append_right ow2 (List.mem_cons_self (a := (U, W.listOf #[Value.str w0 t0] 0)) (l := nw16))
                    (repeat' (first | (((fail_if_success (fail_if_success k_unfold)); first | (with_reducible refine (?_ : wpAny _ _ _ _ _ _)) | k_unfold); try dsimp only) | ((fail_if_success (fail_if_success (with_reducible refine ex1 (by constructor) ?_))); (fail_if_success (fail_if_success k_fold)); (with_reducible refine (?_ : let qk := _; let ek := _; wpAny _ _ _ qk ek _)); intro qk ek) | ((fail_if_success (with_reducible first | ((fail_if_success (refine go1 (by constructor) ?_)); refine st1 (by constructor) ?_) | show Exists _)); walk1; try dsimp only)))
                    refine applies_none (by k_asm) (by k_asm) (by k_asm) (by k_asm) (by k_asm) (by first | exact rfl | assumption) (by ktr_room) (by ktr_units) he2 hdd2 hu2 (.cons _ _ .nil) (Nat.le_of_ble_eq_true rfl) fun h15 tk15 F15 N16 => ?_
                    rw [not_star (hwa w0 (List.mem_of_getElem? hw0))]
                    obtain ⟨nw17, hnd17, hm17⟩ := nodup_news N16
                    replace N16 : News h₀ L h15 nw17 := fun p hp => N16 p ((hm17 p).mp hp)
                    have hsub3 : ∀ p ∈ nw16, p ∈ nw17 := fun p hp => (hm17 p).mpr (List.mem_append_right _ (.tail _ hp))
                    clear hm17 he2 hdd2 hu2 hlt2 he hdd hu
                    replace O := O.grow hnd17 hsub3
                    replace hrc := recs_mono hsub3 hrc
                    have hD6 := hsub3 _ hD6
                    have hNl := O.here _ (.tail _ (.head _))
                    have hSl := O.here _ (.head _)
                    have hNc := O.here _ (.tail _ (.tail _ (.tail _ (.tail _ (.tail _ (.tail _ (.head _)))))))
                    have hSc := O.here _ (.tail _ (.tail _ (.tail _ (.tail _ (.tail _ (.head _))))))
                    clear hsub3
                    (repeat' (first | (((fail_if_success (fail_if_success k_unfold)); first | (with_reducible refine (?_ : wpAny _ _ _ _ _ _)) | k_unfold); try dsimp only) | ((fail_if_success (fail_if_success (with_reducible refine ex1 (by constructor) ?_))); (fail_if_success (fail_if_success k_fold)); (with_reducible refine (?_ : let qk := _; let ek := _; wpAny _ _ _ qk ek _)); intro qk ek) | ((fail_if_success (with_reducible first | ((fail_if_success (refine go1 (by constructor) ?_)); refine st1 (by constructor) ?_) | show Exists _)); walk1; try dsimp only)))
                    refine run_spec (by k_asm) (by k_asm) (by k_asm) (by k_asm) (by k_asm) (by first | exact rfl | assumption) (by ktr_room) (by ktr_units) XB TB D hNl hnv hD6 hrc hnn hw12 hwp hnd17 hnl hwl fun T9 ring rounds nw18 h₀' h16 tk16 kT kB kX kP kD F16 N17 hsub5 htr hrun hr1 hr2 => ?_
                    obtain ⟨e1, e2⟩ := due_run hwa hw5 hrun hr1 hr2
                    obtain ⟨nw19, hnd19, hm19⟩ := nodup_news N17
                    replace N17 : News h₀' L h16 nw19 := fun p hp => N17 p ((hm19 p).mp hp)
                    replace htr := trip_mono (fun p hp => (hm19 p).mpr hp) htr
                    have hSc := (hm19 _).mpr (hsub5 _ hSc)
                    have hSl := (hm19 _).mpr (hsub5 _ hSl)
                    clear hm19 hsub5 hNc hNl hD6 hrc O hrun hr1 hr2
                    (repeat' (first | (((fail_if_success (fail_if_success k_unfold)); first | (with_reducible refine (?_ : wpAny _ _ _ _ _ _)) | k_unfold); try dsimp only) | ((fail_if_success (fail_if_success (with_reducible refine ex1 (by constructor) ?_))); (fail_if_success (fail_if_success k_fold)); (with_reducible refine (?_ : let qk := _; let ek := _; wpAny _ _ _ qk ek _)); intro qk ek) | ((fail_if_success (with_reducible first | ((fail_if_success (refine go1 (by constructor) ?_)); refine st1 (by constructor) ?_) | show Exists _)); walk1; try dsimp only)))
                    refine due_spec (by k_asm) (by k_asm) (by k_asm) (by k_asm) (by k_asm) (by first | exact rfl | assumption) (by ktr_room) (by ktr_units) hSl hsm hnd19 (hsl.symm ▸ hw12) (hsl.symm ▸ hwp) (fun x hx => ?_) fun T10 nw20 h17 tk17 F17 N18 hsub6 htr2 => ?_
                    · obtain ⟨y, hy, rfl⟩ := List.mem_map.mp hx
                      exact Nat.le_trans (Nat.le_of_eq (small_len y)) (hwl y hy)
                    rw [e1, e2] at htr2
                    (repeat' (first | (((fail_if_success (fail_if_success k_unfold)); first | (with_reducible refine (?_ : wpAny _ _ _ _ _ _)) | k_unfold); try dsimp only) | ((fail_if_success (fail_if_success (with_reducible refine ex1 (by constructor) ?_))); (fail_if_success (fail_if_success k_fold)); (with_reducible refine (?_ : let qk := _; let ek := _; wpAny _ _ _ qk ek _)); intro qk ek) | ((fail_if_success (with_reducible first | ((fail_if_success (refine go1 (by constructor) ?_)); refine st1 (by constructor) ?_) | show Exists _)); walk1; try dsimp only)))
                    refine eq_rd (d := dT ring true rounds) (rd_trip N18 (trip_mono hsub6 htr)) (rd_trip N18 htr2) (pl_up (pl_dT _ _ _) (by decide)) (un64 (b := 416) hu) ?_
                    (repeat' (first | (((fail_if_success (fail_if_success k_unfold)); first | (with_reducible refine (?_ : wpAny _ _ _ _ _ _)) | k_unfold); try dsimp only) | ((fail_if_success (fail_if_success (with_reducible refine ex1 (by constructor) ?_))); (fail_if_success (fail_if_success k_fold)); (with_reducible refine (?_ : let qk := _; let ek := _; wpAny _ _ _ qk ek _)); intro qk ek) | ((fail_if_success (with_reducible first | ((fail_if_success (refine go1 (by constructor) ?_)); refine st1 (by constructor) ?_) | show Exists _)); walk1; try dsimp only)))
                    exact hret _ _ _ _ _ kT F17 N18
end
section
set_option maxHeartbeats 4000000
theorem law_walk {d : DefRec} {kwd : List (Str × Expr)} (hdef : defOf Mine.q (Str.ofString "law") = some (d, kwd)) : WalkO Mine.q Mine.loose (fun _ _ => True) (Hook.says Mine.H) PySem.Challenge.rw_nq0248_01.row.toRowW d kwd (fun f vs => PySem.call f vs) := by
  have e9 : (d, kwd) = _ := Option.some.inj (hdef.symm.trans (Eq.refl _ : defOf Mine.q (Str.ofString "law") = some _))
  obtain ⟨rfl, rfl⟩ := Prod.mk.inj e9
  clear e9 hdef
  k_fill
  intro w s₀ s₁ mg mb G Y fa o pm cd doc dV kV ho hd hcd hD hmg hg args vals as hpre hlay hrd hwl hlo
  have KX := kIn_of Y
  refine Ground.open G ?_
  intro T B D TE TW
  try (refine guard_noD D (by decide +kernel) ?_; clear D)
  obtain ⟨_, _, M⟩ := bmod_of_top T
  have TA := at_of_top T
  try (obtain ⟨_, _, he, B0⟩ := based_of_top T rfl hmg ho hd; have he' : cd = _ := he; subst he'; clear he)
  clear hmg
  wrow_args hpre hlay hrd hwl hlo
  all_goals (
    first | refine callC_kw (enter_call ?_) | refine enter_call ?_ | refine callC_kw (enter_callW ?_) | refine enter_callW ?_
    w_top on
    try refine codeAny_mono ?_ (fun _ _ g => GoodW.toG g)
    have K0 := below_caller (Top.heap T)
    w_call any ho hd hcd hD T F
    clear hd TA)
  clear hD hcd TE TW M
  try dsimp only [bindC, bindL] at *
  rename PySem.Heap.IsList s₁.heap _ _ => hL9
  rename IntsAre _ _ => hI9
  rename News _ _ _ _ => N9
  rename ¬ (_ : Int) < _ => hc9
  rename_i c5 c4 c3 c2 c1 e5 e4 e3 e2 e1 _
  have K9 : Below callerA s₁.heap [] s₁.heap := K0
  refine law_rest (h₀ := s₁.heap) (L := s₁.heap.objs.size) (by rfl) K9 ?gF KX ?gN T ?gd ?gu KX T ?gD hL9 hI9 ?gl ?gne e1 e2 e3 e4 e5 ?gret
  case gF => exact F
  case gN => exact N9
  case gd => decide
  case gu => decide
  case gD => exact fun b m => by cases m
  case gl => omega
  case gne =>
    obtain ⟨_, ho9, _⟩ := hL9
    exact Nat.ne_of_lt (Heap.lt_size ho9)
  case gret =>
    intro m' nw' h₀' h' tk' kT Fz Nz
    have F9 : Fr s₁.heap s₁.heap.objs.size h' m' := ⟨Fz.ns, fun b o e => Fz.keep b o (kT.other b o e (fun q => by cases q)), Nat.le_refl _⟩
    show GoodW _ _ _ _ _ (Except.ok (Flow.ret (Value.bool true))) _
    refine goodW_bool F9 hg (raisesW_false ?_) ?_
    · wrow_none_raised
    · kc_post
end
end Mine
theorem PySem.Challenge.cw_nq0248_01_holds : PySem.Challenge.rw_nq0248_01.Holds :=
  Mine.hd_of Mine.law_walk
