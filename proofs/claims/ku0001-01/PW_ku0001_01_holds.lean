import PyProof.Rows.All
import Wide.All
import Wide.FinOn
import OpenK.KCell
import Open.Script
import PySem.Challenge.RW_ku0001_01
open PySem PySem.W PyProof.Rows
set_option Elab.async false
set_option maxRecDepth 100000
set_option compiler.extract_closed false
set_option hygiene false
set_option genSizeOf false
set_option genInjectivity false
set_option genCtorIdx false
set_option bootstrap.genMatcherCode false
namespace Mine
local macro_rules | `(tactic| walk_at "om") => `(tactic| first | exact room hroom | exact room0 hroom | exact room1 hroom | exact Nat.le_trans (by assumption) (by decide) | lia)
/-- the text's statements -/
noncomputable def stOf (i : Nat) : Str × Arguments × List Stmt × Scope := match PySem.Challenge.pw_ku0001_01.main.body[i]? with
  | some (.FunctionDef n a b _ _ _ sc _ _ _) => (n, a, b, sc)
  | _ => ("", ⟨[], [], none, [], [], none, []⟩, [], default)
noncomputable def tabEs : List (Nat × Tok × Tok) := [(40, 190, 194), (41, 196, 200), (91, 202, 206), (93, 208, 212), (123, 214, 218), (125, 220, 224), (63, 226, 230), (42, 232, 236), (43, 238, 242), (45, 244, 248), (124, 250, 254), (94, 256, 260), (36, 262, 266), (92, 268, 272), (46, 274, 278), (38, 280, 284), (126, 286, 290), (35, 292, 296), (32, 298, 302), (9, 304, 308), (10, 310, 314), (13, 316, 320), (11, 322, 326), (12, 328, 332)]
noncomputable def tabObj : Obj := { cls := .type "dict", data := .dict (tabEs.map fun e => ⟨e.1, .int e.1 e.2.1, .str ⟨#[92, e.1]⟩ e.2.2⟩).toArray 24 }
noncomputable def ent (P : Params) (x : Str) (t : Tok) (v : Value) : DictEntry := { hash := PyData.keyHash P x, key := .str x t, val := v }
noncomputable def fnO (i : Nat) (pm : Value) (c : Addr) : Obj := { cls := .type "function", data := .func (Calls.docDef (stOf i).1 (stOf i).2.1 (stOf i).2.2.1 (stOf i).2.2.2 pm (.ref c) .none) }
noncomputable def codeO (vs : Array Value) : Obj := { cls := .type "code", data := .fields vs }
/-- the objects that the top leaves, as far as the walk reads them -/
noncomputable def heapF (P : Params) : Frag := [
  (3, { cls := .type "dict", data := .dict #[ent P "__name__" 165 (.str "law_ku0001_01" 387), ent P "__doc__" 166 (.none), ent P "__package__" 167 (.none), ent P "__loader__" 168 (.builtin "__main__.__loader__#opaque"), ent P "__spec__" 169 (.none), ent P "__annotations__" 170 (.ref 6), ent P "__builtins__" 171 (.ref 4), ent P "__file__" 173 (.str "/claim/cut.py" 172), ent P "__cached__" 174 (.none), ent P "_special_chars_map" 334 (.ref 16), ent P "escape" 341 (.ref 26), ent P "translate_pattern" 352 (.ref 33), ent P "_iter_escaped_chars" 364 (.ref 40), ent P "_strip_quoted_realnames" 376 (.ref 47), ent P "_check_parenthesis" 386 (.ref 54), ent P "_law_path" 398 (.ref 61), ent P "_law_rows" 410 (.ref 68), ent P "_law_hidden" 421 (.ref 75), ent P "_law_pairs" 431 (.ref 82), ent P "law" 437 (.ref 87)] 20 }),
  (16, tabObj),
  (25, codeO #[.str "escape" 335, .str "escape" 336, .str "/claim/cut.py" 337, .int 3 0, .int 1 0, .int 0 0, .int 0 0, .int 3 0, .ref 20, .bool true, .int 181 0, .ref 21, .none, .ref 22, .ref 23, .ref 24, .int 339 0, .int 3 0, .str "/claim/cut.py" 340]),
  (26, fnO 2 (.str "re" 187) 25),
  (32, codeO #[.str "translate_pattern" 344, .str "translate_pattern" 345, .str "/claim/cut.py" 346, .int 10 0, .int 1 0, .int 0 0, .int 0 0, .int 3 0, .ref 27, .bool true, .int 181 0, .ref 28, .none, .ref 29, .ref 30, .ref 31, .int 350 0, .int 10 0, .str "/claim/cut.py" 351]),
  (33, fnO 4 (.str "cpy313.urllib.robotparser" 342) 32),
  (39, codeO #[.str "_iter_escaped_chars" 355, .str "_iter_escaped_chars" 356, .str "/claim/cut.py" 357, .int 17 0, .int 1 0, .int 0 0, .int 0 0, .int 35 0, .ref 34, .bool true, .int 181 0, .ref 35, .none, .ref 36, .ref 37, .ref 38, .int 362 0, .int 17 0, .str "/claim/cut.py" 363]),
  (40, fnO 6 (.str "cpy313.email.utils" 353) 39),
  (46, codeO #[.str "_strip_quoted_realnames" 365, .str "_strip_quoted_realnames" 366, .str "/claim/cut.py" 367, .int 30 0, .int 1 0, .int 0 0, .int 0 0, .int 3 0, .ref 41, .bool true, .int 181 0, .ref 42, .none, .ref 43, .ref 44, .ref 45, .int 374 0, .int 30 0, .str "/claim/cut.py" 375]),
  (47, fnO 7 (.str "cpy313.email.utils" 353) 46),
  (53, codeO #[.str "_check_parenthesis" 377, .str "_check_parenthesis" 378, .str "/claim/cut.py" 379, .int 48 0, .int 1 0, .int 0 0, .int 0 0, .int 3 0, .ref 48, .bool true, .int 181 0, .ref 49, .none, .ref 50, .ref 51, .ref 52, .int 384 0, .int 48 0, .str "/claim/cut.py" 385]),
  (54, fnO 8 (.str "cpy313.email.utils" 353) 53),
  (60, codeO #[.str "_law_path" 389, .str "_law_path" 390, .str "/claim/cut.py" 391, .int 60 0, .int 1 0, .int 0 0, .int 0 0, .int 3 0, .ref 55, .bool true, .int 181 0, .ref 56, .none, .ref 57, .ref 58, .ref 59, .int 396 0, .int 60 0, .str "/claim/cut.py" 397]),
  (61, fnO 10 (.str "law_ku0001_01" 387) 60),
  (67, codeO #[.str "_law_rows" 399, .str "_law_rows" 400, .str "/claim/cut.py" 401, .int 66 0, .int 1 0, .int 0 0, .int 0 0, .int 3 0, .ref 62, .bool true, .int 181 0, .ref 63, .none, .ref 64, .ref 65, .ref 66, .int 408 0, .int 66 0, .str "/claim/cut.py" 409]),
  (68, fnO 11 (.str "law_ku0001_01" 387) 67),
  (74, codeO #[.str "_law_hidden" 411, .str "_law_hidden" 412, .str "/claim/cut.py" 413, .int 86 0, .int 1 0, .int 0 0, .int 0 0, .int 3 0, .ref 69, .bool true, .int 181 0, .ref 70, .none, .ref 71, .ref 72, .ref 73, .int 419 0, .int 86 0, .str "/claim/cut.py" 420]),
  (75, fnO 12 (.str "law_ku0001_01" 387) 74),
  (81, codeO #[.str "_law_pairs" 422, .str "_law_pairs" 423, .str "/claim/cut.py" 424, .int 97 0, .int 1 0, .int 0 0, .int 0 0, .int 3 0, .ref 76, .bool true, .int 181 0, .ref 77, .none, .ref 78, .ref 79, .ref 80, .int 429 0, .int 97 0, .str "/claim/cut.py" 430]),
  (82, fnO 13 (.str "law_ku0001_01" 387) 81),
  (86, codeO #[.str "law" 432, .str "law" 433, .str "/claim/cut.py" 434, .int 104 0, .int 1 0, .int 0 0, .int 0 0, .int 3 0, .ref 83, .bool true, .int 181 0, .ref 84, .none, .none, .none, .ref 85, .int 435 0, .int 104 0, .str "/claim/cut.py" 436]),
  (87, fnO 14 (.str "law_ku0001_01" 387) 86)]
noncomputable def addrF : List Addr := [3, 16, 25, 26, 32, 33, 39, 40, 46, 47, 53, 54, 60, 61, 67, 68, 74, 75, 81, 82, 86, 87]
section
/-- what the top leaves, as far as the walk reads it -/
structure Lib (w : World) (g : Heap) : Prop where
  K : (heapF w.params).In g
  b : ∃ mb, g.Ns builtinsNs mb ∧ ∀ x : Str, x ≠ "__name__" → mb x = bootBuiltins x
  gl : ∃ mg, g.Ns mainGlobals mg
  lim : g.NoLimit

theorem Lib.keeps {w : World} {g h : Heap} (X : Lib w g) (k : ∀ b o, g.get? b = some o → h.get? b = some o) : Lib w h :=
  ⟨fun a o e => k a o (X.K a o e), let ⟨mb, a, b⟩ := X.b; ⟨mb, a.keeps k, b⟩, let ⟨mg, a⟩ := X.gl; ⟨mg, a.keeps k⟩, X.lim.keeps k⟩

noncomputable abbrev Cl := Addr × (Obj → Prop)
noncomputable abbrev lst (vs : Array Value) : Obj → Prop := fun o => o.cls = .type "list" ∧ o.dict = none ∧ ∃ n, o.data = .seq vs n
noncomputable abbrev tupl (vs : Array Value) : Obj → Prop := fun o => o.cls = .type "tuple" ∧ ∃ n, o.data = .seq vs n
noncomputable abbrev lit (l : Addr) (i : Nat) : Obj → Prop := fun o => o.cls = .type "list_iterator" ∧ o.data = .fields #[.ref l, .int i 0]

noncomputable def Holds (h : Heap) (p : Cl) : Prop := ∃ o, h.get? p.1 = some o ∧ p.2 o

/-- the state of a frame: its locals at L, what stood before (g), the cells that may still change, the frozen ones -/
structure Sta (g h : Heap) (L : Addr) (m : Str → Option Value) (cs fr : List Cl) : Prop where
  ns : h.Ns L m
  keep : ∀ b o, g.get? b = some o → h.get? b = some o
  gL : g.get? L = none
  cell : ∀ p ∈ cs, Holds h p ∧ p.1 ≠ L ∧ g.get? p.1 = none
  nd : (cs.map (·.1)).Nodup
  frz : ∀ p ∈ fr, Holds h p ∧ p.1 ≠ L ∧ g.get? p.1 = none ∧ p.1 ∉ cs.map (·.1)

theorem Holds.keeps {h h' : Heap} {p : Cl} (x : Holds h p) (k : ∀ o, h.get? p.1 = some o → h'.get? p.1 = some o) : Holds h' p := let ⟨o, a, b⟩ := x; ⟨o, k o a, b⟩

theorem Holds.isL {h : Heap} {a : Addr} {vs : Array Value} (x : Holds h (a, lst vs)) : h.IsList a vs := let ⟨o, a, b, _, c⟩ := x; ⟨o, a, b, c⟩
theorem Holds.plL {h : Heap} {a : Addr} {vs : Array Value} (x : Holds h (a, lst vs)) : PlainL h a vs := let ⟨o, a, b, d, n, c⟩ := x; ⟨o, n, a, b, d, c⟩
theorem Holds.ofPl {h : Heap} {a : Addr} {vs : Array Value} (x : PlainL h a vs) : Holds h (a, lst vs) := let ⟨o, n, a, b, d, c⟩ := x; ⟨o, a, b, d, n, c⟩
theorem Ns.atL {h : Heap} {L : Addr} {m : Str → Option Value} (n : h.Ns L m) : ∃ o, h.get? L = some o := let ⟨o, _, _, a, _⟩ := n; ⟨o, a⟩

section
variable {g h h' : Heap} {L : Addr} {m m' : Str → Option Value} {cs cs' fr fr' : List Cl}

theorem Sta.ltL (S : Sta g h L m cs fr) : L < h.objs.size := S.ns.lt
theorem Holds.lt {p : Cl} (x : Holds h p) : p.1 < h.objs.size := let ⟨_, a, _⟩ := x; Heap.lt_size a
theorem Sta.noG (S : Sta g h L m cs fr) : g.get? h.objs.size = none := by
  cases q : g.get? h.objs.size with
  | none => rfl
  | some o => exact absurd (Heap.lt_size (S.keep _ _ q)) (Nat.lt_irrefl _)

/-- whatever only adds -/
theorem Sta.ext (S : Sta g h L m cs fr) (k : ∀ b o, h.get? b = some o → h'.get? b = some o) : Sta g h' L m cs fr :=
  ⟨S.ns.keeps k, fun b o e => k b o (S.keep b o e), S.gL, fun p hp => ⟨(S.cell p hp).1.keeps (k p.1), (S.cell p hp).2⟩, S.nd, fun p hp => ⟨(S.frz p hp).1.keeps (k p.1), (S.frz p hp).2⟩⟩

/-- a new object of one's own: its address is above all -/
theorem Sta.new {a : Addr} {P : Obj → Prop} (S : Sta g h L m cs fr) (k : ∀ b o, h.get? b = some o → h'.get? b = some o) (ha : h.get? a = none) (hp : Holds h' (a, P)) : Sta g h' L m ((a, P) :: cs) fr := by
  have S' := S.ext k
  have hg : g.get? a = none := by
    cases q : g.get? a with
    | none => rfl
    | some o => rw [S.keep _ _ q] at ha; cases ha
  have hne : ∀ b o, h.get? b = some o → b ≠ a := fun b o e q => by rw [q, ha] at e; cases e
  obtain ⟨oL, hL⟩ := Ns.atL S.ns
  refine ⟨S'.ns, S'.keep, S'.gL, fun p hp' => ?_, ?_, fun p hp' => ?_⟩
  · rcases List.mem_cons.mp hp' with rfl | hp'
    · exact ⟨hp, Ne.symm (hne _ _ hL), hg⟩
    · exact S'.cell p hp'
  · rw [List.map_cons, List.nodup_cons]
    refine ⟨fun q => ?_, S.nd⟩
    obtain ⟨p, hp', e⟩ := List.mem_map.mp q
    obtain ⟨⟨o, ho, _⟩, _⟩ := S.cell p hp'
    exact hne _ _ ho e
  · have f := S'.frz p hp'
    obtain ⟨⟨o, ho, _⟩, _⟩ := S.frz p hp'
    refine ⟨f.1, f.2.1, f.2.2.1, fun q => ?_⟩
    rw [List.map_cons] at q
    rcases List.mem_cons.mp q with q | q
    · exact hne _ _ ho q
    · exact f.2.2.2 q

theorem Sta.push {o : Obj} {P : Obj → Prop} (S : Sta g h L m cs fr) (hf : o.isFreed = false) (hp : P o) : Sta g (h.push o) L m ((h.objs.size, P) :: cs) fr := by
  refine S.new (fun b o' e => Heap.get?_push_of_some _ e) ?_ ⟨o, Heap.get?_push_size _ hf, hp⟩
  cases q : h.get? h.objs.size with
  | none => rfl
  | some o => exact absurd (Heap.lt_size q) (Nat.lt_irrefl _)

/-- a store into the frame -/
theorem Sta.set (S : Sta g h L m cs fr) (hn : h'.Ns L m') (hs : Heap.SameBut L h h') : Sta g h' L m' cs fr :=
  ⟨hn, fun b o e => (hs.2 b fun q => by rw [q, S.gL] at e; cases e).trans (S.keep b o e), S.gL,
   fun p hp => ⟨(S.cell p hp).1.keeps fun o e => (hs.2 _ (S.cell p hp).2.1).trans e, (S.cell p hp).2⟩, S.nd,
   fun p hp => ⟨(S.frz p hp).1.keeps fun o e => (hs.2 _ (S.frz p hp).2.1).trans e, (S.frz p hp).2⟩⟩

inductive Upd (d : Addr) (P P' : Obj → Prop) : List Cl → List Cl → Prop
  | head {r} : Upd d P P' ((d, P) :: r) ((d, P') :: r)
  | tail {p r r'} : Upd d P P' r r' → Upd d P P' (p :: r) (p :: r')

theorem Upd.map {d : Addr} {P P' : Obj → Prop} {l l' : List Cl} (U : Upd d P P' l l') : l'.map (·.1) = l.map (·.1) := by
  induction U with
  | head => rfl
  | tail _ ih => simp only [List.map_cons, ih]
theorem Upd.mem {d : Addr} {P P' : Obj → Prop} {l l' : List Cl} (U : Upd d P P' l l') : (d, P) ∈ l := by
  induction U with
  | head => exact .head _
  | tail _ ih => exact .tail _ ih
theorem Upd.memd {d : Addr} {P P' : Obj → Prop} {l l' : List Cl} (U : Upd d P P' l l') : d ∈ l.map (·.1) := List.mem_map.mpr ⟨_, U.mem, rfl⟩
theorem Upd.old {d : Addr} {P P' : Obj → Prop} {l l' : List Cl} (U : Upd d P P' l l') (nd : (l.map (·.1)).Nodup) : ∀ p ∈ l', p = (d, P') ∨ (p ∈ l ∧ p.1 ≠ d) := by
  induction U with
  | head =>
    rw [List.map_cons, List.nodup_cons] at nd
    intro p hp
    rcases List.mem_cons.mp hp with rfl | hp
    · exact .inl rfl
    · exact .inr ⟨.tail _ hp, fun q => nd.1 (List.mem_map.mpr ⟨p, hp, q⟩)⟩
  | @tail q r r' U ih =>
    rw [List.map_cons, List.nodup_cons] at nd
    intro p hp
    rcases List.mem_cons.mp hp with rfl | hp
    · exact .inr ⟨.head _, fun e => nd.1 (e ▸ U.memd)⟩
    · rcases ih nd.2 p hp with e | ⟨a, b⟩
      · exact .inl e
      · exact .inr ⟨.tail _ a, b⟩

/-- one cell changes -/
theorem Sta.upd {d : Addr} {P P' : Obj → Prop} (S : Sta g h L m cs fr) (U : Upd d P P' cs cs') (hs : Heap.ExtBut d h h') (hp : Holds h' (d, P')) : Sta g h' L m cs' fr := by
  have D := S.cell _ U.mem
  obtain ⟨oL, hL⟩ := Ns.atL S.ns
  refine ⟨S.ns.extBut hs (Ne.symm D.2.1), fun b o e => hs b o (fun q => by rw [q, D.2.2] at e; cases e) (S.keep b o e), S.gL, fun p hp' => ?_, by rw [U.map]; exact S.nd, fun p hp' => ?_⟩
  · rcases U.old S.nd p hp' with rfl | ⟨a, b⟩
    · exact ⟨hp, D.2⟩
    · exact ⟨(S.cell p a).1.keeps fun o e => hs _ _ b e, (S.cell p a).2⟩
  · have f := S.frz p hp'
    exact ⟨f.1.keeps fun o e => hs _ _ (fun q => f.2.2.2 (q ▸ U.memd)) e, f.2.1, f.2.2.1, by rw [U.map]; exact f.2.2.2⟩

inductive Del (d : Addr) (P : Obj → Prop) : List Cl → List Cl → Prop
  | head {r} : Del d P ((d, P) :: r) r
  | tail {p r r'} : Del d P r r' → Del d P (p :: r) (p :: r')
theorem Del.sub {d : Addr} {P : Obj → Prop} {l l' : List Cl} (U : Del d P l l') : l'.Sublist l := by
  induction U with
  | head => exact List.sublist_cons_self _ _
  | tail _ ih => exact ih.cons_cons _
theorem Del.mem {d : Addr} {P : Obj → Prop} {l l' : List Cl} (U : Del d P l l') : (d, P) ∈ l := by
  induction U with
  | head => exact .head _
  | tail _ ih => exact .tail _ ih
theorem Del.not {d : Addr} {P : Obj → Prop} {l l' : List Cl} (U : Del d P l l') (nd : (l.map (·.1)).Nodup) : d ∉ l'.map (·.1) := by
  induction U with
  | head => rw [List.map_cons, List.nodup_cons] at nd; exact nd.1
  | @tail q r r' U ih =>
    rw [List.map_cons, List.nodup_cons] at nd
    rw [List.map_cons]
    intro e
    rcases List.mem_cons.mp e with e | e
    · exact nd.1 (List.mem_map.mpr ⟨_, U.mem, e⟩)
    · exact ih nd.2 e

/-- a cell that will not change any more -/
theorem Sta.freeze {d : Addr} {P : Obj → Prop} (S : Sta g h L m cs fr) (U : Del d P cs cs') : Sta g h L m cs' ((d, P) :: fr) := by
  refine ⟨S.ns, S.keep, S.gL, fun p hp => S.cell p (U.sub.mem hp), (U.sub.map _).nodup S.nd, fun p hp => ?_⟩
  rcases List.mem_cons.mp hp with rfl | hp
  · have D := S.cell _ U.mem
    exact ⟨D.1, D.2.1, D.2.2, U.not S.nd⟩
  · have f := S.frz p hp
    exact ⟨f.1, f.2.1, f.2.2.1, fun q => f.2.2.2 ((U.sub.map _).mem q)⟩
theorem Sta.drop {d : Addr} {P : Obj → Prop} (S : Sta g h L m cs fr) (U : Del d P cs cs') : Sta g h L m cs' fr :=
  ⟨S.ns, S.keep, S.gL, fun p hp => S.cell p (U.sub.mem hp), (U.sub.map _).nodup S.nd, fun p hp => let f := S.frz p hp; ⟨f.1, f.2.1, f.2.2.1, fun q => f.2.2.2 ((U.sub.map _).mem q)⟩⟩

/-- a cell of which nothing is known any more -/
theorem Sta.lose {d : Addr} {P : Obj → Prop} (S : Sta g h L m cs fr) (U : Del d P cs cs') (hs : Heap.ExtBut d h h') : Sta g h' L m cs' fr := by
  have D := S.cell _ U.mem
  refine ⟨S.ns.extBut hs (Ne.symm D.2.1), fun b o e => hs b o (fun q => by rw [q, D.2.2] at e; cases e) (S.keep b o e), S.gL, fun p hp => ?_, (U.sub.map _).nodup S.nd, fun p hp => ?_⟩
  · have f := S.cell p (U.sub.mem hp)
    exact ⟨f.1.keeps fun o e => hs _ _ (fun q => U.not S.nd (List.mem_map.mpr ⟨p, hp, q⟩)) e, f.2⟩
  · have f := S.frz p hp
    exact ⟨f.1.keeps fun o e => hs _ _ (fun q => f.2.2.2 (q ▸ List.mem_map.mpr ⟨_, U.mem, rfl⟩)) e, f.2.1, f.2.2.1, fun q => f.2.2.2 ((U.sub.map _).mem q)⟩

/-- what a call has made -/
noncomputable def Made (h h' : Heap) (fr : List Cl) : Prop := ∀ p ∈ fr, Holds h' p ∧ h.get? p.1 = none
theorem Sta.made (S : Sta g h L m cs fr) (k : ∀ b o, h.get? b = some o → h'.get? b = some o) (M : Made h h' fr') : Sta g h' L m cs (fr' ++ fr) := by
  have S' := S.ext k
  refine ⟨S'.ns, S'.keep, S'.gL, S'.cell, S'.nd, fun p hp => ?_⟩
  rcases List.mem_append.mp hp with hp | hp
  · have f := M p hp
    obtain ⟨oL, hL⟩ := Ns.atL S.ns
    refine ⟨f.1, fun q => ?_, ?_, fun q => ?_⟩
    · have := f.2; rw [q, hL] at this; cases this
    · cases q : g.get? p.1 with
      | none => rfl
      | some o => have := f.2; rw [S.keep _ _ q] at this; cases this
    · obtain ⟨c, hc, e⟩ := List.mem_map.mp q
      obtain ⟨⟨o, ho, _⟩, _⟩ := S.cell c hc
      have := f.2; rw [← e, ho] at this; cases this
  · exact S'.frz p hp

theorem Sta.at (S : Sta g h L m cs fr) {d : Addr} {P P' : Obj → Prop} (U : Upd d P P' cs cs') : Holds h (d, P) := (S.cell _ U.mem).1
theorem Sta.atF (S : Sta g h L m cs fr) {d : Addr} {P : Obj → Prop} (hm : (d, P) ∈ fr) : Holds h (d, P) := (S.frz _ hm).1
theorem Sta.atC (S : Sta g h L m cs fr) {d : Addr} {P : Obj → Prop} (hm : (d, P) ∈ cs) : Holds h (d, P) := (S.cell _ hm).1
theorem Sta.lib {w : World} (S : Sta g h L m cs fr) (X : Lib w g) : Lib w h := X.keeps S.keep
end

noncomputable def up (m : Str → Option Value) (x : Str) (v : Value) : Str → Option Value := fun y => if y = x then some v else m y
theorem up_eq {m : Str → Option Value} {x : Str} {v : Value} : up m x v x = some v := if_pos rfl
theorem up_ne {m : Str → Option Value} {x y : Str} {v : Value} {u : Option Value} (h : x ≠ y) (e : m x = u) : up m y v x = u := (if_neg h).trans e

section
variable {M : Model} {A : Around} {E : Value → Shared → Prop} {s : Shared} {env : Env} {g : Heap} {m : Str → Option Value} {cs cs' fr : List Cl} {w : World}

theorem ldv {L : Addr} {x : Str} {pos : Pos} {v : Value} {Q : Value → Shared → Prop} (S : Sta g s.heap L m cs fr) (hv : m x = some v) (h : Q v s)
    (hL : env.locals = L := by rfl) (hk : env.scope.kind = .function := by rfl) (hl : env.kindOf x = some .local := by rfl)
    (hd : (x == ("__debug__" : Str)) = false := by decide) :
    wpAny M A (eval (.Name x pos) env) Q E s := wpAny_Name (wpAny_loadName_local hk hl (hL.symm ▸ S.ns) hv h) hd

theorem stv {L : Addr} {x : Str} {v : Value} {Q : Unit → Shared → Prop} (S : Sta g s.heap L m cs fr)
    (h : ∀ h' t, Sta g h' L (up m x v) cs fr → Q () { s with heap := h', toks := t })
    (hL : env.locals = L := by rfl) (hl : env.kindOf x = some .local := by rfl)
    (hp : (env.scope.kind == .class || (env.scope.kind == .module && env.locals != env.globals)) = false := by rfl) : wpAny M A (storeName env x v) Q E s := by
  subst hL
  exact wpAny_storeName_local hl S.ns (fun h' hn hs => h h' _ (S.set hn hs)) hp

theorem gl_fn {x : Str} {pos : Pos} {v : Value} {Q : Value → Shared → Prop} (X : Lib w s.heap) (e : nsIn (heapF w.params) mainGlobals x = some (some v)) (h : Q v s)
    (hg : env.globals = mainGlobals := by rfl) (hk : env.scope.kind = .function := by rfl) (hx : env.kindOf x = some .globalImplicit := by rfl) (hd : (x == ("__debug__" : Str)) = false := by decide) :
    wpAny M A (eval (.Name x pos) env) Q E s := by
  obtain ⟨mg, G⟩ := X.gl
  exact Calls.Name_function_global hk hx (Calls.loadGlobal_global (hg.symm ▸ G) (mg_of X.K G e) h) hd

theorem gl_bi {x : Str} {pos : Pos} {v : Value} {Q : Value → Shared → Prop} (X : Lib w s.heap) (e : nsIn (heapF w.params) mainGlobals x = some none) (hb : bootBuiltins x = some v) (h : Q v s)
    (hn : x ≠ "__name__" := by decide)
    (hg : env.globals = mainGlobals := by rfl) (hbn : env.builtins = builtinsNs := by rfl) (hk : env.scope.kind = .function := by rfl) (hx : env.kindOf x = some .globalImplicit := by rfl) (hd : (x == ("__debug__" : Str)) = false := by decide) :
    wpAny M A (eval (.Name x pos) env) Q E s := by
  obtain ⟨mg, G⟩ := X.gl
  obtain ⟨mb, B, hB⟩ := X.b
  exact Calls.Name_function_global hk hx (Calls.loadGlobal_builtin (hg.symm ▸ G) (mg_none_of X.K G e) (hbn.symm ▸ B) ((hB x hn).trans hb) h) hd
end
end
section
section
variable (P : Params)
theorem nm_escape : nsIn (heapF P) mainGlobals "escape" = some (some (.ref 26)) := by rfl
theorem nm_map : nsIn (heapF P) mainGlobals "_special_chars_map" = some (some (.ref 16)) := by rfl
theorem nm_tp : nsIn (heapF P) mainGlobals "translate_pattern" = some (some (.ref 33)) := by rfl
theorem nm_iter : nsIn (heapF P) mainGlobals "_iter_escaped_chars" = some (some (.ref 40)) := by rfl
theorem nm_strip : nsIn (heapF P) mainGlobals "_strip_quoted_realnames" = some (some (.ref 47)) := by rfl
theorem nm_check : nsIn (heapF P) mainGlobals "_check_parenthesis" = some (some (.ref 54)) := by rfl
theorem nm_path : nsIn (heapF P) mainGlobals "_law_path" = some (some (.ref 61)) := by rfl
theorem nm_rows : nsIn (heapF P) mainGlobals "_law_rows" = some (some (.ref 68)) := by rfl
theorem nm_hidden : nsIn (heapF P) mainGlobals "_law_hidden" = some (some (.ref 75)) := by rfl
theorem nm_pairs : nsIn (heapF P) mainGlobals "_law_pairs" = some (some (.ref 82)) := by rfl
theorem nb_isinstance : nsIn (heapF P) mainGlobals "isinstance" = some none := by rfl
theorem nb_str : nsIn (heapF P) mainGlobals "str" = some none := by rfl
theorem nb_list : nsIn (heapF P) mainGlobals "list" = some none := by rfl
theorem nb_map : nsIn (heapF P) mainGlobals "map" = some none := by rfl
theorem nb_range : nsIn (heapF P) mainGlobals "range" = some none := by rfl
theorem nb_len : nsIn (heapF P) mainGlobals "len" = some none := by rfl
theorem nb_enumerate : nsIn (heapF P) mainGlobals "enumerate" = some none := by rfl
theorem nb_sum : nsIn (heapF P) mainGlobals "sum" = some none := by rfl
end
theorem bb_isinstance : bootBuiltins "isinstance" = some (.builtin "isinstance") := by decide +kernel
theorem bb_str : bootBuiltins "str" = some (.type "str") := by decide +kernel
theorem bb_list : bootBuiltins "list" = some (.type "list") := by decide +kernel
theorem bb_map : bootBuiltins "map" = some (.type "map") := by decide +kernel
theorem bb_range : bootBuiltins "range" = some (.type "range") := by decide +kernel
theorem bb_len : bootBuiltins "len" = some (.builtin "len") := by decide +kernel
theorem bb_enumerate : bootBuiltins "enumerate" = some (.type "enumerate") := by decide +kernel
theorem bb_sum : bootBuiltins "sum" = some (.builtin "sum") := by decide +kernel

section
variable {M : Model} {A : Around} {E : Value → Shared → Prop} {s : Shared} {env : Env} {w : World} {pos : Pos} {Q : Value → Shared → Prop}
end

section
variable {w : World} {A : Around} {s : Shared} {Q E : Value → Shared → Prop} {v : Value}
theorem enter {a c i : Nat} {o : Obj} {pm doc : Value} (X : Lib w s.heap) (hroom : A.depth < recursionLimit) (ho : (heapF w.params).lookup a = some o)
    (hdat : o.data = .func (Calls.docDef (stOf i).1 (stOf i).2.1 (stOf i).2.2.1 (stOf i).2.2.2 pm (.ref c) doc)) (hc : codeIn (heapF w.params) (.ref c) (stOf i).1 = true)
    {binds : List (Str × Value)} (hbind : bindArgs (Calls.docDef (stOf i).1 (stOf i).2.1 (stOf i).2.2.1 (stOf i).2.2.2 pm (.ref c) doc) ⟨[v], []⟩ = pure binds)
    (hloc : ∀ x ∈ binds, (stOf i).2.2.2.names.lookup x.1 = some .local)
    (h : ∀ L h₁ t, Sta s.heap h₁ L (fun x => binds.reverse.lookup x) [] [] →
      wpAny (model PySem.Challenge.rw_ku0001_01.row.prog w) (A.deeper (envOf (stOf i).1 (stOf i).2.2.2 L a (.ref c))) (execs (stOf i).2.2.1 (envOf (stOf i).1 (stOf i).2.2.2 L a (.ref c)))
        (fun f s' => Q (match f with | .ret v => v | _ => .none) s') (fun _ _ => False) { s with heap := h₁, toks := t })
    (hco : (stOf i).2.2.2.isCoroutine = false := by rfl) (hgen : (stOf i).2.2.2.isGenerator = false := by rfl) (hk : (stOf i).2.2.2.kind = .function := by rfl)
    (hcell : ∀ x ∈ (stOf i).2.2.2.names, x.2 ≠ .cell := by decide) :
    wpAny (model PySem.Challenge.rw_ku0001_01.row.prog w) A (call (.ref a) [v]) Q E s := by
  refine wpAny_call (call_plain_ret hroom (X.K _ _ ho) hdat X.lim (codeRec_of X.K hc) hbind hloc (fun h₁ F => h _ h₁ _ ?_) hco hgen hk hcell)
  refine ⟨F.ns, F.keep, ?_, fun _ h => (nomatch h), List.nodup_nil, fun _ h => (nomatch h)⟩
  cases q : s.heap.get? s.heap.objs.size with
  | none => rfl
  | some o => exact absurd (Heap.lt_size q) (Nat.lt_irrefl _)
end

section
variable {w : World} {A : Around} {s : Shared} {Q E : Value → Shared → Prop} {v : Value}
noncomputable def envE (L : Addr) : Env := envOf (stOf 2).1 (stOf 2).2.2.2 L 26 (.ref 25)
theorem enter_escape (X : Lib w s.heap) (hroom : A.depth < recursionLimit)
    (h : ∀ L h₁ t, Sta s.heap h₁ L (fun x => [(("pattern" : Str), v)].reverse.lookup x) [] [] →
      wpAny (model PySem.Challenge.rw_ku0001_01.row.prog w) (A.deeper (envE L)) (execs (stOf 2).2.2.1 (envE L))
        (fun f s' => Q (match f with | .ret v => v | _ => .none) s') (fun _ _ => False) { s with heap := h₁, toks := t }) :
    wpAny (model PySem.Challenge.rw_ku0001_01.row.prog w) A (call (.ref 26) [v]) Q E s :=
  enter (a := 26) (c := 25) (i := 2) (doc := .none) X hroom rfl rfl rfl rfl (locs rfl) h
end
end
section
noncomputable def specials : List Nat := [40, 41, 91, 93, 123, 125, 63, 42, 43, 45, 124, 94, 36, 92, 46, 38, 126, 35, 32, 9, 10, 13, 11, 12]
noncomputable def escL (l : List Nat) : List Nat := l.flatMap fun c => if c ∈ specials then [92, c] else [c]
noncomputable def escS (x : Str) : Str := ⟨(escL x.cps.toList).toArray⟩

theorem escL_append (a b : List Nat) : escL (a ++ b) = escL a ++ escL b := List.flatMap_append
theorem escL_len (l : List Nat) : (escL l).length ≤ 2 * l.length := by
  induction l with
  | nil => exact Nat.le_refl _
  | cons c l ih =>
    show (escL ([c] ++ l)).length ≤ _
    rw [escL_append, List.length_append]
    have : (escL [c]).length ≤ 2 := by
      unfold escL
      simp only [List.flatMap_cons, List.flatMap_nil, List.append_nil]
      split <;> simp
    simp only [List.length_cons]; walk_at "om"

theorem sub_keyLookup : isSubtype (.type "KeyError") (.type "LookupError") = pure true := by rw [isSubtype_type]; kernel_rfl

/-- what the table of signs answers -/
structure TabOk (f : Int → Option Value) : Prop where
  yes : ∀ c : Nat, c ∈ specials → ∃ t, f (c : Int) = some (.str ⟨#[92, c]⟩ t)
  no : ∀ c : Nat, c ∉ specials → f (c : Int) = none

section
variable {prog : Program} {w : World} {A : Around} {s : Shared} {E : Value → Shared → Prop}
theorem look_keep {d : Addr} {c : Nat} {f : Int → Option Value} {Q : Builtin.Str.Mapped → Shared → Prop} (hm : s.heap.MapOf (intKind prog w) d f) (hf : f (c : Int) = none) (hh : A.handled = none) (hd : (d == sysModules) = false)
    (h : ∀ h' t, (∀ b o, s.heap.get? b = some o → h'.get? b = some o) → Q .keep { s with heap := h', toks := t }) :
    wpAny (model prog w) A (Builtin.Str.tableLookup (.ref d) c) Q E s := by
  unfold Builtin.Str.tableLookup
  refine wpAny_bind (wpAny_attempt (wpAny_bind (wpAny_mkInt ?_)))
  refine wpAny_getItem_missing_of (s := { s with toks := s.toks + 1 }) (knd := intKind prog w) (k := (c : Int)) (by simp [intKind, Value.isInt]) hd hh hm hf fun h' e hn => ?_
  obtain ⟨k, _, o, a, ho, hc⟩ := hn
  refine wpAny_bind (wpAny_isInstance (T := "KeyError") (b := true) ⟨_, ho, (by first | exact hc.1 | exact rfl | trace_state)⟩ sub_keyLookup ?_)
  rw [if_pos rfl]
  exact wpAny_bind (wpAny_rule (wpAny_pure (h _ _ k)))

theorem look_text {d : Addr} {c : Nat} {f : Int → Option Value} {y : Str} {u : Tok} {Q : Builtin.Str.Mapped → Shared → Prop} (hm : s.heap.MapOf (intKind prog w) d f) (hf : f (c : Int) = some (.str y u))
    (h : ∀ t, Q (.text y) { s with toks := t }) :
    wpAny (model prog w) A (Builtin.Str.tableLookup (.ref d) c) Q E s := by
  unfold Builtin.Str.tableLookup
  refine wpAny_bind (wpAny_attempt (wpAny_bind (wpAny_mkInt ?_)))
  refine wpAny_getItem_of (s := { s with toks := s.toks + 1 }) (knd := intKind prog w) (k := (c : Int)) (by simp [intKind, Value.isInt]) hm hf ?_
  refine wpAny_bind (wpAny_of_eq (a := none) rfl ?_)
  refine wpAny_bind (wpAny_of_eq (a := some y) rfl ?_)
  exact wpAny_pure (h _)

theorem foldT {α : Type} {M : Model} {A : Around} {E : Value → Shared → Prop} {s : Shared} {t : Sem α} {Q : α → Shared → Prop} (h : ∀ Q', (∀ v s', Q v s' → Q' v s') → wpAny M A t Q' E s) : wpAny M A t Q E s := h Q fun _ _ x => x
theorem forF {α β : Type} {M : Model} {A : Around} {E : Value → Shared → Prop} {s : Shared} {x : Array Nat} {b0 : β} {f : Nat → β → Sem (ForInStep β)} {k : β → Sem α} {Q : α → Shared → Prop} (h : ∀ F, F = f → wpAny M A (forIn x b0 F >>= k) Q E s) : wpAny M A (forIn x b0 f >>= k) Q E s := h f rfl
theorem wpIf {α : Type} {M : Model} {A : Around} {E : Value → Shared → Prop} {s : Shared} {c : Prop} {i : Decidable c} {a b : Sem α} {Q : α → Shared → Prop} (hc : c) (h : wpAny M A a Q E s) : wpAny M A (if c then a else b) Q E s := by rw [if_pos hc]; exact h
theorem wpElse {α : Type} {M : Model} {A : Around} {E : Value → Shared → Prop} {s : Shared} {c : Prop} {i : Decidable c} {a b : Sem α} {Q : α → Shared → Prop} (hc : ¬ c) (h : wpAny M A b Q E s) : wpAny M A (if c then a else b) Q E s := by rw [if_neg hc]; exact h
theorem flat_snoc (ps : List Str) (p : Str) : ((p :: ps).reverse.foldl (fun acc q => acc ++ q.cps) (#[] : Array Nat)) = (ps.reverse.foldl (fun acc q => acc ++ q.cps) #[]) ++ p.cps := by
  rw [List.reverse_cons, List.foldl_append]; rfl

structure TrInv (x : Str) (s : Shared) (rest : List Nat) (b : List Str × Nat × Bool × List (Nat × Option Nat) × Bool) (s' : Shared) : Prop where
  done : ∃ l, x.cps.toList = l ++ rest ∧ (b.1.reverse.foldl (fun acc q => acc ++ q.cps) (#[] : Array Nat)).toList = escL l ∧ b.2.1 = (escL l).length
  known : ∀ c a, b.2.2.2.1.lookup c = some a → a = some c ∧ c ∉ specials
  drop : b.2.2.2.2 = false
  sta : ∃ h' t, s' = { s with heap := h', toks := t } ∧ ∀ b o, s.heap.get? b = some o → h'.get? b = some o

theorem call_translate {x : Str} {t : Tok} {f : Int → Option Value} {Q : Value → Shared → Prop} (hm : s.heap.MapOf (intKind prog w) 16 f) (hf : TabOk f) (hh : A.handled = none) (hd : ((16 : Addr) == sysModules) = false)
    (hx : x.length ≤ 1000000)
    (h : ∀ h' u t', (∀ b o, s.heap.get? b = some o → h'.get? b = some o) → Q (.str (escS x) u) { s with heap := h', toks := t' }) :
    wpAny (model prog w) A (call (.builtin "str.translate") [.str x t, .ref 16]) Q E s := by
  refine wpAny_call_entry F.slot_str_translate (typeIs_str _ _ _) F.entry_str_translate ?_ (F.args_str_translate_2 _ _)
  unfold Builtin.«str.translate»
  refine wpAny_bind (wpAny_of_eq (a := (.str x t, x, .ref 16)) rfl ?_)
  dsimp only
  have hlen : x.cps.toList.length ≤ 1000000 := by simpa [Str.length] using hx
  by_cases h0 : x.length = 0
  · rw [if_pos (by simp [h0])]
    refine wpAny_bind (wpAny_rule (wpAny_bind (wpAny_of_eq (a := .str x t) rfl (wpAny_pure ⟨_, rfl, ?_⟩))))
    have e : x = escS x := by
      obtain ⟨⟨l⟩⟩ := x
      have : l = [] := by simpa [Str.length] using h0
      subst this; rfl
    have := h s.heap t s.toks (fun _ _ e => e)
    rw [← e] at this
    exact this
  · refine wpElse (by simpa using h0) ?_
    refine forF fun F hF => ?_
    rw [← Array.forIn_toList]
    refine wpAny_bind (wpAny_forIn_list _ (TrInv x s) _ (fun c rest b s' hI => ?_) (fun b s' hI => ?_) _ _ ⟨⟨[], by simp, rfl, rfl⟩, fun _ _ e => (nomatch e), rfl, s.heap, s.toks, rfl, fun _ _ e => e⟩)
    · refine foldT fun Q1 hQ0 => ?_
      have hQ1 : ∀ b' s', TrInv x s rest b' s' → Q1 (.yield b') s' := fun b' s' h => hQ0 (.yield b') s' h
      clear hQ0
      obtain ⟨⟨l, hl, hp, ht⟩, hk, hdr, h', t', rfl, keep⟩ := hI
      obtain ⟨pieces, total, fast, known, drop⟩ := b
      dsimp only at hp ht hk hdr
      subst hdr
      have hm' : h'.MapOf (intKind prog w) 16 f := by
        obtain ⟨o, es, ep, a1, a2⟩ := hm
        exact ⟨o, es, ep, keep _ _ a1, a2⟩
      have hbound : (escL l).length ≤ 2000000 := by
        have h1 := escL_len l
        have h2 : l.length ≤ 1000000 := by rw [hl] at hlen; simp at hlen; walk_at "om"
        walk_at "om"
      have hlong : Builtin.Str.tooLong total = false := by
        unfold Builtin.Str.tooLong
        rw [ht, sizeLine_eq]
        exact decide_eq_false (by walk_at "om")
      have hl' : x.cps.toList = (l ++ [c]) ++ rest := by rw [hl]; simp
      have keepI : ∀ (known' : List (Nat × Option Nat)) (fast' : Bool) (h'' : Heap) (t'' : Tok), c ∉ specials → (∀ e a, known'.lookup e = some a → a = some e ∧ e ∉ specials) → (∀ b o, s.heap.get? b = some o → h''.get? b = some o) →
          TrInv x s rest ((⟨#[c]⟩ : Str) :: pieces, total + 1, fast', known', false) { s with heap := h'', toks := t'' } := fun known' fast' h'' t'' hc hk' kp =>
        ⟨⟨l ++ [c], hl', by rw [flat_snoc, Array.toList_append, hp, escL_append]; simp [escL, hc], by dsimp only; rw [ht, escL_append]; simp [escL, hc]⟩, hk', rfl, h'', t'', rfl, kp⟩
      have textI : ∀ (known' : List (Nat × Option Nat)) (fast' : Bool) (h'' : Heap) (t'' : Tok), c ∈ specials → (∀ e a, known'.lookup e = some a → a = some e ∧ e ∉ specials) → (∀ b o, s.heap.get? b = some o → h''.get? b = some o) →
          TrInv x s rest ((⟨#[92, c]⟩ : Str) :: pieces, total + (⟨#[92, c]⟩ : Str).length, fast', known', false) { s with heap := h'', toks := t'' } := fun known' fast' h'' t'' hc hk' kp =>
        ⟨⟨l ++ [c], hl', by rw [flat_snoc, Array.toList_append, hp, escL_append]; simp [escL, hc], by dsimp only; rw [ht, escL_append]; simp [escL, hc, Str.length]⟩, hk', rfl, h'', t'', rfl, kp⟩
      -- the slow road
      have slow : ∀ (Q2 : ForInStep (List Str × Nat × Bool × List (Nat × Option Nat) × Bool) → Shared → Prop), (∀ b' s', TrInv x s rest b' s' → Q2 (.yield b') s') →
          ∀ (known' : List (Nat × Option Nat)) (fast' : Bool) (h'' : Heap) (t'' : Tok), (∀ e a, known'.lookup e = some a → a = some e ∧ e ∉ specials) → (∀ b o, s.heap.get? b = some o → h''.get? b = some o) →
          wpAny (model prog w) A.in1 (Builtin.Str.tableLookup (.ref 16) c >>= fun r => (match r with
                      | Builtin.Str.Mapped.keep => pure (ForInStep.yield ((⟨#[c]⟩ : Str) :: pieces, total + 1, fast', known', false))
                      | Builtin.Str.Mapped.drop => pure (ForInStep.yield (pieces, total, fast', known', true))
                      | Builtin.Str.Mapped.char d => pure (ForInStep.yield ((⟨#[d]⟩ : Str) :: pieces, total + 1, fast', known', false))
                      | Builtin.Str.Mapped.text t => pure (ForInStep.yield (t :: pieces, total + t.length, fast', known', false)) : Sem (ForInStep (List Str × Nat × Bool × List (Nat × Option Nat) × Bool))))
            Q2 E { s with heap := h'', toks := t'' } := fun Q2 hQ2 known' fast' h'' t'' hk' kp => by
        have hm'' : h''.MapOf (intKind prog w) 16 f := by
          obtain ⟨o, es, ep, a1, a2⟩ := hm
          exact ⟨o, es, ep, kp _ _ a1, a2⟩
        by_cases hc : c ∈ specials
        · obtain ⟨u, hu⟩ := hf.yes c hc
          exact wpAny_bind (look_text (s := { s with heap := h'', toks := t'' }) hm'' hu fun t3 => wpAny_pure (hQ2 _ _ (textI _ _ _ _ hc hk' kp)))
        · exact wpAny_bind (look_keep (s := { s with heap := h'', toks := t'' }) hm'' (hf.no c hc) hh hd fun h3 t3 k3 => wpAny_pure (hQ2 _ _ (keepI _ _ _ _ hc hk' fun b o e => k3 b o (kp b o e))))
      have hlong' : ¬ Builtin.Str.tooLong total = true := by rw [hlong]; exact Bool.false_ne_true
      by_cases hfast : fast = true
      · cases hlk : known.lookup c with
        | some a =>
          obtain ⟨rfl, hc⟩ := hk c a hlk
          have hq := hQ1 _ _ (keepI known fast h' t' hc hk keep)
          subst hF
          refine wpElse hlong' (wpIf hfast ?_)
          rw [hlk]
          exact wpAny_bind (wpAny_pure (wpAny_pure hq))
        | none =>
          by_cases hc : c ∈ specials
          · obtain ⟨u, hu⟩ := hf.yes c hc
            have hs := fun t3 => slow Q1 hQ1 known false h' t3 hk keep
            subst hF
            refine wpElse hlong' (wpIf hfast ?_)
            rw [hlk]
            refine wpAny_bind (look_text (s := { s with heap := h', toks := t' }) hm' hu fun t3 => ?_)
            refine wpAny_bind (wpAny_pure (wpAny_bind (wpAny_rule (wpElse Bool.false_ne_true (hs t3)))))
          · have hq : ∀ (h3 : Heap) (t3 : Tok), (∀ b o, h'.get? b = some o → h3.get? b = some o) → _ := fun h3 t3 k3 => hQ1 _ _ (keepI ((c, some c) :: known) fast h3 t3 hc (fun e a he => by
              rw [List.lookup_cons] at he
              by_cases q : e = c
              · subst q; simp at he; exact ⟨he.symm, hc⟩
              · have : (e == c) = false := by simpa using q
                rw [this] at he
                exact hk e a he) fun b o e => k3 b o (keep b o e))
            subst hF
            refine wpElse hlong' (wpIf hfast ?_)
            rw [hlk]
            refine wpAny_bind (look_keep (s := { s with heap := h', toks := t' }) hm' (hf.no c hc) hh hd fun h3 t3 k3 => ?_)
            exact wpAny_bind (wpAny_pure (wpAny_pure (hq h3 t3 k3)))
      · have hs := slow Q1 hQ1 known fast h' t' hk keep
        subst hF
        exact wpElse hlong' (wpElse hfast (wpElse Bool.false_ne_true hs))
    · obtain ⟨pieces, total, fast, known, drop⟩ := b
      obtain ⟨⟨l, hl, hp, ht⟩, hk, hdr, h', t', rfl, keep⟩ := hI
      dsimp only at hp ht hk hdr ⊢
      rw [List.append_nil] at hl
      have hbound : (escL l).length ≤ 2000000 := by
        have h1 := escL_len l
        rw [hl] at hlen
        walk_at "om"
      have hlong : Builtin.Str.tooLong total = false := by
        unfold Builtin.Str.tooLong
        rw [ht, sizeLine_eq]
        exact decide_eq_false (by walk_at "om")
      rw [if_neg (by rw [hlong]; exact Bool.false_ne_true)]
      have e : ({ cps := List.foldl (fun acc p => acc ++ p.cps) #[] pieces.reverse } : Str) = escS x := by
        unfold escS
        rw [hl, ← hp]
      rw [e]
      refine wpAny_bind (wpAny_mkStr (wpAny_pure ⟨_, rfl, h h' t' (t' + 1) keep⟩) ?_)
      show (escL x.cps.toList).toArray.size ≤ _
      rw [hl, List.size_toArray, sizeLine_eq]; walk_at "om"
end
end
section
noncomputable abbrev prg : Program := PySem.Challenge.rw_ku0001_01.row.prog

section
variable {prog : Program} {w : World} {A : Around} {E : Value → Shared → Prop} {s : Shared} {g : Heap} {L : Addr} {m : Str → Option Value} {cs cs' fr : List Cl}

theorem nlS {vs : List Value} {Q : Value → Shared → Prop} (S : Sta g s.heap L m cs fr)
    (h : ∀ a h', Sta g h' L m ((a, lst vs.toArray) :: cs) fr → Q (.ref a) { s with heap := h' }) (hsz : vs.length ≤ sizeLine := by size_fits) :
    wpAny (model prog w) A (newList vs) Q E s :=
  wpAny_newObj_type (h _ _ (S.push rfl ⟨rfl, rfl, _, rfl⟩)) (by show vs.toArray.size ≤ sizeLine; rw [List.size_toArray]; exact hsz)
theorem ntS {vs : List Value} {Q : Value → Shared → Prop} (S : Sta g s.heap L m cs fr)
    (h : ∀ a h', Sta g h' L m ((a, tupl vs.toArray) :: cs) fr → Q (.ref a) { s with heap := h' }) (hsz : vs.length ≤ sizeLine := by size_fits) :
    wpAny (model prog w) A (newTuple vs) Q E s :=
  wpAny_newObj_type (h _ _ (S.push rfl ⟨rfl, _, rfl⟩)) (by show vs.toArray.size ≤ sizeLine; rw [List.size_toArray]; exact hsz)

theorem apS {D : Addr} {vs : Array Value} {x : Value} {Q : Value → Shared → Prop} (S : Sta g s.heap L m cs fr) (U : Upd D (lst vs) (lst (vs.push x)) cs cs')
    (h : ∀ h', Sta g h' L m cs' fr → Q .none { s with heap := h' }) (hsz : vs.size ≤ sizeLine) :
    wpAny (model prog w) A (call (.builtin "list.append") [.ref D, x]) Q E s :=
  list_append_plainL (S.at U).plL (fun h' hl hs => h h' (S.upd U hs.extBut (.ofPl hl))) hsz

theorem gmAp {D : Addr} {vs : Array Value} {pl : Sem Bool} {Q : Value × List Value → Shared → Prop} (H : Holds s.heap (D, lst vs)) (h : Q (.builtin "list.append", [.ref D]) s) :
    wpAny (model prog w) A (getMethod (.ref D) "append" pl) Q E s :=
  let ⟨_, _, a, b, c, _⟩ := H.plL; Calls.getMethod_list_append a b c h
theorem gmExt {D : Addr} {vs : Array Value} {pl : Sem Bool} {Q : Value × List Value → Shared → Prop} (H : Holds s.heap (D, lst vs)) (h : Q (.builtin "list.extend", [.ref D]) s) :
    wpAny (model prog w) A (getMethod (.ref D) "extend" pl) Q E s :=
  getMethod_list_of F.slot_list_extend F.type_list_extend H.isL (let ⟨_, _, a, _, c, _⟩ := H.plL; ⟨_, a, c⟩) h

theorem gmTr {x : Str} {t : Tok} {pl : Sem Bool} {Q : Value × List Value → Shared → Prop} (h : Q (.builtin "str.translate", [.str x t]) s) : wpAny (model prog w) A (getMethod (.str x t) "translate" pl) Q E s := by
  with_reducible exact GM.of (.str x t) (typeIs_str _ _ _) F.slot_str_translate F.type_str_translate GM.noRef h
end

theorem tab_at (P : Params) : (heapF P).lookup 16 = some tabObj := by rfl
theorem tab_keys : tabEs.map (·.1) = specials := by rfl
noncomputable def tabF (k : Int) : Option Value := findBy Value.isInt (tabEs.map fun e => (⟨(e.1 : Int), .int e.1 e.2.1, .str ⟨#[92, e.1]⟩ e.2.2⟩ : DictEntry)).toArray k
theorem tabF_ok : TabOk tabF := by
  constructor
  · intro c hc
    have : ∀ c ∈ specials, ∃ t, tabF (c : Int) = some (.str ⟨#[92, c]⟩ t) := by
      unfold specials
      simp only [List.forall_mem_cons]
      refine ⟨?_, ?_, ?_, ?_, ?_, ?_, ?_, ?_, ?_, ?_, ?_, ?_, ?_, ?_, ?_, ?_, ?_, ?_, ?_, ?_, ?_, ?_, ?_, ?_, fun _ h => nomatch h⟩ <;> exact ⟨_, rfl⟩
    exact this c hc
  · intro c hc
    unfold tabF findBy
    rw [List.find?_toArray]
    have : (tabEs.map fun e => (⟨(e.1 : Int), .int e.1 e.2.1, .str ⟨#[92, e.1]⟩ e.2.2⟩ : DictEntry)).find? (fun e => Value.isInt (c : Int) e.key) = none := by
      rw [List.find?_eq_none]
      intro e he
      obtain ⟨p, hp, rfl⟩ := List.mem_map.mp he
      have hm : p.1 ∈ specials := by rw [← tab_keys]; exact List.mem_map.mpr ⟨p, hp, rfl⟩
      simp only [Value.isInt]
      intro q
      have : (c : Int) = p.1 := by first | exact of_decide_eq_true q | simpa using q | exact (by simpa using q : (p.1 : Int) = c).symm
      have : c = p.1 := by walk_at "om"
      exact hc (this ▸ hm)
    rw [this]; rfl
theorem tab_map {prog : Program} {w : World} {h : Heap} (X : Lib w h) : h.MapOf (intKind prog w) 16 tabF := by
  refine ⟨tabObj, _, 24, X.K _ _ (tab_at _), ⟨rfl, rfl, rfl⟩, rfl, ?_, fun k => rfl⟩
  intro e he
  rw [List.mem_toArray] at he
  obtain ⟨p, _, rfl⟩ := List.mem_map.mp he
  refine ⟨(p.1 : Int), by simp [intKind, Value.isInt], ?_⟩
  have : p.1 < 127 := by
    have : ∀ p ∈ tabEs, p.1 < 127 := by decide
    exact this p (by assumption)
  show (p.1 : Int) = hashInt (p.1 : Int)
  have : ∀ n : Nat, n < 127 → (n : Int) = hashInt (n : Int) := by decide
  exact this _ (by assumption)
theorem trS {prog : Program} {w : World} {A : Around} {E : Value → Shared → Prop} {s : Shared} {x : Str} {t : Tok} {Q : Value → Shared → Prop} {g : Heap} {L : Addr} {m : Str → Option Value} {cs fr : List Cl}
    (S : Sta g s.heap L m cs fr) (X : Lib w g) (hh : A.handled = none) (hx : x.length ≤ 1000000)
    (h : ∀ h' u t', Sta g h' L m cs fr → Q (.str (escS x) u) { s with heap := h', toks := t' }) :
    wpAny (model prog w) A (call (.builtin "str.translate") [.str x t, .ref 16]) Q E s :=
  call_translate (tab_map (S.lib X)) tabF_ok hh (by decide) hx fun h' u t' k => h h' u t' (S.ext k)
end
section
theorem foldQ {α : Type} {M : Model} {A : Around} {E : Value → Shared → Prop} {s : Shared} {t : Sem α} {Q : α → Shared → Prop} (h : ∀ Q' : α → Shared → Prop, (∀ v s', Q v s' → Q' v s') → wpAny M A t Q' E s) : wpAny M A t Q E s := h Q fun _ _ x => x
theorem execs_cut {M : Model} {A : Around} {E : Value → Shared → Prop} {s : Shared} {env : Env} {Q : Flow → Shared → Prop} {st : Stmt} {rest : List Stmt} (h : ∀ rest', rest' = rest → wpAny M A (PySem.exec st env) (fun f s' => match f with | .next => wpAny M A (execs rest' env) Q E s' | f => Q f s') E s) : wpAny M A (execs (st :: rest) env) Q E s :=
  wpAny_execs_cons (h rest rfl)
theorem execs_mid {M : Model} {A : Around} {E : Value → Shared → Prop} {s : Shared} {env : Env} {Q : Flow → Shared → Prop} {st : Stmt} {rest : List Stmt} (R : Shared → Prop) (h1 : wpAny M A (PySem.exec st env) (fun f s' => f = .next ∧ R s') (fun _ _ => False) s)
    (h2 : ∀ s', R s' → wpAny M A (execs rest env) Q E s') : wpAny M A (execs (st :: rest) env) Q E s :=
  wpAny_execs_cons (wpAny_mono h1 (fun f s' x => by obtain ⟨rfl, r⟩ := x; exact h2 s' r) fun _ _ x => x.elim)
theorem room {a k j n : Nat} (h : a + k < n) (hle : j ≤ k := by decide) : a + j < n := Nat.lt_of_le_of_lt (Nat.add_le_add_left hle a) h
theorem room0 {a k n : Nat} (h : a + k < n) : a < n := Nat.lt_of_le_of_lt (Nat.le_add_right a k) h
theorem room1 {a k j n : Nat} (h : a + k < n) (hle : 1 + j ≤ k := by decide) : a + 1 + j < n := Nat.add_assoc a 1 j ▸ room h hle
theorem args_one {M : Model} {A : Around} {E : Value → Shared → Prop} {s : Shared} {env : Env} {e : Expr} {pos : Pos} {Q : List Value → Shared → Prop} (h : wpAny M A (eval e env) (fun v s₁ => Q [v] s₁) E s)
    (he : starEach [e] env = (false, eval e env) :: starEach [] env := by rfl) : wpAny M A (spliced (backTo pos (starEach [e] env))) Q E s := args_cons (wpAny_mono h (fun _ _ h1 => args_nil h1) fun _ _ x => x) he
section
variable {prog : Program} {w : World} {A : Around} {E : Value → Shared → Prop} {s : Shared} {env : Env} {g : Heap} {L : Addr} {m : Str → Option Value} {cs fr : List Cl} {x c y : Str} {t : Tok} {k : Nat} {p1 p2 p3 p4 : Pos} {b1 b2 : List Stmt} {Q : Flow → Shared → Prop}
theorem ifT (S : Sta g s.heap L m cs fr) (hv : m x = some (.str y t)) (hb : (y == c) = true) (h : wpAny (model prog w) A (execs b1 env) Q E { s with toks := s.toks + 1 })
    (hL : env.locals = L := by rfl) (hk : env.scope.kind = .function := by rfl) (hl : env.kindOf x = some .local := by rfl) (hd : (x == ("__debug__" : Str)) = false := by decide) :
    wpAny (model prog w) A (PySem.exec (.If (.Compare (.Name x p1) [.Eq] [.Constant (.str c) k p2] p3) b1 b2 p4) env) Q E s := by
  refine wpAny_If (wpAny_isTrue_Compare1 (ldv S hv (Calls.Constant_str (eq_str (wpAny_truthy_bool ?_))) hL hk hl hd))
  rw [hb]; exact h
theorem ifF (S : Sta g s.heap L m cs fr) (hv : m x = some (.str y t)) (hb : (y == c) = false) (h : wpAny (model prog w) A (execs b2 env) Q E { s with toks := s.toks + 1 })
    (hL : env.locals = L := by rfl) (hk : env.scope.kind = .function := by rfl) (hl : env.kindOf x = some .local := by rfl) (hd : (x == ("__debug__" : Str)) = false := by decide) :
    wpAny (model prog w) A (PySem.exec (.If (.Compare (.Name x p1) [.Eq] [.Constant (.str c) k p2] p3) b1 b2 p4) env) Q E s := by
  refine wpAny_If (wpAny_isTrue_Compare1 (ldv S hv (Calls.Constant_str (eq_str (wpAny_truthy_bool ?_))) hL hk hl hd))
  rw [hb]; exact h
end
theorem beqF {u v : List Nat} (h : u ≠ v) : ((⟨u.toArray⟩ : Str) == ⟨v.toArray⟩) = false := by
  rw [beq_eq_false_iff_ne]
  intro e
  injection e with e
  exact h (by simpa using congrArg Array.toList e)
theorem ite_T {b : Bool} {p q : Prop} (hb : b = true) (h : p) : if b = true then p else q := by rw [if_pos hb]; exact h
theorem ite_F {b : Bool} {p q : Prop} (hb : b = false) (h : q) : if b = true then p else q := by rw [hb, if_neg Bool.false_ne_true]; exact h
end
local macro_rules | `(tactic| walk_at "a") => `(tactic| with_reducible assumption)
local macro_rules | `(tactic| walk_at "u") => `(tactic| with_unfolding_all rfl)
local macro_rules | `(tactic| walk_at "v") => `(tactic| (intro _; with_unfolding_all rfl))
local macro_rules | `(tactic| walk_at "spliced") => `(tactic| with_plain refine args_one ?_)
local macro_rules | `(tactic| walk_at "ite") => `(tactic| first | with_reducible refine ite_T (by decide) ?_ | with_reducible refine ite_F (by decide) ?_)
local macro_rules | `(tactic| walk_at "lk") => `(tactic| first | with_reducible assumption | with_reducible exact up_eq | (with_reducible refine up_ne (by decide) ?_; walk_at "lk") | rfl)
local macro_rules | `(tactic| walk_at "nm") => `(tactic| with_reducible first | exact nm_escape _ | exact nm_map _ | exact nm_tp _ | exact nm_iter _ | exact nm_strip _ | exact nm_check _ | exact nm_path _ | exact nm_rows _ | exact nm_hidden _ | exact nm_pairs _)
local macro_rules | `(tactic| walk_at "eval Name") => `(tactic| with_plain (refine gl_fn (by walk_at "lib") (by walk_at "nm") ?_))
local macro_rules | `(tactic| walk_at "nb") => `(tactic| with_reducible first | exact nb_isinstance _ | exact nb_str _ | exact nb_list _ | exact nb_map _ | exact nb_range _ | exact nb_len _ | exact nb_enumerate _ | exact nb_sum _)
local macro_rules | `(tactic| walk_at "bb") => `(tactic| with_reducible first | exact bb_isinstance | exact bb_str | exact bb_list | exact bb_map | exact bb_range | exact bb_len | exact bb_enumerate | exact bb_sum)
local macro_rules | `(tactic| walk_at "eval Name") => `(tactic| with_plain (refine gl_bi (by walk_at "lib") (by walk_at "nb") (by walk_at "bb") ?_))
local macro_rules | `(tactic| walk_at "eval Name") => `(tactic| with_plain (refine ldv (by walk_at "a") (by walk_at "lk") ?_))
local macro_rules | `(tactic| walk_at "storeName") => `(tactic| with_plain (refine stv (by walk_at "a") ?_; intro _ _ _))
local macro_rules | `(tactic| walk_at "callWith ref") => `(tactic| with_plain (refine callWith_K (Lib.K (by walk_at "a")) rfl ?_))
local macro_rules | `(tactic| walk_at "And") => `(tactic| ((with_reducible show Frag.In _ _ ∧ _); refine ⟨Lib.K (Sta.lib (by walk_at "a") (by walk_at "a")), ?_⟩))
local macro_rules | `(tactic| walk_at "lib") => `(tactic| exact Sta.lib (by walk_at "a") (by walk_at "a"))
local macro_rules | `(tactic| walk_at "newList") => `(tactic| with_plain (refine nlS (by walk_at "a") ?_ (by size_fits); intro _ _ _))
local macro_rules | `(tactic| walk_at "newTuple") => `(tactic| with_plain (refine ntS (by walk_at "a") ?_ (by size_fits); intro _ _ _))
local macro_rules | `(tactic| walk_at "up") => `(tactic| first | exact Upd.head | (apply Upd.tail; walk_at "up"))
local macro_rules | `(tactic| walk_at "del") => `(tactic| first | exact Del.head | (apply Del.tail; walk_at "del"))
local macro_rules | `(tactic| walk_at "mem") => `(tactic| first | exact List.mem_cons_self | (refine List.mem_cons_of_mem _ ?_; walk_at "mem"))
local macro_rules | `(tactic| walk_at "holds") => `(tactic| first | (with_reducible exact Sta.atC (by assumption) (by walk_at "mem")) | (with_reducible exact Sta.atF (by assumption) (by walk_at "mem")))
local macro_rules | `(tactic| walk_at "getMethod ref") => `(tactic| (with_reducible refine gmAp (by walk_at "holds") ?_))
local macro_rules | `(tactic| walk_at "getMethod ref") => `(tactic| (with_reducible refine gmExt (by walk_at "holds") ?_))
local macro_rules | `(tactic| walk_at "getMethod str") => `(tactic| (with_reducible refine gmTr ?_))
local macro_rules | `(tactic| walk_at "call builtin:list.append") => `(tactic| with_plain (refine apS (by walk_at "a") (by walk_at "up") ?_ (by walk_at "fit"); intro _ _))
local macro_rules | `(tactic| walk_at "call builtin:str.translate") => `(tactic| with_plain (refine trS (by walk_at "a") (by walk_at "a") (by assumption) (by assumption) ?_; intro _ _ _ _))
local macro_rules | `(tactic| walk_at "fit") => `(tactic| first | (rw [sizeLine_eq]; walk_at "om") | (simp only [Str.length_append]; rw [sizeLine_eq]; walk_at "om"))
local macro_rules | `(tactic| walk_at "formatField str") => `(tactic| (refine formatField_str ?_ (by walk_at "fit"); intro _ _))
local macro_rules | `(tactic| walk_at "And") => `(tactic| ((with_reducible show PySem.Str.length (_ ++ _) ≤ sizeLine ∧ wpAny _ _ (joinParts _ _) _ _ _); refine ⟨by walk_at "fit", ?_⟩))
local macro_rules | `(tactic| walk_at "joinParts") => `(tactic| first | refine joinParts_cons ?_ | (refine joinParts_nil ?_ (by walk_at "fit")))
local macro_rules | `(tactic| walk_at "call builtin:len") => `(tactic| ((with_reducible show wpAny _ _ (call (Value.builtin _) [Value.ref _]) _ _ _); with_plain (refine Calls.call_len_list (by exact Holds.isL (by walk_at "holds")) (by walk_at "fit2") ?_)))
local macro_rules | `(tactic| walk_at "exec For") => `(tactic| refine wpAny_For ?_)
local macro_rules | `(tactic| walk_at "W") => `(tactic| repeat (walk1; (try dsimp only)))
section
section
variable {w : World} {A : Around} {s : Shared} {E : Value → Shared → Prop}
theorem escape_call {x : Str} {t : Tok} {Q : Value → Shared → Prop} (X : Lib w s.heap) (hh : A.handled = none) (hroom : A.depth < recursionLimit) (hx : x.length ≤ 1000000)
    (h : ∀ h' u t', (∀ b o, s.heap.get? b = some o → h'.get? b = some o) → Q (.str (escS x) u) { s with heap := h', toks := t' }) :
    wpAny (model prg w) A (call (.ref 26) [.str x t]) Q E s := by
  refine enter_escape X hroom fun L h₁ t S => ?_
  repeat walk1
  exact h _ _ _ (Sta.keep (by assumption))
end
end
section
namespace FM
theorem slot_map_next : Slot "map" "__next__" "map.__next__" :=
  .of (owner := "map") (n := "__next__") (by rw [typeLookup_type, builtinLookup_eq_fast]; kernel_rfl) (by decide +kernel) (by decide +kernel) (by decide +kernel)
    (by first | exact .inl (by decide +kernel) | exact .inr (by decide +kernel)) (by rw [isSubtype_type]; kernel_rfl)
theorem slot_map_iter : Slot "map" "__iter__" "map.__iter__" :=
  .of (owner := "map") (n := "__iter__") (by rw [typeLookup_type, builtinLookup_eq_fast]; kernel_rfl) (by decide +kernel) (by decide +kernel) (by decide +kernel)
    (by first | exact .inl (by decide +kernel) | exact .inr (by decide +kernel)) (by rw [isSubtype_type]; kernel_rfl)
theorem slot_map_init : Slot "map" "__init__" "object.__init__" :=
  .of (owner := "object") (n := "__init__") (by rw [typeLookup_type, builtinLookup_eq_fast]; kernel_rfl) (by decide +kernel) (by decide +kernel) (by decide +kernel)
    (by first | exact .inl (by decide +kernel) | exact .inr (by decide +kernel)) (by rw [isSubtype_type]; kernel_rfl)
theorem owner_map : Manifest.owners.lookup (String.ofList ['p', 'a', 'm'].reverse) = some Manifest.sig_map := by kernel_rfl
theorem entry_map_next : entryFor table "map.__next__" = some Builtin.«map.__next__» := entryFor_of_tree (by kernel_rfl)
theorem args_map_next_1 (a : Value) : argsOk "map.__next__" ⟨[a], []⟩ := by
  unfold argsOk; rw [signature?_of (id := "map.__next__") (n := ['_', '_', 't', 'x', 'e', 'n', '_', '_']) (o := ['p', 'a', 'm']) (by kernel_rfl) owner_map]; kernel_rfl
theorem args_map_iter_1 (a : Value) : argsOk "map.__iter__" ⟨[a], []⟩ := by
  unfold argsOk; rw [signature?_of (id := "map.__iter__") (n := ['_', '_', 'r', 'e', 't', 'i', '_', '_']) (o := ['p', 'a', 'm']) (by kernel_rfl) owner_map]; kernel_rfl
theorem entry_map_iter : entryFor table "map.__iter__" = some Builtin.«dict_keyiterator.__iter__» :=
  entryFor_alias (id' := "dict_keyiterator.__iter__") (by kernel_rfl) (by first | rfl | decide +kernel | (unfold String.splitOn; simp +decide [String.splitOnAux])) (by decide +kernel) (by kernel_rfl)
theorem mro_map : mroOf (.type "map") = pure [.type "map", .type "object"] := by rw [mroOf_type]; kernel_rfl
theorem lookup_map_new : typeLookup (.type "map") "__new__" = pure (some (.builtin "map.__new__")) := by rw [typeLookup_type, builtinLookup_eq_fast]; kernel_rfl
theorem called_map : TypeCalled "map" "map.__new__" "object.__init__" :=
  ⟨by decide +kernel, by decide +kernel, ⟨_, _, mro_map⟩, madeBy_type mro_map lookup_map_new (by decide +kernel), by decide +kernel, by rw [isSubtype_type]; kernel_rfl, slot_map_init⟩
theorem typeCall_map_2 (a b : Value) : checkTypeCall "map" ⟨[a, b], []⟩ = pure () := by kernel_rfl
theorem newCall_map_2 (a b : Value) : checkBuiltinCall "map.__new__" ⟨[.type "map", a, b], []⟩ = pure () := by kernel_rfl
theorem entry_map_new : entryFor table "map.__new__" = some Builtin.«map.__new__» := entryFor_of_tree (by kernel_rfl)
theorem sub_map : isSubtype (.type "map") (.type "map") = pure true := by rw [isSubtype_type]; kernel_rfl
theorem map_no_len : typeLookup (.type "map") "__len__" = pure none := by rw [typeLookup_type, builtinLookup_eq_fast]; kernel_rfl
theorem map_no_hint : typeLookup (.type "map") "__length_hint__" = pure none := by rw [typeLookup_type, builtinLookup_eq_fast]; kernel_rfl
end FM

noncomputable abbrev mapO (T : Addr) (f : Value) : Obj → Prop := fun o => o = { cls := .type "map", data := .fields #[.ref T, f] }

theorem meets_map_new (f : Value) (l : Addr) (xs : Array Value) :
    Meets (Builtin.«map.__new__» ⟨[.type "map", f, .ref l], []⟩) (fun _ R s => s.heap.IsList l xs ∧
      R (.ok (.ret (.ref (s.heap.objs.size + 1 + 1)))) { s with heap := ((s.heap.push { cls := .type "list_iterator", data := .fields #[.ref l, .int 0 0] }).push { cls := .type "tuple", data := .seq #[.ref s.heap.objs.size] }).push { cls := .type "map", data := .fields #[.ref (s.heap.objs.size + 1), f] } }) :=
  .of_wp fun prog w A R s h => by
    obtain ⟨hp, g, d, tk, os⟩ := s; obtain ⟨hl, h⟩ := h
    have hsub := FM.sub_map
    have hL : Heap.IsList (Shared.heap ⟨hp, g, d, tk, os⟩) l xs := hl
    wp_walk using wpAny_pyIter_list hL
    refine ⟨_, rfl, ?_⟩
    simp only [Heap.size_push] at h ⊢
    exact h

section
variable {prog : Program} {w : World} {A : Around} {E : Value → Shared → Prop} {s : Shared} {g : Heap} {L : Addr} {m : Str → Option Value} {cs cs' fr : List Cl}

theorem mapS {f : Value} {l : Addr} {xs : Array Value} {Q : Value → Shared → Prop} (S : Sta g s.heap L m cs fr) (hl : Holds s.heap (l, lst xs))
    (h : ∀ M T I h', Sta g h' L m ((M, mapO T f) :: (T, tupl #[.ref I]) :: (I, lit l 0) :: cs) fr → Q (.ref M) { s with heap := h' }) :
    wpAny (model prog w) A (call (.type "map") [f, .ref l]) Q E s := by
  refine callType_new FM.called_map (by decide) (FM.typeCall_map_2 _ _) (FM.newCall_map_2 _ _) (fun obj => F.args_object_init_3 obj _ _) FM.entry_map_new (meets_map_new f l xs) ⟨hl.isL, ?_⟩
  have S1 := S.push (o := { cls := .type "list_iterator", data := .fields #[.ref l, .int 0 0] }) (P := lit l 0) rfl ⟨rfl, rfl⟩
  have S2 := S1.push (o := { cls := .type "tuple", data := .seq #[.ref s.heap.objs.size] }) (P := tupl #[.ref s.heap.objs.size]) rfl ⟨rfl, _, rfl⟩
  have S3 := S2.push (o := { cls := .type "map", data := .fields #[.ref (s.heap.objs.size + 1), f] }) (P := mapO (s.heap.objs.size + 1) f) rfl rfl
  simp only [Heap.size_push] at S1 S2 S3
  refine ⟨⟨{ cls := .type "map", data := .fields #[.ref (s.heap.objs.size + 1), f] }, ?_, rfl⟩, h _ _ _ _ S3⟩
  have := Heap.get?_push_size ((s.heap.push { cls := .type "list_iterator", data := .fields #[.ref l, .int 0 0] }).push { cls := .type "tuple", data := .seq #[.ref s.heap.objs.size] }) (o := { cls := .type "map", data := .fields #[.ref (s.heap.objs.size + 1), f] }) rfl
  simp only [Heap.size_push] at this
  exact this
end
end
section
section
variable {prog : Program} {w : World} {A : Around} {E : Value → Shared → Prop} {s : Shared} {g : Heap} {L : Addr} {m : Str → Option Value} {cs cs' fr : List Cl}

/-- the object of an ended or unended list that is being filled -/
noncomputable abbrev lstX (vs : Array Value) : Obj → Prop := fun o => ∃ n, o = { cls := .type "list", dict := none, data := .seq vs n, slots := #[] }
theorem Holds.ofX {h : Heap} {D : Addr} {vs : Array Value} (x : Holds h (D, lstX vs)) : Holds h (D, lst vs) := let ⟨o, a, n, e⟩ := x; ⟨o, a, by rw [e], by rw [e], n, by rw [e]⟩

theorem extend_loop {I D : Addr} {res : Value} {R : Result → Shared → Prop} {A : Around} (J : Nat → Array Value → Shared → Prop) (Fi : Array Value → Shared → Prop)
    (hD : ∀ k acc s, J k acc s → Holds s.heap (D, lstX acc) ∧ acc.size ≤ 100000)
    (item : ∀ k acc (s : Shared) (Q : Option Value → Shared → Prop) (E : Value → Shared → Prop), J (k + 1) acc s →
      (∀ v s', Holds s'.heap (D, lstX acc) → (∀ h3, Heap.SameBut D s'.heap h3 → Holds h3 (D, lstX (acc.push v)) → J k (acc.push v) { s' with heap := h3 }) → Q (some v) s') → wpAny (model prog w) A.in1 (pyNext (.ref I)) Q E s)
    (done : ∀ acc (s : Shared) (Q : Option Value → Shared → Prop) (E : Value → Shared → Prop), J 0 acc s → (∀ s', Fi acc s' → Q none s') → wpAny (model prog w) A.in1 (pyNext (.ref I)) Q E s)
    (fin : ∀ acc s, Fi acc s → R (.ok (.ret res)) s) :
    ∀ k acc s, J k acc s → codeAny (model prog w) A (.builtin "list.extend.loop" ⟨[.ref D, .ref I, res], []⟩) R s := by
  intro k
  induction k with
  | zero =>
    intro acc s hJ
    refine codeAny_builtin F.entry_extend_loop ?_
    rw [Around.under_plainId F.plain_extend_loop _]
    show wpAny _ A.in1 (pyNext (.ref I) >>= _) _ _ s
    exact wpAny_bind (done acc s _ _ hJ fun s' hF => wpAny_pure (fin acc s' hF))
  | succ k ih =>
    intro acc s hJ
    have hsz := (hD _ _ _ hJ).2
    refine codeAny_builtin F.entry_extend_loop ?_
    rw [Around.under_plainId F.plain_extend_loop _]
    show wpAny _ A.in1 (pyNext (.ref I) >>= _) _ _ s
    refine wpAny_bind (item k acc s _ _ hJ fun v s' hH hP => ?_)
    obtain ⟨o, ho, n, rfl⟩ := hH
    show wpAny _ A.in1 (updateSeq D (·.push v) >>= _) _ _ _
    refine wpAny_bind ?_
    refine wpAny_updateSeq ho rfl (wpAny_pure ⟨plainId_quiet F.plain_extend_loop _, ih _ _ (hP _ (Heap.SameBut.update ..) ?_)⟩)
      (by rw [sizeLine_eq]; walk_at "om") (by show (acc.push v).size ≤ sizeLine + 1; rw [Array.size_push, sizeLine_eq]; walk_at "om")
    refine ⟨_, Heap.get?_update_self _ ho rfl, n + 1, ?_⟩
    simp [Obj.mapSeq]

theorem list_call {I : Addr} {T : String} {n : Nat} {Q : Value → Shared → Prop} (S : Sta g s.heap L m cs fr)
    (hT : ∀ D acc h', Sta g h' L m ((D, lstX acc) :: cs) fr → ∃ o, h'.get? I = some o ∧ o.cls = .type T) (hne : ∀ D acc h', Sta g h' L m ((D, lstX acc) :: cs) fr → D ≠ I)
    (hl : (Value.type T == Value.type "list") = false) (ht : (Value.type T == Value.type "tuple") = false) (nolen : typeLookup (.type T) "__len__" = pure none) (nohint : typeLookup (.type T) "__length_hint__" = pure none)
    (self : ∀ D (h' : Heap) (Q : Value → Shared → Prop) (E : Value → Shared → Prop), Sta g h' L m ((D, lstX #[]) :: cs) fr → Q (.ref I) { s with heap := h' } → wpAny (model prog w) A.in1.in1 (pyIter (.ref I)) Q E { s with heap := h' })
    (J : Addr → Nat → Array Value → Shared → Prop) (Fi : Addr → Array Value → Shared → Prop)
    (start : ∀ D h', Sta g h' L m ((D, lstX #[]) :: cs) fr → J D n #[] { s with heap := h' })
    (hD : ∀ D k acc s, J D k acc s → Holds s.heap (D, lstX acc) ∧ acc.size ≤ 100000)
    (item : ∀ D k acc (s : Shared) (Q : Option Value → Shared → Prop) (E : Value → Shared → Prop), J D (k + 1) acc s →
      (∀ v s', Holds s'.heap (D, lstX acc) → (∀ h3, Heap.SameBut D s'.heap h3 → Holds h3 (D, lstX (acc.push v)) → J D k (acc.push v) { s' with heap := h3 }) → Q (some v) s') → wpAny (model prog w) A.in1.in1 (pyNext (.ref I)) Q E s)
    (done : ∀ D acc (s : Shared) (Q : Option Value → Shared → Prop) (E : Value → Shared → Prop), J D 0 acc s → (∀ s', Fi D acc s' → Q none s') → wpAny (model prog w) A.in1.in1 (pyNext (.ref I)) Q E s)
    (fin : ∀ D acc s, Fi D acc s → Q (.ref D) s) :
    wpAny (model prog w) A (call (.type "list") [.ref I]) Q E s := by
  refine callType_codes (Q₁ := fun obj s₁ => obj = .ref s.heap.objs.size ∧ s₁ = { s with heap := s.heap.push { cls := .type "list", data := .seq #[] } }) F.called_list (F.typeCall_list_1 _) F.entry_list_init
    (code_list_new _ ⟨rfl, rfl⟩) fun obj s₁ h₁ => ?_
  obtain ⟨rfl, rfl⟩ := h₁
  have hS : (s.heap.push { cls := .type "list", data := .seq #[] }).get? s.heap.objs.size = some { cls := .type "list", data := .seq #[] } := Heap.get?_push_size _ rfl
  refine ⟨⟨_, hS, rfl⟩, F.args_list_init_2 _ _, ?_⟩
  have S1 := S.push (o := { cls := .type "list", data := .seq #[] }) (P := lstX #[]) rfl ⟨0, rfl⟩
  generalize s.heap.push { cls := .type "list", data := .seq #[] } = h1 at hS S1
  generalize s.heap.objs.size = D at hS S1
  show wpAny _ A.in1.in1 (do let old ← Builtin.List.listItems (.ref D); Builtin.List.listUpdate (.ref D) (fun _ => #[]); letGo old.toList.reverse; Builtin.List.listExtendWith (.ref D) (.ref I) .none) _ _ _
  refine wpAny_bind ?_
  unfold Builtin.List.listItems
  refine wpAny_bind (wpAny_seqItems hS rfl (wpAny_pure ?_))
  show wpAny _ A.in1.in1 (updateSeq D (fun _ => #[]) >>= fun _ => letGo (#[] : Array Value).toList.reverse >>= fun _ => Builtin.List.listExtendWith (.ref D) (.ref I) .none) _ _ _
  refine wpAny_bind (wpAny_updateSeq hS rfl ?_)
  have hS2 := Heap.get?_update_self (Obj.mapSeq (fun _ => (#[] : Array Value))) hS rfl
  have S2 := S1.upd (Upd.head (P' := lstX #[])) (Heap.SameBut.update h1 D (Obj.mapSeq (fun _ => (#[] : Array Value)))).extBut ⟨_, hS2, 0, by simp [Obj.mapSeq]⟩
  refine wpAny_bind (wpAny_letGo ?_)
  dsimp only
  generalize h1.update D (Obj.mapSeq (fun _ => (#[] : Array Value))) = h2 at hS2 S2
  unfold Builtin.List.listExtendWith
  obtain ⟨oI, hoI, hcI⟩ := hT D #[] h2 S2
  refine wpAny_bind (wpAny_typeOf (T := T) ⟨oI, hoI, hcI⟩ ?_)
  have h1' : Builtin.List.listSameRef (.ref D) (.ref I) = false := by simp [Builtin.List.listSameRef, hne D #[] h2 S2]
  simp only [h1', hl, ht, Bool.or_false, Bool.false_eq_true, if_false]
  refine wpAny_bind (self D h2 _ _ S2 ?_)
  refine wpAny_bind (wpAny_holding ?_)
  unfold Builtin.List.listLengthHint
  refine wpAny_bind (wpAny_specialOf (T := T) ⟨oI, hoI, hcI⟩ nolen ?_)
  show wpAny _ A.in1.in1 (specialOf (Value.ref I) (Str.ofString "__length_hint__") >>= _) _ _ _
  refine wpAny_bind (wpAny_specialOf (T := T) ⟨oI, hoI, hcI⟩ nohint ?_)
  refine wpAny_pure ?_
  show wpAny _ A.in1.in1 (rule "list.extend.makes-room" >>= fun _ => Builtin.List.listTouch (.ref D) >>= fun _ =>
    again (.builtin "list.extend.loop" ⟨[.ref D, .ref I, .none], []⟩)) _ _ _
  refine wpAny_bind (wpAny_rule ?_)
  refine wpAny_bind ?_
  show wpAny _ A.in1.in1 (updateSeq D (·.push .none) >>= fun _ => updateSeq D (·.pop)) _ _ _
  refine wpAny_bind (wpAny_updateSeq hS2 rfl ?_)
  have hS3 := Heap.get?_update_self (Obj.mapSeq (·.push Value.none)) hS2 rfl
  refine wpAny_updateSeq (hz := by seq_fits) hS3 rfl ?_
  have hS4 := Heap.get?_update_self (Obj.mapSeq (·.pop)) hS3 rfl
  have S4 := S2.upd (Upd.head (P' := lstX #[])) (((Heap.SameBut.update h2 D (Obj.mapSeq (·.push Value.none))).trans (Heap.SameBut.update _ D (Obj.mapSeq (·.pop)))).extBut) ⟨_, hS4, _, rfl⟩
  refine wpAny_pure ⟨plainId_quiet F.plain_extend_loop _, extend_loop (A := A.in1) (J D) (Fi D) (hD D) (item D) (done D) (fun acc s' hF => ?_) n #[] _ (start D _ S4)⟩
  exact ⟨rfl, fin D acc s' hF⟩
end
end
section
section
variable {w : World} {A : Around} {E : Value → Shared → Prop} {s : Shared} {g : Heap} {L : Addr} {m : Str → Option Value} {cs cs' fr : List Cl}

theorem map_item {M T I l : Addr} {i : Nat} {xs : Array Value} {y : Str} {u : Tok} {Q : Option Value → Shared → Prop} (S : Sta g s.heap L m cs fr) (X : Lib w g)
    (hM : Holds s.heap (M, mapO T (.ref 26))) (hT : Holds s.heap (T, tupl #[.ref I])) (U : Upd I (lit l i) (lit l (i + 1)) cs cs') (hMI : M ≠ I) (hl : Holds s.heap (l, lst xs)) (hx : xs[i]? = some (.str y u))
    (hh : A.handled = none) (hroom : A.depth < recursionLimit) (hy : y.length ≤ 1000000)
    (h : ∀ h' u' t', Sta g h' L m cs' fr → Q (some (.str (escS y) u')) { s with heap := h', toks := t' }) :
    wpAny (model prg w) A (pyNext (.ref M)) Q E s := by
  obtain ⟨oM, hoM, rfl⟩ := hM
  obtain ⟨oT, hoT, hTc, nT, hTd⟩ := hT
  have tM : s.TypeIs (.ref M) "map" := ⟨_, hoM, rfl⟩
  unfold pyNext
  refine wpAny_bind (wpAny_attempt (wpAny_callSpecial?_slot (name := Str.ofString "__next__") tM FM.slot_map_next (wpAny_call_entry FM.slot_map_next tM FM.entry_map_next ?_ (FM.args_map_next_1 _))))
  unfold Builtin.«map.__next__»
  refine wpAny_bind (wpAny_of_eq (a := (.ref M, [])) rfl ?_)
  dsimp only
  refine wpAny_bind (wpAny_field hoM rfl (x := .ref T) rfl ?_)
  refine wpAny_bind (wpAny_seqItems hoT hTd ?_)
  dsimp only
  rw [← Array.forIn_toList]
  show wpAny _ _ (forIn [Value.ref I] _ _ >>= _) _ _ _
  rw [List.forIn_cons]
  refine wpAny_bind (wpAny_bind ?_)
  refine wpAny_bind (wpAny_holding ?_)
  refine wpAny_nextOf_list_item (S.at U) hl.isL hx fun h1 hit hs => ?_
  have S1 := S.upd U hs.extBut hit
  have hoM1 := hs.extBut _ _ hMI hoM
  refine wpAny_pure ?_
  dsimp only
  rw [List.forIn_nil]
  refine wpAny_pure ?_
  refine wpAny_bind (wpAny_field hoM1 rfl (x := .ref 26) rfl ?_)
  refine wpAny_bind (wpAny_holding ?_)
  show wpAny _ _ (call (.ref 26) [.str y u]) _ _ _
  refine escape_call (s := { s with heap := h1 }) (S1.lib X) hh hroom hy fun h2 u2 t2 k2 => ?_
  refine wpAny_bind (wpAny_letGo (wpAny_pure ⟨_, rfl, ?_⟩))
  exact wpAny_pure (h h2 u2 t2 (S1.ext k2))

theorem map_end {M T I l : Addr} {i : Nat} {xs : Array Value} {Q : Option Value → Shared → Prop} (S : Sta g s.heap L m cs fr)
    (hM : Holds s.heap (M, mapO T (.ref 26))) (hT : Holds s.heap (T, tupl #[.ref I])) (U : Del I (lit l i) cs cs') (hl : Holds s.heap (l, lst xs)) (hx : xs[i]? = none)
    (hh : A.handled = none)
    (h : ∀ h', Sta g h' L m cs' fr → Q none { s with heap := h' }) :
    wpAny (model prg w) A (pyNext (.ref M)) Q E s := by
  obtain ⟨oM, hoM, rfl⟩ := hM
  obtain ⟨oT, hoT, hTc, nT, hTd⟩ := hT
  have tM : s.TypeIs (.ref M) "map" := ⟨_, hoM, rfl⟩
  unfold pyNext
  refine wpAny_bind (wpAny_attempt (wpAny_callSpecial?_slot (name := Str.ofString "__next__") tM FM.slot_map_next (wpAny_call_entry FM.slot_map_next tM FM.entry_map_next ?_ (FM.args_map_next_1 _))))
  unfold Builtin.«map.__next__»
  refine wpAny_bind (wpAny_of_eq (a := (.ref M, [])) rfl ?_)
  dsimp only
  refine wpAny_bind (wpAny_field hoM rfl (x := .ref T) rfl ?_)
  refine wpAny_bind (wpAny_seqItems hoT hTd ?_)
  dsimp only
  rw [← Array.forIn_toList]
  show wpAny _ _ (forIn [Value.ref I] _ _ >>= _) _ _ _
  rw [List.forIn_cons]
  refine wpAny_bind (wpAny_bind ?_)
  refine wpAny_bind (wpAny_holding ?_)
  refine wpAny_nextOf_list_end hh (S.atC U.mem) hl.isL hx fun h1 e he hx => ?_
  obtain ⟨o, ho, hc⟩ := hx
  refine wpAny_bind (wpAny_isInstance (T := "StopIteration") (b := true) ⟨o, ho, hc⟩ isSubtype_stop ?_)
  exact wpAny_pure (h _ (S.lose U he))
end
end
section
section
variable {prog : Program} {w : World} {A : Around} {E : Value → Shared → Prop} {s : Shared} {g : Heap} {L : Addr} {m : Str → Option Value} {cs cs' fr : List Cl} {env : Env}

inductive TurnN (G : Array GenState) (d : Drawn) (o : OsState) (g : Heap) (L : Addr) (it : Addr) (C : Obj → Prop) (P : (Str → Option Value) → List Cl → List Cl → Prop) (s' : Shared) : Prop
  | mk (h : Heap) (t : Nat) (m : Str → Option Value) (cs fr : List Cl) (e : s' = ⟨h, G, d, t, o⟩) (S : Sta g h L m ((it, C) :: cs) fr) (p : P m cs fr)
inductive ForI (G : Array GenState) (d : Drawn) (o : OsState) (g : Heap) (L : Addr) (it : Addr) (C : Nat → Obj → Prop) (n : Nat) (P : Nat → (Str → Option Value) → List Cl → List Cl → Prop) (k : Nat) (s' : Shared) : Prop
  | mk (i : Nat) (h : Heap) (t : Nat) (m : Str → Option Value) (cs fr : List Cl) (e : s' = ⟨h, G, d, t, o⟩) (hi : i ≤ n) (hk : k = n - i) (S : Sta g h L m ((it, C i) :: cs) fr) (p : P i m cs fr)
/-- what a turn of a loop leaves -/
noncomputable def Turn (s : Shared) (g : Heap) (L : Addr) (it : Addr) (C : Obj → Prop) (P : (Str → Option Value) → List Cl → List Cl → Prop) (Q : Flow → Shared → Prop) (f : Flow) (s' : Shared) : Prop := match f with
  | .next => TurnN s.gens s.drawn s.os g L it C P s'
  | .cont => False
  | .brk => False
  | .ret v => Q (.ret v) s'

theorem for_it {x : Str} {px : Pos} {body : List Stmt} {it : Addr} {Q : Flow → Shared → Prop} (C : Nat → Obj → Prop) (V : Nat → Value → Prop) (n : Nat) (P : Nat → (Str → Option Value) → List Cl → List Cl → Prop)
    (next : ∀ i m cs fr (s : Shared) (Q : Option Value → Shared → Prop) (E : Value → Shared → Prop), i < n → Sta g s.heap L m ((it, C i) :: cs) fr → P i m cs fr →
      (∀ v h' t', V i v → Sta g h' L m ((it, C (i + 1)) :: cs) fr → Q (some v) { s with heap := h', toks := t' }) → wpAny (model prog w) A (pyNext (.ref it)) Q E s)
    (done : ∀ m cs fr (s : Shared) (Q : Option Value → Shared → Prop) (E : Value → Shared → Prop), Sta g s.heap L m ((it, C n) :: cs) fr → P n m cs fr →
      (∀ h' t', Sta g h' L m cs fr → Q none { s with heap := h', toks := t' }) → wpAny (model prog w) A (pyNext (.ref it)) Q E s)
    (S : Sta g s.heap L m ((it, C 0) :: cs) fr) (h0 : P 0 m cs fr)
    (step : ∀ i v m' cs' fr' h' t', i < n → V i v → P i m' cs' fr' → Sta g h' L (up m' x v) ((it, C (i + 1)) :: cs') fr' →
      wpAny (model prog w) A (execs body env) (Turn s g L it (C (i + 1)) (P (i + 1)) Q) (fun _ _ => False) { s with heap := h', toks := t' })
    (fin : ∀ m' cs' fr' h' t', P n m' cs' fr' → Sta g h' L m' cs' fr' → Q .next { s with heap := h', toks := t' })
    (hL : env.locals = L) (hl : env.kindOf x = some .local) (hp : (env.scope.kind == .class || (env.scope.kind == .module && env.locals != env.globals)) = false) :
    codeAny (model prog w) A (.forLoop (.Name x px) (.ref it) body [] env) (fun r s' => match r with | .ok f => Q f s' | .error e => cameBackBy (model prog w) A env E e s') s := by
  refine codeAny_forLoop (ForI s.gens s.drawn s.os g L it C n P) ?_ n
    ⟨0, s.heap, s.toks, m, cs, fr, rfl, Nat.zero_le _, rfl, S, h0⟩
  rintro k s' ⟨i, h, t, m1, cs1, fr1, rfl, hi, rfl, S1, hP⟩
  by_cases hin : i < n
  · refine next i m1 cs1 fr1 _ _ _ hin S1 hP fun v h2 t2 hV S2 => ?_
    refine wpAny_assign_Name (stv (s := { s with heap := h2, toks := t2 }) S2 (fun h3 t3 S3 => ?_) hL hl hp)
    refine wpAny_mono (step i v m1 cs1 fr1 h3 t3 hin hV hP S3) (fun f s4 h4 => ?_) fun _ _ x => x.elim
    cases f with
    | next =>
      obtain ⟨h5, t5, m5, cs5, fr5, rfl, S5, hP5⟩ := h4
      exact ⟨n - (i + 1), by walk_at "om", i + 1, h5, t5, m5, cs5, fr5, rfl, hin, rfl, S5, hP5⟩
    | cont => exact h4.elim
    | brk => exact h4.elim
    | ret v => exact h4
  · have : i = n := by walk_at "om"
    subst this
    exact done m1 cs1 fr1 _ _ _ S1 hP fun h2 t2 S2 => wpAny_execs_nil (fin m1 cs1 fr1 h2 t2 hP S2)

theorem for_list {x : Str} {px : Pos} {body : List Stmt} {l : Addr} {its : Array Value} {Q : Flow → Shared → Prop} (P : Nat → (Str → Option Value) → List Cl → List Cl → Prop) (hh : A.handled = none)
    (S : Sta g s.heap L m cs fr) (h0 : P 0 m cs fr)
    (hlst : ∀ i m cs fr h', P i m cs fr → Sta g h' L m cs fr → h'.IsList l its)
    (step : ∀ i v it m' cs' fr' h' t', its[i]? = some v → P i m' cs' fr' → Sta g h' L (up m' x v) ((it, lit l (i + 1)) :: cs') fr' →
      wpAny (model prog w) A (execs body env) (Turn s g L it (lit l (i + 1)) (P (i + 1)) Q) (fun _ _ => False) { s with heap := h', toks := t' })
    (fin : ∀ m' cs' fr' h' t', P its.size m' cs' fr' → Sta g h' L m' cs' fr' → Q .next { s with heap := h', toks := t' })
    (hL : env.locals = L) (hl : env.kindOf x = some .local) (hp : (env.scope.kind == .class || (env.scope.kind == .module && env.locals != env.globals)) = false) :
    wpAny (model prog w) A (pyIter (.ref l)) (fun it s₂ => codeAny (model prog w) A (.forLoop (.Name x px) it body [] env) (fun r s' => match r with | .ok f => Q f s' | .error e => cameBackBy (model prog w) A env E e s') s₂) E s := by
  refine wpAny_pyIter_list (hlst 0 m cs fr _ h0 S) ?_
  refine for_it (s := { s with heap := s.heap.push { cls := .type "list_iterator", data := .fields #[.ref l, .int 0 0] } }) (lit l) (fun i v => its[i]? = some v) its.size P (fun i m cs fr s' Q E hi S1 hP hQ => ?_) (fun m cs fr s' Q E S1 hP hQ => ?_)
    (S.push (o := { cls := .type "list_iterator", data := .fields #[.ref l, .int 0 0] }) rfl ⟨rfl, rfl⟩) h0 (fun i v m' cs' fr' h' t' _ hV hP S2 => step i v _ m' cs' fr' h' t' hV hP S2) (fun m' cs' fr' h' t' hP S2 => fin m' cs' fr' h' t' hP S2) hL hl hp
  · refine wpAny_pyNext_list_item (x := its[i]) (S1.atC (.head _)) (hlst i m cs fr _ hP (S1.drop .head)) (Array.getElem?_eq_getElem hi) fun h' hit hs => ?_
    exact hQ _ h' s'.toks (Array.getElem?_eq_getElem hi) (S1.upd .head hs.extBut hit)
  · refine wpAny_pyNext_list_end hh (S1.atC (.head _)) (hlst _ m cs fr _ hP (S1.drop .head)) (by simp) fun h' he => ?_
    exact hQ h' s'.toks (S1.lose .head he)

noncomputable abbrev rit (x left : Int) : Obj → Prop := fun o => o = { cls := .type "range_iterator", dict := none, data := .fields #[rawInt x, rawInt left, rawInt 1], slots := #[] }
noncomputable abbrev rng (a b : Int) : Obj → Prop := fun o => ∃ t u v, o = { cls := .type "range", dict := none, data := .fields #[.int a t, .int b u, .int 1 v], slots := #[] }

theorem rgS1 {n : Int} {t : Tok} {Q : Value → Shared → Prop} (S : Sta g s.heap L m cs fr) (h : ∀ r h' t', Sta g h' L m ((r, rng 0 n) :: cs) fr → Q (.ref r) { s with heap := h', toks := t' }) :
    wpAny (model prog w) A (call (.type "range") [.int n t]) Q E s := call_range_1 (h _ _ _ (S.push rfl ⟨_, _, _, rfl⟩))
theorem rgS2 {a b : Int} {t u : Tok} {Q : Value → Shared → Prop} (S : Sta g s.heap L m cs fr) (h : ∀ r h' t', Sta g h' L m ((r, rng a b) :: cs) fr → Q (.ref r) { s with heap := h', toks := t' }) :
    wpAny (model prog w) A (call (.type "range") [.int a t, .int b u]) Q E s := call_range_2 (h _ _ _ (S.push rfl ⟨_, _, _, rfl⟩))

theorem for_range {x : Str} {px : Pos} {body : List Stmt} {r : Addr} {a b : Int} {n : Nat} {Q : Flow → Shared → Prop} (P : Nat → (Str → Option Value) → List Cl → List Cl → Prop) (hh : A.handled = none)
    (S : Sta g s.heap L m cs fr) (hr : Holds s.heap (r, rng a b)) (hn : (n : Int) = if a < b then b - a else 0) (ha : -1000000 < a) (ha' : a < 1000000) (hb : -1000000 < b) (hb' : b < 1000000) (h0 : P 0 m cs fr)
    (step : ∀ i it m' cs' fr' h' t' u, i < n → P i m' cs' fr' → Sta g h' L (up m' x (.int (a + i) u)) ((it, rit (a + (i + 1 : Nat)) (n - (i + 1 : Nat))) :: cs') fr' →
      wpAny (model prog w) A (execs body env) (Turn s g L it (rit (a + (i + 1 : Nat)) (n - (i + 1 : Nat))) (P (i + 1)) Q) (fun _ _ => False) { s with heap := h', toks := t' })
    (fin : ∀ m' cs' fr' h' t', P n m' cs' fr' → Sta g h' L m' cs' fr' → Q .next { s with heap := h', toks := t' })
    (hL : env.locals = L) (hl : env.kindOf x = some .local) (hp : (env.scope.kind == .class || (env.scope.kind == .module && env.locals != env.globals)) = false) :
    wpAny (model prog w) A (pyIter (.ref r)) (fun it s₂ => codeAny (model prog w) A (.forLoop (.Name x px) it body [] env) (fun r s' => match r with | .ok f => Q f s' | .error e => cameBackBy (model prog w) A env E e s') s₂) E s := by
  obtain ⟨o, ho, t, u, v, rfl⟩ := hr
  refine wpAny_pyIter_range ho (small_one (by walk_at "om") (by walk_at "om") (by walk_at "om") (by walk_at "om")) ?_
  rw [rangeSize_one, ← hn]
  refine for_it (s := { s with heap := s.heap.push { cls := .type "range_iterator", data := .fields #[rawInt a, rawInt n, rawInt 1] } }) (fun i => rit (a + (i : Nat)) (n - (i : Nat))) (fun i v => ∃ u, v = .int (a + i) u) n P (fun i m cs fr s' Q E hi S1 hP hQ => ?_) (fun m cs fr s' Q E S1 hP hQ => ?_)
    (S.push (o := { cls := .type "range_iterator", data := .fields #[rawInt a, rawInt n, rawInt 1] }) rfl (by show _ = _; simp)) h0 (fun i v m' cs' fr' h' t' hi hV hP S2 => ?_) (fun m' cs' fr' h' t' hP S2 => fin m' cs' fr' h' t' hP S2) hL hl hp
  · obtain ⟨o, ho, rfl⟩ := S1.atC (.head _)
    refine wpAny_pyNext_range_item ho (by walk_at "om") fun h' hit hs => ?_
    refine hQ _ h' _ ⟨_, rfl⟩ (S1.upd .head hs.extBut ⟨_, hit, ?_⟩)
    have e1 : a + (i : Int) + 1 = a + ((i + 1 : Nat) : Int) := by walk_at "om"
    have e2 : (n : Int) - (i : Int) - 1 = n - ((i + 1 : Nat) : Int) := by walk_at "om"
    rw [e1, e2]
  · obtain ⟨o, ho, rfl⟩ := S1.atC (.head _)
    refine wpAny_pyNext_range_end hh ho (by walk_at "om") fun h' he => ?_
    exact hQ h' s'.toks (S1.lose .head he)
  · obtain ⟨u, rfl⟩ := hV
    exact step i _ m' cs' fr' h' t' u hi hP S2
end
end
section
open Builtin Builtin.Str
section
variable {prog : Program} {w : World} {A : Around} {E : Value → Shared → Prop} {s : Shared} {g : Heap} {L : Addr} {m : Str → Option Value} {cs cs' fr : List Cl} {env : Env}

noncomputable abbrev lsti (vs : Array Value) : Obj → Prop := fun o => o.cls = .type "list" ∧ ∃ n, o.data = .seq vs n

theorem splitS {x y : Str} {t u : Tok} {Q : Value → Shared → Prop} (S : Sta g s.heap L m cs fr) (hy : (y.length == 0) = false)
    (h : ∀ D l h' k, l.map (·.1) = Txt.split x y → Sta g h' L m ((D, lst (strValues l).toArray) :: cs) fr → Q (.ref D) { s with heap := h', toks := k })
    (hsz : x.length + 2 ≤ sizeLine) :
    wpAny (model prog w) A (call (.builtin "str.split") [.str x t, .str y u]) Q E s := by
  have hn : (partsBetween x (occurrences x y 0 x.length (x.length + 1)) y.length).length ≤ sizeLine := by
    have e1 := StrLaws.occ_length_le x y 0 x.length (x.length + 1)
    rw [length_partsBetween]; walk_at "om"
  have done : ∀ (l : List (Str × Tok)) k, l.map (·.1) = Txt.split x y → Q (.ref s.heap.objs.size) { s with heap := s.heap.push { cls := .type "list", data := .seq (strValues l).toArray }, toks := k } :=
    fun l k hl => h _ l _ k hl (S.push rfl ⟨rfl, rfl, _, rfl⟩)
  cases h1 : (decide (x.length < y.length) || decide (strKind x < strKind y))
  · cases hf : (occurrences x y 0 x.length (x.length + 1)).isEmpty
    · refine call_meets F.slot_str_split (typeIs_str _ _ _) F.entry_str_split (F.args_str_split_2 _ _) (meets_str_split_sep x y t u h1 hy hf (by walk_at "om") hn) ?_
      show wants Q E _ { s with toks := _, heap := s.heap.push { cls := .type "list", data := .seq (strsFrom s.toks (partsBetween x (occurrences x y 0 x.length (x.length + 1)) y.length)).toArray } }
      rw [strsFrom_eq]
      exact done _ _ ((numbered_texts _ _).trans ((if_neg (ne_true_of_eq_false h1)).trans (if_neg (ne_true_of_eq_false hf))).symm)
    · exact call_meets F.slot_str_split (typeIs_str _ _ _) F.entry_str_split (F.args_str_split_2 _ _) (meets_str_split_not_found x y t u h1 hy hf)
        (done [(x, t)] s.toks ((if_neg (ne_true_of_eq_false h1)).trans (if_pos hf)).symm)
  · exact call_meets F.slot_str_split (typeIs_str _ _ _) F.entry_str_split (F.args_str_split_2 _ _) (meets_str_split_cannot_occur x y t u h1)
      (done [(x, t)] s.toks (if_pos h1).symm)

theorem giS {D : Addr} {vs : Array Value} {k : Int} {t : Tok} {v : Value} {Q : Value → Shared → Prop} (H : s.heap.IsList D vs) (h0 : 0 ≤ k) (hk : k < 1000000) (hv : vs[k.toNat]? = some v) (h : Q v s) :
    wpAny (model prog w) A (getItem (.ref D) (.int k t)) Q E s := wpAny_getItem_list H h0 (by walk_at "om") hv h
theorem giSn {D : Addr} {vs : Array Value} {t : Tok} {v : Value} {Q : Value → Shared → Prop} (H : s.heap.IsList D vs) (h0 : 1 ≤ vs.size) (hv : vs[vs.size - 1]? = some v) (h : Q v s) :
    wpAny (model prog w) A (getItem (.ref D) (.int (-1) t)) Q E s := wpAny_getItem_list_neg H (by walk_at "om") (by walk_at "om") (by walk_at "om") (by rw [← hv]; congr 1; walk_at "om") h
theorem siS {D : Addr} {vs : Array Value} {k : Int} {t : Tok} {v : Value} {Q : Unit → Shared → Prop} (S : Sta g s.heap L m cs fr) (U : Upd D (lsti vs) (lsti (vs.setIfInBounds k.toNat v)) cs cs') (h0 : 0 ≤ k) (hk : k < vs.size) (hs : vs.size < 1000000)
    (h : ∀ h', Sta g h' L m cs' fr → Q () { s with heap := h' }) : wpAny (model prog w) A (setItem (.ref D) (.int k t) v) Q E s :=
  wpAny_setItem_list (S.at U) h0 (by walk_at "om") hk fun h' hl hs => h h' (S.upd U hs.extBut hl)

theorem setItem_neg1 {l : Addr} {items : Array Value} {t : Tok} {v : Value} {Q : Unit → Shared → Prop} (hl : s.heap.IsList l items)
    (hn : 1 ≤ items.size)
    (hQ : ∀ h', h'.IsList l (items.setIfInBounds (items.size - 1) v) → Heap.SameBut l s.heap h' → Q () { s with heap := h' }) :
    wpAny (model prog w) A (setItem (.ref l) (.int (-1) t) v) Q E s := by
  obtain ⟨o, ho, hc, ne, hd⟩ := id hl
  unfold setItem
  try with_reducible refine wpAny_holding ?_
  first | refine wpAny_bind (wpAny_pure ?_) | skip
  refine wpAny_bind (wpAny_sequenceKey hl.typeIs (by decide) ?_)
  refine wpAny_bind (wpAny_callSpecial?_slot (name := Str.ofString "__setitem__") hl.typeIs slot_list_setitem
    (wpAny_call_entry slot_list_setitem hl.typeIs entry_list_setitem ?_ (args_list_setitem _ _ _)))
  show wpAny _ _ (Builtin.List.listSubscript? (.int (-1) t) >>= _) _ _ s
  refine wpAny_bind (wpAny_listSubscript_int (fitsIndex_neg (by walk_at "om") (by walk_at "om")) ?_)
  have hj : items.size - 1 < items.size := by walk_at "om"
  have hx' : items[items.size - 1]? = some items[items.size - 1] := Array.getElem?_eq_getElem hj
  show wpAny _ _ ((Builtin.List.listItems (.ref l) >>= fun xs => pure ((seqIndex? (-1) xs.size).bind fun i => xs[i]?.map (i, ·))) >>= _) _ _ s
  refine wpAny_bind (wpAny_bind ?_)
  show wpAny _ _ (seqItems? (.ref l) >>= _) _ _ s
  refine wpAny_bind (wpAny_seqItems ho hd (wpAny_pure (wpAny_pure ?_)))
  have hidx : seqIndex? (-1) items.size = some (items.size - 1) := by
    rw [seqIndex_neg (by walk_at "om") (by walk_at "om")]
    congr 1; walk_at "om"
  rw [hidx]
  simp only [Option.bind_some, hx', Option.map_some]
  show wpAny _ _ (setSeqItemAt l (items.size - 1) v >>= _) _ _ s
  obtain ⟨n', hd'⟩ := Obj.data_mapSeq hd (·.setIfInBounds (items.size - 1) v)
  have hfin : (s.heap.update l (Obj.mapSeq (·.setIfInBounds (items.size - 1) v))).IsList l (items.setIfInBounds (items.size - 1) v) :=
    ⟨_, Heap.get?_update_self _ ho (Obj.isFreed_of_seq hd'), (Obj.cls_mapSeq ..).trans hc, n', hd'⟩
  refine wpAny_bind (wpAny_setSeqItemAt ho hd ?_)
  first
    | exact wpAny_bind (wpAny_pure (wpAny_pure ⟨.none, rfl, wpAny_pure (hQ _ hfin (Heap.SameBut.update ..))⟩))
    | exact wpAny_pure ⟨.none, rfl, wpAny_pure (hQ _ hfin (Heap.SameBut.update ..))⟩
theorem siSn {D : Addr} {vs : Array Value} {t : Tok} {v : Value} {Q : Unit → Shared → Prop} (S : Sta g s.heap L m cs fr) (U : Upd D (lsti vs) (lsti (vs.setIfInBounds (vs.size - 1) v)) cs cs') (h0 : 1 ≤ vs.size)
    (h : ∀ h', Sta g h' L m cs' fr → Q () { s with heap := h' }) : wpAny (model prog w) A (setItem (.ref D) (.int (-1) t) v) Q E s :=
  setItem_neg1 (S.at U) h0 fun h' hl hs => h h' (S.upd U hs.extBut hl)

theorem strV_get (l : List (Str × Tok)) (i : Nat) : (strValues l)[i]? = l[i]?.map fun p => Value.str p.1 p.2 := by unfold strValues; rw [List.getElem?_map]
theorem strV_len (l : List (Str × Tok)) : (strValues l).length = l.length := by unfold strValues; rw [List.length_map]

theorem joinS {sep : Str} {t : Tok} {D : Addr} {l : List (Str × Tok)} {Q : Value → Shared → Prop} (S : Sta g s.heap L m cs fr) (H : s.heap.IsList D (strValues l).toArray)
    (hok : (l.map (·.1.length)).sum + l.length * sep.length ≤ 1000000) (h : ∀ t' k, Sta g s.heap L m cs fr → Q (.str (Txt.join sep (l.map (·.1))) t') { s with toks := k }) :
    wpAny (model prog w) A (call (.builtin "str.join") [.str sep t, .ref D]) Q E s :=
  SC.join H rfl (joinOk_of (by rw [List.map_map, List.length_map]; exact Nat.le_trans hok (by walk_at "om"))) fun t' k => h t' k S
end

section
variable {w : World} {A : Around} {E : Value → Shared → Prop} {s : Shared} {g : Heap} {L : Addr} {m : Str → Option Value} {cs cs' fr : List Cl} {env : Env}
inductive LmI (G : Array GenState) (d : Drawn) (o : OsState) (g : Heap) (L M T I l : Addr) (ys : List (Str × Tok)) (m : Str → Option Value) (cs fr : List Cl) (D : Addr) (k : Nat) (acc : Array Value) (s' : Shared) : Prop
  | mk (i : Nat) (l' : List (Str × Tok)) (h : Heap) (t : Nat) (ek : k = ys.length - i) (hi : i ≤ ys.length) (ea : acc = (strValues l').toArray) (hl : l'.map (·.1) = (ys.take i).map (fun p => escS p.1)) (e : s' = ⟨h, G, d, t, o⟩)
      (S : Sta g h L m ((D, lstX acc) :: (M, mapO T (.ref 26)) :: (T, tupl #[.ref I]) :: (I, lit l i) :: cs) fr)
inductive LmE (G : Array GenState) (d : Drawn) (o : OsState) (g : Heap) (L M T I : Addr) (ys : List (Str × Tok)) (m : Str → Option Value) (cs fr : List Cl) (D : Addr) (acc : Array Value) (s' : Shared) : Prop
  | mk (l' : List (Str × Tok)) (h : Heap) (t : Nat) (ea : acc = (strValues l').toArray) (hl : l'.map (·.1) = ys.map (fun p => escS p.1)) (e : s' = ⟨h, G, d, t, o⟩) (S : Sta g h L m ((D, lstX acc) :: (M, mapO T (.ref 26)) :: (T, tupl #[.ref I]) :: cs) fr)
theorem list_map {M T I l : Addr} {ys : List (Str × Tok)} {Q : Value → Shared → Prop} (S : Sta g s.heap L m ((M, mapO T (.ref 26)) :: (T, tupl #[.ref I]) :: (I, lit l 0) :: cs) fr) (X : Lib w g) (hl : (l, lst (strValues ys).toArray) ∈ cs)
    (hh : A.handled = none) (hroom : A.depth < recursionLimit) (hy : ∀ p ∈ ys, p.1.length ≤ 1000000) (hn : ys.length ≤ 1000)
    (h : ∀ D l' h' t', l'.map (·.1) = ys.map (fun p => escS p.1) → Sta g h' L m ((D, lst (strValues l').toArray) :: cs) fr → Q (.ref D) { s with heap := h', toks := t' }) :
    wpAny (model prg w) A (call (.type "list") [.ref M]) Q E s := by
  refine list_call (T := "map") (n := ys.length) S (fun D acc h' S' => ?_) (fun D acc h' S' => ?_) (by decide) (by decide) FM.map_no_len FM.map_no_hint (fun D h' Q E S' hQ => ?_)
    (LmI s.gens s.drawn s.os g L M T I l ys m cs fr)
    (LmE s.gens s.drawn s.os g L M T I ys m cs fr)
    (fun D h' S' => ⟨0, [], h', s.toks, by walk_at "om", by walk_at "om", rfl, by simp, rfl, S'⟩) (fun D k acc s' hJ => ?_) (fun D k acc s' Q E hJ hQ => ?_) (fun D acc s' Q E hJ hQ => ?_) (fun D acc s' hF => ?_)
  · obtain ⟨o, ho, rfl⟩ := S'.atC (.tail _ (.head _))
    exact ⟨_, ho, rfl⟩
  · have := S'.nd
    simp only [List.map_cons, List.nodup_cons, List.mem_cons] at this
    exact fun e => this.1 (.inl e)
  · obtain ⟨o, ho, rfl⟩ := S'.atC (.tail _ (.head _))
    have tM : ({ s with heap := h' } : Shared).TypeIs (.ref M) "map" := ⟨_, ho, rfl⟩
    refine wpAny_pyIter_slot tM FM.slot_map_iter (wpAny_call_entry FM.slot_map_iter tM FM.entry_map_iter ?_ (FM.args_map_iter_1 _))
    show wpAny _ _ (ret (.ref M)) _ _ _
    exact wpAny_pure ⟨_, rfl, "map", _, tM, FM.slot_map_next.lookup, hQ⟩
  · obtain ⟨i, l', h1, t1, rfl, hi, rfl, hl', rfl, S1⟩ := hJ
    refine ⟨S1.atC (.head _), ?_⟩
    have : l'.length = i := by have := congrArg List.length hl'; simp at this; walk_at "om"
    rw [List.size_toArray, strV_len]; walk_at "om"
  · obtain ⟨i, l', h1, t1, hk, hi, rfl, hl', rfl, S1⟩ := hJ
    have hlt : i < ys.length := by walk_at "om"
    refine map_item (s := { s with heap := h1, toks := t1 }) (xs := (strValues ys).toArray) (y := ys[i].1) (u := ys[i].2) S1 X (S1.atC (.tail _ (.head _))) (S1.atC (.tail _ (.tail _ (.head _)))) (.tail (.tail (.tail .head))) ?_ (S1.atC (.tail _ (.tail _ (.tail _ (.tail _ hl))))) ?_ hh hroom (hy _ (List.getElem_mem hlt)) fun h2 u2 t2 S2 => ?_
    · have := S1.nd
      simp only [List.map_cons, List.nodup_cons, List.mem_cons] at this
      exact fun e => this.2.1 (.inr (.inl e))
    · rw [List.getElem?_toArray, strV_get, List.getElem?_eq_getElem hlt]; rfl
    · refine hQ _ _ (S2.atC (.head _)) fun h3 hs3 hH3 => ⟨i + 1, l' ++ [(escS ys[i].1, u2)], h3, t2, by walk_at "om", by walk_at "om", by simp [strValues], ?_, rfl, S2.upd .head hs3.extBut hH3⟩
      rw [List.map_append, hl', List.take_add_one, List.getElem?_eq_getElem hlt, Option.toList_some, List.map_append]
      rfl
  · obtain ⟨i, l', h1, t1, hk, hi, rfl, hl', rfl, S1⟩ := hJ
    have : i = ys.length := by walk_at "om"
    subst this
    refine map_end (s := { s with heap := h1, toks := t1 }) (xs := (strValues ys).toArray) S1 (S1.atC (.tail _ (.head _))) (S1.atC (.tail _ (.tail _ (.head _)))) (.tail (.tail (.tail .head))) (S1.atC (.tail _ (.tail _ (.tail _ (.tail _ hl))))) ?_ hh fun h2 S2 => ?_
    · rw [List.getElem?_toArray, List.getElem?_eq_none]; rw [strV_len]; exact Nat.le_refl _
    · exact hQ _ ⟨l', h2, t1, rfl, by rw [hl', List.take_length], rfl, S2⟩
  · obtain ⟨l', h1, t1, rfl, hl', rfl, S1⟩ := hF
    exact h D l' h1 t1 hl' (((S1.upd .head (P' := lst (strValues l').toArray) (Heap.ExtBut.refl _ _) (S1.atC (.head _)).ofX).drop (.tail .head)).drop (.tail .head))
end
end
section
/-- a text's signs -/
noncomputable abbrev tl (x : Str) : List Nat := x.cps.toList
noncomputable def mk (l : List Nat) : Str := ⟨l.toArray⟩
theorem tl_mk (l : List Nat) : tl (mk l) = l := by simp [mk]
theorem mk_tl (x : Str) : mk (tl x) = x := by obtain ⟨⟨l⟩⟩ := x; rfl
theorem tl_app (x y : Str) : tl (x ++ y) = tl x ++ tl y := by
  show (x ++ y).cps.toList = _
  rw [Str.cps_append, Array.toList_append]
theorem mk_app (a b : List Nat) : mk a ++ mk b = mk (a ++ b) := by
  rw [← mk_tl (mk a ++ mk b), tl_app, tl_mk, tl_mk]
theorem tl_len (x : Str) : x.length = (tl x).length := by simp [Str.length]
theorem mk_len (l : List Nat) : (mk l).length = l.length := by simp [Str.length, mk]
theorem mk_inj {a b : List Nat} : mk a = mk b ↔ a = b := ⟨fun h => by rw [← tl_mk a, h, tl_mk], fun h => by rw [h]⟩
theorem mk_beq (a b : List Nat) : (mk a == mk b) = (a == b) := by
  rw [Bool.eq_iff_iff, beq_iff_eq, beq_iff_eq, mk_inj]

noncomputable def splitL (c : Nat) : List Nat → List (List Nat)
  | [] => [[]]
  | a :: r => if a = c then [] :: splitL c r else match splitL c r with
    | [] => [[a]]
    | p :: q => (a :: p) :: q
noncomputable def joinL (sep : List Nat) : List (List Nat) → List Nat
  | [] => []
  | [p] => p
  | p :: q :: r => p ++ sep ++ joinL sep (q :: r)

theorem splitL_ne (c : Nat) : ∀ l, splitL c l ≠ []
  | [] => by simp [splitL]
  | a :: r => by
    unfold splitL
    split
    · simp
    · split <;> simp
theorem splitL_free {c : Nat} : ∀ {p : List Nat}, c ∉ p → ∀ r, splitL c (p ++ c :: r) = p :: splitL c r
  | [], _, r => by simp [splitL]
  | a :: p, h, r => by
    have ha : a ≠ c := fun e => h (by simp [e])
    have hp : c ∉ p := fun e => h (by simp [e])
    rw [List.cons_append, splitL, if_neg ha, splitL_free hp]
theorem splitL_one {c : Nat} : ∀ {p : List Nat}, c ∉ p → splitL c p = [p]
  | [], _ => rfl
  | a :: p, h => by
    have ha : a ≠ c := fun e => h (by simp [e])
    have hp : c ∉ p := fun e => h (by simp [e])
    rw [splitL, if_neg ha, splitL_one hp]
theorem splitL_join {c : Nat} : ∀ {ps : List (List Nat)}, ps ≠ [] → (∀ p ∈ ps, c ∉ p) → splitL c (joinL [c] ps) = ps
  | [], h, _ => absurd rfl h
  | [p], _, hf => splitL_one (hf p (by simp))
  | p :: q :: r, _, hf => by
    rw [joinL, List.append_assoc, List.singleton_append, splitL_free (hf p (by simp)), splitL_join (by simp) fun x hx => hf x (by simp [List.mem_cons.mp hx])]

theorem tl_join (sep : Str) : ∀ ps : List Str, tl (Str.join sep ps) = joinL (tl sep) (ps.map tl)
  | [] => rfl
  | [p] => rfl
  | p :: q :: r => by
    show tl (p ++ sep ++ Str.join sep (q :: r)) = _
    rw [tl_app, tl_app, tl_join sep (q :: r)]; rfl
theorem split_is (x : Str) (c : Nat) : (Txt.split x ⟨#[c]⟩).map tl = splitL c (tl x) := by
  have h1 := StrLaws.join_split x ⟨#[c]⟩
  have h2 := StrLaws.split_free x c
  have h3 := split_pos x ⟨#[c]⟩
  have e : tl x = joinL [c] ((Txt.split x ⟨#[c]⟩).map tl) := by
    conv => lhs; rw [← h1]
    rw [tl_join]
  rw [e, splitL_join]
  · intro q
    have := congrArg List.length q
    simp at this
    simp [this] at h3
  · intro p hp
    obtain ⟨y, hy, rfl⟩ := List.mem_map.mp hp
    exact h2 y hy
theorem txjoin_is (sep : Str) (ps : List Str) : tl (Txt.join sep ps) = joinL (tl sep) (ps.map tl) := by
  show tl (Builtin.Str.glued sep ps) = _
  rw [StrLaws.glued_eq_join, tl_join]
theorem joinL_nil : ∀ ps : List (List Nat), joinL [] ps = ps.flatten
  | [] => rfl
  | [p] => by simp [joinL]
  | p :: q :: r => by rw [joinL, joinL_nil (q :: r)]; simp

theorem splitL_len (c : Nat) : ∀ l, (splitL c l).length ≤ l.length + 1 ∧ ∀ p ∈ splitL c l, p.length ≤ l.length
  | [] => by simp [splitL]
  | a :: r => by
    have ih := splitL_len c r
    unfold splitL
    split
    · refine ⟨by simp only [List.length_cons]; walk_at "om", fun p hp => ?_⟩
      rcases List.mem_cons.mp hp with rfl | hp
      · simp
      · have := ih.2 p hp; simp only [List.length_cons]; walk_at "om"
    · split
      · exact ⟨by simp, fun p hp => by simp at hp; subst hp; simp⟩
      · rename_i p q e
        rw [e] at ih
        refine ⟨by have := ih.1; simp only [List.length_cons] at *; walk_at "om", fun x hx => ?_⟩
        rcases List.mem_cons.mp hx with rfl | hx
        · have := ih.2 p (by simp); simp only [List.length_cons] at *; walk_at "om"
        · have := ih.2 x (by simp [hx]); simp only [List.length_cons] at *; walk_at "om"

/-- the pattern of a path, as translate_pattern makes it -/
noncomputable def wrapL (p : List Nat) : List Nat := [40, 63, 62, 46, 42, 63] ++ p ++ [41]
noncomputable def restL : List (List Nat) → List Nat
  | [] => []
  | [p] => [46, 42] ++ p
  | p :: q :: r => wrapL p ++ restL (q :: r)
noncomputable def trL (l : List Nat) : List Nat := match (splitL 42 l).map escL with
  | [] => []
  | [p] => [46, 42] ++ p
  | p :: q :: r => p ++ restL (q :: r)

/-- the parts when i of the middle ones are wrapped -/
noncomputable def midL (i : Nat) (ps : List (List Nat)) : List (List Nat) := ps.mapIdx fun j p => if 1 ≤ j ∧ j ≤ i then wrapL p else p
theorem midL_zero (ps : List (List Nat)) : midL 0 ps = ps := by
  unfold midL
  rw [List.mapIdx_eq_iff]
  intro j
  cases ps[j]? with
  | none => rfl
  | some p => simp; walk_at "om"
theorem midL_len (i : Nat) (ps : List (List Nat)) : (midL i ps).length = ps.length := by simp [midL]
theorem midL_get (i j : Nat) (ps : List (List Nat)) : (midL i ps)[j]? = ps[j]?.map fun p => if 1 ≤ j ∧ j ≤ i then wrapL p else p := by simp [midL]
theorem midL_succ (i : Nat) (ps : List (List Nat)) (p : List Nat) (h : ps[i + 1]? = some p) : (midL i ps).set (i + 1) (wrapL p) = midL (i + 1) ps := by
  apply List.ext_getElem?
  intro j
  rw [List.getElem?_set, midL_get, midL_get, midL_len]
  by_cases e : i + 1 = j
  · subst e
    rw [if_pos rfl, h]
    have : i + 1 < ps.length := (List.getElem?_eq_some_iff.mp h).1
    rw [if_pos this]
    simp
  · rw [if_neg e]
    congr 1
    funext p
    have : (1 ≤ j ∧ j ≤ i) ↔ (1 ≤ j ∧ j ≤ i + 1) := by walk_at "om"
    simp only [this]
theorem midL_all : ∀ (p : List Nat) (r : List (List Nat)) (z : List Nat), (midL r.length (p :: (r ++ [z]))) = p :: (r.map wrapL ++ [z]) := fun p r z => by
  apply List.ext_getElem?
  intro j
  rw [midL_get]
  cases j with
  | zero => simp
  | succ j =>
    rw [List.getElem?_cons_succ, List.getElem?_cons_succ]
    by_cases h : j < r.length
    · rw [List.getElem?_append_left h, List.getElem?_append_left (by simpa using h)]
      simp
      cases r[j]? with
      | none => rfl
      | some q => simp; walk_at "om"
    · rw [List.getElem?_append_right (by walk_at "om"), List.getElem?_append_right (by simpa using h)]
      simp
      cases ([z] : List (List Nat))[j - r.length]? with
      | none => rfl
      | some q => simp; walk_at "om"
theorem restL_snoc : ∀ (r : List (List Nat)) (z : List Nat), restL (r ++ [z]) = (r.map wrapL).flatten ++ ([46, 42] ++ z)
  | [], z => by simp [restL]
  | [p], z => by simp [restL]
  | p :: q :: r, z => by
    show restL (p :: q :: (r ++ [z])) = _
    rw [restL]
    have := restL_snoc (q :: r) z
    rw [List.cons_append] at this
    rw [this]; simp
/-- the parts at the end, joined -/
theorem trL_is (l : List Nat) (ps : List (List Nat)) (hp : ps = (splitL 42 l).map escL) (n : Nat) (hn : (n : Int) = if (1 : Int) < (ps.length : Int) - 1 then (ps.length : Int) - 1 - 1 else 0) (z : List Nat) (hz : (midL n ps)[ps.length - 1]? = some z) :
    ((midL n ps).set (ps.length - 1) ([46, 42] ++ z)).flatten = trL l := by
  have hne : ps ≠ [] := by rw [hp]; simp [splitL_ne]
  unfold trL
  rw [← hp]
  match ps, hne with
  | [p], _ =>
    have : n = 0 := by simp at hn; walk_at "om"
    subst this
    rw [midL_zero] at hz ⊢
    simp at hz ⊢
    exact hz.symm
  | p :: q :: r, _ =>
    obtain ⟨r', y, e⟩ : ∃ r' y, q :: r = r' ++ [y] := ⟨(q :: r).dropLast, (q :: r).getLast (by simp), (List.dropLast_concat_getLast (by simp)).symm⟩
    have hl : (p :: q :: r).length - 1 = r'.length + 1 := by rw [e]; simp
    have hl2 : (p :: q :: r).length = r'.length + 2 := by rw [e]; simp
    have hnn : n = r'.length := by
      rw [hl2] at hn
      split at hn <;> walk_at "om"
    subst hnn
    show _ = p ++ restL (q :: r)
    rw [hl, e, midL_all] at *
    rw [restL_snoc]
    have hz' : z = y := by
      rw [List.getElem?_cons_succ, List.getElem?_append_right (by simp)] at hz
      simp at hz
      exact hz.symm
    subst hz'
    rw [List.set_cons_succ, List.set_append_right _ _ (by simp)]
    simp
end
section
open Builtin Builtin.Str
theorem Sta.weak {g h : Heap} {L d : Addr} {m : Str → Option Value} {cs cs' fr : List Cl} {P P' : Obj → Prop} (S : Sta g h L m cs fr) (U : Upd d P P' cs cs') (hw : ∀ o, P o → P' o) : Sta g h L m cs' fr :=
  S.upd U (Heap.ExtBut.refl _ _) (let ⟨o, a, b⟩ := S.at U; ⟨o, a, hw o b⟩)
theorem Holds.isLi {h : Heap} {a : Addr} {vs : Array Value} (x : Holds h (a, lsti vs)) : h.IsList a vs := x
section
variable {prog : Program} {w : World} {A : Around} {E : Value → Shared → Prop} {s : Shared}
theorem giT {value slice : Expr} {D : Addr} {vs : Array Value} {k : Int} {t : Tok} {v : Value} {Q : Value → Shared → Prop} (H : s.heap.IsList D vs) (h0 : 0 ≤ k) (hk : k < 1000000) (hv : vs[k.toNat]? = some v) (h : Q v s)
    (hs : subscripted slice false (.ref D) (.int k t) = operate [.ref D, .int k t] (getItem (.ref D) (.int k t))) :
    wpAny (model prog w) A (subscriptTail value slice (.ref D) (.int k t)) Q E s := tail_any H.typeIs slot_list_getitem.lookup (giS H h0 hk hv h) hs
theorem giTn {value slice : Expr} {D : Addr} {vs : Array Value} {t : Tok} {v : Value} {Q : Value → Shared → Prop} (H : s.heap.IsList D vs) (h0 : 1 ≤ vs.size) (hv : vs[vs.size - 1]? = some v) (h : Q v s)
    (hs : subscripted slice false (.ref D) (.int (-1) t) = operate [.ref D, .int (-1) t] (getItem (.ref D) (.int (-1) t))) :
    wpAny (model prog w) A (subscriptTail value slice (.ref D) (.int (-1) t)) Q E s := tail_any H.typeIs slot_list_getitem.lookup (giSn H h0 hv h) hs
end
theorem tl_escS (x : Str) : tl (escS x) = escL (tl x) := by simp [escS]
theorem strV_size (l : List (Str × Tok)) : (strValues l).toArray.size = l.length := by rw [List.size_toArray, strV_len]
theorem strV_at (l : List (Str × Tok)) (i : Nat) (p : Str × Tok) (h : l[i]? = some p) : (strValues l).toArray[i]? = some (.str p.1 p.2) := by rw [List.getElem?_toArray, strV_get, h]; rfl
theorem strV_set (l : List (Str × Tok)) (i : Nat) (y : Str) (t : Tok) : (strValues l).toArray.setIfInBounds i (.str y t) = (strValues (l.set i (y, t))).toArray := by
  simp [strValues, List.map_set]
end
local macro_rules | `(tactic| walk_at "call builtin:str.split") => `(tactic| with_plain (refine splitS (by walk_at "a") (by rfl) ?_ (by walk_at "fit"); intro _ _ _ _ _ _))
local macro_rules | `(tactic| walk_at "call type:map") => `(tactic| with_plain (refine mapS (by walk_at "a") (by walk_at "holds") ?_; intro _ _ _ _ _))
local macro_rules | `(tactic| walk_at "call type:range") => `(tactic| with_plain (first | (refine rgS2 (by walk_at "a") ?_; intro _ _ _ _) | (refine rgS1 (by walk_at "a") ?_; intro _ _ _ _)))
local macro_rules | `(tactic| walk_at "fit2") => `(tactic| (simp only [List.size_toArray, strV_len, Array.size_push]; walk_at "om"))
local macro_rules | `(tactic| walk_at "isL") => `(tactic| first | exact Holds.isLi (by walk_at "holds") | exact Holds.isL (by walk_at "holds"))
local macro_rules | `(tactic| walk_at "subscriptTail") => `(tactic| ((with_reducible show wpAny _ _ (subscriptTail _ _ (Value.ref _) (Value.int _ _)) _ _ _); with_plain (refine giT (by walk_at "isL") (by walk_at "om") (by walk_at "om") (by assumption) ?_ (by walk_at "u"))))
local macro_rules | `(tactic| walk_at "subscriptTail") => `(tactic| ((with_reducible show wpAny _ _ (subscriptTail _ _ (Value.ref _) (Value.int (-1) _)) _ _ _); with_plain (refine giTn (by walk_at "isL") (by assumption) (by assumption) ?_ (by walk_at "u"))))
local macro_rules | `(tactic| walk_at "setItem ref int") => `(tactic| with_plain (refine siS (by walk_at "a") (by walk_at "up") (by walk_at "om") (by walk_at "fit2") (by walk_at "fit2") ?_; intro _ _))
local macro_rules | `(tactic| walk_at "setItem ref int") => `(tactic| ((with_reducible show wpAny _ _ (setItem (Value.ref _) (Value.int (-1) _) _) _ _ _); with_plain (refine siSn (by walk_at "a") (by walk_at "up") (by assumption) ?_; intro _ _)))
section
open Builtin Builtin.Str
section
variable {w : World} {A : Around} {s : Shared} {Q E : Value → Shared → Prop} {v : Value}
noncomputable def envT (L : Addr) : Env := envOf (stOf 4).1 (stOf 4).2.2.2 L 33 (.ref 32)
theorem enter_tp (X : Lib w s.heap) (hroom : A.depth < recursionLimit)
    (h : ∀ L h₁ t, Sta s.heap h₁ L (fun x => [(("path" : Str), v)].reverse.lookup x) [] [] →
      wpAny (model prg w) (A.deeper (envT L)) (execs (stOf 4).2.2.1 (envT L))
        (fun f s' => Q (match f with | .ret v => v | _ => .none) s') (fun _ _ => False) { s with heap := h₁, toks := t }) :
    wpAny (model prg w) A (call (.ref 33) [v]) Q E s :=
  enter (a := 33) (c := 32) (i := 4) (doc := .none) X hroom rfl rfl rfl rfl (locs rfl) h
inductive TpP (D2 D : Addr) (l : List (Str × Tok)) (q : List (List Nat)) (m : Str → Option Value) (cs fr : List Cl) : Prop
  | mk (hm : m "parts" = some (.ref D2)) (ef : fr = []) (li : List (Str × Tok)) (hli : li.map (fun p => tl p.1) = q) (ec : cs = [(D2, lsti (strValues li).toArray), (D, lst (strValues l).toArray)])
theorem tp_call {x : Str} {t : Tok} {Q : Value → Shared → Prop} (X : Lib w s.heap) (hh : A.handled = none) (hroom : A.depth + 1 < recursionLimit) (hx : x.length ≤ 500)
    (h : ∀ h' u t', (∀ b o, s.heap.get? b = some o → h'.get? b = some o) → Q (.str (mk (trL (tl x))) u) { s with heap := h', toks := t' }) :
    wpAny (model prg w) A (call (.ref 33) [.str x t]) Q E s := by
  refine enter_tp X (by walk_at "om") fun L h₁ t S => ?_
  walk_at "W"
  rename_i D l h1 k1 hsp hS M T I h2 S2
  rw [show (Str.ofString "*" : Str) = ⟨#[42]⟩ from by decide] at hsp
  have hsp' : (l.map (·.1)).map tl = splitL 42 (tl x) := by rw [hsp, split_is]
  have hlen := splitL_len 42 (tl x)
  rw [← hsp'] at hlen
  refine list_map (ys := l) S2 X List.mem_cons_self hh (by show A.depth + 1 < _; walk_at "om") ?_ ?_ fun D2 l2 h3 t3 hl2 S3 => ?_
  · intro p hp
    have := hlen.2 (tl p.1) (List.mem_map.mpr ⟨p.1, List.mem_map.mpr ⟨p, hp, rfl⟩, rfl⟩)
    rw [← tl_len, ← tl_len] at this; walk_at "om"
  · have := hlen.1
    rw [← tl_len] at this
    simp at this; walk_at "om"
  clear S2 hS S
  have hl2n : l2.length = l.length := by have := congrArg List.length hl2; simpa using this
  have hln : l.length ≤ 501 := by
    have := hlen.1
    rw [← tl_len] at this
    simp at this; walk_at "om"
  walk_at "W"
  rename_i r h4 t4 S4
  have hr := S4.atC (.head _)
  replace S4 := (S4.drop .head).weak (P' := lsti (strValues l2).toArray) .head fun o x => ⟨x.1, x.2.2⟩
  have hps : l2.map (fun p => tl p.1) = (splitL 42 (tl x)).map escL := by
    have e1 := congrArg (List.map tl) hl2
    rw [← hsp']
    simp only [List.map_map] at e1 ⊢
    exact e1.trans (List.map_congr_left fun p _ => tl_escS p.1)
  generalize hpsd : l2.map (fun p => tl p.1) = ps at hps
  have hpl : ps.length = l2.length := by rw [← hpsd, List.length_map]
  have hpb : ∀ p ∈ ps, p.length ≤ 1000 := by
    intro p hp
    rw [hps] at hp
    obtain ⟨q, hq, rfl⟩ := List.mem_map.mp hp
    have := (splitL_len 42 (tl x)).2 q hq
    have := escL_len q
    rw [← tl_len] at *
    walk_at "om"
  refine for_range (n := l2.length - 2) (fun i => TpP D2 D l (midL i ps))
    hh S4 hr (by rw [strV_size, hl2n]; split <;> walk_at "om") (by decide) (by decide) (by rw [strV_size]; walk_at "om") (by rw [strV_size]; walk_at "om") ⟨by walk_at "lk", rfl, l2, by rw [midL_zero]; exact hpsd, rfl⟩ ?_ ?_ rfl rfl rfl
  · intro i it m5 cs5 fr5 h5 t5 u5 hi hP S5
    refine foldQ fun Q1 hQ1 => ?_
    obtain ⟨hm5, rfl, li, hli, rfl⟩ := hP
    have hlin : li.length = l2.length := by have := congrArg List.length hli; rw [midL_len] at this; simpa [hpl] using this
    have hi1 : i + 1 < li.length := by walk_at "om"
    have hget : li[i + 1]? = some li[i + 1] := List.getElem?_eq_getElem hi1
    have hy : ps[i + 1]? = some (tl li[i + 1].1) := by
      have := congrArg (·[i + 1]?) hli
      simp only [List.getElem?_map, hget, midL_get] at this
      cases hq : ps[i + 1]? with
      | none => rw [hq] at this; cases this
      | some q =>
        rw [hq] at this
        simp at this
        rw [if_neg (by walk_at "om")] at this
        rw [this]
    have hyl : li[i + 1].1.length ≤ 1000 := by
      have := hpb _ (List.mem_of_getElem? hy)
      rw [tl_len]; exact this
    have hg : (strValues li).toArray[((1 : Int) + (i : Int)).toNat]? = some (.str li[i + 1].1 li[i + 1].2) := by
      rw [show ((1 : Int) + (i : Int)).toNat = i + 1 by walk_at "om"]
      exact strV_at li (i + 1) _ hget
    generalize hyp : li[i + 1].1 = y at hy hyl hg
    generalize li[i + 1].2 = ty at hg
    walk_at "W"
    rename Sta _ _ _ _ _ _ => S6
    have ei : ((1 : Int) + (i : Int)).toNat = i + 1 := by walk_at "om"
    rw [ei, strV_set] at S6
    refine hQ1 _ _ ⟨_, _, _, _, _, rfl, S6, by walk_at "lk", rfl, _, ?_, rfl⟩
    rw [List.map_set, hli]
    have : tl (Str.empty ++ Str.ofString "(?>.*?" ++ y ++ Str.ofString ")") = wrapL (tl y) := by
      rw [tl_app, tl_app, tl_app]; rfl
    rw [this]
    exact midL_succ i ps _ hy
  · intro m5 cs5 fr5 h5 t5 hP S5
    obtain ⟨hm5, rfl, li, hli, rfl⟩ := hP
    have hlin : li.length = l2.length := by have := congrArg List.length hli; rw [midL_len] at this; simpa [hpl] using this
    have hpos : 1 ≤ li.length := by
      have : ps ≠ [] := by rw [hps]; simp [splitL_ne]
      have := List.length_pos_iff.mpr this
      walk_at "om"
    have hi1 : li.length - 1 < li.length := by walk_at "om"
    have hget : li[li.length - 1]? = some li[li.length - 1] := List.getElem?_eq_getElem hi1
    have hz : (midL (l2.length - 2) ps)[ps.length - 1]? = some (tl li[li.length - 1].1) := by
      rw [← hli, hpl, ← hlin, List.getElem?_map, hget]; rfl
    have hall : ∀ p ∈ li, p.1.length ≤ 1007 := by
      intro p hp
      have h1 : tl p.1 ∈ midL (l2.length - 2) ps := by rw [← hli]; exact List.mem_map.mpr ⟨p, hp, rfl⟩
      obtain ⟨j, hj⟩ := List.getElem?_of_mem h1
      rw [midL_get] at hj
      cases hq : ps[j]? with
      | none => rw [hq] at hj; cases hj
      | some q =>
        rw [hq] at hj
        have hb := hpb q (List.mem_of_getElem? hq)
        rw [tl_len]
        simp only [Option.map_some, Option.some.injEq] at hj
        rw [← hj]
        split
        · simp only [wrapL, List.length_append, List.length_cons, List.length_nil]; walk_at "om"
        · walk_at "om"
    have hyl : li[li.length - 1].1.length ≤ 1007 := hall _ (List.getElem_mem hi1)
    have hg1 : 1 ≤ (strValues li).toArray.size := by rw [strV_size]; exact hpos
    have hg : (strValues li).toArray[(strValues li).toArray.size - 1]? = some (.str li[li.length - 1].1 li[li.length - 1].2) := by
      rw [strV_size]
      exact strV_at li _ _ hget
    generalize hyp : li[li.length - 1].1 = y at hz hyl hg
    generalize li[li.length - 1].2 = ty at hg
    walk_at "W"
    rename_i tq tk hq S6
    rw [strV_size, strV_set] at S6
    refine joinS S6 (S6.atC (.head _)) ?_ fun t' k S7 => ?_
    · show _ + _ * 0 ≤ _
      have : ∀ (a : List (Str × Tok)), (∀ p ∈ a, p.1.length ≤ 1010) → (a.map (·.1.length)).sum ≤ 1010 * a.length := by
        intro a
        induction a with
        | nil => intro _; simp
        | cons p a ih =>
          intro hp
          have h1 := hp p (by simp)
          have h2 := ih fun q hq => hp q (by simp [hq])
          simp only [List.map_cons, List.sum_cons, List.length_cons]
          walk_at "om"
      have := this (li.set (li.length - 1) (Str.empty ++ Str.ofString ".*" ++ y, tk)) fun p hp => by
        rcases List.mem_or_eq_of_mem_set hp with hp | rfl
        · have := hall p hp; walk_at "om"
        · rw [tl_len, tl_app, tl_app, List.length_append, List.length_append, ← tl_len y]
          have e1 : (tl Str.empty).length = 0 := rfl
          have e2 : (tl (Str.ofString ".*")).length = 2 := rfl
          walk_at "om"
      rw [List.length_set] at this
      walk_at "om"
    · have e : Txt.join (Str.ofString "") ((li.set (li.length - 1) (Str.empty ++ Str.ofString ".*" ++ y, tk)).map (·.1)) = mk (trL (tl x)) := by
        rw [← mk_tl (Txt.join _ _), txjoin_is]
        have e0 : tl (Str.ofString "") = [] := rfl
        rw [e0, joinL_nil]
        congr 1
        have e1 : ((li.set (li.length - 1) (Str.empty ++ Str.ofString ".*" ++ y, tk)).map (·.1)).map tl = (midL (l2.length - 2) ps).set (ps.length - 1) ([46, 42] ++ tl y) := by
          rw [← hli, hpl, ← hlin, List.map_map, List.map_set]
          congr 1
          show tl (Str.empty ++ Str.ofString ".*" ++ y) = _
          rw [tl_app, tl_app]; rfl
        rw [e1]
        exact trL_is (tl x) ps hps _ (by rw [hpl]; split <;> walk_at "om") _ hz
      have := h _ t' k S7.keep
      rw [← e] at this
      exact this
end
end
section
open Sem (wp)
section
variable {M : Model} {A : Around} {R : GenEnd} {Y : Protocol} {n : Nat} {s₀ : Shared} {c : Code} {fs : List Frame} {s : Shared} {env : Env}
  {K : Flow → Sem Fin} {H : Value → Sem Fin} {gd : Bool → Bool} {lv : List Value → List Value}

/-- a plain statement within a generator's body -/
theorem seg_stmt {st : Stmt} (h : wpAny M (A.over c fs) (PySem.exec st env) (fun f s' => Seg M A R Y n s₀ c (K f) fs s') (fun _ _ => False) s) :
    Seg M A R Y n s₀ c ((PySem.exec st env).wrap K H gd lv) fs s :=
  seg_wrap (wpAny_mono h (fun _ _ x => x) fun _ _ x => x.elim)

theorem seg_If {test : Expr} {body orelse : List Stmt} {pos : Pos}
    (h : wpAny M (A.over c fs) (isTrue test env (eval test env)) (fun b s' => if b = true then Seg M A R Y n s₀ c ((execs body env).wrap K H gd lv) fs s' else Seg M A R Y n s₀ c ((execs orelse env).wrap K H gd lv) fs s')
      (fun _ _ => False) s) :
    Seg M A R Y n s₀ c ((PySem.exec (.If test body orelse pos) env).wrap K H gd lv) fs s := by
  rw [exec_If]
  refine seg_at ?_
  show Seg M A R Y n s₀ c (Sem.wrap K H gd lv (isTrue test env (eval test env) >>= fun b => if b = true then execs body env else execs orelse env)) fs s
  rw [Sem.bind_eq_wrap', Sem.wrap_wrap]
  refine seg_wrap (wpAny_mono h (fun b s' hb => ?_) fun _ _ x => x.elim)
  cases b with
  | true => rw [if_pos rfl] at hb; exact hb
  | false => rw [if_neg Bool.false_ne_true] at hb; exact hb

theorem seg_For {target iter : Expr} {body orelse : List Stmt} {pos : Pos} (hs : ∀ x, foldedSetIterable iter env x = pure x)
    (h : wpAny M (A.over c fs) (eval iter env) (fun x s₁ => wpAny M (A.over c fs) (pyIter x) (fun it s₂ => ∀ p k, (∀ f, k (.ok f) = K f) →
        Seg M A R Y n s₀ (.forLoop target it body orelse env) (M.den (.forLoop target it body orelse env)) (.ret k none (gd false) (lv []) c p [] :: fs) s₂) (fun _ _ => False) s₁) (fun _ _ => False) s) :
    Seg M A R Y n s₀ c ((PySem.exec (.For target iter body orelse pos) env).wrap K H gd lv) fs s := by
  rw [exec_For]
  refine seg_at ?_
  show Seg M A R Y n s₀ c (Sem.wrap K H gd lv (eval iter env >>= fun x => foldedSetIterable iter env x >>= fun x => standAt iter.pos >>= fun _ => (holding [x] (pyIter x)) >>= fun it => runOwn (.forLoop target it body orelse env) env)) fs s
  have e : (eval iter env >>= fun x => foldedSetIterable iter env x >>= fun x => standAt iter.pos >>= fun _ => (holding [x] (pyIter x)) >>= fun it => runOwn (.forLoop target it body orelse env) env) =
      ((eval iter env >>= fun x => foldedSetIterable iter env x >>= fun x => standAt iter.pos >>= fun _ => (holding [x] (pyIter x))) >>= fun it => runOwn (.forLoop target it body orelse env) env) := by
    simp only [bind_assoc]
  rw [e, Sem.bind_eq_wrap' _ fun it => runOwn (.forLoop target it body orelse env) env, Sem.wrap_wrap]
  refine seg_wrap (wpAny_bind (wpAny_mono h (fun x s₁ h₁ => ?_) fun _ _ x => x.elim))
  refine wpAny_bind (wpAny_of_eq (hs x) (wpAny_bind (wpAny_standAt (wpAny_holding (wpAny_mono h₁ (fun it s₂ h₂ => ?_) fun _ _ x => x.elim)))))
  exact seg_call fun p => h₂ p _ fun f => rfl
end

section
variable {prog : Program} {w : World} {A : Around} {R : GenEnd} {Y : Protocol} {n : Nat} {s₀ : Shared} {fs : List Frame} {s : Shared} {env : Env}

theorem seg_forLoop {target : Expr} {it : Value} {body orelse : List Stmt}
    (h : wpAny (model prog w) (A.over (.forLoop target it body orelse env) fs) (pyNext it) (fun r s' => match r with
        | none => Seg (model prog w) A R Y n s₀ (.forLoop target it body orelse env) (.pure (.again (.block orelse env))) fs s'
        | some v => wpAny (model prog w) (A.over (.forLoop target it body orelse env) fs) (letOwnedTupleGo target it v) (fun _ s₁ => wpAny (model prog w) (A.over (.forLoop target it body orelse env) fs) (assign target env v) (fun _ s₂ => ∀ K' H' gd lv,
            (∀ f, K' f = match f with
              | .next | .cont => .pure (.again (.forLoop target it body orelse env))
              | .brk => .pure (.done .next)
              | .ret v => .pure (.done (.ret v))) → gd false = false → Seg (model prog w) A R Y n s₀ (.forLoop target it body orelse env) ((execs body env).wrap K' H' gd lv) fs s₂) (fun _ _ => False) s₁) (fun _ _ => False) s')
      (fun _ _ => False) s) :
    Seg (model prog w) A R Y n s₀ (.forLoop target it body orelse env) ((model prog w).den (.forLoop target it body orelse env)) fs s := by
  show Seg _ A R Y n s₀ _ ((forTurn target it body orelse env).onRaise (fun x => do noteFrame x env; theTreesLotGoes x)) fs s
  unfold forTurn
  rw [Sem.onRaise_eq_wrap]
  refine seg_at ?_
  show Seg _ A R Y n s₀ _ (Sem.wrap _ _ _ _ (((pyNext it).onRaise fun _ => standAt { target.pos with line := 0 }) >>= _)) fs s
  rw [Sem.bind_eq_wrap', Sem.wrap_wrap]
  refine seg_wrap (wpAny_onRaise (wpAny_mono h (fun r s' hr => ?_) fun _ _ x => x.elim))
  cases r with
  | none => exact hr
  | some v =>
    show Seg _ A R Y n s₀ _ (Sem.wrap _ _ _ _ (letOwnedTupleGo target it v >>= _)) fs s'
    rw [Sem.bind_eq_wrap', Sem.wrap_wrap]
    refine seg_wrap (wpAny_mono hr (fun _ s₁ h₁ => ?_) fun _ _ x => x.elim)
    show Seg _ A R Y n s₀ _ (Sem.wrap _ _ _ _ (assign target env v >>= _)) fs s₁
    rw [Sem.bind_eq_wrap', Sem.wrap_wrap]
    refine seg_wrap (wpAny_mono h₁ (fun _ s₂ h₂ => ?_) fun _ _ x => x.elim)
    show Seg _ A R Y n s₀ _ (Sem.wrap _ _ _ _ (execs body env >>= _)) fs s₂
    rw [Sem.bind_eq_wrap', Sem.wrap_wrap]
    exact h₂ _ _ _ _ (fun f => by cases f <;> rfl) rfl

theorem seg_blockNil {k : Result → Sem Fin} {c₁ : Code} {p₁ : Pos} {hd : Option Value} {g : Bool} {l kept : List Value} {fs' : List Frame} (c : Code)
    (h : Seg (model prog w) A R Y n s₀ c₁ (k (.ok .next)) fs' s) :
    Seg (model prog w) A R Y n s₀ c (.pure (.again (.block [] env))) (.ret k hd g l c₁ p₁ kept :: fs') s := by
  refine seg_again rfl ?_
  show Seg (model prog w) A R Y n s₀ _ (leafOf (.ok .next)) _ s
  exact seg_leaf (.ok .next) h
end
end
section
open Sem (wp)
/-- the heap without some of its objects -/
noncomputable def hide (h : Heap) (own : List Addr) : Heap := { h with objs := h.objs.mapIdx fun i o => if i ∈ own then { cls := .none, dict := none, data := .freed, slots := #[] } else o }
theorem hide_get (h : Heap) (own : List Addr) (b : Addr) : (hide h own).get? b = if b ∈ own then none else h.get? b := by
  unfold Heap.get? hide
  simp only [Array.getElem?_mapIdx]
  by_cases hb : b ∈ own
  · rw [if_pos hb]
    cases h.objs[b]? with
    | none => rfl
    | some o => simp only [Option.map_some, if_pos hb]
  · rw [if_neg hb]
    cases h.objs[b]? with
    | none => rfl
    | some o => simp only [Option.map_some, if_neg hb]

section
variable {g g1 h h' : Heap} {L : Addr} {m m' : Str → Option Value} {cs cs' fr fr' : List Cl}
theorem Sta.rebase (S : Sta g h L m cs []) (k : ∀ b ∈ L :: cs.map (·.1), ∀ o, h.get? b = some o → h'.get? b = some o) : Sta (hide h' (L :: cs.map (·.1))) h' L m cs [] := by
  refine ⟨S.ns.at fun o e => k L (.head _) o e, fun b o e => ?_, ?_, fun p hp => ⟨?_, (S.cell p hp).2.1, ?_⟩, S.nd, fun p hp => nomatch hp⟩
  · rw [hide_get] at e
    split at e
    · cases e
    · exact e
  · rw [hide_get, if_pos (.head _)]
  · exact (S.cell p hp).1.keeps fun o e => k _ (.tail _ (List.mem_map.mpr ⟨p, hp, rfl⟩)) o e
  · rw [hide_get, if_pos (.tail _ (List.mem_map.mpr ⟨p, hp, rfl⟩))]
theorem Sta.alive (S : Sta g h L m cs []) : ∀ b ∈ L :: cs.map (·.1), ∃ o, h.get? b = some o := by
  intro b hb
  rcases List.mem_cons.mp hb with rfl | hb
  · exact Ns.atL S.ns
  · obtain ⟨p, hp, rfl⟩ := List.mem_map.mp hb
    obtain ⟨o, a, _⟩ := (S.cell p hp).1
    exact ⟨o, a⟩
end

noncomputable abbrev genO (gi : Nat) : Obj → Prop := fun o => o.cls = .type "generator" ∧ (∃ nm qn, o.data = .fields #[.int gi 0, nm, qn]) ∧ o.slots = #[]
theorem Holds.isGen {h : Heap} {a : Addr} {gi : Nat} (x : Holds h (a, genO gi)) : h.IsGen a gi := let ⟨o, ho, hc, ⟨nm, qn, hd⟩, hs⟩ := x; ⟨o, nm, qn, ho, hc, hd, hs⟩

/-- what a turn of the generator has changed -/
noncomputable def Since (own : List Addr) (s₀ s : Shared) : Prop := (∃ h t, s = { s₀ with heap := h, toks := t }) ∧ (∀ b o, b ∉ own → s₀.heap.get? b = some o → s.heap.get? b = some o) ∧ ∀ b ∈ own, ∃ o, s.heap.get? b = some o

noncomputable abbrev Us := List (Nat × List Nat)
noncomputable def RG (own : List Addr) : GenEnd := fun n s₀ r s₁ => r = .ok (.ret .none) ∧ n = 0 ∧ Since own s₀ s₁
noncomputable def YG (g : Heap) (own : List Addr) (us : Us) : Protocol := fun m s₀ v s₁ kap =>
  (∃ T p u t1 t2 pre post, v = .ref T ∧ us = pre ++ (p, u) :: post ∧ post.length = m ∧ Holds s₁.heap (T, tupl #[.int (p : Nat) t1, .str (mk u) t2]) ∧ s₀.heap.get? T = none ∧ T ∉ own) ∧ Since own s₀ s₁ ∧
    ∀ s'', (∀ b o, g.get? b = some o → s''.heap.get? b = some o) → (∀ b ∈ own, ∀ o, s₁.heap.get? b = some o → s''.heap.get? b = some o) → kap (.send .none) s''

/-- a suspended or fresh generator that has still k units to give; own: its objects, as they stand in H -/
noncomputable def GenAt (w : World) (B : Around) (g : Heap) (gi : Nat) (own : List Addr) (us : Us) (k : Nat) (H : Heap) (G : Array GenState) : Prop :=
  ∃ gs, G[gi]? = some gs ∧ gs.bare = true ∧ ∀ s'' : Shared, (∀ b o, g.get? b = some o → s''.heap.get? b = some o) → (∀ b ∈ own, ∀ o, H.get? b = some o → s''.heap.get? b = some o) →
    ∃ own', own'.Nodup ∧ (∀ b ∈ own', b ∈ own ∨ s''.heap.get? b = none) ∧ gs.Goes (model prg w) B (RG own') (YG g own' us) k (.send .none) s''

/-- cells that hold just what they hold in H -/
noncomputable abbrev exC (H : Heap) (own : List Addr) : List Cl := own.map fun b => (b, fun o => H.get? b = some o)
theorem exC_map (H : Heap) (own : List Addr) : (exC H own).map (·.1) = own := by rw [List.map_map]; exact List.map_id _

section
variable {w : World} {A : Around} {E : Value → Shared → Prop} {s : Shared} {g : Heap}

theorem wpAny_pyNext_genQ {prog : Program} {a : Addr} {g n : Nat} {gs : GenState} {P : Nat → Shared → Shared → Prop} {Y : Protocol} {Q : Option Value → Shared → Prop} (hh : A.handled = none)
    (hl : s.heap.NoLimit) (hroom : A.depth < recursionLimit)
    (hg : s.heap.IsGen a g) (hgs : s.gens[g]? = some gs)
    (hgo : gs.Goes (model prog w) A.in1 (fun n s₀ r s₁ => r = .ok (.ret .none) ∧ P n s₀ s₁) Y n (.send .none) (s.setGen g .running))
    (hY : ∀ v s₁ gs', gs'.bare = true → Y (n - 1) (s.setGen g .running) v s₁ (fun r' s'' => match n with
        | 0 => False
        | m + 1 => gs'.Goes (model prog w) A.in1 (fun n s₀ r s₁ => r = .ok (.ret .none) ∧ P n s₀ s₁) Y m r' s'') → Q (some v) (s₁.setGen g gs'))
    (hP : ∀ s₁, P n (s.setGen g .running) s₁ → ∀ h', (∀ b o, s₁.heap.get? b = some o → h'.get? b = some o) → Q none { s₁.setGen g .finished with heap := h' }) :
    wpAny (model prog w) A (pyNext (.ref a)) Q E s := by
  unfold pyNext
  refine wpAny_bind (wpAny_attempt (wpAny_callSpecial?_slot (name := Str.ofString "__next__") hg.typeIs slot_gen_next
    (wpAny_call_entry slot_gen_next hg.typeIs entry_gen_next ?_ (args_gen_next _))))
  show wpAny _ A.in1 (Builtin.Generator.genWake (.ref a) (.send .none)) _ _ s
  unfold Builtin.Generator.genWake
  refine wpAny_bind (wpAny_holding (wpAny_genNumber hg (wpAny_bind (wpAny_genState hgs ?_))))
  cases gs with
  | running => exact hgo.elim
  | finished => exact hgo.elim
  | _ =>
    refine wpAny_bind (wpAny_roomToWake hl hroom ?_)
    show wpAny _ A.in1 (.resume g (.send .none) [] _) _ _ s
    refine wpAny_resumeQ hgs hgo (fun x s₁ hx => ?_) (fun v s₁ gs' hb hv => ?_)
    · obtain ⟨rfl, hp⟩ := hx
      show wpAny _ A.in1 (newExc (.type "StopIteration") [] >>= _) _ _ _
      refine wpAny_bind ?_
      simp only [newExc, newTuple]
      refine wpAny_bind (wpAny_newObj_type ?_ (by size_fits))
      refine wpAny_bind (m := firstArgMember _ _) (wpAny_of_eq (a := Value.none) (by first | rfl | (simp only [firstArgMember]; rfl)) ?_)
      refine wpAny_newObj_type ?_ (by size_fits)
      simp only [raiseNew]
      refine wpAny_bind (wpAny_bind (wpAny_handled ?_))
      first | rw [show A.in1.handled = none from hh] | rw [hh]
      refine wpAny_throw ?_
      refine wpAny_bind (wpAny_isInstance (T := "StopIteration") (b := true) ⟨_, Heap.get?_push_size _ rfl, rfl⟩ isSubtype_stop ?_)
      exact wpAny_pure (hP s₁ hp _ fun b o hb => Heap.get?_push_of_some _ (Heap.get?_push_of_some _ hb))
    · exact wpAny_pure ⟨v, rfl, wpAny_pure (hY v s₁ gs' hb hv)⟩

theorem suffix_at {α : Type} {pre pre' suf post : List α} {x : α} {k : Nat} (e : pre ++ suf = pre' ++ x :: post) (h1 : suf.length = k + 1) (h2 : post.length = k) : suf = x :: post := by
  have : pre.length = pre'.length := by
    have := congrArg List.length e
    simp at this; walk_at "om"
  exact (List.append_inj e this).2

noncomputable abbrev Bare (G : Array GenState) : Prop := ∀ x ∈ G, x.bare = true
theorem Bare.push {G : Array GenState} {x : GenState} (h : Bare G) (hx : x.bare = true) : Bare (G.push x) := fun y hy => by
  rcases Array.mem_push.mp hy with hy | rfl
  · exact h y hy
  · exact hx
theorem Bare.set {G : Array GenState} {x : GenState} (h : Bare G) (i : Nat) (hx : x.bare = true) : Bare (G.setIfInBounds i x) := fun y hy => by
  obtain ⟨j, hj⟩ := Array.getElem?_of_mem hy
  rw [Array.getElem?_setIfInBounds] at hj
  split at hj
  · split at hj
    · cases hj; exact hx
    · cases hj
  · exact h y (Array.mem_of_getElem? hj)
theorem Bare.set2 {G : Array GenState} {x y : GenState} (h : Bare G) (i : Nat) (hx : x.bare = true) : Bare ((G.setIfInBounds i y).setIfInBounds i x) := by
  have : (G.setIfInBounds i y).setIfInBounds i x = G.setIfInBounds i x := by
    apply Array.ext_getElem?
    intro j
    simp only [Array.getElem?_setIfInBounds, Array.size_setIfInBounds]
    split <;> rfl
  rw [this]; exact h.set i hx

section
variable {L a : Addr} {gi : Nat} {m : Str → Option Value} {cs cs1 fr : List Cl} {own own' : List Addr} {H : Heap}

/-- the state of a consumer after the generator's turn -/
theorem Sta.since {h h' : Heap} {P : Obj → Prop} (S : Sta g h L m (cs ++ (a, P) :: exC H own) fr) (nd' : own'.Nodup) (hnew : ∀ b ∈ own', b ∈ own ∨ h.get? b = none)
    (k : ∀ b o, b ∉ own' → h.get? b = some o → h'.get? b = some o) (al : ∀ b ∈ own', ∃ o, h'.get? b = some o) :
    Sta g h' L m (cs ++ (a, P) :: exC h' own') fr := by
  have hown : ∀ b ∈ own, b ≠ L ∧ g.get? b = none := fun b hb => (S.cell (b, fun o => H.get? b = some o) (List.mem_append_right _ (.tail _ (List.mem_map.mpr ⟨b, hb, rfl⟩)))).2
  have nd := S.nd
  rw [List.map_append, List.map_cons, exC_map, List.nodup_append] at nd
  have nda := nd.2.1
  rw [List.nodup_cons] at nda
  have keep : ∀ b o, b ∉ own → h.get? b = some o → b ∉ own' := fun b o hb q hm => by
    rcases hnew b hm with x | x
    · exact hb x
    · rw [x] at q; cases q
  have kk : ∀ b o, b ∉ own → h.get? b = some o → h'.get? b = some o := fun b o hb q => k b o (keep b o hb q) q
  have gk : ∀ b o, g.get? b = some o → b ∉ own := fun b o q hm => by rw [(hown b hm).2] at q; cases q
  obtain ⟨oL, hoL⟩ := Ns.atL S.ns
  have csn : ∀ p ∈ cs, p.1 ∉ own := fun p hp hm => nd.2.2 p.1 (List.mem_map.mpr ⟨p, hp, rfl⟩) p.1 (.tail _ hm) rfl
  refine ⟨S.ns.at fun o q => kk L o (fun hm => (hown L hm).1 rfl) q, fun b o q => kk b o (gk b o q) (S.keep b o q), S.gL, fun p hp => ?_, ?_, fun p hp => ?_⟩
  · rcases List.mem_append.mp hp with hp | hp
    · have c := S.cell p (List.mem_append_left _ hp)
      exact ⟨c.1.keeps fun o q => kk _ o (csn p hp) q, c.2⟩
    · rcases List.mem_cons.mp hp with rfl | hp
      · have c := S.cell (a, P) (List.mem_append_right _ (.head _))
        exact ⟨c.1.keeps fun o q => kk _ o nda.1 q, c.2⟩
      · obtain ⟨b, hb, rfl⟩ := List.mem_map.mp hp
        obtain ⟨o, ho⟩ := al b hb
        refine ⟨⟨o, ho, ho⟩, ?_⟩
        rcases hnew b hb with x | x
        · exact hown b x
        · refine ⟨fun q => ?_, ?_⟩
          · have q : b = L := q
            rw [q, hoL] at x; cases x
          · cases q : g.get? b with
            | none => rfl
            | some o => have := S.keep _ _ q; rw [x] at this; cases this
  · rw [List.map_append, List.map_cons, exC_map, List.nodup_append, List.nodup_cons]
    have ha : ∃ o, h.get? a = some o := let ⟨o, ho, _⟩ := (S.cell (a, P) (List.mem_append_right _ (.head _))).1; ⟨o, ho⟩
    refine ⟨nd.1, ⟨fun hm => ?_, nd'⟩, fun x hx y hy e => ?_⟩
    · obtain ⟨o, ho⟩ := ha
      exact keep _ _ nda.1 ho hm
    · subst e
      rcases List.mem_cons.mp hy with rfl | hy
      · exact nd.2.2 x hx x (.head _) rfl
      · obtain ⟨p, hp, rfl⟩ := List.mem_map.mp hx
        obtain ⟨o, ho, _⟩ := (S.cell p (List.mem_append_left _ hp)).1
        exact keep _ _ (csn p hp) ho hy
  · have f := S.frz p hp
    have f4 := f.2.2.2
    rw [List.map_append, List.map_cons, exC_map, List.mem_append, List.mem_cons, not_or, not_or] at f4
    obtain ⟨o, ho, _⟩ := f.1
    refine ⟨f.1.keeps fun o q => kk _ o f4.2.2 q, f.2.1, f.2.2.1, ?_⟩
    rw [List.map_append, List.map_cons, exC_map, List.mem_append, List.mem_cons, not_or, not_or]
    exact ⟨f4.1, f4.2.1, keep _ _ f4.2.2 ho⟩

theorem Sta.add {h h' : Heap} {P : Obj → Prop} (S : Sta g h L m cs fr) (S1 : Sta g h' L m cs1 fr) (hT : Holds h' (a, P)) (hn : h.get? a = none) (hc : a ∉ cs1.map (·.1)) : Sta g h' L m ((a, P) :: cs1) fr := by
  have hne : ∀ b o, h.get? b = some o → b ≠ a := fun b o q e' => by rw [e', hn] at q; cases q
  refine ⟨S1.ns, S1.keep, S1.gL, fun p' hp => ?_, ?_, fun p' hp => ?_⟩
  · rcases List.mem_cons.mp hp with rfl | hp
    · refine ⟨hT, ?_, ?_⟩
      · obtain ⟨o, ho⟩ := Ns.atL S.ns
        exact (hne _ _ ho).symm
      · cases q : g.get? a with
        | none => rfl
        | some o => exact absurd rfl (hne _ _ (S.keep _ _ q))
    · exact S1.cell p' hp
  · rw [List.map_cons, List.nodup_cons]
    exact ⟨hc, S1.nd⟩
  · have f := S1.frz p' hp
    refine ⟨f.1, f.2.1, f.2.2.1, fun q => ?_⟩
    rw [List.map_cons] at q
    rcases List.mem_cons.mp q with q | q
    · obtain ⟨o, ho, _⟩ := (S.frz p' hp).1
      exact hne _ _ ho q
    · exact f.2.2.2 q

theorem gen_item {us pre suf : Us} {p : Nat} {u : List Nat} {Q : Option Value → Shared → Prop} (hh : A.handled = none) (X : Lib w g) (hroom : A.depth < recursionLimit)
    (S : Sta g s.heap L m (cs ++ (a, genO gi) :: exC H own) fr) (hus : us = pre ++ (p, u) :: suf)
    (HG : GenAt w A.in1 g gi own us (suf.length + 1) H s.gens) (hb : Bare s.gens)
    (h : ∀ T t1 t2 h' t' G' own', Sta g h' L m ((T, tupl #[.int p t1, .str (mk u) t2]) :: (cs ++ (a, genO gi) :: exC h' own')) fr → GenAt w A.in1 g gi own' us suf.length h' G' → Bare G' →
      Q (some (.ref T)) { s with heap := h', toks := t', gens := G' }) :
    wpAny (model prg w) A (pyNext (.ref a)) Q E s := by
  obtain ⟨gs, hgs, hbr, hgo⟩ := HG
  have hat : ∀ b ∈ own, ∀ o, H.get? b = some o → s.heap.get? b = some o := fun b hb o q => by
    obtain ⟨o', a', b'⟩ := S.atC (d := b) (P := fun o => H.get? b = some o) (List.mem_append_right _ (.tail _ (List.mem_map.mpr ⟨b, hb, rfl⟩)))
    rw [b'] at q; cases q; exact a'
  obtain ⟨own', nd', hnew, hgo⟩ := hgo (s.setGen gi .running) S.keep hat
  refine wpAny_pyNext_genQ (P := fun n s₀ s₁ => n = 0 ∧ Since own' s₀ s₁) hh (S.lib X).lim hroom (S.atC (P := genO gi) (List.mem_append_right _ (.head _))).isGen hgs hgo (fun v s₁ gs' hb' hv => ?_) (fun s₁ hp h' hk => ?_)
  · obtain ⟨⟨T, p', u', t1, t2, pre', post, rfl, hus', hlen, hT, hTn, hTo⟩, ⟨⟨h1, t1', rfl⟩, hk, hal⟩, hkap⟩ := hv
    have S1 := S.since nd' hnew hk hal
    have hsuf := suffix_at (hus.symm.trans hus') (by simp) hlen
    simp only [Nat.add_sub_cancel] at hlen
    cases hsuf
    refine h T t1 t2 h1 t1' _ own' (S.add S1 hT hTn ?_) ⟨gs', setGen_self (gs := .running) (setGen_self hgs), hb', fun s'' k1 k2 => ⟨own', nd', fun b hb => .inl hb, hkap s'' k1 k2⟩⟩ (hb.set2 gi hb')
    rw [List.map_append, List.map_cons, exC_map, List.mem_append, List.mem_cons, not_or, not_or]
    have hne : ∀ b o, s.heap.get? b = some o → b ≠ T := fun b o q e' => by
      have hTn : s.heap.get? T = none := hTn
      rw [e', hTn] at q; cases q
    refine ⟨fun q => ?_, ?_, hTo⟩
    · obtain ⟨p', hp', e⟩ := List.mem_map.mp q
      obtain ⟨o, ho, _⟩ := (S.cell p' (List.mem_append_left _ hp')).1
      exact hne _ _ ho e
    · obtain ⟨o, ho, _⟩ := (S.cell (a, genO gi) (List.mem_append_right _ (.head _))).1
      exact (hne _ _ ho).symm
  · exact absurd hp.1 (Nat.succ_ne_zero _)

theorem Sta.dropR (S : Sta g H L m (cs ++ cs1) fr) : Sta g H L m cs fr :=
  ⟨S.ns, S.keep, S.gL, fun p hp => S.cell p (List.mem_append_left _ hp), by have := S.nd; rw [List.map_append, List.nodup_append] at this; exact this.1,
   fun p hp => let f := S.frz p hp; ⟨f.1, f.2.1, f.2.2.1, fun q => f.2.2.2 (by rw [List.map_append]; exact List.mem_append_left _ q)⟩⟩

theorem gen_end {us : Us} {Q : Option Value → Shared → Prop} (hh : A.handled = none) (X : Lib w g) (hroom : A.depth < recursionLimit)
    (S : Sta g s.heap L m (cs ++ (a, genO gi) :: exC H own) fr)
    (HG : GenAt w A.in1 g gi own us 0 H s.gens) (hb : Bare s.gens)
    (h : ∀ h' t' G', Sta g h' L m cs fr → Bare G' → Q none { s with heap := h', toks := t', gens := G' }) :
    wpAny (model prg w) A (pyNext (.ref a)) Q E s := by
  obtain ⟨gs, hgs, hbr, hgo⟩ := HG
  have hat : ∀ b ∈ own, ∀ o, H.get? b = some o → s.heap.get? b = some o := fun b hb o q => by
    obtain ⟨o', a', b'⟩ := S.atC (d := b) (P := fun o => H.get? b = some o) (List.mem_append_right _ (.tail _ (List.mem_map.mpr ⟨b, hb, rfl⟩)))
    rw [b'] at q; cases q; exact a'
  obtain ⟨own', nd', hnew, hgo⟩ := hgo (s.setGen gi .running) S.keep hat
  refine wpAny_pyNext_genQ (P := fun n s₀ s₁ => n = 0 ∧ Since own' s₀ s₁) hh (S.lib X).lim hroom (S.atC (P := genO gi) (List.mem_append_right _ (.head _))).isGen hgs hgo (fun v s₁ gs' hb' hv => ?_) (fun s₁ hp h' hk => ?_)
  · obtain ⟨_, ⟨⟨h1, t1', rfl⟩, hk, hal⟩, hkap⟩ := hv
    exact False.elim (hkap _ (S.since nd' hnew hk hal).keep fun _ _ _ q => q)
  · obtain ⟨_, ⟨h1, t1', rfl⟩, hk', hal⟩ := hp
    exact h h' t1' _ (((S.since nd' hnew hk' hal).ext hk).dropR) (hb.set2 gi rfl)
end
end
end
section
open Sem (wp)
/-- what _iter_escaped_chars gives from place i on -/
noncomputable def unitsL : Nat → Bool → List Nat → Us
  | _, false, [] => []
  | i, true, [] => [(i - 1, [92])]
  | i, true, c :: r => (i, [92, c]) :: unitsL (i + 1) false r
  | i, false, c :: r => if c = 92 then unitsL (i + 1) true r else (i, [c]) :: unitsL (i + 1) false r

noncomputable abbrev enO (it : Addr) (i : Nat) : Obj → Prop := fun o => ∃ old, o = { cls := .type "enumerate", data := .fields #[.none, .bool false, .ref it, rawInt i, .none, old] }
noncomputable abbrev siO (x : Str) (t : Tok) (i : Nat) : Obj → Prop := fun o => o.cls = .type (strIterType x) ∧ o.data = .fields #[.str x t, .int i 0]

theorem drawsStr {prog : Program} {w : World} {A : Around} (hh : A.handled = none) (it : Addr) (x : Str) (t : Tok) :
    Draws prog w A it [it] x.cps.size (fun i v => ∃ c u, x.cps[i]? = some c ∧ v = .str ⟨#[c]⟩ u) (fun i h => h.IsStrIter it (strIterType x) x t i) := by
  unfold strIterType
  cases x.cps.all (· < 128)
  · exact Draws.strWide hh it x t
  · exact Draws.strAscii hh it x t

noncomputable abbrev anyO : Obj → Prop := fun _ => True

section
variable {prog : Program} {w : World} {A : Around} {E : Value → Shared → Prop} {s : Shared}
theorem nextOf_wide_end {it : Addr} {x : Str} {t : Tok} {i : Nat} {Q : Value → Shared → Prop} (hh : A.handled = none)
    (hit : s.heap.IsStrIter it "str_iterator" x t i) (hx : x.cps[i]? = none)
    (hE : ∀ h' e, Heap.ExtBut it s.heap h' → (∃ o, h'.get? it = some o) → (∃ o, h'.get? e = some o ∧ o.cls = .type "StopIteration") → E (.ref e) { s with heap := h' }) :
    wpAny (model prog w) A (Builtin.SmallTypes.nextOf (.ref it)) Q E s := by
  have hit0 := hit
  obtain ⟨o, ho, hc, hd⟩ := hit0
  unfold Builtin.SmallTypes.nextOf
  refine wpAny_bind (wpAny_callSpecial?_slot (name := Str.ofString "__next__") hit.typeIs F.slot_str_iterator_next (wpAny_call_entry F.slot_str_iterator_next hit.typeIs F.entry_str_iterator_next ?_ (F.args_str_iterator_next_1 _)))
  show wpAny _ _ (field (.ref it) 0 >>= _) _ _ s
  refine wpAny_bind (wpAny_field ho hd (x := .str x t) rfl ?_)
  show wpAny _ _ (field (.ref it) 1 >>= _) _ _ s
  refine wpAny_bind (wpAny_field ho hd (x := .int i 0) rfl ?_)
  simp only [Int.toNat_natCast, hx]
  refine wpAny_bind (wpAny_rule (wpAny_bind (wpAny_setField ho hd (by simp) (wpAny_bind (wpAny_letGo ?_)))))
  have hal : ∃ o, (s.heap.update it (Obj.mapFields fun vs => vs.setIfInBounds 0 .none)).get? it = some o := ⟨_, Heap.get?_update_self _ ho (Obj.isFreed_of_fields (Obj.data_mapFields hd _))⟩
  show wpAny _ _ (newExc (.type "StopIteration") [] >>= _) _ _ _
  refine wpAny_bind ?_
  simp only [newExc, newTuple]
  refine wpAny_bind (wpAny_newObj_type ?_ (by size_fits))
  refine wpAny_bind (m := firstArgMember _ _) (wpAny_of_eq (a := Value.none) (by first | rfl | (simp only [firstArgMember]; rfl)) ?_)
  refine wpAny_newObj_type ?_ (by size_fits)
  simp only [raiseNew]
  refine wpAny_bind (wpAny_handled ?_)
  first | rw [show A.in1.handled = none from hh] | rw [hh]
  refine wpAny_bind (wpAny_pure (wpAny_throw ?_))
  refine hE _ _ (((Heap.SameBut.update ..).extBut.push _).push _) ?_ ⟨_, Heap.get?_push_size _ rfl, rfl⟩
  obtain ⟨o', ho'⟩ := hal
  exact ⟨o', Heap.get?_push_of_some _ (Heap.get?_push_of_some _ ho')⟩
theorem nextOf_ascii_end {it : Addr} {x : Str} {t : Tok} {i : Nat} {Q : Value → Shared → Prop} (hh : A.handled = none)
    (hit : s.heap.IsStrIter it "str_ascii_iterator" x t i) (hx : x.cps[i]? = none)
    (hE : ∀ h' e, Heap.ExtBut it s.heap h' → (∃ o, h'.get? it = some o) → (∃ o, h'.get? e = some o ∧ o.cls = .type "StopIteration") → E (.ref e) { s with heap := h' }) :
    wpAny (model prog w) A (Builtin.SmallTypes.nextOf (.ref it)) Q E s := by
  have hit0 := hit
  obtain ⟨o, ho, hc, hd⟩ := hit0
  unfold Builtin.SmallTypes.nextOf
  refine wpAny_bind (wpAny_callSpecial?_slot (name := Str.ofString "__next__") hit.typeIs F.slot_str_ascii_iterator_next (wpAny_call_entry F.slot_str_ascii_iterator_next hit.typeIs F.entry_str_ascii_iterator_next ?_ (F.args_str_ascii_iterator_next_1 _)))
  show wpAny _ _ (field (.ref it) 0 >>= _) _ _ s
  refine wpAny_bind (wpAny_field ho hd (x := .str x t) rfl ?_)
  show wpAny _ _ (field (.ref it) 1 >>= _) _ _ s
  refine wpAny_bind (wpAny_field ho hd (x := .int i 0) rfl ?_)
  simp only [Int.toNat_natCast, hx]
  refine wpAny_bind (wpAny_rule (wpAny_bind (wpAny_setField ho hd (by simp) (wpAny_bind (wpAny_letGo ?_)))))
  have hal : ∃ o, (s.heap.update it (Obj.mapFields fun vs => vs.setIfInBounds 0 .none)).get? it = some o := ⟨_, Heap.get?_update_self _ ho (Obj.isFreed_of_fields (Obj.data_mapFields hd _))⟩
  show wpAny _ _ (newExc (.type "StopIteration") [] >>= _) _ _ _
  refine wpAny_bind ?_
  simp only [newExc, newTuple]
  refine wpAny_bind (wpAny_newObj_type ?_ (by size_fits))
  refine wpAny_bind (m := firstArgMember _ _) (wpAny_of_eq (a := Value.none) (by first | rfl | (simp only [firstArgMember]; rfl)) ?_)
  refine wpAny_newObj_type ?_ (by size_fits)
  simp only [raiseNew]
  refine wpAny_bind (wpAny_handled ?_)
  first | rw [show A.in1.handled = none from hh] | rw [hh]
  refine wpAny_bind (wpAny_pure (wpAny_throw ?_))
  refine hE _ _ (((Heap.SameBut.update ..).extBut.push _).push _) ?_ ⟨_, Heap.get?_push_size _ rfl, rfl⟩
  obtain ⟨o', ho'⟩ := hal
  exact ⟨o', Heap.get?_push_of_some _ (Heap.get?_push_of_some _ ho')⟩
theorem enum_str_end {e it : Addr} {x : Str} {t : Tok} {i : Int} {old : Value} {Q : Option Value → Shared → Prop} (hh : A.handled = none)
    (he : IsEnum s.heap e it i old) (hit : s.heap.IsStrIter it (strIterType x) x t x.cps.size)
    (hQ : ∀ h', Heap.ExtBut it s.heap h' → (∃ o, h'.get? it = some o) → Q none { s with heap := h' }) : wpAny (model prog w) A (pyNext (.ref e)) Q E s := by
  have hT : s.TypeIs (.ref e) "enumerate" := ⟨_, he, rfl⟩
  unfold pyNext
  refine wpAny_bind (wpAny_attempt (wpAny_callSpecial?_slot (name := Str.ofString "__next__") hT F.slot_enumerate_next
    (wpAny_call_entry F.slot_enumerate_next hT F.entry_enumerate_next ?_ (F.args_enumerate_next_1 _))))
  show wpAny _ _ (field (.ref e) 2 >>= _) _ _ _
  refine wpAny_bind (wpAny_field he rfl (x := .ref it) rfl ?_)
  have key : wpAny (model prog w) A.in1 (Builtin.SmallTypes.nextOf (.ref it)) (fun _ _ => False) (fun v s' => ∃ h' e, v = .ref e ∧ s' = { s with heap := h' } ∧ Heap.ExtBut it s.heap h' ∧ (∃ o, h'.get? it = some o) ∧ (∃ o, h'.get? e = some o ∧ o.cls = .type "StopIteration")) s := by
    unfold strIterType at hit
    cases ha : x.cps.all (· < 128) <;> rw [ha] at hit
    · exact nextOf_wide_end hh hit (by simp) fun h' e a b c => ⟨h', e, rfl, rfl, a, b, c⟩
    · exact nextOf_ascii_end hh hit (by simp) fun h' e a b c => ⟨h', e, rfl, rfl, a, b, c⟩
  refine wpAny_bind (wpAny_mono key (fun _ _ x => x.elim) fun v s' hv => ?_)
  obtain ⟨h', e, rfl, rfl, ex, al, o, ho, hc⟩ := hv
  refine wpAny_bind (wpAny_isInstance (T := "StopIteration") (b := true) ⟨o, ho, hc⟩ isSubtype_stop ?_)
  exact wpAny_pure (hQ _ ex al)
end

structure GI (g : Heap) (us : Us) (x : Str) (t : Tok) (Lg e it : Addr) (i : Nat) (esc : Bool) (s₀ s : Shared) (m : Str → Option Value) (n : Nat) : Prop where
  st : Sta (hide s₀.heap [Lg, e, it]) s.heap Lg m [(e, enO it i), (it, siO x t i)] []
  kg : ∀ b o, g.get? b = some o → (hide s₀.heap [Lg, e, it]).get? b = some o
  sh : ∃ h t, s = { s₀ with heap := h, toks := t }
  us : ∃ pre, us = pre ++ unitsL i esc ((tl x).drop i)
  n : n = (unitsL i esc ((tl x).drop i)).length
  mp : ∃ u, m "pos" = some (.int ((i - 1 : Nat) : Int) u)
  me : m "escape" = some (.bool esc)

theorem GI.since {g : Heap} {us : Us} {x : Str} {t : Tok} {Lg e it : Addr} {i : Nat} {esc : Bool} {s₀ s : Shared} {m : Str → Option Value} {n : Nat} (I : GI g us x t Lg e it i esc s₀ s m n) : Since [Lg, e, it] s₀ s :=
  ⟨I.sh, fun b o hb q => I.st.keep b o (by rw [hide_get, if_neg hb]; exact q), I.st.alive⟩

theorem Sta.two {g h h' : Heap} {L e it : Addr} {m : Str → Option Value} {P P' R R' : Obj → Prop} (S : Sta g h L m [(e, P), (it, R)] [])
    (k : ∀ b o, b ≠ e → b ≠ it → h.get? b = some o → h'.get? b = some o) (he : Holds h' (e, P')) (hi : Holds h' (it, R')) : Sta g h' L m [(e, P'), (it, R')] [] := by
  have c1 := S.cell (e, P) (by simp)
  have c2 := S.cell (it, R) (by simp)
  refine ⟨S.ns.at fun o q => k L o c1.2.1.symm c2.2.1.symm q, fun b o q => k b o ?_ ?_ (S.keep b o q), S.gL, fun p hp => ?_, S.nd, fun p hp => nomatch hp⟩
  · rintro rfl; rw [c1.2.2] at q; cases q
  · rintro rfl; rw [c2.2.2] at q; cases q
  · simp only [List.mem_cons, List.not_mem_nil, or_false] at hp
    rcases hp with rfl | rfl
    · exact ⟨he, c1.2⟩
    · exact ⟨hi, c2.2⟩

section
variable {w : World} {B : Around} {g : Heap} {us : Us} {x : Str} {t : Tok} {Lg e it : Addr} {env : Env} {fs : List Frame}

theorem seg_loopG {xi xv : Str} {pi pv pt : Pos} {x1} {body : List Stmt}
    (hh : (B.over (.forLoop (.Tuple [.Name xi pi, .Name xv pv] x1 pt) (.ref e) body [] env) fs).handled = none)
    (hxi : env.kindOf xi = some .local) (hxv : env.kindOf xv = some .local)
    (hp : (env.scope.kind == .class || (env.scope.kind == .module && env.locals != env.globals)) = false) (hL : env.locals = Lg)
    (e1 : xi = "pos") (e2 : xv = "ch")
    (step : ∀ cl, (B.over cl fs).handled = none → ∀ i esc c u v m n s₀ s K' H' gd lv, x.cps[i]? = some c → gd false = false →
      Sta (hide s₀.heap [Lg, e, it]) s.heap Lg m [(e, enO it (i + 1)), (it, siO x t (i + 1))] [] → (∀ b o, g.get? b = some o → (hide s₀.heap [Lg, e, it]).get? b = some o) → (∃ h t, s = { s₀ with heap := h, toks := t }) →
      (∃ pre, us = pre ++ unitsL i esc (c :: (tl x).drop (i + 1))) → n = (unitsL i esc (c :: (tl x).drop (i + 1))).length → m "pos" = some (.int (i : Nat) u) → m "ch" = some (.str ⟨#[c]⟩ v) → m "escape" = some (.bool esc) →
      (∀ esc' s₀' s' m' n', GI g us x t Lg e it (i + 1) esc' s₀' s' m' n' → Seg (model prg w) B (RG [Lg, e, it]) (YG g [Lg, e, it] us) n' s₀' cl (K' .next) fs s') →
      Seg (model prg w) B (RG [Lg, e, it]) (YG g [Lg, e, it] us) n s₀ cl ((execs body env).wrap K' H' gd lv) fs s)
    (fin : ∀ cl, ∀ esc m n s₀ s, Sta (hide s₀.heap [Lg, e, it]) s.heap Lg m [(e, anyO), (it, anyO)] [] → (∀ b o, g.get? b = some o → (hide s₀.heap [Lg, e, it]).get? b = some o) → (∃ h t, s = { s₀ with heap := h, toks := t }) →
      (∃ pre, us = pre ++ unitsL x.cps.size esc []) → n = (unitsL x.cps.size esc []).length → (∃ u, m "pos" = some (.int ((x.cps.size - 1 : Nat) : Int) u)) → m "escape" = some (.bool esc) →
      Seg (model prg w) B (RG [Lg, e, it]) (YG g [Lg, e, it] us) n s₀ cl (.pure (.again (.block [] env))) fs s) :
    ∀ k i esc s₀ s m n, k = x.cps.size - i → i ≤ x.cps.size → GI g us x t Lg e it i esc s₀ s m n →
      Seg (model prg w) B (RG [Lg, e, it]) (YG g [Lg, e, it] us) n s₀ (.forLoop (.Tuple [.Name xi pi, .Name xv pv] x1 pt) (.ref e) body [] env) ((model prg w).den (.forLoop (.Tuple [.Name xi pi, .Name xv pv] x1 pt) (.ref e) body [] env)) fs s := by
  intro k
  have sizes : (tl x).length = x.cps.size := by simp
  induction k with
  | zero =>
    intro i esc s₀ s m n hk hi I
    have hin : i = x.cps.size := by walk_at "om"
    subst hin
    refine seg_forLoop (foldQ fun Q1 hQ1 => ?_)
    obtain ⟨oe, hoe, old, rfl⟩ := I.st.atC (d := e) (P := enO it x.cps.size) (by simp)
    refine enum_str_end hh hoe (I.st.atC (d := it) (P := siO x t x.cps.size) (by simp)) fun h' he' hal => ?_
    obtain ⟨h, tk, rfl⟩ := I.sh
    have nd := I.st.nd
    simp only [List.map_cons, List.map_nil, List.nodup_cons, List.mem_cons, List.not_mem_nil, or_false] at nd
    obtain ⟨oi, hoi⟩ := hal
    have S2 : Sta (hide s₀.heap [Lg, e, it]) h' Lg m [(e, anyO), (it, anyO)] [] :=
      I.st.two (fun b o _ x2 q => he' b o x2 q) ⟨_, he' _ _ nd.1 hoe, trivial⟩ ⟨oi, hoi, trivial⟩
    have hd : (tl x).drop x.cps.size = [] := List.drop_of_length_le (by walk_at "om")
    refine hQ1 _ _ ?_
    refine fin _ esc m n s₀ _ S2 I.kg ⟨h', tk, rfl⟩ ?_ ?_ I.mp I.me
    · have := I.us; rw [hd] at this; exact this
    · have := I.n; rw [hd] at this; exact this
  | succ k ih =>
    intro i esc s₀ s m n hk hi I
    have hlt : i < x.cps.size := by walk_at "om"
    refine seg_forLoop (foldQ fun Q1 hQ1 => ?_)
    obtain ⟨oe, hoe, old, rfl⟩ := I.st.atC (d := e) (P := enO it i) (by simp)
    have nd := I.st.nd
    simp only [List.map_cons, List.map_nil, List.nodup_cons, List.mem_cons, List.not_mem_nil, or_false] at nd
    obtain ⟨h, tk, rfl⟩ := I.sh
    have hst : h.IsStrIter it (strIterType x) x t i := I.st.atC (d := it) (P := siO x t i) (by simp)
    refine wpAny_pyNext_enum_itemD (drawsStr (A := Around.in1 _) hh it x t) hoe hst hlt nd.1 (fun q => nd.1 (List.mem_singleton.mp q)) fun v h' tk' hP he' hi' hT hz hk' => ?_
    obtain ⟨c, u, hc, rfl⟩ := hP
    refine hQ1 _ _ ?_
    clear hQ1
    refine wpAny_letOwnedTupleGo_enum he' fun h2 he2 hs2 => ?_
    have hit2 : h2.IsStrIter it (strIterType x) x t (i + 1) := hi'.extBut hs2.extBut (Ne.symm nd.1)
    have hel : e < h.objs.size := Heap.lt_size hoe
    have ht2 : h2.IsTuple h.objs.size #[.int i tk', .str ⟨#[c]⟩ u] := ⟨_, (hs2.2 _ (Nat.ne_of_gt hel)).trans hT, rfl, _, rfl⟩
    refine wpAny_assign_Tuple hh ht2 rfl rfl fun h3 hx3 => ?_
    have hx3 : Heap.ExtBut h2.objs.size h2 h3 := hx3
    have up : ∀ b o, h2.get? b = some o → h3.get? b = some o := fun b o q => hx3 b o (Nat.ne_of_lt (Heap.lt_size q)) q
    have S3 : Sta (hide s₀.heap [Lg, e, it]) h3 Lg m [(e, enO it (i + 1)), (it, siO x t (i + 1))] [] :=
      I.st.two (fun b o x1 x2 q => up _ _ (hs2.extBut b o x1 (hk' b o x1 x2 q))) ⟨_, up _ _ he2, _, by rfl⟩ (let ⟨o, a, b⟩ := hit2; ⟨o, up _ _ a, b⟩)
    show wpAny _ _ (do holding [(.str ⟨#[c]⟩ u : Value)] (assign (.Name xi pi) env (.int i tk')); do holding [] (assign (.Name xv pv) env (.str ⟨#[c]⟩ u)); pure ()) _ _ _
    refine wpAny_bind (wpAny_holding (wpAny_assign_Name (stv (s := { s₀ with heap := h3, toks := tk' + 1 }) S3 (fun h4 t4 S4 => ?_) hL hxi hp)))
    refine wpAny_bind (wpAny_holding (wpAny_assign_Name (stv (s := { s₀ with heap := h4, toks := t4 }) S4 (fun h5 t5 S5 => wpAny_pure ?_) hL hxv hp)))
    intro K' H' gd lv hK hgd
    have hdrop : (tl x).drop i = c :: (tl x).drop (i + 1) := by
      rw [List.drop_eq_getElem_cons (by walk_at "om")]
      congr 1
      have := (Array.getElem?_eq_some_iff.mp hc).2
      simpa using this
    subst e1 e2
    refine step _ hh i esc c tk' u _ n s₀ _ K' H' gd lv hc hgd S5 I.kg ⟨h5, t5, rfl⟩ ?_ ?_ (up_ne (by decide) up_eq) up_eq (up_ne (by decide) (up_ne (by decide) I.me)) fun esc' s₀' s' m' n' I' => by
      rw [hK]
      exact seg_again rfl (ih (i + 1) esc' s₀' s' m' n' (by walk_at "om") (by walk_at "om") I')
    · have := I.us; rw [hdrop] at this; exact this
    · have := I.n; rw [hdrop] at this; exact this
/-- what stands when a pair is given out -/
inductive YP (w : World) (B : Around) (g : Heap) (us : Us) (Lg e it : Addr) (s₀ : Shared) (n : Nat) (c : Code) (fs : List Frame) (kn : Sem Fin) (v : Value) (s' : Shared) : Prop
  | mk (T : Addr) (t1 t2 : Tok) (p : Nat) (u : List Nat) (pre post : Us) (Pe Pi : Obj → Prop) (m : Str → Option Value) (ev : v = .ref T) (eu : us = pre ++ (p, u) :: post) (el : post.length = n)
        (S : Sta (hide s₀.heap [Lg, e, it]) s'.heap Lg m [(T, tupl #[.int (p : Nat) t1, .str (mk u) t2]), (e, Pe), (it, Pi)] []) (es : ∃ h t, s' = { s₀ with heap := h, toks := t })
        (cont : ∀ s'' : Shared, (∀ b o, g.get? b = some o → (hide s''.heap [Lg, e, it]).get? b = some o) → Sta (hide s''.heap [Lg, e, it]) s''.heap Lg m [(e, Pe), (it, Pi)] [] →
          Seg (model prg w) B (RG [Lg, e, it]) (YG g [Lg, e, it] us) n s'' c kn fs s'')
theorem seg_yieldG {n : Nat} {c : Code} {K : Flow → Sem Fin} {H : Value → Sem Fin} {gd : Bool → Bool} {lv : List Value → List Value} {s₀ s : Shared} {ex : Expr} {ypos pos : Pos} (hfs : splitAtGen fs = none) (hgd : gd false = false) (hfg : fs.any Frame.guarded = false)
    (kg : ∀ b o, g.get? b = some o → (hide s₀.heap [Lg, e, it]).get? b = some o)
    (h : wpAny (model prg w) (B.over c fs) (eval ex env) (YP w B g us Lg e it s₀ n c fs (K .next)) (fun _ _ => False) s)
    (hco : env.scope.isCoroutine = false := by rfl) (hi : interactive env = false := by rfl) :
    Seg (model prg w) B (RG [Lg, e, it]) (YG g [Lg, e, it] us) (n + 1) s₀ c ((PySem.exec (.Expr (.Yield (some ex) ypos) pos) env).wrap K H gd lv) fs s := by
  refine seg_Expr_Yield hfs hgd hfg (wpAny_mono h (fun v s' hv kap hkap => ?_) fun _ _ x => x.elim) hco hi
  obtain ⟨T, t1, t2, p, u, pre, post, Pe, Pi, m, rfl, hus, hl, S, hs, cont⟩ := hv
  have nd := S.nd
  simp only [List.map_cons, List.map_nil, List.nodup_cons, List.mem_cons, List.not_mem_nil, or_false, not_or] at nd
  have cT := S.cell _ (.head _)
  have hTo : T ∉ [Lg, e, it] := by
    simp only [List.mem_cons, List.not_mem_nil, or_false, not_or]
    exact ⟨cT.2.1, nd.1.1, nd.1.2⟩
  refine ⟨⟨T, p, u, t1, t2, pre, post, rfl, hus, hl, cT.1, ?_, hTo⟩, ⟨hs, fun b o hb q => S.keep b o (by rw [hide_get, if_neg hb]; exact q), (S.drop .head).alive⟩, fun s'' k1 k2 => hkap .none s'' ?_⟩
  · have := cT.2.2
    rw [hide_get, if_neg hTo] at this
    exact this
  · refine cont s'' (fun b o q => ?_) ((S.drop .head).rebase k2)
    have := kg b o q
    rw [hide_get] at this ⊢
    split
    · rw [if_pos (by assumption)] at this; cases this
    · exact k1 b o q
end
end
section
open Sem (wp)
open Builtin Builtin.Str
section
variable {w : World} {A B : Around} {s : Shared} {Q E : Value → Shared → Prop} {g h h' : Heap} {L : Addr} {m : Str → Option Value} {cs fr : List Cl}
noncomputable def envG (L : Addr) : Env := envOf (stOf 6).1 (stOf 6).2.2.2 L 40 (.ref 39)

theorem stvB {L : Addr} {x : Str} {v : Value} {env : Env} {M : Model} {E : Value → Shared → Prop} {Q : Unit → Shared → Prop} (S : Sta g s.heap L m cs fr)
    (h : ∀ h' t, h'.objs.size = s.heap.objs.size → Sta g h' L (up m x v) cs fr → Q () { s with heap := h', toks := t })
    (hL : env.locals = L := by rfl) (hl : env.kindOf x = some .local := by rfl)
    (hp : (env.scope.kind == .class || (env.scope.kind == .module && env.locals != env.globals)) = false := by rfl) : wpAny M A (storeName env x v) Q E s := by
  subst hL
  exact wpAny_storeName_local hl S.ns (fun h' hn hs => h h' _ hs.1 (S.set hn hs)) hp

theorem startCells {s'' : Shared} {Lg : Addr} {h2 h3 : Heap} {m : Str → Option Value} {x : Str} {t : Tok} (S2 : Sta (hide s''.heap [Lg, h2.objs.size + 1, h2.objs.size]) h2 Lg m [] []) (hk3 : ∀ b o, h2.get? b = some o → h3.get? b = some o)
    (he : IsEnum h3 (h2.objs.size + 1) h2.objs.size 0 .none) (hi : h3.IsStrIter h2.objs.size (strIterType x) x t 0) :
    Sta (hide s''.heap [Lg, h2.objs.size + 1, h2.objs.size]) h3 Lg m [(h2.objs.size + 1, enO h2.objs.size 0), (h2.objs.size, siO x t 0)] [] := by
  have S2' := S2.ext hk3
  refine ⟨S2'.ns, S2'.keep, S2'.gL, fun p hp => ?_, by simp, fun _ h => (nomatch h)⟩
  simp only [List.mem_cons, List.not_mem_nil, or_false] at hp
  rcases hp with rfl | rfl
  · exact ⟨⟨_, he, _, rfl⟩, Nat.ne_of_gt (Nat.lt_succ_of_lt S2.ltL), by rw [hide_get, if_pos (by simp)]⟩
  · exact ⟨hi, Nat.ne_of_gt S2.ltL, by rw [hide_get, if_pos (by simp)]⟩

local macro_rules | `(tactic| walk_at "storeName") => `(tactic| with_plain (refine stvB (by with_reducible assumption) ?_; intro _ _ _ _))
theorem segStart (hB : B.handled = none) (x : Str) (t : Tok) (Lg : Addr) (s'' : Shared) (X : Lib w g) (hk : ∀ b o, g.get? b = some o → s''.heap.get? b = some o) (hg : g.get? Lg = none)
    (hn : s''.heap.Ns Lg (fun y => [(("addr" : Str), (.str x t : Value))].reverse.lookup y)) :
    Seg (model prg w) B (RG [Lg, s''.heap.objs.size + 1, s''.heap.objs.size]) (YG g [Lg, s''.heap.objs.size + 1, s''.heap.objs.size] (unitsL 0 false (tl x))) (unitsL 0 false (tl x)).length s''
      (.func (stOf 6).2.2.1 (envG Lg)) ((model prg w).den (.func (stOf 6).2.2.1 (envG Lg))) [] s'' := by
  refine seg_func ?_
  have hh : (B.over (.func (stOf 6).2.2.1 (envG Lg)) []).handled = none := hB
  have hlt : Lg < s''.heap.objs.size := hn.lt
  generalize hz : s''.heap.objs.size = z at hlt ⊢
  have S0 : Sta (hide s''.heap [Lg, z + 1, z]) s''.heap Lg (fun y => [(("addr" : Str), (.str x t : Value))].reverse.lookup y) [] [] := by
    refine ⟨hn, fun b o e => ?_, ?_, fun _ h => (nomatch h), List.nodup_nil, fun _ h => (nomatch h)⟩
    · rw [hide_get] at e
      split at e
      · cases e
      · exact e
    · rw [hide_get, if_pos (.head _)]
  have kg : ∀ b o, g.get? b = some o → (hide s''.heap [Lg, z + 1, z]).get? b = some o := by
    intro b o q
    have q' := hk b o q
    have := Heap.lt_size q'
    rw [hz] at this
    rw [hide_get, if_neg]
    · exact q'
    · simp only [List.mem_cons, List.not_mem_nil, or_false, not_or]
      refine ⟨?_, Nat.ne_of_lt (Nat.lt_succ_of_lt this), Nat.ne_of_lt this⟩
      rintro rfl
      rw [hg] at q; cases q
  have X1 : Lib w (hide s''.heap [Lg, z + 1, z]) := X.keeps kg
  refine seg_execs_cons (seg_stmt ?_)
  walk_at "W"
  rename_i h1 t1 z1 S1
  replace z1 : h1.objs.size = z := z1.trans hz
  clear S0 hn hk hz
  refine seg_execs_cons (seg_stmt ?_)
  walk_at "W"
  rename_i h2 t2 z2 S2
  replace z2 : h2.objs.size = z := z2.trans z1
  clear S1 z1
  refine seg_execs_cons (seg_For (fun _ => rfl) ?_)
  walk_at "W"
  clear X1
  subst z2
  refine call_enumerate_str fun h3 he hi hz3 hk3 => ?_
  dsimp only at he hi hz3 hk3 ⊢
  have S3 := startCells S2 hk3 he hi
  refine wpAny_pyIter_enum he ?_
  intro p k hk
  generalize h2.objs.size + 1 = e at *
  generalize h2.objs.size = it at *
  have I0 : GI g (unitsL 0 false (tl x)) x t Lg e it 0 false s'' { s'' with heap := h3, toks := t2 } _ (unitsL 0 false (tl x)).length := ⟨S3, kg, ⟨_, _, rfl⟩, ⟨[], rfl⟩, rfl, ⟨_, up_ne (by decide) up_eq⟩, up_eq⟩
  clear S3 he hi hk3 S2 hz3
  refine' seg_loopG ?zhh ?za ?zb ?zc ?zd ?ze1 ?ze2 ?zstep ?zfin x.cps.size 0 false s'' _ _ (unitsL 0 false (tl x)).length (Nat.sub_zero _).symm (Nat.zero_le _) I0
  case zhh => exact hB
  case za => rfl
  case zb => rfl
  case zc => rfl
  case zd => rfl
  case ze1 => rfl
  case ze2 => rfl
  case zstep =>
    intro cl hcl i esc c u v m n s₀ s K' H' gd lv hc hgd S kg' hsh hus hn hmp hmc hme IH
    clear I0 kg hk hlt hh
    obtain ⟨h, tk, rfl⟩ := hsh
    cases esc with
    | true =>
      refine seg_execs_cons (seg_If ?_)
      walk_at "W"
      obtain ⟨pre, hus⟩ := hus
      simp only [unitsL] at hus hn
      rw [List.length_cons] at hn
      subst hn
      refine seg_execs_cons (seg_yieldG rfl hgd rfl kg' ?_)
      walk_at "W"
      rename Sta _ _ _ _ _ _ => S1
      have e1 : Str.ofString "\\" ++ (⟨#[c]⟩ : Str) = mk [92, c] := by rw [← mk_tl (Str.ofString "\\" ++ (⟨#[c]⟩ : Str)), tl_app]; rfl
      rw [e1] at S1
      refine ⟨_, _, _, _, _, _, _, _, _, _, rfl, hus, rfl, S1, ⟨_, _, rfl⟩, fun s'' kg'' S'' => ?_⟩
      refine seg_execs_cons (seg_stmt ?_)
      walk_at "W"
      rename Sta _ _ _ (up _ _ _) _ _ => S2
      exact IH false s'' _ _ _ ⟨S2, kg'', ⟨_, _, rfl⟩, ⟨pre ++ [(i, [92, c])], by rw [hus]; simp⟩, rfl, ⟨_, up_ne (by decide) hmp⟩, up_eq⟩
    | false =>
      refine seg_execs_cons (seg_If ?_)
      walk_at "W"
      refine seg_execs_cons (seg_If ?_)
      by_cases h92 : c = 92
      · subst h92
        walk_at "W"
        simp only [unitsL, if_true] at hus hn
        refine seg_execs_cons (seg_stmt ?_)
        walk_at "W"
        rename Sta _ _ _ (up _ _ _) _ _ => S2
        exact IH true _ _ _ _ ⟨S2, kg', ⟨_, _, rfl⟩, hus, hn, ⟨_, up_ne (by decide) hmp⟩, up_eq⟩
      · walk_at "W"
        · exfalso
          rename_i hq
          have hq := congrArg (fun s : Str => s.cps) (beq_iff_eq.mp hq)
          have hq : (#[c] : Array Nat) = #[92] := hq
          simp at hq
          exact h92 hq
        · simp only [unitsL, if_neg h92] at hus hn
          obtain ⟨pre, hus⟩ := hus
          rw [List.length_cons] at hn
          subst hn
          refine seg_execs_cons (seg_yieldG rfl hgd rfl kg' ?_)
          walk_at "W"
          rename Sta _ _ _ _ _ _ => S1
          refine ⟨_, _, _, _, [c], _, _, _, _, _, rfl, hus, rfl, S1, ⟨_, _, rfl⟩, fun s'' kg'' S'' => ?_⟩
          exact IH false s'' _ _ _ ⟨S'', kg'', ⟨_, _, rfl⟩, ⟨pre ++ [(i, [c])], by rw [hus]; simp⟩, rfl, ⟨_, hmp⟩, hme⟩
  case zfin =>
    intro cl esc m n s₀ s S kg' hsh hus hn hmp hme
    clear I0 kg hlt hh
    obtain ⟨h, tk, rfl⟩ := hsh
    obtain ⟨up, hmp⟩ := hmp
    refine seg_blockNil _ ?_
    rw [hk]
    have done : ∀ (s₀ : Shared) (h : Heap) (tk : Nat) (Pe Pi : Obj → Prop) (m : Str → Option Value), Sta (hide s₀.heap [Lg, e, it]) h Lg m [(e, Pe), (it, Pi)] [] → Since [Lg, e, it] s₀ { s₀ with heap := h, toks := tk } :=
      fun s₀ h tk Pe Pi m S => ⟨⟨_, _, rfl⟩, fun b o hb q => S.keep b o (by rw [hide_get, if_neg hb]; exact q), S.alive⟩
    refine seg_execs_cons (seg_If ?_)
    cases esc with
    | true =>
      walk_at "W"
      simp only [unitsL] at hus hn
      obtain ⟨pre, hus⟩ := hus
      subst hn
      refine seg_execs_cons (seg_yieldG rfl rfl rfl kg' ?_)
      walk_at "W"
      rename Sta _ _ _ _ _ _ => S1
      have e1 : Str.ofString "\\" = mk [92] := by decide
      rw [e1] at S1
      refine ⟨_, _, _, _, _, _, [], _, _, _, rfl, hus, rfl, S1, ⟨_, _, rfl⟩, fun s'' kg'' S'' => ?_⟩
      exact seg_end (.ok (.ret .none)) ⟨rfl, rfl, done _ s''.heap s''.toks _ _ _ S''⟩
    | false =>
      walk_at "W"
      subst hn
      exact seg_end (.ok (.ret .none)) ⟨rfl, rfl, done _ _ _ _ _ _ S⟩
end
end
section
open Sem (wp)
section
variable {w : World} {A : Around} {s : Shared} {Q E : Value → Shared → Prop} {g h : Heap} {L a b : Addr} {m : Str → Option Value} {cs fr : List Cl}
theorem Sta.perm {cs' : List Cl} (S : Sta g h L m cs fr) (p : cs'.Perm cs) : Sta g h L m cs' fr :=
  ⟨S.ns, S.keep, S.gL, fun q hq => S.cell q (p.mem_iff.mp hq), (p.map _).nodup_iff.mpr S.nd, fun q hq => let f := S.frz q hq; ⟨f.1, f.2.1, f.2.2.1, fun x => f.2.2.2 ((p.map _).mem_iff.mp x)⟩⟩

theorem call_gen {a c i : Nat} {o : Obj} {pm doc : Value} {v : Value} (X : Lib w s.heap) (hroom : A.depth < recursionLimit) (ho : (heapF w.params).lookup a = some o)
    (hdat : o.data = .func (Calls.docDef (stOf i).1 (stOf i).2.1 (stOf i).2.2.1 (stOf i).2.2.2 pm (.ref c) doc)) (hc : codeIn (heapF w.params) (.ref c) (stOf i).1 = true)
    {binds : List (Str × Value)} (hbind : bindArgs (Calls.docDef (stOf i).1 (stOf i).2.1 (stOf i).2.2.1 (stOf i).2.2.2 pm (.ref c) doc) ⟨[v], []⟩ = pure binds)
    (hloc : ∀ x ∈ binds, (stOf i).2.2.2.names.lookup x.1 = some .local)
    (h : ∀ (h₁ : Heap) (t : Nat) (nm qn : Value), h₁.Ns s.heap.objs.size (fun x => binds.reverse.lookup x) → (∀ b o, s.heap.get? b = some o → h₁.get? b = some o) → h₁.objs.size = s.heap.objs.size + 1 →
      Q (.ref h₁.objs.size) { s with gens := s.gens.push (.fresh (.func (stOf i).2.2.1 (envOf (stOf i).1 (stOf i).2.2.2 s.heap.objs.size a (.ref c)))), toks := t, heap := h₁.push { cls := .type "generator", data := .fields #[.int s.gens.size 0, nm, qn] } })
    (hco : (stOf i).2.2.2.isCoroutine = false := by rfl) (hgen : (stOf i).2.2.2.isGenerator = true := by rfl) (hk : (stOf i).2.2.2.kind = .function := by rfl)
    (hcell : ∀ x ∈ (stOf i).2.2.2.names, x.2 ≠ .cell := by decide) :
    wpAny (model prg w) A (call (.ref a) [v]) Q E s := by
  refine wpAny_call (codeAny_call_generator hroom (X.K _ _ ho) hdat hco hgen rfl (codeRec_of X.K hc) ?_)
  rw [hbind]
  refine wpAny_pure (wpAny_newFunctionEnv hcell hloc (fun h₁ hns hsb => ⟨X.lim.fresh _ hsb, ?_⟩) hk)
  exact h h₁ _ _ _ hns (fun b o e => hsb.extBut b o (Nat.ne_of_lt (Heap.lt_size e)) (Heap.get?_push_of_some _ e)) (hsb.1.trans (Heap.size_push ..))

theorem iter_call {x : Str} {t : Tok} (S : Sta g s.heap L m cs fr) (X : Lib w g) (hroom : A.depth < recursionLimit) (hb : Bare s.gens)
    (h : ∀ a gi Lg h' t' G', Sta g h' L m (cs ++ (a, genO gi) :: exC h' [Lg]) fr → Bare G' → (∀ B : Around, B.handled = none → GenAt w B g gi [Lg] (unitsL 0 false (tl x)) (unitsL 0 false (tl x)).length h' G') → Q (.ref a) { s with heap := h', toks := t', gens := G' }) :
    wpAny (model prg w) A (call (.ref 40) [.str x t]) Q E s := by
  refine call_gen (a := 40) (c := 39) (i := 6) (doc := .none) (S.lib X) hroom rfl rfl rfl rfl (locs rfl) fun h₁ t' nm qn hns hk hz => ?_
  have S1 := S.ext hk
  have hLn : g.get? s.heap.objs.size = none := S.noG
  have hnoL : s.heap.get? s.heap.objs.size = none := by
    cases q : s.heap.get? s.heap.objs.size with
    | none => rfl
    | some o => exact absurd (Heap.lt_size q) (Nat.lt_irrefl _)
  obtain ⟨oL, hoL⟩ := Ns.atL hns
  have S2 : Sta g h₁ L m ((s.heap.objs.size, fun o => h₁.get? s.heap.objs.size = some o) :: cs) fr := S.new hk hnoL ⟨oL, hoL, hoL⟩
  have S3 := S2.push (o := { cls := .type "generator", data := .fields #[.int s.gens.size 0, nm, qn] }) (P := genO s.gens.size) rfl ⟨rfl, ⟨_, _, rfl⟩, rfl⟩
  have up : ∀ b o, h₁.get? b = some o → (h₁.push { cls := .type "generator", data := .fields #[.int s.gens.size 0, nm, qn] }).get? b = some o := fun b o e => Heap.get?_push_of_some _ e
  have S4 := S3.upd (cs' := (h₁.objs.size, genO s.gens.size) :: (s.heap.objs.size, fun o => (h₁.push { cls := .type "generator", data := .fields #[.int s.gens.size 0, nm, qn] }).get? s.heap.objs.size = some o) :: cs) (.tail .head) (Heap.ExtBut.refl _ _) ⟨oL, up _ _ hoL, up _ _ hoL⟩
  refine h _ s.gens.size s.heap.objs.size _ _ _ (S4.perm ?_) (hb.push rfl) fun B hB => ?_
  · exact List.perm_append_comm (l₁ := cs) (l₂ := [(h₁.objs.size, genO s.gens.size), (s.heap.objs.size, fun o => (h₁.push { cls := .type "generator", data := .fields #[.int s.gens.size 0, nm, qn] }).get? s.heap.objs.size = some o)])
  · refine ⟨_, Array.getElem?_push_size .., rfl, fun s'' k1 k2 => ⟨[s.heap.objs.size, s''.heap.objs.size + 1, s''.heap.objs.size], ?_, ?_, rfl, ?_⟩⟩
    · have hns2 : s''.heap.Ns s.heap.objs.size _ := hns.at fun o e => k2 _ (.head _) o (up _ _ e)
      have := hns2.lt
      simp only [List.nodup_cons, List.mem_cons, List.not_mem_nil, or_false, not_or, not_false_eq_true, List.nodup_nil, and_true]
      refine ⟨⟨Nat.ne_of_lt (Nat.lt_succ_of_lt this), Nat.ne_of_lt this⟩, Nat.succ_ne_self _⟩
    · intro b hb
      have big : ∀ b, s''.heap.objs.size ≤ b → s''.heap.get? b = none := fun b hb => by
        cases q : s''.heap.get? b with
        | none => rfl
        | some o => exact absurd (Heap.lt_size q) (Nat.not_lt.mpr hb)
      simp only [List.mem_cons, List.not_mem_nil, or_false] at hb
      rcases hb with rfl | rfl | rfl
      · exact .inl (.head _)
      · exact .inr (big _ (Nat.le_succ _))
      · exact .inr (big _ (Nat.le_refl _))
    · exact segStart hB x t s.heap.objs.size s'' X k1 hLn (hns.at fun o e => k2 _ (.head _) o (up _ _ e))
end
end
section
open Sem (wp)
section
variable {w : World} {A : Around} {s : Shared} {E : Value → Shared → Prop} {g h H : Heap} {L a : Addr} {gi : Nat} {own : List Addr} {m : Str → Option Value} {cs fr : List Cl} {env : Env} {us : Us}

theorem letGo_gen {elts : List Expr} {x1} {pos : Pos} {T : Addr} {Q : Unit → Shared → Prop} (hit : s.heap.IsGen a gi) (hQ : Q () s) {M : Model} :
    wpAny M A (letOwnedTupleGo (.Tuple elts x1 pos) (.ref a) (.ref T)) Q E s := by
  obtain ⟨o, nm, qn, ho, hc, hd, _⟩ := hit
  unfold letOwnedTupleGo
  refine wpAny_bind (wpAny_load ho ?_)
  rw [hc, hd]
  show wpAny _ A (if (["enumerate", "zip", "dict_itemiterator", "dict_reverseitemiterator", "odict_iterator", "itertools.zip_longest", "itertools.pairwise"].contains "generator" &&
      (#[.int gi 0, nm, qn] : Array Value)[0]? == some (rawInt T)) = true then _ else _) Q E s
  rw [if_neg (by
    intro h
    rw [show (["enumerate", "zip", "dict_itemiterator", "dict_reverseitemiterator", "odict_iterator", "itertools.zip_longest", "itertools.pairwise"].contains "generator") = false from by decide, Bool.false_and] at h
    cases h)]
  exact wpAny_pure hQ

inductive TurnGN (d : Drawn) (o : OsState) (G : Array GenState) (g : Heap) (L : Addr) (tail fr : List Cl) (P : (Str → Option Value) → List Cl → Prop) (s' : Shared) : Prop
  | mk (h : Heap) (t : Nat) (m : Str → Option Value) (cs : List Cl) (e : s' = ⟨h, G, d, t, o⟩) (S : Sta g h L m (cs ++ tail) fr) (p : P m cs)
inductive ForGI (d : Drawn) (o : OsState) (w : World) (B : Around) (g : Heap) (L a : Addr) (gi : Nat) (us : Us) (fr : List Cl) (P : Nat → (Str → Option Value) → List Cl → Prop) (k : Nat) (s' : Shared) : Prop
  | mk (pre suf : Us) (h : Heap) (t : Nat) (m : Str → Option Value) (cs : List Cl) (H : Heap) (own : List Addr) (G : Array GenState) (eu : us = pre ++ suf) (ek : k = suf.length) (e : s' = ⟨h, G, d, t, o⟩) (b : Bare G) (S : Sta g h L m (cs ++ (a, genO gi) :: exC H own) fr) (ga : GenAt w B g gi own us suf.length H G) (p : P pre.length m cs)
/-- what a turn over the generator leaves -/
noncomputable def TurnG (s : Shared) (G : Array GenState) (g : Heap) (L : Addr) (tail fr : List Cl) (P : (Str → Option Value) → List Cl → Prop) (Q : Flow → Shared → Prop) (f : Flow) (s' : Shared) : Prop := match f with
  | .next => TurnGN s.drawn s.os G g L tail fr P s'
  | .cont => False
  | .brk => False
  | .ret v => Q (.ret v) s'

theorem Holds.isT {h : Heap} {a : Addr} {vs : Array Value} (x : Holds h (a, tupl vs)) : h.IsTuple a vs := x

theorem for_gen {xi xv : Str} {pi pv pt : Pos} {x1} {body : List Stmt} {Q : Flow → Shared → Prop} (P : Nat → (Str → Option Value) → List Cl → Prop) (hh : A.handled = none) (hroom : A.depth < recursionLimit) (X : Lib w g)
    (S : Sta g s.heap L m (cs ++ (a, genO gi) :: exC H own) fr) (HG : GenAt w A.in1 g gi own us us.length H s.gens) (hb : Bare s.gens) (h0 : P 0 m cs)
    (step : ∀ i p u t1 t2 m' cs' h' t' G' tail, us[i]? = some (p, u) → P i m' cs' → Sta g h' L (up (up m' xi (.int (p : Nat) t1)) xv (.str (mk u) t2)) (cs' ++ tail) fr → Bare G' →
      wpAny (model prg w) A (execs body env) (TurnG s G' g L tail fr (P (i + 1)) Q) (fun _ _ => False) { s with heap := h', toks := t', gens := G' })
    (fin : ∀ m' cs' h' t' G', P us.length m' cs' → Sta g h' L m' cs' fr → Bare G' → Q .next { s with heap := h', toks := t', gens := G' })
    (hL : env.locals = L) (hxi : env.kindOf xi = some .local) (hxv : env.kindOf xv = some .local) (hp : (env.scope.kind == .class || (env.scope.kind == .module && env.locals != env.globals)) = false) :
    wpAny (model prg w) A (pyIter (.ref a)) (fun it s₂ => codeAny (model prg w) A (.forLoop (.Tuple [.Name xi pi, .Name xv pv] x1 pt) it body [] env) (fun r s' => match r with | .ok f => Q f s' | .error e => cameBackBy (model prg w) A env E e s') s₂) E s := by
  refine wpAny_pyIter_gen (S.atC (P := genO gi) (List.mem_append_right _ (.head _))).isGen ?_
  refine codeAny_forLoop_any (ForGI s.drawn s.os w A.in1 g L a gi us fr P) ?_ us.length
    ⟨[], us, s.heap, s.toks, m, cs, H, own, s.gens, rfl, rfl, rfl, hb, S, HG, h0⟩
  rintro k s' ⟨pre, suf, h, t, m, cs, H, own, G, hus, rfl, rfl, hb, S, HG, hP⟩
  cases suf with
  | nil =>
    refine gen_end (s := { s with heap := h, toks := t, gens := G }) hh X hroom S HG hb fun h' t' G' S' hb' => wpAny_execs_nil (fin m cs h' t' G' ?_ S' hb')
    rw [List.append_nil] at hus
    rw [hus]; exact hP
  | cons pu suf =>
    obtain ⟨p, u⟩ := pu
    refine gen_item (s := { s with heap := h, toks := t, gens := G }) hh X hroom S hus HG hb fun T t1 t2 h1 t1' G1 own1 S1 HG1 hb1 => ?_
    refine letGo_gen (S1.atC (d := a) (P := genO gi) (.tail _ (List.mem_append_right _ (.head _)))).isGen ?_
    refine wpAny_assign_Tuple hh (S1.atC (d := T) (.head _)).isT rfl rfl fun h2 hx2 => ?_
    replace hx2 : Heap.ExtBut h1.objs.size h1 h2 := hx2
    have S2 := (S1.ext fun b o q => hx2 b o (Nat.ne_of_lt (Heap.lt_size q)) q).drop .head
    show wpAny _ A (do holding [(.str (mk u) t2 : Value)] (assign (.Name xi pi) env (.int p t1)); do holding [] (assign (.Name xv pv) env (.str (mk u) t2)); pure ()) _ _ _
    refine wpAny_bind (wpAny_holding (wpAny_assign_Name (stv (s := { s with heap := h2, toks := t1', gens := G1 }) S2 (fun h3 t3 S3 => ?_) hL hxi hp)))
    refine wpAny_bind (wpAny_holding (wpAny_assign_Name (stv (s := { s with heap := h3, toks := t3, gens := G1 }) S3 (fun h4 t4 S4 => wpAny_pure ?_) hL hxv hp)))
    have hget : us[pre.length]? = some (p, u) := by rw [hus, List.getElem?_append_right (Nat.le_refl _), Nat.sub_self]; rfl
    refine wpAny_mono (step pre.length p u t1 t2 m cs h4 t4 G1 _ hget hP S4 hb1) (fun f s5 h5 => ?_) fun _ _ x => x.elim
    cases f with
    | next =>
      obtain ⟨h6, t6, m6, cs6, rfl, S6, hP6⟩ := h5
      exact ⟨suf.length, Nat.lt_succ_self _, pre ++ [(p, u)], suf, h6, t6, m6, cs6, h1, own1, G1, by rw [hus]; simp, rfl, rfl, hb1, S6, HG1, by rw [List.length_append]; exact hP6⟩
    | cont => exact h5.elim
    | brk => exact h5.elim
    | ret v => exact h5

/-- a frozen pair -/
noncomputable def IsP (fr : List Cl) (x : Nat × List Nat) (v : Value) : Prop := ∃ T t1 t2, v = .ref T ∧ (T, tupl #[.int (x.1 : Nat) t1, .str (mk x.2) t2]) ∈ fr
theorem IsP.mono {fr fr' : List Cl} (h : ∀ p ∈ fr, p ∈ fr') {x : Nat × List Nat} {v : Value} : IsP fr x v → IsP fr' x v := fun ⟨T, t1, t2, e, m⟩ => ⟨T, t1, t2, e, h _ m⟩
inductive All2 {α β : Type} (R : α → β → Prop) : List α → List β → Prop
  | nil : All2 R [] []
  | cons {a b l l'} : R a b → All2 R l l' → All2 R (a :: l) (b :: l')
theorem All2.mono {α β : Type} {R R' : α → β → Prop} (h : ∀ a b, R a b → R' a b) {l : List α} {l' : List β} (x : All2 R l l') : All2 R' l l' := by
  induction x with
  | nil => exact .nil
  | cons a _ ih => exact .cons (h _ _ a) ih
theorem All2.append {α β : Type} {R : α → β → Prop} {l r : List α} {l' r' : List β} (x : All2 R l l') (y : All2 R r r') : All2 R (l ++ r) (l' ++ r') := by
  induction x with
  | nil => exact y
  | cons a _ ih => exact .cons a ih
theorem All2.len {α β : Type} {R : α → β → Prop} {l : List α} {l' : List β} (x : All2 R l l') : l.length = l'.length := by
  induction x with
  | nil => rfl
  | cons a _ ih => simp [ih]
theorem All2.get {α β : Type} {R : α → β → Prop} {l : List α} {l' : List β} (x : All2 R l l') : ∀ (i : Nat) (b : β), l'[i]? = some b → ∃ a, l[i]? = some a ∧ R a b := by
  induction x with
  | nil => intro i b h; simp at h
  | cons a _ ih =>
    intro i b h
    cases i with
    | zero => simp at h; subst h; exact ⟨_, rfl, a⟩
    | succ i => exact ih i b h
theorem All2.getL {α β : Type} {R : α → β → Prop} {l : List α} {l' : List β} (x : All2 R l l') : ∀ (i : Nat) (a : α), l[i]? = some a → ∃ b, l'[i]? = some b ∧ R a b := by
  induction x with
  | nil => intro i b h; simp at h
  | cons a _ ih =>
    intro i b h
    cases i with
    | zero => simp at h; subst h; exact ⟨_, rfl, a⟩
    | succ i => exact ih i b h

inductive LgI (d : Drawn) (o : OsState) (w : World) (B : Around) (g : Heap) (L a : Addr) (gi : Nat) (us : Us) (m : Str → Option Value) (cs fr : List Cl) (D k : Nat) (acc : Array Value) (s' : Shared) : Prop
  | mk (pre suf : Us) (fr1 : List Cl) (H : Heap) (own : List Addr) (h : Heap) (t : Nat) (G : Array GenState) (eu : us = pre ++ suf) (ek : k = suf.length) (e : s' = ⟨h, G, d, t, o⟩) (b : Bare G) (S : Sta g h L m ((D, lstX acc) :: (cs ++ (a, genO gi) :: exC H own)) (fr1 ++ fr)) (ga : GenAt w B g gi own us suf.length H G) (p : All2 (IsP fr1) pre acc.toList)
inductive LgE (d : Drawn) (o : OsState) (g : Heap) (L : Addr) (us : Us) (m : Str → Option Value) (cs fr : List Cl) (D : Nat) (acc : Array Value) (s' : Shared) : Prop
  | mk (fr1 : List Cl) (h : Heap) (t : Nat) (G : Array GenState) (e : s' = ⟨h, G, d, t, o⟩) (b : Bare G) (S : Sta g h L m ((D, lstX acc) :: cs) (fr1 ++ fr)) (p : All2 (IsP fr1) us acc.toList)
theorem list_gen {Q : Value → Shared → Prop} (hh : A.handled = none) (hroom : A.depth < recursionLimit) (X : Lib w g)
    (S : Sta g s.heap L m (cs ++ (a, genO gi) :: exC H own) fr) (HG : GenAt w A.in1.in1.in1 g gi own us us.length H s.gens) (hb : Bare s.gens) (hn : us.length ≤ 100000)
    (h : ∀ D vs fr1 h' t' G', All2 (IsP fr1) us vs → Sta g h' L m ((D, lst vs.toArray) :: cs) (fr1 ++ fr) → Bare G' → Q (.ref D) { s with heap := h', toks := t', gens := G' }) :
    wpAny (model prg w) A (call (.type "list") [.ref a]) Q E s := by
  refine list_call (T := "generator") (n := us.length) S (fun D acc h' S' => ?_) (fun D acc h' S' => ?_) (by decide) (by decide) F.gen_no_len F.gen_no_hint (fun D h' Q E S' hQ => ?_)
    (LgI s.drawn s.os w A.in1.in1.in1 g L a gi us m cs fr)
    (LgE s.drawn s.os g L us m cs fr)
    (fun D h' S' => ⟨[], us, [], H, own, h', s.toks, s.gens, rfl, rfl, rfl, hb, S', HG, .nil⟩) (fun D k acc s' hJ => ?_) (fun D k acc s' Q E hJ hQ => ?_) (fun D acc s' Q E hJ hQ => ?_) (fun D acc s' hF => ?_)
  · obtain ⟨o, ho, hc, _⟩ := S'.atC (d := a) (P := genO gi) (.tail _ (List.mem_append_right _ (.head _)))
    exact ⟨_, ho, hc⟩
  · have := S'.nd
    rw [List.map_cons, List.nodup_cons] at this
    rintro rfl
    exact this.1 (List.mem_map.mpr ⟨(D, genO gi), List.mem_append_right _ (.head _), rfl⟩)
  · exact wpAny_pyIter_gen (S'.atC (d := a) (P := genO gi) (.tail _ (List.mem_append_right _ (.head _)))).isGen hQ
  · obtain ⟨pre, suf, fr1, H, own, h1, t1, G, hus, hk, rfl, hb, S1, HG, hA⟩ := hJ
    refine ⟨S1.atC (.head _), ?_⟩
    have e1 := hA.len
    have e2 := congrArg List.length hus
    rw [List.length_append] at e2
    rw [← Array.length_toList]
    walk_at "om"
  · obtain ⟨pre, suf, fr1, H, own, h1, t1, G, hus, hk, rfl, hb, S1, HG, hA⟩ := hJ
    cases suf with
    | nil => simp at hk
    | cons pu suf =>
      obtain ⟨p, u⟩ := pu
      refine gen_item (cs := (D, lstX acc) :: cs) (s := { s with heap := h1, toks := t1, gens := G }) hh X hroom S1 hus HG hb fun T t2 t3 h2 t2' G2 own2 S2 HG2 hb2 => ?_
      have S3 := S2.freeze .head
      refine hQ _ _ (S3.atC (.head _)) fun h3 hs3 hH3 => ⟨pre ++ [(p, u)], suf, (T, tupl #[.int p t2, .str (mk u) t3]) :: fr1, h2, own2, h3, t2', G2, by rw [hus]; simp, by simpa using hk, rfl, hb2, S3.upd .head hs3.extBut hH3, HG2, ?_⟩
      rw [Array.toList_push]
      exact (hA.mono fun _ _ => IsP.mono fun _ => .tail _).append (.cons ⟨T, t2, t3, rfl, .head _⟩ .nil)
  · obtain ⟨pre, suf, fr1, H, own, h1, t1, G, hus, hk, rfl, hb, S1, HG, hA⟩ := hJ
    have : suf = [] := List.length_eq_zero_iff.mp hk.symm
    subst this
    refine gen_end (cs := (D, lstX acc) :: cs) (s := { s with heap := h1, toks := t1, gens := G }) hh X hroom S1 HG hb fun h2 t2 G2 S2 hb2 => ?_
    rw [List.append_nil] at hus
    exact hQ _ ⟨fr1, h2, t2, G2, rfl, hb2, S2, hus ▸ hA⟩
  · obtain ⟨fr1, h1, t1, G, rfl, hb, S1, hA⟩ := hF
    exact h D acc.toList fr1 h1 t1 G hA (S1.upd .head (P' := lst acc.toList.toArray) (Heap.ExtBut.refl _ _) (S1.atC (.head _)).ofX) hb
end
end
section
open Builtin Builtin.Str
theorem idx_nil (a b len : Nat) (h : b ≤ a) (ha : a ≤ len) : strSliceIndices (some (a : Int)) (some (b : Int)) 1 len = [] := by
  have h1 : ¬ ((a : Int) < 0) := by walk_at "om"
  have h2 : ¬ ((b : Int) < 0) := by walk_at "om"
  have e1 : max (0 : Int) (min (a : Int) (len : Int)) = a := by walk_at "om"
  have e2 : max (0 : Int) (min (b : Int) (len : Int)) = b := by walk_at "om"
  have hlt : ¬ ((a : Int) < b) := by walk_at "om"
  simp only [strSliceIndices, sliceRange, h1, h2, if_false, e1, e2, show ((1 : Int) > 0) = True from by simp, if_true, hlt]
  simp
theorem slice_nat (x : Str) (a b : Nat) (ha : a ≤ x.length) (hb : b ≤ x.length) : Txt.slice x (some (a : Int)) (some (b : Int)) = mk (((tl x).take b).drop a) := by
  by_cases h : a ≤ b
  · show StrLaws.sliceText x _ _ = _
    rw [StrLaws.sliceText_nat x h hb, List.drop_take]
    rfl
  · have hl : ((tl x).take b).drop a = [] := List.drop_of_length_le (Nat.le_trans (List.length_take_le _ _) (Nat.le_of_lt (Nat.lt_of_not_le h)))
    rw [hl]
    unfold Txt.slice
    rw [idx_nil _ _ _ (Nat.le_of_lt (Nat.lt_of_not_le h)) ha]
    rw [if_neg]
    · rfl
    · intro e
      have e : 0 = x.length := by simpa using e
      walk_at "om"
theorem slice_from (x : Str) (a : Nat) (ha : a ≤ x.length) : Txt.slice x (some (a : Int)) none = mk ((tl x).drop a) := by
  have : Txt.slice x (some (a : Int)) none = Txt.slice x (some (a : Int)) (some ((x.length : Nat) : Int)) := by
    unfold Txt.slice
    rw [StrLaws.sliceIdx_none_hi]
  rw [this, slice_nat x a _ ha (Nat.le_refl _), List.take_of_length_le (by rw [tl_len]; exact Nat.le_refl _)]
theorem slice_to (x : Str) (b : Nat) (hb : b ≤ x.length) : Txt.slice x none (some (b : Int)) = mk ((tl x).take b) := by
  have : Txt.slice x none (some (b : Int)) = Txt.slice x (some ((0 : Nat) : Int)) (some (b : Int)) := by
    unfold Txt.slice
    rw [StrLaws.sliceIdx_none_lo]; rfl
  rw [this, slice_nat x 0 b (Nat.zero_le _) hb, List.drop_zero]

section
variable {prog : Program} {w : World} {A : Around} {E : Value → Shared → Prop} {s : Shared} {g : Heap} {L : Addr} {m : Str → Option Value} {cs fr : List Cl} {x : Str} {t : Tok} {value slice : Expr} {Q : Value → Shared → Prop}
theorem ldnS {M : Model} {env : Env} {y : Str} {v : Value} (S : Sta g s.heap L m cs fr) (hv : m y = some v) (h : Q v s)
    (hL : env.locals = L := by rfl) (hk : env.scope.kind = .function := by rfl) (hl : env.kindOf y = some .local := by rfl) :
    wpAny M A (loadName env y) Q E s := wpAny_loadName_local hk hl (hL.symm ▸ S.ns) hv h
theorem itS {k : Int} {u : Tok} (h0 : 0 ≤ k) (hk : k < x.length) (hl : x.length ≤ 1000000) (h : Q (.str (mk [((tl x)[k.toNat]?).getD 0]) s.toks) { s with toks := s.toks + 1 })
    (hs : subscripted slice false (.str x t) (.int k u) = operate [.str x t, .int k u] (getItem (.str x t) (.int k u)))
    (ht : ∀ r, letTemporaryGo value (.str x t) r = pure ()) : wpAny (model prog w) A (subscriptTail value slice (.str x t) (.int k u)) Q E s := by
  refine item_str (by simp only [fitsSsize]; simp; walk_at "om") (by walk_at "om") hk (fun _ => ?_) hs ht
  have hlt : k.toNat < x.cps.size := by
    have : x.length = x.cps.size := rfl
    walk_at "om"
  have e : x.cps[k.toNat]? = some x.cps[k.toNat] := Array.getElem?_eq_getElem hlt
  rw [item_meets h0 e]
  have e2 : (tl x)[k.toNat]? = some x.cps[k.toNat] := by
    show x.cps.toList[k.toNat]? = _
    rw [Array.getElem?_toList, e]
  rw [e2] at h
  exact h
theorem keptS : KeptH (fun h => Sta g h L m cs fr) := fun _ ob S => S.ext fun _ _ e => Heap.get?_push_of_some ob e
theorem slSS {a b : Nat} {ui uj : Tok} (ha : a ≤ x.length) (hb : b ≤ x.length) (hI : Sta g s.heap L m cs fr) (h : ∀ h' t' k, Sta g h' L m cs fr → Q (.str (mk (((tl x).take b).drop a)) t') { s with heap := h', toks := k })
    (hsz : x.length ≤ sizeLine) (hs : subscripted slice false (.str x t) (.ref s.heap.objs.size) = operate [.ref s.heap.objs.size, .str x t] (getItem (.str x t) (.ref s.heap.objs.size)))
    (ht : ∀ r, letTemporaryGo value (.str x t) r = pure ()) :
    wpAny (model prog w) A (subscriptTail value slice (.str x t) (.ref s.heap.objs.size)) Q E { s with heap := s.heap.push { cls := .type "slice", data := .fields #[.int (a : Nat) ui, .int (b : Nat) uj, .none] } } :=
  tail_of_ItemOn (SBH.sliceItem_ss keptS hI (fun h' t' k S => by rw [slice_nat x a b ha hb]; exact h h' t' k S) hsz) hs ht
theorem slSN {a : Nat} {ui : Tok} (ha : a ≤ x.length) (hI : Sta g s.heap L m cs fr) (h : ∀ h' t' k, Sta g h' L m cs fr → Q (.str (mk ((tl x).drop a)) t') { s with heap := h', toks := k })
    (hsz : x.length ≤ sizeLine) (hs : subscripted slice false (.str x t) (.ref s.heap.objs.size) = operate [.ref s.heap.objs.size, .str x t] (getItem (.str x t) (.ref s.heap.objs.size)))
    (ht : ∀ r, letTemporaryGo value (.str x t) r = pure ()) :
    wpAny (model prog w) A (subscriptTail value slice (.str x t) (.ref s.heap.objs.size)) Q E { s with heap := s.heap.push { cls := .type "slice", data := .fields #[.int (a : Nat) ui, .none, .none] } } :=
  tail_of_ItemOn (SBH.sliceItem_sn keptS hI (fun h' t' k S => by rw [slice_from x a ha]; exact h h' t' k S) hsz) hs ht
theorem slNS {b : Nat} {uj : Tok} (hb : b ≤ x.length) (hI : Sta g s.heap L m cs fr) (h : ∀ h' t' k, Sta g h' L m cs fr → Q (.str (mk ((tl x).take b)) t') { s with heap := h', toks := k })
    (hsz : x.length ≤ sizeLine) (hs : subscripted slice false (.str x t) (.ref s.heap.objs.size) = operate [.ref s.heap.objs.size, .str x t] (getItem (.str x t) (.ref s.heap.objs.size)))
    (ht : ∀ r, letTemporaryGo value (.str x t) r = pure ()) :
    wpAny (model prog w) A (subscriptTail value slice (.str x t) (.ref s.heap.objs.size)) Q E { s with heap := s.heap.push { cls := .type "slice", data := .fields #[.none, .int (b : Nat) uj, .none] } } :=
  tail_of_ItemOn (SBH.sliceItem_ns keptS hI (fun h' t' k S => by rw [slice_to x b hb]; exact h h' t' k S) hsz) hs ht
end
end
local macro_rules | `(tactic| walk_at "subscriptTail") => `(tactic| ((with_reducible show wpAny _ _ (subscriptTail _ (Expr.Slice (some _) (some _) none _) (Value.str _ _) (Value.ref _)) _ _ _); (refine slSS (s := ⟨_, _, _, _, _⟩) (by walk_at "om") (by walk_at "om") (by walk_at "a") ?_ (by walk_at "fit") (by walk_at "u") (by walk_at "v")); intro _ _ _ _))
local macro_rules | `(tactic| walk_at "subscriptTail") => `(tactic| ((with_reducible show wpAny _ _ (subscriptTail _ (Expr.Slice (some _) none none _) (Value.str _ _) (Value.ref _)) _ _ _); (refine slSN (s := ⟨_, _, _, _, _⟩) (by walk_at "om") (by walk_at "a") ?_ (by walk_at "fit") (by walk_at "u") (by walk_at "v")); intro _ _ _ _))
local macro_rules | `(tactic| walk_at "subscriptTail") => `(tactic| ((with_reducible show wpAny _ _ (subscriptTail _ (Expr.Slice none (some _) none _) (Value.str _ _) (Value.ref _)) _ _ _); (refine slNS (s := ⟨_, _, _, _, _⟩) (by walk_at "om") (by walk_at "a") ?_ (by walk_at "fit") (by walk_at "u") (by walk_at "v")); intro _ _ _ _))
local macro_rules | `(tactic| walk_at "loadName") => `(tactic| with_plain (refine ldnS (by walk_at "a") (by walk_at "lk") ?_))
section
open Builtin Builtin.Str
section
variable {w : World} {A : Around} {s : Shared} {Q E : Value → Shared → Prop} {v : Value}
noncomputable def envS (L : Addr) : Env := envOf (stOf 7).1 (stOf 7).2.2.2 L 47 (.ref 46)
theorem enter_strip (X : Lib w s.heap) (hroom : A.depth < recursionLimit)
    (h : ∀ L h₁ t, Sta s.heap h₁ L (fun x => [(("addr" : Str), v)].reverse.lookup x) [] [] →
      wpAny (model prg w) (A.deeper (envS L)) (execs (stOf 7).2.2.1 (envS L))
        (fun f s' => Q (match f with | .ret v => v | _ => .none) s') (fun _ _ => False) { s with heap := h₁, toks := t }) :
    wpAny (model prg w) A (call (.ref 47) [v]) Q E s :=
  enter (a := 47) (c := 46) (i := 7) (doc := .none) X hroom rfl rfl rfl rfl (locs rfl) h

noncomputable def qStep (l : List Nat) (st : Nat × Option Nat × List (List Nat)) (x : Nat × List Nat) : Nat × Option Nat × List (List Nat) :=
  if x.2 = [34] then match st.2.1 with
    | none => (st.1, some x.1, st.2.2)
    | some o => (x.1 + 1, none, if st.1 = o then st.2.2 else st.2.2 ++ [(l.take o).drop st.1])
  else st
noncomputable def qRun (l : List Nat) (us : Us) : Nat × Option Nat × List (List Nat) := us.foldl (qStep l) (0, none, [])
/-- what _strip_quoted_realnames answers -/
noncomputable def stripL (l : List Nat) : List Nat := if 34 ∈ l then
    let r := qRun l (unitsL 0 false l)
    (r.2.2 ++ if r.1 < l.length then [l.drop r.1] else []).flatten
  else l
theorem stripL_pos {l : List Nat} (h : 34 ∈ l) (h2 : (qRun l (unitsL 0 false l)).1 < l.length) : stripL l = ((qRun l (unitsL 0 false l)).2.2 ++ [l.drop (qRun l (unitsL 0 false l)).1]).flatten := by
  rw [stripL, if_pos h]
  dsimp only
  rw [if_pos h2]
theorem stripL_neg {l : List Nat} (h : 34 ∈ l) (h2 : ¬ (qRun l (unitsL 0 false l)).1 < l.length) : stripL l = (qRun l (unitsL 0 false l)).2.2.flatten := by
  rw [stripL, if_pos h]
  dsimp only
  rw [if_neg h2, List.append_nil]
theorem qRun_snoc (l : List Nat) (us : Us) (i : Nat) (x : Nat × List Nat) (h : us[i]? = some x) : qRun l (us.take (i + 1)) = qStep l (qRun l (us.take i)) x := by
  unfold qRun
  rw [List.take_add_one, h, Option.toList_some, List.foldl_append]; rfl
noncomputable def oV : Option Nat → Value → Prop
  | none, v => v = .none
  | some o, v => ∃ u, v = .int (o : Nat) u
theorem units_pos : ∀ (r : List Nat) (i : Nat) (esc : Bool) (p : Nat) (u : List Nat), (esc = true → 1 ≤ i) → (p, u) ∈ unitsL i esc r → p < i + r.length
  | [], i, false, p, u, _, h => by simp [unitsL] at h
  | [], i, true, p, u, he, h => by
    simp [unitsL] at h
    have := he rfl
    walk_at "om"
  | c :: r, i, true, p, u, _, h => by
    simp only [unitsL, List.mem_cons] at h
    rw [List.length_cons]
    rcases h with h | h
    · cases h; walk_at "om"
    · have := units_pos r (i + 1) false p u (fun h => by cases h) h
      walk_at "om"
  | c :: r, i, false, p, u, _, h => by
    simp only [unitsL] at h
    rw [List.length_cons]
    split at h
    · have := units_pos r (i + 1) true p u (fun _ => by walk_at "om") h
      walk_at "om"
    · rcases List.mem_cons.mp h with h | h
      · cases h; walk_at "om"
      · have := units_pos r (i + 1) false p u (fun h => by cases h) h
        walk_at "om"

theorem units_len : ∀ (r : List Nat) (i : Nat) (esc : Bool), (unitsL i esc r).length ≤ r.length + (if esc then 1 else 0)
  | [], i, false => by simp [unitsL]
  | [], i, true => by simp [unitsL]
  | c :: r, i, true => by
    have := units_len r (i + 1) false
    simp only [unitsL, List.length_cons] at *
    simp at this ⊢
    walk_at "om"
  | c :: r, i, false => by
    simp only [unitsL]
    split
    · have := units_len r (i + 1) true
      simp at this ⊢
      walk_at "om"
    · have := units_len r (i + 1) false
      simp at this ⊢
      walk_at "om"
theorem join_all {prog : Program} {D : Addr} {t : Tok} {li : List (Str × Tok)} {g : Heap} {L : Addr} {m : Str → Option Value} {cs fr : List Cl} (S : Sta g s.heap L m ((D, lst (strValues li).toArray) :: cs) fr) (hn : li.length ≤ 1000) (hl : ∀ p ∈ li, p.1.length ≤ 900)
    (h : ∀ t' k, Sta g s.heap L m ((D, lst (strValues li).toArray) :: cs) fr → Q (.str (mk (li.map (fun p => tl p.1)).flatten) t') { s with toks := k }) :
    wpAny (model prog w) A (call (.builtin "str.join") [.str (Str.ofString "") t, .ref D]) Q E s := by
  refine joinS S (S.atC (.head _)).isL ?_ fun t' k S7 => ?_
  · show _ + _ * 0 ≤ _
    have hsum : ∀ (a : List (Str × Tok)), (∀ p ∈ a, p.1.length ≤ 900) → (a.map (·.1.length)).sum ≤ 900 * a.length := by
      intro a
      induction a with
      | nil => intro _; simp
      | cons p a ih =>
        intro hp
        have h1 := hp p (by simp)
        have h2 := ih fun q hq => hp q (by simp [hq])
        simp only [List.map_cons, List.sum_cons, List.length_cons]
        walk_at "om"
    have := hsum li hl
    walk_at "om"
  · have e : Txt.join (Str.ofString "") (li.map (·.1)) = mk (li.map (fun p => tl p.1)).flatten := by
      rw [← mk_tl (Txt.join _ _), txjoin_is]
      have e0 : tl (Str.ofString "") = [] := rfl
      rw [e0, joinL_nil, List.map_map]; rfl
    rw [e]
    exact h t' k S7

inductive StripP (x : Str) (t : Tok) (D : Addr) (st : Nat × Option Nat × List (List Nat)) (i : Nat) (m : Str → Option Value) (cs : List Cl) : Prop
  | mk (m1 : m "addr" = some (.str x t)) (u : Tok) (m2 : m "start" = some (.int (st.1 : Nat) u)) (v : Value) (m3 : m "open_pos" = some v) (hv : oV st.2.1 v) (m5 : m "result" = some (.ref D)) (b1 : st.1 ≤ x.length) (b2 : ∀ o, st.2.1 = some o → o < x.length)
    (li : List (Str × Tok)) (hli : li.map (fun p => tl p.1) = st.2.2) (hlen : li.length ≤ i) (hall : ∀ p ∈ li, p.1.length ≤ x.length) (ec : cs = [(D, lst (strValues li).toArray)])
theorem strip_call {x : Str} {t : Tok} (X : Lib w s.heap) (hh : A.handled = none) (hroom : A.depth + 2 < recursionLimit) (hb : Bare s.gens) (hx : x.length ≤ 900)
    (h : ∀ h' u t' G', (∀ b o, s.heap.get? b = some o → h'.get? b = some o) → Bare G' → Q (.str (mk (stripL (tl x))) u) { s with heap := h', toks := t', gens := G' }) :
    wpAny (model prg w) A (call (.ref 47) [.str x t]) Q E s := by
  refine enter_strip X (by walk_at "om") fun L h₁ t0 S => ?_
  walk_at "W"
  · rename_i hq
    have hm : 34 ∉ tl x := by
      have := StrLaws.found_one x 34
      rw [show (⟨#[34]⟩ : Str) = Str.ofString "\"" from by decide, hq] at this
      simpa using this
    have e : mk (stripL (tl x)) = x := by rw [stripL, if_neg hm, mk_tl]
    have := h h₁ t (t0 + 1) s.gens S.keep hb
    rw [e] at this
    exact this
  · rename_i hq
    have hm : 34 ∈ tl x := by
      have := StrLaws.found_one x 34
      rw [show (⟨#[34]⟩ : Str) = Str.ofString "\"" from by decide, hq] at this
      simpa using this
    walk_at "W"
    rename_i D _ _ h2 t2 S2
    have hdep : (A.deeper (envS L)).depth = A.depth + 1 := rfl
    refine iter_call S2 X (by walk_at "om") hb fun a gi Lg h3 t3 G3 S3 hb3 HG => ?_
    refine for_gen (fun i => StripP x t D (qRun (tl x) ((unitsL 0 false (tl x)).take i)) i)
      hh (by walk_at "om") X S3 (HG _ hh) hb3 ⟨by walk_at "lk", _, by walk_at "lk", _, by walk_at "lk", rfl, by walk_at "lk", by simp [qRun], by simp [qRun], [], rfl, by simp, by simp, rfl⟩ ?_ ?_ rfl rfl rfl rfl
    · intro i p u t4 t5 m4 cs4 h4 t4' G4 tail hget hP S4 hb4
      refine foldQ fun Q1 hQ1 => ?_
      rw [qRun_snoc _ _ _ _ hget] at hQ1
      obtain ⟨m1, u1, m2, v, m3, hv, m5, b1, b2, li, hli, hlen, hall, rfl⟩ := hP
      generalize qRun (tl x) ((unitsL 0 false (tl x)).take i) = st at *
      obtain ⟨sta, op, res⟩ := st
      dsimp only at *
      simp only [List.cons_append, List.nil_append] at S4
      have hp : p < x.length := by
        have := units_pos (tl x) 0 false p u (fun h => by cases h) (List.mem_of_getElem? hget)
        rw [tl_len]; walk_at "om"
      have hsz : (strValues li).toArray.size ≤ 100000 := by
        rw [strV_size]
        have e1 := (List.getElem?_eq_some_iff.mp hget).1
        have e2 : _ ≤ (tl x).length + 0 := units_len (tl x) 0 false
        have e3 := tl_len x
        walk_at "om"
      clear S3 S2 HG hb3
      by_cases hu : u = [34]
      · subst hu
        cases op with
        | none =>
          have hv : v = .none := hv
          subst hv
          have e : qStep (tl x) (sta, none, res) (p, [34]) = (sta, some p, res) := by simp [qStep]
          rw [e] at hQ1
          refine wpAny_execs_cons (ifT S4 (by walk_at "lk") rfl ?_)
          walk_at "W"
          rename Sta _ _ _ _ _ _ => S5
          refine hQ1 _ _ ⟨_, _, _, [(D, lst (strValues li).toArray)], rfl, S5, by walk_at "lk", _, by walk_at "lk", _, by walk_at "lk", ⟨_, rfl⟩, by walk_at "lk", b1, fun o ho => ?_, li, hli, by walk_at "om", hall, rfl⟩
          cases ho; exact hp
        | some o =>
          obtain ⟨uo, rfl⟩ := hv
          have ho := b2 o rfl
          refine wpAny_execs_cons (ifT S4 (by walk_at "lk") rfl ?_)
          walk_at "W"
          · rename Sta _ _ _ (up (up (up _ _ _) _ _) _ _) _ _ => S6
            have e : qStep (tl x) (sta, some o, res) (p, [34]) = (p + 1, none, res ++ [((tl x).take o).drop sta]) := by
              have : ¬ sta = o := by walk_at "om"
              simp [qStep, this]
            rw [e] at hQ1
            have el : ∀ tq, (strValues li).toArray.push (.str (mk (((tl x).take o).drop sta)) tq) = (strValues (li ++ [(mk (((tl x).take o).drop sta), tq)])).toArray := by intro tq; simp [strValues]
            rw [el] at S6
            refine hQ1 _ _ ⟨_, _, _, [(D, lst (strValues (li ++ [(mk (((tl x).take o).drop sta), _)])).toArray)], rfl, S6, by walk_at "lk", _, by walk_at "lk", _, by walk_at "lk", rfl, by walk_at "lk", by walk_at "om", fun o h => (nomatch h), _, ?_, ?_, ?_, rfl⟩
            · rw [List.map_append, hli]; simp [tl_mk]
            · rw [List.length_append, List.length_singleton]; walk_at "om"
            · intro q hq
              rcases List.mem_append.mp hq with hq | hq
              · exact hall q hq
              · rw [List.mem_singleton.mp hq]
                show (mk _).length ≤ _
                rw [mk_len, List.length_drop, List.length_take]
                have := tl_len x
                walk_at "om"
          · have e : qStep (tl x) (sta, some o, res) (p, [34]) = (p + 1, none, res) := by
              have : sta = o := by walk_at "om"
              simp [qStep, this]
            walk_at "W"
            rename Sta _ _ _ (up _ _ _) _ _ => S5
            rw [e] at hQ1
            refine hQ1 _ _ ⟨_, _, _, [(D, lst (strValues li).toArray)], rfl, S5, by walk_at "lk", _, by walk_at "lk", _, by walk_at "lk", rfl, by walk_at "lk", by walk_at "om", fun o h => (nomatch h), li, hli, by walk_at "om", hall, rfl⟩
      · have e : qStep (tl x) (sta, op, res) (p, u) = (sta, op, res) := by simp [qStep, hu]
        rw [e] at hQ1
        refine wpAny_execs_cons (ifF S4 (by walk_at "lk") (beqF hu) ?_)
        walk_at "W"
        exact hQ1 _ _ ⟨_, _, _, [(D, lst (strValues li).toArray)], rfl, S4, by walk_at "lk", _, by walk_at "lk", _, by walk_at "lk", hv, by walk_at "lk", b1, b2, li, hli, by walk_at "om", hall, rfl⟩
    · intro m5 cs5 h5 t5 G5 hP S5 hb5
      rw [List.take_length] at hP
      obtain ⟨m1, u1, m2, v, m3, hv, m5, b1, b2, li, hli, hlen, hall, rfl⟩ := hP
      have hlx := tl_len x
      have hsz : (strValues li).toArray.size ≤ 100000 := by
        rw [strV_size]
        have e2 : _ ≤ (tl x).length + 0 := units_len (tl x) 0 false
        walk_at "om"
      clear S2 S3 HG
      dsimp only
      walk_at "W"
      · rename Sta _ _ _ _ [(D, lst (Array.push _ _))] _ => S6
        have el : ∀ tq, (strValues li).toArray.push (.str (mk ((tl x).drop (qRun (tl x) (unitsL 0 false (tl x))).1)) tq) = (strValues (li ++ [(mk ((tl x).drop (qRun (tl x) (unitsL 0 false (tl x))).1), tq)])).toArray := by intro tq; simp [strValues]
        rw [el] at S6
        have hlt : (qRun (tl x) (unitsL 0 false (tl x))).1 < (tl x).length := by walk_at "om"
        refine join_all S6 ?_ ?_ fun t' k S7 => ?_
        · rw [List.length_append, List.length_singleton]
          rw [strV_size] at hsz
          have e2 : _ ≤ (tl x).length + 0 := units_len (tl x) 0 false
          walk_at "om"
        · intro q hq
          rcases List.mem_append.mp hq with hq | hq
          · exact Nat.le_trans (hall q hq) hx
          · rw [List.mem_singleton.mp hq]
            show (mk _).length ≤ _
            rw [mk_len, List.length_drop]
            walk_at "om"
        · have e : ∀ tq, mk ((li ++ [(mk ((tl x).drop (qRun (tl x) (unitsL 0 false (tl x))).1), tq)]).map (fun p : Str × Tok => tl p.1)).flatten = mk (stripL (tl x)) := by
            intro tq
            rw [stripL_pos hm hlt, List.map_append, hli]
            simp [tl_mk]
          show Q (Value.str _ _) _
          rw [e]
          exact h _ t' k G5 S7.keep hb5
      · walk_at "W"
        have hlt : ¬ (qRun (tl x) (unitsL 0 false (tl x))).1 < (tl x).length := by walk_at "om"
        refine join_all S5 ?_ (fun q hq => Nat.le_trans (hall q hq) hx) fun t' k S7 => ?_
        · have e2 : _ ≤ (tl x).length + 0 := units_len (tl x) 0 false
          walk_at "om"
        · have e : mk (stripL (tl x)) = mk (li.map (fun p => tl p.1)).flatten := by
            rw [stripL_neg hm hlt, hli]
          have := h _ t' k G5 S7.keep hb5
          rw [e] at this
          exact this
end
end
section
open Builtin Builtin.Str
section
variable {w : World} {A : Around} {s : Shared} {Q E : Value → Shared → Prop} {v : Value}
noncomputable def envC (L : Addr) : Env := envOf (stOf 8).1 (stOf 8).2.2.2 L 54 (.ref 53)
theorem enter_check (X : Lib w s.heap) (hroom : A.depth < recursionLimit)
    (h : ∀ L h₁ t, Sta s.heap h₁ L (fun x => [(("addr" : Str), v)].reverse.lookup x) [] [] →
      wpAny (model prg w) (A.deeper (envC L)) (execs (stOf 8).2.2.1 (envC L))
        (fun f s' => Q (match f with | .ret v => v | _ => .none) s') (fun _ _ => False) { s with heap := h₁, toks := t }) :
    wpAny (model prg w) A (call (.ref 54) [v]) Q E s :=
  enter (a := 54) (c := 53) (i := 8) (doc := .none) X hroom rfl rfl rfl rfl (locs rfl) h

noncomputable def chk : Int → List (List Nat) → Bool
  | n, [] => n == 0
  | n, u :: r => if u = [40] then chk (n + 1) r else if u = [41] then (if n - 1 < 0 then false else chk (n - 1) r) else chk n r
/-- what _check_parenthesis answers -/
noncomputable def checkL (l : List Nat) : Bool := chk 0 ((unitsL 0 false (stripL l)).map (·.2))
theorem stripL_len (l : List Nat) : (stripL l).length ≤ 900 → (stripL l).length ≤ 900 := id

inductive ChkP (us : Us) (i : Nat) (m : Str → Option Value) (cs : List Cl) : Prop
  | mk (n : Int) (u : Tok) (m1 : m "opens" = some (.int n u)) (n0 : 0 ≤ n) (n1 : n ≤ i) (hc : chk 0 (us.map (·.2)) = chk n ((us.drop i).map (·.2))) (ec : cs = [])
theorem check_call {x : Str} {t : Tok} (X : Lib w s.heap) (hh : A.handled = none) (hroom : A.depth + 3 < recursionLimit) (hb : Bare s.gens) (hx : x.length ≤ 900) (hx2 : (stripL (tl x)).length ≤ 900)
    (h : ∀ h' t' G', (∀ b o, s.heap.get? b = some o → h'.get? b = some o) → Bare G' → Q (.bool (checkL (tl x))) { s with heap := h', toks := t', gens := G' }) :
    wpAny (model prg w) A (call (.ref 54) [.str x t]) Q E s := by
  refine enter_check X (by walk_at "om") fun L h₁ t0 S => ?_
  have hdep : (A.deeper (envC L)).depth = A.depth + 1 := rfl
  walk_at "W"
  refine strip_call (s := { s with heap := h₁, toks := t0 }) (S.lib X) hh (by walk_at "om") hb hx fun h2 u2 t2 G2 k2 hb2 => ?_
  have S2 := S.ext k2
  walk_at "W"
  rename Sta _ _ _ (up (up _ _ _) _ _) _ _ => S3
  refine iter_call S3 X (by walk_at "om") hb2 fun a gi Lg h3 t3 G3 S4 hb3 HG => ?_
  rw [tl_mk] at HG
  generalize hus : unitsL 0 false (stripL (tl x)) = us at *
  have hlen : us.length ≤ 900 := by
    have e2 : _ ≤ (stripL (tl x)).length + 0 := units_len (stripL (tl x)) 0 false
    rw [hus] at e2
    walk_at "om"
  have hck : checkL (tl x) = chk 0 (us.map (·.2)) := by rw [checkL, hus]
  refine for_gen (ChkP us)
      hh (by walk_at "om") X S4 (HG _ hh) hb3 ⟨0, _, by walk_at "lk", by walk_at "om", by walk_at "om", by simp, rfl⟩ ?_ ?_ rfl rfl rfl rfl
  · intro i p u t4 t5 m4 cs4 h4 t4' G4 tail hget hP S5 hb4
    refine foldQ fun Q1 hQ1 => ?_
    obtain ⟨n, u1, m1, n0, n1, hc, rfl⟩ := hP
    have hi := (List.getElem?_eq_some_iff.mp hget).1
    have hdrop : us.drop i = (p, u) :: us.drop (i + 1) := by
      rw [List.drop_eq_getElem_cons hi, (List.getElem?_eq_some_iff.mp hget).2]
    rw [hdrop, List.map_cons] at hc
    simp only [chk] at hc
    simp only [List.nil_append] at S5
    clear S4 S3 S2 HG hb3
    by_cases h40 : u = [40]
    · subst h40
      rw [if_pos rfl] at hc
      refine wpAny_execs_cons (ifT S5 (by walk_at "lk") rfl ?_)
      walk_at "W"
      rename Sta _ _ _ (up _ _ _) _ _ => S6
      exact hQ1 _ _ ⟨_, _, _, [], rfl, S6, n + 1, _, by walk_at "lk", by walk_at "om", by walk_at "om", hc, rfl⟩
    · rw [if_neg h40] at hc
      refine wpAny_execs_cons (ifF S5 (by walk_at "lk") (beqF h40) ?_)
      by_cases h41 : u = [41]
      · subst h41
        rw [if_pos rfl] at hc
        refine wpAny_execs_cons (ifT (s := { s with heap := _, toks := _, gens := _ }) S5 (by walk_at "lk") rfl ?_)
        walk_at "W"
        · have hn : n - 1 < 0 := by assumption
          rw [if_pos hn, ← hck] at hc
          rename Sta _ _ _ (up (up (up _ _ _) _ _) _ _) _ _ => S6
          refine hQ1 (.ret _) _ ?_
          show Q (Value.bool false) _
          rw [← hc]
          exact h _ _ _ S6.keep hb4
        · walk_at "W"
          have hn : ¬ n - 1 < 0 := by assumption
          rw [if_neg hn] at hc
          rename Sta _ _ _ (up (up (up _ _ _) _ _) _ _) _ _ => S6
          exact hQ1 _ _ ⟨_, _, _, [], rfl, S6, n - 1, _, by walk_at "lk", by walk_at "om", by walk_at "om", hc, rfl⟩
      · rw [if_neg h41] at hc
        refine wpAny_execs_cons (ifF (s := { s with heap := _, toks := _, gens := _ }) S5 (by walk_at "lk") (beqF h41) ?_)
        walk_at "W"
        exact hQ1 _ _ ⟨_, _, _, [], rfl, S5, n, _, by walk_at "lk", by walk_at "om", by walk_at "om", hc, rfl⟩
  · intro m5 cs5 h5 t5 G5 hP S5 hb5
    obtain ⟨n, u1, m1, n0, n1, hc, rfl⟩ := hP
    clear S4 S3 S2 HG hb3
    dsimp only
    walk_at "W"
    rw [List.drop_length] at hc
    have e : checkL (tl x) = (n == 0) := by rw [hck, hc]; rfl
    have := h h5 (t5 + 1) G5 S5.keep hb5
    rw [e] at this
    exact this
end
end
section
open Builtin Builtin.Str
section
variable {prog : Program} {w : World} {A : Around} {E : Value → Shared → Prop} {s : Shared} {g : Heap} {L : Addr} {m : Str → Option Value} {cs cs' fr : List Cl} {env : Env}
theorem nextStr {it : Addr} {x : Str} {t : Tok} {i c : Nat} {Q : Option Value → Shared → Prop} (hit : s.heap.IsStrIter it (strIterType x) x t i) (hx : x.cps[i]? = some c)
    (hQ : ∀ h' u k, h'.IsStrIter it (strIterType x) x t (i + 1) → Heap.SameBut it s.heap h' → Q (some (.str ⟨#[c]⟩ u)) { s with heap := h', toks := k }) :
    wpAny (model prog w) A (pyNext (.ref it)) Q E s := by
  unfold strIterType at *
  cases ha : x.cps.all (· < 128) <;> rw [ha] at hit hQ
  · exact wpAny_pyNext_wide_item hit hx fun h' a b => hQ h' _ _ a b
  · exact wpAny_pyNext_ascii_item hit hx fun h' a b => hQ h' _ _ a b
theorem doneStr {it : Addr} {x : Str} {t : Tok} {i : Nat} {Q : Option Value → Shared → Prop} (hh : A.handled = none) (hit : s.heap.IsStrIter it (strIterType x) x t i) (hx : x.cps[i]? = none)
    (hQ : ∀ h', Heap.ExtBut it s.heap h' → Q none { s with heap := h' }) : wpAny (model prog w) A (pyNext (.ref it)) Q E s := by
  unfold strIterType at *
  cases ha : x.cps.all (· < 128) <;> rw [ha] at hit
  · exact wpAny_pyNext_wide_end hh hit hx hQ
  · exact wpAny_pyNext_ascii_end hh hit hx hQ

theorem for_str {y : Str} {px : Pos} {body : List Stmt} {x : Str} {t : Tok} {Q : Flow → Shared → Prop} (P : Nat → (Str → Option Value) → List Cl → List Cl → Prop) (hh : A.handled = none)
    (S : Sta g s.heap L m cs fr) (h0 : P 0 m cs fr)
    (step : ∀ i c u it m' cs' fr' h' t', (tl x)[i]? = some c → P i m' cs' fr' → Sta g h' L (up m' y (.str (mk [c]) u)) ((it, siO x t (i + 1)) :: cs') fr' →
      wpAny (model prog w) A (execs body env) (Turn s g L it (siO x t (i + 1)) (P (i + 1)) Q) (fun _ _ => False) { s with heap := h', toks := t' })
    (fin : ∀ m' cs' fr' h' t', P (tl x).length m' cs' fr' → Sta g h' L m' cs' fr' → Q .next { s with heap := h', toks := t' })
    (hL : env.locals = L) (hl : env.kindOf y = some .local) (hp : (env.scope.kind == .class || (env.scope.kind == .module && env.locals != env.globals)) = false) :
    wpAny (model prog w) A (pyIter (.str x t)) (fun it s₂ => codeAny (model prog w) A (.forLoop (.Name y px) it body [] env) (fun r s' => match r with | .ok f => Q f s' | .error e => cameBackBy (model prog w) A env E e s') s₂) E s := by
  refine wpAny_pyIter_strU ?_
  have hsz : (tl x).length = x.cps.size := by simp
  have hget : ∀ i : Nat, (tl x)[i]? = x.cps[i]? := fun i => by show x.cps.toList[i]? = _; rw [Array.getElem?_toList]
  refine for_it (s := { s with heap := s.heap.push { cls := .type (strIterType x), data := .fields #[.str x t, .int 0 0] } }) (siO x t) (fun i v => ∃ c u, (tl x)[i]? = some c ∧ v = .str (mk [c]) u) (tl x).length P (fun i m cs fr s' Q E hi S1 hP hQ => ?_) (fun m cs fr s' Q E S1 hP hQ => ?_)
    (S.push (o := { cls := .type (strIterType x), data := .fields #[.str x t, .int 0 0] }) rfl ⟨rfl, rfl⟩) h0 (fun i v m' cs' fr' h' t' _ hV hP S2 => ?_) (fun m' cs' fr' h' t' hP S2 => fin m' cs' fr' h' t' hP S2) hL hl hp
  · have hi' : i < x.cps.size := by walk_at "om"
    have e := Array.getElem?_eq_getElem hi'
    exact nextStr (S1.atC (d := _) (P := siO x t i) (.head _)) e fun h' u k hit hs => hQ _ h' k ⟨_, u, (hget i).trans e, rfl⟩ (S1.upd .head hs.extBut hit)
  · refine doneStr hh (S1.atC (d := _) (P := siO x t _) (.head _)) (by rw [hsz]; simp) fun h' he => ?_
    exact hQ h' s'.toks (S1.lose .head he)
  · obtain ⟨c, u, hc, rfl⟩ := hV
    exact step i c u _ m' cs' fr' h' t' hc hP S2
end
end
section
open Builtin Builtin.Str
section
variable {w : World} {A : Around} {s : Shared} {Q E : Value → Shared → Prop} {v : Value}
noncomputable def envP (L : Addr) : Env := envOf (stOf 10).1 (stOf 10).2.2.2 L 61 (.ref 60)
theorem enter_path (X : Lib w s.heap) (hroom : A.depth < recursionLimit)
    (h : ∀ L h₁ t, Sta s.heap h₁ L (fun x => [(("cells" : Str), v)].reverse.lookup x) [] [] →
      wpAny (model prg w) (A.deeper (envP L)) (execs (stOf 10).2.2.1 (envP L))
        (fun f s' => Q (match f with | .ret v => v | _ => .none) s') (fun _ _ => False) { s with heap := h₁, toks := t }) :
    wpAny (model prg w) A (call (.ref 61) [v]) Q E s :=
  enter (a := 61) (c := 60) (i := 10) (doc := .none) X hroom rfl rfl rfl rfl (locs rfl) h

/-- the sign or signs that a cell adds -/
noncomputable def otherL (c : Int) : Nat := ((tl (Str.ofString "a/',@.-?+[]{}^$|&~# "))[((c.fdiv 8).fmod 20).toNat]?).getD 0
noncomputable def signL (c : Int) : List Nat := match (c.fmod 8).toNat with
  | 0 => [42] | 1 => [34] | 2 => [42] | 3 => [34] | 4 => [40] | 5 => [92, 41] | 6 => [92, 92] | _ => [otherL c]
noncomputable def pathL (ks : List Int) : List Nat := (ks.map signL).flatten
theorem signL_len (c : Int) : (signL c).length ≤ 2 := by
  unfold signL
  split <;> simp
theorem app_sign {p sg : List Nat} {y : Str} (h : tl y = sg) : mk p ++ y = mk (p ++ sg) := by
  rw [← mk_tl (mk p ++ y), tl_app, tl_mk, h]
noncomputable abbrev IsI (c : Int) (v : Value) : Prop := ∃ u, v = .int c u
theorem git8 {value slice : Expr} {D : Addr} {c : Int} {t t0 t1 t2 t3 t4 t5 t6 t7 : Tok} (H : s.heap.IsList D [.str (Str.ofString "*") t0, .str (Str.ofString "\"") t1, .str (Str.ofString "*") t2, .str (Str.ofString "\"") t3, .str (Str.ofString "(") t4, .str (Str.ofString "\\)") t5, .str (Str.ofString "\\\\") t6, .str (mk [otherL c]) t7].toArray)
    (h : ∀ y ty, tl y = signL c → y.length ≤ 2 → Q (.str y ty) s) (hs : subscripted slice false (.ref D) (.int (c.fmod 8) t) = operate [.ref D, .int (c.fmod 8) t] (getItem (.ref D) (.int (c.fmod 8) t))) :
    wpAny (model prg w) A (subscriptTail value slice (.ref D) (.int (c.fmod 8) t)) Q E s := by
  have f3 : 0 ≤ c.fmod 8 := Int.fmod_nonneg_of_pos _ (by decide)
  have f4 : c.fmod 8 < 8 := Int.fmod_lt_of_pos _ (by decide)
  have hk : (c.fmod 8).toNat = 0 ∨ (c.fmod 8).toNat = 1 ∨ (c.fmod 8).toNat = 2 ∨ (c.fmod 8).toNat = 3 ∨ (c.fmod 8).toNat = 4 ∨ (c.fmod 8).toNat = 5 ∨ (c.fmod 8).toNat = 6 ∨ (c.fmod 8).toNat = 7 := by walk_at "om"
  have f : ∀ y ty, [.str (Str.ofString "*") t0, .str (Str.ofString "\"") t1, .str (Str.ofString "*") t2, .str (Str.ofString "\"") t3, .str (Str.ofString "(") t4, .str (Str.ofString "\\)") t5, .str (Str.ofString "\\\\") t6, .str (mk [otherL c]) t7].toArray[(c.fmod 8).toNat]? = some (Value.str y ty) → tl y = signL c → wpAny (model prg w) A (subscriptTail value slice (.ref D) (.int (c.fmod 8) t)) Q E s := fun y ty hv hy => giT H f3 (by walk_at "om") hv (h y ty hy (by rw [tl_len, hy]; exact signL_len c)) hs
  rcases hk with hk | hk | hk | hk | hk | hk | hk | hk <;> exact f _ _ (by rw [hk]; rfl) (by rw [signL, hk]; rfl)
inductive PathP (q : List Int) (m : Str → Option Value) (cs fr : List Cl) : Prop
  | mk (u : Tok) (m2 : m "path" = some (.str (mk (pathL q)) u))
theorem path_call {l : Addr} {ks : List Int} {vs : List Value} (X : Lib w s.heap) (hh : A.handled = none) (hroom : A.depth + 1 < recursionLimit) (hl : s.heap.IsList l vs.toArray) (hv : All2 IsI ks vs) (hn : ks.length ≤ 100)
    (h : ∀ h' u t', (∀ b o, s.heap.get? b = some o → h'.get? b = some o) → Q (.str (mk (pathL ks)) u) { s with heap := h', toks := t' }) :
    wpAny (model prg w) A (call (.ref 61) [.ref l]) Q E s := by
  refine enter_path X (by walk_at "om") fun L h₁ t0 S => ?_
  walk_at "W"
  rename Sta _ _ _ (up _ _ _) _ _ => S2
  refine for_list (its := vs.toArray) (fun i => PathP (ks.take i)) hh S2 ⟨_, by walk_at "lk"⟩ (fun i m cs fr h' _ S' => let ⟨o, a, b⟩ := hl; ⟨o, S'.keep _ _ a, b⟩) ?_ ?_ rfl rfl rfl
  · intro i v it m1 cs1 fr1 h1 t1 hget hP S3
    refine foldQ fun Q1 hQ1 => ?_
    obtain ⟨u, m2⟩ := hP
    rw [List.getElem?_toArray] at hget
    obtain ⟨c, hc, u2, rfl⟩ := hv.get i v hget
    clear S2 S
    have f1 : 0 ≤ (c.fdiv 8).fmod 20 := Int.fmod_nonneg_of_pos _ (by decide)
    have f2 : (c.fdiv 8).fmod 20 < 20 := Int.fmod_lt_of_pos _ (by decide)
    have f3 : 0 ≤ c.fmod 8 := Int.fmod_nonneg_of_pos _ (by decide)
    have f4 : c.fmod 8 < 8 := Int.fmod_lt_of_pos _ (by decide)
    walk_at "W"
    refine' itS f1 ?zk1 ?zk2 ?_ ?zk3 ?zk4
    case zk1 => rw [show (Str.ofString "a/',@.-?+[]{}^$|&~# ").length = 20 from by decide]; walk_at "om"
    case zk2 => rw [show (Str.ofString "a/',@.-?+[]{}^$|&~# ").length = 20 from by decide]; walk_at "om"
    case zk3 => with_unfolding_all rfl
    case zk4 => (intro _; with_unfolding_all rfl)
    have eo : ((tl (Str.ofString "a/',@.-?+[]{}^$|&~# "))[((c.fdiv 8).fmod 20).toNat]?).getD 0 = otherL c := rfl
    have epl : pathL (ks.take (i + 1)) = pathL (ks.take i) ++ signL c := by
      unfold pathL
      rw [List.take_add_one, hc, Option.toList_some, List.map_append, List.flatten_append]
      simp
    have hpl : ∀ q : List Int, (pathL q).length ≤ 2 * q.length := by
      intro q
      unfold pathL
      induction q with
      | nil => simp
      | cons a q ih =>
        have := signL_len a
        simp only [List.map_cons, List.flatten_cons, List.length_append, List.length_cons]
        walk_at "om"
    have hpi : (pathL (ks.take i)).length ≤ 1000 := by
      have := hpl (ks.take i)
      rw [List.length_take] at this
      walk_at "om"
    have hQ2 : ∀ h t m cs fr u, Sta _ h _ m ((it, lit l (i + 1)) :: cs) fr → m "path" = some (.str (mk (pathL (ks.take i) ++ signL c)) u) → Q1 .next ⟨h, s.gens, s.drawn, t, s.os⟩ := fun h t m cs fr u S e => hQ1 .next _ ⟨h, t, m, cs, fr, rfl, S, u, by rw [epl]; exact e⟩
    clear hQ1 epl
    generalize pathL (ks.take i) = p at *
    have hpi' : (mk p).length ≤ 1000 := by rw [mk_len]; exact hpi
    rw [eo]
    have hol : (mk [otherL c]).length ≤ 1 := by rw [mk_len]; exact Nat.le_refl _
    walk_at "W"
    refine git8 (by walk_at "isL") (fun y ty hy hyl => ?_) (by with_unfolding_all rfl)
    walk_at "W"
    rename Sta _ _ _ (up (up (up _ _ _) _ _) _ _) _ _ => S6
    exact hQ2 _ _ _ _ _ _ (S6.drop .head) (up_eq.trans (congrArg some (congrArg (fun z => Value.str z _) (app_sign hy))))
  · intro m2 cs2 fr2 h2 t2 hP S3
    obtain ⟨u, m3⟩ := hP
    rw [List.take_of_length_le (by rw [List.size_toArray, ← hv.len]; exact Nat.le_refl _)] at m3
    dsimp only
    walk_at "W"
    exact h _ _ _ S3.keep
end
end
section
open Builtin Builtin.Str
theorem count_lit (x : Str) (c : Nat) : Txt.count x ⟨#[c]⟩ = (((tl x).count c : Nat) : Int) := by
  rw [count_cnt]
  show cnt c (tl x) = _
  induction tl x with
  | nil => rfl
  | cons a r ih =>
    rw [cnt_cons, ih, List.count_cons]
    by_cases e : a = c
    · subst e; simp; walk_at "om"
    · simp [e]
section
variable {w : World} {A : Around} {s : Shared} {Q E : Value → Shared → Prop} {v : Value}
noncomputable def envH (L : Addr) : Env := envOf (stOf 12).1 (stOf 12).2.2.2 L 75 (.ref 74)
theorem enter_hidden (X : Lib w s.heap) (hroom : A.depth < recursionLimit)
    (h : ∀ L h₁ t, Sta s.heap h₁ L (fun x => [(("path" : Str), v)].reverse.lookup x) [] [] →
      wpAny (model prg w) (A.deeper (envH L)) (execs (stOf 12).2.2.1 (envH L))
        (fun f s' => Q (match f with | .ret v => v | _ => .none) s') (fun _ _ => False) { s with heap := h₁, toks := t }) :
    wpAny (model prg w) A (call (.ref 75) [v]) Q E s :=
  enter (a := 75) (c := 74) (i := 12) (doc := .none) X hroom rfl rfl rfl rfl (locs rfl) h

noncomputable def hidStep (closed : Nat) (st : Nat × List Bool) (c : Nat) : Nat × List Bool := if c = 34 then (st.1 + 1, st.2 ++ [decide (st.1 + 1 ≤ closed)]) else (st.1, st.2 ++ [st.1 % 2 == 1 && decide (st.1 < closed)])
/-- what _law_hidden answers -/
noncomputable def hiddenL (l : List Nat) : List Bool := (l.foldl (hidStep (l.count 34 / 2 * 2)) (0, [])).2

theorem fold_snoc {α β : Type} (f : β → α → β) (b : β) (l : List α) (i : Nat) (a : α) (h : l[i]? = some a) : (l.take (i + 1)).foldl f b = f ((l.take i).foldl f b) a := by
  rw [List.take_add_one, h, Option.toList_some, List.foldl_append]; rfl
theorem Sta.madeOf {g h : Heap} {L D : Addr} {m : Str → Option Value} {P : Obj → Prop} {cs fr : List Cl} (S : Sta g h L m cs fr) (hm : (D, P) ∈ cs) : Made g h [(D, P)] := fun p hp => by
  rw [List.mem_singleton.mp hp]
  exact ⟨(S.cell _ hm).1, (S.cell _ hm).2.2⟩
theorem hidStep_len (cl : Nat) : ∀ (l : List Nat) (st : Nat × List Bool), (l.foldl (hidStep cl) st).2.length = st.2.length + l.length ∧ (l.foldl (hidStep cl) st).1 ≤ st.1 + l.length
  | [], st => by simp
  | c :: r, st => by
    have ih := hidStep_len cl r (hidStep cl st c)
    rw [List.foldl_cons]
    have : (hidStep cl st c).2.length = st.2.length + 1 ∧ (hidStep cl st c).1 ≤ st.1 + 1 := by
      unfold hidStep
      split <;> simp
    simp only [List.length_cons]
    walk_at "om"
theorem push_bool (out : List Bool) (b b' : Bool) (h : b = b') : (out.map Value.bool).toArray.push (.bool b) = ((out ++ [b']).map Value.bool).toArray := by subst h; simp
inductive HidP (D : Addr) (cl : Nat) (st : Nat × List Bool) (m : Str → Option Value) (cs fr : List Cl) : Prop
  | mk (u1 : Tok) (m2 : m "closed" = some (.int (cl : Nat) u1)) (u2 : Tok) (m3 : m "marks" = some (.int (st.1 : Nat) u2)) (m4 : m "hidden" = some (.ref D)) (ef : fr = []) (ec : cs = [(D, lst (st.2.map Value.bool).toArray)])
theorem hidden_call {x : Str} {t : Tok} (X : Lib w s.heap) (hh : A.handled = none) (hroom : A.depth + 1 < recursionLimit) (hx : x.length ≤ 900)
    (h : ∀ D h' t', Made s.heap h' [(D, lst ((hiddenL (tl x)).map Value.bool).toArray)] → (∀ b o, s.heap.get? b = some o → h'.get? b = some o) → Q (.ref D) { s with heap := h', toks := t' }) :
    wpAny (model prg w) A (call (.ref 75) [.str x t]) Q E s := by
  refine enter_hidden X (by walk_at "om") fun L h₁ t0 S => ?_
  walk_at "W"
  rename Sta _ _ _ (up (up (up _ _ _) _ _) _ _) _ _ => S2
  have ecl : (Txt.count x (Str.ofString "\"")).fdiv 2 * 2 = (((tl x).count 34 / 2 * 2 : Nat) : Int) := by
    rw [show Str.ofString "\"" = (⟨#[34]⟩ : Str) from by decide, count_lit, Int.fdiv_eq_ediv_of_nonneg _ (by decide)]
    walk_at "om"
  rw [ecl] at S2
  have hcl : (tl x).count 34 / 2 * 2 ≤ 900 := by
    have hxl := tl_len x
    exact Nat.le_trans (Nat.le_trans (Nat.div_mul_le_self _ _) List.count_le_length) (by walk_at "om")
  have hxl := tl_len x
  generalize hcd : (tl x).count 34 / 2 * 2 = cl at *
  refine for_str (fun i => HidP _ cl (((tl x).take i).foldl (hidStep cl) (0, []))) hh S2 ⟨_, by walk_at "lk", _, by walk_at "lk", by walk_at "lk", rfl, rfl⟩ ?_ ?_ rfl rfl rfl
  · intro i c u it m1 cs1 fr1 h1 t1 hget hP S3
    refine foldQ fun Q1 hQ1 => ?_
    rw [fold_snoc _ _ _ _ _ hget] at hQ1
    obtain ⟨u1, m2, u2, m3, m4, rfl, rfl⟩ := hP
    have hb := hidStep_len cl ((tl x).take i) (0, [])
    rw [List.length_take] at hb
    generalize ((tl x).take i).foldl (hidStep cl) (0, []) = st at *
    obtain ⟨n, out⟩ := st
    dsimp only at *
    have hsz : (out.map Value.bool).toArray.size ≤ 1000 := by
      rw [List.size_toArray, List.length_map]
      have := hb.1
      simp only [List.length_nil, Nat.zero_add] at this
      walk_at "om"
    have hn : n ≤ 1000 := by walk_at "om"
    have e2 : (n : Int).fmod 2 = ((n % 2 : Nat) : Int) := by rw [Int.fmod_eq_emod_of_nonneg _ (by decide)]; walk_at "om"
    clear S2 S
    by_cases h34 : c = 34
    · subst h34
      refine wpAny_execs_cons (ifT S3 (by walk_at "lk") rfl ?_)
      walk_at "W"
      rename Sta _ _ _ _ (_ :: (_, lst (Array.push _ _)) :: _) _ => S6
      have e : hidStep cl (n, out) 34 = (n + 1, out ++ [decide (n + 1 ≤ cl)]) := by simp [hidStep]
      rw [e] at hQ1
      rw [push_bool out _ (decide (n + 1 ≤ cl)) (by rw [decide_eq_decide]; walk_at "om")] at S6
      exact hQ1 _ _ ⟨_, _, _, _, _, rfl, S6, _, by walk_at "lk", _, by walk_at "lk", by walk_at "lk", rfl, rfl⟩
    · have e : hidStep cl (n, out) c = (n, out ++ [n % 2 == 1 && decide (n < cl)]) := by simp [hidStep, h34]
      rw [e] at hQ1
      refine wpAny_execs_cons (ifF S3 (by walk_at "lk") (beqF fun e => h34 (List.singleton_inj.mp e)) ?_)
      walk_at "W"
      · rename Sta _ _ _ _ (_ :: (_, lst (Array.push _ _)) :: _) _ => S6
        have hm : (n : Int).fmod 2 = 1 := by assumption
        have hm' : n % 2 = 1 := by rw [e2] at hm; walk_at "om"
        rw [push_bool out _ (n % 2 == 1 && decide (n < cl)) (by rw [hm']; simp)] at S6
        exact hQ1 _ _ ⟨_, _, _, _, _, rfl, S6, _, by walk_at "lk", _, by walk_at "lk", by walk_at "lk", rfl, rfl⟩
      · walk_at "W"
        rename Sta _ _ _ _ (_ :: (_, lst (Array.push _ _)) :: _) _ => S6
        have hm : ¬ (n : Int).fmod 2 = 1 := by assumption
        have hm' : n % 2 = 0 := by rw [e2] at hm; walk_at "om"
        have hm2 : (n : Int).fmod 2 = 0 := by rw [e2, hm']; rfl
        rw [push_bool out _ (n % 2 == 1 && decide (n < cl)) (by rw [hm', hm2]; rfl)] at S6
        exact hQ1 _ _ ⟨_, _, _, _, _, rfl, S6, _, by walk_at "lk", _, by walk_at "lk", by walk_at "lk", rfl, rfl⟩
  · intro m1 cs1 fr1 h1 t1 hP S3
    obtain ⟨u1, m2, u2, m3, m4, rfl, rfl⟩ := hP
    dsimp only
    walk_at "W"
    rw [List.take_length] at S3
    refine h _ _ _ ?_ S3.keep
    have := S3.madeOf (.head _)
    unfold hiddenL
    rw [hcd]
    exact this
end
end
section
open Builtin Builtin.Str
section
variable {prog : Program} {w : World} {A : Around} {E : Value → Shared → Prop} {s : Shared} {g : Heap} {L : Addr} {m : Str → Option Value} {cs cs' fr : List Cl} {env : Env}
theorem extS {D b : Addr} {vs ws : Array Value} {Q : Value → Shared → Prop} (S : Sta g s.heap L m cs fr) (U : Upd D (lst vs) (lst (vs ++ ws)) cs cs') (hb : Holds s.heap (b, lst ws)) (hsz : vs.size + ws.size ≤ 1000000)
    (h : ∀ h', Sta g h' L m cs' fr → Q .none { s with heap := h' }) : wpAny (model prog w) A (call (.builtin "list.extend") [.ref D, .ref b]) Q E s := by
  obtain ⟨o, ho, hc, hdn, n, hd⟩ := S.at U
  have tD : s.TypeIs (.ref D) "list" := ⟨_, ho, hc⟩
  obtain ⟨ob, hob, hbc, _, nb, hbd⟩ := hb
  refine wpAny_call_entry PySem.F.slot_list_extend tD PySem.F.entry_list_extend ?_ (PySem.F.args_list_extend_2 _ _)
  unfold Builtin.«list.extend»
  refine wpAny_bind (wpAny_of_eq (a := (.ref D, .ref b)) rfl ?_)
  dsimp only
  unfold Builtin.List.listExtendWith
  refine wpAny_bind (wpAny_typeOf (T := "list") ⟨ob, hob, hbc⟩ ?_)
  have h1 : (Builtin.List.listSameRef (.ref D) (.ref b) || (Value.type "list" == Value.type "list") || (Value.type "list" == Value.type "tuple")) = true := by simp
  rw [if_pos h1]
  unfold Builtin.List.listItems
  refine wpAny_bind (wpAny_bind (wpAny_seqItems hob hbd (wpAny_pure ?_)))
  refine wpAny_bind (wpAny_bind (wpAny_seqItems ho hd (wpAny_pure ?_)))
  have h2 : (!(vs.isEmpty) && Builtin.List.listTooLong (vs.size + ws.size)) = false := by
    have : Builtin.List.listTooLong (vs.size + ws.size) = false := by
      unfold Builtin.List.listTooLong sizeLine
      exact decide_eq_false (by walk_at "om")
    rw [this]; simp
  dsimp only
  rw [h2]
  show wpAny _ _ (updateSeq D (· ++ ws) >>= _) _ _ _
  obtain ⟨n', hd'⟩ := Obj.data_mapSeq hd (· ++ ws)
  refine wpAny_bind (wpAny_updateSeq ho hd (wpAny_pure ⟨_, rfl, h _ (S.upd U (Heap.SameBut.update ..).extBut ?_)⟩) (by rw [sizeLine_eq]; walk_at "om") (by show (vs ++ ws).size ≤ sizeLine + 1; rw [Array.size_append, sizeLine_eq]; walk_at "om"))
  exact ⟨_, Heap.get?_update_self _ ho (Obj.isFreed_of_seq hd'), (Obj.cls_mapSeq ..).trans hc, by rw [← hdn]; unfold Obj.mapSeq; split <;> rfl, n', hd'⟩
end
end
section
open Builtin Builtin.Str
local macro_rules | `(tactic| walk_at "fit") => `(tactic| first | exact Nat.zero_le _ | (rw [sizeLine_eq]; simp only [Array.size_push, List.size_toArray, List.length_nil, List.length_cons]; walk_at "om"))
local macro_rules | `(tactic| walk_at "call builtin:list.extend") => `(tactic| with_plain (refine' extS ?k1 ?k2 ?k3 ?k4 ?_; (case k1 => with_reducible assumption); (case k2 => walk_at "up"); (case k3 => walk_at "holds"); (case k4 => (simp only [List.size_toArray, Array.size_push, List.length_cons, List.length_nil]; walk_at "om")); intro _ _))
section
variable {w : World} {A : Around} {s : Shared} {Q E : Value → Shared → Prop} {v : Value}
noncomputable def envR (L : Addr) : Env := envOf (stOf 11).1 (stOf 11).2.2.2 L 68 (.ref 67)
theorem enter_rows (X : Lib w s.heap) (hroom : A.depth < recursionLimit)
    (h : ∀ L h₁ t, Sta s.heap h₁ L (fun x => [(("path" : Str), v)].reverse.lookup x) [] [] →
      wpAny (model prg w) (A.deeper (envR L)) (execs (stOf 11).2.2.1 (envR L))
        (fun f s' => Q (match f with | .ret v => v | _ => .none) s') (fun _ _ => False) { s with heap := h₁, toks := t }) :
    wpAny (model prg w) A (call (.ref 68) [v]) Q E s :=
  enter (a := 68) (c := 67) (i := 11) (doc := .none) X hroom rfl rfl rfl rfl (locs rfl) h

noncomputable def spL : List Nat := tl (Str.ofString "()\\.-?+[]{}^$|&~# ")
noncomputable def starRow (stars star : Nat) : List (List Nat) := (if star > 1 then [[41]] else []) ++ (if star < stars then [[40], [63], [62], [46], [42], [63]] else [[46], [42]])
noncomputable def rowStep (stars : Nat) (st : Nat × List (List (List Nat))) (c : Nat) : Nat × List (List (List Nat)) :=
  if c = 42 then (st.1 + 1, st.2 ++ [starRow stars (st.1 + 1)]) else if c ∈ spL then (st.1, st.2 ++ [[[92, c]]]) else (st.1, st.2 ++ [[[c]]])
/-- what _law_rows answers -/
noncomputable def rowsL (l : List Nat) : List (List (List Nat)) := (l.foldl (rowStep (l.count 42)) (0, [])).2
theorem rowStep_len (cl : Nat) : ∀ (l : List Nat) (st : Nat × List (List (List Nat))), (l.foldl (rowStep cl) st).2.length = st.2.length + l.length ∧ (l.foldl (rowStep cl) st).1 ≤ st.1 + l.length
  | [], st => by simp
  | c :: r, st => by
    have ih := rowStep_len cl r (rowStep cl st c)
    rw [List.foldl_cons]
    have : (rowStep cl st c).2.length = st.2.length + 1 ∧ (rowStep cl st c).1 ≤ st.1 + 1 := by
      unfold rowStep
      split
      · simp
      · split <;> simp
    simp only [List.length_cons]
    walk_at "om"

/-- a frozen list of texts -/
noncomputable def IsRow (fr : List Cl) (row : List (List Nat)) (v : Value) : Prop := ∃ (R : Addr) (ts : List (Str × Tok)), v = .ref R ∧ ts.map (fun p : Str × Tok => tl p.1) = row ∧ (R, lst (strValues ts).toArray) ∈ fr
theorem IsRow.mono {fr fr' : List Cl} (h : ∀ p ∈ fr, p ∈ fr') {x : List (List Nat)} {v : Value} : IsRow fr x v → IsRow fr' x v := fun ⟨R, st, e, f, m⟩ => ⟨R, st, e, f, h _ m⟩

noncomputable def ofVals (l : List Value) : List (Str × Tok) := l.map fun v => match v with | .str x t => (x, t) | _ => (Str.empty, 0)
theorem rowFin {g h : Heap} {L R D it : Addr} {m : Str → Option Value} {X : Array Value} {C : Obj → Prop} {vs : List Value} {fr : List Cl} (S : Sta g h L m [(R, lst X), (it, C), (D, lst (vs.toArray.push (Value.ref R)))] fr)
    (hX : (strValues (ofVals X.toList)).toArray = X) : Sta g h L m [(it, C), (D, lst (vs ++ [Value.ref R]).toArray)] ((R, lst (strValues (ofVals X.toList)).toArray) :: fr) := by
  rw [hX, show (vs ++ [Value.ref R]).toArray = vs.toArray.push (.ref R) by simp]
  exact S.freeze .head
theorem rowAll {fr : List Cl} {out : List (List (List Nat))} {vs : List Value} {row : List (List Nat)} {R : Addr} {X : Array Value} (hA : All2 (IsRow fr) out vs) (hr : (ofVals X.toList).map (fun p : Str × Tok => tl p.1) = row) :
    All2 (IsRow ((R, lst (strValues (ofVals X.toList)).toArray) :: fr)) (out ++ [row]) (vs ++ [Value.ref R]) :=
  (hA.mono fun _ _ => IsRow.mono fun _ => .tail _).append (.cons ⟨R, _, rfl, hr, .head _⟩ .nil)
inductive RowP (D : Addr) (cl : Nat) (st : Nat × List (List (List Nat))) (m : Str → Option Value) (cs fr : List Cl) : Prop
  | mk (u1 : Tok) (m2 : m "stars" = some (.int (cl : Nat) u1)) (u2 : Tok) (m3 : m "star" = some (.int (st.1 : Nat) u2)) (m4 : m "rows" = some (.ref D)) (vs : List Value) (hA : All2 (IsRow fr) st.2 vs) (ec : cs = [(D, lst vs.toArray)])
noncomputable def rowOf (cl n c : Nat) : List (List Nat) := if c = 42 then starRow cl (n + 1) else if c ∈ spL then [[92, c]] else [[c]]
inductive RowM (G : Array GenState) (d : Drawn) (o : OsState) (g : Heap) (L it D : Addr) (C : Obj → Prop) (vs : List Value) (fr : List Cl) (cl n : Nat) (row : List (List Nat)) (s' : Shared) : Prop
  | mk (R : Addr) (X : Array Value) (h : Heap) (t : Nat) (m : Str → Option Value) (e : s' = ⟨h, G, d, t, o⟩) (S : Sta g h L m [(R, lst X), (it, C), (D, lst vs.toArray)] fr) (hX : (strValues (ofVals X.toList)).toArray = X) (hr : (ofVals X.toList).map (fun p : Str × Tok => tl p.1) = row)
      (u1 : Tok) (m2 : m "stars" = some (.int (cl : Nat) u1)) (u2 : Tok) (m3 : m "star" = some (.int (n : Nat) u2)) (m4 : m "rows" = some (.ref D)) (m5 : m "row" = some (.ref R))
set_option maxHeartbeats 4000000 in
theorem rows_call {x : Str} {t : Tok} (X : Lib w s.heap) (hh : A.handled = none) (hroom : A.depth + 1 < recursionLimit) (hx : x.length ≤ 900)
    (h : ∀ D vs fr h' t', Made s.heap h' ((D, lst vs.toArray) :: fr) → All2 (IsRow fr) (rowsL (tl x)) vs → (∀ b o, s.heap.get? b = some o → h'.get? b = some o) → Q (.ref D) { s with heap := h', toks := t' }) :
    wpAny (model prg w) A (call (.ref 68) [.str x t]) Q E s := by
  refine enter_rows X (by walk_at "om") fun L h₁ t0 S => ?_
  walk_at "W"
  rename Sta _ _ _ (up (up (up _ _ _) _ _) _ _) _ _ => S2
  rename_i D hAA SAA hBB tBB
  have ecl : Txt.count x (Str.ofString "*") = (((tl x).count 42 : Nat) : Int) := by
    rw [show Str.ofString "*" = (⟨#[42]⟩ : Str) from by decide, count_lit]
  rw [ecl] at S2
  have hxl := tl_len x
  have hcl : (tl x).count 42 ≤ 900 := Nat.le_trans List.count_le_length (by walk_at "om")
  generalize hcd : (tl x).count 42 = cl at *
  refine for_str (fun i => RowP D cl (((tl x).take i).foldl (rowStep cl) (0, []))) hh S2 ⟨_, by walk_at "lk", _, by walk_at "lk", by walk_at "lk", [], .nil, rfl⟩ ?_ ?_ rfl rfl rfl
  · intro i c u it m1 cs1 fr1 h1 t1 hget hP S3
    refine foldQ fun Q1 hQ1 => ?_
    rw [fold_snoc _ _ _ _ _ hget] at hQ1
    obtain ⟨u1, m2, u2, m3, m4, vs, hA, rfl⟩ := hP
    have hb := rowStep_len cl ((tl x).take i) (0, [])
    rw [List.length_take] at hb
    have hAl := hA.len
    generalize ((tl x).take i).foldl (rowStep cl) (0, []) = st at *
    obtain ⟨n, out⟩ := st
    dsimp only at *
    have hsz : vs.toArray.size ≤ 1000 := by
      rw [List.size_toArray]
      have := hb.1
      simp only [List.length_nil, Nat.zero_add] at this
      walk_at "om"
    have hn : n ≤ 1000 := by walk_at "om"
    have hl1 : (mk [c]).length ≤ 1 := by rw [mk_len]; exact Nat.le_refl _
    clear S2 S
    have hst : rowStep cl (n, out) c = (if c = 42 then n + 1 else n, out ++ [rowOf cl n c]) := by
      unfold rowStep rowOf
      split
      · rfl
      · split <;> rfl
    rw [hst] at hQ1
    clear hst
    refine execs_cut fun r1 hr1 => ?_
    walk_at "W"
    rename Sta _ _ _ (up _ _ _) ((_, lst #[]) :: _) _ => S4
    subst hr1
    refine execs_mid (RowM s.gens s.drawn s.os s.heap L it D (siO x t (i + 1)) vs fr1 cl (if c = 42 then n + 1 else n) (rowOf cl n c)) ?_ ?_
    · by_cases h42 : c = 42
      · subst h42
        rw [if_pos rfl]
        have eo : rowOf cl n 42 = starRow cl (n + 1) := if_pos rfl
        rw [eo]
        refine foldQ fun Q2 hQ2 => ?_
        refine ifT S4 (by walk_at "lk") rfl ?_
        walk_at "W"
        all_goals (walk_at "W")
        all_goals (walk_at "W")
        all_goals (
          rename Sta _ _ _ _ (_ :: (_, lst _) :: _) _ => S6
          refine hQ2 _ _ ⟨rfl, _, _, _, _, _, rfl, S6.drop .head, rfl, ?_, _, by walk_at "lk", _, by walk_at "lk", by walk_at "lk", by walk_at "lk"⟩
          unfold starRow
          first
            | (rw [if_pos (by walk_at "om"), if_pos (by walk_at "om")]; rfl)
            | (rw [if_pos (by walk_at "om"), if_neg (by walk_at "om")]; rfl)
            | (rw [if_neg (by walk_at "om"), if_pos (by walk_at "om")]; rfl)
            | (rw [if_neg (by walk_at "om"), if_neg (by walk_at "om")]; rfl))
      · have hfo := StrLaws.found_one (Str.ofString "()\\.-?+[]{}^$|&~# ") c
        have eo : rowOf cl n c = if c ∈ spL then [[92, c]] else [[c]] := if_neg h42
        rw [if_neg h42, eo]
        refine foldQ fun Q2 hQ2 => ?_
        refine ifF S4 (by walk_at "lk") (beqF fun e => h42 (List.singleton_inj.mp e)) ?_
        walk_at "W"
        · have hq : (occurrences (Str.ofString "()\\.-?+[]{}^$|&~# ") (mk [c]) 0 (Str.ofString "()\\.-?+[]{}^$|&~# ").length 1).isEmpty = true := by assumption
          have hm : c ∉ spL := by
            rw [show (⟨#[c]⟩ : Str) = mk [c] from rfl, hq] at hfo
            exact fun hm => by rw [show decide (c ∈ (Str.ofString "()\\.-?+[]{}^$|&~# ").cps.toList) = true from decide_eq_true hm] at hfo; cases hfo
          rw [if_neg hm] at hQ2
          rename Sta _ _ _ _ ((_, lst (Array.push _ _)) :: _) _ => S6
          exact hQ2 _ _ ⟨rfl, _, _, _, _, _, rfl, S6, rfl, rfl, _, by walk_at "lk", _, by walk_at "lk", by walk_at "lk", by walk_at "lk"⟩
        · have hq : (occurrences (Str.ofString "()\\.-?+[]{}^$|&~# ") (mk [c]) 0 (Str.ofString "()\\.-?+[]{}^$|&~# ").length 1).isEmpty = false := by assumption
          have hm : c ∈ spL := by
            rw [show (⟨#[c]⟩ : Str) = mk [c] from rfl, hq] at hfo
            exact of_decide_eq_true hfo.symm
          rw [if_pos hm] at hQ2
          walk_at "W"
          rename Sta _ _ _ _ ((_, lst (Array.push _ _)) :: _) _ => S6
          exact hQ2 _ _ ⟨rfl, _, _, _, _, _, rfl, S6, rfl, rfl, _, by walk_at "lk", _, by walk_at "lk", by walk_at "lk", by walk_at "lk"⟩
    · rintro s5 ⟨R, X5, h5, t5, m5, rfl, S5, hX, hr, v1, n1, v2, n2, n3, n4⟩
      walk_at "W"
      rename Sta _ _ _ _ (_ :: _ :: (_, lst (Array.push _ _)) :: _) _ => S6
      exact hQ1 _ _ ⟨_, _, _, _, _, rfl, rowFin S6 hX, _, by walk_at "lk", _, by walk_at "lk", by walk_at "lk", _, rowAll hA hr, rfl⟩
  · intro m1 cs1 fr1 h1 t1 hP S3
    obtain ⟨u1, m2, u2, m3, m4, vs, hA, rfl⟩ := hP
    dsimp only
    walk_at "W"
    rw [List.take_length] at hA
    refine h _ vs fr1 _ _ (fun p hp => ?_) (by unfold rowsL; rw [hcd]; exact hA) S3.keep
    rcases List.mem_cons.mp hp with rfl | hp
    · exact ⟨(S3.cell _ (.head _)).1, (S3.cell _ (.head _)).2.2⟩
    · exact ⟨(S3.frz p hp).1, (S3.frz p hp).2.2.1⟩
end
end
section
open Builtin Builtin.Str
section
variable {w : World} {A : Around} {s : Shared} {Q E : Value → Shared → Prop} {v : Value}
noncomputable def envQ (L : Addr) : Env := envOf (stOf 13).1 (stOf 13).2.2.2 L 82 (.ref 81)
theorem enter_pairs (X : Lib w s.heap) (hroom : A.depth < recursionLimit)
    (h : ∀ L h₁ t, Sta s.heap h₁ L (fun x => [(("units" : Str), v)].reverse.lookup x) [] [] →
      wpAny (model prg w) (A.deeper (envQ L)) (execs (stOf 13).2.2.1 (envQ L))
        (fun f s' => Q (match f with | .ret v => v | _ => .none) s') (fun _ _ => False) { s with heap := h₁, toks := t }) :
    wpAny (model prg w) A (call (.ref 82) [v]) Q E s :=
  enter (a := 82) (c := 81) (i := 13) (doc := .none) X hroom rfl rfl rfl rfl (locs rfl) h

noncomputable def totL (l : List (List Nat)) : Nat := (l.map List.length).sum
/-- what _law_pairs answers -/
noncomputable def pairsN : Nat → List (List Nat) → Us
  | _, [] => []
  | n, u :: r => (n + u.length - 1, u) :: pairsN (n + u.length) r
theorem pairsN_snoc (u : List Nat) : ∀ (l : List (List Nat)) (n : Nat), pairsN n (l ++ [u]) = pairsN n l ++ [(n + totL l + u.length - 1, u)]
  | [], n => by simp [pairsN, totL]
  | a :: r, n => by
    simp only [List.cons_append, pairsN, pairsN_snoc u r]
    congr 3
    simp [totL]; walk_at "om"
theorem totL_snoc (u : List Nat) (l : List (List Nat)) : totL (l ++ [u]) = totL l + u.length := by simp [totL]
theorem totL_le (l : List (List Nat)) (h : ∀ u ∈ l, u.length ≤ 2) : totL l ≤ 2 * l.length := by
  induction l with
  | nil => simp [totL]
  | cons a r ih =>
    have := ih fun u hu => h u (.tail _ hu)
    have := h a (.head _)
    simp only [totL, List.map_cons, List.sum_cons, List.length_cons] at *
    walk_at "om"

theorem pairFin {g h : Heap} {L T D it : Addr} {m : Str → Option Value} {C : Obj → Prop} {vs : List Value} {fr : List Cl} {out : Us} {p : Nat} {u : List Nat} {a b : Tok} (S : Sta g h L m [(T, tupl #[.int (p : Nat) a, .str (mk u) b]), (it, C), (D, lst (vs.toArray.push (Value.ref T)))] fr)
    (hA : All2 (IsP fr) out vs) : Sta g h L m [(it, C), (D, lst (vs ++ [Value.ref T]).toArray)] ((T, tupl #[.int (p : Nat) a, .str (mk u) b]) :: fr) ∧ All2 (IsP ((T, tupl #[.int (p : Nat) a, .str (mk u) b]) :: fr)) (out ++ [(p, u)]) (vs ++ [Value.ref T]) := by
  refine ⟨?_, (hA.mono fun _ _ => IsP.mono fun _ => .tail _).append (.cons ⟨T, a, b, rfl, .head _⟩ .nil)⟩
  rw [show (vs ++ [Value.ref T]).toArray = vs.toArray.push (Value.ref T) by simp]
  exact S.freeze .head
inductive PairP (D : Addr) (pre : List (List Nat)) (m : Str → Option Value) (cs fr : List Cl) : Prop
  | mk (u : Tok) (m2 : m "place" = some (.int ((totL pre : Nat) - 1 : Int) u)) (m3 : m "pairs" = some (.ref D)) (vs : List Value) (hA : All2 (IsP fr) (pairsN 0 pre) vs) (ec : cs = [(D, lst vs.toArray)])
theorem PairP.snoc {D : Addr} {pre : List (List Nat)} {v : List Nat} {m : Str → Option Value} {cs fr : List Cl} {n : Nat} (hn : totL pre = n) (u : Tok) (m2 : m "place" = some (.int ((n + v.length : Nat) - 1 : Int) u)) (m3 : m "pairs" = some (.ref D)) (vs : List Value)
    (hA : All2 (IsP fr) (pairsN 0 pre ++ [(0 + n + v.length - 1, v)]) vs) (ec : cs = [(D, lst vs.toArray)]) : PairP D (pre ++ [v]) m cs fr := by
  subst hn
  exact ⟨u, by rw [totL_snoc]; exact m2, m3, vs, by rw [pairsN_snoc]; exact hA, ec⟩
theorem pairs_call {l : Addr} {ts : List (Str × Tok)} (X : Lib w s.heap) (hh : A.handled = none) (hroom : A.depth + 1 < recursionLimit) (hl : s.heap.IsList l (strValues ts).toArray) (hn : ts.length ≤ 900)
    (hne : ∀ p ∈ ts, 1 ≤ p.1.length ∧ p.1.length ≤ 2)
    (h : ∀ D vs fr h' t', Made s.heap h' ((D, lst vs.toArray) :: fr) → All2 (IsP fr) (pairsN 0 (ts.map fun p => tl p.1)) vs → (∀ b o, s.heap.get? b = some o → h'.get? b = some o) → Q (.ref D) { s with heap := h', toks := t' }) :
    wpAny (model prg w) A (call (.ref 82) [.ref l]) Q E s := by
  refine enter_pairs X (by walk_at "om") fun L h₁ t0 S => ?_
  walk_at "W"
  rename Sta _ _ _ (up (up _ _ _) _ _) _ _ => S2
  refine for_list (its := (strValues ts).toArray) (fun i => PairP _ ((ts.take i).map fun p => tl p.1)) hh S2 ⟨_, by walk_at "lk", by walk_at "lk", [], .nil, rfl⟩ ?_ ?_ ?_ rfl rfl rfl
  · intro i m cs fr h' _ S'
    obtain ⟨o, a, b⟩ := hl
    exact ⟨o, S'.keep _ _ a, b⟩
  · intro i v it m1 cs1 fr1 h1 t1 hget hP S3
    refine foldQ fun Q1 hQ1 => ?_
    obtain ⟨u1, m2, m3, vs, hA, rfl⟩ := hP
    rw [List.getElem?_toArray, strV_get] at hget
    cases hq : ts[i]? with
    | none => rw [hq] at hget; cases hget
    | some p =>
      rw [hq] at hget
      cases hget
      obtain ⟨y, ty⟩ := p
      have hy := hne _ (List.mem_of_getElem? hq)
      have htake : (ts.take (i + 1)).map (fun p => tl p.1) = (ts.take i).map (fun p => tl p.1) ++ [tl y] := by
        rw [List.take_add_one, hq]; simp
      rw [htake] at hQ1
      have hi := (List.getElem?_eq_some_iff.mp hq).1
      have hAl := hA.len
      have hpl : ∀ (l : List (List Nat)) (n : Nat), (pairsN n l).length = l.length := by
        intro l
        induction l with
        | nil => intro n; rfl
        | cons a r ih => intro n; simp [pairsN, ih]
      rw [hpl, List.length_map, List.length_take] at hAl
      have htl : totL ((ts.take i).map fun p => tl p.1) ≤ 2000 := by
        have := totL_le ((ts.take i).map fun p => tl p.1) (fun u hu => by
          obtain ⟨q, hq, rfl⟩ := List.mem_map.mp hu
          have := hne q (List.mem_of_mem_take hq)
          rw [← tl_len]; exact this.2)
        rw [List.length_map, List.length_take] at this
        walk_at "om"
      have hsz : vs.toArray.size ≤ 1000 := by rw [List.size_toArray]; walk_at "om"
      generalize hn : totL ((ts.take i).map fun p => tl p.1) = n at *
      clear S2 S
      dsimp only at *
      walk_at "W"
      rename Sta _ _ _ _ (_ :: _ :: (_, lst (Array.push _ _)) :: _) _ => S6
      have hyl := tl_len y
      have e1 : ((n : Nat) : Int) - 1 + (y.length : Nat) = ((0 + n + (tl y).length - 1 : Nat) : Int) := by walk_at "om"
      have e2 : ((n + (tl y).length : Nat) : Int) - 1 = ((0 + n + (tl y).length - 1 : Nat) : Int) := by walk_at "om"
      have e3 : (Value.str y ty) = .str (mk (tl y)) ty := by rw [mk_tl]
      rw [e1] at S6
      have e2 := fun t : Tok => congrArg (fun z => some (Value.int z t)) e2
      rw [e3] at S6
      obtain ⟨S7, hA7⟩ := pairFin S6 hA
      exact hQ1 _ _ ⟨_, _, _, _, _, rfl, S7, .snoc hn _ (Eq.trans (by walk_at "lk") (e2 _).symm) (by walk_at "lk") _ hA7 rfl⟩
  · intro m1 cs1 fr1 h1 t1 hP S3
    obtain ⟨u1, m2, m3, vs, hA, rfl⟩ := hP
    dsimp only
    walk_at "W"
    have e : ts.take (strValues ts).toArray.size = ts := by rw [strV_size, List.take_length]
    rw [e] at hA
    refine h _ vs fr1 _ _ (fun p hp => ?_) hA S3.keep
    rcases List.mem_cons.mp hp with rfl | hp
    · exact ⟨(S3.cell _ (.head _)).1, (S3.cell _ (.head _)).2.2⟩
    · exact ⟨(S3.frz p hp).1, (S3.frz p hp).2.2.1⟩
end
end
section
open Sem (wp)
section
variable {prog : Program} {w : World} {A : Around} {E : Value → Shared → Prop} {s : Shared} {env : Env}

/-- a list comprehension, as a small frame of its own -/
theorem comp_S {elt target iter : Expr} {ifs : List Expr} {rest : List Comprehension} {scope : Scope} {cl : List (Str × Addr)} {pos : Pos} {Q : Value → Shared → Prop}
    (hclos : closureFor scope env = pure cl) (hcell : ∀ y ∈ scope.names, y.2 ≠ .cell) (hkind : scope.kind = .function)
    (hnames : ∀ y ∈ scope.names, y.2 = .local → scope.names.lookup y.1 = some .local)
    (h : wpAny (model prog w) A (eval iter env) (fun x s₁ => ∃ (C0 : Obj → Prop) (POST : Array Value → List Cl → Prop),
      (∀ (Q : Value → Shared → Prop), (∀ I h', (∀ b o, s₁.heap.get? b = some o → h'.get? b = some o) → s₁.heap.get? I = none → Holds h' (I, C0) → Q (.ref I) { s₁ with heap := h' }) → wpAny (model prog w) A (pyIter x) Q E s₁) ∧
      (∀ I (s : Shared) (Q : Value → Shared → Prop) (E : Value → Shared → Prop), Holds s.heap (I, C0) → Q (.ref I) s → wpAny (model prog w) A (pyIter (.ref I)) Q E s) ∧
      (∀ D C I h₂ t₂, Sta s₁.heap h₂ C (fun _ => none) [(D, lst #[]), (I, C0)] [] →
        codeAny (model prog w) A (.compLoop (.ListComp elt (⟨target, iter, ifs, 0⟩ :: rest) scope pos) 0 (.ref I) (.ref D) (compEnvC scope cl C env))
          (fun r s' => r = .ok .next ∧ ∃ h3 t3 m3 vs fr3, s' = { s₁ with heap := h3, toks := t3 } ∧ Sta s₁.heap h3 C m3 [(D, lst vs)] fr3 ∧ POST vs fr3) { s₁ with heap := h₂, toks := t₂ }) ∧
      (∀ D vs fr3 h4 t4, Made s₁.heap h4 ((D, lst vs) :: fr3) → (∀ b o, s₁.heap.get? b = some o → h4.get? b = some o) → POST vs fr3 → Q (.ref D) { s₁ with heap := h4, toks := t4 })) E s)
    (hs : ∀ x, foldedSetIterable iter env x = pure x := by intro _; rfl) :
    wpAny (model prog w) A (eval (.ListComp elt (⟨target, iter, ifs, 0⟩ :: rest) scope pos) env) Q E s := by
  rw [eval_ListComp]
  refine wpAny_comprehension_free (use := none) rfl hs hclos hkind hnames (wpAny_mono h (fun x s₁ h₁ => ?_) fun _ _ e => e)
  obtain ⟨C0, POST, hit, hself, hloop, hfin⟩ := h₁
  refine hit _ fun I hI kI nI HI => ?_
  refine wpAny_newObj_type (wpAny_newFunctionEnv hcell (by intro y hy; simp at hy) (fun h₁ hns₁ hsb₁ => ?_) hkind)
  dsimp only at hns₁ hsb₁ ⊢
  generalize hH2 : hI.push { cls := .type "list", dict := none, data := .seq ([] : List Value).toArray } = H2 at hns₁ hsb₁ ⊢
  have hz : H2.objs.size = hI.objs.size + 1 := by rw [← hH2, Heap.size_push]
  have k1 : ∀ b o, hI.get? b = some o → h₁.get? b = some o := fun b o e => hsb₁.extBut b o (Nat.ne_of_lt (by rw [hz]; exact Nat.lt_succ_of_lt (Heap.lt_size e))) (Heap.get?_push_of_some _ (hH2 ▸ Heap.get?_push_of_some _ e))
  have fresh : ∀ a, hI.objs.size ≤ a → s₁.heap.get? a = none := fun a ha => by
    cases e : s₁.heap.get? a with
    | none => rfl
    | some o' => exact absurd (Heap.lt_size (kI _ _ e)) (Nat.not_lt.mpr ha)
  obtain ⟨oI, hoI, hCI⟩ := HI
  have hIlt := Heap.lt_size hoI
  have hI' : I < hI.objs.size := hIlt
  have hD : h₁.get? hI.objs.size = some { cls := .type "list", dict := none, data := .seq ([] : List Value).toArray } :=
    hsb₁.extBut _ _ (by rw [hz]; exact Nat.ne_of_lt (Nat.lt_succ_self _)) (Heap.get?_push_of_some _ (hH2 ▸ Heap.get?_push_size _ rfl))
  have S0 : Sta s₁.heap h₁ H2.objs.size (fun _ => none) [(hI.objs.size, lst #[]), (I, C0)] [] := by
    refine ⟨hns₁, fun b o e => k1 b o (kI b o e), fresh _ (by rw [hz]; exact Nat.le_succ _), fun p hp => ?_, ?_, fun _ h => (nomatch h)⟩
    · simp only [List.mem_cons, List.not_mem_nil, or_false] at hp
      rcases hp with rfl | rfl
      · exact ⟨⟨_, hD, rfl, rfl, 0, rfl⟩, by rw [hz]; exact Nat.ne_of_lt (Nat.lt_succ_self _), fresh _ (Nat.le_refl _)⟩
      · exact ⟨⟨oI, k1 _ _ hoI, hCI⟩, by rw [hz]; exact Nat.ne_of_lt (Nat.lt_succ_of_lt hI'), nI⟩
    · simp only [List.map_cons, List.map_nil, List.nodup_cons, List.mem_singleton, List.not_mem_nil, not_false_eq_true, List.nodup_nil, and_true]
      exact Nat.ne_of_gt hI'
  have L1 := hloop hI.objs.size H2.objs.size I h₁ (s₁.toks + ([] : List (Str × Value)).length) S0
  have fin : ∀ (r : Result) (s' : Shared), (r = .ok .next ∧ ∃ h3 t3 m3 vs fr3, s' = { s₁ with heap := h3, toks := t3 } ∧ Sta s₁.heap h3 H2.objs.size m3 [(hI.objs.size, lst vs)] fr3 ∧ POST vs fr3) →
      compPost (model prog w) A E none Q (.ref hI.objs.size) H2.objs.size r s' := by
    rintro r s' ⟨rfl, h3, t3, m3, vs, fr3, rfl, S3, hP⟩
    refine ⟨m3, S3.ns, fun h4 hs4 => hfin _ vs fr3 h4 t3 (fun p hp => ?_) (fun b o e => ?_) hP⟩
    · rcases List.mem_cons.mp hp with rfl | hp
      · have c := S3.cell _ (.head _)
        exact ⟨c.1.keeps fun o e => hs4.extBut _ o c.2.1 e, c.2.2⟩
      · have f := S3.frz p hp
        exact ⟨f.1.keeps fun o e => hs4.extBut _ o f.2.1 e, f.2.2.1⟩
    · refine hs4.extBut b o ?_ (S3.keep b o e)
      rintro rfl
      rw [S3.gL] at e; cases e
  have L2 := codeAny_mono L1 fin
  exact codeAny_compStart_list L2 (hself _ _ _ _ ⟨oI, k1 _ _ hoI, hCI⟩ L2)
end
end
section
open Sem (wp)
section
variable {prog : Program} {w : World} {A : Around} {E : Value → Shared → Prop} {R : Result → Shared → Prop} {s : Shared} {env : Env}

noncomputable def IfsP (M : Model) (A : Around) (env : Env) (ifs : List Expr) (K : Bool → Shared → Prop) (s : Shared) : Prop := match ifs with
  | [] => K true s
  | c :: _ => wpAny M A (isTrue c env (eval c env)) K (fun _ _ => False) s

theorem ifsP {M : Model} {ifs : List Expr} (hlen : ifs.length ≤ 1) {K : Bool → Shared → Prop} (h : IfsP M A env ifs K s) :
    wpAny M A (forIn ifs true fun c r => if r = true then do let ok ← isTrue c env (eval c env); pure (ForInStep.yield ok) else pure (ForInStep.yield r)) K E s := by
  match ifs, hlen with
  | [], _ => rw [List.forIn_nil]; exact wpAny_pure h
  | [c], _ =>
    rw [List.forIn_cons]
    refine wpAny_bind ?_
    rw [if_pos rfl]
    refine wpAny_bind (wpAny_mono h (fun ok s' hk => wpAny_pure ?_) fun _ _ x => x.elim)
    dsimp only
    rw [List.forIn_nil]
    exact wpAny_pure hk

theorem compLoop1 {elt target iter : Expr} {ifs : List Expr} {scope : Scope} {pos : Pos} {it acc : Value} (hlen : ifs.length ≤ 1) (I : Nat → Shared → Prop)
    (turn : ∀ n s, I n s → wpAny (model prog w) A (pyNext it) (fun r s₁ => match r with
      | none => R (.ok .next) s₁
      | some v => wpAny (model prog w) A (letOwnedTupleGo target it v) (fun _ s₂ => wpAny (model prog w) A (assign target env v) (fun _ s₃ => IfsP (model prog w) A env ifs (fun ok s₄ => if ok = true then
          wpAny (model prog w) A (eval elt env) (fun x s₅ => wpAny (model prog w) A (call (.builtin "list.append") [acc, x]) (fun _ s₆ => ∃ m, m < n ∧ I m s₆) (fun _ _ => False) s₅) (fun _ _ => False) s₄
        else ∃ m, m < n ∧ I m s₄) s₃) (fun _ _ => False) s₂) (fun _ _ => False) s₁) (fun _ _ => False) s)
    (n : Nat) (h : I n s) :
    codeAny (model prog w) A (.compLoop (.ListComp elt [⟨target, iter, ifs, 0⟩] scope pos) 0 it acc env) R s := by
  refine codeAny_loop rfl I (fun n s hI => ?_) n h
  show wpAny _ _ ((compTurn (.ListComp elt [⟨target, iter, ifs, 0⟩] scope pos) 0 it acc env).onRaise (fun x => do noteFrame x env; theTreesLotGoes x)) _ _ s
  refine wpAny_noted ?_
  unfold compTurn
  refine wpAny_bind (wpAny_standAt ?_)
  refine wpAny_bind (wpAny_mono (turn n s hI) (fun r s₁ h₁ => ?_) fun _ _ h' => h'.elim)
  cases r with
  | none => exact wpAny_pure h₁
  | some v =>
    refine wpAny_bind (wpAny_mono h₁ (fun _ s₂ h₂ => ?_) fun _ _ h' => h'.elim)
    refine wpAny_bind (wpAny_mono h₂ (fun _ s₃ h₃ => ?_) fun _ _ h' => h'.elim)
    refine wpAny_bind (wpAny_mono (ifsP hlen h₃ (E := fun _ _ => False)) (fun ok s₄ h₄ => ?_) fun _ _ h' => h'.elim)
    cases ok with
    | true =>
      rw [if_pos rfl] at h₄
      refine wpAny_bind ?_
      refine wpAny_bind (wpAny_mono h₄ (fun x s₅ h₅ => ?_) fun _ _ h' => h'.elim)
      exact wpAny_bind (wpAny_mono h₅ (fun _ s₆ h₆ => wpAny_pure (wpAny_pure ⟨rfl, h₆⟩)) fun _ _ h' => h'.elim)
    | false =>
      rw [if_neg Bool.false_ne_true] at h₄
      exact wpAny_bind (wpAny_pure (wpAny_pure ⟨rfl, h₄⟩))

theorem compLoop20 {elt target iter t2 iter2 : Expr} {ifs : List Expr} {scope : Scope} {pos : Pos} {it acc : Value} (hlen : ifs.length ≤ 1) (I : Nat → Shared → Prop)
    (turn : ∀ n s, I n s → wpAny (model prog w) A (pyNext it) (fun r s₁ => match r with
      | none => R (.ok .next) s₁
      | some v => wpAny (model prog w) A (letOwnedTupleGo target it v) (fun _ s₂ => wpAny (model prog w) A (assign target env v) (fun _ s₃ => IfsP (model prog w) A env ifs (fun ok s₄ => if ok = true then
          wpAny (model prog w) A (eval iter2 env) (fun x s₅ => wpAny (model prog w) A (pyIter x) (fun it2 s₆ =>
            codeAny (model prog w) A (.compStart (.ListComp elt [⟨target, iter, ifs, 0⟩, ⟨t2, iter2, [], 0⟩] scope pos) 1 it2 acc env) (fun r s₇ => r = .ok .next ∧ ∃ m, m < n ∧ I m s₇) s₆) (fun _ _ => False) s₅) (fun _ _ => False) s₄
        else ∃ m, m < n ∧ I m s₄) s₃) (fun _ _ => False) s₂) (fun _ _ => False) s₁) (fun _ _ => False) s)
    (n : Nat) (h : I n s) (hs : ∀ x, foldedSetIterable iter2 env x = pure x := by intro _; rfl) :
    codeAny (model prog w) A (.compLoop (.ListComp elt [⟨target, iter, ifs, 0⟩, ⟨t2, iter2, [], 0⟩] scope pos) 0 it acc env) R s := by
  refine codeAny_loop rfl I (fun n s hI => ?_) n h
  show wpAny _ _ ((compTurn (.ListComp elt [⟨target, iter, ifs, 0⟩, ⟨t2, iter2, [], 0⟩] scope pos) 0 it acc env).onRaise (fun x => do noteFrame x env; theTreesLotGoes x)) _ _ s
  refine wpAny_noted ?_
  unfold compTurn
  refine wpAny_bind (wpAny_standAt ?_)
  refine wpAny_bind (wpAny_mono (turn n s hI) (fun r s₁ h₁ => ?_) fun _ _ h' => h'.elim)
  cases r with
  | none => exact wpAny_pure h₁
  | some v =>
    refine wpAny_bind (wpAny_mono h₁ (fun _ s₂ h₂ => ?_) fun _ _ h' => h'.elim)
    refine wpAny_bind (wpAny_mono h₂ (fun _ s₃ h₃ => ?_) fun _ _ h' => h'.elim)
    refine wpAny_bind (wpAny_mono (ifsP hlen h₃ (E := fun _ _ => False)) (fun ok s₄ h₄ => ?_) fun _ _ h' => h'.elim)
    cases ok with
    | true =>
      rw [if_pos rfl] at h₄
      refine wpAny_bind (wpAny_mono h₄ (fun x s₅ h₅ => ?_) fun _ _ h' => h'.elim)
      refine wpAny_bind (wpAny_standAt ?_)
      refine wpAny_bind (wpAny_of_eq (hs x) ?_)
      refine wpAny_bind (wpAny_holding (wpAny_mono h₅ (fun it2 s₆ h₆ => ?_) fun _ _ h' => h'.elim))
      refine wpAny_bind (wpAny_runOwn (codeAny_mono h₆ fun r s₇ h₇ => ?_))
      obtain ⟨rfl, h₈⟩ := h₇
      first | exact wpAny_pure (wpAny_pure ⟨rfl, h₈⟩) | exact wpAny_pure ⟨rfl, h₈⟩
    | false =>
      rw [if_neg Bool.false_ne_true] at h₄
      exact wpAny_bind (wpAny_pure (wpAny_pure ⟨rfl, h₄⟩))

theorem compLoop21 {elt target iter t2 iter2 : Expr} {ifs : List Expr} {scope : Scope} {pos : Pos} {it acc : Value} (I : Nat → Shared → Prop)
    (turn : ∀ n s, I n s → wpAny (model prog w) A (pyNext it) (fun r s₁ => match r with
      | none => R (.ok .next) s₁
      | some v => wpAny (model prog w) A (letOwnedTupleGo t2 it v) (fun _ s₂ => wpAny (model prog w) A (assign t2 env v) (fun _ s₃ =>
          wpAny (model prog w) A (eval elt env) (fun x s₅ => wpAny (model prog w) A (call (.builtin "list.append") [acc, x]) (fun _ s₆ => ∃ m, m < n ∧ I m s₆) (fun _ _ => False) s₅) (fun _ _ => False) s₃) (fun _ _ => False) s₂) (fun _ _ => False) s₁) (fun _ _ => False) s)
    (n : Nat) (h : I n s) :
    codeAny (model prog w) A (.compLoop (.ListComp elt [⟨target, iter, ifs, 0⟩, ⟨t2, iter2, [], 0⟩] scope pos) 1 it acc env) R s := by
  refine codeAny_loop rfl I (fun n s hI => ?_) n h
  show wpAny _ _ ((compTurn (.ListComp elt [⟨target, iter, ifs, 0⟩, ⟨t2, iter2, [], 0⟩] scope pos) 1 it acc env).onRaise (fun x => do noteFrame x env; theTreesLotGoes x)) _ _ s
  refine wpAny_noted ?_
  unfold compTurn
  refine wpAny_bind (wpAny_standAt ?_)
  refine wpAny_bind (wpAny_mono (turn n s hI) (fun r s₁ h₁ => ?_) fun _ _ h' => h'.elim)
  cases r with
  | none => exact wpAny_pure h₁
  | some v =>
    refine wpAny_bind (wpAny_mono h₁ (fun _ s₂ h₂ => ?_) fun _ _ h' => h'.elim)
    refine wpAny_bind (wpAny_mono h₂ (fun _ s₃ h₃ => ?_) fun _ _ h' => h'.elim)
    refine wpAny_bind (wpAny_pure ?_)
    refine wpAny_bind ?_
    refine wpAny_bind (wpAny_mono h₃ (fun x s₅ h₅ => ?_) fun _ _ h' => h'.elim)
    exact wpAny_bind (wpAny_mono h₅ (fun _ s₆ h₆ => wpAny_pure (wpAny_pure ⟨rfl, h₆⟩)) fun _ _ h' => h'.elim)

theorem compStart1 {elt target iter t2 iter2 : Expr} {ifs : List Expr} {scope : Scope} {pos : Pos} {it acc : Value}
    (h0 : codeAny (model prog w) A (.compLoop (.ListComp elt [⟨target, iter, ifs, 0⟩, ⟨t2, iter2, [], 0⟩] scope pos) 1 it acc env) R s)
    (hself : ∀ (Q : Value → Shared → Prop) (E : Value → Shared → Prop), Q it s → wpAny (model prog w) A (pyIter it) Q E s) :
    codeAny (model prog w) A (.compStart (.ListComp elt [⟨target, iter, ifs, 0⟩, ⟨t2, iter2, [], 0⟩] scope pos) 1 it acc env) R s := by
  refine codeAny_of_tree ?_
  show wpAny _ _ ((compStart (.ListComp elt [⟨target, iter, ifs, 0⟩, ⟨t2, iter2, [], 0⟩] scope pos) 1 it acc env).onRaise (fun x => do noteFrame x env; standAt theWindowsPlace)) _ _ s
  refine wpAny_notedAt ?_
  unfold compStart
  show wpAny _ _ (ask >>= _) _ _ s
  refine wpAny_bind (wpAny_askSetting (wpAny_ite ?_))
  split
  · first
      | exact wpAny_bind (wpAny_pure (wpAny_pure (And.intro rfl h0)))
      | exact wpAny_pure (And.intro rfl h0)
  · first
      | exact wpAny_bind (wpAny_rule (wpAny_bind (wpAny_standAt (wpAny_bind (hself _ _ (wpAny_pure (And.intro rfl h0)))))))
      | (refine wpAny_bind (wpAny_rule ?_); show wpAny _ _ (standAt _ >>= _) _ _ s; exact wpAny_bind (wpAny_standAt (wpAny_bind (hself _ _ (wpAny_pure (And.intro rfl h0))))))
end
end
section
open Sem (wp)
section
variable {prog : Program} {w : World} {A : Around} {E : Value → Shared → Prop} {s : Shared} {g : Heap} {L l : Addr} {m : Str → Option Value} {cs fr : List Cl} {vs : Array Value}

theorem sumS {Q : Value → Shared → Prop} (hh : A.handled = none) (S : Sta g s.heap L m cs fr) (Hl : s.heap.IsList l vs) (hv : ∀ v ∈ vs, ∃ n t, v = Value.int n t)
    (h : ∀ n t' h' k, Sta g h' L m cs fr → Q (.int n t') { s with heap := h', toks := k }) : wpAny (model prog w) A (call (.builtin "sum") [.ref l]) Q E s := by
  refine call_sum_walkG (wpAny_pyIter_list Hl ?_)
  obtain ⟨o, ho, _⟩ := id Hl
  have hlt := Heap.lt_size ho
  have hne : l ≠ s.heap.objs.size := Nat.ne_of_lt hlt
  refine ⟨_, _, _, _, _, _, fun i => match vs[i]? with | some (.int n _) => n | _ => 0, rfl, Walks.list (A := A.in1) hh s.heap.objs.size l hne vs, ⟨⟨_, Heap.get?_push_size _ rfl, rfl, rfl⟩, Hl.push _⟩, ?_, ?_, ?_⟩
  · intro b hb
    simp only [List.mem_cons, List.not_mem_nil, or_false] at hb
    rw [Heap.size_push]
    rcases hb with rfl | rfl
    · exact Nat.lt_succ_self _
    · exact Nat.lt_succ_of_lt hlt
  · intro i v hi
    obtain ⟨n, t, rfl⟩ := hv v (Array.mem_of_getElem? hi)
    exact ⟨t, by dsimp only; rw [hi]⟩
  · intro h' tk t' hk
    refine h _ t' h' tk (S.ext fun b o e => hk b o ?_ (Heap.get?_push_of_some _ e))
    simp only [List.mem_singleton]
    exact Nat.ne_of_lt (Heap.lt_size e)

theorem pick_mem {items : Array Value} {lo hi st : Option Int} : ∀ v ∈ slicePick items lo hi st, v ∈ items := by
  intro v hv
  unfold slicePick at hv
  rw [List.mem_toArray, List.mem_filterMap] at hv
  obtain ⟨i, _, hi⟩ := hv
  exact Array.mem_of_getElem? hi

theorem slL8 {value slice : Expr} {k j : Int} {u1 u2 : Tok} {Q : Value → Shared → Prop} (S : Sta g s.heap L m cs fr) (Hl : s.heap.IsList l vs) (hsz : vs.size ≤ 1000) (hj : j ≠ 0)
    (h : ∀ D X h', (∀ v ∈ X, v ∈ vs) → Sta g h' L m ((D, lst X) :: cs) fr → Q (.ref D) { s with heap := h' })
    (hs : subscripted slice false (.ref l) (.ref s.heap.objs.size) = operate [.ref l, .ref s.heap.objs.size] (getItem (.ref l) (.ref s.heap.objs.size)))
    (ht : ∀ r, letTemporaryGo value (.ref l) r = pure ()) :
    wpAny (model prog w) A (subscriptTail value slice (.ref l) (.ref s.heap.objs.size)) Q E { s with heap := s.heap.push { cls := .type "slice", data := .fields #[.int k u1, .none, .int j u2] } } := by
  refine subscriptTail_ops (Heap.IsList.typeIs (s := { s with heap := s.heap.push { cls := .type "slice", data := .fields #[.int k u1, .none, .int j u2] } }) (Hl.push _)) list_getitem_lookup
    (wpAny_getItem_list_slice (Hl.push _) (Heap.IsSliceOf.new ..) (.int _ _) .none (.int _ _) (by simpa using hj) ?_ (by rw [sizeLine_eq]; walk_at "om")) hs ht
  exact h _ _ _ pick_mem ((S.ext fun b o e => Heap.get?_push_of_some _ e).push rfl ⟨rfl, rfl, _, rfl⟩)
end
end
section
open Sem (wp)
noncomputable abbrev cellO (v : Option Value) : Obj → Prop := fun o => o.data = .cell v
noncomputable def scL : Scope := { kind := .function, names := [("script", .cell), ("own", .cell), ("path", .cell), ("rows", .cell), ("hidden", .cell), ("front", .local), ("pairs", .local), ("left", .local), ("shown", .local), ("outer", .local), ("pattern", .local), ("shielded", .local), ("cut", .cell), ("whole", .local), ("_law_path", .globalImplicit), ("range", .globalImplicit), ("_law_rows", .globalImplicit), ("_law_hidden", .globalImplicit), ("_law_pairs", .globalImplicit), ("len", .globalImplicit), ("translate_pattern", .globalImplicit), ("list", .globalImplicit), ("_iter_escaped_chars", .globalImplicit), ("_strip_quoted_realnames", .globalImplicit), ("_check_parenthesis", .globalImplicit), ("sum", .globalImplicit)], isGenerator := false, isCoroutine := false, more := (stOf 14).2.2.2.more }
theorem scL_is : (stOf 14).2.2.2 = scL := by kernel_rfl
noncomputable def envL (L : Addr) : Env := { scope := scL, locals := L, globals := mainGlobals, cells := [("cut", L + 6), ("hidden", L + 5), ("rows", L + 4), ("path", L + 3), ("own", L + 2), ("script", L + 1)], qual := Str.ofString "law.<locals>.", func := some 87, code := .ref 86, frame := some L, builtins := builtinsNs }
theorem mkS {g h₁ : Heap} {L : Addr} {v : Value} (ns : h₁.Ns L (fun _ => none)) (keep : ∀ b o, g.get? b = some o → h₁.get? b = some o) (nog : ∀ k : Nat, g.get? (L + k) = none)
    (c1 : h₁.IsCell (L + 1) (some v)) (c2 : h₁.IsCell (L + 2) none) (c3 : h₁.IsCell (L + 3) none) (c4 : h₁.IsCell (L + 4) none) (c5 : h₁.IsCell (L + 5) none) (c6 : h₁.IsCell (L + 6) none) :
    Sta g h₁ L (fun _ => none) [(L + 1, cellO (some v)), (L + 2, cellO none), (L + 3, cellO none), (L + 4, cellO none), (L + 5, cellO none), (L + 6, cellO none)] [] := by
  have ne : ∀ k : Nat, k ≠ 0 → L + k ≠ L := fun k hk e => hk (Nat.add_left_cancel (m := k) (k := 0) e)
  refine ⟨ns, keep, nog 0, fun p hp => ?_, ?_, fun _ h => (nomatch h)⟩
  · simp only [List.mem_cons, List.not_mem_nil, or_false] at hp
    rcases hp with rfl | rfl | rfl | rfl | rfl | rfl
    · exact ⟨c1, ne 1 (by decide), nog 1⟩
    · exact ⟨c2, ne 2 (by decide), nog 2⟩
    · exact ⟨c3, ne 3 (by decide), nog 3⟩
    · exact ⟨c4, ne 4 (by decide), nog 4⟩
    · exact ⟨c5, ne 5 (by decide), nog 5⟩
    · exact ⟨c6, ne 6 (by decide), nog 6⟩
  · simp
theorem cellsOf {s s₁ : Shared} {L : Addr} {v : Value} (I : InCallC s (envL L).locals (bindL (envL L).kindOf [(("script" : Str), v)] fun _ => none) (envL L).cells (bindC (envL L).kindOf [(("script" : Str), v)] fun _ => none) s₁) :
    s₁.heap.Ns L (fun _ => none) ∧ s₁.heap.IsCell (L + 1) (some v) ∧ s₁.heap.IsCell (L + 2) none ∧ s₁.heap.IsCell (L + 3) none ∧ s₁.heap.IsCell (L + 4) none ∧ s₁.heap.IsCell (L + 5) none ∧ s₁.heap.IsCell (L + 6) none :=
  ⟨I.toInCall.ns, I.cell "script" (L + 1) rfl, I.cell "own" (L + 2) rfl, I.cell "path" (L + 3) rfl, I.cell "rows" (L + 4) rfl, I.cell "hidden" (L + 5) rfl, I.cell "cut" (L + 6) rfl⟩
section
variable {w : World} {A : Around} {s : Shared} {Q E : Value → Shared → Prop} {v : Value}

theorem enterCells {prog : Program} {o : Obj} {fd : FuncData} {body : List Stmt} {env : Addr → Env} {nm : Str} {a : Addr} {cd : Value} (hlim : s.heap.NoLimit) (hcd : s.heap.CodeRec cd nm) (hroom : A.depth < recursionLimit) (ho : s.heap.get? a = some o) (hdat : o.data = .func fd)
    (hcode : fd.code = cd) (hq : fd.qualname = nm) (hbody : fd.body = .stmts body) (hclo : fd.closure = []) (hco : fd.scope.isCoroutine = false) (hgen : fd.scope.isGenerator = false) (hkf : fd.scope.kind = .function)
    (henv : ∀ L, callEnvC fd L a = env L) (hbind : bindArgs fd ⟨[v], []⟩ = pure [(("script" : Str), v)])
    (hkind : ∀ L : Addr, fd.scope.names.lookup ("script" : Str) = some .cell ∧ ((cellsFrom (L + 1) fd.scope.names []).lookup ("script" : Str)).isSome = true)
    (hcells : ∀ (s₁ : Shared) (L : Addr), InCallC s (env L).locals (bindL (env L).kindOf [(("script" : Str), v)] fun _ => none) (env L).cells (bindC (env L).kindOf [(("script" : Str), v)] fun _ => none) s₁ →
      s₁.heap.Ns L (fun _ => none) ∧ s₁.heap.IsCell (L + 1) (some v) ∧ s₁.heap.IsCell (L + 2) none ∧ s₁.heap.IsCell (L + 3) none ∧ s₁.heap.IsCell (L + 4) none ∧ s₁.heap.IsCell (L + 5) none ∧ s₁.heap.IsCell (L + 6) none)
    (h : ∀ L h₁ t, Sta s.heap h₁ L (fun _ => none) [(L + 1, cellO (some v)), (L + 2, cellO none), (L + 3, cellO none), (L + 4, cellO none), (L + 5, cellO none), (L + 6, cellO none)] [] →
      wpAny (model prog w) (A.deeper (env L)) (execs body (env L))
        (fun f s' => Q (match f with | .ret v => v | _ => .none) s') (fun _ _ => False) { s with heap := h₁, toks := t }) :
    wpAny (model prog w) A (call (.ref a) [v]) Q E s := by
  refine wpAny_call (codeAny_call_cells hroom ho hdat hlim (hcode ▸ hq ▸ hcd) hbody hbind hclo ?_ ?_ hco hgen hkf)
  · intro x hx
    simp only [List.mem_singleton] at hx
    subst hx
    exact .inr (hkind _)
  · intro s₁ I
    rw [henv] at I ⊢
    obtain ⟨⟨h₁, t₁, rfl⟩, _, keep, fresh⟩ := I.toInCall
    have nog : ∀ k : Nat, s.heap.get? (s.heap.objs.size + k) = none := fun k => by
      cases q : s.heap.get? (s.heap.objs.size + k) with
      | none => rfl
      | some o => exact absurd (Heap.lt_size q) (Nat.not_lt.mpr (Nat.le_add_right _ _))
    obtain ⟨ns', c1, c2, c3, c4, c5, c6⟩ := hcells _ _ I
    exact wpAny_mono (h _ h₁ t₁ (mkS ns' keep nog c1 c2 c3 c4 c5 c6)) (fun _ _ x => x) fun _ _ x => x.elim

theorem enter_law {bd : List Stmt} (hbd : bd = (stOf 14).2.2.1) (X : Lib w s.heap) (hroom : A.depth < recursionLimit)
    (h : ∀ L h₁ t, Sta s.heap h₁ L (fun _ => none) [(L + 1, cellO (some v)), (L + 2, cellO none), (L + 3, cellO none), (L + 4, cellO none), (L + 5, cellO none), (L + 6, cellO none)] [] →
      wpAny (model prg w) (A.deeper (envL L)) (execs bd (envL L))
        (fun f s' => Q (match f with | .ret v => v | _ => .none) s') (fun _ _ => False) { s with heap := h₁, toks := t }) :
    wpAny (model prg w) A (call (.ref 87) [v]) Q E s := by
  have key : ∃ (o : Obj) (fd : FuncData), (heapF w.params).lookup 87 = some o ∧ o.data = .func fd ∧ fd.code = .ref 86 ∧ fd.qualname = Str.ofString "law" ∧ fd.body = .stmts (stOf 14).2.2.1 ∧ fd.closure = [] ∧ fd.scope = scL ∧
      fd.globals = mainGlobals ∧ fd.builtins = builtinsNs ∧ bindArgs fd ⟨[v], []⟩ = pure [(("script" : Str), v)] := by
    refine ⟨_, _, rfl, rfl, ?_, ?_, ?_, ?_, ?_, ?_, ?_, ?_⟩ <;> kernel_rfl
  rw [← hbd] at key
  obtain ⟨o, fd, ho, hdat, hcode, hq, hbody, hclo, hsc, hgl, hbn, hbind⟩ := key
  have hcd : codeIn (heapF w.params) (.ref 86) (Str.ofString "law") = true := by kernel_rfl
  clear hbd
  refine enterCells (env := envL) X.lim (codeRec_of X.K hcd) hroom (X.K _ _ ho) hdat hcode hq hbody hclo (by rw [hsc]; rfl) (by rw [hsc]; rfl) (by rw [hsc]; rfl) ?_ hbind ?_ ?_ h
  · intro L
    unfold callEnvC newEnv envL
    rw [hsc, hgl, hq, hcode, hbn]
    rfl
  · intro L
    rw [hsc]; exact ⟨rfl, rfl⟩
  · intro s₁ L I
    exact cellsOf I
end
end
section
open Sem (wp)
section
variable {prog : Program} {w : World} {A : Around} {E : Value → Shared → Prop} {s : Shared} {g h : Heap} {L C D it : Addr} {m : Str → Option Value} {cs cs' fr : List Cl} {env : Env}

theorem Sta.dropL {pre : List Cl} (S : Sta g h L m (pre ++ cs) fr) : Sta g h L m cs fr :=
  ⟨S.ns, S.keep, S.gL, fun p hp => S.cell p (List.mem_append_right _ hp), by have := S.nd; rw [List.map_append, List.nodup_append] at this; exact this.2.1,
   fun p hp => let f := S.frz p hp; ⟨f.1, f.2.1, f.2.2.1, fun q => f.2.2.2 (by rw [List.map_append]; exact List.mem_append_right _ q)⟩⟩

/-- what one element of a comprehension leaves -/
inductive CE0 (G : Array GenState) (d : Drawn) (o : OsState) (g : Heap) (C D it : Addr) (vs : List Value) (Cn : Obj → Prop) (P : List Cl → Prop) (s' : Shared) : Prop
  | mk (h : Heap) (t : Nat) (m : Str → Option Value) (extra fr : List Cl) (e : s' = ⟨h, G, d, t, o⟩) (S : Sta g h C m (extra ++ [(D, lst vs.toArray), (it, Cn)]) fr) (p : P fr)
noncomputable abbrev CE (s : Shared) (g : Heap) (C D it : Addr) (vs : List Value) (Cn : Obj → Prop) (P : List Value → List Cl → Prop) (y : Value) (s' : Shared) : Prop := CE0 s.gens s.drawn s.os g C D it vs Cn (P (vs ++ [y])) s'
/-- and what it leaves when it is passed over -/
noncomputable abbrev CN (s : Shared) (g : Heap) (C D it : Addr) (vs : List Value) (Cn : Obj → Prop) (P : List Value → List Cl → Prop) (s' : Shared) : Prop := CE0 s.gens s.drawn s.os g C D it vs Cn (P vs) s'
inductive CompI (G : Array GenState) (d : Drawn) (o : OsState) (g : Heap) (C D it : Addr) (Cn : Nat → Obj → Prop) (n : Nat) (P : Nat → List Value → List Cl → Prop) (k : Nat) (s' : Shared) : Prop
  | mk (i : Nat) (h : Heap) (t : Nat) (m : Str → Option Value) (vs : List Value) (fr : List Cl) (e : s' = ⟨h, G, d, t, o⟩) (hi : i ≤ n) (ek : k = n - i) (S : Sta g h C m [(D, lst vs.toArray), (it, Cn i)] fr) (p : P i vs fr)

theorem compIt {elt target iter : Expr} {ifs : List Expr} {scope : Scope} {pos : Pos} (hlen : ifs.length ≤ 1) (Cn : Nat → Obj → Prop) (V : Nat → Value → List Cl → Prop) (n : Nat) (hn : n ≤ 10000) (P : Nat → List Value → List Cl → Prop)
    (next : ∀ i m cs fr (s : Shared) (Q : Option Value → Shared → Prop) (E : Value → Shared → Prop), i < n → Sta g s.heap C m ((it, Cn i) :: cs) fr →
      (∀ v h' t', V i v fr → Sta g h' C m ((it, Cn (i + 1)) :: cs) fr → Q (some v) { s with heap := h', toks := t' }) → wpAny (model prog w) A (pyNext (.ref it)) Q E s)
    (done : ∀ m cs fr (s : Shared) (Q : Option Value → Shared → Prop) (E : Value → Shared → Prop), Sta g s.heap C m ((it, Cn n) :: cs) fr →
      (∀ h' t', Sta g h' C m cs fr → Q none { s with heap := h', toks := t' }) → wpAny (model prog w) A (pyNext (.ref it)) Q E s)
    (S : Sta g s.heap C m [(D, lst #[]), (it, Cn 0)] fr) (h0 : P 0 [] fr)
    (hlenP : ∀ i vs fr, P i vs fr → vs.length ≤ i)
    (letG : ∀ v (s : Shared) (Q : Unit → Shared → Prop) (E : Value → Shared → Prop) i, Holds s.heap (it, Cn i) → Q () s → wpAny (model prog w) A (letOwnedTupleGo target (.ref it) v) Q E s)
    (step : ∀ i v m' vs fr' h' t', i < n → V i v fr' → P i vs fr' → Sta g h' C m' [(D, lst vs.toArray), (it, Cn (i + 1))] fr' →
      wpAny (model prog w) A (assign target env v) (fun _ s₃ => IfsP (model prog w) A env ifs (fun ok s₄ => if ok = true then wpAny (model prog w) A (eval elt env) (CE s g C D it vs (Cn (i + 1)) (P (i + 1))) (fun _ _ => False) s₄
        else CN s g C D it vs (Cn (i + 1)) (P (i + 1)) s₄) s₃) (fun _ _ => False) { s with heap := h', toks := t' }) :
    codeAny (model prog w) A (.compLoop (.ListComp elt [⟨target, iter, ifs, 0⟩] scope pos) 0 (.ref it) (.ref D) env)
      (fun r s' => r = .ok .next ∧ ∃ h3 t3 m3 vs fr3, s' = { s with heap := h3, toks := t3 } ∧ Sta g h3 C m3 [(D, lst vs)] fr3 ∧ ∃ l, vs = l.toArray ∧ P n l fr3) s := by
  refine compLoop1 hlen (CompI s.gens s.drawn s.os g C D it Cn n P) ?_ n
    ⟨0, s.heap, s.toks, m, [], fr, rfl, Nat.zero_le _, rfl, S, h0⟩
  rintro k s' ⟨i, h1, t1, m1, vs, fr1, rfl, hi, rfl, S1, hP⟩
  have S1' : Sta g h1 C m1 [(it, Cn i), (D, lst vs.toArray)] fr1 := S1.perm (List.Perm.swap _ _ _)
  by_cases hin : i < n
  · refine next i m1 _ fr1 _ _ _ hin S1' fun v h2 t2 hV S2 => ?_
    have S2' : Sta g h2 C m1 [(D, lst vs.toArray), (it, Cn (i + 1))] fr1 := S2.perm (List.Perm.swap _ _ _)
    refine letG v _ _ _ (i + 1) (S2.atC (.head _)) ?_
    refine wpAny_mono (step i v m1 vs fr1 h2 t2 hin hV hP S2') (fun _ s₃ h₃ => ?_) fun _ _ x => x.elim
    have conv : ∀ ok s₄, (if ok = true then wpAny (model prog w) A (eval elt env) (CE s g C D it vs (Cn (i + 1)) (P (i + 1))) (fun _ _ => False) s₄ else CN s g C D it vs (Cn (i + 1)) (P (i + 1)) s₄) →
        (if ok = true then wpAny (model prog w) A (eval elt env) (fun x s₅ => wpAny (model prog w) A (call (.builtin "list.append") [.ref D, x]) (fun _ s₆ => ∃ m_1, m_1 < n - i ∧ CompI s.gens s.drawn s.os g C D it Cn n P m_1 s₆) (fun _ _ => False) s₅) (fun _ _ => False) s₄
          else ∃ m_1, m_1 < n - i ∧ CompI s.gens s.drawn s.os g C D it Cn n P m_1 s₄) := by
      intro ok s₄ h₄
      cases ok with
      | true =>
        rw [if_pos rfl] at h₄ ⊢
        refine wpAny_mono h₄ (fun y s₅ h₅ => ?_) fun _ _ x => x
        obtain ⟨h5, t5, m5, extra, fr5, rfl, S5, hP5⟩ := h₅
        have S6 := S5.dropL
        have hvl : vs.toArray.size ≤ 100000 := by
          have := hlenP _ _ _ hP5
          rw [List.length_append] at this
          rw [List.size_toArray]
          walk_at "om"
        refine apS (s := { s with heap := h5, toks := t5 }) S6 .head (fun h7 S7 => ?_) (by rw [sizeLine_eq]; walk_at "om")
        exact ⟨n - (i + 1), by walk_at "om", i + 1, h7, t5, m5, vs ++ [y], fr5, rfl, hin, rfl, by rw [show (vs ++ [y]).toArray = vs.toArray.push y by simp]; exact S7, hP5⟩
      | false =>
        rw [if_neg Bool.false_ne_true] at h₄ ⊢
        obtain ⟨h5, t5, m5, extra, fr5, rfl, S5, hP5⟩ := h₄
        exact ⟨n - (i + 1), by walk_at "om", i + 1, h5, t5, m5, vs, fr5, rfl, hin, rfl, S5.dropL, hP5⟩
    unfold IfsP at h₃ ⊢
    split at h₃
    · exact conv _ _ h₃
    · exact wpAny_mono h₃ (fun ok s₄ h₄ => conv ok s₄ h₄) fun _ _ x => x
  · have : i = n := by walk_at "om"
    subst this
    refine done m1 _ fr1 _ _ _ S1' fun h2 t2 S2 => ?_
    exact ⟨rfl, h2, t2, m1, _, fr1, rfl, S2, vs, rfl, hP⟩
end
end
section
open Sem (wp)
section
variable {prog : Program} {w : World} {A : Around} {E : Value → Shared → Prop} {s : Shared} {env : Env}

theorem rng_iter {r : Addr} {n : Nat} {Q : Value → Shared → Prop} (hr : Holds s.heap (r, rng 0 n)) (hn : n ≤ 10000)
    (hQ : ∀ I h', (∀ b o, s.heap.get? b = some o → h'.get? b = some o) → s.heap.get? I = none → Holds h' (I, rit 0 n) → Q (.ref I) { s with heap := h' }) : wpAny (model prog w) A (pyIter (.ref r)) Q E s := by
  obtain ⟨o, ho, t, u, v, rfl⟩ := hr
  refine wpAny_pyIter_range ho (small_one (by walk_at "om") (by walk_at "om") (by walk_at "om") (by walk_at "om")) ?_
  rw [rangeSize_one]
  have e : (if (0 : Int) < n then (n : Int) - 0 else 0) = n := by split <;> walk_at "om"
  rw [e]
  refine hQ _ _ (fun b o q => Heap.get?_push_of_some _ q) ?_ ⟨_, Heap.get?_push_size _ rfl, rfl⟩
  cases q : s.heap.get? s.heap.objs.size with
  | none => rfl
  | some o => exact absurd (Heap.lt_size q) (Nat.lt_irrefl _)
theorem rng_self {I : Addr} {a b : Int} {Q : Value → Shared → Prop} (hI : Holds s.heap (I, rit a b)) (hQ : Q (.ref I) s) : wpAny (model prog w) A (pyIter (.ref I)) Q E s := by
  obtain ⟨o, ho, rfl⟩ := hI
  exact wpAny_pyIter_rangeiter ho hQ
section
variable {g : Heap} {L it : Addr} {m : Str → Option Value} {cs fr : List Cl} {n i : Nat} {Q : Option Value → Shared → Prop}
theorem rng_item (hi : i < n) (S : Sta g s.heap L m ((it, rit (i : Nat) (n - (i : Nat))) :: cs) fr)
    (hQ : ∀ h' u t', Sta g h' L m ((it, rit ((i + 1 : Nat) : Int) (n - (i + 1 : Nat))) :: cs) fr → Q (some (.int (i : Nat) u)) { s with heap := h', toks := t' }) : wpAny (model prog w) A (pyNext (.ref it)) Q E s := by
  obtain ⟨o, ho, rfl⟩ := S.atC (.head _)
  refine wpAny_pyNext_range_item ho (by walk_at "om") fun h' hit hs => ?_
  refine hQ h' _ _ (S.upd .head hs.extBut ⟨_, hit, ?_⟩)
  have e1 : (i : Int) + 1 = ((i + 1 : Nat) : Int) := by walk_at "om"
  have e2 : (n : Int) - (i : Int) - 1 = n - ((i + 1 : Nat) : Int) := by walk_at "om"
  rw [e1, e2]
theorem rng_end (hh : A.handled = none) (S : Sta g s.heap L m ((it, rit (n : Nat) (n - (n : Nat))) :: cs) fr) (hQ : ∀ h', Sta g h' L m cs fr → Q none { s with heap := h' }) : wpAny (model prog w) A (pyNext (.ref it)) Q E s := by
  obtain ⟨o, ho, rfl⟩ := S.atC (.head _)
  exact wpAny_pyNext_range_end hh ho (by walk_at "om") fun h' he => hQ h' (S.lose .head he)
theorem lst_item {l : Addr} {its : Array Value} (hi : i < its.size) (hl : g.IsList l its) (S : Sta g s.heap L m ((it, lit l i) :: cs) fr) (hQ : ∀ h', Sta g h' L m ((it, lit l (i + 1)) :: cs) fr → Q (some its[i]) { s with heap := h' }) : wpAny (model prog w) A (pyNext (.ref it)) Q E s := by
  obtain ⟨o, a, b⟩ := hl
  exact wpAny_pyNext_list_item (x := its[i]) (S.atC (.head _)) ⟨o, S.keep _ _ a, b⟩ (Array.getElem?_eq_getElem hi) fun h' hit hs => hQ h' (S.upd .head hs.extBut hit)
theorem lst_end {l : Addr} {its : Array Value} (hh : A.handled = none) (hl : g.IsList l its) (S : Sta g s.heap L m ((it, lit l its.size) :: cs) fr) (hQ : ∀ h', Sta g h' L m cs fr → Q none { s with heap := h' }) : wpAny (model prog w) A (pyNext (.ref it)) Q E s := by
  obtain ⟨o, a, b⟩ := hl
  exact wpAny_pyNext_list_end hh (S.atC (.head _)) ⟨o, S.keep _ _ a, b⟩ (by simp) fun h' he => hQ h' (S.lose .head he)
end

/-- what stands when the iterable of a comprehension over range(n) is made -/
inductive RP (prog : Program) (w : World) (A : Around) (env : Env) (scope : Scope) (cl : List (Str × Addr)) (elt : Expr) (ifs : List Expr) (x : Str) (P : Nat → List Value → List Cl → Prop) (Q : Value → Shared → Prop) (xv : Value) (s₁ : Shared) : Prop
  | mk (r : Addr) (n : Nat) (x0 : xv = .ref r) (x1 : Holds s₁.heap (r, rng 0 n)) (x2 : n ≤ 10000) (x3 : P 0 [] []) (x4 : (∀ i vs fr, P i vs fr → vs.length ≤ i)) (x5 : (∀ D C it i vs fr h t u m, i < n → P i vs fr → Sta s₁.heap h C (up m x (.int (i : Nat) u)) [(D, lst vs.toArray), (it, rit ((i + 1 : Nat) : Int) (n - (i + 1 : Nat)))] fr →
      IfsP (model prog w) A (compEnvC scope cl C env) ifs (fun ok s₄ => if ok = true then wpAny (model prog w) A (eval elt (compEnvC scope cl C env)) (CE s₁ s₁.heap C D it vs (rit ((i + 1 : Nat) : Int) (n - (i + 1 : Nat))) (P (i + 1))) (fun _ _ => False) s₄
        else CN s₁ s₁.heap C D it vs (rit ((i + 1 : Nat) : Int) (n - (i + 1 : Nat))) (P (i + 1)) s₄) { s₁ with heap := h, toks := t })) (x6 : (∀ D l fr h t, Made s₁.heap h ((D, lst l.toArray) :: fr) → (∀ b o, s₁.heap.get? b = some o → h.get? b = some o) → P n l fr → Q (.ref D) { s₁ with heap := h, toks := t }))

theorem comp_rng {elt iter : Expr} {x : Str} {px : Pos} {ifs : List Expr} {scope : Scope} {cl : List (Str × Addr)} {pos : Pos} {Q : Value → Shared → Prop} (P : Nat → List Value → List Cl → Prop)
    (hclos : closureFor scope env = pure cl) (hcell : ∀ y ∈ scope.names, y.2 ≠ .cell) (hkind : scope.kind = .function)
    (hnames : ∀ y ∈ scope.names, y.2 = .local → scope.names.lookup y.1 = some .local) (hx : scope.names.lookup x = some .local) (hlen : ifs.length ≤ 1) (hh : A.handled = none)
    (h : wpAny (model prog w) A (eval iter env) (RP prog w A env scope cl elt ifs x P Q) E s)
    (hs : ∀ x, foldedSetIterable iter env x = pure x := by intro _; rfl) :
    wpAny (model prog w) A (eval (.ListComp elt [⟨.Name x px, iter, ifs, 0⟩] scope pos) env) Q E s := by
  refine comp_S hclos hcell hkind hnames (wpAny_mono h (fun xv s₁ h₁ => ?_) fun _ _ e => e) hs
  obtain ⟨r, n, rfl, hr, hn, h0, hlenP, step, fin⟩ := h₁
  refine ⟨rit 0 n, fun vs fr => ∃ l, vs = l.toArray ∧ P n l fr, fun Q hQ => ?_, fun I s Q E hI hQ => ?_, fun D C I h₂ t₂ S => ?_, fun D vs fr3 h4 t4 hM hk hP => ?_⟩
  · exact rng_iter hr hn hQ
  · exact rng_self hI hQ
  · have S' : Sta s₁.heap h₂ C (fun _ => none) [(D, lst #[]), (I, rit ((0 : Nat) : Int) (n - (0 : Nat)))] [] := by simpa using S
    refine codeAny_mono (compIt (s := { s₁ with heap := h₂, toks := t₂ }) hlen (fun i => rit (i : Nat) (n - (i : Nat))) (fun i v _ => ∃ u, v = .int (i : Nat) u) n hn P (fun i m cs fr s' Q E hi S1 hQ => ?_) (fun m cs fr s' Q E S1 hQ => ?_) S' h0 hlenP
      (fun v s Q E i _ hQ => wpAny_of_eq rfl hQ) (fun i v m' vs fr' h' t' hi hV hP S2 => ?_)) fun r s' hr => hr
    · exact rng_item hi S1 fun h' u t' S2 => hQ _ h' t' ⟨u, rfl⟩ S2
    · exact rng_end hh S1 fun h' S2 => hQ h' s'.toks S2
    · obtain ⟨u, rfl⟩ := hV
      refine wpAny_assign_Name (stv (s := { s₁ with heap := h', toks := t' }) S2 (fun h3 t3 S3 => ?_) rfl (lookup_relabel_local hx) (by simp [compEnvC, relabel, hkind]))
      exact step D C I i vs fr' h3 t3 u m' hi hP S3
  · obtain ⟨l, rfl, hP⟩ := hP
    exact fin D l fr3 h4 t4 hM hk hP

/-- and over a list -/
inductive LP (prog : Program) (w : World) (A : Around) (env : Env) (scope : Scope) (cl : List (Str × Addr)) (elt target : Expr) (ifs : List Expr) (P : Nat → List Value → List Cl → Prop) (Q : Value → Shared → Prop) (xv : Value) (s₁ : Shared) : Prop
  | mk (l : Addr) (its : Array Value) (x0 : xv = .ref l) (x1 : s₁.heap.IsList l its) (x2 : its.size ≤ 10000) (x3 : P 0 [] []) (x4 : (∀ i vs fr, P i vs fr → vs.length ≤ i)) (x5 : (∀ D C it i v vs fr h t m, its[i]? = some v → P i vs fr → Sta s₁.heap h C m [(D, lst vs.toArray), (it, lit l (i + 1))] fr →
      wpAny (model prog w) A (assign target (compEnvC scope cl C env) v) (fun _ s₃ => IfsP (model prog w) A (compEnvC scope cl C env) ifs (fun ok s₄ => if ok = true then wpAny (model prog w) A (eval elt (compEnvC scope cl C env)) (CE s₁ s₁.heap C D it vs (lit l (i + 1)) (P (i + 1))) (fun _ _ => False) s₄
        else CN s₁ s₁.heap C D it vs (lit l (i + 1)) (P (i + 1)) s₄) s₃) (fun _ _ => False) { s₁ with heap := h, toks := t })) (x6 : (∀ D vs fr h t, Made s₁.heap h ((D, lst vs.toArray) :: fr) → (∀ b o, s₁.heap.get? b = some o → h.get? b = some o) → P its.size vs fr → Q (.ref D) { s₁ with heap := h, toks := t }))

theorem iter_new {l : Addr} {its : Array Value} {Q : Value → Shared → Prop} (hl : s.heap.IsList l its) (hQ : ∀ I h', (∀ b o, s.heap.get? b = some o → h'.get? b = some o) → s.heap.get? I = none → Holds h' (I, lit l 0) → Q (.ref I) { s with heap := h' }) :
    wpAny (model prog w) A (pyIter (.ref l)) Q E s := by
  refine wpAny_pyIter_list hl (hQ _ _ (fun b o q => Heap.get?_push_of_some _ q) ?_ ⟨_, Heap.get?_push_size _ rfl, rfl, rfl⟩)
  cases q : s.heap.get? s.heap.objs.size with
  | none => rfl
  | some o => exact absurd (Heap.lt_size q) (Nat.lt_irrefl _)

theorem comp_lst {elt iter target : Expr} {ifs : List Expr} {scope : Scope} {cl : List (Str × Addr)} {pos : Pos} {Q : Value → Shared → Prop} (P : Nat → List Value → List Cl → Prop)
    (hclos : closureFor scope env = pure cl) (hcell : ∀ y ∈ scope.names, y.2 ≠ .cell) (hkind : scope.kind = .function)
    (hnames : ∀ y ∈ scope.names, y.2 = .local → scope.names.lookup y.1 = some .local) (hlen : ifs.length ≤ 1) (hh : A.handled = none)
    (hlet : ∀ it l i v (s : Shared) (Q : Unit → Shared → Prop) (E : Value → Shared → Prop), s.heap.IsListIter it l i → Q () s → wpAny (model prog w) A (letOwnedTupleGo target (.ref it) v) Q E s)
    (h : wpAny (model prog w) A (eval iter env) (LP prog w A env scope cl elt target ifs P Q) E s)
    (hs : ∀ x, foldedSetIterable iter env x = pure x := by intro _; rfl) :
    wpAny (model prog w) A (eval (.ListComp elt [⟨target, iter, ifs, 0⟩] scope pos) env) Q E s := by
  refine comp_S hclos hcell hkind hnames (wpAny_mono h (fun xv s₁ h₁ => ?_) fun _ _ e => e) hs
  obtain ⟨l, its, rfl, hl, hn, h0, hlenP, step, fin⟩ := h₁
  refine ⟨lit l 0, fun vs fr => ∃ l, vs = l.toArray ∧ P its.size l fr, fun Q hQ => iter_new hl hQ, fun I s Q E hI hQ => wpAny_pyIter_listiter hI hQ, fun D C I h₂ t₂ S => ?_, fun D vs fr3 h4 t4 hM hk hP => ?_⟩
  · refine codeAny_mono (compIt (s := { s₁ with heap := h₂, toks := t₂ }) hlen (lit l) (fun i v _ => its[i]? = some v) its.size hn P (fun i m cs fr s' Q E hi S1 hQ => ?_) (fun m cs fr s' Q E S1 hQ => ?_) S h0 hlenP
      (fun v s Q E i hI hQ => hlet _ _ _ _ _ _ _ hI hQ) (fun i v m' vs fr' h' t' hi hV hP S2 => step D C I i v vs fr' h' t' m' hV hP S2)) fun r s' hr => hr
    · exact lst_item hi hl S1 fun h' S2 => hQ _ h' s'.toks (Array.getElem?_eq_getElem hi) S2
    · exact lst_end hh hl S1 fun h' S2 => hQ h' s'.toks S2
  · obtain ⟨l, rfl, hP⟩ := hP
    exact fin D l fr3 h4 t4 hM hk hP
end
end
section
open Sem (wp)
section
variable {prog : Program} {w : World} {A : Around} {E : Value → Shared → Prop} {s : Shared} {g h : Heap} {L C D it : Addr} {m : Str → Option Value} {cs cs' fr : List Cl} {env : Env}

/-- the inner iterable of a comprehension with two clauses: a list that stands -/
inductive CE20 (G : Array GenState) (d : Drawn) (o : OsState) (g : Heap) (C D it : Addr) (vs : List Value) (Cn : Obj → Prop) (P : List Value → Prop) (xv : Value) (s' : Shared) : Prop
  | mk (R : Addr) (ws : List Value) (h : Heap) (t : Nat) (m : Str → Option Value) (extra : List Cl) (ex : xv = .ref R) (e : s' = ⟨h, G, d, t, o⟩) (S : Sta g h C m (extra ++ [(D, lst vs.toArray), (it, Cn)]) []) (l : g.IsList R ws.toArray) (p : P (vs ++ ws))
noncomputable abbrev CE2 (s : Shared) (g : Heap) (C D it : Addr) (vs : List Value) (Cn : Obj → Prop) (P : List Value → Prop) (xv : Value) (s' : Shared) : Prop := CE20 s.gens s.drawn s.os g C D it vs Cn P xv s'
inductive CN20 (G : Array GenState) (d : Drawn) (o : OsState) (g : Heap) (C D it : Addr) (vs : List Value) (Cn : Obj → Prop) (p : Prop) (s' : Shared) : Prop
  | mk (h : Heap) (t : Nat) (m : Str → Option Value) (extra : List Cl) (e : s' = ⟨h, G, d, t, o⟩) (S : Sta g h C m (extra ++ [(D, lst vs.toArray), (it, Cn)]) []) (hp : p)
noncomputable abbrev CN2 (s : Shared) (g : Heap) (C D it : Addr) (vs : List Value) (Cn : Obj → Prop) (P : List Value → Prop) (s' : Shared) : Prop := CN20 s.gens s.drawn s.os g C D it vs Cn (P vs) s'
inductive CompI2 (G : Array GenState) (d : Drawn) (o : OsState) (g : Heap) (C D it : Addr) (Cn : Nat → Obj → Prop) (n : Nat) (P : Nat → List Value → Prop) (k : Nat) (s' : Shared) : Prop
  | mk (i : Nat) (h : Heap) (t : Nat) (m : Str → Option Value) (vs : List Value) (e : s' = ⟨h, G, d, t, o⟩) (hi : i ≤ n) (ek : k = n - i) (S : Sta g h C m [(D, lst vs.toArray), (it, Cn i)] []) (p : P i vs)
inductive CompJ (G : Array GenState) (d : Drawn) (o : OsState) (g : Heap) (C D I it Rr : Addr) (Cn : Obj → Prop) (vs ws : List Value) (k : Nat) (s' : Shared) : Prop
  | mk (j : Nat) (h : Heap) (t : Nat) (m : Str → Option Value) (e : s' = ⟨h, G, d, t, o⟩) (hj : j ≤ ws.length) (ek : k = ws.length - j) (S : Sta g h C m [(I, lit Rr j), (D, lst (vs ++ ws.take j).toArray), (it, Cn)] [])

theorem compIt2 {y : Str} {py py2 : Pos} {target iter iter2 : Expr} {ifs : List Expr} {scope : Scope} {pos : Pos} (hh : A.handled = none) (hlen : ifs.length ≤ 1) (Cn : Nat → Obj → Prop) (V : Nat → Value → Prop) (n : Nat) (P : Nat → List Value → Prop)
    (next : ∀ i m cs (s : Shared) (Q : Option Value → Shared → Prop) (E : Value → Shared → Prop), i < n → Sta g s.heap C m ((it, Cn i) :: cs) [] →
      (∀ v h' t', V i v → Sta g h' C m ((it, Cn (i + 1)) :: cs) [] → Q (some v) { s with heap := h', toks := t' }) → wpAny (model prog w) A (pyNext (.ref it)) Q E s)
    (done : ∀ m cs (s : Shared) (Q : Option Value → Shared → Prop) (E : Value → Shared → Prop), Sta g s.heap C m ((it, Cn n) :: cs) [] →
      (∀ h' t', Sta g h' C m cs [] → Q none { s with heap := h', toks := t' }) → wpAny (model prog w) A (pyNext (.ref it)) Q E s)
    (S : Sta g s.heap C m [(D, lst #[]), (it, Cn 0)] []) (h0 : P 0 [])
    (hlenP : ∀ i vs, P i vs → vs.length ≤ 100000)
    (letG : ∀ v (s : Shared) (Q : Unit → Shared → Prop) (E : Value → Shared → Prop) i, Holds s.heap (it, Cn i) → Q () s → wpAny (model prog w) A (letOwnedTupleGo target (.ref it) v) Q E s)
    (hL : env.locals = C) (hl : env.kindOf y = some .local) (hkf : env.scope.kind = .function) (hyd : (y == ("__debug__" : Str)) = false) (hs : ∀ x, foldedSetIterable iter2 env x = pure x)
    (step : ∀ i v m' vs h' t', i < n → V i v → P i vs → Sta g h' C m' [(D, lst vs.toArray), (it, Cn (i + 1))] [] →
      wpAny (model prog w) A (assign target env v) (fun _ s₃ => IfsP (model prog w) A env ifs (fun ok s₄ => if ok = true then wpAny (model prog w) A (eval iter2 env) (CE2 s g C D it vs (Cn (i + 1)) (P (i + 1))) (fun _ _ => False) s₄
        else CN2 s g C D it vs (Cn (i + 1)) (P (i + 1)) s₄) s₃) (fun _ _ => False) { s with heap := h', toks := t' }) :
    codeAny (model prog w) A (.compLoop (.ListComp (.Name y py) [⟨target, iter, ifs, 0⟩, ⟨.Name y py2, iter2, [], 0⟩] scope pos) 0 (.ref it) (.ref D) env)
      (fun r s' => r = .ok .next ∧ ∃ h3 t3 m3 vs, s' = { s with heap := h3, toks := t3 } ∧ Sta g h3 C m3 [(D, lst vs)] [] ∧ ∃ l, vs = l.toArray ∧ P n l) s := by
  refine compLoop20 hlen (CompI2 s.gens s.drawn s.os g C D it Cn n P) ?_ n
    ⟨0, s.heap, s.toks, m, [], rfl, Nat.zero_le _, rfl, S, h0⟩ hs
  rintro k s' ⟨i, h1, t1, m1, vs, rfl, hi, rfl, S1, hP⟩
  have S1' : Sta g h1 C m1 [(it, Cn i), (D, lst vs.toArray)] [] := S1.perm (List.Perm.swap _ _ _)
  by_cases hin : i < n
  · refine next i m1 _ _ _ _ hin S1' fun v h2 t2 hV S2 => ?_
    have S2' : Sta g h2 C m1 [(D, lst vs.toArray), (it, Cn (i + 1))] [] := S2.perm (List.Perm.swap _ _ _)
    refine letG v _ _ _ (i + 1) (S2.atC (.head _)) ?_
    refine wpAny_mono (step i v m1 vs h2 t2 hin hV hP S2') (fun _ s₃ h₃ => ?_) fun _ _ x => x.elim
    have conv : ∀ ok s₄, (if ok = true then wpAny (model prog w) A (eval iter2 env) (CE2 s g C D it vs (Cn (i + 1)) (P (i + 1))) (fun _ _ => False) s₄ else CN2 s g C D it vs (Cn (i + 1)) (P (i + 1)) s₄) →
        (if ok = true then wpAny (model prog w) A (eval iter2 env) (fun x s₅ => wpAny (model prog w) A (pyIter x) (fun it2 s₆ =>
            codeAny (model prog w) A (.compStart (.ListComp (.Name y py) [⟨target, iter, ifs, 0⟩, ⟨.Name y py2, iter2, [], 0⟩] scope pos) 1 it2 (.ref D) env) (fun r s₇ => r = .ok .next ∧ ∃ m_1, m_1 < n - i ∧ CompI2 s.gens s.drawn s.os g C D it Cn n P m_1 s₇) s₆) (fun _ _ => False) s₅) (fun _ _ => False) s₄
          else ∃ m_1, m_1 < n - i ∧ CompI2 s.gens s.drawn s.os g C D it Cn n P m_1 s₄) := by
      intro ok s₄ h₄
      cases ok with
      | true =>
        rw [if_pos rfl] at h₄ ⊢
        refine wpAny_mono h₄ (fun y s₅ h₅ => ?_) fun _ _ x => x
        obtain ⟨Rr, ws, h5, t5, m5, extra, rfl, rfl, S5, hR, hP5⟩ := h₅
        have S6 := S5.dropL
        have hRs : ∀ {h' : Heap} {m' cs'}, Sta g h' C m' cs' [] → h'.IsList Rr ws.toArray := fun S' => let ⟨o, a, b⟩ := hR; ⟨o, S'.keep _ _ a, b⟩
        have hvl := hlenP _ _ hP5
        rw [List.length_append] at hvl
        refine iter_new (s := { s with heap := h5, toks := t5 }) (hRs S6) fun I h6 k6 nI HI => ?_
        have S7 := S6.new k6 nI HI
        refine compStart1 ?_ (fun Q E hQ => wpAny_pyIter_listiter HI hQ)
        refine compLoop21 (CompJ s.gens s.drawn s.os g C D I it Rr (Cn (i + 1)) vs ws) ?_ ws.length
          ⟨0, h6, t5, m5, rfl, Nat.zero_le _, rfl, by rw [List.take_zero, List.append_nil]; exact S7⟩
        rintro k' s' ⟨j, h8, t8, m8, rfl, hj, rfl, S8⟩
        by_cases hjn : j < ws.length
        · have hget : ws.toArray[j]? = some ws[j] := by rw [List.getElem?_toArray, List.getElem?_eq_getElem hjn]
          refine wpAny_pyNext_list_item (x := ws[j]) (S8.atC (.head _)) (hRs S8) hget fun h9 hit hs9 => ?_
          have S9 := S8.upd (.head (P' := lit Rr (j + 1))) hs9.extBut hit
          refine wpAny_of_eq (a := ()) rfl ?_
          refine wpAny_assign_Name (stv (s := { s with heap := h9, toks := t8 }) S9 (fun h10 t10 S10 => ?_) hL hl (by rw [hkf]; rfl))
          refine wpAny_Name (wpAny_loadName_local hkf hl (hL.symm ▸ S10.ns) up_eq ?_) hyd
          refine apS (s := { s with heap := h10, toks := t10 }) S10 (.tail .head) (fun h11 S11 => ?_) (by
            rw [sizeLine_eq, List.size_toArray, List.length_append, List.length_take]; walk_at "om")
          have e : (vs ++ ws.take (j + 1)).toArray = (vs ++ ws.take j).toArray.push ws[j] := by
            rw [List.take_add_one, List.getElem?_eq_getElem hjn]
            simp
          rw [← e] at S11
          exact ⟨ws.length - (j + 1), by walk_at "om", j + 1, h11, t10, _, rfl, hjn, rfl, S11⟩
        · have : j = ws.length := by walk_at "om"
          subst this
          refine wpAny_pyNext_list_end hh (S8.atC (.head _)) (hRs S8) (by simp) fun h9 he => ?_
          have S9 := S8.lose .head he
          rw [List.take_length] at S9
          exact ⟨rfl, n - (i + 1), by walk_at "om", i + 1, h9, t8, m8, vs ++ ws, rfl, hin, rfl, S9, hP5⟩
      | false =>
        rw [if_neg Bool.false_ne_true] at h₄ ⊢
        obtain ⟨h5, t5, m5, extra, rfl, S5, hP5⟩ := h₄
        exact ⟨n - (i + 1), by walk_at "om", i + 1, h5, t5, m5, vs, rfl, hin, rfl, S5.dropL, hP5⟩
    unfold IfsP at h₃ ⊢
    split at h₃
    · exact conv _ _ h₃
    · exact wpAny_mono h₃ (fun ok s₄ h₄ => conv ok s₄ h₄) fun _ _ x => x
  · have : i = n := by walk_at "om"
    subst this
    refine done m1 _ _ _ _ S1' fun h2 t2 S2 => ?_
    exact ⟨rfl, h2, t2, m1, _, rfl, S2, vs, rfl, hP⟩
end
end
section
open Sem (wp)
section
variable {prog : Program} {w : World} {A : Around} {E : Value → Shared → Prop} {s : Shared} {env : Env}

inductive RP2 (prog : Program) (w : World) (A : Around) (env : Env) (scope : Scope) (cl : List (Str × Addr)) (iter2 : Expr) (ifs : List Expr) (x : Str) (P : Nat → List Value → Prop) (Q : Value → Shared → Prop) (xv : Value) (s₁ : Shared) : Prop
  | mk (r : Addr) (n : Nat) (x0 : xv = .ref r) (x1 : Holds s₁.heap (r, rng 0 n)) (x2 : n ≤ 10000) (x3 : P 0 []) (x4 : (∀ i vs, P i vs → vs.length ≤ 100000)) (x5 : (∀ D C it i vs h t u m, i < n → P i vs → Sta s₁.heap h C (up m x (.int (i : Nat) u)) [(D, lst vs.toArray), (it, rit ((i + 1 : Nat) : Int) (n - (i + 1 : Nat)))] [] →
      IfsP (model prog w) A (compEnvC scope cl C env) ifs (fun ok s₄ => if ok = true then wpAny (model prog w) A (eval iter2 (compEnvC scope cl C env)) (CE2 s₁ s₁.heap C D it vs (rit ((i + 1 : Nat) : Int) (n - (i + 1 : Nat))) (P (i + 1))) (fun _ _ => False) s₄
        else CN2 s₁ s₁.heap C D it vs (rit ((i + 1 : Nat) : Int) (n - (i + 1 : Nat))) (P (i + 1)) s₄) { s₁ with heap := h, toks := t })) (x6 : (∀ D l h t, Made s₁.heap h [(D, lst l.toArray)] → (∀ b o, s₁.heap.get? b = some o → h.get? b = some o) → P n l → Q (.ref D) { s₁ with heap := h, toks := t }))

theorem comp_rng2 {iter iter2 : Expr} {x y : Str} {px py py2 : Pos} {ifs : List Expr} {scope : Scope} {cl : List (Str × Addr)} {pos : Pos} {Q : Value → Shared → Prop} (P : Nat → List Value → Prop)
    (hclos : closureFor scope env = pure cl) (hcell : ∀ y ∈ scope.names, y.2 ≠ .cell) (hkind : scope.kind = .function)
    (hnames : ∀ y ∈ scope.names, y.2 = .local → scope.names.lookup y.1 = some .local) (hx : scope.names.lookup x = some .local) (hy : scope.names.lookup y = some .local) (hyd : (y == ("__debug__" : Str)) = false) (hlen : ifs.length ≤ 1) (hh : A.handled = none)
    (h : wpAny (model prog w) A (eval iter env) (RP2 prog w A env scope cl iter2 ifs x P Q) E s)
    (hs2 : ∀ (C : Addr) x, foldedSetIterable iter2 (compEnvC scope cl C env) x = pure x)
    (hs : ∀ x, foldedSetIterable iter env x = pure x := by intro _; rfl) :
    wpAny (model prog w) A (eval (.ListComp (.Name y py) [⟨.Name x px, iter, ifs, 0⟩, ⟨.Name y py2, iter2, [], 0⟩] scope pos) env) Q E s := by
  refine comp_S hclos hcell hkind hnames (wpAny_mono h (fun xv s₁ h₁ => ?_) fun _ _ e => e) hs
  obtain ⟨r, n, rfl, hr, hn, h0, hlenP, step, fin⟩ := h₁
  refine ⟨rit 0 n, fun vs fr => fr = [] ∧ ∃ l, vs = l.toArray ∧ P n l, fun Q hQ => ?_, fun I s Q E hI hQ => ?_, fun D C I h₂ t₂ S => ?_, fun D vs fr3 h4 t4 hM hk hP => ?_⟩
  · exact rng_iter hr hn hQ
  · exact rng_self hI hQ
  · have S' : Sta s₁.heap h₂ C (fun _ => none) [(D, lst #[]), (I, rit ((0 : Nat) : Int) (n - (0 : Nat)))] [] := by simpa using S
    refine codeAny_mono (compIt2 (s := { s₁ with heap := h₂, toks := t₂ }) hh hlen (fun i => rit (i : Nat) (n - (i : Nat))) (fun i v => ∃ u, v = .int (i : Nat) u) n P (fun i m cs s' Q E hi S1 hQ => ?_) (fun m cs s' Q E S1 hQ => ?_) S' h0 hlenP
      (fun v s Q E i _ hQ => wpAny_of_eq rfl hQ) rfl (lookup_relabel_local hy) (by simp [compEnvC, relabel, hkind]) hyd (hs2 C) (fun i v m' vs h' t' hi hV hP S2 => ?_)) fun r s' hr => ?_
    · exact rng_item hi S1 fun h' u t' S2 => hQ _ h' t' ⟨u, rfl⟩ S2
    · exact rng_end hh S1 fun h' S2 => hQ h' s'.toks S2
    · obtain ⟨u, rfl⟩ := hV
      refine wpAny_assign_Name (stv (s := { s₁ with heap := h', toks := t' }) S2 (fun h3 t3 S3 => ?_) rfl (lookup_relabel_local hx) (by simp [compEnvC, relabel, hkind]))
      exact step D C I i vs h3 t3 u m' hi hP S3
    · obtain ⟨e, h3, t3, m3, vs, e2, S3, l, e3, hP⟩ := hr
      exact ⟨e, h3, t3, m3, vs, [], e2, S3, rfl, l, e3, hP⟩
  · obtain ⟨rfl, l, rfl, hP⟩ := hP
    exact fin D l h4 t4 hM hk hP

inductive LP2 (prog : Program) (w : World) (A : Around) (env : Env) (scope : Scope) (cl : List (Str × Addr)) (iter2 : Expr) (ifs : List Expr) (x : Str) (P : Nat → List Value → Prop) (Q : Value → Shared → Prop) (xv : Value) (s₁ : Shared) : Prop
  | mk (l : Addr) (its : Array Value) (x0 : xv = .ref l) (x1 : s₁.heap.IsList l its) (x2 : its.size ≤ 10000) (x3 : P 0 []) (x4 : (∀ i vs, P i vs → vs.length ≤ 100000)) (x5 : (∀ D C it i v vs h t m, its[i]? = some v → P i vs → Sta s₁.heap h C (up m x v) [(D, lst vs.toArray), (it, lit l (i + 1))] [] →
      IfsP (model prog w) A (compEnvC scope cl C env) ifs (fun ok s₄ => if ok = true then wpAny (model prog w) A (eval iter2 (compEnvC scope cl C env)) (CE2 s₁ s₁.heap C D it vs (lit l (i + 1)) (P (i + 1))) (fun _ _ => False) s₄
        else CN2 s₁ s₁.heap C D it vs (lit l (i + 1)) (P (i + 1)) s₄) { s₁ with heap := h, toks := t })) (x6 : (∀ D vs h t, Made s₁.heap h [(D, lst vs.toArray)] → (∀ b o, s₁.heap.get? b = some o → h.get? b = some o) → P its.size vs → Q (.ref D) { s₁ with heap := h, toks := t }))

theorem comp_lst2 {iter iter2 : Expr} {x y : Str} {px py py2 : Pos} {ifs : List Expr} {scope : Scope} {cl : List (Str × Addr)} {pos : Pos} {Q : Value → Shared → Prop} (P : Nat → List Value → Prop)
    (hclos : closureFor scope env = pure cl) (hcell : ∀ y ∈ scope.names, y.2 ≠ .cell) (hkind : scope.kind = .function)
    (hnames : ∀ y ∈ scope.names, y.2 = .local → scope.names.lookup y.1 = some .local) (hx : scope.names.lookup x = some .local) (hy : scope.names.lookup y = some .local) (hyd : (y == ("__debug__" : Str)) = false) (hlen : ifs.length ≤ 1) (hh : A.handled = none)
    (h : wpAny (model prog w) A (eval iter env) (LP2 prog w A env scope cl iter2 ifs x P Q) E s)
    (hs2 : ∀ (C : Addr) x, foldedSetIterable iter2 (compEnvC scope cl C env) x = pure x)
    (hs : ∀ x, foldedSetIterable iter env x = pure x := by intro _; rfl) :
    wpAny (model prog w) A (eval (.ListComp (.Name y py) [⟨.Name x px, iter, ifs, 0⟩, ⟨.Name y py2, iter2, [], 0⟩] scope pos) env) Q E s := by
  refine comp_S hclos hcell hkind hnames (wpAny_mono h (fun xv s₁ h₁ => ?_) fun _ _ e => e) hs
  obtain ⟨l, its, rfl, hl, hn, h0, hlenP, step, fin⟩ := h₁
  refine ⟨lit l 0, fun vs fr => fr = [] ∧ ∃ l, vs = l.toArray ∧ P its.size l, fun Q hQ => iter_new hl hQ, fun I s Q E hI hQ => wpAny_pyIter_listiter hI hQ, fun D C I h₂ t₂ S => ?_, fun D vs fr3 h4 t4 hM hk hP => ?_⟩
  · refine codeAny_mono (compIt2 (s := { s₁ with heap := h₂, toks := t₂ }) hh hlen (lit l) (fun i v => its[i]? = some v) its.size P (fun i m cs s' Q E hi S1 hQ => ?_) (fun m cs s' Q E S1 hQ => ?_) S h0 hlenP
      (fun v s Q E i hI hQ => wpAny_of_eq rfl hQ) rfl (lookup_relabel_local hy) (by simp [compEnvC, relabel, hkind]) hyd (hs2 C) (fun i v m' vs h' t' hi hV hP S2 => ?_)) fun r s' hr => ?_
    · exact lst_item hi hl S1 fun h' S2 => hQ _ h' s'.toks (Array.getElem?_eq_getElem hi) S2
    · exact lst_end hh hl S1 fun h' S2 => hQ h' s'.toks S2
    · refine wpAny_assign_Name (stv (s := { s₁ with heap := h', toks := t' }) S2 (fun h3 t3 S3 => ?_) rfl (lookup_relabel_local hx) (by simp [compEnvC, relabel, hkind]))
      exact step D C I i v vs h3 t3 m' hV hP S3
    · obtain ⟨e, h3, t3, m3, vs, e2, S3, l, e3, hP⟩ := hr
      exact ⟨e, h3, t3, m3, vs, [], e2, S3, rfl, l, e3, hP⟩
  · obtain ⟨rfl, l, rfl, hP⟩ := hP
    exact fin D l h4 t4 hM hk hP
end
end
section
open Builtin Builtin.Str
theorem subLL : isSubtype (.type "list") (.type "list") = pure true := by rw [isSubtype_type]; kernel_rfl
section
variable {prog : Program} {w : World} {A : Around} {E : Value → Shared → Prop} {s : Shared} {g : Heap} {L a b : Addr} {m : Str → Option Value} {cs cs' fr : List Cl} {vs ws : Array Value}
theorem catS {Q : Value → Shared → Prop} (S : Sta g s.heap L m cs fr) (ha : Holds s.heap (a, lst vs)) (hb : Holds s.heap (b, lst ws)) (hsz : vs.size + ws.size ≤ 100000)
    (h : ∀ D h', Sta g h' L m ((D, lst (vs ++ ws)) :: cs) fr → Q (.ref D) { s with heap := h' }) : wpAny (model prog w) A (binaryOp .Add (.ref a) (.ref b)) Q E s := by
  obtain ⟨oa, hoa, hac, _, na, had⟩ := ha
  obtain ⟨ob, hob, hbc, _, nb, hbd⟩ := hb
  have tA : s.TypeIs (.ref a) "list" := ⟨_, hoa, hac⟩
  have tB : s.TypeIs (.ref b) "list" := ⟨_, hob, hbc⟩
  refine wpAny_binaryOp_concat tA tB noFill_list_add seq_list_add (wpAny_call_entry F.slot_list_add tA F.entry_list_add ?_ (F.args_list_add_2 _ _))
  unfold Builtin.«list.__add__»
  refine wpAny_bind (wpAny_of_eq (a := (.ref a, [.ref b])) rfl ?_)
  dsimp only
  refine wpAny_bind (wpAny_isInstance (T := "list") (b := true) tB subLL ?_)
  simp only [Bool.not_true, Bool.false_eq_true, if_false]
  unfold Builtin.List.listItems
  refine wpAny_bind (wpAny_bind (wpAny_seqItems hoa had (wpAny_pure ?_)))
  refine wpAny_bind (wpAny_bind (wpAny_seqItems hob hbd (wpAny_pure ?_)))
  refine wpAny_bind (wpAny_newObj_type (wpAny_pure ⟨_, rfl, ?_⟩) (by show (vs ++ ws).size ≤ sizeLine; rw [Array.size_append, sizeLine_eq]; walk_at "om"))
  exact h _ _ (S.push rfl ⟨rfl, rfl, _, rfl⟩)
end
end
section
theorem rowStep_ok (cl : Nat) : ∀ (l : List Nat) (st : Nat × List (List (List Nat))), (∀ r ∈ st.2, r.length ≤ 7 ∧ ∀ u ∈ r, 1 ≤ u.length ∧ u.length ≤ 2) → ∀ r ∈ (l.foldl (rowStep cl) st).2, r.length ≤ 7 ∧ ∀ u ∈ r, 1 ≤ u.length ∧ u.length ≤ 2
  | [], _, h => h
  | c :: t, st, h => by
    refine rowStep_ok cl t (rowStep cl st c) fun r hr => ?_
    have app : ∀ q : List (List Nat), (q.length ≤ 7 ∧ ∀ u ∈ q, 1 ≤ u.length ∧ u.length ≤ 2) → r ∈ st.2 ++ [q] → r.length ≤ 7 ∧ ∀ u ∈ r, 1 ≤ u.length ∧ u.length ≤ 2 := fun q hq hr => by
      rcases List.mem_append.mp hr with hr | hr
      · exact h r hr
      · rw [List.mem_singleton.mp hr]; exact hq
    unfold rowStep at hr
    split at hr
    · refine app _ ?_ hr
      unfold starRow
      split <;> split <;> simp
    · split at hr
      · exact app _ (by simp) hr
      · exact app _ (by simp) hr
theorem rows_ok (l : List Nat) : ∀ r ∈ rowsL l, r.length ≤ 7 ∧ ∀ u ∈ r, 1 ≤ u.length ∧ u.length ≤ 2 := rowStep_ok _ l (0, []) fun _ h => (nomatch h)
theorem rows_len (l : List Nat) : (rowsL l).length = l.length := by
  have := (rowStep_len (l.count 42) l (0, [])).1
  simpa [rowsL] using this
theorem hidden_len (l : List Nat) : (hiddenL l).length = l.length := by
  have := (hidStep_len (l.count 34 / 2 * 2) l (0, [])).1
  simpa [hiddenL] using this
theorem flat_len (rs : List (List (List Nat))) (h : ∀ r ∈ rs, r.length ≤ 7) : rs.flatten.length ≤ 7 * rs.length := by
  induction rs with
  | nil => simp
  | cons a r ih =>
    have := h a (.head _)
    have := ih fun x hx => h x (.tail _ hx)
    simp only [List.flatten_cons, List.length_append, List.length_cons]
    walk_at "om"
noncomputable def frontL (p : List Nat) : List (List Nat) := if 42 ∈ p then [] else [[46], [42]]
noncomputable def allU (p : List Nat) : List (List Nat) := frontL p ++ (rowsL p).flatten
noncomputable def keptR (p : List Nat) : List (List (List Nat)) := ((rowsL p).zip (hiddenL p)).map fun x => if x.2 then [] else x.1
noncomputable def leftL (p : List Nat) : List Nat := (frontL p ++ (keptR p).flatten).flatten
theorem kept_len (p : List Nat) : (keptR p).length = p.length := by
  simp [keptR, rows_len, hidden_len]
theorem kept_ok (l : List Nat) : ∀ r ∈ keptR l, r.length ≤ 7 ∧ ∀ u ∈ r, 1 ≤ u.length ∧ u.length ≤ 2 := by
  intro r hr
  obtain ⟨x, hx, rfl⟩ := List.mem_map.mp hr
  split
  · simp
  · exact rows_ok l _ (List.of_mem_zip hx).1
theorem front_ok (p : List Nat) : (frontL p).length ≤ 2 ∧ ∀ u ∈ frontL p, 1 ≤ u.length ∧ u.length ≤ 2 := by
  unfold frontL
  split <;> simp
theorem kept_get {p : List Nat} {i : Nat} {r : List (List Nat)} {h : Bool} (hr : (rowsL p)[i]? = some r) (hh : (hiddenL p)[i]? = some h) : (keptR p)[i]? = some (if h then [] else r) := by
  unfold keptR
  have : ((rowsL p).zip (hiddenL p))[i]? = some (r, h) := List.getElem?_zip_eq_some.mpr ⟨hr, hh⟩
  rw [List.getElem?_map, this]; rfl
theorem take_flat {α : Type} {rs : List (List α)} {i : Nat} {r : List α} (h : rs[i]? = some r) : (rs.take (i + 1)).flatten = (rs.take i).flatten ++ r := by
  rw [List.take_add_one, h, Option.toList_some, List.flatten_append]; simp
theorem take_flat_len (rs : List (List (List Nat))) (h : ∀ r ∈ rs, r.length ≤ 7) (i : Nat) : (rs.take i).flatten.length ≤ 7 * rs.length := by
  have := flat_len (rs.take i) fun r hr => h r (List.mem_of_mem_take hr)
  rw [List.length_take] at this
  walk_at "om"
theorem strVs (ts : List (Str × Tok)) : (strValues ts).length = ts.length := strV_len ts
end
section
open Sem (wp)
theorem Sta.but {g h h' : Heap} {L C : Addr} {m : Str → Option Value} {cs fr : List Cl} (S : Sta g h L m cs fr) (hs : Heap.ExtBut C h h') (c1 : C ≠ L) (c2 : C ∉ cs.map (·.1)) (c3 : C ∉ fr.map (·.1)) (c4 : g.get? C = none) : Sta g h' L m cs fr :=
  ⟨S.ns.at fun o q => hs _ o (Ne.symm c1) q, fun b o q => hs b o (fun e => by rw [e, c4] at q; cases q) (S.keep b o q), S.gL,
   fun p hp => ⟨(S.cell p hp).1.keeps fun o q => hs _ o (fun e => c2 (e ▸ List.mem_map.mpr ⟨p, hp, rfl⟩)) q, (S.cell p hp).2⟩, S.nd,
   fun p hp => ⟨(S.frz p hp).1.keeps fun o q => hs _ o (fun e => c3 (e ▸ List.mem_map.mpr ⟨p, hp, rfl⟩)) q, (S.frz p hp).2⟩⟩
theorem Sta.thaw {g h : Heap} {L D : Addr} {P : Obj → Prop} {m : Str → Option Value} {cs fr : List Cl} (S : Sta g h L m cs ((D, P) :: fr)) (hd : D ∉ fr.map (·.1)) : Sta g h L m ((D, P) :: cs) fr := by
  have f := S.frz _ (.head _)
  refine ⟨S.ns, S.keep, S.gL, fun p hp => ?_, by rw [List.map_cons, List.nodup_cons]; exact ⟨f.2.2.2, S.nd⟩, fun p hp => ?_⟩
  · rcases List.mem_cons.mp hp with rfl | hp
    · exact ⟨f.1, f.2.1, f.2.2.1⟩
    · exact S.cell p hp
  · have q := S.frz p (.tail _ hp)
    refine ⟨q.1, q.2.1, q.2.2.1, fun e => ?_⟩
    rw [List.map_cons] at e
    rcases List.mem_cons.mp e with e | e
    · have e : p.1 = D := e
      exact hd (by rw [← e]; exact List.mem_map.mpr ⟨p, hp, rfl⟩)
    · exact q.2.2.2 e
section
variable {prog : Program} {w : World} {A : Around} {E : Value → Shared → Prop} {s : Shared} {env : Env}

/-- y = [a comprehension]: the model stores it within the comprehension's end -/
theorem asg_S {y : Str} {py spos : Pos} {elt target iter : Expr} {ifs : List Expr} {scope : Scope} {cl : List (Str × Addr)} {pos : Pos} {Q : Flow → Shared → Prop}
    (hsw : swapsWith (.ListComp elt [⟨target, iter, ifs, 0⟩] scope pos) (some (.Name y py)) spos.line env = pure true)
    (hclos : closureFor scope env = pure cl) (hcell : ∀ y ∈ scope.names, y.2 ≠ .cell) (hkind : scope.kind = .function)
    (hnames : ∀ y ∈ scope.names, y.2 = .local → scope.names.lookup y.1 = some .local)
    (hy : env.kindOf y = some .local) (hp : (env.scope.kind == .class || (env.scope.kind == .module && env.locals != env.globals)) = false)
    (h : wpAny (model prog w) A (eval iter env) (fun x s₁ => ∃ (C0 : Obj → Prop) (POST : Array Value → List Cl → Prop) (g : Heap) (m : Str → Option Value) (cs fr : List Cl), Sta g s₁.heap env.locals m cs fr ∧
      (∀ (Q : Value → Shared → Prop), (∀ I h', (∀ b o, s₁.heap.get? b = some o → h'.get? b = some o) → s₁.heap.get? I = none → Holds h' (I, C0) → Q (.ref I) { s₁ with heap := h' }) → wpAny (model prog w) A (pyIter x) Q E s₁) ∧
      (∀ I (s : Shared) (Q : Value → Shared → Prop) (E : Value → Shared → Prop), Holds s.heap (I, C0) → Q (.ref I) s → wpAny (model prog w) A (pyIter (.ref I)) Q E s) ∧
      (∀ D C I h₂ t₂, Sta s₁.heap h₂ C (fun _ => none) [(D, lst #[]), (I, C0)] [] →
        codeAny (model prog w) A (.compLoop (.ListComp elt [⟨target, iter, ifs, 0⟩] scope pos) 0 (.ref I) (.ref D) (compEnvC scope cl C env))
          (fun r s' => r = .ok .next ∧ ∃ h3 t3 m3 vs fr3, s' = { s₁ with heap := h3, toks := t3 } ∧ Sta s₁.heap h3 C m3 [(D, lst vs)] fr3 ∧ POST vs fr3) { s₁ with heap := h₂, toks := t₂ }) ∧
      (∀ D vs fr3 h4 t4, Sta g h4 env.locals (up m y (.ref D)) ((D, lst vs) :: cs) (fr3 ++ fr) → POST vs fr3 → Q .next { s₁ with heap := h4, toks := t4 })) E s)
    (hs : ∀ x, foldedSetIterable iter env x = pure x := by intro _; rfl) :
    wpAny (model prog w) A (exec (.Assign [.Name y py] (.ListComp elt [⟨target, iter, ifs, 0⟩] scope pos) spos) env) Q E s := by
  rw [exec_Assign_Name_used _ _ _ _ hsw]
  refine wpAny_bind (wpAny_standAt (wpAny_bind ?_))
  show wpAny _ A (do let _ ← comprehension (.ListComp elt [⟨target, iter, ifs, 0⟩] scope pos) scope env _ (newList []) false (eval iter env) (some (assign (.Name y py) env))) _ _ s
  refine wpAny_bind (wpAny_mono (wpAny_comprehension_free (use := some (assign (.Name y py) env)) (Q := fun _ s' => Q .next s') rfl hs hclos hkind hnames
    (wpAny_mono h (fun x s₁ h₁ => ?_) fun _ _ e => e)) (fun _ s' hq => wpAny_pure (wpAny_pure hq)) fun _ _ e => e)
  obtain ⟨C0, POST, g, m, cs, fr, SO, hit, hself, hloop, hfin⟩ := h₁
  refine hit _ fun I hI kI nI HI => ?_
  refine wpAny_newObj_type (wpAny_newFunctionEnv hcell (by intro y hy; simp at hy) (fun h₁ hns₁ hsb₁ => ?_) hkind)
  dsimp only at hns₁ hsb₁ ⊢
  generalize hH2 : hI.push { cls := .type "list", dict := none, data := .seq ([] : List Value).toArray } = H2 at hns₁ hsb₁ ⊢
  have hz : H2.objs.size = hI.objs.size + 1 := by rw [← hH2, Heap.size_push]
  have k1 : ∀ b o, hI.get? b = some o → h₁.get? b = some o := fun b o e => hsb₁.extBut b o (Nat.ne_of_lt (by rw [hz]; exact Nat.lt_succ_of_lt (Heap.lt_size e))) (Heap.get?_push_of_some _ (hH2 ▸ Heap.get?_push_of_some _ e))
  have fresh : ∀ a, hI.objs.size ≤ a → s₁.heap.get? a = none := fun a ha => by
    cases e : s₁.heap.get? a with
    | none => rfl
    | some o' => exact absurd (Heap.lt_size (kI _ _ e)) (Nat.not_lt.mpr ha)
  obtain ⟨oI, hoI, hCI⟩ := HI
  have hIlt := Heap.lt_size hoI
  have hI' : I < hI.objs.size := hIlt
  have hD : h₁.get? hI.objs.size = some { cls := .type "list", dict := none, data := .seq ([] : List Value).toArray } :=
    hsb₁.extBut _ _ (by rw [hz]; exact Nat.ne_of_lt (Nat.lt_succ_self _)) (Heap.get?_push_of_some _ (hH2 ▸ Heap.get?_push_size _ rfl))
  have S0 : Sta s₁.heap h₁ H2.objs.size (fun _ => none) [(hI.objs.size, lst #[]), (I, C0)] [] := by
    refine ⟨hns₁, fun b o e => k1 b o (kI b o e), fresh _ (by rw [hz]; exact Nat.le_succ _), fun p hp => ?_, ?_, fun _ h => (nomatch h)⟩
    · simp only [List.mem_cons, List.not_mem_nil, or_false] at hp
      rcases hp with rfl | rfl
      · exact ⟨⟨_, hD, rfl, rfl, 0, rfl⟩, by rw [hz]; exact Nat.ne_of_lt (Nat.lt_succ_self _), fresh _ (Nat.le_refl _)⟩
      · exact ⟨⟨oI, k1 _ _ hoI, hCI⟩, by rw [hz]; exact Nat.ne_of_lt (Nat.lt_succ_of_lt hI'), nI⟩
    · simp only [List.map_cons, List.map_nil, List.nodup_cons, List.mem_singleton, List.not_mem_nil, not_false_eq_true, List.nodup_nil, and_true]
      exact Nat.ne_of_gt hI'
  have L1 := hloop hI.objs.size H2.objs.size I h₁ (s₁.toks + ([] : List (Str × Value)).length) S0
  have fin : ∀ (r : Result) (s' : Shared), (r = .ok .next ∧ ∃ h3 t3 m3 vs fr3, s' = { s₁ with heap := h3, toks := t3 } ∧ Sta s₁.heap h3 H2.objs.size m3 [(hI.objs.size, lst vs)] fr3 ∧ POST vs fr3) →
      compPost (model prog w) A E (some (assign (.Name y py) env)) (fun _ s' => Q .next s') (.ref hI.objs.size) H2.objs.size r s' := by
    rintro r s' ⟨rfl, h3, t3, m3, vs, fr3, rfl, S3, hP⟩
    have made : Made s₁.heap h3 ((hI.objs.size, lst vs) :: fr3) := fun p hp => by
      rcases List.mem_cons.mp hp with rfl | hp
      · exact ⟨(S3.cell _ (.head _)).1, (S3.cell _ (.head _)).2.2⟩
      · exact ⟨(S3.frz p hp).1, (S3.frz p hp).2.2.1⟩
    have SM : Sta g h3 env.locals m cs ((hI.objs.size, lst vs) :: (fr3 ++ fr)) := SO.made S3.keep made
    have dead : ∀ {b o}, s₁.heap.get? b = some o → b ≠ H2.objs.size := fun q e => by rw [e, S3.gL] at q; cases q
    have ST := SM.thaw (by
      rw [List.map_append, List.mem_append, not_or]
      refine ⟨fun e => ?_, fun e => ?_⟩
      · obtain ⟨q, hq, eq⟩ := List.mem_map.mp e
        have := (S3.frz q hq).2.2.2
        rw [eq] at this
        exact this (by simp)
      · obtain ⟨q, hq, eq⟩ := List.mem_map.mp e
        obtain ⟨o, ho, _⟩ := (SO.frz q hq).1
        have := (S3.cell _ (.head _)).2.2
        rw [eq] at ho
        rw [ho] at this; cases this)
    obtain ⟨oL, hoL⟩ := Ns.atL SO.ns
    have hLC := dead hoL
    show wpAny _ A (assign (.Name y py) env (.ref hI.objs.size)) _ _ _
    refine wpAny_assign_Name (wpAny_storeName_local hy ST.ns (fun h₂ hn₂ hs₂ => ?_) hp)
    have S5 := ST.set hn₂ hs₂
    refine ⟨m3, S3.ns.sameBut hs₂ (Ne.symm hLC), fun h4 hs4 => hfin _ vs fr3 h4 _ (S5.but hs4.extBut (Ne.symm hLC) (fun e => ?_) (fun e => ?_) ?_) hP⟩
    · rw [List.map_cons] at e
      rcases List.mem_cons.mp e with e | e
      · exact (S3.cell _ (.head _)).2.1 e.symm
      · obtain ⟨q, hq, eq⟩ := List.mem_map.mp e
        obtain ⟨o, ho, _⟩ := (SO.cell q hq).1
        exact dead ho eq
    · rw [List.map_append] at e
      rcases List.mem_append.mp e with e | e
      · obtain ⟨q, hq, eq⟩ := List.mem_map.mp e
        exact (S3.frz q hq).2.1 eq
      · obtain ⟨q, hq, eq⟩ := List.mem_map.mp e
        obtain ⟨o, ho, _⟩ := (SO.frz q hq).1
        exact dead ho eq
    · cases q : g.get? H2.objs.size with
      | none => rfl
      | some o => exact absurd rfl (dead (SO.keep _ _ q))
  have L2 := codeAny_mono L1 fin
  exact codeAny_compStart_list L2 (hself _ _ _ _ ⟨oI, k1 _ _ hoI, hCI⟩ L2)
end
end
section
open Sem (wp)
section
variable {prog : Program} {w : World} {A : Around} {E : Value → Shared → Prop} {s : Shared} {env : Env}

/-- what stands when the iterable of a comprehension over range(n) is made -/
inductive RA (prog : Program) (w : World) (A : Around) (env : Env) (scope : Scope) (cl : List (Str × Addr)) (elt : Expr) (ifs : List Expr) (x y : Str) (P : Nat → List Value → List Cl → Prop) (Q : Flow → Shared → Prop) (xv : Value) (s₁ : Shared) : Prop
  | mk (r : Addr) (n : Nat) (g : Heap) (m0 : Str → Option Value) (cs0 fr0 : List Cl) (x0 : Sta g s₁.heap env.locals m0 cs0 fr0) (x1 : xv = .ref r) (x2 : Holds s₁.heap (r, rng 0 n)) (x3 : n ≤ 10000) (x4 : P 0 [] []) (x5 : (∀ i vs fr, P i vs fr → vs.length ≤ i)) (x6 : (∀ D C it i vs fr h t u m, i < n → P i vs fr → Sta s₁.heap h C (up m x (.int (i : Nat) u)) [(D, lst vs.toArray), (it, rit ((i + 1 : Nat) : Int) (n - (i + 1 : Nat)))] fr →
      IfsP (model prog w) A (compEnvC scope cl C env) ifs (fun ok s₄ => if ok = true then wpAny (model prog w) A (eval elt (compEnvC scope cl C env)) (CE s₁ s₁.heap C D it vs (rit ((i + 1 : Nat) : Int) (n - (i + 1 : Nat))) (P (i + 1))) (fun _ _ => False) s₄
        else CN s₁ s₁.heap C D it vs (rit ((i + 1 : Nat) : Int) (n - (i + 1 : Nat))) (P (i + 1)) s₄) { s₁ with heap := h, toks := t })) (x7 : (∀ D l fr h t, Sta g h env.locals (up m0 y (.ref D)) ((D, lst l.toArray) :: cs0) (fr ++ fr0) → P n l fr → Q .next { s₁ with heap := h, toks := t }))

theorem asg_rng {elt iter : Expr} {x y : Str} {px py spos : Pos} {ifs : List Expr} {scope : Scope} {cl : List (Str × Addr)} {pos : Pos} {Q : Flow → Shared → Prop} (P : Nat → List Value → List Cl → Prop)
    (hsw : swapsWith (.ListComp elt [⟨.Name x px, iter, ifs, 0⟩] scope pos) (some (.Name y py)) spos.line env = pure true) (hy : env.kindOf y = some .local) (hp : (env.scope.kind == .class || (env.scope.kind == .module && env.locals != env.globals)) = false)
    (hclos : closureFor scope env = pure cl) (hcell : ∀ y ∈ scope.names, y.2 ≠ .cell) (hkind : scope.kind = .function)
    (hnames : ∀ y ∈ scope.names, y.2 = .local → scope.names.lookup y.1 = some .local) (hx : scope.names.lookup x = some .local) (hlen : ifs.length ≤ 1) (hh : A.handled = none)
    (h : wpAny (model prog w) A (eval iter env) (RA prog w A env scope cl elt ifs x y P Q) E s)
    (hs : ∀ x, foldedSetIterable iter env x = pure x := by intro _; rfl) :
    wpAny (model prog w) A (exec (.Assign [.Name y py] (.ListComp elt [⟨.Name x px, iter, ifs, 0⟩] scope pos) spos) env) Q E s := by
  refine asg_S hsw hclos hcell hkind hnames hy hp (wpAny_mono h (fun xv s₁ h₁ => ?_) fun _ _ e => e) hs
  obtain ⟨r, n, g, m0, cs0, fr0, SO, rfl, hr, hn, h0, hlenP, step, fin⟩ := h₁
  refine ⟨rit 0 n, fun vs fr => ∃ l, vs = l.toArray ∧ P n l fr, g, m0, cs0, fr0, SO, fun Q hQ => ?_, fun I s Q E hI hQ => ?_, fun D C I h₂ t₂ S => ?_, fun D vs fr3 h4 t4 hM hP => ?_⟩
  · exact rng_iter hr hn hQ
  · exact rng_self hI hQ
  · have S' : Sta s₁.heap h₂ C (fun _ => none) [(D, lst #[]), (I, rit ((0 : Nat) : Int) (n - (0 : Nat)))] [] := by simpa using S
    refine codeAny_mono (compIt (s := { s₁ with heap := h₂, toks := t₂ }) hlen (fun i => rit (i : Nat) (n - (i : Nat))) (fun i v _ => ∃ u, v = .int (i : Nat) u) n hn P (fun i m cs fr s' Q E hi S1 hQ => ?_) (fun m cs fr s' Q E S1 hQ => ?_) S' h0 hlenP
      (fun v s Q E i _ hQ => wpAny_of_eq rfl hQ) (fun i v m' vs fr' h' t' hi hV hP S2 => ?_)) fun r s' hr => hr
    · exact rng_item hi S1 fun h' u t' S2 => hQ _ h' t' ⟨u, rfl⟩ S2
    · exact rng_end hh S1 fun h' S2 => hQ h' s'.toks S2
    · obtain ⟨u, rfl⟩ := hV
      refine wpAny_assign_Name (stv (s := { s₁ with heap := h', toks := t' }) S2 (fun h3 t3 S3 => ?_) rfl (lookup_relabel_local hx) (by simp [compEnvC, relabel, hkind]))
      exact step D C I i vs fr' h3 t3 u m' hi hP S3
  · obtain ⟨l, rfl, hP⟩ := hP
    exact fin D l fr3 h4 t4 hM hP

/-- and over a list -/
inductive LA (prog : Program) (w : World) (A : Around) (env : Env) (scope : Scope) (cl : List (Str × Addr)) (elt target : Expr) (ifs : List Expr) (y : Str) (P : Nat → List Value → List Cl → Prop) (Q : Flow → Shared → Prop) (xv : Value) (s₁ : Shared) : Prop
  | mk (l : Addr) (its : Array Value) (g : Heap) (m0 : Str → Option Value) (cs0 fr0 : List Cl) (x0 : Sta g s₁.heap env.locals m0 cs0 fr0) (x1 : xv = .ref l) (x2 : s₁.heap.IsList l its) (x3 : its.size ≤ 10000) (x4 : P 0 [] []) (x5 : (∀ i vs fr, P i vs fr → vs.length ≤ i)) (x6 : (∀ D C it i v vs fr h t m, its[i]? = some v → P i vs fr → Sta s₁.heap h C m [(D, lst vs.toArray), (it, lit l (i + 1))] fr →
      wpAny (model prog w) A (assign target (compEnvC scope cl C env) v) (fun _ s₃ => IfsP (model prog w) A (compEnvC scope cl C env) ifs (fun ok s₄ => if ok = true then wpAny (model prog w) A (eval elt (compEnvC scope cl C env)) (CE s₁ s₁.heap C D it vs (lit l (i + 1)) (P (i + 1))) (fun _ _ => False) s₄
        else CN s₁ s₁.heap C D it vs (lit l (i + 1)) (P (i + 1)) s₄) s₃) (fun _ _ => False) { s₁ with heap := h, toks := t })) (x7 : (∀ D vs fr h t, Sta g h env.locals (up m0 y (.ref D)) ((D, lst vs.toArray) :: cs0) (fr ++ fr0) → P its.size vs fr → Q .next { s₁ with heap := h, toks := t }))

theorem asg_lst {elt iter target : Expr} {y : Str} {py spos : Pos} {ifs : List Expr} {scope : Scope} {cl : List (Str × Addr)} {pos : Pos} {Q : Flow → Shared → Prop} (P : Nat → List Value → List Cl → Prop)
    (hsw : swapsWith (.ListComp elt [⟨target, iter, ifs, 0⟩] scope pos) (some (.Name y py)) spos.line env = pure true) (hy : env.kindOf y = some .local) (hp : (env.scope.kind == .class || (env.scope.kind == .module && env.locals != env.globals)) = false)
    (hclos : closureFor scope env = pure cl) (hcell : ∀ y ∈ scope.names, y.2 ≠ .cell) (hkind : scope.kind = .function)
    (hnames : ∀ y ∈ scope.names, y.2 = .local → scope.names.lookup y.1 = some .local) (hlen : ifs.length ≤ 1) (hh : A.handled = none)
    (hlet : ∀ it l i v (s : Shared) (Q : Unit → Shared → Prop) (E : Value → Shared → Prop), s.heap.IsListIter it l i → Q () s → wpAny (model prog w) A (letOwnedTupleGo target (.ref it) v) Q E s)
    (h : wpAny (model prog w) A (eval iter env) (LA prog w A env scope cl elt target ifs y P Q) E s)
    (hs : ∀ x, foldedSetIterable iter env x = pure x := by intro _; rfl) :
    wpAny (model prog w) A (exec (.Assign [.Name y py] (.ListComp elt [⟨target, iter, ifs, 0⟩] scope pos) spos) env) Q E s := by
  refine asg_S hsw hclos hcell hkind hnames hy hp (wpAny_mono h (fun xv s₁ h₁ => ?_) fun _ _ e => e) hs
  obtain ⟨l, its, g, m0, cs0, fr0, SO, rfl, hl, hn, h0, hlenP, step, fin⟩ := h₁
  refine ⟨lit l 0, fun vs fr => ∃ l, vs = l.toArray ∧ P its.size l fr, g, m0, cs0, fr0, SO, fun Q hQ => iter_new hl hQ, fun I s Q E hI hQ => wpAny_pyIter_listiter hI hQ, fun D C I h₂ t₂ S => ?_, fun D vs fr3 h4 t4 hM hP => ?_⟩
  · refine codeAny_mono (compIt (s := { s₁ with heap := h₂, toks := t₂ }) hlen (lit l) (fun i v _ => its[i]? = some v) its.size hn P (fun i m cs fr s' Q E hi S1 hQ => ?_) (fun m cs fr s' Q E S1 hQ => ?_) S h0 hlenP
      (fun v s Q E i hI hQ => hlet _ _ _ _ _ _ _ hI hQ) (fun i v m' vs fr' h' t' hi hV hP S2 => step D C I i v vs fr' h' t' m' hV hP S2)) fun r s' hr => hr
    · exact lst_item hi hl S1 fun h' S2 => hQ _ h' s'.toks (Array.getElem?_eq_getElem hi) S2
    · exact lst_end hh hl S1 fun h' S2 => hQ h' s'.toks S2
  · obtain ⟨l, rfl, hP⟩ := hP
    exact fin D l fr3 h4 t4 hM hP
end
end
section
open Builtin Builtin.Str
section
variable {M : Model} {A : Around} {E : Value → Shared → Prop} {s : Shared} {env : Env} {g : Heap} {L c : Addr} {m : Str → Option Value} {cs cs' fr : List Cl} {w : World}
theorem ldC {x : Str} {pos : Pos} {v : Value} {Q : Value → Shared → Prop} (S : Sta g s.heap L m cs fr) (hc : env.cells.lookup x = some c) (hm : (c, cellO (some v)) ∈ cs) (h : Q v s)
    (hk : env.scope.kind = .function) (hl : env.kindOf x = some .cell) (hd : (x == ("__debug__" : Str)) = false) :
    wpAny M A (eval (.Name x pos) env) Q E s := wpAny_Name (wpAny_loadName_cell hk hl hc (S.atC hm) h) hd
theorem ldF {x : Str} {pos : Pos} {v : Value} {Q : Value → Shared → Prop} (S : Sta g s.heap L m cs fr) (hc : env.cells.lookup x = some c) (hv : g.IsCell c (some v)) (h : Q v s)
    (hk : env.scope.kind = .function) (hl : env.kindOf x = some .cell) (hd : (x == ("__debug__" : Str)) = false) (hn : (x == ("__classdict__" : Str)) = false) :
    wpAny M A (eval (.Name x pos) env) Q E s := wpAny_Name (wpAny_loadName_cell hk hl hc (hv.keeps S.keep) h) hd
theorem pathL_len (q : List Int) : (pathL q).length ≤ 2 * q.length := by
  unfold pathL
  induction q with
  | nil => simp
  | cons a q ih =>
    have := signL_len a
    simp only [List.map_cons, List.flatten_cons, List.length_append, List.length_cons]
    walk_at "om"
theorem baseL {h : Heap} {a : Addr} {vs : Array Value} (Hl : g.IsList a vs) (S : Sta g h L m cs fr) : h.IsList a vs := let ⟨o, a, b⟩ := Hl; ⟨o, S.keep _ _ a, b⟩
theorem stC {x : Str} {v : Value} {v₀ : Option Value} {Q : Unit → Shared → Prop} (S : Sta g s.heap L m cs fr) (hc : env.cells.lookup x = some c) (U : Upd c (cellO v₀) (cellO (some v)) cs cs')
    (h : ∀ h', Sta g h' L m cs' fr → Q () { s with heap := h' }) (hk : env.scope.kind = .function) (hl : env.kindOf x = some .cell) : wpAny M A (storeName env x v) Q E s :=
  wpAny_storeName_cell hk hl hc (S.at U) fun h' hv hs => h h' (S.upd U hs.extBut hv)
end
end
local macro_rules | `(tactic| walk_at "eval Name") => `(tactic| with_plain (refine ldC (by walk_at "a") (by rfl) (by walk_at "mem") ?_ (by rfl) (by rfl) (by decide)))
local macro_rules | `(tactic| walk_at "eval Name") => `(tactic| with_plain (refine ldF (by walk_at "a") (by rfl) (by walk_at "a") ?_ (by rfl) (by rfl) (by decide) (by decide)))
local macro_rules | `(tactic| walk_at "storeName") => `(tactic| with_plain (refine stC (by walk_at "a") (by rfl) (by walk_at "up") ?_ (by rfl) (by rfl); intro _ _))
local macro_rules | `(tactic| walk_at "isL") => `(tactic| (refine baseL (by walk_at "a") (by walk_at "a")))
local macro_rules | `(tactic| walk_at "subscriptTail Name Slice ref ref") => `(tactic| ((with_reducible show wpAny _ _ (subscriptTail _ (Expr.Slice (some _) none (some _) _) (Value.ref _) (Value.ref _)) _ _ _); (refine slL8 (s := ⟨_, _, _, _, _⟩) (by walk_at "a") (by walk_at "isL") (by walk_at "om") (by decide) ?_ (by walk_at "u") (by walk_at "v")); intro _ _ _ _ _))
local macro_rules | `(tactic| walk_at "subscriptTail") => `(tactic| ((with_reducible show wpAny _ _ (subscriptTail _ _ (Value.str _ _) (Value.int _ _)) _ _ _); (refine itS (by walk_at "om") (by walk_at "om") (by walk_at "om") ?_ (by walk_at "u") (by walk_at "v"))))
local macro_rules | `(tactic| walk_at "subscriptTail Name Name str int") => `(tactic| ((with_reducible show wpAny _ _ (subscriptTail _ _ (Value.str _ _) (Value.int _ _)) _ _ _); (refine itS (by walk_at "om") (by walk_at "om") (by walk_at "om") ?_ (by walk_at "u") (by walk_at "v"))))
section
open Builtin Builtin.Str
section
variable {M : Model} {A : Around} {Q : Flow → Shared → Prop} {E : Value → Shared → Prop} {s : Shared} {env : Env}
theorem execs_cutT {st : Stmt} {rest : List Stmt} (ht : 1 ≤ s.toks) (h : ∀ rest', rest' = rest → wpAny M A (PySem.exec st env) (fun f s' => match f with | .next => 1 ≤ s'.toks → wpAny M A (execs rest' env) Q E s' | f => Q f s') E s) : wpAny M A (execs (st :: rest) env) Q E s := by
  refine wpAny_execs_cons (wpAny_with_toks ht (wpAny_mono (h rest rfl) (fun f s' x hle => ?_) fun e s' x _ => x))
  cases f with
  | next => exact x hle
  | _ => exact x
end
noncomputable def lawR (k : Nat) : List Stmt := (stOf 14).2.2.1.drop k
section
variable {w : World} {A : Around} {s : Shared} {g : Heap} {L l : Addr} {vs : Array Value} {Q : Flow → Shared → Prop} {E : Value → Shared → Prop}

theorem own_gen {h : Heap} {D : Addr} {m : Str → Option Value} {cs fr : List Cl} {t0 t1 t2 t3 t4 t5 t6 t7 : Tok} (S : Sta g h L m ((D, lst #[.int 0 t0, .int 1 t1, .int 2 t2, .int 3 t3, .int 4 t4, .int 0 t5, .int 5 t6, .int 47 t7]) :: cs) fr) :
    ∃ ow : Array Value, (∀ i : Nat, i < 8 → ∃ n t, ow[((i : Nat) : Int).toNat]? = some (.int n t)) ∧ Sta g h L m ((D, lst ow) :: cs) fr := by
  refine ⟨_, fun i hi => ?_, S⟩
  have : i = 0 ∨ i = 1 ∨ i = 2 ∨ i = 3 ∨ i = 4 ∨ i = 5 ∨ i = 6 ∨ i = 7 := by walk_at "om"
  rcases this with rfl | rfl | rfl | rfl | rfl | rfl | rfl | rfl <;> exact ⟨_, _, rfl⟩
set_option maxHeartbeats 8000000 in
theorem law1 {bd : List Stmt} (hbd : bd = lawR 0) (X : Lib w g) (hh : A.handled = none) (hroom : A.depth + 6 < recursionLimit) (Hl : g.IsList l vs) (hv : ∀ v ∈ vs, ∃ n t, v = Value.int n t) (hvs : vs.size ≤ 63)
    (S : Sta g s.heap L (fun _ => none) [(L + 1, cellO (some (.ref l))), (L + 2, cellO none), (L + 3, cellO none), (L + 4, cellO none), (L + 5, cellO none), (L + 6, cellO none)] [])
    (h : ∀ bd', bd' = lawR 4 → ∀ (ks : List Int) h' t' x2 tp DR DH vR fr, ks.length = 8 → All2 (IsRow fr) (rowsL (pathL ks)) vR → (DR, lst vR.toArray) ∈ fr → (DH, lst ((hiddenL (pathL ks)).map Value.bool).toArray) ∈ fr →
      Sta g h' L (fun _ => none) [(L + 1, cellO (some (.ref l))), (L + 2, cellO x2), (L + 3, cellO (some (.str (mk (pathL ks)) tp))), (L + 4, cellO (some (.ref DR))), (L + 5, cellO (some (.ref DH))), (L + 6, cellO none)] fr → 1 ≤ t' →
      wpAny (model prg w) A (execs bd' (envL L)) Q E { s with heap := h', toks := t' }) :
    wpAny (model prg w) A (execs bd (envL L)) Q E s := by
  subst hbd
  refine execs_cut fun r1 hr1 => ?_
  walk_at "W"
  subst hr1
  refine execs_cutT (Nat.succ_le_succ (Nat.zero_le _)) fun r2 hr2 => ?_
  walk_at "W"
  rename Sta _ _ _ _ ((_, lst _) :: (_, cellO _) :: (_, cellO (some _)) :: _) _ => S1
  obtain ⟨ow, hown, S1⟩ := own_gen S1
  refine foldQ fun Q1 hQ1 => ?_
  refine comp_rng (fun i vs fr => vs.length = i ∧ ∃ ks : List Int, All2 IsI ks vs) rfl (by decide) rfl (by decide) rfl (by decide) hh ?_
  walk_at "W"
  rename Sta _ _ _ _ ((_, rng _ _) :: _) _ => S2
  have c1 : Heap.IsCell _ (L + 1) (some (.ref l)) := S2.atC (by walk_at "mem")
  have c2 : Heap.IsCell _ (L + 2) _ := S2.atC (by walk_at "mem")
  have Hl2 := baseL Hl S2
  have HD := (S2.atC (P := lst _) (by walk_at "mem")).isL
  have X2 := S2.lib X
  refine ⟨_, 8, rfl, S2.atC (.head _), by decide, ⟨rfl, [], .nil⟩, fun i vs fr h => Nat.le_of_eq h.1, ?_, ?_⟩
  · intro D C it i ws fr h1 t1 u m1 hi hP S3
    obtain ⟨hw, ks, hks⟩ := hP
    obtain ⟨n0, t0, hown⟩ := hown i hi
    show wpAny (model prg w) A (PySem.eval _ _) _ _ _
    walk_at "W"
    rename_i D2 X3 h3 hX3 S4
    refine sumS hh S4 (S4.atC (.head _)).isL (fun v hv' => hv v (hX3 v hv')) fun n1 t5 h5 k5 S5 => ?_
    walk_at "W"
    exact ⟨_, _, _, [(D2, lst X3)], _, rfl, S5, by rw [List.length_append, hw]; rfl, ks ++ [n0 + n1], hks.append (.cons ⟨_, rfl⟩ .nil)⟩
  · intro D l1 fr1 h1 t1 hM hk hP
    obtain ⟨hl8, ks, hks⟩ := hP
    have S6 := (S2.drop .head).made hk hM
    have hks8 : ks.length = 8 := by rw [hks.len, hl8]
    refine hQ1 _ _ ?_
    clear hQ1 S2 HD hown c1 c2 Hl2
    walk_at "W"
    refine path_call (s := { s with heap := h1, toks := t1 }) (S6.lib X) hh (by walk_at "om") (S6.atF (List.mem_append_left _ (.head _))).isL hks (by walk_at "om") fun h2 u2 t2 k2 => ?_
    have S7 := S6.ext k2
    walk_at "W"
    subst hr2
    refine execs_cutT (by assumption) fun r3 hr3 => ?_
    walk_at "W"
    rename Sta _ _ _ _ ((_, lst _) :: (_, cellO _) :: (_, cellO _) :: (_, cellO (some _)) :: _) _ => S8
    have hpl : (mk (pathL ks)).length ≤ 100 := by
      rw [mk_len]
      have := pathL_len ks
      walk_at "om"
    refine rows_call (s := { s with heap := _, toks := _ }) (S8.lib X) hh (by walk_at "om") (by walk_at "om") fun DR vR frR h3 t3 hM3 hA3 k3 => ?_
    rw [tl_mk] at hA3
    have S9 := S8.made k3 hM3
    walk_at "W"
    subst hr3
    refine execs_cutT (by assumption) fun r4 hr4 => ?_
    walk_at "W"
    rename Sta _ _ _ _ ((_, lst _) :: (_, cellO _) :: (_, cellO _) :: (_, cellO _) :: (_, cellO (some _)) :: _) _ => S10
    refine hidden_call (s := { s with heap := _, toks := _ }) (S10.lib X) hh (by walk_at "om") (by walk_at "om") fun DH h4 t4 hM4 k4 => ?_
    rw [tl_mk] at hM4
    have S11 := S10.made k4 hM4
    walk_at "W"
    rename Sta _ _ _ _ ((_, lst _) :: (_, cellO _) :: (_, cellO _) :: (_, cellO _) :: (_, cellO _) :: (_, cellO (some _)) :: _) _ => S12
    refine h _ hr4 ks _ _ _ _ _ _ vR _ hks8 (hA3.mono fun _ _ => IsRow.mono fun p hp => ?_) ?_ ?_ (S12.drop .head) (by assumption)
    · simp [hp]
    · simp
    · simp
end
end
section
open Builtin Builtin.Str
section
variable {w : World} {A : Around} {s : Shared} {g : Heap} {L l DR DH F : Addr} {m : Str → Option Value} {vR : List Value} {tp : Tok} {x2 : Option Value} {p : List Nat} {cs fr : List Cl} {Q : Flow → Shared → Prop} {E : Value → Shared → Prop}

noncomputable abbrev cL (L l : Addr) (x2 : Option Value) (p : List Nat) (tp : Tok) (DR DH : Addr) (x6 : Option Value) : List Cl := [(L + 1, cellO (some (.ref l))), (L + 2, cellO x2), (L + 3, cellO (some (.str (mk p) tp))), (L + 4, cellO (some (.ref DR))), (L + 5, cellO (some (.ref DH))), (L + 6, cellO x6)]

set_option maxHeartbeats 4000000 in
theorem law2 {bd : List Stmt} (hbd : bd = lawR 4) (ht : 1 ≤ s.toks) (hh : A.handled = none)
    (S : Sta g s.heap L (fun _ => none) (cL L l x2 p tp DR DH none) fr)
    (h : ∀ bd', bd' = lawR 6 → ∀ h' t' m' F tsF, m' "front" = some (.ref F) → tsF.map (fun q : Str × Tok => tl q.1) = frontL p → Sta g h' L m' ((F, lst (strValues tsF).toArray) :: cL L l x2 p tp DR DH none) fr → 1 ≤ t' →
      wpAny (model prg w) A (execs bd' (envL L)) Q E { s with heap := h', toks := t' }) :
    wpAny (model prg w) A (execs bd (envL L)) Q E s := by
  subst hbd
  have hfo := StrLaws.found_one (mk p) 42
  refine execs_cutT ht fun r1 hr1 => ?_
  walk_at "W"
  subst hr1
  refine execs_cutT (by assumption) fun r2 hr2 => ?_
  walk_at "W"
  · have hq : (occurrences (mk p) (Str.ofString "*") 0 (mk p).length 1).isEmpty = true := by assumption
    have hm : 42 ∉ p := by
      rw [show (⟨#[42]⟩ : Str) = Str.ofString "*" from by decide, hq] at hfo
      intro hm
      rw [show decide (42 ∈ (mk p).cps.toList) = true from decide_eq_true (by rw [show (mk p).cps.toList = p from tl_mk p]; exact hm)] at hfo
      cases hfo
    rename Sta _ _ _ (up _ _ _) _ _ => S3
    exact h _ hr2 _ _ _ _ [(Str.ofString ".", _), (Str.ofString "*", _)] (by walk_at "lk") (by unfold frontL; rw [if_neg hm]; rfl) S3 (by assumption)
  · have hq : (occurrences (mk p) (Str.ofString "*") 0 (mk p).length 1).isEmpty = false := by assumption
    have hm : 42 ∈ p := by
      rw [show (⟨#[42]⟩ : Str) = Str.ofString "*" from by decide, hq] at hfo
      have := of_decide_eq_true hfo.symm
      rw [show (mk p).cps.toList = p from tl_mk p] at this
      exact this
    walk_at "W"
    rename Sta _ _ _ (up (up _ _ _) _ _) ((_, lst #[]) :: (_, lst _) :: _) _ => S3
    exact h _ hr2 _ _ _ _ [] (by walk_at "lk") (by unfold frontL; rw [if_pos hm]; rfl) (S3.drop (.tail .head)) (by assumption)
end
end
section
open Builtin Builtin.Str
section
variable {w : World} {A : Around} {s : Shared} {g : Heap} {L l DR DH F : Addr} {m : Str → Option Value} {vR : List Value} {tp : Tok} {x2 : Option Value} {p : List Nat} {tsF : List (Str × Tok)} {cs fr : List Cl} {Q : Flow → Shared → Prop} {E : Value → Shared → Prop}

set_option maxHeartbeats 1000000 in
theorem law3 {bd : List Stmt} (hbd : bd = lawR 6) (ht : 1 ≤ s.toks) (X : Lib w g) (hh : A.handled = none) (hroom : A.depth + 6 < recursionLimit) (hp : p.length ≤ 16) (hF : m "front" = some (.ref F)) (hts : tsF.map (fun q : Str × Tok => tl q.1) = frontL p)
    (hDR : (DR, lst vR.toArray) ∈ fr) (hA : All2 (IsRow fr) (rowsL p) vR)
    (S : Sta g s.heap L m ((F, lst (strValues tsF).toArray) :: cL L l x2 p tp DR DH none) fr)
    (h : ∀ bd', bd' = lawR 7 → ∀ h' t' DP vP fr', All2 (IsP fr') (pairsN 0 (allU p)) vP → (DP, lst vP.toArray) ∈ fr' → (∀ q ∈ fr, q ∈ fr') →
      Sta g h' L (up m "pairs" (.ref DP)) ((F, lst (strValues tsF).toArray) :: cL L l x2 p tp DR DH none) fr' → 1 ≤ t' →
      wpAny (model prg w) A (execs bd' (envL L)) Q E { s with heap := h', toks := t' }) :
    wpAny (model prg w) A (execs bd (envL L)) Q E s := by
  subst hbd
  refine execs_cutT ht fun r1 hr1 => ?_
  walk_at "W"
  refine foldQ fun Q1 hQ1 => ?_
  refine comp_lst2 (fun i vs => ∃ ts : List (Str × Tok), vs = strValues ts ∧ ts.map (fun q : Str × Tok => tl q.1) = ((rowsL p).take i).flatten) rfl (by decide) rfl (by decide) rfl rfl (by decide) (by decide) hh ?_ (fun _ _ => rfl)
  walk_at "W"
  have hrl : vR.length = p.length := by rw [← hA.len, rows_len]
  refine ⟨DR, vR.toArray, rfl, (S.atF hDR).isL, by rw [List.size_toArray]; walk_at "om", ⟨[], rfl, by simp⟩, ?_, ?_, ?_⟩
  · rintro i vs ⟨ts, rfl, hts⟩
    have e1 := congrArg List.length hts
    have e2 := take_flat_len (rowsL p) (fun r hr => (rows_ok p r hr).1) i
    rw [List.length_map] at e1
    rw [rows_len] at e2
    rw [strV_len]
    walk_at "om"
  · rintro D C it i v vs h1 t1 m1 hget ⟨ts, rfl, hts1⟩ S3
    rw [List.getElem?_toArray] at hget
    obtain ⟨row, hrow, R, tr, rfl, htr, hR⟩ := hA.get i v hget
    show wpAny (model prg w) A (PySem.eval _ _) _ _ _
    walk_at "W"
    exact ⟨R, strValues tr, _, _, _, [], rfl, rfl, S3, (S.atF hR).isL, ts ++ tr, by simp [strValues], by rw [List.map_append, hts1, htr, take_flat hrow]⟩
  · rintro D vs h1 t1 hM hk ⟨ts, rfl, hts1⟩
    rw [List.size_toArray, hrl, ← rows_len, List.take_length] at hts1
    have S6 := S.made hk hM
    refine hQ1 _ _ ?_
    clear hQ1
    walk_at "W"
    have hD := S6.atF (d := D) (List.mem_append_left _ (.head _))
    have hFl : tsF.length ≤ 2 := by rw [← List.length_map (f := fun q : Str × Tok => tl q.1), hts]; exact (front_ok p).1
    have htl : ts.length ≤ 112 := by
      have e1 := congrArg List.length hts1
      have e2 := flat_len (rowsL p) (fun r hr => (rows_ok p r hr).1)
      rw [List.length_map] at e1
      rw [rows_len] at e2
      walk_at "om"
    refine catS (s := { s with heap := _, toks := _ }) S6 (S6.atC (.head _)) hD (by rw [strV_size, strV_size]; walk_at "om") fun D2 h2 S7 => ?_
    walk_at "W"
    have ecat : (strValues tsF).toArray ++ (strValues ts).toArray = (strValues (tsF ++ ts)).toArray := by simp [strValues]
    rw [ecat] at S7
    refine pairs_call (ts := tsF ++ ts) (s := { s with heap := _, toks := _ }) (S7.lib X) hh (by walk_at "om") (S7.atC (.head _)).isL (by rw [List.length_append]; walk_at "om") ?_ fun DP vP frP h3 t3 hM3 hA3 k3 => ?_
    · intro q hq
      have key : tl q.1 ∈ allU p := by
        have : tl q.1 ∈ (tsF ++ ts).map fun q : Str × Tok => tl q.1 := List.mem_map.mpr ⟨q, hq, rfl⟩
        rw [List.map_append, hts, hts1] at this
        exact this
      rw [tl_len]
      rcases List.mem_append.mp key with k | k
      · exact (front_ok p).2 _ k
      · obtain ⟨r, hr, hu⟩ := List.mem_flatten.mp k
        exact (rows_ok p r hr).2 _ hu
    · rw [List.map_append, hts, hts1] at hA3
      have S8 := (S7.drop .head).made k3 hM3
      walk_at "W"
      rename Sta _ _ _ (up _ _ _) _ _ => S9
      exact h _ hr1 _ _ _ vP _ (hA3.mono fun _ _ => IsP.mono fun q hq => List.mem_append_left _ (.tail _ hq)) (List.mem_append_left _ (.head _)) (fun q hq => by simp [hq]) S9 (by assumption)
end
end
section
open Builtin Builtin.Str
section
variable {w : World} {A : Around} {s : Shared} {g : Heap} {L l DR DH F : Addr} {m : Str → Option Value} {vR : List Value} {tp : Tok} {x2 : Option Value} {p : List Nat} {tsF : List (Str × Tok)} {cs fr : List Cl} {Q : Flow → Shared → Prop} {E : Value → Shared → Prop}

theorem Sta.weakF {h : Heap} {fr' : List Cl} (S : Sta g h L m cs fr) (k : ∀ q ∈ fr', q ∈ fr) : Sta g h L m cs fr' := ⟨S.ns, S.keep, S.gL, S.cell, S.nd, fun q hq => S.frz q (k q hq)⟩
set_option maxHeartbeats 1000000 in
theorem law4 {bd : List Stmt} (hbd : bd = lawR 7) (ht : 1 ≤ s.toks) (X : Lib w g) (hh : A.handled = none) (hroom : A.depth + 6 < recursionLimit) (hp : p.length ≤ 16) (hF : m "front" = some (.ref F)) (hts : tsF.map (fun q : Str × Tok => tl q.1) = frontL p)
    (hDR : (DR, lst vR.toArray) ∈ fr) (hA : All2 (IsRow fr) (rowsL p) vR) (hDH : (DH, lst ((hiddenL p).map Value.bool).toArray) ∈ fr)
    (S : Sta g s.heap L m ((F, lst (strValues tsF).toArray) :: cL L l x2 p tp DR DH none) fr)
    (h : ∀ bd', bd' = lawR 8 → ∀ h' t' u, Sta g h' L (up m "left" (.str (mk (leftL p)) u)) (cL L l x2 p tp DR DH none) fr → 1 ≤ t' →
      wpAny (model prg w) A (execs bd' (envL L)) Q E { s with heap := h', toks := t' }) :
    wpAny (model prg w) A (execs bd (envL L)) Q E s := by
  subst hbd
  have hrl : vR.length = p.length := by rw [← hA.len, rows_len]
  refine execs_cutT ht fun r1 hr1 => ?_
  walk_at "W"
  refine foldQ fun Q1 hQ1 => ?_
  refine comp_rng2 (fun i vs => ∃ ts : List (Str × Tok), vs = strValues ts ∧ ts.map (fun q : Str × Tok => tl q.1) = ((keptR p).take i).flatten) rfl (by decide) rfl (by decide) rfl rfl (by decide) (by decide) hh ?_ (fun _ _ => rfl)
  have hfitR : vR.toArray.size < 1000000 := by rw [List.size_toArray]; walk_at "om"
  walk_at "W"
  refine Calls.call_len_list (S.atF hDR).isL (by rw [List.size_toArray]; walk_at "om") ?_
  walk_at "W"
  rename Sta _ _ _ _ ((_, rng _ _) :: _) _ => S2
  have c4 : Heap.IsCell _ (L + 4) (some (.ref DR)) := S2.atC (by walk_at "mem")
  have c5 : Heap.IsCell _ (L + 5) (some (.ref DH)) := S2.atC (by walk_at "mem")
  have HR := (S2.atF hDR).isL
  have HH := (S2.atF hDH).isL
  have HRs : ∀ R tr, (R, lst (strValues tr).toArray) ∈ fr → Heap.IsList _ R (strValues tr).toArray := fun R tr hR => (S2.atF hR).isL
  refine ⟨_, vR.toArray.size, rfl, S2.atC (.head _), by rw [List.size_toArray]; walk_at "om", ⟨[], rfl, by simp⟩, ?_, ?_, ?_⟩
  · rintro i vs ⟨ts, rfl, hts⟩
    have e1 := congrArg List.length hts
    have e2 := take_flat_len (keptR p) (fun r hr => (kept_ok p r hr).1) i
    rw [List.length_map] at e1
    rw [kept_len] at e2
    rw [strV_len]
    walk_at "om"
  · rintro D C it i vs h1 t1 u1 m1 hi ⟨ts, rfl, hts1⟩ S3
    rw [List.size_toArray] at hi
    have hgR : vR.toArray[((i : Nat) : Int).toNat]? = some vR[i] := by rw [Int.toNat_natCast, List.getElem?_toArray, List.getElem?_eq_getElem hi]
    obtain ⟨row, hrow, R, tr, hv, htr, hR⟩ := hA.get i vR[i] (List.getElem?_eq_getElem hi)
    rw [hv] at hgR
    have hiH : i < (hiddenL p).length := by rw [hidden_len]; walk_at "om"
    have hgH : ((hiddenL p).map Value.bool).toArray[((i : Nat) : Int).toNat]? = some (.bool (hiddenL p)[i]) := by rw [Int.toNat_natCast, List.getElem?_toArray, List.getElem?_map, List.getElem?_eq_getElem hiH]; rfl
    have hkg := kept_get hrow (List.getElem?_eq_getElem hiH)
    cases hb : (hiddenL p)[i] with
    | true =>
      rw [hb] at hgH hkg
      show wpAny (model prg w) A (PySem.isTrue _ _ _) _ _ _
      walk_at "W"
      exact ⟨_, _, _, [], rfl, S3, ts, rfl, by rw [hts1, take_flat hkg]; simp⟩
    | false =>
      rw [hb] at hgH hkg
      show wpAny (model prg w) A (PySem.isTrue _ _ _) _ _ _
      walk_at "W"
      exact ⟨R, strValues tr, _, _, _, [], rfl, rfl, S3, HRs R tr hR, ts ++ tr, by simp [strValues], by rw [List.map_append, hts1, htr, take_flat hkg]; simp⟩
  · rintro D vs h1 t1 hM hk ⟨ts, rfl, hts1⟩
    rw [List.size_toArray, hrl, ← kept_len, List.take_length] at hts1
    have S6 := (S2.drop .head).made hk hM
    refine hQ1 _ _ ?_
    clear hQ1
    walk_at "W"
    have hD := S6.atF (d := D) (List.mem_append_left _ (.head _))
    have hFl : tsF.length ≤ 2 := by rw [← List.length_map (f := fun q : Str × Tok => tl q.1), hts]; exact (front_ok p).1
    have htl : ts.length ≤ 112 := by
      have e1 := congrArg List.length hts1
      have e2 := flat_len (keptR p) (fun r hr => (kept_ok p r hr).1)
      rw [List.length_map] at e1
      rw [kept_len] at e2
      walk_at "om"
    refine catS (s := { s with heap := _, toks := _ }) S6 (S6.atC (.head _)) hD (by rw [strV_size, strV_size]; walk_at "om") fun D2 h2 S7 => ?_
    walk_at "W"
    have ecat : (strValues tsF).toArray ++ (strValues ts).toArray = (strValues (tsF ++ ts)).toArray := by simp [strValues]
    rw [ecat] at S7
    refine join_all (s := { s with heap := _, toks := _ }) S7 (by rw [List.length_append]; walk_at "om") ?_ fun t' k S8 => ?_
    · intro q hq
      have key : tl q.1 ∈ frontL p ++ (keptR p).flatten := by
        have : tl q.1 ∈ (tsF ++ ts).map fun q : Str × Tok => tl q.1 := List.mem_map.mpr ⟨q, hq, rfl⟩
        rw [List.map_append, hts, hts1] at this
        exact this
      rw [tl_len]
      rcases List.mem_append.mp key with k | k
      · have := ((front_ok p).2 _ k).2; walk_at "om"
      · obtain ⟨r, hr, hu⟩ := List.mem_flatten.mp k
        have := ((kept_ok p r hr).2 _ hu).2; walk_at "om"
    · rw [List.map_append, hts, hts1]
      have S9 := ((S8.drop .head).drop .head).weakF (fr' := fr) fun q hq => List.mem_append_right _ hq
      walk_at "W"
      rename Sta _ _ _ (up _ _ _) _ _ => S10
      exact h _ hr1 _ _ _ S10 (by assumption)
end
end
section
open Builtin Builtin.Str
noncomputable def shownL (p : List Nat) : List Bool := ((p.zip (hiddenL p)).filter fun x => x.1 == 42).map fun x => !x.2
noncomputable def outerL (p : List Nat) : Bool := match shownL p with
  | [] => true
  | b :: r => b && (b :: r).getLast (by simp)
section
variable {w : World} {A : Around} {s : Shared} {g : Heap} {L l DR DH F : Addr} {m : Str → Option Value} {vR : List Value} {tp : Tok} {x2 : Option Value} {p : List Nat} {tsF : List (Str × Tok)} {cs fr : List Cl} {Q : Flow → Shared → Prop} {E : Value → Shared → Prop}

set_option maxHeartbeats 1000000 in
theorem law5 {bd : List Stmt} (hbd : bd = lawR 8) (ht : 1 ≤ s.toks) (X : Lib w g) (hh : A.handled = none) (hroom : A.depth + 6 < recursionLimit) (hp : p.length ≤ 16)
    (hDH : (DH, lst ((hiddenL p).map Value.bool).toArray) ∈ fr)
    (S : Sta g s.heap L m (cL L l x2 p tp DR DH none) fr)
    (h : ∀ bd', bd' = lawR 9 → ∀ h' t' DS, Sta g h' L (up m "shown" (.ref DS)) ((DS, lst ((shownL p).map Value.bool).toArray) :: cL L l x2 p tp DR DH none) fr → 1 ≤ t' →
      wpAny (model prg w) A (execs bd' (envL L)) Q E { s with heap := h', toks := t' }) :
    wpAny (model prg w) A (execs bd (envL L)) Q E s := by
  subst hbd
  have hmk : (mk p).length = p.length := mk_len p
  refine execs_cutT ht fun r1 hr1 => ?_
  refine foldQ fun Q1 hQ1 => ?_
  refine asg_rng (fun i vs fr => fr = [] ∧ vs = ((((p.zip (hiddenL p)).take i).filter fun x => x.1 == 42).map fun x => !x.2).map Value.bool) rfl rfl rfl rfl (by decide) rfl (by decide) rfl (by decide) hh ?_
  walk_at "W"
  rename Sta _ _ _ _ ((_, rng _ _) :: _) _ => S2
  have c3 : Heap.IsCell _ (L + 3) (some (.str (mk p) tp)) := S2.atC (by walk_at "mem")
  have c5 : Heap.IsCell _ (L + 5) (some (.ref DH)) := S2.atC (by walk_at "mem")
  have HH := (S2.atF hDH).isL
  refine ⟨_, (mk p).length, g, m, _, fr, S2, rfl, S2.atC (.head _), by walk_at "om", ⟨rfl, rfl⟩, ?_, ?_, ?_⟩
  · rintro i vs fr1 ⟨_, rfl⟩
    rw [List.length_map, List.length_map]
    refine Nat.le_trans (List.length_filter_le _ _) ?_
    rw [List.length_take]; walk_at "om"
  · rintro D C it i vs fr1 h1 t1 u1 m1 hi ⟨rfl, rfl⟩ S3
    rw [hmk] at hi
    have hiH : i < (hiddenL p).length := by rw [hidden_len]; walk_at "om"
    have hgH : ((hiddenL p).map Value.bool).toArray[((i : Nat) : Int).toNat]? = some (.bool (hiddenL p)[i]) := by rw [Int.toNat_natCast, List.getElem?_toArray, List.getElem?_map, List.getElem?_eq_getElem hiH]; rfl
    have hpi : ((tl (mk p))[((i : Nat) : Int).toNat]?).getD 0 = p[i] := by rw [tl_mk, Int.toNat_natCast, List.getElem?_eq_getElem hi]; rfl
    have hzip : (p.zip (hiddenL p))[i]? = some (p[i], (hiddenL p)[i]) := List.getElem?_zip_eq_some.mpr ⟨List.getElem?_eq_getElem hi, List.getElem?_eq_getElem hiH⟩
    have htk : (p.zip (hiddenL p)).take (i + 1) = (p.zip (hiddenL p)).take i ++ [(p[i], (hiddenL p)[i])] := by rw [List.take_add_one, hzip]; rfl
    show wpAny (model prg w) A (PySem.isTrue _ _ _) _ _ _
    walk_at "W"
    · have hq : (mk [((tl (mk p))[((i : Nat) : Int).toNat]?).getD 0] == Str.ofString "*") = true := by assumption
      rw [hpi] at hq
      have h42 : p[i] = 42 := by
        have := mk_inj.mp (beq_iff_eq.mp hq : mk [p[i]] = mk [42])
        simpa using this
      refine ⟨_, _, _, [], [], rfl, S3, rfl, ?_⟩
      rw [htk, List.filter_append, List.map_append, List.map_append]
      simp [h42]
    · have hq : (mk [((tl (mk p))[((i : Nat) : Int).toNat]?).getD 0] == Str.ofString "*") = false := by assumption
      rw [hpi] at hq
      have h42 : ¬ p[i] = 42 := fun e => by rw [e] at hq; exact absurd hq (by decide)
      refine ⟨_, _, _, [], [], rfl, S3, rfl, ?_⟩
      rw [htk, List.filter_append, List.map_append, List.map_append]
      simp [h42]
  · rintro D l1 fr1 h1 t1 S4 ⟨rfl, rfl⟩
    refine hQ1 _ _ fun ht' => ?_
    have e : (p.zip (hiddenL p)).take (mk p).length = p.zip (hiddenL p) := List.take_of_length_le (by rw [List.length_zip, hmk]; walk_at "om")
    rw [e] at S4
    exact h _ hr1 _ _ _ (S4.drop (.tail .head)) ht'
end
end
section
open Builtin Builtin.Str
section
variable {w : World} {A : Around} {s : Shared} {g : Heap} {L l DR DH DS : Addr} {m : Str → Option Value} {vR : List Value} {tp : Tok} {x2 : Option Value} {p : List Nat} {bs : List Bool} {cs fr : List Cl} {Q : Flow → Shared → Prop} {E : Value → Shared → Prop}

noncomputable def outL (bs : List Bool) : Bool := match bs with
  | [] => true
  | b :: r => b && (b :: r).getLast (by simp)

set_option maxHeartbeats 1000000 in
theorem law6 {bd : List Stmt} (hbd : bd = lawR 9) (ht : 1 ≤ s.toks) (X : Lib w g) (hh : A.handled = none) (hu : A.units < cLine) (hbs : bs.length ≤ 100) (hS : m "shown" = some (.ref DS))
    (S : Sta g s.heap L m ((DS, lst (bs.map Value.bool).toArray) :: cL L l x2 p tp DR DH none) fr)
    (h : ∀ bd', bd' = lawR 10 → ∀ h' t', Sta g h' L (up m "outer" (.bool (outL bs))) ((DS, lst (bs.map Value.bool).toArray) :: cL L l x2 p tp DR DH none) fr → 1 ≤ t' →
      wpAny (model prg w) A (execs bd' (envL L)) Q E { s with heap := h', toks := t' }) :
    wpAny (model prg w) A (execs bd (envL L)) Q E s := by
  subst hbd
  refine execs_cutT ht fun r1 hr1 => ?_
  refine foldQ fun Q1 hQ1 => ?_
  walk_at "W"
  rename Sta _ _ _ _ ((_, lst #[]) :: _) _ => S2
  have HE := (S2.atC (.head _)).isL
  have HS := (S2.atC (P := lst _) (.tail _ (.head _))).isL
  have S3 := S2.drop .head
  cases bs with
  | nil =>
    refine SeqAt.eq_listAt (e := fun _ => true) HS HE rfl hu (fun j h1 => absurd h1 (Nat.not_lt_zero j)) ?_
    walk_at "W"
    rename Sta _ _ _ (up _ _ _) _ _ => S4
    exact hQ1 _ _ (fun ht' => h _ hr1 _ _ S4 ht')
  | cons b r =>
    refine SeqAt.eq_list_lengthsAt HS HE (by simp) hu ?_
    have hg0 : (((b :: r).map Value.bool).toArray)[(0 : Int).toNat]? = some (.bool b) := by simp
    have hs1 : 1 ≤ (((b :: r).map Value.bool).toArray).size := by simp
    have hg1 : (((b :: r).map Value.bool).toArray)[(((b :: r).map Value.bool).toArray).size - 1]? = some (.bool ((b :: r).getLast (by simp))) := by
      rw [List.getElem?_toArray, List.size_toArray, List.length_map, List.getElem?_map, ← List.getLast?_eq_getElem?, List.getLast?_eq_some_getLast (by simp)]; rfl
    have eo : outL (b :: r) = (b && (b :: r).getLast (by simp)) := rfl
    generalize (b :: r).getLast (by simp) = z at hg1 eo
    clear HE HS
    cases b with
    | true =>
      walk_at "W"
      rename Sta _ _ _ (up _ _ _) _ _ => S4
      rw [eo] at h
      exact hQ1 _ _ (fun ht' => h _ hr1 _ _ S4 ht')
    | false =>
      walk_at "W"
      rename Sta _ _ _ (up _ _ _) _ _ => S4
      rw [eo] at h
      exact hQ1 _ _ (fun ht' => h _ hr1 _ _ S4 ht')
end
end
section
open Builtin Builtin.Str
section
variable {w : World} {A : Around} {s : Shared} {g : Heap} {L l DR DH DS : Addr} {m : Str → Option Value} {tp : Tok} {x2 : Option Value} {p : List Nat} {bs : List Bool} {cs fr : List Cl} {Q : Flow → Shared → Prop} {E : Value → Shared → Prop}

set_option maxHeartbeats 1000000 in
theorem law7 {bd : List Stmt} (hbd : bd = lawR 10) (ht : 1 ≤ s.toks) (X : Lib w g) (hh : A.handled = none) (hroom : A.depth + 6 < recursionLimit) (hp : p.length ≤ 16)
    (S : Sta g s.heap L m (cL L l x2 p tp DR DH none) fr)
    (h : ∀ bd', bd' = lawR 11 → ∀ h' t' u, Sta g h' L (up m "pattern" (.str (mk (trL p)) u)) (cL L l x2 p tp DR DH none) fr → 1 ≤ t' →
      wpAny (model prg w) A (execs bd' (envL L)) Q E { s with heap := h', toks := t' }) :
    wpAny (model prg w) A (execs bd (envL L)) Q E s := by
  subst hbd
  refine execs_cutT ht fun r1 hr1 => ?_
  refine foldQ fun Q1 hQ1 => ?_
  walk_at "W"
  refine tp_call (s := { s with heap := _, toks := _ }) (S.lib X) hh (by walk_at "om") (by rw [mk_len]; walk_at "om") fun h1 u t1 k1 => ?_
  rw [tl_mk]
  have S1 := S.ext k1
  walk_at "W"
  rename Sta _ _ _ (up _ _ _) _ _ => S4
  exact hQ1 _ _ (fun ht' => h _ hr1 _ _ _ S4 ht')
end
end
section
open SeqAt MeetsSeq
section
variable {prog : Program} {w : World} {A : Around} {E : Value → Shared → Prop} {s : Shared} {g : Heap} {L a b : Addr} {m : Str → Option Value} {cs fr : List Cl} {us : Us} {vs ws : List Value}
theorem tupEq {T1 T2 : Addr} {p : Nat} {u : List Nat} {t1 t2 t3 t4 : Tok} (hu : A.units < cLine) (h1 : s.heap.IsTuple T1 #[.int (p : Nat) t1, .str (mk u) t2]) (h2 : s.heap.IsTuple T2 #[.int (p : Nat) t3, .str (mk u) t4]) : EqAt A s (.ref T1) (.ref T2) true := by
  by_cases hne : T1 = T2
  · subst hne; exact EqAt.same _
  · have := RcAt.tuples (A := A) (e := fun _ => true) h1 h2 hu (fun j hj1 hj2 => by
      have : j = 0 ∨ j = 1 := by simp at hj1; walk_at "om"
      rcases this with rfl | rfl
      · have := (EqGives.int (p : Nat) (p : Nat) t1 t3).at A.in1 s
        simpa using this
      · have := (SeqRoads2.EqGives.str (mk u) (mk u) t2 t4).at A.in1 s
        simpa using this)
    exact EqAt.of_refs hne this
theorem neS {Q : Value → Shared → Prop} (hu : A.units + 1 < cLine) (S : Sta g s.heap L m cs fr) (h1 : All2 (IsP fr) us vs) (h2 : All2 (IsP fr) us ws) (H1 : s.heap.IsList a vs.toArray) (H2 : s.heap.IsList b ws.toArray) (h : Q (.bool false) s) :
    wpAny (model prog w) A (compareOp .NotEq (.ref a) (.ref b)) Q E s := by
  have key := RcNeAt.lists (A := A) (e := fun _ => true) H1 H2 (by rw [List.size_toArray, List.size_toArray, ← h1.len, ← h2.len]) (by walk_at "om") (fun j hj1 hj2 => by
    obtain ⟨x, hx, T1, t1, t2, e1, m1⟩ := h1.get j _ (by have := Array.getElem?_eq_getElem hj1; rw [List.getElem?_toArray] at this; exact this)
    obtain ⟨y, hy, T2, t3, t4, e2, m2⟩ := h2.get j _ (by have := Array.getElem?_eq_getElem hj2; rw [List.getElem?_toArray] at this; exact this)
    rw [hx] at hy
    cases hy
    rw [e1, e2]
    exact tupEq (A := A.in1) (by first | exact Nat.lt_of_succ_lt hu | exact hu) (S.atF m1).isT (S.atF m2).isT)
  have e : (!(List.range vs.toArray.size).all fun _ => true) = false := by simp
  rw [e] at key
  exact key prog w E Q h
end
end
section
open Builtin Builtin.Str
section
variable {w : World} {A : Around} {s : Shared} {g : Heap} {L l DR DH DP : Addr} {m : Str → Option Value} {vP : List Value} {tp u1 u2 : Tok} {x2 : Option Value} {p pat lf : List Nat} {us : Us} {cs fr : List Cl} {Q : Flow → Shared → Prop} {E : Value → Shared → Prop}

set_option maxHeartbeats 1000000 in
theorem law8 {bd : List Stmt} (hbd : bd = lawR 11) (ht : 1 ≤ s.toks) (X : Lib w g) (hh : A.handled = none) (hroom : A.depth + 8 < recursionLimit) (hu : A.units + 4 < cLine) (hb : Bare s.gens) (hpl : pat.length ≤ 400)
    (hU : unitsL 0 false pat = us) (hL : stripL pat = lf) (hA : All2 (IsP fr) us vP) (hDP : (DP, lst vP.toArray) ∈ fr)
    (m1 : m "pattern" = some (.str (mk pat) u1)) (m2 : m "pairs" = some (.ref DP)) (m3 : m "left" = some (.str (mk lf) u2))
    (S : Sta g s.heap L m (cL L l x2 p tp DR DH none) fr)
    (h : ∀ bd', bd' = lawR 12 → ∀ h' t' G', Bare G' → Sta g h' L m (cL L l x2 p tp DR DH none) fr → 1 ≤ t' →
      wpAny (model prg w) A (execs bd' (envL L)) Q E { s with heap := h', toks := t', gens := G' }) :
    wpAny (model prg w) A (execs bd (envL L)) Q E s := by
  subst hbd
  have hml : (mk pat).length ≤ 400 := by rw [mk_len]; exact hpl
  refine execs_cutT ht fun r1 hr1 => ?_
  refine foldQ fun Q1 hQ1 => ?_
  walk_at "W"
  refine iter_call S X (by walk_at "om") hb fun a gi Lg h1 t1 G1 S1 hb1 HG => ?_
  rw [tl_mk, hU] at HG
  have hul : us.length ≤ 400 := by
    have e2 : _ ≤ pat.length + 0 := units_len pat 0 false
    rw [hU] at e2
    walk_at "om"
  walk_at "W"
  refine list_gen (s := { s with heap := _, toks := _, gens := _ }) hh (by walk_at "om") X S1 (HG _ hh) hb1 (by walk_at "om") fun D vs fr1 h2 t2 G2 hA2 S2 hb2 => ?_
  walk_at "W"
  refine neS (us := us) (by walk_at "om") S2 (hA2.mono fun _ _ => IsP.mono fun q hq => List.mem_append_left _ hq) (hA.mono fun _ _ => IsP.mono fun q hq => List.mem_append_right _ hq) (S2.atC (.head _)).isL (S2.atF (List.mem_append_right _ hDP)).isL ?_
  walk_at "W"
  refine strip_call (s := { s with heap := _, toks := _, gens := _ }) (S2.lib X) hh (by walk_at "om") hb2 (by walk_at "om") fun h3 u3 t3 G3 k3 hb3 => ?_
  rw [tl_mk, hL]
  have S3 := ((S2.ext k3).drop .head).weakF (fr' := fr) fun q hq => List.mem_append_right _ hq
  walk_at "W"
  · rename_i hq
    exfalso
    simp at hq
  · walk_at "W"
    exact hQ1 _ _ (fun ht' => h _ hr1 _ _ _ hb3 S3 ht')
end
end
section
open Builtin Builtin.Str
section
variable {w : World} {A : Around} {s : Shared} {g : Heap} {L l DR DH DS : Addr} {m : Str → Option Value} {tp u1 u2 : Tok} {x2 : Option Value} {p pat : List Nat} {bs : List Bool} {o : Bool} {cs fr : List Cl} {Q : Flow → Shared → Prop} {E : Value → Shared → Prop}

set_option maxHeartbeats 1000000 in
theorem law9 {bd : List Stmt} (hbd : bd = lawR 12) (ht : 1 ≤ s.toks) (X : Lib w g) (hh : A.handled = none) (hroom : A.depth + 8 < recursionLimit) (hb : Bare s.gens) (hpl : pat.length ≤ 400) (hsl : (stripL pat).length ≤ 900)
    (hC : checkL pat = (o || !bs.any id)) (hDS : (DS, lst (bs.map Value.bool).toArray) ∈ fr)
    (m1 : m "pattern" = some (.str (mk pat) u1)) (m2 : m "shown" = some (.ref DS)) (m3 : m "outer" = some (.bool o))
    (S : Sta g s.heap L m (cL L l x2 p tp DR DH none) fr)
    (h : ∀ bd', bd' = lawR 13 → ∀ h' t' G', Bare G' → Sta g h' L m (cL L l x2 p tp DR DH none) fr → 1 ≤ t' →
      wpAny (model prg w) A (execs bd' (envL L)) Q E { s with heap := h', toks := t', gens := G' }) :
    wpAny (model prg w) A (execs bd (envL L)) Q E s := by
  subst hbd
  have hml : (mk pat).length ≤ 400 := by rw [mk_len]; exact hpl
  refine execs_cutT ht fun r1 hr1 => ?_
  refine foldQ fun Q1 hQ1 => ?_
  walk_at "W"
  refine check_call (S.lib X) hh (by walk_at "om") hb (by walk_at "om") (by rw [tl_mk]; exact hsl) fun h1 t1 G1 k1 hb1 => ?_
  rw [tl_mk, hC]
  have S1 := S.ext k1
  cases o with
  | true =>
    walk_at "W"
    · rename_i hq
      exfalso
      simp at hq
    · walk_at "W"
      exact hQ1 _ _ (fun ht' => h _ hr1 _ _ _ hb1 S1 ht')
  | false =>
    walk_at "W"
    refine SeqAt.notIn_listAt (fun v => v == .bool true) (S1.atF hDS).isL (fun y hy => ?_) ?_
    · rw [List.mem_toArray] at hy
      obtain ⟨b, _, rfl⟩ := List.mem_map.mp hy
      have := SeqAt.EqAt.bool_bool (A := A.in1) (s := { s with heap := h1, toks := t1, gens := G1 }) b true
      have e : (Value.bool b == Value.bool true) = (b == true) := by cases b <;> rfl
      rw [e]
      exact this
    · have e : (((bs.map Value.bool).toArray).any fun v => v == .bool true) = bs.any id := by
        rw [List.any_toArray, List.any_map]
        congr 1
        funext b
        cases b <;> rfl
      rw [e]
      walk_at "W"
      · rename_i hq
        exfalso
        simp at hq
      · walk_at "W"
        exact hQ1 _ _ (fun ht' => h _ hr1 _ _ _ hb1 S1 ht')
end
end
section
open Builtin Builtin.Str
section
variable {w : World} {A : Around} {s : Shared} {g : Heap} {L l DR DH DS : Addr} {m : Str → Option Value} {tp u1 u2 : Tok} {x2 : Option Value} {p pat sh : List Nat} {cs fr : List Cl} {Q : Flow → Shared → Prop} {E : Value → Shared → Prop}
noncomputable def shieldL (l : List Nat) : List Nat := (l.map fun c => if c = 34 then [92, 34] else [c]).flatten

theorem shield_split (l : List Nat) : joinL [92, 34] (splitL 34 l) = shieldL l := by
  induction l with
  | nil => rfl
  | cons a r ih =>
    unfold splitL
    have hne := splitL_ne 34 r
    by_cases h : a = 34
    · subst h
      rw [if_pos rfl]
      cases hs : splitL 34 r with
      | nil => exact absurd hs hne
      | cons q t => rw [hs] at ih; simp [joinL, ih, shieldL]
    · rw [if_neg h]
      cases hs : splitL 34 r with
      | nil => exact absurd hs hne
      | cons q t =>
        rw [hs] at ih
        have : joinL [92, 34] ((a :: q) :: t) = a :: joinL [92, 34] (q :: t) := by cases t <;> simp [joinL]
        simp only [this, ih]
        simp [shieldL, h]
theorem shield_is (l : List Nat) : Txt.replace (mk l) (Str.ofString "\"") (Str.ofString "\\\"") = mk (shieldL l) := by
  rw [show Str.ofString "\"" = (⟨#[34]⟩ : Str) from by decide, StrLaws.replace_one]
  rw [← mk_tl (Str.join _ _), tl_join, split_is, tl_mk, ← shield_split]
  rfl
set_option maxHeartbeats 1000000 in
theorem law10 {bd : List Stmt} (hbd : bd = lawR 13) (ht : 1 ≤ s.toks) (X : Lib w g) (hh : A.handled = none) (hb : Bare s.gens) (hpl : pat.length ≤ 400)
    (m1 : m "pattern" = some (.str (mk pat) u1))
    (S : Sta g s.heap L m (cL L l x2 p tp DR DH none) fr)
    (h : ∀ bd', bd' = lawR 14 → ∀ h' t' u, Sta g h' L (up m "shielded" (.str (mk (shieldL pat)) u)) (cL L l x2 p tp DR DH none) fr → 1 ≤ t' →
      wpAny (model prg w) A (execs bd' (envL L)) Q E { s with heap := h', toks := t' }) :
    wpAny (model prg w) A (execs bd (envL L)) Q E s := by
  subst hbd
  have hml : (mk pat).length ≤ 400 := by rw [mk_len]; exact hpl
  refine execs_cutT ht fun r1 hr1 => ?_
  refine foldQ fun Q1 hQ1 => ?_
  walk_at "W"
  refine' SC.replaceW ?z1 ?z2 ?z3 ?z4 ?z5 ?z6 ?_
  case z1 => exact Nat.ne_of_gt ht
  case z2 => exact Nat.succ_ne_zero _
  case z3 => exact Nat.ne_of_lt (Nat.lt_succ_self _)
  case z4 => decide
  case z5 => walk_at "om"
  case z6 => decide
  intro t' k
  rw [shield_is]
  walk_at "W"
  rename Sta _ _ _ (up _ _ _) _ _ => S4
  exact hQ1 _ _ (fun ht' => h _ hr1 _ _ _ S4 ht')
end
end
section
open Builtin Builtin.Str
section
variable {w : World} {A : Around} {s : Shared} {g : Heap} {L l DR DH DS : Addr} {m : Str → Option Value} {tp u1 u2 : Tok} {x2 : Option Value} {p pat sh : List Nat} {cs fr : List Cl} {Q : Flow → Shared → Prop} {E : Value → Shared → Prop}

set_option maxHeartbeats 1000000 in
theorem law11 {bd : List Stmt} (hbd : bd = lawR 14) (ht : 1 ≤ s.toks) (X : Lib w g) (hh : A.handled = none) (hroom : A.depth + 8 < recursionLimit) (hb : Bare s.gens) (hpl : sh.length ≤ 890)
    (hS : stripL sh = sh) (hC : checkL sh = true) (m1 : m "shielded" = some (.str (mk sh) u1))
    (S : Sta g s.heap L m (cL L l x2 p tp DR DH none) fr)
    (h : ∀ bd', bd' = lawR 15 → ∀ h' t' G', Bare G' → Sta g h' L m (cL L l x2 p tp DR DH none) fr → 1 ≤ t' →
      wpAny (model prg w) A (execs bd' (envL L)) Q E { s with heap := h', toks := t', gens := G' }) :
    wpAny (model prg w) A (execs bd (envL L)) Q E s := by
  subst hbd
  have hml : (mk sh).length ≤ 890 := by rw [mk_len]; exact hpl
  refine execs_cutT ht fun r1 hr1 => ?_
  refine foldQ fun Q1 hQ1 => ?_
  walk_at "W"
  refine strip_call (S.lib X) hh (by walk_at "om") hb (by walk_at "om") fun h1 u3 t1 G1 k1 hb1 => ?_
  rw [tl_mk, hS]
  have S1 := S.ext k1
  walk_at "W"
  · rename_i hq
    exfalso
    simp at hq
  · walk_at "W"
    refine check_call (s := { s with heap := _, toks := _, gens := _ }) (S1.lib X) hh (by walk_at "om") hb1 (by walk_at "om") (by rw [tl_mk, hS]; walk_at "om") fun h2 t2 G2 k2 hb2 => ?_
    rw [tl_mk, hC]
    have S2 := S1.ext k2
    walk_at "W"
    exact hQ1 _ _ (fun ht' => h _ hr1 _ _ _ hb2 S2 ht')

set_option maxHeartbeats 1000000 in
theorem law12 {bd : List Stmt} (hbd : bd = lawR 15) (ht : 1 ≤ s.toks) (X : Lib w g) (hh : A.handled = none) (hroom : A.depth + 8 < recursionLimit) (hb : Bare s.gens) (hpl : sh.length ≤ 890)
    (hS : (stripL (sh ++ [41, 40])).length ≤ 900) (hC : checkL (sh ++ [41, 40]) = false) (m1 : m "shielded" = some (.str (mk sh) u1))
    (S : Sta g s.heap L m (cL L l x2 p tp DR DH none) fr)
    (h : ∀ bd', bd' = lawR 16 → ∀ h' t' G', Bare G' → Sta g h' L m (cL L l x2 p tp DR DH none) fr → 1 ≤ t' →
      wpAny (model prg w) A (execs bd' (envL L)) Q E { s with heap := h', toks := t', gens := G' }) :
    wpAny (model prg w) A (execs bd (envL L)) Q E s := by
  subst hbd
  have hml : (mk sh).length ≤ 890 := by rw [mk_len]; exact hpl
  refine execs_cutT ht fun r1 hr1 => ?_
  refine foldQ fun Q1 hQ1 => ?_
  walk_at "W"
  have e : mk sh ++ Str.ofString ")(" = mk (sh ++ [41, 40]) := app_sign rfl
  rw [e]
  refine check_call (s := { s with toks := _ }) (S.lib X) hh (by walk_at "om") hb (by rw [mk_len, List.length_append]; simp; walk_at "om") (by rw [tl_mk]; exact hS) fun h2 t2 G2 k2 hb2 => ?_
  rw [tl_mk, hC]
  have S2 := S.ext k2
  walk_at "W"
  exact hQ1 _ _ (fun ht' => h _ hr1 _ _ _ hb2 S2 ht')
end
end
section
open Builtin Builtin.Str
section
variable {w : World} {A : Around} {s : Shared} {g : Heap} {L l DR DH DS : Addr} {vs : Array Value} {m : Str → Option Value} {tp u1 u2 : Tok} {x2 : Option Value} {p pat : List Nat} {cs fr : List Cl} {Q : Flow → Shared → Prop} {E : Value → Shared → Prop}

set_option maxHeartbeats 1000000 in
theorem law13 {bd : List Stmt} (hbd : bd = lawR 16) (ht : 1 ≤ s.toks) (X : Lib w g) (hh : A.handled = none) (hroom : A.depth + 8 < recursionLimit) (Hl : g.IsList l vs) (hv : ∀ v ∈ vs, ∃ n t, v = Value.int n t) (hpl : pat.length ≤ 400)
    (m1 : m "pattern" = some (.str (mk pat) u1))
    (S : Sta g s.heap L m (cL L l x2 p tp DR DH none) fr)
    (h : ∀ bd', bd' = lawR 17 → ∀ h' t' (c : Nat) u, c ≤ pat.length → Sta g h' L m (cL L l x2 p tp DR DH (some (.int (c : Nat) u))) fr → 1 ≤ t' →
      wpAny (model prg w) A (execs bd' (envL L)) Q E { s with heap := h', toks := t' }) :
    wpAny (model prg w) A (execs bd (envL L)) Q E s := by
  subst hbd
  have hml : (mk pat).length ≤ 400 := by rw [mk_len]; exact hpl
  refine execs_cutT ht fun r1 hr1 => ?_
  refine foldQ fun Q1 hQ1 => ?_
  walk_at "W"
  refine sumS hh S (baseL Hl S) hv fun n t h1 t1 S1 => ?_
  walk_at "W"
  rename Sta _ _ _ _ ((_, cellO _) :: (_, cellO _) :: (_, cellO _) :: (_, cellO _) :: (_, cellO _) :: (_, cellO (some (Value.int _ _))) :: _) _ => S2
  have hm : ((n + 16).fmod (((mk pat).length : Int) + 1)).toNat ≤ pat.length ∧ ((((n + 16).fmod (((mk pat).length : Int) + 1)).toNat : Nat) : Int) = (n + 16).fmod (((mk pat).length : Int) + 1) := by
    have e := mk_len pat
    have h1 := Int.fmod_nonneg_of_pos (n + 16) (b := ((mk pat).length : Int) + 1) (by walk_at "om")
    have h2 := Int.fmod_lt_of_pos (n + 16) (b := ((mk pat).length : Int) + 1) (by walk_at "om")
    walk_at "om"
  rw [← hm.2] at S2
  exact hQ1 _ _ (fun ht' => h _ hr1 _ _ _ _ hm.1 S2 ht')
end
end
section
open Builtin Builtin.Str
section
variable {w : World} {A : Around} {s : Shared} {g : Heap} {L l DR DH DP : Addr} {m : Str → Option Value} {vP : List Value} {tp u1 : Tok} {x2 : Option Value} {p : List Nat} {us : Us} {cs fr : List Cl} {Q : Flow → Shared → Prop} {E : Value → Shared → Prop}

set_option maxHeartbeats 1000000 in
theorem law14 {bd : List Stmt} {c : Nat} (hbd : bd = lawR 17) (ht : 1 ≤ s.toks) (X : Lib w g) (hh : A.handled = none) (hroom : A.depth + 8 < recursionLimit) (hul : us.length ≤ 1000)
    (hA : All2 (IsP fr) us vP) (hDP : (DP, lst vP.toArray) ∈ fr) (m1 : m "pairs" = some (.ref DP))
    (S : Sta g s.heap L m (cL L l x2 p tp DR DH (some (.int (c : Nat) u1))) fr)
    (h : ∀ bd', bd' = lawR 18 → ∀ h' t' DW vW, All2 (IsP fr) (us.filter fun x => decide (x.1 < c)) vW → Sta g h' L (up m "whole" (.ref DW)) ((DW, lst vW.toArray) :: cL L l x2 p tp DR DH (some (.int (c : Nat) u1))) fr → 1 ≤ t' →
      wpAny (model prg w) A (execs bd' (envL L)) Q E { s with heap := h', toks := t' }) :
    wpAny (model prg w) A (execs bd (envL L)) Q E s := by
  subst hbd
  refine execs_cutT ht fun r1 hr1 => ?_
  refine foldQ fun Q1 hQ1 => ?_
  refine asg_lst (fun i vs fr' => fr' = [] ∧ All2 (IsP fr) ((us.take i).filter fun x => decide (x.1 < c)) vs) rfl rfl rfl rfl (by decide) rfl (by decide) (by decide) hh (fun it l i v s Q E a b => letGo_listiter a b) ?_
  walk_at "W"
  have hlen := hA.len
  have c6 : Heap.IsCell _ (L + 6) (some (.int (c : Nat) u1)) := S.atC (by walk_at "mem")
  have HT : ∀ T v, (T, tupl v) ∈ fr → Heap.IsTuple _ T v := fun T v hT => (S.atF hT).isT
  refine ⟨DP, vP.toArray, g, m, _, fr, S, rfl, (S.atF hDP).isL, by rw [List.size_toArray]; walk_at "om", ⟨rfl, .nil⟩, ?_, ?_, ?_⟩
  · rintro i vs fr1 ⟨_, hP⟩
    rw [← hP.len]
    refine Nat.le_trans (List.length_filter_le _ _) ?_
    rw [List.length_take]; walk_at "om"
  · rintro D C it i v vs fr1 h1 t1 m1 hget ⟨rfl, hP⟩ S3
    rw [List.getElem?_toArray] at hget
    obtain ⟨x, hx, T, t2, t3, rfl, hT⟩ := hA.get i v hget
    have htk : us.take (i + 1) = us.take i ++ [x] := by rw [List.take_add_one, hx]; rfl
    have HT1 := HT _ _ hT
    have hf : (us.take (i + 1)).filter (fun x => decide (x.1 < c)) = (us.take i).filter (fun x => decide (x.1 < c)) ++ if x.1 < c then [x] else [] := by
      rw [htk, List.filter_append]
      by_cases hx : x.1 < c <;> simp [hx]
    refine wpAny_assign_Name (stv (s := ⟨_, _, _, _, _⟩) S3 (fun h3 t4 S4 => ?_))
    show wpAny (model prg w) A (PySem.isTrue _ _ _) _ _ _
    have HT2 : Heap.IsTuple h3 T _ := let ⟨o, a, b⟩ := HT1; ⟨o, S4.keep _ _ a, b⟩
    walk_at "W"
    · have hlt : ((x.1 : Nat) : Int) < (c : Nat) := by assumption
      have hlt : x.1 < c := by walk_at "om"
      refine ⟨_, _, _, [], [], rfl, S4, rfl, ?_⟩
      rw [hf, if_pos hlt]
      exact hP.append (.cons ⟨T, t2, t3, rfl, hT⟩ .nil)
    · have hlt : ¬ ((x.1 : Nat) : Int) < (c : Nat) := by assumption
      have hlt : ¬ x.1 < c := by walk_at "om"
      refine ⟨_, _, _, [], [], rfl, S4, rfl, ?_⟩
      rw [hf, if_neg hlt, List.append_nil]
      exact hP
  · rintro D l1 fr1 h1 t1 S4 ⟨rfl, hP⟩
    refine hQ1 _ _ fun ht' => ?_
    have e : us.take vP.toArray.size = us := List.take_of_length_le (by rw [List.size_toArray]; walk_at "om")
    rw [e] at hP
    exact h _ hr1 _ _ _ _ hP S4 ht'
end
end
section
open Builtin Builtin.Str
section
variable {w : World} {A : Around} {s : Shared} {g : Heap} {L l DR DH DP DW : Addr} {m : Str → Option Value} {vP vW : List Value} {tp u1 : Tok} {x2 : Option Value} {p : List Nat} {us ws : Us} {cs fr : List Cl} {Q : Flow → Shared → Prop} {E : Value → Shared → Prop}
noncomputable def isInt (k : Int) (v : Value) : Bool := match v with | .int n _ => n == k | _ => false
theorem All2.ints {us : List Nat} {vs : List Value} (h : All2 (fun x v => ∃ t, v = Value.int (x : Nat) t) us vs) : ∀ y ∈ vs, ∃ n t, y = Value.int n t := by
  induction h with
  | nil => intro y hy; cases hy
  | cons a _ ih =>
    obtain ⟨t, rfl⟩ := a
    intro y hy
    rcases List.mem_cons.mp hy with rfl | hy
    · exact ⟨_, t, rfl⟩
    · exact ih y hy
theorem any_ints {k : Int} {us : List Nat} {vs : List Value} (h : All2 (fun x v => ∃ t, v = Value.int (x : Nat) t) us vs) : vs.toArray.any (isInt k) = decide (k ∈ us.map (fun x : Nat => (x : Int))) := by
  rw [List.any_toArray]
  induction h with
  | nil => rfl
  | @cons x v r s a _ ih =>
    obtain ⟨t, rfl⟩ := a
    rw [List.any_cons, ih, List.map_cons]
    have : isInt k (Value.int (x : Nat) t) = decide (k = (x : Int)) := by
      show ((x : Int) == k) = _
      by_cases e : (x : Int) = k
      · simp [e]
      · have e' : ¬ k = (x : Int) := fun h => e h.symm
        simp [e, e']
    rw [this, ← Bool.decide_or]
    exact decide_eq_decide.mpr (by rw [List.mem_cons])
noncomputable def extraL (us : Us) (c : Nat) : Us := if 0 < c ∧ c - 1 ∉ us.map (·.1) then [(c - 1, [92])] else []

set_option maxHeartbeats 1000000 in
theorem law15 {bd : List Stmt} {c : Nat} (hbd : bd = lawR 18) (ht : 1 ≤ s.toks) (X : Lib w g) (hh : A.handled = none) (hroom : A.depth + 8 < recursionLimit) (hul : us.length ≤ 1000) (hwl : ws.length ≤ 1000)
    (hA : All2 (IsP fr) us vP) (hDP : (DP, lst vP.toArray) ∈ fr) (m1 : m "pairs" = some (.ref DP)) (m2 : m "whole" = some (.ref DW)) (hW : All2 (IsP fr) ws vW)
    (S : Sta g s.heap L m ((DW, lst vW.toArray) :: cL L l x2 p tp DR DH (some (.int (c : Nat) u1))) fr)
    (h : ∀ bd', bd' = lawR 19 → ∀ h' t' vW' fr', All2 (IsP fr') (ws ++ extraL us c) vW' → (∀ q ∈ fr, q ∈ fr') → Sta g h' L m ((DW, lst vW'.toArray) :: cL L l x2 p tp DR DH (some (.int (c : Nat) u1))) fr' → 1 ≤ t' →
      wpAny (model prg w) A (execs bd' (envL L)) Q E { s with heap := h', toks := t' }) :
    wpAny (model prg w) A (execs bd (envL L)) Q E s := by
  subst hbd
  refine execs_cutT ht fun r1 hr1 => ?_
  refine foldQ fun Q1 hQ1 => ?_
  walk_at "W"
  · have hc : (0 : Int) < (c : Nat) := by assumption
    refine foldQ fun Q2 hQ2 => ?_
    refine comp_lst (fun i vs fr' => fr' = [] ∧ All2 (fun x v => ∃ t, v = Value.int (x : Nat) t) ((us.take i).map (·.1)) vs) rfl (by decide) rfl (by decide) (by decide) hh (fun it l i v s Q E a b => letGo_listiter a b) ?_
    walk_at "W"
    have hlen := hA.len
    have HT : ∀ T v, (T, tupl v) ∈ fr → Heap.IsTuple _ T v := fun T v hT => (S.atF hT).isT
    refine ⟨DP, vP.toArray, rfl, (S.atF hDP).isL, by rw [List.size_toArray]; walk_at "om", ⟨rfl, .nil⟩, ?_, ?_, ?_⟩
    · rintro i vs fr1 ⟨_, hP⟩
      rw [← hP.len, List.length_map, List.length_take]
      walk_at "om"
    · rintro D C it i v vs fr1 h1 t1 m1 hget ⟨rfl, hP⟩ S3
      rw [List.getElem?_toArray] at hget
      obtain ⟨x, hx, T, t2, t3, rfl, hT⟩ := hA.get i v hget
      have hf : (us.take (i + 1)).map (·.1) = (us.take i).map (·.1) ++ [x.1] := by rw [List.take_add_one, hx, List.map_append]; rfl
      have HT1 := HT _ _ hT
      have HT2 : Heap.IsTuple h1 T _ := let ⟨o, a, b⟩ := HT1; ⟨o, S3.keep _ _ a, b⟩
      refine wpAny_assign_Tuple hh HT2 rfl rfl fun h2 hx2 => ?_
      have S4 := S3.ext fun b o q => hx2 b o (Nat.ne_of_lt (Heap.lt_size q)) q
      show wpAny _ A (do holding [(.str (mk x.2) t3 : Value)] (assign (.Name _ _) _ (.int x.1 t2)); do holding [] (assign (.Name _ _) _ (.str (mk x.2) t3)); pure ()) _ _ _
      refine wpAny_bind (wpAny_holding (wpAny_assign_Name (stv (s := ⟨_, _, _, _, _⟩) S4 (fun h3 t3 S5 => ?_))))
      refine wpAny_bind (wpAny_holding (wpAny_assign_Name (stv (s := ⟨_, _, _, _, _⟩) S5 (fun h4 t4 S6 => wpAny_pure ?_))))
      dsimp only
      show wpAny (model prg w) A (PySem.eval _ _) _ _ _
      walk_at "W"
      refine ⟨_, _, _, [], [], rfl, S6, rfl, ?_⟩
      rw [hf]
      exact hP.append (.cons ⟨t2, rfl⟩ .nil)
    · rintro D vs fr1 h1 t1 hM hk ⟨rfl, hP⟩
      refine hQ2 _ _ ?_
      have e : us.take vP.toArray.size = us := List.take_of_length_le (by rw [List.size_toArray]; walk_at "om")
      rw [e] at hP
      have S1 := S.made hk hM
      clear hQ2
      have hvs : vW.toArray.size ≤ 1000 := by rw [List.size_toArray, ← hW.len]; exact hwl
      refine SeqAt.notIn_listAt (isInt ((c : Int) - 1)) (S1.atF (List.mem_append_left _ (.head _))).isL (fun y hy => ?_) ?_
      · rw [List.mem_toArray] at hy
        obtain ⟨n, t, rfl⟩ := hP.ints y hy
        exact SeqAt.EqAt.int_int n t _ _
      · rw [any_ints hP, show decide ((c : Int) - 1 ∈ (us.map (·.1)).map (fun x : Nat => (x : Int))) = decide (c - 1 ∈ us.map (·.1)) from decide_eq_decide.mpr (by
          rw [List.mem_map]
          exact ⟨fun ⟨a, ha, e⟩ => (show a = c - 1 by walk_at "om") ▸ ha, fun h => ⟨c - 1, h, by walk_at "om"⟩⟩)]
        by_cases hm : c - 1 ∈ us.map (·.1)
        · rw [decide_eq_true hm]
          walk_at "W"
          have e : extraL us c = [] := if_neg fun h => h.2 hm
          exact hQ1 _ _ (fun ht' => h _ hr1 _ _ vW _ (by rw [e, List.append_nil]; exact hW.mono fun _ _ => IsP.mono fun q hq => List.mem_append_right _ hq) (fun q hq => List.mem_append_right _ hq) S1 ht')
        · rw [decide_eq_false hm]
          walk_at "W"
          have e : extraL us c = [(c - 1, [92])] := if_pos ⟨by walk_at "om", hm⟩
          rename Sta _ _ _ _ ((_, tupl _) :: (_, lst (Array.push _ _)) :: _) _ => S2
          have e1 : (c : Int) - 1 = ((c - 1 : Nat) : Int) := by walk_at "om"
          rw [e1] at S2
          have S3 := S2.freeze .head
          rw [List.push_toArray] at S3
          refine hQ1 _ _ (fun ht' => h _ hr1 _ _ _ _ ?_ (fun q hq => ?_) S3 ht')
          · rw [e]
            exact (hW.mono fun _ _ => IsP.mono fun q hq => .tail _ (List.mem_append_right _ hq)).append (.cons ⟨_, _, _, rfl, .head _⟩ .nil)
          · exact .tail _ (List.mem_append_right _ hq)
  · have hc : ¬ (0 : Int) < (c : Nat) := by assumption
    have e : extraL us c = [] := if_neg fun h => hc (by walk_at "om")
    rw [if_neg Bool.false_ne_true]
    walk_at "W"
    exact hQ1 _ _ (fun ht' => h _ hr1 _ _ vW fr (by rw [e, List.append_nil]; exact hW) (fun _ h => h) S ht')
end
end
section
open Builtin Builtin.Str
section
variable {w : World} {A : Around} {s : Shared} {g : Heap} {L l DR DH DP DW : Addr} {m : Str → Option Value} {vW : List Value} {tp u1 u2 u3 : Tok} {x2 : Option Value} {p pat lf : List Nat} {ws : Us} {o : Bool} {cs fr : List Cl} {Q : Flow → Shared → Prop} {E : Value → Shared → Prop}

set_option maxHeartbeats 1000000 in
theorem law16 {bd : List Stmt} {c : Nat} (hbd : bd = lawR 19) (ht : 1 ≤ s.toks) (X : Lib w g) (hh : A.handled = none) (hroom : A.depth + 8 < recursionLimit) (hu : A.units + 4 < cLine) (hb : Bare s.gens) (hpl : pat.length ≤ 400) (hc : c ≤ pat.length)
    (hU : unitsL 0 false (pat.take c) = ws) (m1 : m "pattern" = some (.str (mk pat) u2)) (m2 : m "whole" = some (.ref DW)) (hW : All2 (IsP fr) ws vW)
    (S : Sta g s.heap L m ((DW, lst vW.toArray) :: cL L l x2 p tp DR DH (some (.int (c : Nat) u1))) fr)
    (h : ∀ bd', bd' = lawR 20 → ∀ h' t' G', Bare G' → Sta g h' L m (cL L l x2 p tp DR DH (some (.int (c : Nat) u1))) fr → 1 ≤ t' →
      wpAny (model prg w) A (execs bd' (envL L)) Q E { s with heap := h', toks := t', gens := G' }) :
    wpAny (model prg w) A (execs bd (envL L)) Q E s := by
  subst hbd
  have hml : (mk pat).length ≤ 400 := by rw [mk_len]; exact hpl
  have hcl : c ≤ (mk pat).length := by rw [mk_len]; exact hc
  refine execs_cutT ht fun r1 hr1 => ?_
  refine foldQ fun Q1 hQ1 => ?_
  walk_at "W"
  rename Sta _ _ _ _ _ _ => S0
  refine iter_call (s := { s with heap := _, toks := _ }) S0 X (by walk_at "om") hb fun a gi Lg h1 t1 G1 S1 hb1 HG => ?_
  rw [tl_mk, tl_mk, hU] at HG
  have hul : ws.length ≤ 400 := by
    have e2 : _ ≤ (pat.take c).length + 0 := units_len (pat.take c) 0 false
    rw [hU, List.length_take] at e2
    walk_at "om"
  clear hcl
  walk_at "W"
  refine list_gen (s := { s with heap := _, toks := _, gens := _ }) hh (by walk_at "om") X S1 (HG _ hh) hb1 (by walk_at "om") fun D vs fr1 h2 t2 G2 hA2 S2 hb2 => ?_
  walk_at "W"
  refine neS (us := ws) (by walk_at "om") S2 (hA2.mono fun _ _ => IsP.mono fun q hq => List.mem_append_left _ hq) (hW.mono fun _ _ => IsP.mono fun q hq => List.mem_append_right _ hq) (S2.atC (.head _)).isL (S2.atC (.tail _ (.head _))).isL ?_
  have S3 := ((S2.drop .head).drop .head).weakF (fr' := fr) fun q hq => List.mem_append_right _ hq
  walk_at "W"
  exact hQ1 _ _ (fun ht' => h _ hr1 _ _ _ hb2 S3 ht')

set_option maxHeartbeats 1000000 in
theorem law17 {bd : List Stmt} {x6 : Option Value} (hbd : bd = lawR 20) (ht : 1 ≤ s.toks) (X : Lib w g) (hh : A.handled = none) (hroom : A.depth + 8 < recursionLimit) (hb : Bare s.gens) (hpl : p.length ≤ 16) (hpl2 : (stripL p).length ≤ 100)
    (hE : (trL (stripL p) == lf) = o) (m1 : m "left" = some (.str (mk lf) u2)) (m2 : m "outer" = some (.bool o))
    (S : Sta g s.heap L m (cL L l x2 p tp DR DH x6) fr)
    (h : ∀ h' t' G', Bare G' → (∀ b o, g.get? b = some o → h'.get? b = some o) → Q (.ret (.bool true)) { s with heap := h', toks := t', gens := G' }) :
    wpAny (model prg w) A (execs bd (envL L)) Q E s := by
  subst hbd
  have hml : (mk p).length ≤ 16 := by rw [mk_len]; exact hpl
  walk_at "W"
  refine strip_call (S.lib X) hh (by walk_at "om") hb (by walk_at "om") fun h1 v1 t1 G1 k1 hb1 => ?_
  rw [tl_mk]
  have S1 := S.ext k1
  walk_at "W"
  refine tp_call (s := { s with heap := _, toks := _, gens := _ }) (S1.lib X) hh (by walk_at "om") (by rw [mk_len]; walk_at "om") fun h2 v2 t2 k2 => ?_
  rw [tl_mk]
  have S2 := S1.ext k2
  walk_at "W"
  rw [mk_beq, hE, beq_self_eq_true]
  exact h _ _ _ hb1 S2.keep
end
end
section
/-! the plain law: no program in sight -/
/-- a unit of a text: one sign that is no backslash, or a backslash and a sign -/
noncomputable def Un (u : List Nat) : Prop := (∃ c, c ≠ 92 ∧ u = [c]) ∨ ∃ c, u = [92, c]

theorem Un.pos {u : List Nat} (h : Un u) : 1 ≤ u.length ∧ u.length ≤ 2 := by
  rcases h with ⟨c, _, rfl⟩ | ⟨c, rfl⟩ <;> simp
theorem units_flat : ∀ (us : List (List Nat)) (k : Nat), (∀ u ∈ us, Un u) → unitsL k false us.flatten = pairsN k us
  | [], k, _ => rfl
  | u :: r, k, h => by
    have ih := fun k => units_flat r k fun x hx => h x (.tail _ hx)
    rcases h u (.head _) with ⟨c, hc, rfl⟩ | ⟨c, rfl⟩
    · simp [unitsL, hc, ih, pairsN]
    · simp [unitsL, ih, pairsN]
theorem pairsN_snd : ∀ (us : List (List Nat)) (k : Nat), (pairsN k us).map (·.2) = us
  | [], k => rfl
  | u :: r, k => by simp [pairsN, pairsN_snd r]

/-- the units that stay when the quoted parts go -/
noncomputable def keepF {α : Type} (q : α → Bool) : Bool → List α → List α
  | _, [] => []
  | false, a :: r => if q a && r.any q then keepF q true r else a :: keepF q false r
  | true, a :: r => keepF q (!q a) r
theorem keepF_none {α : Type} {q : α → Bool} : ∀ {l : List α}, l.any q = false → keepF q false l = l
  | [], _ => rfl
  | a :: r, h => by
    rw [List.any_cons, Bool.or_eq_false_iff] at h
    rw [keepF, h.1, h.2, keepF_none h.2]; rfl
theorem keepF_app {α : Type} {q : α → Bool} (r : List α) : ∀ {l : List α} (b : Bool), l.any q = false → keepF q b (l ++ r) = (if b then [] else l) ++ keepF q b r
  | [], b, _ => by cases b <;> rfl
  | a :: l, b, h => by
    rw [List.any_cons, Bool.or_eq_false_iff] at h
    have ih := keepF_app r b h.2
    cases b with
    | false => rw [List.cons_append, keepF, h.1, Bool.false_and, ih]; rfl
    | true => rw [List.cons_append, keepF, h.1, Bool.not_false, ih]; rfl
theorem keepF_mem {α : Type} {q : α → Bool} {x : α} : ∀ {l : List α} {b : Bool}, x ∈ keepF q b l → x ∈ l
  | [], b, h => by cases b <;> exact h
  | a :: r, true, h => .tail _ (keepF_mem (l := r) h)
  | a :: r, false, h => by
    rw [keepF] at h
    split at h
    · exact .tail _ (keepF_mem h)
    · rcases List.mem_cons.mp h with rfl | h
      · exact .head _
      · exact .tail _ (keepF_mem h)

noncomputable def isQ (u : List Nat) : Bool := u == [34]
theorem isQ_iff {u : List Nat} : isQ u = true ↔ u = [34] := by simp [isQ]

theorem strip_fold (l : List Nat) : ∀ (us : List (List Nat)) (k : Nat) (pre : List Nat) (st : Nat) (o : Option Nat) (res : List (List Nat)), l = pre ++ us.flatten → pre.length = k → st ≤ k → (∀ x, o = some x → st ≤ x) →
    ((pairsN k us).foldl (qStep l) (st, o, res)).2.2.flatten ++ l.drop ((pairsN k us).foldl (qStep l) (st, o, res)).1 =
      res.flatten ++ match o with
        | none => (l.take k).drop st ++ (keepF isQ false us).flatten
        | some o => if us.any isQ then (l.take o).drop st ++ (keepF isQ true us).flatten else l.drop st
  | [], k, pre, st, o, res, hl, hk, hs, ho => by
    have e : l.take k = l := by rw [hl, ← hk]; simp
    cases o with
    | none => simp [pairsN, keepF, e]
    | some x => simp [pairsN]
  | u :: r, k, pre, st, o, res, hl, hk, hs, ho => by
    have hl' : l = (pre ++ u) ++ r.flatten := by rw [hl]; simp
    have hk' : (pre ++ u).length = k + u.length := by rw [List.length_append, hk]
    have ht : l.take k = pre := by rw [hl, ← hk]; simp
    have ht' : l.take (k + u.length) = pre ++ u := by rw [← hk', hl', List.take_left']; rfl
    have ih := strip_fold l r (k + u.length) (pre ++ u)
    simp only [pairsN, List.foldl_cons]
    by_cases hu : u = [34]
    · subst hu
      have hq : isQ [34] = true := rfl
      cases o with
      | none =>
        have e : qStep l (st, none, res) (k + [34].length - 1, [34]) = (st, some k, res) := by simp [qStep]
        rw [e, ih st (some k) res hl' hk' (by walk_at "om") (fun x hx => by cases hx; exact hs)]
        congr 1
        dsimp only
        by_cases ha : r.any isQ = true
        · rw [if_pos ha, keepF, hq, ha]; rfl
        · have ha : r.any isQ = false := by simpa using ha
          rw [ha, keepF, hq, ha, keepF_none ha]
          rw [if_neg (by simp), if_neg (by simp), ht, List.flatten_cons]
          rw [hl, List.drop_append_of_le_length (by walk_at "om")]; rfl
      | some x =>
        have hx := ho x rfl
        have e : qStep l (st, some x, res) (k + [34].length - 1, [34]) = (k + 1, none, if st = x then res else res ++ [(l.take x).drop st]) := by simp [qStep]
        rw [e, ih (k + 1) none _ hl' hk' (Nat.le_refl _) (fun x hx => by cases hx)]
        have e2 : (if st = x then res else res ++ [(l.take x).drop st]).flatten = res.flatten ++ (l.take x).drop st := by
          split
          · rename_i h
            subst h
            rw [List.drop_of_length_le (by rw [List.length_take]; walk_at "om"), List.append_nil]
          · simp
        have e3 : (l.take (k + [34].length)).drop (k + 1) = [] := by
          rw [List.drop_of_length_le]; rw [List.length_take]; simp; walk_at "om"
        have e4 : keepF isQ true ([34] :: r) = keepF isQ false r := rfl
        rw [e2, e3, e4, List.any_cons, hq, Bool.true_or]
        simp
    · have hq : isQ u = false := by
        cases h : isQ u with
        | false => rfl
        | true => exact absurd (isQ_iff.mp h) hu
      have e : qStep l (st, o, res) (k + u.length - 1, u) = (st, o, res) := by simp [qStep, hu]
      rw [e, ih st o res hl' hk' (by walk_at "om") ho]
      congr 1
      cases o with
      | none =>
        dsimp only
        rw [keepF, hq, ht', ht, List.drop_append_of_le_length (by walk_at "om")]
        simp
      | some x =>
        dsimp only
        rw [List.any_cons, hq, Bool.false_or, keepF, hq]; rfl

theorem any_isQ {us : List (List Nat)} (h : 34 ∉ us.flatten) : us.any isQ = false := by
  cases q : us.any isQ with
  | false => rfl
  | true =>
    obtain ⟨u, hu, e⟩ := List.any_eq_true.mp q
    rw [isQ_iff] at e
    subst e
    exact absurd (List.mem_flatten.mpr ⟨_, hu, .head _⟩) h
theorem strip_flat (us : List (List Nat)) (h : ∀ u ∈ us, Un u) : stripL us.flatten = (keepF isQ false us).flatten := by
  by_cases hm : 34 ∈ us.flatten
  · have key := strip_fold us.flatten us 0 [] 0 none [] (by simp) rfl (Nat.le_refl _) (fun x hx => by cases hx)
    rw [stripL, if_pos hm, units_flat us 0 h]
    unfold qRun
    dsimp only at key ⊢
    rw [List.flatten_append]
    have e : (if ((pairsN 0 us).foldl (qStep us.flatten) (0, none, [])).1 < us.flatten.length then [us.flatten.drop ((pairsN 0 us).foldl (qStep us.flatten) (0, none, [])).1] else []).flatten = us.flatten.drop ((pairsN 0 us).foldl (qStep us.flatten) (0, none, [])).1 := by
      split
      · simp
      · rw [List.drop_of_length_le (by walk_at "om")]; rfl
    rw [e, key]
    simp
  · rw [stripL, if_neg hm, keepF_none (any_isQ hm)]

/-- which places of a text hide -/
noncomputable def hidF : Bool → List Nat → List Bool
  | _, [] => []
  | false, c :: r => if c = 34 ∧ 34 ∈ r then true :: hidF true r else false :: hidF false r
  | true, c :: r => true :: hidF (decide (c ≠ 34)) r
theorem hid_fold (cl : Nat) : ∀ (l : List Nat) (m : Nat) (acc : List Bool), cl = (m + l.count 34) / 2 * 2 → (l.foldl (hidStep cl) (m, acc)).2 = acc ++ hidF (m % 2 == 1 && decide (m < cl)) l
  | [], m, acc, h => by cases (m % 2 == 1 && decide (m < cl)) <;> simp [hidF]
  | c :: r, m, acc, h => by
    rw [List.foldl_cons]
    by_cases hc : c = 34
    · subst hc
      rw [List.count_cons_self] at h
      have e : hidStep cl (m, acc) 34 = (m + 1, acc ++ [decide (m + 1 ≤ cl)]) := by simp [hidStep]
      rw [e, hid_fold cl r (m + 1) _ (by walk_at "om"), List.append_assoc]
      congr 1
      by_cases hi : m % 2 = 1 ∧ m < cl
      · have e1 : (m % 2 == 1 && decide (m < cl)) = true := by simp [hi]
        have e2 : decide (m + 1 ≤ cl) = true := by simp; walk_at "om"
        have e3 : ((m + 1) % 2 == 1 && decide (m + 1 < cl)) = false := by
          have : ¬ (m + 1) % 2 = 1 := by walk_at "om"
          simp [this]
        rw [e1, e2, e3, hidF]; rfl
      · have e1 : (m % 2 == 1 && decide (m < cl)) = false := by
          cases q : (m % 2 == 1 && decide (m < cl)) with
          | false => rfl
          | true => simp at q; exact absurd q hi
        rw [e1, hidF]
        by_cases hr : 34 ∈ r
        · have hc := List.count_pos_iff.mpr hr
          have e2 : decide (m + 1 ≤ cl) = true := by simp; walk_at "om"
          have e3 : ((m + 1) % 2 == 1 && decide (m + 1 < cl)) = true := by
            simp
            constructor
            · walk_at "om"
            · walk_at "om"
          rw [e2, e3, if_pos ⟨rfl, hr⟩]; rfl
        · have hc := List.count_eq_zero.mpr hr
          have e2 : decide (m + 1 ≤ cl) = false := by simp; walk_at "om"
          have e3 : ((m + 1) % 2 == 1 && decide (m + 1 < cl)) = false := by simp; walk_at "om"
          rw [e2, e3, if_neg (fun h => hr h.2)]; rfl
    · rw [List.count_cons_of_ne hc] at h
      have e : hidStep cl (m, acc) c = (m, acc ++ [m % 2 == 1 && decide (m < cl)]) := by simp [hidStep, hc]
      rw [e, hid_fold cl r m _ h, List.append_assoc]
      congr 1
      cases (m % 2 == 1 && decide (m < cl)) with
      | false => rw [hidF, if_neg (fun h => hc h.1)]; rfl
      | true => rw [hidF, decide_eq_true hc]; rfl
theorem hidden_is (l : List Nat) : hiddenL l = hidF false l := by
  unfold hiddenL
  rw [hid_fold _ l 0 [] (by simp)]
  simp
theorem hidF_len : ∀ (l : List Nat) (b : Bool), (hidF b l).length = l.length
  | [], b => by cases b <;> rfl
  | c :: r, true => by simp [hidF, hidF_len r]
  | c :: r, false => by rw [hidF]; split <;> simp [hidF_len r]

/-- the row of one sign: has there been a star, is there one to come -/
noncomputable def rowF (seen more : Bool) (c : Nat) : List (List Nat) :=
  if c = 42 then (if seen then [[41]] else []) ++ (if more then [[40], [63], [62], [46], [42], [63]] else [[46], [42]]) else if c ∈ spL then [[92, c]] else [[c]]
noncomputable def rowsF : Bool → List Nat → List (List (List Nat))
  | _, [] => []
  | seen, c :: r => rowF seen (decide (42 ∈ r)) c :: rowsF (seen || c == 42) r
theorem rows_fold (n : Nat) : ∀ (l : List Nat) (k : Nat) (acc : List (List (List Nat))), n = k + l.count 42 → (l.foldl (rowStep n) (k, acc)).2 = acc ++ rowsF (decide (1 ≤ k)) l
  | [], k, acc, h => by simp [rowsF]
  | c :: r, k, acc, h => by
    rw [List.foldl_cons]
    by_cases hc : c = 42
    · subst hc
      rw [List.count_cons_self] at h
      have e : rowStep n (k, acc) 42 = (k + 1, acc ++ [starRow n (k + 1)]) := by simp [rowStep]
      rw [e, rows_fold n r (k + 1) _ (by walk_at "om"), List.append_assoc, rowsF]
      congr 1
      have e1 : starRow n (k + 1) = rowF (decide (1 ≤ k)) (decide (42 ∈ r)) 42 := by
        unfold starRow rowF
        rw [if_pos rfl]
        have a : (k + 1 > 1) ↔ (decide (1 ≤ k) = true) := by simp; walk_at "om"
        have b : (k + 1 < n) ↔ (decide (42 ∈ r) = true) := by
          rw [decide_eq_true_iff, ← List.count_pos_iff]; walk_at "om"
        simp only [a, b]
      rw [e1]
      have e2 : decide (1 ≤ k + 1) = (decide (1 ≤ k) || (42 : Nat) == 42) := by simp
      rw [e2]; rfl
    · rw [List.count_cons_of_ne hc] at h
      have hb : (c == 42) = false := by simp [hc]
      have e : rowStep n (k, acc) c = (k, acc ++ [rowF (decide (1 ≤ k)) (decide (42 ∈ r)) c]) := by
        unfold rowStep rowF
        rw [if_neg hc, if_neg hc]
        split <;> rfl
      rw [e, rows_fold n r k _ h, List.append_assoc, rowsF, hb, Bool.or_false]; rfl
theorem rows_is (l : List Nat) : rowsL l = rowsF false l := by
  unfold rowsL
  rw [rows_fold _ l 0 [] (by simp)]; rfl
end
section
theorem sp92 : 92 ∈ spL := by decide +kernel
theorem sp40 : 40 ∈ spL := by decide +kernel
theorem sp41 : 41 ∈ spL := by decide +kernel
theorem sp34 : 34 ∉ spL := by decide +kernel
theorem sp42 : 42 ∉ spL := by decide +kernel
theorem rowF_un {a b : Bool} {c : Nat} : ∀ u ∈ rowF a b c, Un u := by
  intro u hu
  unfold rowF at hu
  split at hu
  · rcases List.mem_append.mp hu with hu | hu
    · split at hu
      · rw [List.mem_singleton.mp hu]; exact .inl ⟨41, by decide, rfl⟩
      · cases hu
    · split at hu <;> simp only [List.mem_cons, List.not_mem_nil, or_false] at hu
      · rcases hu with rfl | rfl | rfl | rfl | rfl | rfl <;> exact .inl ⟨_, by decide, rfl⟩
      · rcases hu with rfl | rfl <;> exact .inl ⟨_, by decide, rfl⟩
  · split at hu
    · rw [List.mem_singleton.mp hu]; exact .inr ⟨c, rfl⟩
    · rename_i h
      rw [List.mem_singleton.mp hu]
      exact .inl ⟨c, fun e => h (e ▸ sp92), rfl⟩
theorem rowsF_un : ∀ (l : List Nat) (seen : Bool), ∀ u ∈ (rowsF seen l).flatten, Un u
  | [], _, u, h => by simp [rowsF] at h
  | c :: r, seen, u, h => by
    rw [rowsF, List.flatten_cons] at h
    rcases List.mem_append.mp h with h | h
    · exact rowF_un u h
    · exact rowsF_un r _ u h
theorem front_un (p : List Nat) : ∀ u ∈ frontL p, Un u := by
  intro u hu
  unfold frontL at hu
  split at hu
  · cases hu
  · simp only [List.mem_cons, List.not_mem_nil, or_false] at hu
    rcases hu with rfl | rfl <;> exact .inl ⟨_, by decide, rfl⟩
theorem allU_un (p : List Nat) : ∀ u ∈ allU p, Un u := by
  intro u hu
  rcases List.mem_append.mp hu with hu | hu
  · exact front_un p u hu
  · rw [rows_is] at hu
    exact rowsF_un p _ u hu

/-! the pattern is the units -/
theorem splitL_has {c : Nat} : ∀ {l : List Nat}, c ∈ l → ∃ p q r, splitL c l = p :: q :: r
  | [], h => by cases h
  | a :: r, h => by
    rw [splitL]
    by_cases ha : a = c
    · rw [if_pos ha]
      cases hs : splitL c r with
      | nil => exact absurd hs (splitL_ne c r)
      | cons q t => exact ⟨[], q, t, rfl⟩
    · rw [if_neg ha]
      obtain ⟨p, q, t, hs⟩ := splitL_has (l := r) (by rcases List.mem_cons.mp h with e | h; exact absurd e.symm ha; exact h)
      rw [hs]
      exact ⟨a :: p, q, t, rfl⟩
noncomputable def goodC (c : Nat) : Prop := c = 42 ∨ (c ∈ specials ↔ c ∈ spL)
theorem esc_row {c : Nat} {a b : Bool} (hc : c ≠ 42) (hg : goodC c) : (rowF a b c).flatten = if c ∈ specials then [92, c] else [c] := by
  have hg : c ∈ specials ↔ c ∈ spL := hg.resolve_left hc
  unfold rowF
  rw [if_neg hc]
  by_cases h : c ∈ spL
  · rw [if_pos h, if_pos (hg.mpr h)]; rfl
  · rw [if_neg h, if_neg (fun e => h (hg.mp e))]; rfl
theorem escL_cons (c : Nat) (r : List Nat) : escL (c :: r) = (if c ∈ specials then [92, c] else [c]) ++ escL r := by simp [escL]
theorem rest_is : ∀ (l : List Nat), (∀ c ∈ l, goodC c) → restL ((splitL 42 l).map escL) = (if 42 ∈ l then [40, 63, 62, 46, 42, 63] else [46, 42]) ++ (rowsF true l).flatten.flatten
  | [], _ => by simp [splitL, restL, rowsF, escL]
  | c :: r, hg => by
    have ih := rest_is r fun x hx => hg x (.tail _ hx)
    by_cases hc : c = 42
    · subst hc
      rw [splitL, if_pos rfl, List.map_cons, if_pos (List.mem_cons_self)]
      cases hs : splitL 42 r with
      | nil => exact absurd hs (splitL_ne 42 r)
      | cons q t =>
        rw [hs, List.map_cons] at ih
        rw [List.map_cons, restL, ih, rowsF]
        have e : (rowF true (decide (42 ∈ r)) 42).flatten = [41] ++ (if 42 ∈ r then [40, 63, 62, 46, 42, 63] else [46, 42]) := by
          unfold rowF
          by_cases h : 42 ∈ r <;> simp [h]
        rw [List.flatten_cons, List.flatten_append, e]
        simp [wrapL, escL]
    · have e := esc_row (a := true) (b := decide (42 ∈ r)) hc (hg c (.head _))
      have hb : (c == 42) = false := by simp [hc]
      rw [rowsF, List.flatten_cons, List.flatten_append, e, hb, Bool.or_false]
      by_cases hm : 42 ∈ r
      · obtain ⟨p, q, t, hs⟩ := splitL_has hm
        rw [splitL, if_neg hc, hs]
        rw [hs, if_pos hm, List.map_cons, List.map_cons, restL] at ih
        rw [if_pos (.tail _ hm), List.map_cons, List.map_cons, restL, escL_cons]
        have ih' : escL p ++ [41] ++ restL (escL q :: t.map escL) = (rowsF true r).flatten.flatten := by
          simp only [wrapL, List.append_assoc, List.append_cancel_left_eq] at ih
          rw [← ih]; simp
        rw [← ih']
        simp [wrapL]
      · have hm' : 42 ∉ c :: r := fun h => by rcases List.mem_cons.mp h with h | h; exact hc h.symm; exact hm h
        rw [splitL_one hm']
        rw [splitL_one hm, if_neg hm] at ih
        simp only [List.map_cons, List.map_nil, restL, List.append_cancel_left_eq] at ih
        rw [if_neg hm', ← ih]
        simp only [List.map_cons, List.map_nil, restL, escL_cons]
theorem tr_is : ∀ (l : List Nat), (∀ c ∈ l, goodC c) → trL l = (if 42 ∈ l then [] else [46, 42]) ++ (rowsF false l).flatten.flatten
  | [], _ => by simp [trL, splitL, rowsF, escL]
  | c :: r, hg => by
    have hgr := fun x hx => hg x (.tail _ hx)
    have ih := tr_is r hgr
    by_cases hc : c = 42
    · subst hc
      have ih1 := rest_is r hgr
      rw [trL, splitL, if_pos rfl, List.map_cons, if_pos (List.mem_cons_self)]
      cases hs : splitL 42 r with
      | nil => exact absurd hs (splitL_ne 42 r)
      | cons q t =>
        rw [hs, List.map_cons] at ih1
        rw [List.map_cons]
        dsimp only
        rw [ih1, rowsF]
        have e : (rowF false (decide (42 ∈ r)) 42).flatten = (if 42 ∈ r then [40, 63, 62, 46, 42, 63] else [46, 42]) := by
          unfold rowF
          by_cases h : 42 ∈ r <;> simp [h]
        rw [List.flatten_cons, List.flatten_append, e]
        simp [escL]
    · have e := esc_row (a := false) (b := decide (42 ∈ r)) hc (hg c (.head _))
      have hb : (c == 42) = false := by simp [hc]
      rw [rowsF, List.flatten_cons, List.flatten_append, e, hb, Bool.or_false]
      by_cases hm : 42 ∈ r
      · obtain ⟨p, q, t, hs⟩ := splitL_has hm
        rw [trL, splitL, if_neg hc, hs]
        rw [trL, hs, if_pos hm] at ih
        rw [if_pos (.tail _ hm)]
        simp only [List.map_cons, List.nil_append] at ih ⊢
        rw [← ih, escL_cons]; simp
      · have hm' : 42 ∉ c :: r := fun h => by rcases List.mem_cons.mp h with h | h; exact hc h.symm; exact hm h
        rw [trL, splitL_one hm']
        rw [trL, splitL_one hm, if_neg hm] at ih
        simp only [List.map_cons, List.map_nil, List.append_cancel_left_eq] at ih
        rw [if_neg hm', ← ih]
        simp only [List.map_cons, List.map_nil, escL_cons]
theorem tr_all (p : List Nat) (hg : ∀ c ∈ p, goodC c) : trL p = (allU p).flatten := by
  rw [tr_is p hg, allU, rows_is, List.flatten_append]
  congr 1
  unfold frontL
  split <;> rfl

/-! what is kept -/
theorem rowF_q {a b : Bool} {c : Nat} (hc : c ≠ 34) : (rowF a b c).any isQ = false := by
  unfold rowF
  split
  · cases a <;> cases b <;> rfl
  · split
    · simp [isQ]
    · simp [isQ, hc]
theorem rowF_34 {a b : Bool} : rowF a b 34 = [[34]] := by
  unfold rowF
  rw [if_neg (by decide), if_neg sp34]
theorem rowsF_q : ∀ (l : List Nat) (seen : Bool), (rowsF seen l).flatten.any isQ = decide (34 ∈ l)
  | [], _ => rfl
  | c :: r, seen => by
    rw [rowsF, List.flatten_cons, List.any_append, rowsF_q r]
    by_cases hc : c = 34
    · subst hc
      rw [rowF_34]; simp [isQ]
    · rw [rowF_q hc]
      have hc' : ¬ 34 = c := fun e => hc e.symm
      simp [hc']
/-- what is kept of the rows, from places and flags -/
noncomputable def keptF : Bool → List (Nat × Bool) → List (List Nat)
  | _, [] => []
  | seen, (c, h) :: r => (if h then [] else rowF seen (decide (42 ∈ r.map (·.1))) c) ++ keptF (seen || c == 42) r
theorem zip_map {l : List Nat} {b : Bool} : (l.zip (hidF b l)).map (·.1) = l := by
  rw [List.map_fst_zip]
  rw [hidF_len]; exact Nat.le_refl _
theorem kept_is : ∀ (l : List Nat) (b seen : Bool), keepF isQ b (rowsF seen l).flatten = keptF seen (l.zip (hidF b l))
  | [], b, seen => by cases b <;> rfl
  | c :: r, b, seen => by
    rw [rowsF, List.flatten_cons]
    by_cases hc : c = 34
    · subst hc
      rw [rowF_34]
      have ih := fun b => kept_is r b (seen || (34 : Nat) == 42)
      have hq : isQ [34] = true := rfl
      cases b with
      | true =>
        have e1 : keepF isQ true ([[34]] ++ (rowsF (seen || (34 : Nat) == 42) r).flatten) = keepF isQ false (rowsF (seen || (34 : Nat) == 42) r).flatten := rfl
        have e2 : hidF true (34 :: r) = true :: hidF false r := rfl
        rw [e1, e2, ih, List.zip_cons_cons, keptF]; rfl
      | false =>
        rw [List.singleton_append, keepF, hq, rowsF_q, hidF]
        by_cases hr : 34 ∈ r
        · rw [decide_eq_true hr, if_pos (by rfl), if_pos ⟨rfl, hr⟩, ih, List.zip_cons_cons, keptF]; rfl
        · rw [decide_eq_false hr, if_neg (by decide), if_neg (fun h => hr h.2), ih, List.zip_cons_cons, keptF, zip_map, rowF_34]; rfl
    · rw [keepF_app _ _ (rowF_q hc), kept_is r b]
      cases b with
      | true =>
        have e2 : hidF true (c :: r) = true :: hidF true r := by rw [hidF, decide_eq_true hc]
        rw [e2, List.zip_cons_cons, keptF]; rfl
      | false =>
        have e2 : hidF false (c :: r) = false :: hidF false r := by rw [hidF, if_neg (fun h => hc h.1)]
        rw [e2, List.zip_cons_cons, keptF, zip_map]
theorem keptZ : ∀ (l : List Nat) (hs : List Bool) (seen : Bool), hs.length = l.length → (((rowsF seen l).zip hs).map fun x => if x.2 then [] else x.1).flatten = keptF seen (l.zip hs)
  | [], hs, seen, _ => by simp [rowsF, keptF]
  | c :: r, [], seen, h => by cases h
  | c :: r, h :: hs, seen, hl => by
    have hl' : hs.length = r.length := by simpa using hl
    rw [rowsF, List.zip_cons_cons, List.map_cons, List.flatten_cons, keptZ r hs _ hl', List.zip_cons_cons, keptF, List.map_fst_zip (by walk_at "om")]
theorem keptR_is (p : List Nat) : (keptR p).flatten = keptF false (p.zip (hiddenL p)) := by
  unfold keptR
  rw [rows_is]
  exact keptZ p _ _ (hidden_len p)
theorem keep_all (p : List Nat) : keepF isQ false (allU p) = frontL p ++ (keptR p).flatten := by
  have hf : (frontL p).any isQ = false := by unfold frontL; split <;> rfl
  rw [allU, keepF_app _ _ hf, rows_is, kept_is, keptR_is, hidden_is]; rfl
/-- claim 2 -/
theorem strip_pat (p : List Nat) (hg : ∀ c ∈ p, goodC c) : stripL (trL p) = leftL p := by
  rw [tr_all p hg, strip_flat _ (allU_un p), keep_all]; rfl
/-- claim 1 -/
theorem units_pat (p : List Nat) (hg : ∀ c ∈ p, goodC c) : unitsL 0 false (trL p) = pairsN 0 (allU p) := by
  rw [tr_all p hg, units_flat _ _ (allU_un p)]
theorem check_flat (us : List (List Nat)) (h : ∀ u ∈ us, Un u) : checkL us.flatten = chk 0 (keepF isQ false us) := by
  unfold checkL
  rw [strip_flat _ h, units_flat _ _ fun u hu => h u (keepF_mem hu), pairsN_snd]
end
section
/-! parentheses -/
noncomputable def par (u : List Nat) : Bool := u == [40] || u == [41]
theorem chk_skip (r : List (List Nat)) : ∀ (l : List (List Nat)) (n : Int), l.any par = false → chk n (l ++ r) = chk n r
  | [], n, _ => rfl
  | u :: l, n, h => by
    rw [List.any_cons, Bool.or_eq_false_iff] at h
    have h1 : u ≠ [40] := fun e => by rw [e] at h; exact absurd h.1 (by decide)
    have h2 : u ≠ [41] := fun e => by rw [e] at h; exact absurd h.1 (by decide)
    rw [List.cons_append, chk, if_neg h1, if_neg h2, chk_skip r l n h.2]
theorem rowF_par {a b : Bool} {c : Nat} (hc : c ≠ 42) : (rowF a b c).any par = false := by
  unfold rowF
  rw [if_neg hc]
  split
  · simp [par]
  · rename_i h
    have h1 : c ≠ 40 := fun e => h (e ▸ sp40)
    have h2 : c ≠ 41 := fun e => h (e ▸ sp41)
    simp [par, h1, h2]
theorem chk_tt (r : List (List Nat)) : chk 1 (rowF true true 42 ++ r) = chk 1 r := by simp [rowF, chk]
theorem chk_tf (r : List (List Nat)) : chk 1 (rowF true false 42 ++ r) = chk 0 r := by simp [rowF, chk]
theorem chk_0t (b : Bool) (r : List (List Nat)) : chk 0 (rowF true b 42 ++ r) = false := by cases b <;> simp [rowF, chk]
theorem chk_ft (r : List (List Nat)) : chk 0 (rowF false true 42 ++ r) = chk 1 r := by simp [rowF, chk]
theorem chk_ff (r : List (List Nat)) : chk 0 (rowF false false 42 ++ r) = chk 0 r := by simp [rowF, chk]

/-- which stars show -/
noncomputable def shZ (z : List (Nat × Bool)) : List Bool := (z.filter fun x => x.1 == 42).map fun x => !x.2
theorem shZ_star (h : Bool) (r : List (Nat × Bool)) : shZ ((42, h) :: r) = (!h) :: shZ r := rfl
theorem shZ_other {c : Nat} (hc : c ≠ 42) (h : Bool) (r : List (Nat × Bool)) : shZ ((c, h) :: r) = shZ r := by
  unfold shZ
  rw [List.filter_cons_of_neg (by simp [hc])]
theorem shZ_nil : ∀ (z : List (Nat × Bool)), shZ z = [] ↔ 42 ∉ z.map (·.1)
  | [] => by simp [shZ]
  | (c, h) :: r => by
    by_cases hc : c = 42
    · subst hc; simp [shZ_star]
    · have hc' : ¬ 42 = c := fun e => hc e.symm
      rw [shZ_other hc, shZ_nil r, List.map_cons, List.mem_cons]
      simp [hc']
theorem kept_cons {c : Nat} {h seen : Bool} {r : List (Nat × Bool)} : keptF seen ((c, h) :: r) = (if h then [] else rowF seen (decide (42 ∈ r.map (·.1))) c) ++ keptF (seen || c == 42) r := rfl
theorem kept_other {c : Nat} (hc : c ≠ 42) {h seen : Bool} {r : List (Nat × Bool)} (n : Int) : chk n (keptF seen ((c, h) :: r)) = chk n (keptF seen r) := by
  have hb : (c == 42) = false := by simp [hc]
  rw [kept_cons, hb, Bool.or_false, chk_skip]
  cases h
  · exact rowF_par hc
  · rfl
theorem dec_any {r : List (Nat × Bool)} (h : shZ r = []) : decide (42 ∈ r.map (·.1)) = false := decide_eq_false ((shZ_nil r).mp h)
theorem dec_any' {r : List (Nat × Bool)} (h : shZ r ≠ []) : decide (42 ∈ r.map (·.1)) = true := by
  refine decide_eq_true ?_
  by_cases q : 42 ∈ r.map (·.1)
  · exact q
  · exact absurd ((shZ_nil r).mpr q) h
theorem chk0_kept : ∀ (z : List (Nat × Bool)), chk 0 (keptF true z) = !(shZ z).any id
  | [] => rfl
  | (c, h) :: r => by
    by_cases hc : c = 42
    · subst hc
      rw [kept_cons, shZ_star]
      cases h with
      | true =>
        have := chk0_kept r
        simpa using this
      | false =>
        rw [if_neg Bool.false_ne_true, chk_0t]; rfl
    · rw [kept_other hc, shZ_other hc, chk0_kept r]
theorem chk1_kept : ∀ (z : List (Nat × Bool)), chk 1 (keptF true z) = (shZ z).getLastD false
  | [] => rfl
  | (c, h) :: r => by
    by_cases hc : c = 42
    · subst hc
      rw [kept_cons, shZ_star]
      have ih := chk1_kept r
      cases h with
      | true =>
        rw [if_pos rfl, List.nil_append, Bool.true_or, ih]
        cases shZ r <;> rfl
      | false =>
        rw [if_neg Bool.false_ne_true, Bool.true_or]
        cases hs : shZ r with
        | nil =>
          rw [dec_any hs, chk_tf, chk0_kept, hs]; rfl
        | cons b t =>
          rw [dec_any' (by rw [hs]; exact List.cons_ne_nil _ _), chk_tt, ih, hs]; rfl
    · rw [kept_other hc, shZ_other hc, chk1_kept r]
theorem outL_cons (b : Bool) (r : List Bool) : outL (b :: r) = (b && r.getLastD b) := by
  have e : outL (b :: r) = (b && (b :: r).getLast (List.cons_ne_nil _ _)) := rfl
  rw [e]
  cases r with
  | nil => rfl
  | cons a t => rw [List.getLast_cons (List.cons_ne_nil _ _)]; rfl
theorem chk_kept : ∀ (z : List (Nat × Bool)), chk 0 (keptF false z) = (outL (shZ z) || !(shZ z).any id)
  | [] => rfl
  | (c, h) :: r => by
    by_cases hc : c = 42
    · subst hc
      rw [kept_cons, shZ_star, outL_cons]
      cases h with
      | true =>
        have := chk0_kept r
        simpa using this
      | false =>
        rw [if_neg Bool.false_ne_true]
        cases hs : shZ r with
        | nil =>
          rw [dec_any hs, chk_ff]
          have := chk0_kept r
          rw [hs] at this
          exact this
        | cons b t =>
          rw [dec_any' (by rw [hs]; exact List.cons_ne_nil _ _), chk_ft]
          have := chk1_kept r
          rw [hs] at this
          refine this.trans ?_
          have e : ((!false) :: b :: t).any id = true := rfl
          rw [e]
          show (b :: t).getLastD false = ((b :: t).getLastD true || false)
          rw [Bool.or_false]; rfl
    · rw [kept_other hc, shZ_other hc, chk_kept r]
theorem front_par (p : List Nat) : (frontL p).any par = false := by unfold frontL; split <;> rfl
theorem shown_is (p : List Nat) : shownL p = shZ (p.zip (hiddenL p)) := rfl
/-- claim 3 -/
theorem check_pat (p : List Nat) (hg : ∀ c ∈ p, goodC c) : checkL (trL p) = (outL (shownL p) || !(shownL p).any id) := by
  rw [tr_all p hg, check_flat _ (allU_un p), keep_all, chk_skip _ _ _ (front_par p), keptR_is, chk_kept, shown_is]

/-! all shown -/
theorem rows_kept : ∀ (l : List Nat) (seen : Bool), (rowsF seen l).flatten = keptF seen (l.map fun c => (c, false))
  | [], _ => rfl
  | c :: r, seen => by
    rw [rowsF, List.flatten_cons, rows_kept r, List.map_cons, kept_cons, if_neg Bool.false_ne_true, List.map_map]
    have : (Prod.fst ∘ fun c : Nat => (c, false)) = id := rfl
    rw [this, List.map_id]
theorem sh_all (l : List Nat) : ∀ b ∈ shZ (l.map fun c => (c, false)), b = true := by
  intro b hb
  obtain ⟨x, hx, rfl⟩ := List.mem_map.mp hb
  obtain ⟨c, _, rfl⟩ := List.mem_map.mp (List.mem_filter.mp hx).1
  rfl
theorem out_all : ∀ (bs : List Bool), (∀ b ∈ bs, b = true) → outL bs = true
  | [], _ => rfl
  | b :: r, h => by
    have e : outL (b :: r) = (b && (b :: r).getLast (List.cons_ne_nil _ _)) := rfl
    have h1 := h _ (List.getLast_mem (List.cons_ne_nil b r))
    rw [e, h1, h b (.head _)]; rfl
theorem chk_all (p : List Nat) : chk 0 (allU p) = true := by
  rw [allU, chk_skip _ _ _ (front_par p), rows_is, rows_kept, chk_kept, out_all _ (sh_all p)]; rfl

/-! the shielded text -/
noncomputable def shU (u : List Nat) : List Nat := if u = [34] then [92, 34] else u
theorem shield_app (a b : List Nat) : shieldL (a ++ b) = shieldL a ++ shieldL b := by simp [shieldL]
theorem shield_flat : ∀ (us : List (List Nat)), (∀ u ∈ us, Un u ∧ u ≠ [92, 34]) → shieldL us.flatten = (us.map shU).flatten
  | [], _ => rfl
  | u :: r, h => by
    rw [List.flatten_cons, shield_app, shield_flat r fun x hx => h x (.tail _ hx), List.map_cons, List.flatten_cons]
    congr 1
    obtain ⟨h1, h2⟩ := h u (.head _)
    unfold shU
    by_cases hu : u = [34]
    · subst hu; rfl
    · rw [if_neg hu]
      rcases h1 with ⟨c, _, rfl⟩ | ⟨c, rfl⟩
      · have : c ≠ 34 := fun e => hu (by rw [e])
        simp [shieldL, this]
      · have : c ≠ 34 := fun e => h2 (by rw [e])
        simp [shieldL, this]
theorem shU_un {u : List Nat} (h : Un u) : Un (shU u) := by
  unfold shU
  split
  · exact .inr ⟨34, rfl⟩
  · exact h
theorem shU_q : ∀ (us : List (List Nat)), (us.map shU).any isQ = false
  | [] => rfl
  | u :: r => by
    rw [List.map_cons, List.any_cons, shU_q r, Bool.or_false]
    unfold shU
    split
    · rfl
    · rename_i h; simp [isQ, h]
theorem shU_chk : ∀ (us : List (List Nat)) (n : Int), chk n (us.map shU) = chk n us
  | [], _ => rfl
  | u :: r, n => by
    rw [List.map_cons]
    by_cases hu : u = [34]
    · subst hu
      have e : shU [34] = [92, 34] := rfl
      rw [e, chk, chk, if_neg (by decide), if_neg (by decide), if_neg (by decide), if_neg (by decide), shU_chk r]
    · have e : shU u = u := if_neg hu
      rw [e, chk, chk, shU_chk r, shU_chk r, shU_chk r]
theorem chk_close (r : List (List Nat)) : ∀ (us : List (List Nat)) (n : Int), chk n us = true → chk n (us ++ [41] :: r) = false
  | [], n, h => by
    have h : (n == 0) = true := h
    rw [beq_iff_eq] at h
    subst h
    simp [chk]
  | u :: us, n, h => by
    rw [chk] at h
    rw [List.cons_append, chk]
    split
    · rename_i hu; rw [if_pos hu] at h; exact chk_close r us _ h
    · rename_i hu
      rw [if_neg hu] at h
      split
      · rename_i hv
        rw [if_pos hv] at h
        split
        · rfl
        · rename_i hn; rw [if_neg hn] at h; exact chk_close r us _ h
      · rename_i hv; rw [if_neg hv] at h; exact chk_close r us _ h
theorem rowF_no {a b : Bool} {c : Nat} : ∀ u ∈ rowF a b c, u ≠ [92, 34] := by
  rintro u hu rfl
  unfold rowF at hu
  split at hu
  · cases a <;> cases b <;> simp at hu
  · split at hu
    · rename_i h
      simp at hu
      exact sp34 (hu ▸ h)
    · simp at hu
theorem rowsF_no : ∀ (l : List Nat) (seen : Bool), ∀ u ∈ (rowsF seen l).flatten, u ≠ [92, 34]
  | [], _, u, h => by simp [rowsF] at h
  | c :: r, seen, u, h => by
    rw [rowsF, List.flatten_cons] at h
    rcases List.mem_append.mp h with h | h
    · exact rowF_no u h
    · exact rowsF_no r _ u h
theorem allU_no (p : List Nat) : ∀ u ∈ allU p, Un u ∧ u ≠ [92, 34] := by
  intro u hu
  refine ⟨allU_un p u hu, ?_⟩
  rcases List.mem_append.mp hu with hu | hu
  · unfold frontL at hu
    split at hu
    · cases hu
    · rintro rfl; simp at hu
  · rw [rows_is] at hu
    exact rowsF_no p _ u hu
theorem shield_pat (p : List Nat) (hg : ∀ c ∈ p, goodC c) : shieldL (trL p) = ((allU p).map shU).flatten := by
  rw [tr_all p hg, shield_flat _ (allU_no p)]
theorem shU_all (p : List Nat) : ∀ u ∈ (allU p).map shU, Un u := by
  intro u hu
  obtain ⟨v, hv, rfl⟩ := List.mem_map.mp hu
  exact shU_un (allU_un p v hv)
/-- claim 4 -/
theorem strip_shield (p : List Nat) (hg : ∀ c ∈ p, goodC c) : stripL (shieldL (trL p)) = shieldL (trL p) := by
  rw [shield_pat p hg, strip_flat _ (shU_all p), keepF_none (shU_q _)]
theorem check_shield (p : List Nat) (hg : ∀ c ∈ p, goodC c) : checkL (shieldL (trL p)) = true := by
  rw [shield_pat p hg, check_flat _ (shU_all p), keepF_none (shU_q _), shU_chk, chk_all]
theorem more_un (p : List Nat) : ∀ u ∈ (allU p).map shU ++ [[41], [40]], Un u := by
  intro u hu
  rcases List.mem_append.mp hu with hu | hu
  · exact shU_all p u hu
  · simp only [List.mem_cons, List.not_mem_nil, or_false] at hu
    rcases hu with rfl | rfl <;> exact .inl ⟨_, by decide, rfl⟩
theorem more_q (p : List Nat) : ((allU p).map shU ++ [[41], [40]]).any isQ = false := by
  rw [List.any_append, shU_q]; rfl
theorem more_is (p : List Nat) (hg : ∀ c ∈ p, goodC c) : shieldL (trL p) ++ [41, 40] = ((allU p).map shU ++ [[41], [40]]).flatten := by
  rw [shield_pat p hg, List.flatten_append]; rfl
theorem strip_more (p : List Nat) (hg : ∀ c ∈ p, goodC c) : stripL (shieldL (trL p) ++ [41, 40]) = shieldL (trL p) ++ [41, 40] := by
  rw [more_is p hg, strip_flat _ (more_un p), keepF_none (more_q p)]
theorem check_more (p : List Nat) (hg : ∀ c ∈ p, goodC c) : checkL (shieldL (trL p) ++ [41, 40]) = false := by
  rw [more_is p hg, check_flat _ (more_un p), keepF_none (more_q p)]
  refine chk_close _ _ _ ?_
  rw [shU_chk, chk_all]

/-! the pattern cut off -/
theorem places_ge : ∀ (us : List (List Nat)) (k : Nat), (∀ u ∈ us, Un u) → ∀ x ∈ pairsN k us, k ≤ x.1
  | [], _, _, x, h => by simp [pairsN] at h
  | u :: r, k, hu, x, h => by
    rw [pairsN] at h
    have hp := (hu u (.head _)).pos
    rcases List.mem_cons.mp h with rfl | h
    · dsimp only; walk_at "om"
    · have := places_ge r (k + u.length) (fun y hy => hu y (.tail _ hy)) x h
      walk_at "om"
theorem filter_low (us : List (List Nat)) (k n : Nat) (hu : ∀ u ∈ us, Un u) (hn : n ≤ k) : (pairsN k us).filter (fun x => decide (x.1 < n)) = [] := by
  rw [List.filter_eq_nil_iff]
  intro x hx
  have := places_ge us k hu x hx
  simp; walk_at "om"
theorem not_low (us : List (List Nat)) (k n : Nat) (hu : ∀ u ∈ us, Un u) (hn : n < k) : n ∉ (pairsN k us).map (·.1) := by
  intro h
  obtain ⟨x, hx, e⟩ := List.mem_map.mp h
  have := places_ge us k hu x hx
  walk_at "om"
theorem units_cut : ∀ (us : List (List Nat)) (k c : Nat), (∀ u ∈ us, Un u) → c ≤ us.flatten.length →
    unitsL k false (us.flatten.take c) = (pairsN k us).filter (fun x => decide (x.1 < k + c)) ++ if 0 < c ∧ k + c - 1 ∉ (pairsN k us).map (·.1) then [(k + c - 1, [92])] else []
  | us, k, 0, hu, _ => by
    rw [filter_low us k (k + 0) hu (Nat.le_refl _), if_neg (fun h => absurd h.1 (Nat.lt_irrefl _))]; rfl
  | [], k, c + 1, _, hc => by simp at hc
  | u :: r, k, c + 1, hu, hc => by
    have hur := fun y hy => hu y (.tail _ hy)
    rcases hu u (.head _) with ⟨x, hx, rfl⟩ | ⟨x, rfl⟩
    · have ih := units_cut r (k + 1) c hur (by rw [List.flatten_cons, List.length_append, List.length_singleton] at hc; walk_at "om")
      have e : ([x] :: r).flatten.take (c + 1) = x :: r.flatten.take c := by simp
      rw [e, unitsL, if_neg hx, ih, pairsN]
      have e1 : k + [x].length - 1 = k := by simp
      rw [e1]
      rw [List.filter_cons_of_pos (by simp), List.cons_append]
      have e2 : k + [x].length = k + 1 := rfl
      rw [e2]
      have e3 : k + 1 + c = k + (c + 1) := by walk_at "om"
      rw [e3]
      congr 2
      by_cases h0 : c = 0
      · subst h0
        rw [if_neg (fun h => absurd h.1 (Nat.lt_irrefl _)), if_neg (fun h => h.2 (by simp))]
      · have : (0 < c ∧ k + (c + 1) - 1 ∉ (pairsN (k + 1) r).map (·.1)) ↔ (0 < c + 1 ∧ k + (c + 1) - 1 ∉ ((k, [x]) :: pairsN (k + 1) r).map (·.1)) := by
          rw [List.map_cons, List.mem_cons, not_or]
          have a : ¬ k + (c + 1) - 1 = k := by walk_at "om"
          constructor
          · rintro ⟨_, h⟩; exact ⟨by walk_at "om", a, h⟩
          · rintro ⟨_, _, h⟩; exact ⟨by walk_at "om", h⟩
        simp only [this]
    · cases c with
      | zero =>
        have e : ([92, x] :: r).flatten.take (0 + 1) = [92] := by simp
        rw [e, unitsL, if_pos rfl, unitsL, pairsN]
        have e1 : k + [92, x].length - 1 = k + 1 := by simp
        have e2 : k + [92, x].length = k + 2 := rfl
        rw [e1, e2, List.filter_cons_of_neg (by simp), filter_low r _ _ hur (by walk_at "om"), List.nil_append]
        have hh : 0 < 0 + 1 ∧ k + (0 + 1) - 1 ∉ ((k + 1, [92, x]) :: pairsN (k + 2) r).map (·.1) := by
          refine ⟨by walk_at "om", ?_⟩
          rw [List.map_cons, List.mem_cons, not_or]
          exact ⟨by dsimp only; walk_at "om", not_low r _ _ hur (by walk_at "om")⟩
        rw [if_pos hh]
      | succ c =>
        have ih := units_cut r (k + 2) c hur (by rw [List.flatten_cons, List.length_append, show [92, x].length = 2 from rfl] at hc; walk_at "om")
        have e : ([92, x] :: r).flatten.take (c + 1 + 1) = 92 :: x :: r.flatten.take c := by simp
        rw [e, unitsL, if_pos rfl, unitsL, ih, pairsN]
        have e1 : k + [92, x].length - 1 = k + 1 := by simp
        have e2 : k + [92, x].length = k + 2 := rfl
        rw [e1, e2, List.filter_cons_of_pos (by simp), List.cons_append]
        have e3 : k + 2 + c = k + (c + 1 + 1) := by walk_at "om"
        rw [e3]
        congr 2
        by_cases h0 : c = 0
        · subst h0
          rw [if_neg (fun h => absurd h.1 (Nat.lt_irrefl _)), if_neg (fun h => h.2 (by simp))]
        · have : (0 < c ∧ k + (c + 1 + 1) - 1 ∉ (pairsN (k + 2) r).map (·.1)) ↔ (0 < c + 1 + 1 ∧ k + (c + 1 + 1) - 1 ∉ ((k + 1, [92, x]) :: pairsN (k + 2) r).map (·.1)) := by
            rw [List.map_cons, List.mem_cons, not_or]
            have a : ¬ k + (c + 1 + 1) - 1 = k + 1 := by walk_at "om"
            constructor
            · rintro ⟨_, h⟩; exact ⟨by walk_at "om", a, h⟩
            · rintro ⟨_, _, h⟩; exact ⟨by walk_at "om", h⟩
          simp only [this]
/-- claim 5 -/
theorem cut_pat (p : List Nat) (hg : ∀ c ∈ p, goodC c) (c : Nat) (hc : c ≤ (trL p).length) :
    unitsL 0 false ((trL p).take c) = ((pairsN 0 (allU p)).filter fun x => decide (x.1 < c)) ++ extraL (pairsN 0 (allU p)) c := by
  rw [tr_all p hg] at hc ⊢
  rw [units_cut _ 0 c (allU_un p) hc]
  simp only [Nat.zero_add]; rfl
end
section
/-! the quoted parts of the path itself -/
/-- the signs that stay -/
noncomputable def kc (z : List (Nat × Bool)) : List Nat := (z.filter fun x => !x.2).map (·.1)
theorem kc_cons (c : Nat) (h : Bool) (r : List (Nat × Bool)) : kc ((c, h) :: r) = (if h then [] else [c]) ++ kc r := by
  unfold kc
  cases h <;> simp
/-- a token of a path -/
noncomputable def Tk (u : List Nat) : Prop := Un u ∧ (u = [34] ∨ 34 ∉ u)
theorem hidF_free {c : Nat} (hc : c ≠ 34) (b : Bool) (r : List Nat) : hidF b (c :: r) = b :: hidF b r := by
  cases b with
  | true => rw [hidF, decide_eq_true hc]
  | false => rw [hidF, if_neg (fun h => hc h.1)]
theorem any_tok : ∀ (us : List (List Nat)), (∀ u ∈ us, Tk u) → us.any isQ = decide (34 ∈ us.flatten)
  | [], _ => rfl
  | u :: r, h => by
    rw [List.any_cons, any_tok r fun x hx => h x (.tail _ hx), List.flatten_cons]
    rcases (h u (.head _)).2 with rfl | h2
    · simp [isQ]
    · have : isQ u = false := by
        cases q : isQ u with
        | false => rfl
        | true => rw [isQ_iff.mp q] at h2; exact absurd (.head _) h2
      rw [this]
      simp [h2]
theorem kc_keep : ∀ (us : List (List Nat)) (b : Bool), (∀ u ∈ us, Tk u) → (keepF isQ b us).flatten = kc (us.flatten.zip (hidF b us.flatten))
  | [], b, _ => by cases b <;> rfl
  | u :: r, b, h => by
    have hr := fun x hx => h x (.tail _ hx)
    have ih := fun b => kc_keep r b hr
    rw [List.flatten_cons]
    by_cases hu : u = [34]
    · subst hu
      rw [List.singleton_append]
      have hq : isQ [34] = true := rfl
      cases b with
      | true =>
        have e2 : hidF true (34 :: r.flatten) = true :: hidF false r.flatten := rfl
        rw [keepF, hq, Bool.not_true, ih, e2, List.zip_cons_cons, kc_cons]; rfl
      | false =>
        rw [keepF, hq, any_tok r hr, hidF]
        by_cases hm : 34 ∈ r.flatten
        · rw [decide_eq_true hm, if_pos (by rfl), if_pos ⟨rfl, hm⟩, ih, List.zip_cons_cons, kc_cons]; rfl
        · rw [decide_eq_false hm, if_neg (by decide), if_neg (fun h => hm h.2), List.flatten_cons, ih, List.zip_cons_cons, kc_cons]; rfl
    · have h34 := (h u (.head _)).2.resolve_left hu
      have hq : isQ u = false := by
        cases q : isQ u with
        | false => rfl
        | true => exact absurd (isQ_iff.mp q) hu
      have e : keepF isQ b (u :: r) = (if b then [] else [u]) ++ keepF isQ b r := keepF_app (l := [u]) r b (by rw [List.any_cons, hq]; rfl)
      rw [e, List.flatten_append, ih]
      rcases (h u (.head _)).1 with ⟨c, _, rfl⟩ | ⟨c, rfl⟩
      · have hc : c ≠ 34 := fun e => hu (by rw [e])
        rw [List.singleton_append, hidF_free hc, List.zip_cons_cons, kc_cons]
        cases b <;> rfl
      · have hc : c ≠ 34 := fun e => h34 (by rw [e]; simp)
        rw [List.cons_append, List.singleton_append, hidF_free (by decide), hidF_free hc, List.zip_cons_cons, List.zip_cons_cons, kc_cons, kc_cons]
        cases b <;> simp
theorem strip_path (us : List (List Nat)) (h : ∀ u ∈ us, Tk u) : stripL us.flatten = kc (us.flatten.zip (hiddenL us.flatten)) := by
  rw [strip_flat us fun u hu => (h u hu).1, kc_keep us false h, hidden_is]

/-! the last claim -/
theorem kc_shown : ∀ (z : List (Nat × Bool)), 42 ∈ kc z ↔ (shZ z).any id = true
  | [] => by simp [kc, shZ]
  | (c, h) :: r => by
    rw [kc_cons, List.mem_append, kc_shown r]
    by_cases hc : c = 42
    · subst hc
      rw [shZ_star]
      cases h <;> simp
    · have hc' : ¬ 42 = c := fun e => hc e.symm
      rw [shZ_other hc]
      cases h <;> simp [hc']
theorem last_any (bs : List Bool) (h : bs ≠ []) (hl : bs.getLastD true = true) : bs.any id = true := by
  cases bs with
  | nil => exact absurd rfl h
  | cons b t =>
    have : (b :: t).getLast (List.cons_ne_nil _ _) = true := hl
    exact List.any_eq_true.mpr ⟨_, List.getLast_mem _, this⟩
theorem more_iff {r : List (Nat × Bool)} (hl : (shZ r).getLastD true = true) : decide (42 ∈ r.map (·.1)) = decide (42 ∈ kc r) := by
  rw [decide_eq_decide, kc_shown]
  by_cases h : shZ r = []
  · have := (shZ_nil r).mp h
    rw [h]
    simp only [this, false_iff]; decide
  · have h1 : 42 ∈ r.map (·.1) := of_decide_eq_true (dec_any' h)
    simp only [h1, true_iff]
    exact last_any _ h hl
theorem kept_same : ∀ (z : List (Nat × Bool)) (seen : Bool), (shZ z).getLastD true = true → (seen = true ∨ (shZ z).headD true = true) → keptF seen z = (rowsF seen (kc z)).flatten
  | [], _, _, _ => rfl
  | (c, h) :: r, seen, hl, hs => by
    rw [kept_cons, kc_cons]
    by_cases hc : c = 42
    · subst hc
      rw [shZ_star] at hl hs
      have hl' : (shZ r).getLastD true = true := by
        cases hr : shZ r with
        | nil => rfl
        | cons b t => rw [hr] at hl; exact hl
      have ih := fun seen => kept_same r seen hl'
      cases h with
      | true =>
        have hseen : seen = true := by
          rcases hs with hs | hs
          · exact hs
          · cases hs
        subst hseen
        rw [if_pos rfl, if_pos rfl, List.nil_append, List.nil_append, Bool.true_or, ih true (.inl rfl)]
      | false =>
        rw [if_neg Bool.false_ne_true, if_neg Bool.false_ne_true, List.singleton_append, rowsF, List.flatten_cons, more_iff hl']
        have e : (seen || (42 : Nat) == 42) = true := by simp
        rw [e, ih true (.inl rfl)]
    · rw [shZ_other hc] at hl hs
      have hb : (c == 42) = false := by simp [hc]
      rw [hb, Bool.or_false, kept_same r seen hl hs]
      cases h with
      | true => rfl
      | false =>
        rw [if_neg Bool.false_ne_true, if_neg Bool.false_ne_true, List.singleton_append, rowsF, List.flatten_cons, hb, Bool.or_false]
        congr 1
        unfold rowF
        rw [if_neg hc, if_neg hc]
theorem kept_none : ∀ (z : List (Nat × Bool)) (seen seen' : Bool), (shZ z).any id = false → keptF seen z = (rowsF seen' (kc z)).flatten
  | [], _, _, _ => rfl
  | (c, h) :: r, seen, seen', hn => by
    rw [kept_cons, kc_cons]
    by_cases hc : c = 42
    · subst hc
      rw [shZ_star, List.any_cons, Bool.or_eq_false_iff] at hn
      cases h with
      | false => exact absurd hn.1 (by decide)
      | true => rw [if_pos rfl, if_pos rfl, List.nil_append, List.nil_append]; exact kept_none r _ _ hn.2
    · rw [shZ_other hc] at hn
      have hb : (c == 42) = false := by simp [hc]
      rw [hb, Bool.or_false]
      cases h with
      | true => rw [if_pos rfl, if_pos rfl, List.nil_append, List.nil_append]; exact kept_none r _ _ hn
      | false =>
        rw [if_neg Bool.false_ne_true, if_neg Bool.false_ne_true, List.singleton_append, rowsF, List.flatten_cons, hb, Bool.or_false, ← kept_none r seen seen' hn]
        congr 1
        unfold rowF
        rw [if_neg hc, if_neg hc]
theorem kc_mem {z : List (Nat × Bool)} {c : Nat} (h : c ∈ kc z) : c ∈ z.map (·.1) := by
  obtain ⟨x, hx, rfl⟩ := List.mem_map.mp h
  exact List.mem_map.mpr ⟨x, (List.mem_filter.mp hx).1, rfl⟩
theorem kept_un : ∀ (z : List (Nat × Bool)) (seen : Bool), ∀ u ∈ keptF seen z, Un u
  | [], _, u, h => by simp [keptF] at h
  | (c, h) :: r, seen, u, hu => by
    rw [kept_cons] at hu
    rcases List.mem_append.mp hu with hu | hu
    · cases h
      · exact rowF_un u hu
      · cases hu
    · exact kept_un r _ u hu
theorem flat_inj {a b : List (List Nat)} (ha : ∀ u ∈ a, Un u) (hb : ∀ u ∈ b, Un u) (h : a.flatten = b.flatten) : a = b := by
  rw [← pairsN_snd a 0, ← pairsN_snd b 0, ← units_flat a 0 ha, ← units_flat b 0 hb, h]
/-- claim 6 -/
theorem end_pat (p : List Nat) (hg : ∀ c ∈ p, goodC c) (hk : stripL p = kc (p.zip (hiddenL p))) : (trL (stripL p) == leftL p) = outL (shownL p) := by
  have hz : (p.zip (hiddenL p)).map (·.1) = p := by
    rw [List.map_fst_zip]; rw [hidden_len]; exact Nat.le_refl _
  have hl : leftL p = (frontL p ++ keptF false (p.zip (hiddenL p))).flatten := by
    unfold leftL
    rw [keptR_is]
  rw [hk, hl, shown_is]
  generalize p.zip (hiddenL p) = z at *
  have hgk : ∀ c ∈ kc z, goodC c := fun c hc => hg c (hz ▸ kc_mem hc)
  have hf : 42 ∈ p ↔ shZ z ≠ [] := by
    rw [← hz, ne_eq, shZ_nil, Classical.not_not]
  rw [tr_all _ hgk]
  by_cases ho : outL (shZ z) = true
  · rw [ho, beq_iff_eq]
    have key : frontL (kc z) = frontL p ∧ keptF false z = (rowsF false (kc z)).flatten := by
      cases hs : shZ z with
      | nil =>
        have h1 : 42 ∉ p := fun h => hf.mp h hs
        have h2 : 42 ∉ kc z := fun h => by rw [kc_shown, hs] at h; exact absurd h (by decide)
        unfold frontL
        rw [if_neg h1, if_neg h2]
        exact ⟨rfl, kept_none z false false (by rw [hs]; rfl)⟩
      | cons b t =>
        rw [hs, outL_cons, Bool.and_eq_true] at ho
        have h1 : 42 ∈ p := hf.mpr (by rw [hs]; exact List.cons_ne_nil _ _)
        have h2 : 42 ∈ kc z := by
          rw [kc_shown, hs, List.any_cons, ho.1]; rfl
        unfold frontL
        rw [if_pos h1, if_pos h2]
        refine ⟨rfl, kept_same z false ?_ (.inr ?_)⟩
        · rw [hs]
          cases t with
          | nil => exact ho.1
          | cons a t => exact ho.2
        · rw [hs]; exact ho.1
    rw [allU, rows_is, key.1, key.2]
  · have ho : outL (shZ z) = false := by simpa using ho
    rw [ho]
    have hne : shZ z ≠ [] := fun h => by rw [h] at ho; exact absurd ho (by decide)
    have h1 : 42 ∈ p := hf.mpr hne
    have e1 : frontL p = [] := if_pos h1
    rw [e1, List.nil_append]
    cases hany : (shZ z).any id with
    | false =>
      have h2 : 42 ∉ kc z := fun h => by rw [kc_shown, hany] at h; cases h
      have e2 : frontL (kc z) = [[46], [42]] := if_neg h2
      rw [allU, rows_is, e2, kept_none z false false hany, beq_eq_false_iff_ne]
      intro h
      have := congrArg List.length h
      rw [List.flatten_append, List.length_append] at this
      simp at this
    | true =>
      rw [beq_eq_false_iff_ne]
      intro h
      have e := flat_inj (allU_un _) (kept_un z false) h
      have c1 := chk_all (kc z)
      rw [e, chk_kept, ho, hany] at c1
      cases c1

/-! the path -/
theorem other_ok (c : Int) : otherL c ≠ 92 ∧ otherL c ≠ 34 ∧ goodC (otherL c) := by
  have key : ∀ x ∈ 0 :: tl (Str.ofString "a/',@.-?+[]{}^$|&~# "), x ≠ 92 ∧ x ≠ 34 ∧ (x ∈ specials ↔ x ∈ spL) := by decide +kernel
  have hm : otherL c ∈ 0 :: tl (Str.ofString "a/',@.-?+[]{}^$|&~# ") := by
    unfold otherL
    cases h : (tl (Str.ofString "a/',@.-?+[]{}^$|&~# "))[((c.fdiv 8).fmod 20).toNat]? with
    | none => exact .head _
    | some x => exact .tail _ (List.mem_of_getElem? h)
  obtain ⟨a, b, d⟩ := key _ hm
  exact ⟨a, b, .inr d⟩
theorem sign_ok (c : Int) : Tk (signL c) ∧ ∀ x ∈ signL c, goodC x := by
  have g34 : goodC 34 := .inr (by decide +kernel)
  have g40 : goodC 40 := .inr (by decide +kernel)
  have g41 : goodC 41 := .inr (by decide +kernel)
  have g92 : goodC 92 := .inr (by decide +kernel)
  unfold signL
  split
  · exact ⟨⟨.inl ⟨42, by decide, rfl⟩, .inr (by decide)⟩, fun x hx => by rw [List.mem_singleton.mp hx]; exact .inl rfl⟩
  · exact ⟨⟨.inl ⟨34, by decide, rfl⟩, .inl rfl⟩, fun x hx => by rw [List.mem_singleton.mp hx]; exact g34⟩
  · exact ⟨⟨.inl ⟨42, by decide, rfl⟩, .inr (by decide)⟩, fun x hx => by rw [List.mem_singleton.mp hx]; exact .inl rfl⟩
  · exact ⟨⟨.inl ⟨34, by decide, rfl⟩, .inl rfl⟩, fun x hx => by rw [List.mem_singleton.mp hx]; exact g34⟩
  · exact ⟨⟨.inl ⟨40, by decide, rfl⟩, .inr (by decide)⟩, fun x hx => by rw [List.mem_singleton.mp hx]; exact g40⟩
  · refine ⟨⟨.inr ⟨41, rfl⟩, .inr (by decide)⟩, fun x hx => ?_⟩
    simp only [List.mem_cons, List.not_mem_nil, or_false] at hx
    rcases hx with rfl | rfl
    · exact g92
    · exact g41
  · refine ⟨⟨.inr ⟨92, rfl⟩, .inr (by decide)⟩, fun x hx => ?_⟩
    simp only [List.mem_cons, List.not_mem_nil, or_false, or_self] at hx
    rw [hx]; exact g92
  · obtain ⟨a, b, d⟩ := other_ok c
    refine ⟨⟨.inl ⟨_, a, rfl⟩, .inr fun h => b (List.mem_singleton.mp h).symm⟩, fun x hx => by rw [List.mem_singleton.mp hx]; exact d⟩
theorem path_good (ks : List Int) : ∀ c ∈ pathL ks, goodC c := by
  intro c hc
  obtain ⟨u, hu, h⟩ := List.mem_flatten.mp hc
  obtain ⟨k, _, rfl⟩ := List.mem_map.mp hu
  exact (sign_ok k).2 c h
theorem path_strip (ks : List Int) : stripL (pathL ks) = kc ((pathL ks).zip (hiddenL (pathL ks))) := by
  refine strip_path _ fun u hu => ?_
  obtain ⟨k, _, rfl⟩ := List.mem_map.mp hu
  exact (sign_ok k).1
theorem kc_len (z : List (Nat × Bool)) : (kc z).length ≤ z.length := by
  unfold kc
  rw [List.length_map]
  exact List.length_filter_le _ _
theorem strip_path_len (ks : List Int) : (stripL (pathL ks)).length ≤ (pathL ks).length := by
  rw [path_strip]
  refine Nat.le_trans (kc_len _) ?_
  rw [List.length_zip]; walk_at "om"

/-! lengths -/
theorem flatten_le2 : ∀ (us : List (List Nat)), (∀ u ∈ us, u.length ≤ 2) → us.flatten.length ≤ 2 * us.length
  | [], _ => by simp
  | u :: r, h => by
    have := flatten_le2 r fun x hx => h x (.tail _ hx)
    have := h u (.head _)
    rw [List.flatten_cons, List.length_append, List.length_cons]; walk_at "om"
theorem allU_len (p : List Nat) : (allU p).length ≤ 2 + 7 * p.length := by
  have h1 := (front_ok p).1
  have h2 := flat_len (rowsL p) fun r hr => (rows_ok p r hr).1
  rw [rows_len] at h2
  rw [allU, List.length_append]; walk_at "om"
theorem pat_len (p : List Nat) (hg : ∀ c ∈ p, goodC c) : (trL p).length ≤ 2 * (2 + 7 * p.length) := by
  rw [tr_all p hg]
  have h1 := flatten_le2 (allU p) fun u hu => (allU_un p u hu).pos.2
  have h2 := allU_len p
  walk_at "om"
theorem shield_len (l : List Nat) : (shieldL l).length ≤ 2 * l.length := by
  unfold shieldL
  induction l with
  | nil => simp
  | cons a r ih =>
    rw [List.map_cons, List.flatten_cons, List.length_append, List.length_cons]
    have : (if a = 34 then [92, 34] else [a]).length ≤ 2 := by split <;> simp
    walk_at "om"
theorem pairsN_len : ∀ (l : List (List Nat)) (n : Nat), (pairsN n l).length = l.length
  | [], _ => rfl
  | a :: r, n => by simp [pairsN, pairsN_len r]
theorem extra_len (us : Us) (c : Nat) : (extraL us c).length ≤ 1 := by
  unfold extraL
  split <;> simp
theorem left_len (p : List Nat) : (leftL p).length ≤ 2 * (2 + 7 * p.length) := by
  unfold leftL
  have h1 := (front_ok p)
  have h2 := flat_len (keptR p) fun r hr => (kept_ok p r hr).1
  rw [kept_len] at h2
  have h3 := flatten_le2 (frontL p ++ (keptR p).flatten) fun u hu => by
    rcases List.mem_append.mp hu with hu | hu
    · exact (h1.2 u hu).2
    · obtain ⟨r, hr, hu⟩ := List.mem_flatten.mp hu
      exact ((kept_ok p r hr).2 u hu).2
  rw [List.length_append] at h3
  walk_at "om"
end
section
open Builtin Builtin.Str
local macro_rules | `(tactic| walk_at "lk") => `(tactic| first | with_reducible assumption | with_reducible exact up_eq | (with_reducible refine up_ne (by decide) ?_; walk_at "lk") | rfl)
theorem around_facts (L : Addr) : (callerA.deeper (envL L)).handled = none ∧ (callerA.deeper (envL L)).depth = 302 ∧ (callerA.deeper (envL L)).units + 10 < cLine :=
  ⟨rfl, rfl, by show 4 + 3 + 10 < 9900; decide⟩
section
variable {w : World} {A : Around} {s : Shared} {g : Heap} {L l : Addr} {vs : Array Value} {Q : Flow → Shared → Prop} {E : Value → Shared → Prop}
theorem law_body {bd : List Stmt} (hbd : bd = lawR 0) (X : Lib w g) (hh : A.handled = none) (hroom : A.depth + 8 < recursionLimit) (hu : A.units + 10 < cLine) (hb : Bare s.gens) (Hl : g.IsList l vs) (hv : ∀ v ∈ vs, ∃ n t, v = Value.int n t) (hvs : vs.size ≤ 63)
    (S : Sta g s.heap L (fun _ => none) [(L + 1, cellO (some (.ref l))), (L + 2, cellO none), (L + 3, cellO none), (L + 4, cellO none), (L + 5, cellO none), (L + 6, cellO none)] [])
    (h : ∀ h' t' G', Bare G' → (∀ b o, g.get? b = some o → h'.get? b = some o) → Q (.ret (.bool true)) { s with heap := h', toks := t', gens := G' }) :
    wpAny (model prg w) A (execs bd (envL L)) Q E s := by
  refine law1 hbd X hh (by walk_at "om") Hl hv hvs S fun bd1 hb1 ks h1 t1 x2 tp DR DH vR fr1 hks hR hDR hDH S1 ht1 => ?_
  try dsimp only
  clear hbd S
  have hpl : (pathL ks).length ≤ 16 := by have := pathL_len ks; walk_at "om"
  have hg := path_good ks
  have hend := end_pat _ hg (path_strip ks)
  have hpl2 := strip_path_len ks
  have hll := left_len (pathL ks)
  have hpat := pat_len _ hg
  have hal := allU_len (pathL ks)
  have c1 := units_pat _ hg
  have c2 := strip_pat _ hg
  have c3 := check_pat _ hg
  have c4 := strip_shield _ hg
  have c5 := check_shield _ hg
  have c6 := strip_more _ hg
  have c7 := check_more _ hg
  have c8 := cut_pat _ hg
  have hshl := shield_len (trL (pathL ks))
  have hshw : (shownL (pathL ks)).length ≤ 16 := by
    unfold shownL
    rw [List.length_map]
    refine Nat.le_trans (List.length_filter_le _ _) ?_
    rw [List.length_zip]; walk_at "om"
  clear hg
  generalize pathL ks = p at *
  refine law2 hb1 ht1 hh S1 fun bd2 hb2 h2 t2 m F tsF m1 hts S2 ht2 => ?_
  try dsimp only
  refine law3 hb2 ht2 X hh (by walk_at "om") hpl m1 hts hDR hR S2 fun bd3 hb3 h3 t3 DP vP fr2 hP hDP hsub S3 ht3 => ?_
  try dsimp only
  refine law4 hb3 ht3 X hh (by walk_at "om") hpl (by walk_at "lk") hts (hsub _ hDR) (hR.mono fun _ _ => IsRow.mono hsub) (hsub _ hDH) S3 fun bd4 hb4 h4 t4 u4 S4 ht4 => ?_
  try dsimp only
  refine law5 hb4 ht4 X hh (by walk_at "om") hpl (hsub _ hDH) S4 fun bd5 hb5 h5 t5 DS S5 ht5 => ?_
  try dsimp only
  refine law6 hb5 ht5 X hh (by walk_at "om") (by walk_at "om") (by walk_at "lk") S5 fun bd6 hb6 h6 t6 S6 ht6 => ?_
  try dsimp only
  have S6' := S6.freeze .head
  refine law7 hb6 ht6 X hh (by walk_at "om") hpl S6' fun bd7 hb7 h7 t7 u7 S7 ht7 => ?_
  try dsimp only
  have hP' := hP.mono fun _ _ => IsP.mono fun q hq => List.Mem.tail (DS, lst ((shownL p).map Value.bool).toArray) hq
  refine law8 hb7 ht7 X hh (by walk_at "om") (by walk_at "om") hb (by walk_at "om") c1 c2 hP' (.tail _ hDP) (by walk_at "lk") (by walk_at "lk") (by walk_at "lk") S7 fun bd8 hb8 h8 t8 G8 B8 S8 ht8 => ?_
  try dsimp only
  refine law9 hb8 ht8 X hh (by walk_at "om") B8 (by walk_at "om") (by rw [c2]; walk_at "om") c3 (.head _) (by walk_at "lk") (by walk_at "lk") (by walk_at "lk") S8 fun bd9 hb9 h9 t9 G9 B9 S9 ht9 => ?_
  try dsimp only
  refine law10 (pat := trL p) hb9 ht9 X hh B9 (by walk_at "om") (by walk_at "lk") S9 fun bd10 hb10 h10 t10 u10 S10 ht10 => ?_
  try dsimp only
  refine law11 hb10 ht10 X hh (by walk_at "om") B9 (by walk_at "om") c4 c5 (by walk_at "lk") S10 fun bd11 hb11 h11 t11 G11 B11 S11 ht11 => ?_
  try dsimp only
  refine law12 hb11 ht11 X hh (by walk_at "om") B11 (by walk_at "om") (by rw [c6, List.length_append, show [41, 40].length = 2 from rfl]; walk_at "om") c7 (by walk_at "lk") S11 fun bd12 hb12 h12 t12 G12 B12 S12 ht12 => ?_
  try dsimp only
  refine law13 (pat := trL p) hb12 ht12 X hh (by walk_at "om") Hl hv (by walk_at "om") (by walk_at "lk") S12 fun bd13 hb13 h13 t13 c u13 hc S13 ht13 => ?_
  try dsimp only
  have hul : (pairsN 0 (allU p)).length ≤ 1000 := by rw [pairsN_len]; walk_at "om"
  have hwl : ((pairsN 0 (allU p)).filter fun x => decide (x.1 < c)).length ≤ 1000 := Nat.le_trans (List.length_filter_le _ _) hul
  refine law14 hb13 ht13 X hh (by walk_at "om") hul hP' (.tail _ hDP) (by walk_at "lk") S13 fun bd14 hb14 h14 t14 DW vW hW S14 ht14 => ?_
  try dsimp only
  refine law15 hb14 ht14 X hh (by walk_at "om") hul hwl hP' (.tail _ hDP) (by walk_at "lk") (by walk_at "lk") hW S14 fun bd15 hb15 h15 t15 vW' fr15 hW' hsub15 S15 ht15 => ?_
  try dsimp only
  refine law16 hb15 ht15 X hh (by walk_at "om") (by walk_at "om") B12 (by walk_at "om") hc (c8 c hc) (by walk_at "lk") (by walk_at "lk") hW' S15 fun bd16 hb16 h16 t16 G16 B16 S16 ht16 => ?_
  try dsimp only
  exact law17 hb16 ht16 X hh (by walk_at "om") B16 hpl (by walk_at "om") hend (by walk_at "lk") (by walk_at "lk") S16 fun h17 t17 G17 B17 k17 => h h17 t17 G17 B17 k17
end
section
variable {w : World} {s : Shared} {l : Addr} {vs : Array Value} {Q E : Value → Shared → Prop}
theorem law_call (X : Lib w s.heap) (hb : Bare s.gens) (Hl : s.heap.IsList l vs) (hv : ∀ v ∈ vs, ∃ n t, v = Value.int n t) (hvs : vs.size ≤ 63)
    (h : ∀ h' t' G', Bare G' → (∀ b o, s.heap.get? b = some o → h'.get? b = some o) → Q (.bool true) { s with heap := h', toks := t', gens := G' }) :
    wpAny (model prg w) callerA (call (.ref 87) [.ref l]) Q E s := by
  obtain ⟨bd, hbd⟩ : ∃ bd, bd = lawR 0 := ⟨_, rfl⟩
  refine enter_law (bd := bd) (by rw [hbd, lawR, List.drop_zero]) X (by decide) fun L h₁ t₁ S => ?_
  obtain ⟨f1, f2, f3⟩ := around_facts L
  exact law_body (s := { s with heap := h₁, toks := t₁ }) hbd X f1 (by rw [f2]; decide) f3 hb Hl hv hvs S fun h' t' G' B k => h h' t' G' B k
end
end
end Mine
set_option hygiene true
namespace Mine
theorem ints_are {vs : List Value} {ns : List Int} (h : IntsAre vs ns) : (∀ v ∈ vs, ∃ n t, v = Value.int n t) ∧ vs.length = ns.length := by
  induction h with
  | nil => exact ⟨fun v hv => (nomatch hv), rfl⟩
  | cons n t _ ih =>
    refine ⟨fun v hv => ?_, by rw [List.length_cons, List.length_cons, ih.2]⟩
    rcases List.mem_cons.mp hv with rfl | hv
    · exact ⟨n, t, rfl⟩
    · exact ih.1 v hv
theorem nm_law (P : Params) : nsIn (heapF P) mainGlobals "law" = some (some (.ref 87)) := by rfl
end Mine
set_option maxHeartbeats 8000000 in
theorem PySem.Challenge.cw_ku0001_01_holds : PySem.Challenge.rw_ku0001_01.Holds := by
  w_on; o_law; o_head (kHook Mine.heapF Mine.addrF (fun _ => by rfl)); (case hw => w_witness2)
  intro w s₀ s₁ mg mb G Y fa o pm cd doc dV kV ho hd hcd hD hmg hg args vals as hpre hlay hrd hwl hlo
  have KX := kIn_of Y
  refine Ground.open G ?_
  intro T B D TE TW
  wrow_args hpre hlay hrd hwl hlo
  rename_i ns hs h0 h1 h2 h3 a1 a2 l vs a3 hL ra w1 r0 hi hr hc1 hc2
  have hfa : fa = 87 := by
    have e := mg_of KX T.g (Mine.nm_law w.params)
    have e2 : mg "law" = some (Value.ref fa) := hmg
    rw [e2] at e
    injection e with e
    injection e
  subst hfa
  clear hmg hcd ho hd hD
  have hi2 := Mine.ints_are hi
  refine Mine.law_call (Q := fun v s' => _) ⟨KX, ⟨mb, T.b, T.builtins⟩, ⟨mg, T.g⟩, T.nolimit⟩ (by rw [hg]; exact AllBare.empty) hL ?_ ?_ ?_
  · intro v hv
    exact hi2.1 v (by simpa using hv)
  · rw [List.size_toArray]
    have := hi2.2
    omega
  · intro h' t' G' B' k
    exact ⟨.inl ⟨_, .bool true, [], rfl, fun _ => rfl, ReadsW.bool true, by first | rfl | wrow_post, fun _ => ⟨List.nodup_nil, fun _ hm => (nomatch hm)⟩⟩, .of_keep k, rfl, B'⟩
