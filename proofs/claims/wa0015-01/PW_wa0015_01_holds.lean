import PyProof.Rows.All
import Wide.All
import OpenK.AllK
import Wide.FinOn
import PySem.Challenge.RW_wa0015_01
set_option Elab.async false
set_option bootstrap.genMatcherCode false
namespace Mine
section
open PySem PySem.W PySem.Calls PyProof.Rows
set_option maxRecDepth 100000
noncomputable def S (l : List Nat) : Str := ⟨l.toArray⟩
/-- EXACT_TOKEN_TYPES, as numbers -/
noncomputable def exact : List (List Nat × Int) := [([33], 54), ([33, 61], 28), ([37], 24), ([37, 61], 40), ([38], 19), ([38, 61], 41), ([40], 7), ([41], 8), ([42], 16), ([42, 42], 35), ([42, 42, 61], 46), ([42, 61], 38), ([43], 14), ([43, 61], 36), ([44], 12), ([45], 15), ([45, 61], 37), ([45, 62], 51), ([46], 23), ([46, 46, 46], 52), ([47], 17), ([47, 47], 47), ([47, 47, 61], 48), ([47, 61], 39), ([58], 11), ([58, 61], 53), ([59], 13), ([60], 20), ([60, 60], 33), ([60, 60, 61], 44), ([60, 61], 29), ([61], 22), ([61, 61], 27), ([62], 21), ([62, 61], 30), ([62, 62], 34), ([62, 62, 61], 45), ([64], 49), ([64, 61], 50), ([91], 9), ([93], 10), ([94], 32), ([94, 61], 43), ([123], 25), ([124], 18), ([124, 61], 42), ([125], 26), ([126], 31)]
/-- the text's statements, by their places -/
noncomputable def stAt (i : Nat) : Option Stmt := Challenge.pw_wa0015_01.main.body[i]?
noncomputable def fnObj (i : Nat) (md : String) (t : Tok) (cd : Addr) : Obj := match stAt i with
  | some (.FunctionDef name params body _ _ _ scope _ _ _) => { cls := .type "function", data := .func { name := name, qualname := name, params := params, body := .stmts body, scope := scope, globals := 3, closure := [], defaults := .none, kwdefaults := .none, pyModule := .str (Str.ofString md) t, code := .ref cd } }
  | _ => default
noncomputable def tgt (i : Nat) : Str := match stAt i with
  | some (.Assign [.Name n _] _ _) => n
  | _ => S []
noncomputable def cdObj (n : String) (t : Tok) (line argc : Int) (a b : Addr) (x y z : Value) (c : Addr) (t2 : Int) (t3 : Tok) : Obj :=
  { cls := .type "code", data := .fields #[.str (Str.ofString n) t, .str (Str.ofString n) (t + 1), .str (Str.ofString "/claim/cut.py") (t + 2), .int line 0, .int argc 0, .int 0 0, .int 0 0, .int 3 0, .ref a, .bool true, .int 276 0, .ref b, x, y, z, .ref c, .int t2 0, .int line 0, .str (Str.ofString "/claim/cut.py") t3] }
noncomputable def en (P : Params) (n : String) (t : Tok) (v : Value) : DictEntry := ⟨PyData.keyHash P (Str.ofString n), .str (Str.ofString n) t, v⟩
noncomputable def tokEs (P : Params) : Nat → Nat → List DictEntry
  | 0, _ => []
  | m + 1, k => ⟨PyData.keyHash P (tgt (19 + k)), .str (tgt (19 + k)) (496 + 2 * k), .int (if k = 48 then 256 else 7 + k) (495 + 2 * k)⟩ :: tokEs P m (k + 1)
noncomputable def mainEs (P : Params) : List DictEntry :=
  [en P "__name__" 165 (.str (Str.ofString "law_wa0015_01") 697), en P "__doc__" 166 .none, en P "__package__" 167 .none, en P "__loader__" 168 (.builtin "__main__.__loader__#opaque"), en P "__spec__" 169 .none, en P "__annotations__" 170 (.ref 6), en P "__builtins__" 171 (.ref 4), en P "__file__" 173 (.str (Str.ofString "/claim/cut.py") 172), en P "__cached__" 174 .none, en P "_sre" 275 (.ref 12), en P "_wall" 288 (.ref 38), en P "IPV4_RE" 320 (.ref 43), en P "liberal_is_HDN" 327 (.ref 50), en P "ESCAPED_CHAR_RE" 373 (.ref 55), en P "uppercase_escaped_char" 380 (.ref 62), en P "_plain_name" 391 (.ref 69), en P "ABCMeta" 417 (.ref 86), en P "_ABCLike" 460 (.ref 119), en P "_abc_plain_meta" 467 (.ref 128), en P "fspath" 479 (.ref 135), en P "commonprefix" 492 (.ref 142)] ++ (tokEs P 49 0 ++
  [en P "EXACT_TOKEN_TYPES" 689 (.ref 143), en P "ISNONTERMINAL" 696 (.ref 152), en P "_law_cells" 704 (.ref 157), en P "_law_names" 710 (.ref 162), en P "_law_great" 721 (.ref 169), en P "_law_symbol" 731 (.ref 176), en P "_law_tie" 741 (.ref 183), en P "_law_lines" 747 (.ref 188), en P "_law_determinant" 753 (.ref 193), en P "_law_due" 764 (.ref 200), en P "_law_forks" 781 (.ref 207), en P "_law_begun" 787 (.ref 212), en P "law" 793 (.ref 217)])
noncomputable def tabEs (P : Params) : Nat → List (List Nat × Int) → List DictEntry
  | _, [] => []
  | k, q :: r => ⟨PyData.keyHash P (S q.1), .str (S q.1) (if k ≤ 34 then 593 + 2 * k else 627 + k), .int q.2 (495 + 2 * (q.2 - 7).toNat)⟩ :: tabEs P (k + 1) r
noncomputable def hd.heap_39 (P : Params) : Frag :=
   
(nat_lit 3, { cls := .type "dict", data := .dict (mainEs P).toArray 83 }) ::
   (nat_lit 42, { cls := .type "tuple", data := .seq (#[14, 8, 1, 2, 4294967295, 1, 1, 46, 0, 16, 46, 24, 9, 1, 4294967295, 13, 4, 8, 0, 0, 1, 6, 5, 1].map fun i => .int i 0) }) ::
   (nat_lit 43, { cls := .type "re.Pattern", data := .fields #[.str (Str.ofString "\\.\\d+$") 292, .int 256 319, .int 0 0, .none, .none, .ref 42, .int 0 0] }) ::
   (nat_lit 49, cdObj "liberal_is_HDN" 321 7 1 44 45 .none (.ref 46) (.ref 47) 48 325 326) ::
   (nat_lit 50, fnObj 4 "cpy313.http.cookiejar" 289 49) ::
   (nat_lit 54, { cls := .type "tuple", data := .seq (#[14, 8, 1, 3, 3, 1, 1, 37, 0, 16, 37, 17, 0, 13, 11, 9, 0, 67043328, 126, 126, 0, 0, 0, 0, 0, 13, 11, 9, 0, 67043328, 126, 126, 0, 0, 0, 0, 0, 17, 1, 1].map fun i => .int i 0) }) ::
   (nat_lit 55, { cls := .type "re.Pattern", data := .fields #[.str (Str.ofString "%([0-9a-fA-F][0-9a-fA-F])") 329, .int 32 372, .int 1 0, .none, .none, .ref 54, .int 0 0] }) ::
   (nat_lit 61, cdObj "uppercase_escaped_char" 374 12 1 56 57 .none (.ref 58) (.ref 59) 60 378 379) ::
   (nat_lit 62, fnObj 6 "cpy313.http.cookiejar" 289 61) ::
   (nat_lit 134, cdObj "fspath" 470 45 1 129 130 .none (.ref 131) (.ref 132) 133 477 478) ::
   (nat_lit 135, fnObj 15 "os" 468 134) ::
   (nat_lit 141, cdObj "commonprefix" 482 62 1 136 137 .none (.ref 138) (.ref 139) 140 490 491) ::
   (nat_lit 142, fnObj 17 "cpy313.genericpath" 480 141) ::
   (nat_lit 143, { cls := .type "dict", data := .dict (tabEs P 0 exact).toArray 48 }) ::
   (nat_lit 151, cdObj "ISNONTERMINAL" 690 124 1 146 147 .none (.ref 148) (.ref 149) 150 694 695) ::
   (nat_lit 152, fnObj 69 "cpy313.token" 493 151) ::
   (nat_lit 156, cdObj "_law_cells" 699 127 1 153 154 .none .none .none 155 702 703) ::
   (nat_lit 157, fnObj 71 "law_wa0015_01" 697 156) ::
   (nat_lit 161, cdObj "_law_names" 705 132 2 158 159 .none .none .none 160 708 709) ::
   (nat_lit 162, fnObj 72 "law_wa0015_01" 697 161) ::
   (nat_lit 168, cdObj "_law_great" 711 139 1 163 164 .none (.ref 165) (.ref 166) 167 719 720) ::
   (nat_lit 169, fnObj 73 "law_wa0015_01" 697 168) ::
   (nat_lit 175, cdObj "_law_symbol" 722 148 2 170 171 .none (.ref 172) (.ref 173) 174 729 730) ::
   (nat_lit 176, fnObj 74 "law_wa0015_01" 697 175) ::
   (nat_lit 182, cdObj "_law_tie" 732 154 1 177 178 .none (.ref 179) (.ref 180) 181 739 740) ::
   (nat_lit 183, fnObj 75 "law_wa0015_01" 697 182) ::
   (nat_lit 187, cdObj "_law_lines" 742 161 2 184 185 .none .none .none 186 745 746) ::
   (nat_lit 188, fnObj 76 "law_wa0015_01" 697 187) ::
   (nat_lit 192, cdObj "_law_determinant" 748 172 1 189 190 .none .none .none 191 751 752) ::
   (nat_lit 193, fnObj 77 "law_wa0015_01" 697 192) ::
   (nat_lit 199, cdObj "_law_due" 754 182 2 194 195 .none (.ref 196) (.ref 197) 198 762 763) ::
   (nat_lit 200, fnObj 78 "law_wa0015_01" 697 199) ::
   (nat_lit 206, cdObj "_law_forks" 765 191 3 201 202 .none (.ref 203) (.ref 204) 205 779 780) ::
   (nat_lit 207, fnObj 79 "law_wa0015_01" 697 206) ::
   (nat_lit 211, cdObj "_law_begun" 782 210 1 208 209 .none .none .none 210 785 786) ::
   (nat_lit 212, fnObj 80 "law_wa0015_01" 697 211) ::
   (nat_lit 216, cdObj "law" 788 213 1 213 214 .none .none .none 215 791 792) ::
   (nat_lit 217, fnObj 81 "law_wa0015_01" 697 216) :: []
noncomputable abbrev AS : List Addr := [3, 42, 43, 49, 50, 54, 55, 61, 62, 134, 135, 141, 142, 143, 151, 152, 156, 157, 161, 162, 168, 169, 175, 176, 182, 183, 187, 188, 192, 193, 199, 200, 206, 207, 211, 212, 216, 217]
end
section
open PySem PySem.W PySem.Calls PyProof.Rows
set_option maxRecDepth 100000
noncomputable abbrev Prg : Program := Challenge.rw_wa0015_01.row.prog
noncomputable abbrev Map := Str → Option Value

inductive Cell where
  | list (vs : List Value)
  | plist (vs : List Value)
  | tup (vs : List Value)
  | dict (kvs : List (Str × Value))
  | raw (o : Obj)
noncomputable abbrev Led := List (Addr × Cell)

noncomputable def Is (w : World) (a : Addr) (o : Obj) : Cell → Prop
  | .list vs => o.cls = .type "list" ∧ ∃ n, o.data = .seq vs.toArray n
  | .plist vs => ∃ n, o = { cls := .type "list", data := .seq vs.toArray n }
  | .tup vs => ∃ n, o = { cls := .type "tuple", data := .seq vs.toArray n }
  | .dict kvs => o.IsDictOf (strKind Prg w) kvs ∧ (a == sysModules) = false
  | .raw o' => o = o'
noncomputable def Holds (w : World) (h : Heap) (a : Addr) (c : Cell) : Prop := ∃ o, h.get? a = some o ∧ Is w a o c

section
variable {w : World} {h h' : Heap} {a : Addr} {c : Cell}
theorem Holds.at (x : Holds w h a c) (k : ∀ o, h.get? a = some o → h'.get? a = some o) : Holds w h' a c := let ⟨o, ho, r⟩ := x; ⟨o, k o ho, r⟩
theorem Holds.keep (x : Holds w h a c) (k : h.StaysIn h') : Holds w h' a c := x.at (k a)
theorem Holds.lt (x : Holds w h a c) : a < h.objs.size := let ⟨_, ho, _⟩ := x; Heap.lt_size ho
theorem Holds.live (x : Holds w h a c) : ∃ o, h.get? a = some o := let ⟨o, ho, _⟩ := x; ⟨o, ho⟩
theorem Holds.isList {vs : List Value} (x : Holds w h a (.list vs)) : h.IsList a vs.toArray := by
  obtain ⟨o, ho, c, n, d⟩ := x; exact ⟨o, ho, c, n, d⟩
theorem Holds.ofList {xs : Array Value} (x : h.IsList a xs) : Holds w h a (.list xs.toList) := by
  obtain ⟨o, ho, c, n, d⟩ := x; exact ⟨o, ho, c, n, by simpa using d⟩
theorem Holds.plain {vs : List Value} (x : Holds w h a (.plist vs)) : h.PlainList a vs.toArray := by
  obtain ⟨o, ho, n, rfl⟩ := x; exact ⟨n, ho⟩
theorem Holds.ofPlain {xs : Array Value} (x : h.PlainList a xs) : Holds w h a (.plist xs.toList) := by
  obtain ⟨n, ho⟩ := x; exact ⟨_, ho, n, by simp⟩
noncomputable def Le (c' c : Cell) : Prop := c' = c ∨ ∃ vs, c' = .plist vs ∧ c = .list vs
theorem Le.rfl {c : Cell} : Le c c := .inl _root_.rfl
theorem Is.le {o : Obj} {c' : Cell} (x : Is w a o c') (l : Le c' c) : Is w a o c := by
  rcases l with e | ⟨vs, e, e'⟩
  · exact e ▸ x
  · subst e; subst e'
    obtain ⟨n, e⟩ := x
    subst e; exact ⟨_root_.rfl, n, _root_.rfl⟩
theorem Holds.le {c' : Cell} (x : Holds w h a c') (l : Le c' c) : Holds w h a c := let ⟨o, ho, i⟩ := x; ⟨o, ho, i.le l⟩
theorem Holds.isTup {vs : List Value} (x : Holds w h a (.tup vs)) : IsTup h a vs.toArray := by
  obtain ⟨o, ho, n, rfl⟩ := x; exact ⟨_, ho, rfl, n, rfl⟩
theorem Holds.dictOf {kvs : List (Str × Value)} (x : Holds w h a (.dict kvs)) : h.DictOf (strKind Prg w) a kvs := by
  obtain ⟨o, ho, d, _⟩ := x; exact Heap.dictOf_iff.mpr ⟨o, ho, d⟩
theorem Holds.noSys {kvs : List (Str × Value)} (x : Holds w h a (.dict kvs)) : (a == sysModules) = false := let ⟨_, _, _, s⟩ := x; s
end

structure TopR (mg mb : Map) (h : Heap) : Prop where
  g : h.Ns mainGlobals mg
  b : h.Ns builtinsNs mb
  nolimit : h.NoLimit
  builtins : ∀ x : Str, x ≠ "__name__" → mb x = bootBuiltins x
theorem TopR.keeps {mg mb : Map} {h h' : Heap} (T : TopR mg mb h) (k : h.StaysIn h') : TopR mg mb h' := ⟨T.g.keeps k, T.b.keeps k, T.nolimit.keeps k, T.builtins⟩
/-- what stands at every call: the text's own objects, and the names -/
structure Gl (w : World) (mg mb : Map) (h : Heap) : Prop where
  K : (hd.heap_39 w.params).In h
  T : TopR mg mb h
theorem Gl.keeps {w : World} {mg mb : Map} {h h' : Heap} (G : Gl w mg mb h) (k : h.StaysIn h') : Gl w mg mb h' := ⟨G.K.keeps k, G.T.keeps k⟩

structure Cx where
  w : World
  mg : Map
  mb : Map
  A : Around
  g : Heap
  env : Env
  s₀ : Shared
  fa : List Addr
  H : List (Addr × Obj)
  dp : Nat
  un : Nat

structure Vars (env : Env) (h : Heap) (m : Map) : Prop where
  ml : ∃ ml, h.Ns env.locals ml ∧ ∀ x, env.kindOf x = some .local → ml x = m x
  cl : ∀ x c, env.kindOf x = some .cell → env.cells.lookup x = some c → h.IsCell c (m x)

theorem Vars.at {env : Env} {h h' : Heap} {m : Map} (V : Vars env h m) (kl : ∀ o, h.get? env.locals = some o → h'.get? env.locals = some o)
    (kc : ∀ c ∈ env.cells.map (·.2), ∀ o, h.get? c = some o → h'.get? c = some o) : Vars env h' m := by
  obtain ⟨⟨ml, hn, hm⟩, hc⟩ := V
  refine ⟨⟨ml, hn.at' kl, hm⟩, fun x c hk hl => ?_⟩
  obtain ⟨o, ho, hd⟩ := hc x c hk hl
  exact ⟨o, kc c (List.mem_map.mpr ⟨(x, c), mem_of_lookup hl, rfl⟩) o ho, hd⟩

structure At (C : Cx) (m : Map) (R : Led) (s : Shared) : Prop where
  same : ∃ h tk, s = { C.s₀ with heap := h, toks := tk }
  gl : Gl C.w C.mg C.mb C.g
  hh : C.A.handled = none
  rd : C.A.depth + C.dp < recursionLimit
  ru : C.A.units + C.un < cLine
  keep : C.g.StaysIn s.heap
  vars : Vars C.env s.heap m
  own : ∀ p ∈ R, Holds C.w s.heap p.1 p.2
  hid : ∀ p ∈ C.H, s.heap.get? p.1 = some p.2
  live : ∀ a ∈ C.fa, ∃ o, s.heap.get? a = some o
  nod : (C.fa ++ (R.map (·.1) ++ C.H.map (·.1))).Nodup
  new : ∀ a ∈ C.fa ++ (R.map (·.1) ++ C.H.map (·.1)), C.g.get? a = none
  frm : ∀ a, a = C.env.locals ∨ a ∈ C.env.cells.map (·.2) → a ∈ C.fa ∨ ∃ o, C.g.get? a = some o
  fn : C.env.scope.kind = .function ∧ C.env.globals = mainGlobals ∧ C.env.builtins = builtinsNs

noncomputable def Ev {α : Type} (C : Cx) (m : Map) (R : Led) (t : Sem α) (P : α → Map → Led → Prop) : Prop :=
  ∀ s, At C m R s → wpAny (model Prg C.w) C.A t (fun a s' => ∃ m' R', At C m' R' s' ∧ P a m' R') (fun _ _ => False) s

noncomputable def Made (w : World) (h h' : Heap) (R : Led) : Prop := (∀ p ∈ R, Holds w h' p.1 p.2 ∧ h.get? p.1 = none) ∧ (R.map (·.1)).Nodup

noncomputable def put (R : Led) (a : Addr) (c : Cell) : Led := R.map fun p => if p.1 = a then (a, c) else p
theorem put_fst (R : Led) (a : Addr) (c : Cell) : (put R a c).map (·.1) = R.map (·.1) := by
  unfold put
  rw [List.map_map]
  refine List.map_congr_left fun p _ => ?_
  show (if p.1 = a then (a, c) else p).1 = p.1
  split
  · rename_i e; exact e.symm
  · rfl

section
variable {C : Cx} {m : Map} {R : Led} {s : Shared}

theorem At.alive (x : At C m R s) : ∀ a ∈ C.fa ++ (R.map (·.1) ++ C.H.map (·.1)), ∃ o, s.heap.get? a = some o := by
  intro a ha
  rcases List.mem_append.mp ha with h | h
  · exact x.live a h
  · rcases List.mem_append.mp h with h | h
    · obtain ⟨p, hp, rfl⟩ := List.mem_map.mp h; exact (x.own p hp).live
    · obtain ⟨p, hp, rfl⟩ := List.mem_map.mp h; exact ⟨_, x.hid p hp⟩

theorem At.stay (x : At C m R s) {h' : Heap} {tk : Nat} (k : s.heap.StaysIn h') : At C m R { s with heap := h', toks := tk } where
  same := by obtain ⟨h, t, rfl⟩ := x.same; exact ⟨_, _, rfl⟩
  gl := x.gl
  hh := x.hh
  rd := x.rd
  ru := x.ru
  keep := fun b o e => k b o (x.keep b o e)
  vars := x.vars.at (k _) fun c _ => k c
  own := fun p hp => (x.own p hp).keep k
  hid := fun p hp => k _ _ (x.hid p hp)
  live := fun a ha => let ⟨o, e⟩ := x.live a ha; ⟨o, k _ _ e⟩
  nod := x.nod
  new := x.new
  frm := x.frm
  fn := x.fn
theorem At.toks (x : At C m R s) {tk : Nat} : At C m R { s with toks := tk } := x.stay (h' := s.heap) fun _ _ e => e

theorem At.add (x : At C m R s) {h' : Heap} {tk : Nat} {R' : Led} (k : s.heap.StaysIn h') (M : Made C.w s.heap h' R') : At C m (R' ++ R) { s with heap := h', toks := tk } where
  same := (x.stay (tk := tk) k).same
  gl := x.gl
  hh := x.hh
  rd := x.rd
  ru := x.ru
  keep := (x.stay (tk := tk) k).keep
  vars := (x.stay (tk := tk) k).vars
  own := fun p hp => (List.mem_append.mp hp).elim (fun h => (M.1 p h).1) fun h => (x.own p h).keep k
  hid := (x.stay (tk := tk) k).hid
  live := (x.stay (tk := tk) k).live
  nod := by
    have hn := x.nod
    have hal := x.alive
    have fresh : ∀ a ∈ R'.map (·.1), ∀ b ∈ C.fa ++ (R.map (·.1) ++ C.H.map (·.1)), a ≠ b := by
      rintro a ha b hb rfl
      obtain ⟨o, ho⟩ := hal a hb
      obtain ⟨p, hp, rfl⟩ := List.mem_map.mp ha
      rw [(M.1 p hp).2] at ho; cases ho
    rw [List.map_append, List.append_assoc]
    rw [List.nodup_append] at hn ⊢
    refine ⟨hn.1, ?_, ?_⟩
    · rw [List.nodup_append]
      exact ⟨M.2, hn.2.1, fun a ha b hb => fresh a ha b (List.mem_append_right _ hb)⟩
    · intro a ha b hb
      rcases List.mem_append.mp hb with h | h
      · exact fun e => fresh b h a (List.mem_append_left _ ha) e.symm
      · exact hn.2.2 a ha b h
  new := by
    intro a ha
    rcases List.mem_append.mp ha with h | h
    · exact x.new a (List.mem_append_left _ h)
    · rw [List.map_append, List.append_assoc] at h
      rcases List.mem_append.mp h with h | h
      · obtain ⟨p, hp, rfl⟩ := List.mem_map.mp h
        cases q : C.g.get? p.1 with
        | none => rfl
        | some o => have := x.keep _ _ q; rw [(M.1 p hp).2] at this; cases this
      · exact x.new a (List.mem_append_right _ h)
  frm := x.frm
  fn := x.fn

theorem At.sub (x : At C m R s) {R' : Led} (h : R'.Sublist R) : At C m R' s where
  same := x.same
  gl := x.gl
  hh := x.hh
  rd := x.rd
  ru := x.ru
  keep := x.keep
  vars := x.vars
  own := fun p hp => x.own p (h.subset hp)
  hid := x.hid
  live := x.live
  nod := x.nod.sublist ((List.Sublist.refl _).append ((h.map _).append (List.Sublist.refl _)))
  new := fun a ha => x.new a (((List.Sublist.refl _).append ((h.map _).append (List.Sublist.refl _))).subset ha)
  frm := x.frm
  fn := x.fn

theorem At.ne_of_mem (x : At C m R s) {a : Addr} (ha : a ∈ R.map (·.1)) : C.g.get? a = none ∧ a ∉ C.fa ∧ (∀ p ∈ C.H, p.1 ≠ a) ∧ a ≠ C.env.locals ∧ ∀ c ∈ C.env.cells.map (·.2), a ≠ c := by
  have hg := x.new a (List.mem_append_right _ (List.mem_append_left _ ha))
  have hn := x.nod
  rw [List.nodup_append] at hn
  have hfa : a ∉ C.fa := fun h => hn.2.2 a h a (List.mem_append_left _ ha) rfl
  have hn2 := List.nodup_append.mp hn.2.1
  have away : ∀ b, b = C.env.locals ∨ b ∈ C.env.cells.map (·.2) → a ≠ b := by
    rintro b hb rfl
    rcases x.frm a hb with h | ⟨o, ho⟩
    · exact hfa h
    · rw [hg] at ho; cases ho
  refine ⟨hg, hfa, fun p hp e => ?_, away _ (.inl rfl), fun c hc => away c (.inr hc)⟩
  exact hn2.2.2 a ha p.1 (List.mem_map.mpr ⟨p, hp, rfl⟩) e.symm

theorem At.chg (x : At C m R s) {a : Addr} {c : Cell} {h' : Heap} {tk : Nat} (ha : a ∈ R.map (·.1)) (hs : Heap.SameBut a s.heap h') (hc : Holds C.w h' a c) : At C m (put R a c) { s with heap := h', toks := tk } := by
  obtain ⟨hg, hfa, hH, hL, hcl⟩ := x.ne_of_mem ha
  have k : ∀ b o, b ≠ a → s.heap.get? b = some o → h'.get? b = some o := hs.extBut
  exact {
    same := by obtain ⟨h, t, rfl⟩ := x.same; exact ⟨_, _, rfl⟩
    gl := x.gl
    hh := x.hh
    rd := x.rd
    ru := x.ru
    keep := fun b o e => k b o (fun q => by rw [q, hg] at e; cases e) (x.keep b o e)
    vars := x.vars.at (fun o => k _ o (Ne.symm hL)) fun c hc o => k c o (Ne.symm (hcl c hc))
    own := fun p hp => by
      obtain ⟨q, hq, rfl⟩ := List.mem_map.mp hp
      by_cases e : q.1 = a
      · simp only [e, if_true]; exact hc
      · simp only [e, if_false]; exact (x.own q hq).at fun o => k _ o e
    hid := fun p hp => k _ _ (hH p hp) (x.hid p hp)
    live := fun b hb => let ⟨o, e⟩ := x.live b hb; ⟨o, k _ _ (fun q => hfa (q ▸ hb)) e⟩
    nod := by rw [put_fst]; exact x.nod
    new := by rw [put_fst]; exact x.new
    frm := x.frm
    fn := x.fn }
end

/-- a name set -/
noncomputable def sv (m : Map) (x : Str) (v : Value) : Map := fun y => if y = x then some v else m y
theorem sv_self {m : Map} {x : Str} {v : Value} : sv m x v x = some v := by simp [sv]
theorem sv_ne {m : Map} {x y : Str} {v : Value} {r : Option Value} (h : y ≠ x) (e : m y = r) : sv m x v y = r := by simp [sv, h, e]

section
variable {C : Cx} {m : Map} {R : Led} {s : Shared}
/-- a change at one of the frame's own addresses -/
theorem At.var (x : At C m R s) {a : Addr} {m' : Map} {h' : Heap} {tk : Nat} (ha : a ∈ C.fa) (hs : Heap.SameBut a s.heap h') (hv : Vars C.env h' m') (hl : ∃ o, h'.get? a = some o) : At C m' R { s with heap := h', toks := tk } := by
  have k : ∀ b o, b ≠ a → s.heap.get? b = some o → h'.get? b = some o := hs.extBut
  have hg := x.new a (List.mem_append_left _ ha)
  have hn := x.nod
  rw [List.nodup_append] at hn
  have out : ∀ b ∈ R.map (·.1) ++ C.H.map (·.1), b ≠ a := fun b hb e => hn.2.2 a ha b hb e.symm
  exact {
    same := by obtain ⟨h, t, rfl⟩ := x.same; exact ⟨_, _, rfl⟩
    gl := x.gl
    hh := x.hh
    rd := x.rd
    ru := x.ru
    keep := fun b o e => k b o (fun q => by rw [q, hg] at e; cases e) (x.keep b o e)
    vars := hv
    own := fun p hp => (x.own p hp).at fun o => k _ o (out _ (List.mem_append_left _ (List.mem_map.mpr ⟨p, hp, rfl⟩)))
    hid := fun p hp => k _ _ (out _ (List.mem_append_right _ (List.mem_map.mpr ⟨p, hp, rfl⟩))) (x.hid p hp)
    live := fun b hb => by
      by_cases e : b = a
      · subst e; exact hl
      · obtain ⟨o, e'⟩ := x.live b hb; exact ⟨o, k _ _ e e'⟩
    nod := x.nod
    new := x.new
    frm := x.frm
    fn := x.fn }

theorem Ns.live {h : Heap} {a : Addr} {m : Map} (x : h.Ns a m) : ∃ o, h.get? a = some o := let ⟨o, _, _, ho, _⟩ := x; ⟨o, ho⟩

theorem store_local {x : Str} {v : Value} {P : Unit → Map → Led → Prop} (h : P () (sv m x v) R) (hk : C.env.kindOf x = some .local) (hf : C.env.locals ∈ C.fa)
    (hL : ∀ c ∈ C.env.cells.map (·.2), c ≠ C.env.locals) : Ev C m R (storeName C.env x v) P := by
  intro s X
  obtain ⟨ml, hn, hm⟩ := X.vars.ml
  refine wpAny_storeName_local hk hn (fun h' hn' hs' => ?_) (by rw [X.fn.1]; rfl)
  refine ⟨_, _, X.var hf hs' ⟨⟨_, hn', fun y hy => ?_⟩, fun y c hy hc => ?_⟩ (Ns.live hn'), h⟩
  · unfold sv
    by_cases e : y = x
    · simp [e]
    · simp [e, hm y hy]
  · have hne : y ≠ x := by rintro rfl; rw [hk] at hy; cases hy
    have := (X.vars.cl y c hy hc).sameBut hs' (hL c (List.mem_map.mpr ⟨(y, c), mem_of_lookup hc, rfl⟩))
    unfold sv
    simpa [hne] using this

theorem store_cell {x : Str} {c : Addr} {v : Value} {P : Unit → Map → Led → Prop} (h : P () (sv m x v) R) (hk : C.env.kindOf x = some .cell) (hc : C.env.cells.lookup x = some c) (hf : c ∈ C.fa)
    (hL : C.env.locals ≠ c) (hd : C.env.cells.Pairwise fun p q => p.2 ≠ q.2) : Ev C m R (storeName C.env x v) P := by
  intro s X
  refine wpAny_storeName_cell X.fn.1 hk hc (X.vars.cl x c hk hc) (fun h' hc' hs' => ?_)
  have hl : ∃ o, h'.get? c = some o := let ⟨o, ho, _⟩ := hc'; ⟨o, ho⟩
  refine ⟨_, _, (X.var (tk := s.toks) hf hs' ⟨?_, fun y c' hy hcy => ?_⟩ hl), h⟩
  · obtain ⟨ml, hn, hm⟩ := X.vars.ml
    refine ⟨ml, hn.sameBut hs' hL, fun y hy => ?_⟩
    have hne : y ≠ x := by rintro rfl; rw [hk] at hy; cases hy
    unfold sv
    simpa [hne] using hm y hy
  · by_cases e : y = x
    · subst e
      rw [hc] at hcy; cases hcy
      simpa [sv] using hc'
    · have : c' ≠ c := fun q => e (name_of_addr hd (mem_of_lookup hcy) (q ▸ mem_of_lookup hc))
      have := (X.vars.cl y c' hy hcy).sameBut hs' this
      unfold sv
      simpa [e] using this
end
end
section
open PySem PySem.W PySem.Calls PyProof.Rows
set_option maxRecDepth 100000
theorem exE {α β : Sort _} {p q : α → β → Prop} {r : Prop} (x : ∃ a b, p a b ∧ q a b) (k : ∀ a b, p a b → q a b → r) : r := let ⟨a, b, y, z⟩ := x; k a b y z
section
variable {α β : Type} {C : Cx} {m : Map} {R : Led}

theorem Ev.mono {t : Sem α} {P P' : α → Map → Led → Prop} (h : Ev C m R t P) (hP : ∀ a m' R', P a m' R' → P' a m' R') : Ev C m R t P' :=
  fun s X => wpAny_mono (h s X) (fun a _ zx => exE zx fun m' R' Y p => ⟨m', R', Y, hP a m' R' p⟩) fun _ _ x => x
theorem Ev.bind {t : Sem α} {f : α → Sem β} {P : β → Map → Led → Prop} (h : Ev C m R t (fun a m' R' => Ev C m' R' (f a) P)) : Ev C m R (t >>= f) P :=
  fun s X => wpAny_bind (wpAny_mono (h s X) (fun _ s' zx => exE zx fun _ _ Y p => p s' Y) fun _ _ x => x)
theorem Ev.pure {a : α} {P : α → Map → Led → Prop} (h : P a m R) : Ev C m R (Pure.pure a) P := fun _ X => wpAny_pure ⟨m, R, X, h⟩
theorem Ev.sub {t : Sem α} {R' : Led} {P : α → Map → Led → Prop} (hs : R'.Sublist R) (h : Ev C m R' t P) : Ev C m R t P := fun s X => h s (X.sub hs)
theorem Ev.drop {t : Sem α} {P : α → Map → Led → Prop} (h : Ev C m [] t P) : Ev C m R t P := Ev.sub (List.nil_sublist _) h
theorem Ev.ite {c : Prop} [Decidable c] {a b : Sem α} {P : α → Map → Led → Prop} (h1 : c → Ev C m R a P) (h2 : ¬ c → Ev C m R b P) : Ev C m R (if c then a else b) P := by
  split
  · rename_i h; exact h1 h
  · rename_i h; exact h2 h

noncomputable def Seq (C : Cx) (rest : List Stmt) (P : Flow → Map → Led → Prop) : Flow → Map → Led → Prop
  | .next, m, R => Ev C m R (execs rest C.env) P
  | f, m, R => P f m R
theorem Seq.next {rest : List Stmt} {P : Flow → Map → Led → Prop} (h : Ev C m R (execs rest C.env) P) : Seq C rest P .next m R := h
theorem Seq.ret {rest : List Stmt} {v : Value} {P : Flow → Map → Led → Prop} (h : P (.ret v) m R) : Seq C rest P (.ret v) m R := h

theorem ev_nil {P : Flow → Map → Led → Prop} (h : P .next m R) : Ev C m R (execs [] C.env) P := fun _ X => wpAny_execs_nil ⟨m, R, X, h⟩
theorem ev_cons {st : Stmt} {rest : List Stmt} {P : Flow → Map → Led → Prop} (h : Ev C m R (exec st C.env) (Seq C rest P)) : Ev C m R (execs (st :: rest) C.env) P := fun s X =>
  wpAny_execs_cons (wpAny_mono (h s X) (fun f s' zx => exE zx fun m' R' Y p => by
    cases f with
    | next => exact p s' Y
    | brk => exact ⟨m', R', Y, p⟩
    | cont => exact ⟨m', R', Y, p⟩
    | ret v => exact ⟨m', R', Y, p⟩) fun _ _ x => x)
theorem ev_last {st : Stmt} {P : Flow → Map → Led → Prop} (h : Ev C m R (exec st C.env) P) : Ev C m R (execs [st] C.env) P :=
  ev_cons (h.mono fun f m' R' p => by cases f <;> first | exact ev_nil p | exact p)

/-- the frame may be written -/
structure Fw (C : Cx) : Prop where
  loc : C.env.locals ∈ C.fa
  cel : ∀ c ∈ C.env.cells.map (·.2), c ∈ C.fa ∧ c ≠ C.env.locals
  dis : C.env.cells.Pairwise fun p q => p.2 ≠ q.2
noncomputable def Var (env : Env) (x : Str) : Prop := env.kindOf x = some .local ∨ (env.kindOf x = some .cell ∧ (env.cells.lookup x).isSome = true)

theorem ev_store {x : Str} {v : Value} {P : Unit → Map → Led → Prop} (W : Fw C) (hk : Var C.env x) (h : P () (sv m x v) R) : Ev C m R (storeName C.env x v) P := by
  rcases hk with hk | ⟨hk, hc⟩
  · exact store_local h hk W.loc fun c hc => (W.cel c hc).2
  · obtain ⟨c, hc⟩ := Option.isSome_iff_exists.mp hc
    have hm := W.cel c (List.mem_map.mpr ⟨(x, c), mem_of_lookup hc, rfl⟩)
    exact store_cell h hk hc hm.1 (Ne.symm hm.2) W.dis

theorem ev_load {x : Str} {v : Value} {P : Value → Map → Led → Prop} (hk : Var C.env x) (hv : m x = some v) (h : P v m R) : Ev C m R (loadName C.env x) P := by
  intro s X
  rcases hk with hk | ⟨hk, hc⟩
  · obtain ⟨ml, hn, hm⟩ := X.vars.ml
    exact wpAny_loadName_local X.fn.1 hk hn ((hm x hk).trans hv) ⟨m, R, X, h⟩
  · obtain ⟨c, hc⟩ := Option.isSome_iff_exists.mp hc
    exact wpAny_loadName_cell X.fn.1 hk hc (hv ▸ X.vars.cl x c hk hc) ⟨m, R, X, h⟩

theorem ev_name {x : Str} {pos : Pos} {v : Value} {P : Value → Map → Led → Prop} (hk : Var C.env x) (hv : m x = some v) (h : P v m R)
    (hd : (x == ("__debug__" : Str)) = false := by decide) : Ev C m R (eval (.Name x pos) C.env) P := fun s X => wpAny_Name (ev_load hk hv h s X) hd

theorem ev_global {x : Str} {pos : Pos} {v : Value} {P : Value → Map → Led → Prop} (hk : C.env.kindOf x = some .globalImplicit)
    (e : nsIn (hd.heap_39 C.w.params) mainGlobals x = some (some v)) (h : P v m R)
    (hd : (x == ("__debug__" : Str)) = false := by decide) : Ev C m R (eval (.Name x pos) C.env) P := fun s X =>
  Name_function_global X.fn.1 hk (loadGlobal_global (by rw [X.fn.2.1]; exact X.gl.T.g.keeps X.keep) (mg_of X.gl.K X.gl.T.g e) ⟨m, R, X, h⟩) hd

theorem ev_builtin {x : Str} {pos : Pos} {v : Value} {P : Value → Map → Led → Prop} (hk : C.env.kindOf x = some .globalImplicit)
    (e : nsIn (hd.heap_39 C.w.params) mainGlobals x = some none) (hv : bootBuiltins x = some v) (hn : x ≠ "__name__") (h : P v m R)
    (hd : (x == ("__debug__" : Str)) = false := by decide) : Ev C m R (eval (.Name x pos) C.env) P := fun s X =>
  Name_function_global X.fn.1 hk (loadGlobal_builtin (by rw [X.fn.2.1]; exact X.gl.T.g.keeps X.keep) (mg_none_of X.gl.K X.gl.T.g e)
    (by rw [X.fn.2.2]; exact X.gl.T.b.keeps X.keep) ((X.gl.T.builtins x hn).trans hv) ⟨m, R, X, h⟩) hd

theorem ev_int {i : Int} {k pos} {P : Value → Map → Led → Prop} (h : ∀ t, P (.int i t) m R) : Ev C m R (eval (.Constant (.int i) k pos) C.env) P :=
  fun _ X => wpAny_Constant_int ⟨m, R, X.toks, h _⟩
theorem ev_str {x : Str} {k pos} {P : Value → Map → Led → Prop} (h : ∀ t, P (.str x t) m R) : Ev C m R (eval (.Constant (.str x) k pos) C.env) P :=
  fun _ X => wpAny_Constant_str ⟨m, R, X.toks, h _⟩
theorem ev_bool {b : Bool} {k pos} {P : Value → Map → Led → Prop} (h : P (.bool b) m R) : Ev C m R (eval (.Constant (.bool b) k pos) C.env) P :=
  fun _ X => wpAny_Constant_bool ⟨m, R, X, h⟩
theorem ev_none {k pos} {P : Value → Map → Led → Prop} (h : P .none m R) : Ev C m R (eval (.Constant .none k pos) C.env) P :=
  fun _ X => wpAny_Constant_none ⟨m, R, X, h⟩

/-- one Ev after another, as the library's nodes want it -/
theorem Ev.run {t : Sem α} {f : α → Sem β} {P : β → Map → Led → Prop} {s : Shared} (X : At C m R s) (h : Ev C m R t (fun a m' R' => Ev C m' R' (f a) P)) :
    wpAny (model Prg C.w) C.A t (fun a s' => wpAny (model Prg C.w) C.A (f a) (fun b s'' => ∃ m'' R'', At C m'' R'' s'' ∧ P b m'' R'') (fun _ _ => False) s') (fun _ _ => False) s :=
  wpAny_mono (h s X) (fun _ s' zx => exE zx fun _ _ Y p => p s' Y) fun _ _ x => x

theorem ev_binop {l r : Expr} {op : Operator} {pos : Pos} {P : Value → Map → Led → Prop}
    (h : Ev C m R (eval l C.env) (fun a m1 R1 => Ev C m1 R1 (eval r C.env) (fun b m2 R2 => Ev C m2 R2 (binaryOp op a b) P))) : Ev C m R (eval (.BinOp l op r pos) C.env) P := fun s X =>
  wpAny_BinOp (wpAny_mono (h s X) (fun _ s' zx => exE zx fun _ _ Y p => p.run Y) fun _ _ x => x)
theorem ev_unop {l : Expr} {op : UnaryOp} {pos : Pos} {P : Value → Map → Led → Prop}
    (h : Ev C m R (eval l C.env) (fun a m1 R1 => Ev C m1 R1 (unaryOp op a) P)) : Ev C m R (eval (.UnaryOp op l pos) C.env) P := fun s X => wpAny_UnaryOp (h.run X)
theorem ev_cmp {l r : Expr} {op : CmpOp} {pos : Pos} {P : Value → Map → Led → Prop}
    (h : Ev C m R (eval l C.env) (fun a m1 R1 => Ev C m1 R1 (eval r C.env) (fun b m2 R2 => Ev C m2 R2 (compareOp op a b) P)))
    (hm : behindInMarks op r = false := by with_unfolding_all rfl) : Ev C m R (eval (.Compare l [op] [r] pos) C.env) P := fun s X =>
  wpAny_Compare1 (wpAny_mono (h s X) (fun _ s' zx => exE zx fun _ _ Y p => p.run Y) fun _ _ x => x) hm
theorem ev_tcmp {l r : Expr} {op : CmpOp} {pos : Pos} {whole : Sem Value} {P : Bool → Map → Led → Prop}
    (h : Ev C m R (eval l C.env) (fun a m1 R1 => Ev C m1 R1 (eval r C.env) (fun b m2 R2 => Ev C m2 R2 (compareOp op a b) (fun c m3 R3 => Ev C m3 R3 (truthy c) P))))
    (hm : behindInMarks op r = false := by with_unfolding_all rfl) : Ev C m R (isTrue (.Compare l [op] [r] pos) C.env whole) P := fun s X =>
  wpAny_isTrue_Compare1 (wpAny_mono (h s X) (fun _ s' zx => exE zx fun _ _ Y p => wpAny_mono (p s' Y) (fun _ s'' zx => exE zx fun _ _ Z q => q.run Z) fun _ _ x => x) fun _ _ x => x) hm
theorem ev_tnot {x : Expr} {pos : Pos} {whole : Sem Value} {P : Bool → Map → Led → Prop}
    (h : Ev C m R (isTrue x C.env (eval x C.env)) (fun b m1 R1 => P (!b) m1 R1)) : Ev C m R (isTrue (.UnaryOp .Not x pos) C.env whole) P := fun s X =>
  wpAny_isTrue_Not (h s X)
theorem ev_tand {xs : List Expr} {pos : Pos} {op : BoolOp} {whole : Sem Value} {P : Bool → Map → Led → Prop} (h : Ev C m R (allTrue op xs C.env) P) : Ev C m R (isTrue (.BoolOp op xs pos) C.env whole) P :=
  fun s X => wpAny_isTrue_BoolOp (h s X)
theorem ev_or_cons {x : Expr} {rest : List Expr} {P : Bool → Map → Led → Prop}
    (h : Ev C m R (isTrue x C.env (eval x C.env)) (fun b m1 R1 => (b = true → P true m1 R1) ∧ (b = false → Ev C m1 R1 (allTrue .Or rest C.env) P))) : Ev C m R (allTrue .Or (x :: rest) C.env) P := fun s X =>
  wpAny_allTrue_Or_cons (wpAny_mono (h s X) (fun b s' zx => exE zx fun m1 R1 Y p => by
    cases b with
    | true => exact ⟨m1, R1, Y, p.1 rfl⟩
    | false => exact p.2 rfl s' Y) fun _ _ x => x)
theorem ev_or_nil {P : Bool → Map → Led → Prop} (h : P false m R) : Ev C m R (allTrue .Or [] C.env) P := fun _ X => wpAny_allTrue_Or_nil ⟨m, R, X, h⟩
theorem ev_tval {e : Expr} {whole : Sem Value} {P : Bool → Map → Led → Prop} (h : Ev C m R whole (fun v m1 R1 => Ev C m1 R1 (truthy v) P))
    (he : isTrue e C.env whole = (do let v ← whole; holding [v] (truthy v)) := by rfl) : Ev C m R (isTrue e C.env whole) P := fun s X => by
  rw [he]; exact wpAny_bind (wpAny_mono (h.run X) (fun _ _ y => wpAny_holding y) fun _ _ x => x)
theorem ev_tb {b : Bool} {P : Bool → Map → Led → Prop} (h : P b m R) : Ev C m R (truthy (.bool b)) P := fun _ X => wpAny_truthy_bool ⟨m, R, X, h⟩
theorem ev_ifexp {test body orelse : Expr} {pos : Pos} {P : Value → Map → Led → Prop}
    (h : Ev C m R (isTrue test C.env (eval test C.env)) (fun b m1 R1 => (b = true → Ev C m1 R1 (eval body C.env) P) ∧ (b = false → Ev C m1 R1 (eval orelse C.env) P))) :
    Ev C m R (eval (.IfExp test body orelse pos) C.env) P := fun s X =>
  wpAny_IfExp (wpAny_mono (h s X) (fun b s' zx => exE zx fun _ _ Y p => by
    cases b with
    | true => exact p.1 rfl s' Y
    | false => exact p.2 rfl s' Y) fun _ _ x => x)
theorem ev_if {test : Expr} {body orelse : List Stmt} {pos : Pos} {P : Flow → Map → Led → Prop}
    (h : Ev C m R (isTrue test C.env (eval test C.env)) (fun b m1 R1 => (b = true → Ev C m1 R1 (execs body C.env) P) ∧ (b = false → Ev C m1 R1 (execs orelse C.env) P))) :
    Ev C m R (exec (.If test body orelse pos) C.env) P := fun s X =>
  wpAny_If (wpAny_mono (h s X) (fun b s' zx => exE zx fun _ _ Y p => by
    cases b with
    | true => exact p.1 rfl s' Y
    | false => exact p.2 rfl s' Y) fun _ _ x => x)
theorem ev_return {e : Expr} {pos : Pos} {P : Flow → Map → Led → Prop} (h : Ev C m R (eval e C.env) (fun v m1 R1 => P (.ret v) m1 R1)) : Ev C m R (exec (.Return (some e) pos) C.env) P :=
  fun s X => wpAny_Return_some (h s X)
theorem ev_assign {x : Str} {px pos : Pos} {value : Expr} {P : Flow → Map → Led → Prop} (W : Fw C) (hk : Var C.env x)
    (h : Ev C m R (eval value C.env) (fun v m1 R1 => P .next (sv m1 x v) R1)) (hs : swapsWith value (some (.Name x px)) pos.line C.env = Pure.pure false := by rfl) :
    Ev C m R (exec (.Assign [.Name x px] value pos) C.env) P := fun s X =>
  wpAny_Assign_Name (wpAny_mono (h s X) (fun v s' zx => exE zx fun m1 R1 Y p => ev_store (P := fun _ m2 R2 => P .next m2 R2) W hk p s' Y) fun _ _ x => x) hs
theorem ev_aug {x : Str} {px pos : Pos} {op : Operator} {value : Expr} {old : Value} {P : Flow → Map → Led → Prop} (W : Fw C) (hk : Var C.env x) (ho : m x = some old)
    (h : Ev C m R (eval value C.env) (fun v m1 R1 => Ev C m1 R1 (inplaceOp op old v) (fun r m2 R2 => P .next (sv m2 x r) R2))) :
    Ev C m R (exec (.AugAssign (.Name x px) op value pos) C.env) P := fun s X =>
  wpAny_AugAssign_Name (wpAny_mono (ev_load (P := fun v m1 R1 => v = old ∧ m1 = m ∧ R1 = R) hk ho ⟨rfl, rfl, rfl⟩ s X) (fun v s' ⟨m1, R1, Y, e1, e2, e3⟩ => by
    subst e1; subst e2; subst e3
    exact wpAny_mono (h s' Y) (fun v s2 zx => exE zx fun m2 R2 Z p => wpAny_mono (p s2 Z) (fun r s3 zx => exE zx fun m3 R3 U q => ev_store (P := fun _ m2 R2 => P .next m2 R2) W hk q s3 U) fun _ _ x => x) fun _ _ x => x) fun _ _ x => x)
theorem ev_sexpr {e : Expr} {pos : Pos} {P : Flow → Map → Led → Prop} (h : Ev C m R (eval e C.env) (fun _ m1 R1 => P .next m1 R1))
    (hi : interactive C.env = false := by rfl) (hs : swapsWith e none pos.line C.env = Pure.pure false := by rfl) : Ev C m R (exec (.Expr e pos) C.env) P :=
  fun s X => wpAny_Expr_any (h s X) hi hs

theorem ev_augsub {o i value : Expr} {tpos pos : Pos} {op : Operator} {P : Flow → Map → Led → Prop}
    (h : Ev C m R (eval o C.env) (fun ov m1 R1 => Ev C m1 R1 (eval i C.env) (fun iv m2 R2 => Ev C m2 R2 (getItem ov iv) (fun old m3 R3 => Ev C m3 R3 (eval value C.env)
      (fun v m4 R4 => Ev C m4 R4 (inplaceOp op old v) (fun new m5 R5 => Ev C m5 R5 (setItem ov iv new) (fun _ m6 R6 => P .next m6 R6)))))))
    (hi : ∀ ov iv new, augStore i ov iv new = (do holding [new, ov, iv] (setItem ov iv new); release [new, ov, iv] []; Pure.pure .next) := by intros; rfl) :
    Ev C m R (exec (.AugAssign (.Subscript o i tpos) op value pos) C.env) P := fun s X =>
  wpAny_AugAssign_SubscriptAny (wpAny_mono (h s X) (fun _ s1 zx => exE zx fun _ _ X1 h1 => wpAny_mono (h1 s1 X1) (fun _ s2 zx => exE zx fun _ _ X2 h2 => wpAny_mono (h2 s2 X2) (fun _ s3 zx => exE zx fun _ _ X3 h3 =>
    wpAny_mono (h3 s3 X3) (fun _ s4 zx => exE zx fun _ _ X4 h4 => h4.run X4) fun _ _ x => x) fun _ _ x => x) fun _ _ x => x) fun _ _ x => x) hi

theorem ev_sub {value slice : Expr} {pos : Pos} {P : Value → Map → Led → Prop}
    (h : Ev C m R (eval value C.env) (fun o m1 R1 => Ev C m1 R1 (eval slice C.env) (fun i m2 R2 => Ev C m2 R2 (subscriptTail value slice o i) P))) : Ev C m R (eval (.Subscript value slice pos) C.env) P :=
  fun s X => Subscript_ (wpAny_mono (h s X) (fun _ s' zx => exE zx fun _ _ Y p => p.run Y) fun _ _ x => x)

theorem ev_call {func : Expr} {args : List Expr} {pos : Pos} {P : Value → Map → Led → Prop}
    (h : Ev C m R (eval func C.env) (fun f m1 R1 => Ev C m1 R1 (callWith pos f [] (backTo pos (starEach args C.env)) []) P))
    (he : eval (.Call func args [] pos) C.env = (do callWith pos (← eval func C.env) [] (backTo pos (starEach args C.env)) (backToKw pos (keywordEach [] C.env))) := by rfl) : Ev C m R (eval (.Call func args [] pos) C.env) P :=
  fun s X => Call_ (h.run X) he
theorem ev_methcall {o : Expr} {name : Str} {apos pos : Pos} {args : List Expr} {pl : Sem Bool} {P : Value → Map → Led → Prop}
    (h : Ev C m R (eval o C.env) (fun ov m1 R1 => Ev C m1 R1 (getMethod ov name pl) (fun fx m2 R2 => Ev C m2 R2 (callWith pos fx.1 fx.2 (backTo pos (starEach args C.env)) []) P)))
    (he : eval (.Call (.Attribute o name apos) args [] pos) C.env = (do
      let ov ← eval o C.env
      standAt apos.atName
      let (f, first) ← holding [ov] (getMethod ov name pl)
      callWith pos f first (backTo pos (starEach args C.env)) []) := by rfl) : Ev C m R (eval (.Call (.Attribute o name apos) args [] pos) C.env) P :=
  fun s X => MethodCall_ (wpAny_mono (h s X) (fun _ s' zx => exE zx fun _ _ Y p => p.run Y) fun _ _ x => x) he

theorem ev_items_nil {pos : Pos} {P : List Value → Map → Led → Prop} (h : P [] m R) : Ev C m R (spliced (backTo pos (starEach [] C.env))) P := fun _ X => wpAny_items_nil ⟨m, R, X, h⟩
theorem ev_items {pos : Pos} {e : Expr} {rest : List Expr} {P : List Value → Map → Led → Prop}
    (h : Ev C m R (eval e C.env) (fun v m1 R1 => Ev C m1 R1 (spliced (backTo pos (starEach rest C.env))) (fun vs m2 R2 => P (v :: vs) m2 R2)))
    (he : starEach (e :: rest) C.env = (false, eval e C.env) :: starEach rest C.env := by rfl) : Ev C m R (spliced (backTo pos (starEach (e :: rest) C.env))) P :=
  fun s X => wpAny_items_cons (wpAny_mono (h s X) (fun _ s' zx => exE zx fun _ _ Y p => p s' Y) fun _ _ x => x) he

theorem plain_args {pos : Pos} {args : List Expr} {e : Expr} {rest : List Expr} {f : Value} {P : Args → Map → Led → Prop} (ha : args = e :: rest)
    (h : Ev C m R (spliced (backTo pos (starEach args C.env))) (fun vs m1 R1 => P ⟨vs, []⟩ m1 R1)) (he : starEach (e :: rest) C.env = (false, eval e C.env) :: starEach rest C.env) :
    Ev C m R (evalArgs f true (backTo pos (starEach args C.env)) []) P := by
  intro s X
  subst ha
  have := h s X
  rw [he] at this ⊢
  exact evalArgs_plain this

theorem ev_call_builtin {pos : Pos} {id : String} {first : List Value} {e : Expr} {rest : List Expr} {P : Value → Map → Led → Prop}
    (h : Ev C m R (spliced (backTo pos (starEach (e :: rest) C.env))) (fun vs m1 R1 => Ev C m1 R1 (call (.builtin id) (first ++ vs)) P))
    (he : starEach (e :: rest) C.env = (false, eval e C.env) :: starEach rest C.env := by rfl) (hp : ((backTo pos (starEach (e :: rest) C.env)).any fun x => x.1) = false := by rfl) :
    Ev C m R (callWith pos (.builtin id) first (backTo pos (starEach (e :: rest) C.env)) []) P := fun s X =>
  callWith_builtin hp (wpAny_mono (plain_args (P := fun a m1 R1 => a.kw = [] ∧ Ev C m1 R1 (call (.builtin id) (first ++ a.pos)) P) rfl (h.mono fun vs m1 R1 p => ⟨rfl, p⟩) he s X)
    (fun a s' ⟨_, _, Y, e, p⟩ => by rw [e]; exact p s' Y) fun _ _ x => x)
theorem ev_call_builtin0 {pos : Pos} {id : String} {first : List Value} {P : Value → Map → Led → Prop}
    (h : Ev C m R (call (.builtin id) (first ++ [])) P) : Ev C m R (callWith pos (.builtin id) first (backTo pos (starEach [] C.env)) []) P := fun s X =>
  callWith_builtin rfl (PyProof.Rows.evalArgs_none (h s X))
theorem ev_call_type {pos : Pos} {T : String} {first : List Value} {e : Expr} {rest : List Expr} {P : Value → Map → Led → Prop}
    (h : Ev C m R (spliced (backTo pos (starEach (e :: rest) C.env))) (fun vs m1 R1 => Ev C m1 R1 (call (.type T) (first ++ vs)) P))
    (he : starEach (e :: rest) C.env = (false, eval e C.env) :: starEach rest C.env := by rfl) (hp : ((backTo pos (starEach (e :: rest) C.env)).any fun x => x.1) = false := by rfl) :
    Ev C m R (callWith pos (.type T) first (backTo pos (starEach (e :: rest) C.env)) []) P := fun s X =>
  PyProof.Rows.callWith_type hp (wpAny_mono (plain_args (P := fun a m1 R1 => a.kw = [] ∧ Ev C m1 R1 (call (.type T) (first ++ a.pos)) P) rfl (h.mono fun vs m1 R1 p => ⟨rfl, p⟩) he s X)
    (fun a s' ⟨_, _, Y, e, p⟩ => by rw [e]; exact p s' Y) fun _ _ x => x)
theorem ev_call_fn {pos : Pos} {a : Addr} {o : Obj} {fd : FuncData} {e : Expr} {rest : List Expr} {P : Value → Map → Led → Prop}
    (ho : (hd.heap_39 C.w.params).lookup a = some o) (hfd : o.data = .func fd)
    (h : Ev C m R (spliced (backTo pos (starEach (e :: rest) C.env))) (fun vs m1 R1 => Ev C m1 R1 (call (.ref a) vs) P))
    (he : starEach (e :: rest) C.env = (false, eval e C.env) :: starEach rest C.env := by rfl) :
    Ev C m R (callWith pos (.ref a) [] (backTo pos (starEach (e :: rest) C.env)) []) P := fun s X =>
  callWith_function (wpAny_mono (plain_args (P := fun a' m1 R1 => a'.kw = [] ∧ Ev C m1 R1 (call (.ref a) a'.pos) P) rfl (h.mono fun vs m1 R1 p => ⟨rfl, p⟩) he s X)
    (fun a' s' ⟨_, _, Y, e, p⟩ => ⟨⟨Y.keep _ _ (Y.gl.K _ _ ho), hfd⟩, by rw [e]; exact p s' Y⟩) fun _ _ x => x)
end
end
section
open PySem PySem.W PySem.Calls PyProof.Rows
set_option maxRecDepth 100000
/-- a call of a def of the text: it ends, changes nothing that stood; what it gives, and what it made, is told -/
noncomputable def Does (w : World) (f : Addr) (d u : Nat) (args : List Value) (pre : Heap → Prop) (post : Value → Led → Prop) : Prop :=
  ∀ (mg mb : Map) (A : Around) (s : Shared) (Q E : Value → Shared → Prop), Gl w mg mb s.heap → A.handled = none → A.depth + d < recursionLimit → A.units + u < cLine → pre s.heap →
    (∀ h' tk v R', s.heap.StaysIn h' → Made w s.heap h' R' → post v R' → Q v { s with heap := h', toks := tk }) → wpAny (model Prg w) A (call (.ref f) args) Q E s

noncomputable def Has (C : Cx) (R : Led) (a : Addr) (c : Cell) : Prop := ∃ c', Le c' c ∧ ((a, c') ∈ R ∨ Holds C.w C.g a c' ∨ ∃ o, (a, o) ∈ C.H ∧ Is C.w a o c')
theorem At.has {C : Cx} {m : Map} {R : Led} {s : Shared} {a : Addr} {c : Cell} (X : At C m R s) (h : Has C R a c) : Holds C.w s.heap a c := by
  obtain ⟨c', l, h⟩ := h
  refine Holds.le ?_ l
  rcases h with h | h | ⟨o, h, i⟩
  · exact X.own _ h
  · exact h.keep X.keep
  · exact ⟨o, X.hid _ h, i⟩
theorem Has.le {C : Cx} {R : Led} {a : Addr} {vs : List Value} (h : Has C R a (.plist vs)) : Has C R a (.list vs) := by
  obtain ⟨c', l, h⟩ := h
  rcases l with e | ⟨ws, _, e⟩
  · exact ⟨c', .inr ⟨vs, e, rfl⟩, h⟩
  · cases e
theorem Has.sub {C : Cx} {R R' : Led} {a : Addr} {c : Cell} (h : Has C R a c) (s : ∀ p ∈ R, p ∈ R') : Has C R' a c := let ⟨c', l, h⟩ := h; ⟨c', l, h.imp (s _) id⟩
theorem Has.add {C : Cx} {R : Led} {a : Addr} {c : Cell} (h : Has C R a c) (R' : Led) : Has C (R' ++ R) a c := h.sub fun _ x => List.mem_append_right _ x
theorem Has.cons {C : Cx} {R : Led} {a : Addr} {c : Cell} (h : Has C R a c) (p : Addr × Cell) : Has C (p :: R) a c := h.sub fun _ x => List.mem_cons_of_mem _ x
theorem Has.mem {C : Cx} {R : Led} {a : Addr} {c : Cell} (h : (a, c) ∈ R) : Has C R a c := ⟨c, .rfl, .inl h⟩
theorem Has.memP {C : Cx} {R : Led} {a : Addr} {vs : List Value} (h : (a, .plist vs) ∈ R) : Has C R a (.list vs) := (Has.mem h).le
theorem Has.head {C : Cx} {R : Led} {a : Addr} {c : Cell} : Has C ((a, c) :: R) a c := .mem List.mem_cons_self
theorem Has.base {C : Cx} {R : Led} {a : Addr} {c : Cell} (h : Holds C.w C.g a c) : Has C R a c := ⟨c, .rfl, .inr (.inl h)⟩

noncomputable def retv : Flow → Value
  | .ret v => v
  | _ => .none
noncomputable def lk (binds : List (Str × Value)) : Map := fun y => binds.reverse.lookup y

theorem lookup_rev_cons (x : Str × Value) (r : List (Str × Value)) (y : Str) : (x :: r).reverse.lookup y = (r.reverse.lookup y).or (if y = x.1 then some x.2 else none) := by
  rw [List.reverse_cons, List.lookup_append]
  congr 1
  rw [List.lookup_cons, List.lookup_nil]
  by_cases e : y = x.1
  · rw [if_pos e, e]; simp
  · rw [if_neg e]; have : (y == x.1) = false := by simpa using e
    rw [this]
theorem bindL_lk (k : Str → Option NameKind) : ∀ (binds : List (Str × Value)) (m : Map) (y : Str), k y = some .local → bindL k binds m y = (binds.reverse.lookup y).or (m y)
  | [], m, y, _ => by simp [bindL]
  | (n, v) :: r, m, y, h => by
    unfold bindL
    rw [bindL_lk k r _ y h, lookup_rev_cons, Option.or_assoc]
    congr 1
    by_cases e : y = n
    · subst e; simp [h]
    · by_cases hn : k n = some .local
      · simp [hn, e]
      · simp [hn, e]
theorem bindC_lk (k : Str → Option NameKind) : ∀ (binds : List (Str × Value)) (m : Map) (y : Str), k y = some .cell → bindC k binds m y = (binds.reverse.lookup y).or (m y)
  | [], m, y, _ => by simp [bindC]
  | (n, v) :: r, m, y, h => by
    unfold bindC
    rw [bindC_lk k r _ y h, lookup_rev_cons, Option.or_assoc]
    congr 1
    by_cases e : y = n
    · subst e; simp [h]
    · by_cases hn : k n = some .local
      · simp [hn, e]
      · simp [hn, e]

theorem nodup_of_pair {α : Type} {l : List (Str × α)} (h : l.Pairwise fun x y => x.2 ≠ y.2) : (l.map (·.2)).Nodup := by
  unfold List.Nodup
  rw [List.pairwise_map]; exact h

theorem does_of {w : World} {f : Addr} {d u : Nat} {args : List Value} {pre : Heap → Prop} {post : Value → Led → Prop}
    {name qual : Str} {params : Arguments} {body : List Stmt} {scope : Scope} {dV kV doc pm cdv ct oc : Value} {an od : Option Addr} {osl : Array (Option Value)} {binds : List (Str × Value)}
    (ho : (hd.heap_39 w.params).lookup f = some ⟨oc, od, .func (fnOf name qual params body scope dV kV doc pm an cdv ct), osl⟩) (hcd : codeIn (hd.heap_39 w.params) cdv qual = true)
    (hbind : ∀ s : Shared, BindsTo s (fnOf name qual params body scope dV kV doc pm an cdv ct) ⟨args, []⟩ binds)
    (h : ∀ (C : Cx) (L : Addr), C.w = w → C.dp = d → C.un = u → C.H = [] → C.env = envOfC qual scope L f cdv → Fw C → pre C.g →
      Ev C (lk binds) [] (execs body C.env) (fun fl _ R' => ∃ R1, R1.Sublist R' ∧ post (retv fl) R1))
    (hloc : (binds.all fun y => scope.names.lookup y.1 == some .local || scope.names.lookup y.1 == some .cell) = true := by exact rfl)
    (hnd : ((cellsFrom 0 scope.names []).map (·.1)).Nodup := by decide +kernel)
    (hco : scope.isCoroutine = false := by exact rfl) (hgen : scope.isGenerator = false := by exact rfl) (hk : scope.kind = .function := by exact rfl) : Does w f (d + 1) (u + 4) args pre post := by
  intro mg mb A s Q E G hh hdp hun hpre hret
  refine wpAny_call ?_
  refine codeAny_call_function (by lia) (G.K _ _ ho) rfl hco hgen rfl (codeRec_of G.K hcd) (hbind s _ _ _ _ ?_)
  refine wpAny_newFunctionEnv_cells hk (kindsX hloc _) fun env' he s' x => ?_
  subst he
  refine ⟨G.T.nolimit.keeps x.toInCall.keep, codeAny_func ?_⟩
  obtain ⟨h₁, tk, rfl, _⟩ := x.done
  have hk₁ := x.toInCall.keep
  have hnd' : ((cellsFrom (s.heap.objs.size + 1) scope.names []).map (·.1)).Nodup := cellsFrom_names scope.names 0 (s.heap.objs.size + 1) [] [] rfl ▸ hnd
  have hcell : ∀ n c, (n, c) ∈ cellsFrom (s.heap.objs.size + 1) scope.names [] → h₁.IsCell c (bindC (envOfC qual scope s.heap.objs.size f cdv).kindOf binds (fun _ => none) n) := fun n c hm =>
    x.cell n c (lookup_of_mem_nodup hnd' hm)
  have habove : ∀ c ∈ (cellsFrom (s.heap.objs.size + 1) scope.names []).map (·.2), s.heap.objs.size < c := fun c hc => by
    obtain ⟨p, hp, rfl⟩ := List.mem_map.mp hc; exact x.above p.1 p.2 hp
  have hnone : ∀ a, s.heap.objs.size ≤ a → s.heap.get? a = none := fun a ha => by
    cases e : s.heap.get? a with
    | none => rfl
    | some o => exact absurd (Heap.lt_size e) (Nat.not_lt.mpr ha)
  let C : Cx := { w := w, mg := mg, mb := mb, A := A.deeper (envOfC qual scope s.heap.objs.size f cdv), g := s.heap, env := envOfC qual scope s.heap.objs.size f cdv, s₀ := s,
                  fa := s.heap.objs.size :: (cellsFrom (s.heap.objs.size + 1) scope.names []).map (·.2), H := [], dp := d, un := u }
  have W : Fw C := ⟨List.mem_cons_self, fun c hc => ⟨List.mem_cons_of_mem _ hc, Nat.ne_of_gt (habove c hc)⟩, x.apart⟩
  have X : At C (lk binds) [] { s with heap := h₁, toks := tk } := {
    same := ⟨_, _, rfl⟩
    gl := G
    hh := hh
    rd := by show A.depth + 1 + d < recursionLimit; lia
    ru := by show A.units + 3 + u < cLine; lia
    keep := hk₁
    vars := ⟨⟨_, x.toInCall.ns, fun y hy => by
        have := bindL_lk (envOfC qual scope s.heap.objs.size f cdv).kindOf binds (fun _ => none) y hy
        exact this.trans (by simp [lk])⟩, fun y c hy hc => by
        have := bindC_lk (envOfC qual scope s.heap.objs.size f cdv).kindOf binds (fun _ => none) y hy
        have e : bindC (envOfC qual scope s.heap.objs.size f cdv).kindOf binds (fun _ => none) y = lk binds y := this.trans (by simp [lk])
        exact e ▸ hcell y c (mem_of_lookup hc)⟩
    own := fun _ hp => nomatch hp
    hid := fun _ hp => nomatch hp
    live := fun a ha => by
      rcases List.mem_cons.mp ha with rfl | ha
      · exact Ns.live x.toInCall.ns
      · obtain ⟨p, hp, rfl⟩ := List.mem_map.mp ha
        obtain ⟨o, ho, _⟩ := hcell p.1 p.2 hp
        exact ⟨o, ho⟩
    nod := by
      show (C.fa ++ ([] ++ [])).Nodup
      rw [List.append_nil, List.append_nil]
      exact List.nodup_cons.mpr ⟨fun hm => Nat.lt_irrefl _ (habove _ hm), nodup_of_pair x.apart⟩
    new := fun a ha => by
      have ha' : a ∈ C.fa := (List.mem_append.mp ha).elim id fun h => nomatch h
      rcases List.mem_cons.mp ha' with rfl | ha
      · exact hnone _ (Nat.le_refl _)
      · exact hnone _ (Nat.le_of_lt (habove a ha))
    frm := fun a ha => .inl (by
      rcases ha with rfl | ha
      · exact List.mem_cons_self
      · exact List.mem_cons_of_mem _ ha)
    fn := ⟨hk, rfl, rfl⟩ }
  refine wpAny_mono (h C s.heap.objs.size rfl rfl rfl rfl rfl W hpre _ X) (fun fl s' ⟨m', R', Y, R1, hs, hp⟩ => ?_) fun _ _ x => x.elim
  obtain ⟨h', tk', rfl⟩ := Y.same
  have Z := Y.sub hs
  refine hret h' tk' _ R1 Y.keep ⟨fun p hp => ⟨Z.own p hp, Z.new _ (List.mem_append_right _ (List.mem_append_left _ (List.mem_map.mpr ⟨p, hp, rfl⟩)))⟩, ?_⟩ hp
  have := Z.nod
  rw [List.nodup_append] at this
  exact (List.nodup_append.mp this.2.1).1

theorem ev_does {C : Cx} {m : Map} {R : Led} {f : Addr} {d u : Nat} {args : List Value} {pre : Heap → Prop} {post : Value → Led → Prop} {P : Value → Map → Led → Prop}
    (D : Does C.w f d u args pre post) (hd : d ≤ C.dp) (hu : u ≤ C.un) (hpre : ∀ s, At C m R s → pre s.heap) (h : ∀ v R', post v R' → P v m (R' ++ R)) : Ev C m R (call (.ref f) args) P := fun s X =>
  D C.mg C.mb C.A s _ _ (X.gl.keeps X.keep) X.hh (by have := X.rd; lia) (by have := X.ru; lia) (hpre s X) fun _ _ v R' k M p => ⟨m, R' ++ R, X.add k M, h v R' p⟩
end
section
open PySem PySem.W PySem.Calls PyProof.Rows PySem.Builtin PySem.Builtin.Str
set_option maxRecDepth 100000
theorem S_len (l : List Nat) : (S l).length = l.length := by simp [S, Str.length]
theorem S_cps (l : List Nat) : (S l).cps.toList = l := by simp [S]
theorem S_of (x : Str) : S x.cps.toList = x := by cases x; simp [S]
theorem S_inj {l l' : List Nat} : S l = S l' ↔ l = l' := ⟨fun h => by have := congrArg (fun x => x.cps.toList) h; simpa [S] using this, fun h => by rw [h]⟩
theorem S_beq (l l' : List Nat) : (S l == S l') = (l == l') := by
  by_cases h : l = l'
  · subst h; simp
  · have h' : S l ≠ S l' := fun e => h (S_inj.mp e)
    rw [beq_eq_false_iff_ne.mpr h, beq_eq_false_iff_ne.mpr h']
theorem S_bne (l l' : List Nat) : (S l != S l') = (l != l') := by unfold bne; rw [S_beq]
theorem S_append (l l' : List Nat) : S l ++ S l' = S (l ++ l') := by
  refine Str.ext' ?_
  rw [Str.cps_append]; simp [S]

theorem slice_idx {x : Str} {l u l' u' : Option Int} (h : strSliceIndices l u 1 x.length = strSliceIndices l' u' 1 x.length) : Txt.slice x l u = Txt.slice x l' u' := by
  unfold Txt.slice; rw [h]
theorem S_take (l : List Nat) (k : Nat) : Txt.slice (S l) none (some (k : Int)) = S (l.take k) := by
  have key : ∀ j : Nat, j ≤ l.length → Txt.slice (S l) none (some (j : Int)) = S (l.take j) := fun j hj => by
    show StrLaws.sliceText (S l) none (some (j : Int)) = _
    rw [StrLaws.sliceText_to (by rw [S_cps]; lia), S_cps]
    simp [S]
  by_cases h : k ≤ l.length
  · exact key k h
  · rw [slice_idx (l' := none) (u' := some ((l.length : Nat) : Int)), key _ (Nat.le_refl _), List.take_of_length_le (by lia), List.take_of_length_le (by lia)]
    rw [S_len]
    unfold strSliceIndices
    simp only [show (1 : Int) > 0 from by decide, if_true]
    congr 1
    rw [if_neg (by lia), if_neg (by lia)]; lia
theorem S_drop (l : List Nat) (k : Nat) : Txt.slice (S l) (some (k : Int)) none = S (l.drop k) := by
  have key : ∀ j : Nat, j ≤ l.length → Txt.slice (S l) (some (j : Int)) none = S (l.drop j) := fun j hj => by
    show StrLaws.sliceText (S l) (some (j : Int)) none = _
    rw [StrLaws.sliceText_from (by rw [S_cps]; lia), S_cps]
    simp only [S, Int.toNat_natCast]
    congr 2
    rw [List.take_of_length_le (by rw [List.length_drop]; lia)]
  by_cases h : k ≤ l.length
  · exact key k h
  · rw [slice_idx (l' := some ((l.length : Nat) : Int)) (u' := none), key _ (Nat.le_refl _), List.drop_of_length_le (by lia), List.drop_of_length_le (by lia)]
    rw [S_len]
    unfold strSliceIndices
    simp only [show (1 : Int) > 0 from by decide, if_true]
    congr 1
    rw [if_neg (by lia), if_neg (by lia)]; lia
theorem S_last (l : List Nat) (k : Nat) (hk : 1 ≤ k) : Txt.slice (S l) (some (-(k : Int))) none = S (l.drop (l.length - k)) := by
  rw [← S_drop]
  refine slice_idx ?_
  rw [S_len]
  unfold strSliceIndices
  simp only [show (1 : Int) > 0 from by decide, if_true]
  congr 1
  rw [if_pos (by lia), if_neg (by lia)]; lia

theorem letTemp_str {value : Expr} {x : Str} {t : Tok} (r : Value) : letTemporaryGo value (.str x t) r = Pure.pure () := by cases value <;> rfl

section
variable {α β : Type} {C : Cx} {m : Map} {R : Led} {P : Value → Map → Led → Prop}

theorem ev_addI {a b : Int} {t u : Tok} (h : ∀ t, P (.int (a + b) t) m R) : Ev C m R (binaryOp .Add (.int a t) (.int b u)) P := fun _ X => PyProof.Rows.add_int ⟨m, R, X.toks, h _⟩
theorem ev_subI {a b : Int} {t u : Tok} (h : ∀ t, P (.int (a - b) t) m R) : Ev C m R (binaryOp .Sub (.int a t) (.int b u)) P := fun _ X => PyProof.Rows.sub_int ⟨m, R, X.toks, h _⟩
theorem mulOk {a b : Int} (h : a.natAbs < 2 ^ 63 ∨ b.natAbs < 2 ^ 63) : IntMulOk a b := by
  have bits : ∀ c : Int, c.natAbs < 2 ^ 63 → ¬ (Builtin.Int.intBits c > shortFactorBits) := fun c hc => by
    unfold Builtin.Int.intBits shortFactorBits
    split
    · lia
    · rename_i hz
      have hz' : c.natAbs ≠ 0 := by simpa using hz
      have := (Nat.log2_lt hz').mpr hc
      lia
  unfold IntMulOk
  rcases h with h | h
  · have := bits a h
    simp [this]
  · have := bits b h
    simp [this]
theorem ev_mulI {a b : Int} {t u : Tok} (hm : a.natAbs < 2 ^ 63 ∨ b.natAbs < 2 ^ 63) (h : ∀ t, P (.int (a * b) t) m R) : Ev C m R (binaryOp .Mult (.int a t) (.int b u)) P :=
  fun _ X => PyProof.Rows.mul_int ⟨m, R, X.toks, h _⟩ (mulOk hm)
theorem ev_fdiv {a b : Int} {t u : Tok} (hb : b ≠ 0) (hs : b.natAbs < 2 ^ 63) (h : ∀ t, P (.int (a.fdiv b) t) m R) : Ev C m R (binaryOp .FloorDiv (.int a t) (.int b u)) P := fun _ X =>
  PyProof.Rows.floordiv_int hb ⟨m, R, X.toks, h _⟩ (.inl (PyProof.noPylong_of_log2 (by
    have := (Nat.log2_lt (by lia : b.natAbs ≠ 0)).mpr hs
    lia)))
theorem ev_fmod {a b : Int} {t u : Tok} (hb : b ≠ 0) (h : ∀ t, P (.int (a.fmod b) t) m R) : Ev C m R (binaryOp .Mod (.int a t) (.int b u)) P := fun _ X => PyProof.Rows.mod_int hb ⟨m, R, X.toks, h _⟩
theorem ev_pow {a n : Int} {t u : Tok} (h0 : 0 ≤ n) (h1 : n ≤ 1000000) (h2 : a.natAbs < 2 ^ 64) (h : ∀ t, P (.int (a ^ n.toNat) t) m R) : Ev C m R (binaryOp .Pow (.int a t) (.int n u)) P :=
  fun _ X => pow_int_small h0 h1 h2 ⟨m, R, X.toks, h _⟩
theorem ev_neg {a : Int} {t : Tok} (h : ∀ t, P (.int (-a) t) m R) : Ev C m R (unaryOp .USub (.int a t)) P := fun _ X => PyProof.Rows.neg_int ⟨m, R, X.toks, h _⟩
theorem ev_not {v : Value} (h : Ev C m R (truthy v) (fun b m1 R1 => P (.bool (!b)) m1 R1)) : Ev C m R (unaryOp .Not v) P := fun s X => not_of (h s X)
theorem ev_iadd {a b : Int} {t u : Tok} (h : ∀ t, P (.int (a + b) t) m R) : Ev C m R (inplaceOp .Add (.int a t) (.int b u)) P := fun _ X => iadd_int ⟨m, R, X.toks, h _⟩
theorem ev_isub {a b : Int} {t u : Tok} (h : ∀ t, P (.int (a - b) t) m R) : Ev C m R (inplaceOp .Sub (.int a t) (.int b u)) P := fun _ X => isub_int ⟨m, R, X.toks, h _⟩
theorem ev_imul {a b : Int} {t u : Tok} (hm : a.natAbs < 2 ^ 63 ∨ b.natAbs < 2 ^ 63) (h : ∀ t, P (.int (a * b) t) m R) : Ev C m R (inplaceOp .Mult (.int a t) (.int b u)) P :=
  fun _ X => imul_int ⟨m, R, X.toks, h _⟩ (mulOk hm)
theorem ev_ltI {a b : Int} {t u : Tok} (h : P (.bool (decide (a < b))) m R) : Ev C m R (compareOp .Lt (.int a t) (.int b u)) P := fun _ X => PyProof.Rows.lt_int ⟨m, R, X, h⟩
theorem ev_leI {a b : Int} {t u : Tok} (h : P (.bool (decide (a ≤ b))) m R) : Ev C m R (compareOp .LtE (.int a t) (.int b u)) P := fun _ X => PyProof.Rows.le_int ⟨m, R, X, h⟩
theorem ev_gtI {a b : Int} {t u : Tok} (h : P (.bool (decide (b < a))) m R) : Ev C m R (compareOp .Gt (.int a t) (.int b u)) P := fun _ X => PyProof.Rows.gt_int ⟨m, R, X, h⟩
theorem ev_geI {a b : Int} {t u : Tok} (h : P (.bool (decide (b ≤ a))) m R) : Ev C m R (compareOp .GtE (.int a t) (.int b u)) P := fun _ X => PyProof.Rows.ge_int ⟨m, R, X, h⟩
theorem ev_eqI {a b : Int} {t u : Tok} (h : P (.bool (a == b)) m R) : Ev C m R (compareOp .Eq (.int a t) (.int b u)) P := fun _ X => PyProof.Rows.eq_int ⟨m, R, X, h⟩
theorem ev_neI {a b : Int} {t u : Tok} (h : P (.bool (a != b)) m R) : Ev C m R (compareOp .NotEq (.int a t) (.int b u)) P := fun _ X => PyProof.Rows.ne_int ⟨m, R, X, h⟩
theorem ev_isB {a b : Bool} (h : P (.bool (a == b)) m R) : Ev C m R (compareOp .Is (.bool a) (.bool b)) P := fun _ X => PyProof.Rows.is_bool ⟨m, R, X, h⟩
theorem ev_isnotB {a b : Bool} (h : P (.bool (a != b)) m R) : Ev C m R (compareOp .IsNot (.bool a) (.bool b)) P := fun _ X => isnot_bool ⟨m, R, X, h⟩

theorem ev_eqS {a b : List Nat} {t u : Tok} (h : P (.bool (a == b)) m R) : Ev C m R (compareOp .Eq (.str (S a) t) (.str (S b) u)) P := fun _ X => PyProof.Rows.eq_str ⟨m, R, X, by rw [S_beq]; exact h⟩
theorem ev_neS {a b : List Nat} {t u : Tok} (h : P (.bool (a != b)) m R) : Ev C m R (compareOp .NotEq (.str (S a) t) (.str (S b) u)) P := fun _ X => PyProof.Rows.ne_str ⟨m, R, X, by rw [S_bne]; exact h⟩
theorem ev_leS {a b : List Nat} {t u : Tok} (h : P (.bool (!decide (b < a))) m R) : Ev C m R (compareOp .LtE (.str (S a) t) (.str (S b) u)) P := fun _ X =>
  _root_.PySem.P.le_str ⟨m, R, X, by rw [S_cps, S_cps]; exact h⟩
theorem ev_addS {a b : List Nat} {t u : Tok} (hl : a.length + b.length ≤ 1000) (h : ∀ t, P (.str (S (a ++ b)) t) m R) : Ev C m R (binaryOp .Add (.str (S a) t) (.str (S b) u)) P := fun _ X =>
  SBL.add (fun t' k _ => ⟨m, R, X.toks, by rw [S_append]; exact h _⟩) (by rw [S_len, S_len, sizeLine_eq]; lia)
theorem ev_lenS {a : List Nat} {t : Tok} (hl : a.length ≤ 1000) (h : ∀ t, P (.int a.length t) m R) : Ev C m R (call (.builtin "len") [.str (S a) t]) P := fun _ X =>
  SBL.len (by rw [S_len]; lia) ⟨m, R, X.toks, by rw [S_len]; exact h _⟩
theorem ev_lenL {a : Addr} {vs : List Value} (hh : Has C R a (.list vs)) (hl : vs.length ≤ 1000) (h : ∀ t, P (.int vs.length t) m R) : Ev C m R (call (.builtin "len") [.ref a]) P := fun _ X =>
  call_len_list (X.has hh).isList (by simp; lia) ⟨m, R, X.toks, by simpa using h _⟩

/-- parts of a text -/
theorem ev_partEnd {value lo : Expr} {p pos : Pos}
    (h : Ev C m R (eval value C.env) (fun v m1 R1 => ∃ x t, v = .str (S x) t ∧ x.length ≤ 1000 ∧ Ev C m1 R1 (eval lo C.env) (fun w m2 R2 => ∃ i u, w = .int i u ∧ ∀ t, P (.str (Txt.slice (S x) (some i) none) t) m2 R2))) :
    Ev C m R (eval (.Subscript value (.Slice (some lo) none none p) pos) C.env) P := by
  intro s X
  refine Subscript_ (wpAny_mono (h s X) ?_ fun _ _ x => x)
  rintro v s0 ⟨m1, R1, Y0, x, t, rfl, hx, h1⟩
  refine wpAny_Slice (wpAny_mono (h1 s0 Y0) ?_ fun _ _ x => x)
  rintro w s1 ⟨m2, R2, Y, i, u, rfl, h2⟩
  refine wpAny_pure (wpAny_pure ?_)
  have hs : subscripted (.Slice (some lo) none none p) false (.str (S x) t) (.ref s1.heap.objs.size) = operate [.ref s1.heap.objs.size, .str (S x) t] (getItem (.str (S x) t) (.ref s1.heap.objs.size)) := rfl
  refine tail_of_ItemOn (SBH.sliceItem_sn (x := S x) (t := t) (P := fun h => s1.heap.StaysIn h) (s := s1) (fun h ob k b o e => Heap.get?_push_of_some _ (k b o e)) (fun _ _ e => e) (fun h' t' k st => ?_) (by rw [S_len, sizeLine_eq]; lia)) hs letTemp_str
  exact ⟨m2, R2, Y.stay st, h2 t'⟩
theorem ev_partTo {value hi : Expr} {p pos : Pos}
    (h : Ev C m R (eval value C.env) (fun v m1 R1 => ∃ x t, v = .str (S x) t ∧ x.length ≤ 1000 ∧ Ev C m1 R1 (eval hi C.env) (fun w m2 R2 => ∃ i u, w = .int i u ∧ ∀ t, P (.str (Txt.slice (S x) none (some i)) t) m2 R2))) :
    Ev C m R (eval (.Subscript value (.Slice none (some hi) none p) pos) C.env) P := by
  intro s X
  refine Subscript_ (wpAny_mono (h s X) ?_ fun _ _ x => x)
  rintro v s0 ⟨m1, R1, Y0, x, t, rfl, hx, h1⟩
  refine wpAny_Slice (wpAny_pure (wpAny_mono (h1 s0 Y0) ?_ fun _ _ x => x))
  rintro w s1 ⟨m2, R2, Y, i, u, rfl, h2⟩
  refine wpAny_pure ?_
  have hs : subscripted (.Slice none (some hi) none p) false (.str (S x) t) (.ref s1.heap.objs.size) = operate [.ref s1.heap.objs.size, .str (S x) t] (getItem (.str (S x) t) (.ref s1.heap.objs.size)) := rfl
  refine tail_of_ItemOn (SBH.sliceItem_ns (x := S x) (t := t) (P := fun h => s1.heap.StaysIn h) (s := s1) (fun h ob k b o e => Heap.get?_push_of_some _ (k b o e)) (fun _ _ e => e) (fun h' t' k st => ?_) (by rw [S_len, sizeLine_eq]; lia)) hs letTemp_str
  exact ⟨m2, R2, Y.stay st, h2 t'⟩
end
end
section
open PySem PySem.W PySem.Calls PyProof.Rows PySem.Builtin
set_option maxRecDepth 100000
noncomputable abbrev Cx.hide (C : Cx) (N : List (Addr × Obj)) : Cx := { C with H := N ++ C.H }

section
variable {C : Cx} {m : Map} {R : Led} {s : Shared}

theorem At.unhide {N : List (Addr × Obj)} (x : At (C.hide N) m R s) : At C m R s := by
  have hs : (C.fa ++ (R.map (·.1) ++ C.H.map (·.1))).Sublist (C.fa ++ (R.map (·.1) ++ (N ++ C.H).map (·.1))) :=
    (List.Sublist.refl _).append ((List.Sublist.refl _).append ((List.sublist_append_right _ _).map _))
  exact { same := x.same, gl := x.gl, hh := x.hh, rd := x.rd, ru := x.ru, keep := x.keep, vars := x.vars, own := x.own
          hid := fun p hp => x.hid p (List.mem_append_right _ hp), live := x.live, nod := x.nod.sublist hs
          new := fun a ha => x.new a (hs.subset ha), frm := x.frm, fn := x.fn }

/-- an iterator that may be walked -/
structure LoopOk (C : Cx) (R : Led) (X : List Addr) (I : Addr) (fp wr : List Addr) (n : Nat) (Pv : Nat → Value → Prop) (St : Nat → Heap → Prop) (newA : List Addr) (s : Shared) : Prop where
  W : Walks Prg C.w C.A I fp wr n Pv St
  live : ∀ i h, St i h → ∀ b ∈ wr, ∃ o, h.get? b = some o
  here : ∀ a ∈ newA, ∃ o, s.heap.get? a = some o
  nod : newA.Nodup
  off : ∀ a ∈ newA, a ∉ C.fa ++ (R.map (·.1) ++ C.H.map (·.1)) ∧ C.g.get? a = none
  sub : ∀ b ∈ fp, b ∈ newA ∨ (∃ o, C.g.get? b = some o) ∨ b ∈ C.H.map (·.1) ∨ b ∈ X
  wr : ∀ b ∈ wr, b ∈ newA
  st : St 0 s.heap

noncomputable def Src (C : Cx) (R : Led) (X : List Addr) (v : Value) (n : Nat) (Pv : Nat → Value → Prop) : Prop :=
  ∀ (m : Map) (s : Shared), At C m R s → ∀ Q : Value → Shared → Prop, (∀ I fp wr St newA s', At C m R s' → LoopOk C R X I fp wr n Pv St newA s' → Q (.ref I) s') →
    wpAny (model Prg C.w) C.A (pyIter v) Q (fun _ _ => False) s

noncomputable def Turn (J : Map → Led → Prop) (P : Flow → Map → Led → Prop) : Flow → Map → Led → Prop
  | .next, m, R => J m R
  | .cont, m, R => J m R
  | .brk, m, R => P .next m R
  | .ret v, m, R => P (.ret v) m R

noncomputable def objAt (h : Heap) (a : Addr) : Obj := (h.get? a).getD { cls := .none }
noncomputable def hidden (h : Heap) (newA : List Addr) : List (Addr × Obj) := newA.map fun b => (b, objAt h b)
theorem hidden_fst (h : Heap) (newA : List Addr) : (hidden h newA).map (·.1) = newA := by
  unfold hidden; rw [List.map_map]; exact (List.map_congr_left (fun _ _ => rfl)).trans (List.map_id _)
theorem objAt_of {h : Heap} {a : Addr} {o : Obj} (e : h.get? a = some o) : objAt h a = o := by unfold objAt; rw [e]; rfl

/-- the state behind a step of the iterator -/
theorem At.stepped (x : At C m R s) {newA wr : List Addr} {h₁ : Heap} {tk : Nat} (hoff : ∀ a ∈ newA, a ∉ C.fa ++ (R.map (·.1) ++ C.H.map (·.1)) ∧ C.g.get? a = none) (hnd : newA.Nodup)
    (hwr : ∀ b ∈ wr, b ∈ newA) (hk : ∀ b o, b ∉ wr → s.heap.get? b = some o → h₁.get? b = some o) (hlive : ∀ b ∈ newA, ∃ o, h₁.get? b = some o) :
    At (C.hide (hidden h₁ newA)) m R { s with heap := h₁, toks := tk } := by
  have out : ∀ b ∈ C.fa ++ (R.map (·.1) ++ C.H.map (·.1)), b ∉ wr := fun b hb hw => (hoff b (hwr b hw)).1 hb
  have base : ∀ b o, C.g.get? b = some o → b ∉ wr := fun b o e hw => by rw [(hoff b (hwr b hw)).2] at e; cases e
  have fr : ∀ a, a = C.env.locals ∨ a ∈ C.env.cells.map (·.2) → a ∉ wr := fun a ha => by
    rcases x.frm a ha with h | ⟨o, h⟩
    · exact out a (List.mem_append_left _ h)
    · exact base a o h
  exact {
    same := by obtain ⟨h, t, rfl⟩ := x.same; exact ⟨_, _, rfl⟩
    gl := x.gl
    hh := x.hh
    rd := x.rd
    ru := x.ru
    keep := fun b o e => hk b o (base b o e) (x.keep b o e)
    vars := x.vars.at (fun o e => hk _ o (fr _ (.inl rfl)) e) fun c hc o e => hk c o (fr c (.inr hc)) e
    own := fun p hp => (x.own p hp).at fun o e => hk _ o (out _ (List.mem_append_right _ (List.mem_append_left _ (List.mem_map.mpr ⟨p, hp, rfl⟩)))) e
    hid := fun p hp => by
      rcases List.mem_append.mp hp with h | h
      · obtain ⟨b, hb, rfl⟩ := List.mem_map.mp h
        obtain ⟨o, ho⟩ := hlive b hb
        show h₁.get? b = some (objAt h₁ b)
        rw [objAt_of ho, ho]
      · exact hk _ _ (out _ (List.mem_append_right _ (List.mem_append_right _ (List.mem_map.mpr ⟨p, h, rfl⟩)))) (x.hid p h)
    live := fun a ha => let ⟨o, e⟩ := x.live a ha; ⟨o, hk _ _ (out a (List.mem_append_left _ ha)) e⟩
    nod := by
      show (C.fa ++ (R.map (·.1) ++ (hidden h₁ newA ++ C.H).map (·.1))).Nodup
      rw [List.map_append, hidden_fst]
      have p : (C.fa ++ (R.map (·.1) ++ (newA ++ C.H.map (·.1)))).Perm (newA ++ (C.fa ++ (R.map (·.1) ++ C.H.map (·.1)))) := by
        have p1 : (R.map (·.1) ++ (newA ++ C.H.map (·.1))).Perm (newA ++ (R.map (·.1) ++ C.H.map (·.1))) := by
          rw [← List.append_assoc, ← List.append_assoc]; exact (List.perm_append_comm).append_right _
        refine (p1.append_left C.fa).trans ?_
        rw [← List.append_assoc, ← List.append_assoc newA]; exact (List.perm_append_comm).append_right _
      rw [p.nodup_iff, List.nodup_append]
      exact ⟨hnd, x.nod, fun a ha b hb e => (hoff a ha).1 (e ▸ hb)⟩
    new := fun a ha => by
      rcases List.mem_append.mp ha with h | h
      · exact x.new a (List.mem_append_left _ h)
      · rcases List.mem_append.mp h with h | h
        · exact x.new a (List.mem_append_right _ (List.mem_append_left _ h))
        · have h' : a ∈ (hidden h₁ newA ++ C.H).map (·.1) := h
          rw [List.map_append, hidden_fst] at h'
          rcases List.mem_append.mp h' with h' | h'
          · exact (hoff a h').2
          · exact x.new a (List.mem_append_right _ (List.mem_append_right _ h'))
    frm := x.frm
    fn := x.fn }

theorem Fw.hide (W : Fw C) (N : List (Addr × Obj)) : Fw (C.hide N) := ⟨W.loc, W.cel, W.dis⟩

theorem for_core {x : Str} {px : Pos} {body : List Stmt} {I : Addr} {fp wr : List Addr} {n : Nat} {Pv : Nat → Value → Prop} {St : Nat → Heap → Prop} {newA : List Addr} {P : Flow → Map → Led → Prop}
    (W : Fw C) (hk : Var C.env x) (X : At C m R s) (O : LoopOk C R [] I fp wr n Pv St newA s)
    (J : Nat → Map → Led → Prop) (h0 : J 0 m R)
    (step : ∀ i v m₁ R₁ N, i < n → Pv i v → J i m₁ R₁ → Ev (C.hide N) (sv m₁ x v) R₁ (execs body C.env) (Turn (J (i + 1)) P))
    (done : ∀ m₁ R₁, J n m₁ R₁ → P .next m₁ R₁) :
    codeAny (model Prg C.w) C.A (.forLoop (.Name x px) (.ref I) body [] C.env) (fun r s' => match r with | .ok f => ∃ m' R', At C m' R' s' ∧ P f m' R' | .error _ => False) s := by
  refine codeAny_forLoop
    (fun k s' => ∃ i m' R' N, N.map (·.1) = newA ∧ At (C.hide N) m' R' s' ∧ St i s'.heap ∧ J i m' R' ∧ i ≤ n ∧ k = n + 1 - i) ?_ (n + 1)
    ⟨0, m, R, hidden s.heap newA, hidden_fst _ _, ?_, O.st, h0, Nat.zero_le _, rfl⟩
  · rintro k s' ⟨i, m', R', N, hN, Y, hst, hj, hi, rfl⟩
    have Y₀ := Y.unhide
    have hoff : ∀ a ∈ newA, a ∉ C.fa ++ (R'.map (·.1) ++ C.H.map (·.1)) ∧ C.g.get? a = none := fun a ha => by
      refine ⟨fun hm => ?_, (O.off a ha).2⟩
      have hn := Y.nod
      have haN : a ∈ (N ++ C.H).map (·.1) := by rw [List.map_append, hN]; exact List.mem_append_left _ ha
      rw [List.nodup_append] at hn
      have hn2 := List.nodup_append.mp hn.2.1
      rcases List.mem_append.mp hm with h | h
      · exact hn.2.2 a h a (List.mem_append_right _ haN) rfl
      · rcases List.mem_append.mp h with h | h
        · exact hn2.2.2 a h a haN rfl
        · exact (O.off a ha).1 (List.mem_append_right _ (List.mem_append_right _ h))
    have hall : ∀ b ∈ newA, ∃ o, s'.heap.get? b = some o := fun b hb => by
      obtain ⟨p, hp, rfl⟩ := List.mem_map.mp (hN ▸ hb)
      exact ⟨_, Y.hid p (List.mem_append_left _ hp)⟩
    by_cases hlt : i < n
    · refine O.W.item i _ _ _ hlt hst fun v h₁ tk₁ hP hst₁ hk₁ => ?_
      have hlive : ∀ b ∈ newA, ∃ o, h₁.get? b = some o := fun b hb => by
        by_cases hw : b ∈ wr
        · exact O.live _ _ hst₁ b hw
        · obtain ⟨o, ho⟩ := hall b hb; exact ⟨o, hk₁ b o hw ho⟩
      have Y₁ := Y₀.stepped (tk := tk₁) hoff O.nod O.wr hk₁ hlive
      refine wpAny_assign_Name (wpAny_mono (ev_store (C := C.hide (hidden h₁ newA)) (P := fun _ m2 R2 => m2 = sv m' x v ∧ R2 = R') (W.hide _) hk ⟨rfl, rfl⟩ _ Y₁) ?_ fun _ _ f => f.elim)
      rintro _ s₂ ⟨m2, R2, Y₂, rfl, rfl⟩
      refine wpAny_mono (step i v m' R2 (hidden h₁ newA) hlt hP hj s₂ Y₂) ?_ fun _ _ f => f.elim
      rintro f s₃ ⟨m3, R3, Y₃, hT⟩
      have hst₃ : St (i + 1) s₃.heap := by
        refine O.W.frame _ _ _ hst₁ fun b hb o e => ?_
        rcases O.sub b hb with h | ⟨o', h⟩ | h | h
        · have := Y₃.hid (b, objAt h₁ b) (List.mem_append_left _ (List.mem_map.mpr ⟨b, h, rfl⟩))
          rw [objAt_of e] at this; exact this
        · have e1 := Y₁.keep b o' h
          have e2 : o' = o := Option.some.inj (e1.symm.trans e)
          exact e2 ▸ Y₃.keep b o' h
        · obtain ⟨p, hp, rfl⟩ := List.mem_map.mp h
          have e1 := Y₁.hid p (List.mem_append_right _ hp)
          have e2 : p.2 = o := Option.some.inj (e1.symm.trans e)
          exact e2 ▸ Y₃.hid p (List.mem_append_right _ hp)
        · cases h
      cases f with
      | next => exact ⟨n + 1 - (i + 1), by lia, i + 1, m3, R3, _, hidden_fst _ _, Y₃, hst₃, hT, hlt, rfl⟩
      | cont => exact ⟨n + 1 - (i + 1), by lia, i + 1, m3, R3, _, hidden_fst _ _, Y₃, hst₃, hT, hlt, rfl⟩
      | brk => exact ⟨m3, R3, Y₃.unhide, hT⟩
      | ret v => exact ⟨m3, R3, Y₃.unhide, hT⟩
    · have hin : i = n := by lia
      subst hin
      refine O.W.done _ _ _ hst fun h₁ tk₁ hk₁ => wpAny_execs_nil ?_
      have base : ∀ b o, C.g.get? b = some o → b ∉ wr := fun b o e hw => by rw [(hoff b (O.wr b hw)).2] at e; cases e
      have out : ∀ b ∈ C.fa ++ (R'.map (·.1) ++ C.H.map (·.1)), b ∉ wr := fun b hb hw => (hoff b (O.wr b hw)).1 hb
      have fr : ∀ a, a = C.env.locals ∨ a ∈ C.env.cells.map (·.2) → a ∉ wr := fun a ha => by
        rcases Y₀.frm a ha with h | ⟨o, h⟩
        · exact out a (List.mem_append_left _ h)
        · exact base a o h
      refine ⟨m', R', ?_, done m' R' hj⟩
      exact {
        same := by obtain ⟨h, t, rfl⟩ := Y₀.same; exact ⟨_, _, rfl⟩
        gl := Y₀.gl
        hh := Y₀.hh
        rd := Y₀.rd
        ru := Y₀.ru
        keep := fun b o e => hk₁ b o (base b o e) (Y₀.keep b o e)
        vars := Y₀.vars.at (fun o e => hk₁ _ o (fr _ (.inl rfl)) e) fun c hc o e => hk₁ c o (fr c (.inr hc)) e
        own := fun p hp => (Y₀.own p hp).at fun o e => hk₁ _ o (out _ (List.mem_append_right _ (List.mem_append_left _ (List.mem_map.mpr ⟨p, hp, rfl⟩)))) e
        hid := fun p hp => hk₁ _ _ (out _ (List.mem_append_right _ (List.mem_append_right _ (List.mem_map.mpr ⟨p, hp, rfl⟩)))) (Y₀.hid p hp)
        live := fun a ha => let ⟨o, e⟩ := Y₀.live a ha; ⟨o, hk₁ _ _ (out a (List.mem_append_left _ ha)) e⟩
        nod := Y₀.nod
        new := Y₀.new
        frm := Y₀.frm
        fn := Y₀.fn }
  · exact X.stepped (h₁ := s.heap) (tk := s.toks) O.off O.nod O.wr (fun _ _ _ e => e) O.here
end
end
section
open PySem PySem.W PySem.Calls PyProof.Rows PySem.Builtin
set_option maxRecDepth 100000
section
variable {C : Cx} {m : Map} {R : Led} {s : Shared}

theorem push_new (h : Heap) : h.get? h.objs.size = none := by
  cases e : h.get? h.objs.size with
  | none => rfl
  | some o => exact absurd (Heap.lt_size e) (Nat.lt_irrefl _)
theorem stays_push (h : Heap) (o : Obj) : h.StaysIn (h.push o) := fun _ _ e => Heap.get?_push_of_some o e
theorem At.push (X : At C m R s) {o : Obj} {c : Cell} {tk : Nat} (hi : Is C.w s.heap.objs.size o c) (hf : o.isFreed = false) : At C m ((s.heap.objs.size, c) :: R) { s with heap := s.heap.push o, toks := tk } :=
  X.add (R' := [(s.heap.objs.size, c)]) (stays_push _ _) ⟨fun p hp => by
    rw [List.mem_singleton.mp hp]; exact ⟨⟨o, Heap.get?_push_size _ hf, hi⟩, push_new _⟩, List.nodup_cons.mpr ⟨List.not_mem_nil, List.nodup_nil⟩⟩
theorem At.fresh (X : At C m R s) : (∀ a ∈ C.fa ++ (R.map (·.1) ++ C.H.map (·.1)), a ≠ s.heap.objs.size) ∧ C.g.get? s.heap.objs.size = none := by
  refine ⟨fun a ha e => ?_, ?_⟩
  · obtain ⟨o, ho⟩ := X.alive a ha
    exact absurd (Heap.lt_size ho) (by rw [e]; exact Nat.lt_irrefl _)
  · cases e : C.g.get? s.heap.objs.size with
    | none => rfl
    | some o => exact absurd (Heap.lt_size (X.keep _ _ e)) (Nat.lt_irrefl _)

/-- a new object's address, and what it is not -/
noncomputable def New (C : Cx) (R : Led) (a : Addr) : Prop := (∀ p ∈ R, p.1 ≠ a) ∧ C.g.get? a = none
theorem At.isNew (X : At C m R s) : New C R s.heap.objs.size := ⟨fun p hp => X.fresh.1 _ (List.mem_append_right _ (List.mem_append_left _ (List.mem_map.mpr ⟨p, hp, rfl⟩))), X.fresh.2⟩

theorem ev_for {x : Str} {px pos : Pos} {iter : Expr} {body : List Stmt} {P : Flow → Map → Led → Prop} (W : Fw C) (hk : Var C.env x)
    (h : Ev C m R (eval iter C.env) (fun v m1 R1 => ∃ n Pv, Src C R1 [] v n Pv ∧ ∃ J : Nat → Map → Led → Prop, J 0 m1 R1 ∧
      (∀ i v m₁ R₁ N, i < n → Pv i v → J i m₁ R₁ → Ev (C.hide N) (sv m₁ x v) R₁ (execs body C.env) (Turn (J (i + 1)) P)) ∧ ∀ m₁ R₁, J n m₁ R₁ → P .next m₁ R₁))
    (hs : ∀ x, foldedSetIterable iter C.env x = Pure.pure x := by intro _; rfl) : Ev C m R (exec (.For (.Name x px) iter body [] pos) C.env) P := by
  intro s X
  refine wpAny_For (wpAny_mono (h s X) ?_ fun _ _ f => f.elim) hs
  rintro v s1 ⟨m1, R1, Y, n, Pv, hsrc, J, h0, step, done⟩
  refine hsrc m1 s1 Y _ fun I fp wr St newA s2 Z O => ?_
  refine codeAny_mono (for_core W hk Z O J h0 step done) fun r s' hr => ?_
  cases r with
  | ok f => exact hr
  | error e => exact hr.elim

theorem ev_while {test : Expr} {body : List Stmt} {pos : Pos} {P : Flow → Map → Led → Prop} (J : Nat → Map → Led → Prop) (n : Nat) (h0 : J n m R)
    (turn : ∀ n m₁ R₁, J n m₁ R₁ → Ev C m₁ R₁ (isTrue test C.env (eval test C.env)) (fun b m2 R2 =>
      (b = true → Ev C m2 R2 (execs body C.env) (Turn (fun m3 R3 => ∃ k, k < n ∧ J k m3 R3) P)) ∧ (b = false → P .next m2 R2))) : Ev C m R (exec (.While test body [] pos) C.env) P := by
  intro s X
  refine wpAny_While (codeAny_mono (codeAny_whileLoop (R := fun r s' => match r with | .ok f => ∃ m' R', At C m' R' s' ∧ P f m' R' | .error _ => False)
    (fun k s' => ∃ m' R', At C m' R' s' ∧ J k m' R') ?_ n ⟨m, R, X, h0⟩) fun r s' hr => ?_)
  · rintro k s' ⟨m', R', Y, hj⟩
    refine wpAny_mono (turn k m' R' hj s' Y) ?_ fun _ _ f => f.elim
    rintro b s2 ⟨m2, R2, Z, hb⟩
    cases b with
    | true =>
      refine wpAny_mono (hb.1 rfl s2 Z) ?_ fun _ _ f => f.elim
      rintro f s3 ⟨m3, R3, U, hT⟩
      cases f with
      | next => obtain ⟨j, hj, hJ⟩ := hT; exact ⟨j, hj, m3, R3, U, hJ⟩
      | cont => obtain ⟨j, hj, hJ⟩ := hT; exact ⟨j, hj, m3, R3, U, hJ⟩
      | brk => exact ⟨m3, R3, U, hT⟩
      | ret v => exact ⟨m3, R3, U, hT⟩
    | false =>
      exact wpAny_execs_nil ⟨m2, R2, Z, hb.2 rfl⟩
  · cases r with
    | ok f => exact hr
    | error e => exact hr.elim

noncomputable def rng (a b : Int) (t u v : Tok) : Obj := { cls := .type "range", data := .fields #[.int a t, .int b u, .int 1 v] }
theorem ev_range1 {b : Int} {u : Tok} {P : Value → Map → Led → Prop} (h : ∀ a t v, New C R a → P (.ref a) m ((a, .raw (rng 0 b t u v)) :: R)) : Ev C m R (call (.type "range") [.int b u]) P := fun _ X =>
  call_range_1 ⟨m, _, X.push (c := .raw _) rfl rfl, h _ _ _ X.isNew⟩
theorem ev_range2 {a b : Int} {t u : Tok} {P : Value → Map → Led → Prop} (h : ∀ l v, New C R l → P (.ref l) m ((l, .raw (rng a b t u v)) :: R)) : Ev C m R (call (.type "range") [.int a t, .int b u]) P := fun _ X =>
  call_range_2 ⟨m, _, X.push (c := .raw _) rfl rfl, h _ _ X.isNew⟩

theorem loopOk_new {X : List Addr} {o : Obj} {fp : List Addr} {n : Nat} {Pv : Nat → Value → Prop} {St : Nat → Heap → Prop} {tk : Nat} (Y : At C m R s) (hf : o.isFreed = false)
    (W : Walks Prg C.w C.A s.heap.objs.size fp [s.heap.objs.size] n Pv St) (live : ∀ i h, St i h → ∃ o, h.get? s.heap.objs.size = some o)
    (sub : ∀ b ∈ fp, b = s.heap.objs.size ∨ (∃ o, C.g.get? b = some o) ∨ b ∈ C.H.map (·.1) ∨ b ∈ X) (st : St 0 (s.heap.push o)) :
    LoopOk C R X s.heap.objs.size fp [s.heap.objs.size] n Pv St [s.heap.objs.size] { s with heap := s.heap.push o, toks := tk } where
  W := W
  live := fun i h hs b hb => by rw [List.mem_singleton.mp hb]; exact live i h hs
  here := fun a ha => by rw [List.mem_singleton.mp ha]; exact ⟨_, Heap.get?_push_size _ hf⟩
  nod := List.nodup_cons.mpr ⟨List.not_mem_nil, List.nodup_nil⟩
  off := fun a ha => by rw [List.mem_singleton.mp ha]; exact ⟨fun h => Y.fresh.1 _ h rfl, Y.fresh.2⟩
  sub := fun b hb => by
    rcases sub b hb with h | h | h | h
    · exact .inl (by rw [h]; exact List.mem_singleton.mpr rfl)
    · exact .inr (.inl h)
    · exact .inr (.inr (.inl h))
    · exact .inr (.inr (.inr h))
  wr := fun b hb => hb
  st := st

theorem src_range {X : List Addr} {l : Addr} {a b : Int} {t u v : Tok} (hh : Has C R l (.raw (rng a b t u v))) (ha : -(2 ^ 62) ≤ a ∧ a < 2 ^ 62) (hb : -(2 ^ 62) ≤ b ∧ b < 2 ^ 62) :
    Src C R X (.ref l) (b - a).toNat (fun i w => ∃ t, w = .int (a + (i : Int)) t) := by
  intro m s Y Q hQ
  obtain ⟨o, ho, e⟩ := Y.has hh
  have e' : o = rng a b t u v := e
  subst e'
  refine wpAny_pyIter_range ho (small_one ha.1 ha.2 hb.1 hb.2) ?_
  have hsz : Builtin.Range.rangeSize a b 1 = (((b - a).toNat : Nat) : Int) := by rw [rangeSize_one]; split <;> lia
  have Wk := Walks.range (prog := Prg) (w := C.w) Y.hh s.heap.objs.size a 1 (b - a).toNat
  have W' : Walks Prg C.w C.A s.heap.objs.size [s.heap.objs.size] [s.heap.objs.size] (b - a).toNat (fun i w => ∃ t, w = .int (a + (i : Int)) t)
      (fun i h => IsRangeIter h s.heap.objs.size (a + (i : Nat) * 1) (((b - a).toNat : Int) - (i : Nat)) 1) := Wk.weaken fun i v ⟨t, e⟩ => ⟨t, by rw [e, Int.mul_one]⟩
  refine hQ _ _ _ _ _ _ (Y.stay (tk := s.toks) (stays_push _ _)) (loopOk_new (X := X) (tk := s.toks) Y rfl W' (fun i h hs => ⟨_, hs⟩) (fun b hb => .inl (List.mem_singleton.mp hb)) ?_)
  have e0 : a + ((0 : Nat) : Int) * 1 = a := by simp
  have e1 : (((b - a).toNat : Nat) : Int) - ((0 : Nat) : Int) = (((b - a).toNat : Nat) : Int) := by simp
  show IsRangeIter _ _ (a + ((0 : Nat) : Int) * 1) (((b - a).toNat : Int) - ((0 : Nat) : Int)) 1
  rw [e0, e1, hsz]
  exact Heap.get?_push_size _ rfl

theorem has_place {a : Addr} {c : Cell} {X : List Addr} (h : Has C R a c) (hX : (∀ p ∈ R, p.1 = a → a ∈ X)) : (∃ o, C.g.get? a = some o) ∨ a ∈ C.H.map (·.1) ∨ a ∈ X := by
  obtain ⟨c', _, h⟩ := h
  rcases h with h | h | ⟨o, h, _⟩
  · exact .inr (.inr (hX _ h rfl))
  · exact .inl h.live
  · exact .inr (.inl (List.mem_map.mpr ⟨_, h, rfl⟩))

theorem src_list {X : List Addr} {l : Addr} {vs : List Value} (hh : Has C R l (.list vs)) (hX : ∀ p ∈ R, p.1 = l → l ∈ X) :
    Src C R X (.ref l) vs.length (fun i w => vs[i]? = some w) := by
  intro m s Y Q hQ
  have hl := (Y.has hh).isList
  refine wpAny_pyIter_list hl ?_
  have hne : l ≠ s.heap.objs.size := Nat.ne_of_lt (Y.has hh).lt
  have W := Walks.list (prog := Prg) (w := C.w) Y.hh s.heap.objs.size l hne vs.toArray
  have e : vs.toArray.size = vs.length := by simp
  rw [e] at W
  have W' : Walks Prg C.w C.A s.heap.objs.size [s.heap.objs.size, l] [s.heap.objs.size] vs.length (fun i w => vs[i]? = some w)
      (fun i h => h.IsListIter s.heap.objs.size l i ∧ h.IsList l vs.toArray) := W.weaken fun i v hv => by simpa using hv
  refine hQ _ _ _ _ _ _ (Y.stay (tk := s.toks) (stays_push _ _)) (loopOk_new (X := X) (tk := s.toks) Y rfl W' (fun i h hs => let ⟨o, ho, _⟩ := hs.1; ⟨o, ho⟩) (fun b hb => ?_) ?_)
  · rcases List.mem_cons.mp hb with h | h
    · exact .inl h
    · rw [List.mem_singleton.mp h]; exact .inr (has_place hh hX)
  · exact ⟨⟨_, Heap.get?_push_size _ rfl, rfl, rfl⟩, hl.at fun o e => Heap.get?_push_of_some _ e⟩

theorem src_dict {X : List Addr} {d : Addr} {kvs : List (Str × Value)} (hh : Has C R d (.dict kvs)) (hX : ∀ p ∈ R, p.1 = d → d ∈ X) :
    Src C R X (.ref d) kvs.length (fun i w => ∃ k x t, kvs[i]? = some (k, x) ∧ w = .str k t) := by
  intro m s Y Q hQ
  obtain ⟨ep, hd⟩ := (Y.has hh).dictOf.dictAt
  refine wpAny_pyIter_dict (Y.has hh).noSys hd ?_
  have hne : d ≠ s.heap.objs.size := Nat.ne_of_lt (Y.has hh).lt
  have W := Walks.dictKeys (prog := Prg) (w := C.w) (knd := strKind Prg C.w) Y.hh s.heap.objs.size d hne kvs ep
  have W' := W.weaken (P' := fun i w => ∃ k x t, kvs[i]? = some (k, x) ∧ w = .str k t) fun i v ⟨k, x, hx, hv⟩ => by
    have hv' : Value.isStrOf k v = true := hv
    cases v <;> simp [Value.isStrOf] at hv'
    rename_i y t _
    subst hv'
    exact ⟨_, x, _, hx, rfl⟩
  refine hQ _ _ _ _ _ _ (Y.stay (tk := s.toks) (stays_push _ _)) (loopOk_new (X := X) (tk := s.toks) Y rfl W' (fun i h hs => let ⟨o, ho, _⟩ := hs.1; ⟨o, ho⟩) (fun b hb => ?_) ?_)
  · rcases List.mem_cons.mp hb with h | h
    · exact .inl h
    · rw [List.mem_singleton.mp h]; exact .inr (has_place hh hX)
  · exact ⟨⟨_, Heap.get?_push_size _ rfl, rfl, rfl⟩, hd.push _⟩
end
end
section
open PySem PySem.W PySem.Calls PyProof.Rows PySem.Builtin
set_option maxRecDepth 100000
section
variable {C : Cx} {m : Map} {R : Led} {P : Value → Map → Led → Prop}

theorem At.noSys (X : At C m R s) (n : Nat) (hn : s.heap.objs.size ≤ n) : ((n : Addr) == sysModules) = false := by
  obtain ⟨o, es, ep, ho, _⟩ := X.gl.T.g
  have := Heap.lt_size (X.keep _ _ ho)
  have h3 : (3 : Nat) < s.heap.objs.size := this
  exact beq_eq_false_iff_ne.mpr (show (n : Nat) ≠ 1 by lia)

theorem ev_list {elts : List Expr} {pos : Pos} (h : Ev C m R (spliced (backTo pos (starEach elts C.env))) (fun vs m1 R1 => vs.length ≤ 1000 ∧ ∀ a, New C R1 a → P (.ref a) m1 ((a, .plist vs) :: R1))) :
    Ev C m R (eval (.List elts pos) C.env) P := fun s X =>
  wpAny_List (wpAny_mono (h s X) (fun vs s1 ⟨m1, R1, Y, hl, hp⟩ => ⟨by rw [sizeLine_eq]; lia, m1, _, Y.push (c := .plist vs) ⟨0, rfl⟩ rfl, hp _ Y.isNew⟩) fun _ _ x => x)
theorem ev_tuple {elts : List Expr} {k : Nat} {pos : Pos} (h : Ev C m R (spliced (backTo pos (starEach elts C.env))) (fun vs m1 R1 => vs.length ≤ 1000 ∧ ∀ a, New C R1 a → P (.ref a) m1 ((a, .tup vs) :: R1))) :
    Ev C m R (eval (.Tuple elts k pos) C.env) P := fun s X =>
  wpAny_Tuple (wpAny_mono (h s X) (fun vs s1 ⟨m1, R1, Y, hl, hp⟩ => ⟨by rw [sizeLine_eq]; lia, m1, _, Y.push (c := .tup vs) ⟨0, rfl⟩ rfl, hp _ Y.isNew⟩) fun _ _ x => x)

theorem ev_getappend {l : Addr} {vs : List Value} {pl : Sem Bool} {P : Value × List Value → Map → Led → Prop} (hh : Has C R l (.plist vs)) (h : P (.builtin "list.append", [.ref l]) m R) :
    Ev C m R (getMethod (.ref l) "append" pl) P := fun s X => by
  obtain ⟨n, ho⟩ := (X.has hh).plain
  exact getMethod_list_append ho rfl rfl ⟨m, R, X, h⟩
theorem ev_append {l : Addr} {vs : List Value} {x : Value} (hh : (l, Cell.plist vs) ∈ R) (hl : vs.length ≤ 1000) (h : P .none m (put R l (.plist (vs ++ [x])))) :
    Ev C m R (call (.builtin "list.append") [.ref l, x]) P := fun s X =>
  wpAny_list_append_plain (X.own _ hh).plain (fun h' hp hs => ⟨m, _, X.chg (tk := s.toks) (List.mem_map.mpr ⟨_, hh, rfl⟩) hs (by simpa using Holds.ofPlain (w := C.w) hp), h⟩)
    (by rw [sizeLine_eq]; simp; lia)

theorem ev_itemL {value slice : Expr} {l : Addr} {vs : List Value} {k : Int} {u : Tok} {x : Value} (hh : Has C R l (.list vs)) (h0 : 0 ≤ k) (h1 : k < 2 ^ 62) (hx : vs[k.toNat]? = some x) (h : P x m R)
    (hs : subscripted slice false (.ref l) (.int k u) = operate [.ref l, .int k u] (getItem (.ref l) (.int k u)) := by with_unfolding_all rfl) :
    Ev C m R (subscriptTail value slice (.ref l) (.int k u)) P := fun s X =>
  tail_any (X.has hh).isList.typeIs slot_list_getitem.lookup (wpAny_getItem_list (X.has hh).isList h0 (by lia) (by simpa using hx) ⟨m, R, X, h⟩) hs
theorem ev_itemLneg {value slice : Expr} {l : Addr} {vs : List Value} {k : Int} {u : Tok} {x : Value} (hh : Has C R l (.list vs)) (h0 : k < 0) (h1 : -(vs.length : Int) ≤ k) (h2 : -(2 ^ 62) ≤ k)
    (hx : vs[(k + vs.length).toNat]? = some x) (h : P x m R)
    (hs : subscripted slice false (.ref l) (.int k u) = operate [.ref l, .int k u] (getItem (.ref l) (.int k u)) := by with_unfolding_all rfl) :
    Ev C m R (subscriptTail value slice (.ref l) (.int k u)) P := fun s X =>
  tail_any (X.has hh).isList.typeIs slot_list_getitem.lookup (wpAny_getItem_list_neg (X.has hh).isList h0 (by simpa using h1) (by lia) (by simpa using hx) ⟨m, R, X, h⟩) hs
theorem ev_getL {l : Addr} {vs : List Value} {k : Int} {u : Tok} {x : Value} (hh : Has C R l (.list vs)) (h0 : 0 ≤ k) (h1 : k < 2 ^ 62) (hx : vs[k.toNat]? = some x) (h : P x m R) :
    Ev C m R (getItem (.ref l) (.int k u)) P := fun s X => wpAny_getItem_list (X.has hh).isList h0 (by lia) (by simpa using hx) ⟨m, R, X, h⟩
theorem ev_setL {l : Addr} {vs : List Value} {k : Int} {u : Tok} {x : Value} {P : Unit → Map → Led → Prop} (ho : l ∈ R.map (·.1)) (hh : Has C R l (.list vs)) (h0 : 0 ≤ k) (h1 : k < vs.length) (h2 : vs.length ≤ 1000)
    (h : P () m (put R l (.list (vs.set k.toNat x)))) : Ev C m R (setItem (.ref l) (.int k u) x) P := fun s X =>
  wpAny_setItem_list (X.has hh).isList h0 (by lia) (by simpa using h1) fun h' hl hs => by
    refine ⟨m, _, X.chg (tk := s.toks) ho hs (c := .list (vs.set k.toNat x)) ?_, h⟩
    have := Holds.ofList (w := C.w) hl
    simpa using this

theorem ev_addL {a b : Addr} {vs ws : List Value} (ha : Has C R a (.plist vs)) (hb : Has C R b (.plist ws)) (hl : vs.length + ws.length ≤ 1000) (h : ∀ l, New C R l → P (.ref l) m ((l, .plist (vs ++ ws)) :: R)) :
    Ev C m R (binaryOp .Add (.ref a) (.ref b)) P := fun s X => by
  obtain ⟨n, ho⟩ := (X.has ha).plain
  obtain ⟨n', ho'⟩ := (X.has hb).plain
  refine _root_.PySem.P.add_list ho ho' ⟨m, _, X.push (c := .plist (vs ++ ws)) ⟨0, by simp⟩ rfl, h _ X.isNew⟩ (by rw [sizeLine_eq]; simp; lia)

theorem ev_mulL {a : Addr} {v : Value} {x : Int} {u : Tok} (ha : Has C R a (.plist [v])) (h0 : 0 ≤ x) (h1 : x ≤ 1000) (h : ∀ l, New C R l → P (.ref l) m ((l, .plist (List.replicate x.toNat v)) :: R)) :
    Ev C m R (binaryOp .Mult (.ref a) (.int x u)) P := fun s X => by
  obtain ⟨n, ho⟩ := (X.has ha).plain
  have e : List.foldl (fun x1 x2 => x1 ++ x2) #[] (List.replicate (if ([v].toArray).isEmpty = true then 0 else x.toNat) [v].toArray) = (List.replicate x.toNat v).toArray := by
    have : ∀ (k : Nat) (acc : Array Value), List.foldl (fun x1 x2 => x1 ++ x2) acc (List.replicate k #[v]) = acc ++ (List.replicate k v).toArray := by
      intro k
      induction k with
      | zero => intro acc; simp
      | succ k ih =>
        intro acc
        rw [List.replicate_succ, List.foldl_cons, ih, List.replicate_succ]
        refine Array.toList_inj.mp ?_
        simp
    simpa using this x.toNat #[]
  refine wpAny_binaryOp_repeat_ref (T := "list") (U := "int") (by decide) ⟨_, ho, rfl⟩ (fun s' => typeIs_int s' x u) noFill_list_mul F.fills_int_mul F.slot_int_rmul repeat_list F.slot_int_index.lookup
    (call_meets F.slot_int_rmul (typeIs_int s x u) F.entry_int_rmul (F.args_int_rmul_2 _ _) (int___rmul___int_list x u a [v].toArray n)
      ⟨ho, rfl, ⟨_, ho, rfl⟩, call_meets F.slot_list_mul ⟨_, ho, rfl⟩ F.entry_list_mul (F.args_list_mul_2 _ _)
        (AutoListH.list___mul___list_int_3 a [v].toArray n x u (by simp [Builtin.List.listFitsIndex]; lia) (by simp; lia) (by simp [Builtin.List.listTooLong, sizeLine]; lia))
        ⟨ho, ?_⟩⟩)
  rw [e]
  exact ⟨m, _, X.push (c := .plist _) ⟨0, rfl⟩ rfl, h _ X.isNew⟩

/-- parts of a list -/
theorem ev_cutTo {value hi : Expr} {p pos : Pos}
    (h : Ev C m R (eval value C.env) (fun v m1 R1 => ∃ l vs, v = .ref l ∧ vs.length ≤ 1000 ∧ Ev C m1 R1 (eval hi C.env) (fun w m2 R2 => ∃ (i : Nat) (u : Tok), w = .int i u ∧ Has C R2 l (.list vs) ∧ ∀ a, New C R2 a → P (.ref a) m2 ((a, .plist (vs.take i)) :: R2))))
    (ht : ∀ (o r : Value), letTemporaryGo value o r = Pure.pure () := by intros; rfl) : Ev C m R (eval (.Subscript value (.Slice none (some hi) none p) pos) C.env) P := by
  intro s X
  refine wpAny_Subscript_list_slice (wpAny_mono (h s X) ?_ fun _ _ x => x) ht
  rintro v s0 ⟨m1, R1, Y0, l, vs, rfl, hl, h1⟩
  refine wpAny_pure (wpAny_mono (h1 s0 Y0) ?_ fun _ _ x => x)
  rintro w s1 ⟨m2, R2, Y, i, u, rfl, hh, h2⟩
  refine ⟨l, vs.toArray, none, some (i : Int), rfl, (Y.has hh).isList, by rw [sizeLine_eq]; simp; lia, .none, .int _ _, ?_⟩
  have e : slicePick vs.toArray none (some (i : Int)) none = (vs.take i).toArray := by rw [slicePick_upto']
  rw [e]
  have Z := Y.stay (tk := s1.toks) (stays_push s1.heap { cls := .type "slice", data := .fields #[Value.none, Value.int i u, Value.none] })
  have U := Z.push (c := .plist (vs.take i)) (tk := s1.toks) (o := { cls := .type "list", data := .seq (vs.take i).toArray }) ⟨0, rfl⟩ rfl
  have hsz : (s1.heap.push { cls := .type "slice", data := .fields #[Value.none, Value.int i u, Value.none] }).objs.size = s1.heap.objs.size + 1 := Heap.size_push ..
  dsimp only at U
  rw [hsz] at U
  exact ⟨m2, _, U, h2 _ (hsz ▸ Z.isNew)⟩
theorem ev_cutFrom {value lo : Expr} {p pos : Pos}
    (h : Ev C m R (eval value C.env) (fun v m1 R1 => ∃ l vs, v = .ref l ∧ vs.length ≤ 1000 ∧ Ev C m1 R1 (eval lo C.env) (fun w m2 R2 => ∃ (i : Nat) (u : Tok), w = .int i u ∧ Has C R2 l (.list vs) ∧ ∀ a, New C R2 a → P (.ref a) m2 ((a, .plist (vs.drop i)) :: R2))))
    (ht : ∀ (o r : Value), letTemporaryGo value o r = Pure.pure () := by intros; rfl) : Ev C m R (eval (.Subscript value (.Slice (some lo) none none p) pos) C.env) P := by
  intro s X
  refine wpAny_Subscript_list_slice (wpAny_mono (h s X) ?_ fun _ _ x => x) ht
  rintro v s0 ⟨m1, R1, Y0, l, vs, rfl, hl, h1⟩
  refine wpAny_mono (h1 s0 Y0) ?_ fun _ _ x => x
  rintro w s1 ⟨m2, R2, Y, i, u, rfl, hh, h2⟩
  refine wpAny_pure ?_
  refine ⟨l, vs.toArray, some (i : Int), none, rfl, (Y.has hh).isList, by rw [sizeLine_eq]; simp; lia, .int _ _, .none, ?_⟩
  have e : slicePick vs.toArray (some (i : Int)) none none = (vs.drop i).toArray := by rw [slicePick_from']
  rw [e]
  have Z := Y.stay (tk := s1.toks) (stays_push s1.heap { cls := .type "slice", data := .fields #[Value.int i u, Value.none, Value.none] })
  have U := Z.push (c := .plist (vs.drop i)) (tk := s1.toks) (o := { cls := .type "list", data := .seq (vs.drop i).toArray }) ⟨0, rfl⟩ rfl
  have hsz : (s1.heap.push { cls := .type "slice", data := .fields #[Value.int i u, Value.none, Value.none] }).objs.size = s1.heap.objs.size + 1 := Heap.size_push ..
  dsimp only at U
  rw [hsz] at U
  exact ⟨m2, _, U, h2 _ (hsz ▸ Z.isNew)⟩

/-- dicts with texts for keys -/
theorem ev_inD {d : Addr} {kvs : List (Str × Value)} {k : Str} {t : Tok} (hh : Has C R d (.dict kvs)) (h : P (.bool (valueAt kvs k).isSome) m R) : Ev C m R (compareOp .In (.str k t) (.ref d)) P := fun s X =>
  wpAny_in_of (strKind_is Prg C.w k t) (X.has hh).noSys (X.has hh).dictOf.mapOf ⟨m, R, X.toks, h⟩
theorem ev_notinD {d : Addr} {kvs : List (Str × Value)} {k : Str} {t : Tok} (hh : Has C R d (.dict kvs)) (h : P (.bool (!(valueAt kvs k).isSome)) m R) : Ev C m R (compareOp .NotIn (.str k t) (.ref d)) P := fun s X =>
  wpAny_notIn_of (strKind_is Prg C.w k t) (X.has hh).noSys (X.has hh).dictOf.mapOf ⟨m, R, X.toks, h⟩
theorem ev_getD {d : Addr} {kvs : List (Str × Value)} {k : Str} {t : Tok} {v : Value} (hh : Has C R d (.dict kvs)) (hv : valueAt kvs k = some v) (h : P v m R) : Ev C m R (getItem (.ref d) (.str k t)) P := fun s X =>
  wpAny_getItem_of (strKind_is Prg C.w k t) (X.has hh).dictOf.mapOf hv ⟨m, R, X.toks, h⟩
theorem ev_itemD {value slice : Expr} {d : Addr} {kvs : List (Str × Value)} {k : Str} {t : Tok} {v : Value} (hh : Has C R d (.dict kvs)) (hv : valueAt kvs k = some v) (h : P v m R)
    (hs : subscripted slice false (.ref d) (.str k t) = operate [.ref d, .str k t] (getItem (.ref d) (.str k t)) := by with_unfolding_all rfl) :
    Ev C m R (subscriptTail value slice (.ref d) (.str k t)) P := fun s X =>
  tail_any (X.has hh).dictOf.typeIs slot_dict_getitem.lookup (ev_getD hh hv h s X) hs
theorem ev_setD {d : Addr} {kvs : List (Str × Value)} {k : Str} {t : Tok} {v : Value} {P : Unit → Map → Led → Prop} (hh : (d, Cell.dict kvs) ∈ R) (hl : kvs.length ≤ 1000) (h : P () m (put R d (.dict (stored kvs k v)))) :
    Ev C m R (setItem (.ref d) (.str k t) v) P := fun s X =>
  wpAny_setItem_pairs (strKind_is Prg C.w k t) (X.own _ hh).dictOf (fun h' hd hs => by
    obtain ⟨o, ho, hi⟩ := Heap.dictOf_iff.mp hd
    exact ⟨m, _, X.chg (List.mem_map.mpr ⟨_, hh, rfl⟩) hs (c := .dict (stored kvs k v)) ⟨o, ho, hi, (X.own _ hh).noSys⟩, h⟩) (by rw [sizeLine_eq]; lia)
end
end
section
open PySem PySem.W PySem.Calls PyProof.Rows PySem.Builtin PySem.Builtin.Str
set_option maxRecDepth 100000
theorem Var.of {env e : Env} {x : Str} (h : env = e) (v : Var e x) : Var env x := h ▸ v
theorem kind_of {env e : Env} {x : Str} {k : Option NameKind} (h : env = e) (v : e.kindOf x = k) : env.kindOf x = k := h ▸ v
section
variable {C : Cx} {m : Map} {R : Led}
theorem ev_and_cons {x : Expr} {rest : List Expr} {P : Bool → Map → Led → Prop}
    (h : Ev C m R (isTrue x C.env (eval x C.env)) (fun b m1 R1 => (b = false → P false m1 R1) ∧ (b = true → Ev C m1 R1 (allTrue .And rest C.env) P))) : Ev C m R (allTrue .And (x :: rest) C.env) P := fun s X =>
  wpAny_allTrue_And_cons (wpAny_mono (h s X) (fun b s' zx => exE zx fun m1 R1 Y p => by
    cases b with
    | false => exact ⟨m1, R1, Y, p.1 rfl⟩
    | true => exact p.2 rfl s' Y) fun _ _ x => x)
theorem ev_and_nil {P : Bool → Map → Led → Prop} (h : P true m R) : Ev C m R (allTrue .And [] C.env) P := fun _ X => wpAny_allTrue_And_nil ⟨m, R, X, h⟩

theorem ev_chain2 {l r₁ r₂ : Expr} {op₁ op₂ : CmpOp} {pos : Pos} {whole : Sem Value} {P : Bool → Map → Led → Prop}
    (h : Ev C m R (eval l C.env) (fun a m1 R1 => Ev C m1 R1 (eval r₁ C.env) (fun b m2 R2 => Ev C m2 R2 (compareOp op₁ a b) (fun c m3 R3 => Ev C m3 R3 (truthy c) (fun t m4 R4 =>
      (t = false → P false m4 R4) ∧ (t = true → Ev C m4 R4 (eval r₂ C.env) (fun d m5 R5 => Ev C m5 R5 (compareOp op₂ b d) (fun e m6 R6 => Ev C m6 R6 (truthy e) P))))))))
    (hm : lastMarks [op₁, op₂] [r₁, r₂] = false := by with_unfolding_all rfl) : Ev C m R (isTrue (.Compare l [op₁, op₂] [r₁, r₂] pos) C.env whole) P := fun s X =>
  isTrue_chain (wpAny_mono (h s X) (fun a s1 zx => exE zx fun m1 R1 X1 h1 => test_link (wpAny_mono (h1 s1 X1) (fun b s2 zx => exE zx fun m2 R2 X2 h2 => wpAny_mono (h2 s2 X2) (fun c s3 zx => exE zx fun m3 R3 X3 h3 =>
    wpAny_mono (h3 s3 X3) (fun t s4 zx => exE zx fun m4 R4 X4 h4 => by
      cases t with
      | false => exact ⟨m4, R4, X4, h4.1 rfl⟩
      | true => exact test_last (wpAny_mono (h4.2 rfl s4 X4) (fun d s5 zx => exE zx fun m5 R5 X5 h5 => wpAny_mono (h5 s5 X5) (fun e s6 zx => exE zx fun m6 R6 X6 h6 => h6 s6 X6) fun _ _ x => x) fun _ _ x => x))
    fun _ _ x => x) fun _ _ x => x) fun _ _ x => x)) fun _ _ x => x) hm

theorem ev_getS {x : List Nat} {t u : Tok} {k : Int} {c : Nat} {P : Value → Map → Led → Prop} (h0 : 0 ≤ k) (h1 : k < 2 ^ 62) (hx : x[k.toNat]? = some c) (h : ∀ t, P (.str (S [c]) t) m R) :
    Ev C m R (getItem (.str (S x) t) (.int k u)) P := fun _ X =>
  PyProof.Rows.getItem_str (c := c) (by simp; lia) (by
    have hl : k.toNat < x.length := by
      rcases Nat.lt_or_ge k.toNat x.length with h | h
      · exact h
      · rw [List.getElem?_eq_none h] at hx; cases hx
    rw [seqIndex_of h0 (by rw [S_len]; lia)]
    show (S x).cps[k.toNat]? = some c
    simpa [S] using hx) ⟨m, R, X.toks, h _⟩
theorem ev_itemS {value slice : Expr} {x : List Nat} {t u : Tok} {k : Int} {c : Nat} {P : Value → Map → Led → Prop} (h0 : 0 ≤ k) (h1 : k < 2 ^ 62) (hx : x[k.toNat]? = some c) (h : ∀ t, P (.str (S [c]) t) m R)
    (hs : subscripted slice false (.str (S x) t) (.int k u) = operate [.str (S x) t, .int k u] (getItem (.str (S x) t) (.int k u)) := by with_unfolding_all rfl) :
    Ev C m R (subscriptTail value slice (.str (S x) t) (.int k u)) P := fun s X =>
  tail_any (PySem.typeIs_str _ _ _) PySem.F.slot_str_getitem.lookup (ev_getS h0 h1 hx h s X) hs
theorem ev_inS {x : List Nat} {c : Nat} {t u : Tok} {P : Value → Map → Led → Prop} (h : P (.bool (decide (c ∈ x))) m R) : Ev C m R (compareOp .In (.str (S [c]) u) (.str (S x) t)) P := fun _ X =>
  PyProof.Rows.in_str ⟨m, R, X, by
    have := StrLaws.found_one (S x) c
    rw [S_cps] at this
    show P (.bool (!(occurrences (S x) ⟨#[c]⟩ 0 (S x).length 1).isEmpty)) m R
    rw [this]; exact h⟩
end
end
set_option hygiene false in
local macro_rules | `(tactic| walk_at "vr") => `(tactic| first | exact Var.of (by assumption) (.inl rfl) | exact Var.of (by assumption) (.inr ⟨rfl, rfl⟩))
set_option hygiene false in
local macro_rules | `(tactic| walk_at "lk") => `(tactic| first | assumption | exact sv_self | (refine sv_ne (by decide) ?_; walk_at "lk") | exact rfl)
set_option hygiene false in
local macro_rules | `(tactic| walk_at "go") => `(tactic| first
  | ((with_reducible refine' ev_name ?zq1 ?zq2 ?_); (case zq1 => walk_at "vr"); (case zq2 => walk_at "lk"))
  | ((with_reducible refine' ev_global ?zq1 ?zq2 ?_); (case zq1 => exact kind_of (by assumption) rfl); (case zq2 => k_is))
  | ((with_reducible refine' ev_builtin ?zq1 ?zq2 ?zq3 ?zq4 ?_); (case zq1 => exact kind_of (by assumption) rfl); (case zq2 => k_is); (case zq3 => boot_by_name); (case zq4 => decide))
  | ((with_reducible first | refine' ev_int ?_ | refine' ev_str ?_ | refine' ev_addI ?_ | refine' ev_subI ?_ | refine' ev_neg ?_ | refine' ev_iadd ?_ | refine' ev_isub ?_); intro _)
  | ((with_reducible refine' ev_assign ?zq1 ?zq2 ?_ ?zq3); (case zq1 => assumption); (case zq2 => walk_at "vr"); (case zq3 => exact rfl))
  | ((with_reducible first | refine' ev_cmp ?_ ?_ | refine' ev_tcmp ?_ ?_ | refine' ev_chain2 ?_ ?_); rotate_left; with_unfolding_all rfl)
  | ((with_reducible first | refine' ev_items ?_ ?_ | refine' ev_call ?_ ?_); rotate_left; exact rfl)
  | ((with_reducible first | refine' ev_call_builtin ?_ ?_ ?_ | refine' ev_call_type ?_ ?_ ?_); rotate_left; exact rfl; exact rfl)
  | ((with_reducible refine' ev_aug ?zq1 ?zq2 ?zq3 ?_); (case zq1 => assumption); (case zq2 => walk_at "vr"); (case zq3 => walk_at "lk"))
  | ((with_reducible refine' ev_call_fn ?zq1 ?zq2 ?_ ?zq3); (case zq1 => k_is); (case zq2 => exact rfl); (case zq3 => exact rfl))
  | (with_reducible first
    | refine' ev_bool ?_ | refine' ev_none ?_ | refine' ev_return ?_ | refine' ev_if ?_ | refine' Seq.next ?_ | refine' Seq.ret ?_ | refine' ev_nil ?_ | refine' ev_last ?_ | refine' ev_cons ?_
    | refine' ev_binop ?_ | refine' ev_unop ?_ | refine' ev_tb ?_ | refine' ev_items_nil ?_ | refine' ev_ltI ?_ | refine' ev_leI ?_ | refine' ev_gtI ?_ | refine' ev_geI ?_ | refine' ev_eqI ?_ | refine' ev_neI ?_
    | refine' ev_eqS ?_ | refine' ev_neS ?_ | refine' ev_isB ?_ | refine' ev_isnotB ?_ | refine' ev_ifexp ?_ | refine' ev_tand ?_ | refine' ev_and_nil ?_ | refine' ev_and_cons ?_ | refine' ev_or_nil ?_ | refine' ev_or_cons ?_ | refine' ev_tnot ?_))
section
open PySem PySem.W PySem.Calls PyProof.Rows PySem.Builtin
set_option maxRecDepth 100000
set_option maxHeartbeats 2000000
theorem kfillF1 (w : World) : (fun _ : Unit => (hd.heap_39 w.params, Challenge.rw_wa0015_01)) = (fun _ => (hd.heap_39 w.params, Challenge.rw_wa0015_01)) := by k_fill; rfl
set_option maxHeartbeats 200000
theorem d_isnon (w : World) (x : Int) (t : Tok) : Does w 152 1 10 [.int x t] (fun _ => True) (fun v _ => v = .bool (decide (256 ≤ x))) := by
  refine does_of (d := 0) (u := 6) (binds := [("x", .int x t)]) (by k_is) (by k_is) (fun s => BindsTo.of_eq rfl) ?_
  intro C L hw hd hu hH hE W hpre
  subst hw
  repeat walk_at "go"
  exact ⟨[], List.nil_sublist _, rfl⟩
end
section
open PySem PySem.W PySem.Calls PyProof.Rows PySem.Builtin
set_option maxRecDepth 100000
set_option maxHeartbeats 2000000
noncomputable def num (kvs : List (Str × Value)) (k : List Nat) : Option Int := match valueAt kvs (S k) with
  | some (.int i _) => some i
  | _ => none
noncomputable def symStep (kvs : List (Str × Value)) (x : List Nat) (s : Int) (k : Nat) : Int := (num kvs (x.drop (x.length - k))).getD s
noncomputable def symTo (kvs : List (Str × Value)) (x : List Nat) : Nat → Int
  | 0 => 256 + 10 * (x.length : Int)
  | k + 1 => symStep kvs x (symTo kvs x k) (k + 1)
theorem d_symbol (w : World) (x : List Nat) (t : Tok) (d : Addr) (kvs : List (Str × Value)) (hx : x.length ≤ 100) (hi : ∀ k v, valueAt kvs k = some v → ∃ i t, v = .int i t) :
    Does w 176 1 20 [.str (S x) t, .ref d] (fun h => Holds w h d (.dict kvs)) (fun v _ => ∃ t, v = .int (symTo kvs x 3) t) := by
  refine does_of (d := 0) (u := 16) (binds := [("text", .str (S x) t), ("numbers", .ref d)]) (by k_is) (by k_is) (fun s => BindsTo.of_eq rfl) ?_
  intro C L hw hd hu hH hE W hpre
  subst hw
  repeat walk_at "go"
  refine ev_lenS (by lia) fun _ => ?_
  refine ev_mulI (by lia) fun _ => ?_
  repeat walk_at "go"
  refine ev_for W (by walk_at "vr") ?_
  repeat walk_at "go"
  refine ev_range2 fun l v hl => ?_
  refine ⟨_, _, src_range (.head) (by lia) (by lia), fun i m R => m "text" = some (.str (S x) t) ∧ m "numbers" = some (.ref d) ∧ ∃ t, m "symbol" = some (.int (symTo kvs x i) t), ⟨by walk_at "lk", by walk_at "lk", _, by walk_at "lk"⟩, ?_, ?_⟩
  · rintro i v m₁ R₁ N hi' ⟨tk, rfl⟩ ⟨h1, h2, t', h3⟩
    have W' := W.hide N
    have e : (1 + (i : Int)) = ((i + 1 : Nat) : Int) := by lia
    rw [e]
    repeat walk_at "go"
    refine ev_partEnd ?_
    repeat walk_at "go"
    refine ⟨_, _, rfl, by lia, ?_⟩
    repeat walk_at "go"
    refine ⟨_, _, rfl, fun _ => ?_⟩
    rw [S_last x (i + 1) (by lia)]
    repeat walk_at "go"
    refine ev_inD (.base hpre) ?_
    repeat walk_at "go"
    refine ⟨fun hb => ?_, fun hb => ?_⟩
    · repeat walk_at "go"
      refine ev_sub ?_
      repeat walk_at "go"
      refine ev_partEnd ?_
      repeat walk_at "go"
      refine ⟨_, _, rfl, by lia, ?_⟩
      repeat walk_at "go"
      refine ⟨_, _, rfl, fun _ => ?_⟩
      rw [S_last x (i + 1) (by lia)]
      obtain ⟨vv, hv⟩ := Option.isSome_iff_exists.mp hb
      obtain ⟨ii, tt, rfl⟩ := hi _ _ hv
      refine ev_itemD (.base hpre) hv ?_
      refine ⟨by walk_at "lk", by walk_at "lk", tt, ?_⟩
      rw [sv_self]
      have : symTo kvs x (i + 1) = ii := by simp [symTo, symStep, num, hv]
      rw [this]
    · refine ev_nil ?_
      refine ⟨by walk_at "lk", by walk_at "lk", t', ?_⟩
      have : symTo kvs x (i + 1) = symTo kvs x i := by
        have hn : valueAt kvs (S (x.drop (x.length - (i + 1)))) = none := by simpa using hb
        simp [symTo, symStep, num, hn]
      rw [this]
      walk_at "lk"
  · rintro m₁ R₁ ⟨h1, h2, t', h3⟩
    repeat walk_at "go"
    exact ⟨[], List.nil_sublist _, _, rfl⟩
end
section
open PySem PySem.W PySem.Calls PyProof.Rows PySem.Builtin
set_option maxRecDepth 100000
set_option maxHeartbeats 2000000
noncomputable def isNine (c : Nat) : Bool := c == 57 || c == 48
theorem isNine_mem (c : Nat) : isNine c = decide (c ∈ [57, 48]) := by
  unfold isNine
  by_cases h1 : c = 57
  · subst h1; rfl
  · by_cases h2 : c = 48
    · subst h2; rfl
    · have a : (c == 57) = false := by simpa using h1
      have b : (c == 48) = false := by simpa using h2
      have e : ¬ c ∈ [57, 48] := by simp [h1, h2]
      rw [a, b, decide_eq_false e]; rfl
noncomputable def back (x : List Nat) : Nat → Nat
  | 0 => 0
  | k + 1 => if (x[k]?).any isNine then back x k else k + 1
noncomputable def dueEnd (x : List Nat) : Nat := if x.drop (x.length - 1) == [10] then x.length - 1 else x.length
noncomputable def duePlace (x : List Nat) : Nat := back x (dueEnd x)
noncomputable def due (kvs : List (Str × Value)) (x : List Nat) : Int :=
  if 0 < duePlace x ∧ duePlace x < dueEnd x ∧ x[duePlace x - 1]? = some 46 then 0 else if 255 < symTo kvs x 3 then 2 else symTo kvs x 3
theorem back_le (x : List Nat) : ∀ k, back x k ≤ k
  | 0 => Nat.le_refl _
  | k + 1 => by
    unfold back
    split
    · exact Nat.le_succ_of_le (back_le x k)
    · exact Nat.le_refl _
theorem dueEnd_le (x : List Nat) : dueEnd x ≤ x.length := by unfold dueEnd; split <;> lia
theorem lit_nl : Str.ofString "\n" = S [10] := by decide +kernel
theorem lit_90 : Str.ofString "90" = S [57, 48] := by decide +kernel
theorem lit_dot : Str.ofString "." = S [46] := by decide +kernel

theorem d_due (w : World) (x : List Nat) (t : Tok) (d : Addr) (kvs : List (Str × Value)) (hx : x.length ≤ 100) (hi : ∀ k v, valueAt kvs k = some v → ∃ i t, v = .int i t) :
    Does w 200 2 40 [.str (S x) t, .ref d] (fun h => Holds w h d (.dict kvs)) (fun v _ => ∃ t, v = .int (due kvs x) t) := by
  refine does_of (d := 1) (u := 36) (binds := [("text", .str (S x) t), ("numbers", .ref d)]) (by k_is) (by k_is) (fun s => BindsTo.of_eq rfl) ?_
  intro C L hw hdp hun hH hE W hpre
  subst hw
  refine ev_cons (ev_assign W (by walk_at "vr") (Ev.mono (P := fun v m1 _ => (∃ t, v = .int (dueEnd x) t) ∧ m1 = lk [("text", .str (S x) t), ("numbers", .ref d)]) ?_ ?_) rfl)
  · repeat walk_at "go"
    refine ev_partEnd ?_
    repeat walk_at "go"
    refine ⟨_, _, rfl, by lia, ?_⟩
    repeat walk_at "go"
    refine ⟨_, _, rfl, fun _ => ?_⟩
    rw [show (-1 : Int) = -((1 : Nat) : Int) from rfl, S_last x 1 (by lia)]
    repeat walk_at "go"
    rw [lit_nl]
    repeat walk_at "go"
    refine ⟨fun hb => ?_, fun hb => ?_⟩
    · repeat walk_at "go"
      refine ev_lenS (by lia) fun _ => ?_
      repeat walk_at "go"
      have hne : 1 ≤ x.length := by
        rcases x with _ | ⟨a, r⟩
        · simp at hb
        · simp
      have : (x.length : Int) - 1 = ((dueEnd x : Nat) : Int) := by unfold dueEnd; rw [if_pos hb]; lia
      rw [this]; exact ⟨⟨_, rfl⟩, rfl⟩
    · repeat walk_at "go"
      refine ev_lenS (by lia) fun _ => ?_
      have : dueEnd x = x.length := by unfold dueEnd; rw [if_neg (by rw [hb]; decide)]
      rw [this]; exact ⟨⟨_, rfl⟩, rfl⟩
  · rintro v m' R' ⟨⟨t1, rfl⟩, rfl⟩
    have hde := dueEnd_le x
    repeat walk_at "go"
    -- the loop
    refine ev_while (fun n m R => n ≤ dueEnd x ∧ back x n = duePlace x ∧ m "text" = some (.str (S x) t) ∧ m "numbers" = some (.ref d) ∧ (∃ t, m "end" = some (.int (dueEnd x) t)) ∧ ∃ t, m "place" = some (.int n t)) (dueEnd x)
      ⟨Nat.le_refl _, rfl, by walk_at "lk", by walk_at "lk", ⟨_, by walk_at "lk"⟩, ⟨_, by walk_at "lk"⟩⟩ ?_
    rintro n m₁ R₁ ⟨hn, hb, h1, h2, ⟨t2, h3⟩, t3, h4⟩
    refine Ev.mono (P := fun b m2 _ => m2 = m₁ ∧ b = (decide (0 < n) && (x[n - 1]?).any isNine)) ?_ ?_
    · repeat walk_at "go"
      refine ⟨fun hb0 => ⟨rfl, ?_⟩, fun hb0 => ?_⟩
      · have : ¬ (0 < n) := by simpa using hb0
        simp [this]
      · have hn0 : 0 < n := by simpa using hb0
        repeat walk_at "go"
        refine ev_sub ?_
        repeat walk_at "go"
        have hlt : n - 1 < x.length := by lia
        refine ev_itemS (c := x[n - 1]) (by lia) (by lia) (by rw [show ((n : Int) - 1).toNat = n - 1 by lia]; exact List.getElem?_eq_getElem hlt) fun _ => ?_
        repeat walk_at "go"
        rw [lit_90]
        refine ev_inS ?_
        repeat walk_at "go"
        have e1 : (decide (0 < n)) = true := by simpa using hn0
        rw [e1, Bool.true_and, List.getElem?_eq_getElem hlt]
        rw [Option.any_some, isNine_mem]
        refine ⟨fun hc => ⟨rfl, hc.symm⟩, fun hc => ev_and_nil ⟨rfl, hc.symm⟩⟩
    · rintro b m2 R2 ⟨rfl, rfl⟩
      refine ⟨fun hc => ?_, fun hc => ?_⟩
      · obtain ⟨hc1, hc2⟩ := Bool.and_eq_true_iff.mp hc
        have hn0 : 0 < n := by simpa using hc1
        repeat walk_at "go"
        refine ⟨n - 1, by lia, by lia, ?_, by walk_at "lk", by walk_at "lk", ⟨_, by walk_at "lk"⟩, ?_⟩
        · rw [← hb]
          obtain ⟨k, rfl⟩ : ∃ k, n = k + 1 := ⟨n - 1, by lia⟩
          show back x k = back x (k + 1)
          have hc3 : (x[k]?).any isNine = true := hc2
          rw [back, if_pos hc3]
        · rw [sv_self, show ((n : Int) - 1) = ((n - 1 : Nat) : Int) by lia]; exact ⟨_, rfl⟩
      · have hpl : n = duePlace x := by
          rw [← hb]
          cases n with
          | zero => rfl
          | succ k =>
            have : ¬ ((x[k]?).any isNine = true) := by
              intro h
              have h' : (x[k + 1 - 1]?).any isNine = true := h
              rw [h'] at hc; simp at hc
            rw [back, if_neg this]
        subst hpl
        refine ev_cons (ev_if (Ev.mono (P := fun b m3 _ => m3 = m2 ∧ b = decide (0 < duePlace x ∧ duePlace x < dueEnd x ∧ x[duePlace x - 1]? = some 46)) ?_ ?_))
        · repeat walk_at "go"
          refine ⟨fun hb0 => ?_, fun hb0 => ?_⟩
          · refine ⟨fun _ => ⟨rfl, ?_⟩, fun h => by cases h⟩
            have : ¬ (0 < duePlace x) := by simpa using hb0
            simp [this]
          · have hn0 : 0 < duePlace x := by simpa using hb0
            repeat walk_at "go"
            refine ⟨fun hc => ⟨rfl, ?_⟩, fun hc => ?_⟩
            · have : ¬ (duePlace x < dueEnd x) := by simpa using hc
              simp [this]
            · have hn1 : duePlace x < dueEnd x := by simpa using hc
              repeat walk_at "go"
              refine ev_sub ?_
              repeat walk_at "go"
              have hlt : duePlace x - 1 < x.length := by lia
              refine ev_itemS (c := x[duePlace x - 1]) (by lia) (by lia) (by rw [show ((duePlace x : Int) - 1).toNat = duePlace x - 1 by lia]; exact List.getElem?_eq_getElem hlt) fun _ => ?_
              repeat walk_at "go"
              rw [lit_dot]
              repeat walk_at "go"
              rw [List.getElem?_eq_getElem hlt]
              refine ⟨fun h => ⟨rfl, ?_⟩, fun h => ev_and_nil ⟨rfl, ?_⟩⟩
              · have : x[duePlace x - 1] ≠ 46 := by simpa using h
                simp [this]
              · have : x[duePlace x - 1] = 46 := by simpa using h
                simp [this, hn0, hn1]
        · rintro b m3 R3 ⟨rfl, rfl⟩
          refine ⟨fun hd => ?_, fun hd => ?_⟩
          · repeat walk_at "go"
            have : due kvs x = 0 := by unfold due; rw [if_pos (of_decide_eq_true hd)]
            exact ⟨[], List.nil_sublist _, _, by rw [this]; rfl⟩
          · have hdue : due kvs x = if 255 < symTo kvs x 3 then 2 else symTo kvs x 3 := by unfold due; rw [if_neg (of_decide_eq_false hd)]
            repeat walk_at "go"
            refine ev_does (d_symbol C.w x t d kvs hx hi) (by lia) (by lia) (fun s X => X.has (.base hpre)) ?_
            rintro v R4 ⟨t4, rfl⟩
            repeat walk_at "go"
            refine ⟨fun h => ?_, fun h => ?_⟩
            · repeat walk_at "go"
              have : 255 < symTo kvs x 3 := by simpa using h
              rw [if_pos this] at hdue
              exact ⟨[], List.nil_sublist _, _, by rw [hdue]; rfl⟩
            · repeat walk_at "go"
              have : ¬ 255 < symTo kvs x 3 := by simpa using h
              rw [if_neg this] at hdue
              exact ⟨[], List.nil_sublist _, _, by rw [hdue]; rfl⟩
end
section
open PySem PySem.Sre
set_option maxRecDepth 100000
/-- n steps of the machine, none behind its end -/
inductive StepsN : Nat → M → M → Prop
  | refl (m : M) : StepsN 0 m m
  | step {n : Nat} {m m' : M} : m.outcome = none → StepsN n m.step m' → StepsN (n + 1) m m'
theorem StepsN.trans {n k : Nat} {a b c : M} (x : StepsN n a b) (y : StepsN k b c) : StepsN (n + k) a c := by
  induction x with
  | refl m => simpa using y
  | step h _ ih => rw [Nat.add_right_comm]; exact .step h (ih y)
theorem StepsN.one {a b : M} (h : a.outcome = none) (e : a.step = b) : StepsN 1 a b := .step h (e ▸ .refl _)
theorem StepsN.runFor {n : Nat} {m m' : M} (x : StepsN n m m') (ho : m'.outcome.isSome = true) : ∀ k, ∃ j, j + k ≥ n ∧ j ≤ n ∧ (j = 0 ∨ j + k = n) ∧ StepsN j (M.runFor k m) m' := by
  induction x with
  | refl m =>
    intro k
    refine ⟨0, by lia, by lia, .inl rfl, ?_⟩
    have : M.runFor k m = m := by cases k with
      | zero => rfl
      | succ k => unfold M.runFor; rw [if_pos ho]
    rw [this]; exact .refl _
  | @step n m m' h x ih =>
    intro k
    cases k with
    | zero => exact ⟨n + 1, by lia, by lia, .inr rfl, .step h x⟩
    | succ k =>
      obtain ⟨j, h1, h2, h3, h4⟩ := ih ho k
      refine ⟨j, by lia, by lia, by lia, ?_⟩
      unfold M.runFor
      rw [h]; exact h4

theorem step_of {m : M} (h1 : m.outcome = none) (h2 : m.answer = none) (h3 : m.pc < m.code.size) : m.step = m.exec := by
  unfold M.step
  rw [h1, h2]
  simp [h3]
theorem ops16 : ops[16]? = some .LITERAL := by rfl
theorem ops24 : ops[24]? = some .REPEAT_ONE := by rfl
theorem ops13 : ops[13]? = some .IN := by rfl
theorem ops8 : ops[8]? = some .CATEGORY := by rfl
theorem ops0 : ops[0]? = some .FAILURE := by rfl
theorem ops1 : ops[1]? = some .SUCCESS := by rfl
theorem ops6 : ops[6]? = some .AT := by rfl
theorem ops9 : ops[9]? = some .CHARSET := by rfl
theorem ops17 : ops[17]? = some .MARK := by rfl
theorem ops14 : ops[14]? = some .INFO := by rfl

namespace R1
noncomputable def c1 : Array Nat := #[14, 8, 1, 2, 4294967295, 1, 1, 46, 0, 16, 46, 24, 9, 1, 4294967295, 13, 4, 8, 0, 0, 1, 6, 5, 1]
noncomputable def st (T : Array Nat) (start pc pos handed : Nat) (om : Bool) (fr : List Sre.Frame) (wt : Nat) (ans : Option Bool) (seen : Seen) : M :=
  { code := c1, text := T, lim := T.size, start, lastStart := T.size, pc, pos, handed, outermost := om, marks := #[], frames := fr, weight := wt, answer := ans, seen }
noncomputable def F0 (s : Nat) (om : Bool) : Sre.Frame := { wait := .nextStart, pc := 9, pos := s, outermost := om }
noncomputable def G (p : Nat) (om : Bool) (n : Int) : Sre.Frame := { wait := .giveBack, pc := 11, pos := p, outermost := om, count := n }
variable {T : Array Nat} {s p hd n : Nat} {om : Bool} {fr : List Sre.Frame} {wt : Nat} {seen : Seen}

theorem w9 : c1.getD 9 0 = 16 := by decide
theorem w10 : c1.getD 10 0 = 46 := by decide
theorem w11 : c1.getD 11 0 = 24 := by decide
theorem w12 : c1.getD 12 0 = 9 := by decide
theorem w13 : c1.getD 13 0 = 1 := by decide
theorem w14 : c1.getD 14 0 = 4294967295 := by decide
theorem w15 : c1.getD 15 0 = 13 := by decide
theorem w16 : c1.getD 16 0 = 4 := by decide
theorem w17 : c1.getD 17 0 = 8 := by decide
theorem w18 : c1.getD 18 0 = 0 := by decide
theorem w19 : c1.getD 19 0 = 0 := by decide
theorem w21 : c1.getD 21 0 = 6 := by decide
theorem w22 : c1.getD 22 0 = 5 := by decide
theorem w23 : c1.getD 23 0 = 1 := by decide
theorem sz : c1.size = 24 := by decide

theorem lit_end (h : T.size ≤ p) : ∃ seen', (st T s 9 p hd om fr wt none seen).step = st T s 9 p hd om fr wt (some false) seen' := by
  refine ⟨seen.add 16, ?_⟩
  rw [step_of rfl rfl (by show 9 < c1.size; decide)]
  unfold M.exec
  simp only [st, M.word, Nat.add_zero, w9, ops16]
  simp [h, M.say]
theorem lit_no (h : p < T.size) (hc : T.getD p 0 ≠ 46) : ∃ seen', (st T s 9 p hd om fr wt none seen).step = st T s 9 p hd om fr wt (some false) seen' := by
  refine ⟨seen.add 16, ?_⟩
  rw [step_of rfl rfl (by show 9 < c1.size; decide)]
  unfold M.exec
  simp only [st, M.word, Nat.add_zero, w9, ops16, accepts]
  rw [if_neg (by lia)]
  have : (T.getD p 0 == c1.getD (9 + 1) 0) = false := by
    rw [show c1.getD (9 + 1) 0 = 46 by decide]; simpa using hc
  rw [this]
  simp [M.say]
theorem lit_yes (h : p < T.size) (hc : T.getD p 0 = 46) : ∃ seen', (st T s 9 p hd om fr wt none seen).step = st T s 11 (p + 1) hd om fr wt none seen' := by
  refine ⟨seen.add 16, ?_⟩
  rw [step_of rfl rfl (by show 9 < c1.size; decide)]
  unfold M.exec
  simp only [st, M.word, Nat.add_zero, w9, ops16, accepts]
  rw [if_neg (by lia)]
  have : (T.getD p 0 == c1.getD (9 + 1) 0) = true := by
    rw [show c1.getD (9 + 1) 0 = 46 by decide]; simpa using hc
  rw [this]
  have e : itemWidth c1 9 = 2 := by decide
  simp only [e]

/-- how many figures stand from a place on -/
noncomputable def drun (T : Array Nat) : Nat → Nat → Nat
  | 0, _ => 0
  | k + 1, p => if isDigit (T.getD p 0) then drun T k (p + 1) + 1 else 0
theorem drun_le (T : Array Nat) : ∀ k p, drun T k p ≤ k
  | 0, _ => Nat.le_refl _
  | k + 1, p => by
    unfold drun
    split
    · exact Nat.succ_le_succ (drun_le T k (p + 1))
    · exact Nat.zero_le _
theorem accepts_in (c : Nat) (seen : Seen) : ∃ seen', accepts c1 15 c seen = .ok (isDigit c, seen') := by
  unfold accepts
  simp only [w15, ops13, sz]
  unfold inSet
  simp only [Nat.reduceAdd, Nat.add_zero, w17, ops8, w18]
  unfold category
  simp only [Nat.zero_div, Nat.zero_mod]
  cases h : isDigit c with
  | true => exact ⟨_, by simp [Except.map]; rfl⟩
  | false =>
    refine ⟨((seen.add 8).add (55 + 0)).add 0, ?_⟩
    simp only [Except.map]
    show inSet c1 c 23 19 true _ = _
    unfold inSet
    simp only [Nat.add_zero, w19, ops0]
    rfl
theorem run_digits : ∀ (k p f : Nat) (seen : Seen), ∃ seen', Sre.run c1 T 15 k p f seen = .ok (f + drun T k p, seen')
  | 0, p, f, seen => ⟨seen, rfl⟩
  | k + 1, p, f, seen => by
    obtain ⟨s1, h1⟩ := accepts_in (T.getD p 0) seen
    unfold Sre.run drun
    rw [h1]
    cases h : isDigit (T.getD p 0) with
    | true =>
      obtain ⟨s2, h2⟩ := run_digits k (p + 1) (f + 1) s1
      refine ⟨s2, ?_⟩
      show Sre.run c1 T 15 k (p + 1) (f + 1) s1 = _
      rw [h2, if_pos rfl]
      congr 2; lia
    | false => exact ⟨s1, rfl⟩

theorem rep_end (h : T.size ≤ p) : ∃ seen', (st T s 11 p hd om fr wt none seen).step = st T s 11 p hd om fr wt (some false) seen' := by
  refine ⟨seen.add 24, ?_⟩
  rw [step_of rfl rfl (by show 11 < c1.size; decide)]
  unfold M.exec
  simp only [st, M.word, Nat.add_zero, w11, ops24, Nat.reduceAdd, w13]
  rw [if_pos (by lia)]
  simp [M.say]
theorem rep_no (h : p < T.size) (hn : drun T (min 4294967295 (T.size - p)) p = 0) : ∃ seen', (st T s 11 p hd om fr wt none seen).step = st T s 11 p hd om fr wt (some false) seen' := by
  obtain ⟨s2, h2⟩ := run_digits (T := T) (min 4294967295 (T.size - p)) p 0 ((seen.add 24).add 13)
  refine ⟨s2, ?_⟩
  rw [step_of rfl rfl (by show 11 < c1.size; decide)]
  unfold M.exec
  simp only [st, M.word, Nat.add_zero, w11, ops24, Nat.reduceAdd, w13, w14, w15]
  rw [if_neg (by lia)]
  simp only [Bool.false_eq_true, if_false]
  rw [show ((T.size : Int) - (p : Int)).toNat = T.size - p by lia, h2]
  simp [hn, M.say]
theorem rep_yes (h : p < T.size) (hn : drun T (min 4294967295 (T.size - p)) p = n + 1) (hw : wt ≤ 1000) : ∃ seen',
    (st T s 11 p hd om fr wt none seen).step = st T s 21 (p + (n + 1)) (p + (n + 1)) om (G (p + (n + 1)) om ((n + 1 : Nat) : Int) :: fr) (wt + 1) none seen' := by
  obtain ⟨s2, h2⟩ := run_digits (T := T) (min 4294967295 (T.size - p)) p 0 ((seen.add 24).add 13)
  refine ⟨s2, ?_⟩
  rw [step_of rfl rfl (by show 11 < c1.size; decide)]
  unfold M.exec
  simp only [st, M.word, Nat.add_zero, w11, ops24, Nat.reduceAdd, w13, w14, w15]
  rw [if_neg (by lia)]
  simp only [Bool.false_eq_true, if_false]
  rw [show ((T.size : Int) - (p : Int)).toNat = T.size - p by lia, h2]
  simp only [hn, Nat.zero_add]
  rw [if_neg (by lia)]
  unfold M.afterRun M.attempt M.keep M.frame
  simp only [M.word, Nat.add_zero, Nat.reduceAdd, w12, Option.isSome_none, Bool.false_eq_true, if_false]
  rw [if_neg (by simp; lia)]
  simp [G]
/-- the text's end, or ahead of its last line feed -/
noncomputable def atEnd (T : Array Nat) (p : Nat) : Bool := p == T.size || (p + 1 == T.size && T.getD p 0 == 10)
theorem at_step : ∃ seen', (st T s 21 p hd om fr wt none seen).step = (if atEnd T p then st T s 23 p hd om fr wt none seen' else st T s 21 p hd om fr wt (some false) seen') := by
  refine ⟨(seen.add 6).add (43 + 5), ?_⟩
  rw [step_of rfl rfl (by show 21 < c1.size; decide)]
  unfold M.exec
  simp only [st, M.word, Nat.add_zero, w21, ops6, Nat.reduceAdd, w22]
  have e : M.isAt { code := c1, text := T, lim := T.size, start := s, lastStart := T.size, pc := 21, pos := p, handed := hd, outermost := om, marks := #[], frames := fr, weight := wt, seen := seen.add 6 } 5 = .ok (atEnd T p) := rfl
  rw [e]
  cases atEnd T p <;> rfl
theorem success : ∃ seen', (st T s 23 p hd om fr wt none seen).step = st T s 23 p p om fr wt (some true) seen' := by
  refine ⟨seen.add 1, ?_⟩
  rw [step_of rfl rfl (by show 23 < c1.size; decide)]
  unfold M.exec
  simp only [st, M.word, Nat.add_zero, w23, ops1]
  simp [M.say]
theorem pop_yes {pc q : Nat} : (st T s pc p hd om (G q om n :: fr) (wt + 1) (some true) seen).step = st T s 11 q hd om fr wt (some true) seen := by
  unfold M.step M.resume
  simp [st, G, M.say]
theorem pop0_yes {pc q : Nat} {b : Bool} : (st T s pc p hd om [F0 q b] 1 (some true) seen).step = st T s 9 q hd b [] 0 (some true) seen := by
  unfold M.step M.resume
  simp [st, F0, M.say]
theorem done_yes {pc : Nat} : ((st T s pc p hd om [] 0 (some true) seen).step).outcome = some .matched := by
  unfold M.step
  simp [st]
theorem done_no {pc : Nat} : ((st T s pc p hd om [] 0 (some false) seen).step).outcome = some .failed := by
  unfold M.step
  simp [st]
theorem pop_no1 {pc q : Nat} : (st T s pc p hd om (G q om ((0 + 1 : Nat) : Int) :: fr) (wt + 1) (some false) seen).step = st T s 11 q hd om fr wt (some false) seen := by
  unfold M.step M.resume
  simp only [st, G, M.word, M.putBack, Nat.reduceAdd, w13]
  simp [M.say]
theorem pop_no {pc q : Nat} (hq : 1 ≤ q) (hw : wt ≤ 1000) : (st T s pc p hd om (G q om ((n + 2 : Nat) : Int) :: fr) (wt + 1) (some false) seen).step =
    st T s 21 (q - 1) (q - 1) om (G (q - 1) om ((n + 1 : Nat) : Int) :: fr) (wt + 1) none seen := by
  unfold M.step M.resume
  simp only [st, G, M.word, M.putBack, Nat.reduceAdd, w13, Option.isSome_none, Bool.false_eq_true, if_false]
  rw [if_neg (by lia)]
  unfold M.afterRun M.attempt M.frame
  simp only [M.word, Nat.reduceAdd, w12]
  rw [if_neg (by simp; lia)]
  simp
  lia
theorem pop0_no {pc : Nat} {b : Bool} : (st T s pc p hd om [F0 s b] 1 (some false) seen).step =
    (if s < T.size then st T (s + 1) 9 (s + 1) (s + 1) false [F0 (s + 1) false] 1 none seen else st T s 9 s hd b [] 0 (some false) seen) := by
  unfold M.step M.resume
  simp only [st, F0, Option.isSome_none, Bool.false_eq_true, if_false, M.putBack]
  by_cases h : s < T.size
  · refine Eq.trans (if_pos (c := s < T.size) h) ?_
    refine Eq.trans ?_ (if_pos (c := s < T.size) h).symm
    unfold M.attemptFrom
    refine Eq.trans (if_pos (by rfl)) ?_
    unfold M.attemptAt M.attempt
    simp
  · refine Eq.trans (if_neg (c := s < T.size) h) ?_
    refine Eq.trans ?_ (if_neg (c := s < T.size) h).symm
    simp [M.say]
end R1
end
section
open PySem PySem.Sre
set_option maxRecDepth 100000
namespace R1
theorem drun_digit (T : Array Nat) : ∀ k p j, j < drun T k p → isDigit (T.getD (p + j) 0) = true
  | 0, p, j, h => by simp [drun] at h
  | k + 1, p, j, h => by
    unfold drun at h
    split at h
    · rename_i hd
      cases j with
      | zero => simpa using hd
      | succ j =>
        have := drun_digit T k (p + 1) j (by lia)
        rwa [show p + (j + 1) = p + 1 + j by lia]
    · simp at h
/-- the pattern fits at a place -/
noncomputable def m1 (T : Array Nat) (s : Nat) : Bool :=
  decide (s < T.size) && T.getD s 0 == 46 && decide (1 ≤ drun T (min 4294967295 (T.size - (s + 1))) (s + 1)) && atEnd T (s + 1 + drun T (min 4294967295 (T.size - (s + 1))) (s + 1))
variable {T : Array Nat} {s p hd n : Nat} {om : Bool} {fr : List Sre.Frame} {wt : Nat} {seen : Seen}
theorem on {a b : M} {m' : M} {n : Nat} (h : a.outcome = none) (e : a.step = b) (x : StepsN n b m') : StepsN (n + 1) a m' := .step h (e ▸ x)
theorem st_out {T s pc pos handed om fr wt ans seen} : (st T s pc pos handed om fr wt ans seen).outcome = none := rfl
/-- the run is given back, sign by sign, and fits nowhere -/
theorem back {hd0 N : Nat} (hr : ∀ hd seen p pc, ∃ n, n ≤ N ∧ ∃ m', StepsN n (st T s pc p hd om [F0 s om] 1 (some false) seen) m' ∧ m'.outcome = some o)
    (hin : ∀ j, 1 ≤ j → j ≤ k → atEnd T (s + 1 + j) = false) :
    ∀ hd seen, 1 ≤ k → ∃ n, n ≤ 2 * k + N ∧ ∃ m', StepsN n (st T s 21 (s + 1 + k) hd om [G (s + 1 + k) om (k : Int), F0 s om] 2 none seen) m' ∧ m'.outcome = some o := by
  induction k with
  | zero => intro _ _ h; lia
  | succ k ih =>
    intro hd seen _
    obtain ⟨s1, h1⟩ := at_step (T := T) (s := s) (p := s + 1 + (k + 1)) (hd := hd) (om := om) (fr := [G (s + 1 + (k + 1)) om ((k + 1 : Nat) : Int), F0 s om]) (wt := 2) (seen := seen)
    rw [hin (k + 1) (by lia) (by lia), if_neg (by simp)] at h1
    cases k with
    | zero =>
      obtain ⟨n, hn, m', x, ho⟩ := hr hd s1 (s + 1 + 1) 11
      exact ⟨n + 1 + 1, by lia, m', on st_out h1 (on st_out pop_no1 x), ho⟩
    | succ k =>
      obtain ⟨n, hn, m', x, ho⟩ := ih (fun j a b => hin j a (by lia)) (s + 1 + (k + 1)) s1 (by lia)
      exact ⟨n + 1 + 1, by lia, m', on st_out h1 (on st_out (pop_no (n := k) (q := s + 1 + (k + 1 + 1)) (by lia) (by lia)) x), ho⟩
theorem inner (hk : k = drun T c (s + 1)) (hc : c ≤ T.size - (s + 1)) {j : Nat} (h : j < k) : atEnd T (s + 1 + j) = false := by
  have hd := drun_digit T c (s + 1) j (hk ▸ h)
  have hle := drun_le T c (s + 1)
  have : s + 1 + j < T.size := by lia
  unfold atEnd
  have h1 : (s + 1 + j == T.size) = false := by simp; lia
  rw [h1]
  have h2 : (T.getD (s + 1 + j) 0 == 10) = false := by
    apply beq_false_of_ne
    intro e
    rw [e] at hd
    exact absurd hd (by decide)
  rw [h2]
  simp
theorem from_start : ∀ (d s hd : Nat) (om : Bool) (seen : Seen), d = T.size - s → s ≤ T.size →
    ∃ n, n ≤ (d + 1) * (2 * T.size + 10) ∧ ∃ m', StepsN n (st T s 9 s hd om [F0 s om] 1 none seen) m' ∧ m'.outcome = some (if (List.range' s d).any (m1 T) then .matched else .failed) := by
  intro d
  induction d with
  | zero =>
    intro s hd om seen hd0 hs
    obtain ⟨s1, h1⟩ := lit_end (T := T) (s := s) (p := s) (hd := hd) (om := om) (fr := [F0 s om]) (wt := 1) (seen := seen) (by lia)
    have h2 := pop0_no (T := T) (s := s) (p := s) (hd := hd) (om := om) (seen := s1) (pc := 9) (b := om)
    rw [if_neg (by lia)] at h2
    refine ⟨0 + 1 + 1 + 1, by lia, _, on st_out h1 (on st_out h2 (on st_out rfl (.refl _))), ?_⟩
    simpa using done_no
  | succ d ih =>
    intro s hd om seen hd0 hs
    have hlt : s < T.size := by lia
    -- the next starts
    have hr : ∀ hd seen p pc, ∃ n, n ≤ (d + 1) * (2 * T.size + 10) + 1 ∧ ∃ m', StepsN n (st T s pc p hd om [F0 s om] 1 (some false) seen) m' ∧ m'.outcome = some (if (List.range' (s + 1) d).any (m1 T) then .matched else .failed) := by
      intro hd seen p pc
      have h2 := pop0_no (T := T) (s := s) (p := p) (hd := hd) (om := om) (seen := seen) (pc := pc) (b := om)
      rw [if_pos hlt] at h2
      obtain ⟨n, hn, m', x, ho⟩ := ih (s + 1) (s + 1) false seen (by lia) (by lia)
      exact ⟨n + 1, by lia, m', on st_out h2 x, ho⟩
    have hB : (d + 1 + 1) * (2 * T.size + 10) = (d + 1) * (2 * T.size + 10) + (2 * T.size + 10) := by rw [Nat.succ_mul]
    rw [hB, List.range'_succ, List.any_cons]
    generalize hBB : (d + 1) * (2 * T.size + 10) = B at hr ⊢
    by_cases hc : T.getD s 0 = 46
    · obtain ⟨s1, h1⟩ := lit_yes (T := T) (s := s) (p := s) (hd := hd) (om := om) (fr := [F0 s om]) (wt := 1) (seen := seen) hlt hc
      by_cases he : T.size ≤ s + 1
      · have hm : m1 T s = false := by
          unfold m1
          rw [show T.size - (s + 1) = 0 by lia]
          simp [drun]
        rw [hm, Bool.false_or]
        obtain ⟨s2, h2⟩ := rep_end (T := T) (s := s) (p := s + 1) (hd := hd) (om := om) (fr := [F0 s om]) (wt := 1) (seen := s1) he
        obtain ⟨n, hn, m', x, ho⟩ := hr hd s2 (s + 1) 11
        exact ⟨n + 1 + 1, by lia, m', on st_out h1 (on st_out h2 x), ho⟩
      · have hle := drun_le T (min 4294967295 (T.size - (s + 1))) (s + 1)
        cases hk : drun T (min 4294967295 (T.size - (s + 1))) (s + 1) with
        | zero =>
          have hm : m1 T s = false := by unfold m1; rw [hk]; simp
          rw [hm, Bool.false_or]
          obtain ⟨s2, h2⟩ := rep_no (T := T) (s := s) (p := s + 1) (hd := hd) (om := om) (fr := [F0 s om]) (wt := 1) (seen := s1) (by lia) hk
          obtain ⟨n, hn, m', x, ho⟩ := hr hd s2 (s + 1) 11
          exact ⟨n + 1 + 1, by lia, m', on st_out h1 (on st_out h2 x), ho⟩
        | succ k =>
          rw [hk] at hle
          obtain ⟨s2, h2⟩ := rep_yes (T := T) (s := s) (p := s + 1) (hd := hd) (om := om) (fr := [F0 s om]) (wt := 1) (seen := s1) (by lia) hk (by lia)
          have hm : m1 T s = atEnd T (s + 1 + (k + 1)) := by
            unfold m1; rw [hk, hc]; simp [hlt]
          cases ha : atEnd T (s + 1 + (k + 1)) with
          | true =>
            rw [hm, ha, Bool.true_or, if_pos rfl]
            obtain ⟨s3, h3⟩ := at_step (T := T) (s := s) (p := s + 1 + (k + 1)) (hd := s + 1 + (k + 1)) (om := om) (fr := [G (s + 1 + (k + 1)) om ((k + 1 : Nat) : Int), F0 s om]) (wt := 2) (seen := s2)
            rw [ha, if_pos rfl] at h3
            obtain ⟨s4, h4⟩ := success (T := T) (s := s) (p := s + 1 + (k + 1)) (hd := s + 1 + (k + 1)) (om := om) (fr := [G (s + 1 + (k + 1)) om ((k + 1 : Nat) : Int), F0 s om]) (wt := 2) (seen := s3)
            refine ⟨0 + 1 + 1 + 1 + 1 + 1 + 1 + 1, by lia, _, on st_out h1 (on st_out h2 (on st_out h3 (on st_out h4 (on st_out pop_yes (on st_out pop0_yes (on st_out rfl (.refl _))))))), ?_⟩
            exact done_yes
          | false =>
            rw [hm, ha, Bool.false_or]
            obtain ⟨n, hn, m', x, ho⟩ := back (k := k + 1) (hd0 := 0) hr (fun j a b => by
              by_cases hj : j = k + 1
              · rw [hj]; exact ha
              · exact inner hk.symm (by lia) (by lia)) (s + 1 + (k + 1)) s2 (by lia)
            exact ⟨n + 1 + 1, by lia, m', on st_out h1 (on st_out h2 x), ho⟩
    · have hm : m1 T s = false := by
        unfold m1; rw [show (T.getD s 0 == 46) = false from beq_false_of_ne hc]; simp
      rw [hm, Bool.false_or]
      obtain ⟨s1, h1⟩ := lit_no (T := T) (s := s) (p := s) (hd := hd) (om := om) (fr := [F0 s om]) (wt := 1) (seen := seen) hlt hc
      obtain ⟨n, hn, m', x, ho⟩ := hr hd s1 s 9
      exact ⟨n + 1, by lia, m', on st_out h1 x, ho⟩
/-- the whole search -/
theorem search : ∃ n, n ≤ (T.size + 2) * (2 * T.size + 10) ∧ ∃ m', StepsN n (Sre.forSearch c1 T 0 0 T.size false) m' ∧ m'.outcome = some (if (List.range T.size).any (m1 T) then .matched else .failed) := by
  by_cases h : T.size < 2
  · have hm : (List.range T.size).any (m1 T) = false := by
      rw [List.any_eq_false]
      intro s hs
      rw [List.mem_range] at hs
      have : s = 0 := by lia
      subst this
      unfold m1
      rw [show T.size - (0 + 1) = 0 by lia]
      simp [drun]
    rw [hm, if_neg (by simp)]
    refine ⟨1, ?_, _, on (n := 0) ?_ rfl (.refl _), ?_⟩
    · have := Nat.mul_le_mul (show 1 ≤ T.size + 2 by lia) (show 1 ≤ 2 * T.size + 10 by lia); lia
    · unfold Sre.forSearch
      rw [if_pos (by rw [show (header c1).1 = 2 by decide]; simp; lia)]
      rfl
    · unfold Sre.forSearch
      rw [if_pos (by rw [show (header c1).1 = 2 by decide]; simp; lia)]
      rfl
  · obtain ⟨n, hn, m', x, ho⟩ := from_start (T := T) T.size 0 0 true ({} |> fun x : Seen => x.add 14) (by lia) (by lia)
    have e : Sre.forSearch c1 T 0 0 T.size false = st T 0 9 0 0 true [F0 0 true] 1 none (({} : Seen).add 14) := by
      unfold Sre.forSearch
      rw [if_neg (by rw [show (header c1).1 = 2 by decide]; simp; lia)]
      unfold M.attemptFrom
      refine Eq.trans (if_pos (by rfl)) ?_
      rfl
    refine ⟨n, ?_, m', e ▸ x, ?_⟩
    · have := Nat.mul_le_mul_right (2 * T.size + 10) (show T.size + 1 ≤ T.size + 2 by lia); lia
    · rw [ho, List.range_eq_range']
end R1
end
section
open PySem PySem.Sre PySem.W PySem.Calls PyProof.Rows PySem.Builtin PySem.F
set_option maxRecDepth 100000
theorem owner_pat : Manifest.owners.lookup (String.ofList ['n', 'r', 'e', 't', 't', 'a', 'P', '.', 'e', 'r'].reverse) = some Manifest.sig_re_Pattern := by kernel_rfl
theorem owner_mat : Manifest.owners.lookup (String.ofList ['h', 'c', 't', 'a', 'M', '.', 'e', 'r'].reverse) = some Manifest.sig_re_Match := by kernel_rfl
theorem slot_search : Slot "re.Pattern" "search" "re.Pattern.search" :=
  .of (owner := "re.Pattern") (n := "search") (by rw [typeLookup_type, builtinLookup_eq_fast]; kernel_rfl) (by decide +kernel) (by decide +kernel) (by decide +kernel)
    (by first | exact .inl (by decide +kernel) | exact .inr (by decide +kernel)) (by rw [isSubtype_type]; kernel_rfl)
theorem entry_search : entryFor table "re.Pattern.search" = some Builtin.«re.Pattern.search» := entryFor_of_tree (by kernel_rfl)
theorem args_search (a b : Value) : argsOk "re.Pattern.search" ⟨[a, b], []⟩ := by
  unfold argsOk; rw [signature?_of (id := "re.Pattern.search") (n := ['h', 'c', 'r', 'a', 'e', 's']) (o := ['n', 'r', 'e', 't', 't', 'a', 'P', '.', 'e', 'r']) (by kernel_rfl) owner_pat]; kernel_rfl
theorem type_search : typeOf (.builtin "re.Pattern.search") = pure (.type "method_descriptor") := by show builtinType _ = _; rw [builtinType_eq_fast]; kernel_rfl
theorem ga_pat : typeLookup (.type "re.Pattern") "__getattribute__" = pure (some (.builtin "object.__getattribute__")) := by rw [typeLookup_type, builtinLookup_eq_fast]; kernel_rfl
theorem no_ga_pat : typeLookup (.type "re.Pattern") "__getattr__" = pure none := by rw [typeLookup_type, builtinLookup_eq_fast]; kernel_rfl
theorem canon_obj : (Manifest.canonical "object.__getattribute__" != "object.__getattribute__") = false := by decide +kernel
theorem slot_group : Slot "re.Match" "group" "re.Match.group" :=
  .of (owner := "re.Match") (n := "group") (by rw [typeLookup_type, builtinLookup_eq_fast]; kernel_rfl) (by decide +kernel) (by decide +kernel) (by decide +kernel)
    (by first | exact .inl (by decide +kernel) | exact .inr (by decide +kernel)) (by rw [isSubtype_type]; kernel_rfl)
theorem entry_group : entryFor table "re.Match.group" = some Builtin.«re.Match.group» := entryFor_of_tree (by kernel_rfl)
theorem args_group (a b : Value) : argsOk "re.Match.group" ⟨[a, b], []⟩ := by
  unfold argsOk; rw [signature?_of (id := "re.Match.group") (n := ['p', 'u', 'o', 'r', 'g']) (o := ['h', 'c', 't', 'a', 'M', '.', 'e', 'r']) (by kernel_rfl) owner_mat]; kernel_rfl
theorem type_group : typeOf (.builtin "re.Match.group") = pure (.type "method_descriptor") := by show builtinType _ = _; rw [builtinType_eq_fast]; kernel_rfl
theorem slot_span : Slot "re.Match" "span" "re.Match.span" :=
  .of (owner := "re.Match") (n := "span") (by rw [typeLookup_type, builtinLookup_eq_fast]; kernel_rfl) (by decide +kernel) (by decide +kernel) (by decide +kernel)
    (by first | exact .inl (by decide +kernel) | exact .inr (by decide +kernel)) (by rw [isSubtype_type]; kernel_rfl)
theorem entry_span : entryFor table "re.Match.span" = some Builtin.«re.Match.span» := entryFor_of_tree (by kernel_rfl)
theorem args_span (a b : Value) : argsOk "re.Match.span" ⟨[a, b], []⟩ := by
  unfold argsOk; rw [signature?_of (id := "re.Match.span") (n := ['n', 'a', 'p', 's']) (o := ['h', 'c', 't', 'a', 'M', '.', 'e', 'r']) (by kernel_rfl) owner_mat]; kernel_rfl
theorem type_span : typeOf (.builtin "re.Match.span") = pure (.type "method_descriptor") := by show builtinType _ = _; rw [builtinType_eq_fast]; kernel_rfl
theorem ga_mat : typeLookup (.type "re.Match") "__getattribute__" = pure (some (.builtin "object.__getattribute__")) := by rw [typeLookup_type, builtinLookup_eq_fast]; kernel_rfl
theorem no_ga_mat : typeLookup (.type "re.Match") "__getattr__" = pure none := by rw [typeLookup_type, builtinLookup_eq_fast]; kernel_rfl

section
variable {Mo : Model} {A : Around} {E : Value → Shared → Prop} {s : Shared}
theorem getMethod_ref {l : Addr} {o : Obj} {T : String} {name : Str} {ga id : String} {pl : Sem Bool} {Q : Value × List Value → Shared → Prop} (ho : s.heap.get? l = some o) (hc : o.cls = .type T) (hd : o.dict = none)
    (hga : typeLookup (.type T) "__getattribute__" = pure (some (.builtin ga))) (hcan : (Manifest.canonical ga != "object.__getattribute__") = false)
    (hgetattr : typeLookup (.type T) "__getattr__" = pure none) (hf : typeLookup (.type T) name = pure (some (.builtin id)))
    (htf : typeOf (.builtin id) = pure (.type "method_descriptor"))
    (h : Q (.builtin id, [.ref l]) s) : wpAny Mo A (getMethod (.ref l) name pl) Q E s := by
  have hT : s.TypeIs (.ref l) T := ⟨o, ho, hc⟩
  unfold getMethod
  refine wpAny_bind (wpAny_specialOf hT hga ?_)
  show wpAny Mo A (if (Manifest.canonical ga != "object.__getattribute__") = true then _ else _) Q E s
  rw [hcan, if_neg Bool.false_ne_true]
  refine wpAny_bind (wpAny_specialOf hT hgetattr ?_)
  refine wpAny_bind (wpAny_specialOf hT hf ?_)
  refine wpAny_bind (wpAny_of_eq htf ?_)
  refine wpAny_bind (wpAny_load ho ?_)
  rw [hd]
  exact wpAny_bind (wpAny_rule (wpAny_pure h))

theorem wpAny_reDrive {Q : Sre.M → Shared → Prop} {m' : Sre.M} (ho : m'.outcome.isSome = true) : ∀ (turns n : Nat) (m : Sre.M), StepsN n m m' → n ≤ 4 * turns → 1 ≤ turns → Q m' s → wpAny Mo A (Re.reDrive turns m) Q E s
  | 0, n, m, h, hn, h1, hq => by lia
  | turns + 1, n, m, h, hn, h1, hq => by
    unfold Re.reDrive
    obtain ⟨j, h2, h3, h4, h5⟩ := h.runFor ho 4
    by_cases hj : j = 0
    · subst hj
      have e : M.runFor 4 m = m' := by cases h5; rfl
      show wpAny Mo A (if (M.runFor 4 m).outcome.isSome = true then (pure (M.runFor 4 m) : Sem Sre.M) else _) Q E s
      rw [e, if_pos ho]; exact wpAny_pure hq
    · have hnone : (M.runFor 4 m).outcome = none := by
        cases h5 with
        | refl => exact absurd rfl hj
        | step a _ => exact a
      show wpAny Mo A (if (M.runFor 4 m).outcome.isSome = true then _ else _) Q E s
      rw [hnone, if_neg (by simp)]
      exact wpAny_bind (wpAny_rule (wpAny_reDrive ho turns j _ h5 (by lia) (by lia) hq))
end
end
section
open PySem PySem.Sre PySem.W PySem.Calls PyProof.Rows PySem.Builtin PySem.F
set_option maxRecDepth 100000
structure PatIn (h : Heap) (p : Addr) (code : Array Nat) (g : Nat) : Prop where
  ex : ∃ o fs cd oc xs n, h.get? p = some o ∧ o.cls = .type "re.Pattern" ∧ o.dict = none ∧ o.data = .fields fs ∧ fs.getD 5 .none = .ref cd ∧ h.get? cd = some oc ∧ oc.data = .seq xs n ∧
    (xs.map Re.reRawOf).map (·.toNat) = code ∧ Re.reRawNat (fs.getD 6 .none) = 0 ∧ Re.reRawNat (fs.getD 2 .none) = g
theorem PatIn.keeps {h h' : Heap} {p : Addr} {code : Array Nat} {g : Nat} (x : PatIn h p code g) (k : h.StaysIn h') : PatIn h' p code g := by
  obtain ⟨o, fs, cd, oc, xs, n, h1, h2, h3, h4, h5, h6, h7⟩ := x.ex
  exact ⟨o, fs, cd, oc, xs, n, k _ _ h1, h2, h3, h4, h5, k _ _ h6, h7⟩
noncomputable def spansOf (g : Nat) (m : Sre.M) : List Value := (List.range g).flatMap fun g =>
    match if ((2 * g + 1 : Nat) : Int) ≤ m.lastmark then (m.marks.getD (2 * g) none, m.marks.getD (2 * g + 1) none) else (none, none) with
    | (some b, some e) => [rawInt b, rawInt e]
    | _ => [rawInt (-1), rawInt (-1)]
noncomputable def noWrong (g : Nat) (m : Sre.M) : Bool := (List.range g).any (fun g => match m.marks.getD (2 * g) none, m.marks.getD (2 * g + 1) none with | some b, some e => ((2 * g + 1 : Nat) : Int) ≤ m.lastmark && e < b | _, _ => false)
noncomputable def matObj (lm n : Nat) (p : Addr) (x : Str) (t : Tok) (m : Sre.M) : Obj := { cls := .type "re.Match", data := .fields #[.str x t, .ref p, rawInt 0, rawInt lm, rawInt m.lastindex, .ref n] }
section
variable {prog : Program} {w : World} {A : Around} {E : Value → Shared → Prop} {s : Shared}
theorem wpAny_rules {Q : PUnit → Shared → Prop} (m : Sre.M) (l : List Nat) (h : Q ⟨⟩ s) : wpAny (model prog w) A (forIn l PUnit.unit fun i _ => do
    if m.seen.has i then rule (Sre.names.getD i "")
    pure (ForInStep.yield PUnit.unit)) Q E s := by
  refine wpAny_forIn_list _ (fun _ _ s' => s' = s) Q ?_ ?_ l _ rfl
  · rintro i rest _ s' rfl
    by_cases hh : m.seen.has i = true
    · rw [if_pos hh]; exact wpAny_bind (wpAny_rule (wpAny_pure rfl))
    · rw [if_neg hh]; exact wpAny_pure rfl
  · rintro _ s' rfl; exact h
theorem wpAny_runToEnd {Q : Option Sre.M → Shared → Prop} {m m' : Sre.M} {n : Nat} (hst : StepsN n m m') (hn : n ≤ 2 ^ 60) (ho : m'.outcome = some .matched ∨ m'.outcome = some .failed)
    (hno : m'.outcome = some .failed → Q none s) (hyes : m'.outcome = some .matched → Q (some m') s) : wpAny (model prog w) A (Re.reRunToEnd m) Q E s := by
  unfold Re.reRunToEnd
  refine wpAny_bind (wpAny_reDrive (by rcases ho with e | e <;> rw [e] <;> rfl) _ n m hst (by lia) (by lia) ?_)
  refine wpAny_bind (wpAny_rules m' _ ?_)
  rcases ho with e | e
  · have h := hyes e; rw [e]; exact wpAny_pure h
  · have h := hno e; rw [e]; exact wpAny_pure h

theorem wpAny_search {Q : Value → Shared → Prop} {p : Addr} {code : Array Nat} {g : Nat} {x : Str} {t : Tok} {m' : Sre.M} {n : Nat} (hp : PatIn s.heap p code g)
    (hx : x.cps.size ≤ 2 ^ 62) (hst : StepsN n (Sre.forSearch code x.cps g 0 x.cps.size false) m') (hn : n ≤ 2 ^ 60) (ho : m'.outcome = some .matched ∨ m'.outcome = some .failed)
    (hw : m'.outcome = some .matched → noWrong g m' = false ∧ (spansOf g m').length ≤ 10)
    (hno : m'.outcome = some .failed → Q .none s)
    (hyes : ∀ lm, m'.outcome = some .matched → Q (.ref (s.heap.objs.size + 1)) { s with heap := (s.heap.push { cls := .type "tuple", data := .seq (rawInt m'.start :: rawInt m'.handed :: spansOf g m').toArray }).push (matObj lm s.heap.objs.size p x t m') }) :
    wpAny (model prog w) A (call (.builtin "re.Pattern.search") [.ref p, .str x t]) Q E s := by
  obtain ⟨o, fs, cd, oc, xs, k, h1, h2, h3, h4, h5, h6, h7, h8, h9, h10⟩ := hp.ex
  refine wpAny_call_entry slot_search ⟨o, h1, h2⟩ entry_search ?_ (args_search _ _)
  unfold «re.Pattern.search» Re.reTarget
  refine wpAny_bind ?_
  refine wpAny_bind (m := Re.reNamed "re.Pattern.search" "search" ["string", "pos", "endpos"] 1 [.str x t] []) (wpAny_of_eq (by rfl) ?_)
  refine wpAny_bind (wpAny_pure ?_)
  refine wpAny_bind (wpAny_pure ?_)
  refine wpAny_bind (wpAny_fieldsOf h1 h4 ?_)
  refine wpAny_bind (m := Re.reTextOf (.str x t)) (wpAny_of_eq (by rfl) ?_)
  rw [h9, h10]
  rw [h5]
  refine wpAny_bind (m := Re.reRawItems (.ref cd)) (wpAny_bind (wpAny_seqItems h6 h7 (wpAny_pure ?_)))
  refine wpAny_pure ?_
  show wpAny _ _ (Re.reAnswer _ (forSearch ((xs.map Re.reRawOf).map (·.toNat)) x.cps g (min (0 : Int).toNat x.cps.size) (min ((2 ^ 63 - 1 : Int)).toNat x.cps.size) false)) _ _ _
  rw [h8, show min ((2 ^ 63 - 1 : Int)).toNat x.cps.size = x.cps.size by rw [Nat.min_eq_right]; lia, show min (0 : Int).toNat x.cps.size = 0 by simp]
  unfold Re.reAnswer
  refine wpAny_bind (wpAny_runToEnd hst hn ho (fun e => wpAny_pure ⟨_, rfl, hno e⟩) fun e => wpAny_bind ?_)
  unfold Re.reNewMatch
  show wpAny _ _ (if (List.range g).any _ = true then _ else _) _ _ _
  refine (congrArg (fun z => wpAny (model prog w) A.in1 z _ E s) (if_neg (c := noWrong g m' = true) (by rw [(hw e).1]; simp))).mpr ?_
  refine wpAny_bind (wpAny_newTuple ?_ (hsz := ?_))
  · refine wpAny_newObj_type (wpAny_pure ⟨_, rfl, ?_⟩) (by show 6 ≤ sizeLine + 2; decide)
    have h0 := hyes (min ((2 ^ 63 - 1 : Int)).toNat x.cps.size) e
    rw [Heap.size_push]
    exact h0
  · show (spansOf g m').length + 2 ≤ sizeLine
    have := (hw e).2
    rw [sizeLine_eq]; lia
end
end
section
open PySem PySem.Sre PySem.W PySem.Calls PyProof.Rows PySem.Builtin PySem.F
set_option maxRecDepth 100000
theorem no_bool_mat : typeLookup (.type "re.Match") "__bool__" = pure none := by rw [typeLookup_type, builtinLookup_eq_fast]; kernel_rfl
theorem no_len_mat : typeLookup (.type "re.Match") "__len__" = pure none := by rw [typeLookup_type, builtinLookup_eq_fast]; kernel_rfl
section
variable {C : Cx} {m : Map} {R : Led} {P : Value → Map → Led → Prop}
theorem patIn_of {K : Frag} {h : Heap} {p cd : Addr} {fs xs : Array Value} {d' : Option Addr} {c' : Value} {n : Nat} {sl sl' : Array (Option Value)} {code : Array Nat} {g : Nat} (G : K.In h)
    (h1 : K.lookup p = some ⟨.type "re.Pattern", none, .fields fs, sl⟩) (h2 : K.lookup cd = some ⟨c', d', .seq xs n, sl'⟩) (h3 : fs.getD 5 .none = .ref cd)
    (h4 : (xs.map Re.reRawOf).map (·.toNat) = code) (h5 : Re.reRawNat (fs.getD 6 .none) = 0) (h6 : Re.reRawNat (fs.getD 2 .none) = g) : PatIn h p code g :=
  ⟨⟨_, fs, cd, _, xs, n, G _ _ h1, rfl, rfl, rfl, h3, G _ _ h2, rfl, h4, h5, h6⟩⟩
theorem ev_truthyM {a : Addr} {o : Obj} {P : Bool → Map → Led → Prop} (hh : Has C R a (.raw o)) (hc : o.cls = .type "re.Match") (h : P true m R) : Ev C m R (truthy (.ref a)) P := fun s X => by
  obtain ⟨o', ho, rfl⟩ := X.has hh
  have hT : s.TypeIs (.ref a) "re.Match" := ⟨_, ho, hc⟩
  unfold truthy
  refine wpAny_bind (m := callSpecial? (.ref a) (Str.ofString "__bool__")) ?_
  unfold callSpecial?
  refine wpAny_bind (wpAny_specialOf hT no_bool_mat ?_)
  refine wpAny_pure ?_
  refine wpAny_bind (wpAny_specialOf hT no_len_mat ?_)
  exact wpAny_pure ⟨m, R, X, h⟩
theorem ev_tval' {e : Expr} {whole : Sem Value} {P : Bool → Map → Led → Prop} (h : Ev C m R whole (fun v m1 R1 => Ev C m1 R1 (truthy v) P))
    (he : isTrue e C.env whole = (do let v ← whole; standAt e.pos; holding [v] (truthy v)) := by with_unfolding_all rfl) : Ev C m R (isTrue e C.env whole) P := by
  rw [he]
  refine fun s X => wpAny_bind (wpAny_mono (h s X) (fun v s1 ⟨m1, R1, Y, hp⟩ => wpAny_bind (wpAny_standAt (wpAny_holding (hp s1 Y)))) fun _ _ x => x)
theorem Ev.gl {α : Type} {t : Sem α} {P : α → Map → Led → Prop} (h : Gl C.w C.mg C.mb C.g → Ev C m R t P) : Ev C m R t P := fun s X => h X.gl s X
theorem ev_tnone {P : Bool → Map → Led → Prop} (h : P false m R) : Ev C m R (truthy .none) P := fun s X => by
  unfold truthy
  exact wpAny_pure ⟨m, R, X, h⟩
theorem ev_getsearch {p : Addr} {code : Array Nat} {g : Nat} {pl : Sem Bool} {P : Value × List Value → Map → Led → Prop} (hp : PatIn C.g p code g) (h : P (.builtin "re.Pattern.search", [.ref p]) m R) :
    Ev C m R (getMethod (.ref p) "search" pl) P := fun s X => by
  obtain ⟨o, fs, cd, oc, xs, k, h1, h2, h3, _⟩ := (hp.keeps X.keep).ex
  exact getMethod_ref h1 h2 h3 ga_pat canon_obj no_ga_pat slot_search.lookup type_search ⟨m, R, X, h⟩
theorem ev_search {p : Addr} {code : Array Nat} {g : Nat} {x : List Nat} {t : Tok} {m' : Sre.M} {n : Nat} (hp : PatIn C.g p code g)
    (hx : x.length ≤ 1000) (hst : StepsN n (Sre.forSearch code x.toArray g 0 x.length false) m') (hn : n ≤ 2 ^ 60) (ho : m'.outcome = some .matched ∨ m'.outcome = some .failed)
    (hw : m'.outcome = some .matched → noWrong g m' = false ∧ (spansOf g m').length ≤ 10) (hno : m'.outcome = some .failed → P .none m R)
    (hyes : m'.outcome = some .matched → ∀ lm b, New C R b → ∀ a, New C ((b, .tup (rawInt m'.start :: rawInt m'.handed :: spansOf g m')) :: R) a →
      P (.ref a) m ((a, .raw (matObj lm b p (S x) t m')) :: (b, .tup (rawInt m'.start :: rawInt m'.handed :: spansOf g m')) :: R)) :
    Ev C m R (call (.builtin "re.Pattern.search") [.ref p, .str (S x) t]) P := fun s X => by
  refine wpAny_search (hp.keeps X.keep) (by show x.toArray.size ≤ 2 ^ 62; simp; lia) (by simpa [S] using hst) hn ho hw (fun e => ⟨m, R, X, hno e⟩) fun lm e => ?_
  have Y := X.push (c := .tup (rawInt m'.start :: rawInt m'.handed :: spansOf g m')) (tk := s.toks) (o := { cls := .type "tuple", data := .seq (rawInt m'.start :: rawInt m'.handed :: spansOf g m').toArray }) ⟨0, rfl⟩ rfl
  have Z := Y.push (c := .raw (matObj lm s.heap.objs.size p (S x) t m')) (tk := s.toks) (o := matObj lm s.heap.objs.size p (S x) t m') rfl rfl
  have hsz : (s.heap.push { cls := .type "tuple", data := .seq (rawInt m'.start :: rawInt m'.handed :: spansOf g m').toArray }).objs.size = s.heap.objs.size + 1 := Heap.size_push ..
  have Yn := Y.isNew
  dsimp only at Z Yn
  rw [hsz] at Z Yn
  exact ⟨m, _, Z, hyes e lm _ X.isNew _ Yn⟩
end
end
section
open PySem PySem.W PySem.Calls PyProof.Rows PySem.Builtin
set_option maxRecDepth 100000
set_option maxHeartbeats 2000000
/-- liberal_is_HDN's pattern fits somewhere -/
noncomputable def dotted (x : List Nat) : Bool := (List.range x.length).any (R1.m1 x.toArray)
theorem pat1 (w : World) {h : Heap} (G : (hd.heap_39 w.params).In h) : PatIn h 43 R1.c1 0 :=
  patIn_of (cd := 42) G (by k_is) (by k_is) (by rfl) (by simp [Re.reRawOf, R1.c1]) (by rfl) (by rfl)
theorem d_hdn (w : World) (x : List Nat) (t : Tok) (hx : x.length ≤ 100) : Does w 50 2 30 [.str (S x) t] (fun _ => True) (fun v _ => v = .bool (!dotted x)) := by
  refine does_of (d := 1) (u := 26) (binds := [("text", .str (S x) t)]) (by k_is) (by k_is) (fun s => BindsTo.of_eq rfl) ?_
  intro C L hw hd hu hH hE W hpre
  subst hw
  refine Ev.gl fun G => ?_
  have hp := pat1 C.w G.K
  repeat walk_at "go"
  refine ev_tval' ?_
  refine ev_methcall ?_
  repeat walk_at "go"
  refine ev_getsearch hp ?_
  repeat walk_at "go"
  obtain ⟨n, hn, m', hst, ho⟩ := R1.search (T := x.toArray)
  rw [List.size_toArray] at hn hst ho
  have hout : m'.outcome = some (if dotted x = true then .matched else .failed) := ho
  refine ev_search hp (by lia) hst (Nat.le_trans hn (Nat.le_trans (Nat.mul_le_mul (show x.length + 2 ≤ 1000 by lia) (show 2 * x.length + 10 ≤ 1000 by lia)) (by lia))) ?_ (fun _ => ⟨rfl, by show 0 ≤ 10; lia⟩) (fun e => ?_) fun e lm b hb a ha => ?_
  · rw [hout]; cases dotted x <;> simp
  · have hx0 : dotted x = false := by rw [hout] at e; cases hh : dotted x <;> simp_all
    refine ev_tnone ?_
    refine ⟨fun hf => absurd hf (by simp), fun _ => ?_⟩
    repeat walk_at "go"
    exact ⟨[], List.nil_sublist _, by rw [hx0]; rfl⟩
  · have hx0 : dotted x = true := by rw [hout] at e; cases hh : dotted x <;> simp_all
    refine ev_truthyM .head rfl ?_
    refine ⟨fun _ => ?_, fun hf => absurd hf (by simp)⟩
    repeat walk_at "go"
    exact ⟨[], List.nil_sublist _, by rw [hx0]; rfl⟩
end
section
open PySem PySem.W PySem.Calls PyProof.Rows PySem.Builtin
set_option maxRecDepth 100000
set_option maxHeartbeats 2000000
noncomputable def keyOf : Value → Str
  | .str x _ => x
  | _ => S []
noncomputable def kvOf (e : DictEntry) : Str × Value := (keyOf e.key, e.val)
theorem pairs_lit {prog : Program} {w : World} : ∀ {l : List DictEntry}, KeysLit w.params l → Pairs (PySem.strKind prog w) l (l.map kvOf)
  | [], _ => .nil
  | e :: r, ⟨⟨x, t, h1, h2⟩, hr⟩ => .cons (by show Value.isStrOf (keyOf e.key) e.key = true; rw [h1]; exact strKind_is prog w x t) rfl (pairs_lit hr)
theorem holds_dict {w : World} {K : Frag} {h : Heap} {p : Addr} {es : List DictEntry} {n : Nat} {kvs : List (Str × Value)} (G : K.In h) (h1 : K.lookup p = some ⟨.type "dict", none, .dict es.toArray n, #[]⟩)
    (hl : KeysLit w.params es) (hk : es.map kvOf = kvs) (nd : (kvs.map (·.1)).Nodup) (ps : (p == sysModules) = false) : Holds w h p (.dict kvs) := by
  subst hk
  exact ⟨_, G _ _ h1, ⟨es.toArray, n, ⟨rfl, rfl, rfl⟩, rfl, fun e he => by
    obtain ⟨x, t, h1, h2⟩ := hl.all e (List.mem_toArray.mp he)
    exact ⟨x, by rw [h1]; exact strKind_is Prg w x t, h2⟩, pairs_lit hl, nd⟩, ps⟩
/-- a dict's keys and numbers -/
noncomputable def Tab (kvs : List (Str × Value)) (T : List (List Nat × Int)) : Prop := kvs.map (fun p => (p.1, match p.2 with | .int i _ => some i | _ => none)) = T.map fun q => (S q.1, some q.2)
theorem Tab.num : ∀ {kvs : List (Str × Value)} {T : List (List Nat × Int)}, Tab kvs T → ∀ k, num kvs k = T.lookup k
  | [], [], _, k => rfl
  | [], _ :: _, h, k => nomatch h
  | _ :: _, [], h, k => nomatch h
  | (x, v) :: r, (y, i) :: T, h, k => by
    unfold Tab at h
    rw [List.map_cons, List.map_cons] at h
    injection h with h1 h2
    injection h1 with h3 h4
    have ih := Tab.num (kvs := r) (T := T) h2 k
    dsimp only at h3 h4
    subst h3
    by_cases e : k = y
    · subst e
      unfold Mine.num valueAt
      cases v <;> first | (injection h4 with h5; subst h5; simp) | (exact absurd h4 (by simp))
    · have e' : ¬ S y = S k := fun hh => e (S_inj.mp hh).symm
      rw [List.lookup_cons, show (k == y) = false by simpa using e]
      unfold Mine.num valueAt at ih ⊢
      simpa [List.find?_cons, e'] using ih
theorem Tab.ints : ∀ {kvs : List (Str × Value)} {T : List (List Nat × Int)}, Tab kvs T → ∀ k v, valueAt kvs k = some v → ∃ i t, v = .int i t
  | [], _, _, k, v, hv => nomatch hv
  | _ :: _, [], h, k, v, hv => nomatch h
  | (x, u) :: r, (y, i) :: T, h, k, v, hv => by
    unfold Tab at h
    rw [List.map_cons, List.map_cons] at h
    injection h with h1 h2
    injection h1 with h3 h4
    dsimp only at h3 h4
    by_cases e : x = k
    · have : u = v := by simpa [valueAt, e] using hv
      subst this
      cases u <;> first | exact ⟨_, _, rfl⟩ | exact absurd h4 (by simp)
    · exact Tab.ints (kvs := r) (T := T) h2 k v (by simpa [valueAt, List.find?_cons, e] using hv)
theorem tab_lit (P : Params) : ∀ (k : Nat) (l : List (List Nat × Int)), KeysLit P (tabEs P k l)
  | _, [] => trivial
  | k, _ :: r => ⟨⟨_, _, rfl, rfl⟩, tab_lit P (k + 1) r⟩
theorem tab_tab (P : Params) : ∀ (k : Nat) (l : List (List Nat × Int)), Tab ((tabEs P k l).map kvOf) l
  | _, [] => rfl
  | k, q :: r => congrArg ((S q.1, some q.2) :: ·) (tab_tab P (k + 1) r)
theorem tab_keys (P : Params) : ∀ (k : Nat) (l : List (List Nat × Int)), ((tabEs P k l).map kvOf).map (·.1) = l.map fun q => S q.1
  | _, [] => rfl
  | k, q :: r => congrArg (S q.1 :: ·) (tab_keys P (k + 1) r)
theorem tab143 (w : World) {h : Heap} (G : (hd.heap_39 w.params).In h) : ∃ kvs, Holds w h 143 (.dict kvs) ∧ Tab kvs exact :=
  ⟨_, holds_dict (p := 143) G (by k_is) (tab_lit w.params 0 exact) rfl (by rw [tab_keys]; decide +kernel) (by decide), tab_tab w.params 0 exact⟩
noncomputable def symT (T : List (List Nat × Int)) (x : List Nat) : Nat → Int
  | 0 => 256 + 10 * (x.length : Int)
  | k + 1 => (T.lookup (x.drop (x.length - (k + 1)))).getD (symT T x k)
theorem Tab.sym {kvs : List (Str × Value)} {T : List (List Nat × Int)} (h : Tab kvs T) (x : List Nat) : ∀ k, symTo kvs x k = symT T x k
  | 0 => rfl
  | k + 1 => by unfold symTo symT symStep; rw [h.num, h.sym x k]
noncomputable def tie (x : List Nat) : Int := if dotted x then 0 else if 256 ≤ symT exact x 3 then 2 else (symT exact x 3).fmod 255
theorem d_tie (w : World) (x : List Nat) (t : Tok) (hx : x.length ≤ 100) : Does w 183 3 50 [.str (S x) t] (fun _ => True) (fun v _ => ∃ t, v = .int (tie x) t) := by
  refine does_of (d := 2) (u := 46) (binds := [("text", .str (S x) t)]) (by k_is) (by k_is) (fun s => BindsTo.of_eq rfl) ?_
  intro C L hw hd hu hH hE W hpre
  subst hw
  refine Ev.gl fun G => ?_
  obtain ⟨kvs, hk, hT⟩ := tab143 C.w G.K
  repeat walk_at "go"
  refine ev_does (d_symbol C.w x t 143 kvs hx hT.ints) (by lia) (by lia) (fun s X => hk.keep X.keep) fun v R' ⟨t1, hv⟩ => ?_
  subst hv
  rw [hT.sym]
  repeat walk_at "go"
  refine ev_does (d_hdn C.w x t hx) (by lia) (by lia) (fun _ _ => trivial) fun v R' hv => ?_
  subst hv
  repeat walk_at "go"
  cases hdot : dotted x with
  | true =>
    refine ⟨fun _ => ?_, fun h => absurd h (by simp)⟩
    repeat walk_at "go"
    refine ⟨fun _ => ?_, fun h => absurd h (by simp)⟩
    repeat walk_at "go"
    refine ev_does (d_isnon C.w 255 _) (by lia) (by lia) (fun _ _ => trivial) fun v R' hv => ?_
    subst hv
    repeat walk_at "go"
    refine ⟨fun h => absurd h (by decide), fun _ => ?_⟩
    repeat walk_at "go"
    refine ⟨fun _ => ?_, fun h => absurd h (by decide)⟩
    repeat walk_at "go"
    refine ev_fmod (by decide) fun _ => ?_
    exact ⟨[], List.nil_sublist _, _, by unfold tie; rw [hdot, if_pos rfl]; rfl⟩
  | false =>
    refine ⟨fun h => absurd h (by simp), fun _ => ?_⟩
    repeat walk_at "go"
    refine ev_does (d_isnon C.w _ _) (by lia) (by lia) (fun _ _ => trivial) fun v R' hv => ?_
    subst hv
    repeat walk_at "go"
    refine ⟨fun h => ?_, fun h => ?_⟩
    · have h' : 256 ≤ symT exact x 3 := by simpa using h
      repeat walk_at "go"
      exact ⟨[], List.nil_sublist _, _, by unfold tie; rw [hdot, if_neg (by simp), if_pos h']; rfl⟩
    · have h' : ¬ 256 ≤ symT exact x 3 := by simpa using h
      repeat walk_at "go"
      refine ⟨fun _ => ?_, fun h => absurd h (by simp [h'])⟩
      repeat walk_at "go"
      refine ev_fmod (by decide) fun _ => ?_
      exact ⟨[], List.nil_sublist _, _, by unfold tie; rw [hdot, if_neg (by simp), if_neg h']; rfl⟩
end
section
open PySem PySem.Sre
set_option maxRecDepth 100000
namespace R2
noncomputable def c2 : Array Nat := #[14, 8, 1, 3, 3, 1, 1, 37, 0, 16, 37, 17, 0, 13, 11, 9, 0, 67043328, 126, 126, 0, 0, 0, 0, 0, 13, 11, 9, 0, 67043328, 126, 126, 0, 0, 0, 0, 0, 17, 1, 1]
noncomputable def st (T : Array Nat) (start pc pos handed : Nat) (om : Bool) (fr : List Sre.Frame) (wt : Nat) (ans : Option Bool) (seen : Seen) (mk : Array (Option Nat)) (lm li : Int) : M :=
  { code := c2, text := T, lim := T.size, start, lastStart := T.size, pc, pos, handed, outermost := om, marks := mk, lastmark := lm, lastindex := li, frames := fr, weight := wt, answer := ans, seen }
noncomputable def F0 (s : Nat) (om : Bool) : Sre.Frame := { wait := .nextStart, pc := 9, pos := s, outermost := om }
variable {T : Array Nat} {s p hd n : Nat} {om : Bool} {fr : List Sre.Frame} {wt : Nat} {seen : Seen} {mk : Array (Option Nat)} {lm li : Int}
theorem w9 : c2.getD 9 0 = 16 := by decide
theorem w10 : c2.getD 10 0 = 37 := by decide
theorem w11 : c2.getD 11 0 = 17 := by decide
theorem w12 : c2.getD 12 0 = 0 := by decide
theorem w13 : c2.getD 13 0 = 13 := by decide
theorem w15 : c2.getD 15 0 = 9 := by decide
theorem w24 : c2.getD 24 0 = 0 := by decide
theorem w25 : c2.getD 25 0 = 13 := by decide
theorem w27 : c2.getD 27 0 = 9 := by decide
theorem w36 : c2.getD 36 0 = 0 := by decide
theorem w37 : c2.getD 37 0 = 17 := by decide
theorem w38 : c2.getD 38 0 = 1 := by decide
theorem w39 : c2.getD 39 0 = 1 := by decide
theorem sz : c2.size = 40 := by decide
theorem ops9 : ops[9]? = some .CHARSET := by rfl
/-- a figure or a letter up to f -/
noncomputable def hexd (c : Nat) : Bool := decide (c < 256) && (c2.getD (16 + c / 32) 0).testBit (c % 32)
theorem same_words : ∀ i : Fin 8, c2.getD (28 + i.1) 0 = c2.getD (16 + i.1) 0 := by decide

theorem lit_end (h : T.size ≤ p) : ∃ seen', (st T s 9 p hd om fr wt none seen mk lm li).step = st T s 9 p hd om fr wt (some false) seen' mk lm li := by
  refine ⟨seen.add 16, ?_⟩
  rw [step_of rfl rfl (by show 9 < c2.size; decide)]
  unfold M.exec
  simp only [st, M.word, Nat.add_zero, w9, ops16]
  simp [h, M.say]
theorem lit_no (h : p < T.size) (hc : T.getD p 0 ≠ 37) : ∃ seen', (st T s 9 p hd om fr wt none seen mk lm li).step = st T s 9 p hd om fr wt (some false) seen' mk lm li := by
  refine ⟨seen.add 16, ?_⟩
  rw [step_of rfl rfl (by show 9 < c2.size; decide)]
  unfold M.exec
  simp only [st, M.word, Nat.add_zero, w9, ops16, accepts]
  rw [if_neg (by lia)]
  have : (T.getD p 0 == c2.getD (9 + 1) 0) = false := by
    rw [show c2.getD (9 + 1) 0 = 37 by decide]; simpa using hc
  rw [this]
  simp [M.say]
theorem lit_yes (h : p < T.size) (hc : T.getD p 0 = 37) : ∃ seen', (st T s 9 p hd om fr wt none seen mk lm li).step = st T s 11 (p + 1) hd om fr wt none seen' mk lm li := by
  refine ⟨seen.add 16, ?_⟩
  rw [step_of rfl rfl (by show 9 < c2.size; decide)]
  unfold M.exec
  simp only [st, M.word, Nat.add_zero, w9, ops16, accepts]
  rw [if_neg (by lia)]
  have : (T.getD p 0 == c2.getD (9 + 1) 0) = true := by
    rw [show c2.getD (9 + 1) 0 = 37 by decide]; simpa using hc
  rw [this]
  have e : itemWidth c2 9 = 2 := by decide
  simp only [e]
theorem mark0 : ∃ seen', (st T s 11 p hd om fr wt none seen mk (-1) (-1)).step = st T s 13 p hd om fr wt none seen' (mk.setIfInBounds 0 (some p)) 0 (-1) := by
  refine ⟨seen.add 17, ?_⟩
  rw [step_of rfl rfl (by show 11 < c2.size; decide)]
  unfold M.exec
  simp only [st, M.word, Nat.add_zero, w11, ops17]
  unfold M.mark
  simp only [M.word, Nat.reduceAdd, w12]
  rfl
theorem mark1 : ∃ seen', (st T s 37 p hd om fr wt none seen mk 0 (-1)).step = st T s 39 p hd om fr wt none seen' (mk.setIfInBounds 1 (some p)) 1 1 := by
  refine ⟨seen.add 17, ?_⟩
  rw [step_of rfl rfl (by show 37 < c2.size; decide)]
  unfold M.exec
  simp only [st, M.word, Nat.add_zero, w37, ops17]
  unfold M.mark
  simp only [M.word, Nat.reduceAdd, w38]
  rfl
theorem accepts1 (c : Nat) (seen : Seen) : ∃ seen', accepts c2 13 c seen = .ok (hexd c, seen') := by
  unfold accepts
  simp only [w13, ops13, sz]
  unfold inSet
  simp only [Nat.reduceAdd, Nat.add_zero, w15, ops9]
  have e : (decide (c < 256) && (c2.getD (15 + (1 + c / 32)) 0).testBit (c % 32)) = hexd c := by
    unfold hexd; rw [show 15 + (1 + c / 32) = 16 + c / 32 by lia]
  rw [e]
  cases h : hexd c with
  | true => exact ⟨_, by simp [Except.map]; rfl⟩
  | false =>
    refine ⟨(seen.add 9).add 0, ?_⟩
    show inSet c2 c 39 24 true _ = _
    unfold inSet
    simp only [Nat.add_zero, w24, ops0]
    rfl
theorem accepts2 (c : Nat) (seen : Seen) : ∃ seen', accepts c2 25 c seen = .ok (hexd c, seen') := by
  unfold accepts
  simp only [w25, ops13, sz]
  unfold inSet
  simp only [Nat.reduceAdd, Nat.add_zero, w27, ops9]
  have e : (decide (c < 256) && (c2.getD (27 + (1 + c / 32)) 0).testBit (c % 32)) = hexd c := by
    unfold hexd
    by_cases h : c < 256
    · have := same_words ⟨c / 32, by lia⟩
      rw [show 27 + (1 + c / 32) = 28 + c / 32 by lia, this]
    · simp [h]
  rw [e]
  cases h : hexd c with
  | true => exact ⟨_, by simp [Except.map]; rfl⟩
  | false =>
    refine ⟨(seen.add 9).add 0, ?_⟩
    show inSet c2 c 39 36 true _ = _
    unfold inSet
    simp only [Nat.add_zero, w36, ops0]
    rfl
theorem in1_no (h : p < T.size → hexd (T.getD p 0) = false) : ∃ seen', (st T s 13 p hd om fr wt none seen mk lm li).step = st T s 13 p hd om fr wt (some false) seen' mk lm li := by
  by_cases hp : p < T.size
  · obtain ⟨s1, h1⟩ := accepts1 (T.getD p 0) (seen.add 13)
    refine ⟨s1, ?_⟩
    rw [step_of rfl rfl (by show 13 < c2.size; decide)]
    unfold M.exec
    simp only [st, M.word, Nat.add_zero, w13, ops13]
    rw [if_neg (by lia), h1, h hp]
    simp [M.say]
  · refine ⟨seen.add 13, ?_⟩
    rw [step_of rfl rfl (by show 13 < c2.size; decide)]
    unfold M.exec
    simp only [st, M.word, Nat.add_zero, w13, ops13]
    rw [if_pos (by lia)]
    simp [M.say]
theorem in1_yes (hp : p < T.size) (h : hexd (T.getD p 0) = true) : ∃ seen', (st T s 13 p hd om fr wt none seen mk lm li).step = st T s 25 (p + 1) hd om fr wt none seen' mk lm li := by
  obtain ⟨s1, h1⟩ := accepts1 (T.getD p 0) (seen.add 13)
  refine ⟨s1, ?_⟩
  rw [step_of rfl rfl (by show 13 < c2.size; decide)]
  unfold M.exec
  simp only [st, M.word, Nat.add_zero, w13, ops13]
  rw [if_neg (by lia), h1, h]
  have e : itemWidth c2 13 = 12 := by decide
  simp only [e]
theorem in2_no (h : p < T.size → hexd (T.getD p 0) = false) : ∃ seen', (st T s 25 p hd om fr wt none seen mk lm li).step = st T s 25 p hd om fr wt (some false) seen' mk lm li := by
  by_cases hp : p < T.size
  · obtain ⟨s1, h1⟩ := accepts2 (T.getD p 0) (seen.add 13)
    refine ⟨s1, ?_⟩
    rw [step_of rfl rfl (by show 25 < c2.size; decide)]
    unfold M.exec
    simp only [st, M.word, Nat.add_zero, w25, ops13]
    rw [if_neg (by lia), h1, h hp]
    simp [M.say]
  · refine ⟨seen.add 13, ?_⟩
    rw [step_of rfl rfl (by show 25 < c2.size; decide)]
    unfold M.exec
    simp only [st, M.word, Nat.add_zero, w25, ops13]
    rw [if_pos (by lia)]
    simp [M.say]
theorem in2_yes (hp : p < T.size) (h : hexd (T.getD p 0) = true) : ∃ seen', (st T s 25 p hd om fr wt none seen mk lm li).step = st T s 37 (p + 1) hd om fr wt none seen' mk lm li := by
  obtain ⟨s1, h1⟩ := accepts2 (T.getD p 0) (seen.add 13)
  refine ⟨s1, ?_⟩
  rw [step_of rfl rfl (by show 25 < c2.size; decide)]
  unfold M.exec
  simp only [st, M.word, Nat.add_zero, w25, ops13]
  rw [if_neg (by lia), h1, h]
  have e : itemWidth c2 25 = 12 := by decide
  simp only [e]
theorem success : ∃ seen', (st T s 39 p hd om fr wt none seen mk lm li).step = st T s 39 p p om fr wt (some true) seen' mk lm li := by
  refine ⟨seen.add 1, ?_⟩
  rw [step_of rfl rfl (by show 39 < c2.size; decide)]
  unfold M.exec
  simp only [st, M.word, Nat.add_zero, w39, ops1]
  simp [M.say]
theorem pop0_yes {pc q : Nat} {b : Bool} : (st T s pc p hd om [F0 q b] 1 (some true) seen mk lm li).step = st T s 9 q hd b [] 0 (some true) seen mk lm li := by
  unfold M.step M.resume
  simp [st, F0, M.say]
theorem pop0_no {pc : Nat} {b : Bool} : (st T s pc p hd om [F0 s b] 1 (some false) seen mk lm li).step =
    (if s < T.size then st T (s + 1) 9 (s + 1) (s + 1) false [F0 (s + 1) false] 1 none seen mk (-1) (-1) else st T s 9 s hd b [] 0 (some false) seen mk lm li) := by
  unfold M.step M.resume
  simp only [st, F0, Option.isSome_none, Bool.false_eq_true, if_false, M.putBack]
  by_cases h : s < T.size
  · refine Eq.trans (if_pos (c := s < T.size) h) ?_
    refine Eq.trans ?_ (if_pos (c := s < T.size) h).symm
    unfold M.attemptFrom
    refine Eq.trans (if_pos (by rfl)) ?_
    unfold M.attemptAt M.attempt
    simp
  · refine Eq.trans (if_neg (c := s < T.size) h) ?_
    refine Eq.trans ?_ (if_neg (c := s < T.size) h).symm
    simp [M.say]
/-- the pattern fits at a place -/
noncomputable def m2 (T : Array Nat) (s : Nat) : Bool := decide (s + 2 < T.size) && T.getD s 0 == 37 && hexd (T.getD (s + 1) 0) && hexd (T.getD (s + 2) 0)
theorem on {a b : M} {m' : M} {n : Nat} (h : a.outcome = none) (e : a.step = b) (x : StepsN n b m') : StepsN (n + 1) a m' := .step h (e ▸ x)
theorem st_out {T s pc pos handed om fr wt ans seen mk lm li} : (st T s pc pos handed om fr wt ans seen mk lm li).outcome = none := rfl
/-- how it ends: with the first place that fits, or with none -/
noncomputable def End (T : Array Nat) (l : List Nat) (m' : M) : Prop := match l.find? (m2 T) with
  | none => m'.outcome = some .failed
  | some i => m'.outcome = some .matched ∧ m'.start = i ∧ m'.handed = i + 3 ∧ m'.marks = #[some (i + 1), some (i + 3)] ∧ m'.lastmark = 1 ∧ m'.lastindex = 1
theorem from_start : ∀ (d s hd : Nat) (om : Bool) (seen : Seen) (mk : Array (Option Nat)), mk.size = 2 → d = T.size - s → s ≤ T.size →
    ∃ n, n ≤ (d + 1) * 8 ∧ ∃ m', StepsN n (st T s 9 s hd om [F0 s om] 1 none seen mk (-1) (-1)) m' ∧ End T (List.range' s d) m' := by
  intro d
  induction d with
  | zero =>
    intro s hd om seen mk hmk hd0 hs
    obtain ⟨s1, h1⟩ := lit_end (T := T) (s := s) (p := s) (hd := hd) (om := om) (fr := [F0 s om]) (wt := 1) (seen := seen) (mk := mk) (lm := -1) (li := -1) (by lia)
    have h2 := pop0_no (T := T) (s := s) (p := s) (hd := hd) (om := om) (seen := s1) (pc := 9) (b := om) (mk := mk) (lm := -1) (li := -1)
    rw [if_neg (by lia)] at h2
    refine ⟨0 + 1 + 1 + 1, by lia, _, on st_out h1 (on st_out h2 (on st_out rfl (.refl _))), ?_⟩
    rfl
  | succ d ih =>
    intro s hd om seen mk hmk hd0 hs
    have hlt : s < T.size := by lia
    have hr : m2 T s = false → ∀ hd seen p pc mk lm li, mk.size = 2 → ∃ n, n ≤ (d + 1) * 8 + 1 ∧ ∃ m', StepsN n (st T s pc p hd om [F0 s om] 1 (some false) seen mk lm li) m' ∧ End T (List.range' s (d + 1)) m' := by
      intro hm hd seen p pc mk lm li hmk
      have h2 := pop0_no (T := T) (s := s) (p := p) (hd := hd) (om := om) (seen := seen) (pc := pc) (b := om) (mk := mk) (lm := lm) (li := li)
      rw [if_pos hlt] at h2
      obtain ⟨n, hn, m', x, ho⟩ := ih (s + 1) (s + 1) false seen mk hmk (by lia) (by lia)
      refine ⟨n + 1, by lia, m', on st_out h2 x, ?_⟩
      unfold End at ho ⊢
      rw [List.range'_succ, List.find?_cons, hm]
      exact ho
    have hB : (d + 1 + 1) * 8 = (d + 1) * 8 + 8 := by rw [Nat.succ_mul]
    rw [hB]
    generalize hBB : (d + 1) * 8 = B at hr ⊢
    by_cases hc : T.getD s 0 = 37
    · obtain ⟨s1, h1⟩ := lit_yes (T := T) (s := s) (p := s) (hd := hd) (om := om) (fr := [F0 s om]) (wt := 1) (seen := seen) (mk := mk) (lm := -1) (li := -1) hlt hc
      obtain ⟨s2, h2⟩ := mark0 (T := T) (s := s) (p := s + 1) (hd := hd) (om := om) (fr := [F0 s om]) (wt := 1) (seen := s1) (mk := mk)
      by_cases ha : s + 1 < T.size ∧ hexd (T.getD (s + 1) 0) = true
      · obtain ⟨s3, h3⟩ := in1_yes (T := T) (s := s) (p := s + 1) (hd := hd) (om := om) (fr := [F0 s om]) (wt := 1) (seen := s2) (mk := mk.setIfInBounds 0 (some (s + 1))) (lm := 0) (li := -1) ha.1 ha.2
        by_cases hb : s + 2 < T.size ∧ hexd (T.getD (s + 2) 0) = true
        · obtain ⟨s4, h4⟩ := in2_yes (T := T) (s := s) (p := s + 1 + 1) (hd := hd) (om := om) (fr := [F0 s om]) (wt := 1) (seen := s3) (mk := mk.setIfInBounds 0 (some (s + 1))) (lm := 0) (li := -1) hb.1 hb.2
          obtain ⟨s5, h5⟩ := mark1 (T := T) (s := s) (p := s + 1 + 1 + 1) (hd := hd) (om := om) (fr := [F0 s om]) (wt := 1) (seen := s4) (mk := mk.setIfInBounds 0 (some (s + 1)))
          obtain ⟨s6, h6⟩ := success (T := T) (s := s) (p := s + 1 + 1 + 1) (hd := hd) (om := om) (fr := [F0 s om]) (wt := 1) (seen := s5) (mk := (mk.setIfInBounds 0 (some (s + 1))).setIfInBounds 1 (some (s + 1 + 1 + 1))) (lm := 1) (li := 1)
          refine ⟨0 + 1 + 1 + 1 + 1 + 1 + 1 + 1 + 1, by lia, _, on st_out h1 (on st_out h2 (on st_out h3 (on st_out h4 (on st_out h5 (on st_out h6 (on st_out pop0_yes (on st_out rfl (.refl _)))))))), ?_⟩
          have hm : m2 T s = true := by unfold m2; rw [hc, ha.2, hb.2]; simp; lia
          unfold End
          rw [List.range'_succ, List.find?_cons, hm]
          refine ⟨rfl, rfl, rfl, ?_, rfl, rfl⟩
          show (mk.setIfInBounds 0 (some (s + 1))).setIfInBounds 1 (some (s + 1 + 1 + 1)) = _
          obtain ⟨x, y, rfl⟩ : ∃ x y, mk = #[x, y] := by
            obtain ⟨l⟩ := mk
            match l, hmk with
            | [x, y], _ => exact ⟨x, y, rfl⟩
          rfl
        · have hm : m2 T s = false := by
            cases e : m2 T s with
            | false => rfl
            | true => unfold m2 at e; simp only [Bool.and_eq_true, decide_eq_true_eq, beq_iff_eq] at e; exact absurd ⟨e.1.1.1, e.2⟩ hb
          obtain ⟨s4, h4⟩ := in2_no (T := T) (s := s) (p := s + 1 + 1) (hd := hd) (om := om) (fr := [F0 s om]) (wt := 1) (seen := s3) (mk := mk.setIfInBounds 0 (some (s + 1))) (lm := 0) (li := -1) (fun h => by
            cases e : hexd (T.getD (s + 1 + 1) 0) with
            | false => rfl
            | true => exact absurd ⟨h, e⟩ hb)
          obtain ⟨n, hn, m', x, ho⟩ := hr hm hd s4 (s + 1 + 1) 25 (mk.setIfInBounds 0 (some (s + 1))) 0 (-1) (by simpa using hmk)
          exact ⟨n + 1 + 1 + 1 + 1, by lia, m', on st_out h1 (on st_out h2 (on st_out h3 (on st_out h4 x))), ho⟩
      · have hm : m2 T s = false := by
          cases e : m2 T s with
          | false => rfl
          | true => unfold m2 at e; simp only [Bool.and_eq_true, decide_eq_true_eq, beq_iff_eq] at e; exact absurd ⟨by lia, e.1.2⟩ ha
        obtain ⟨s3, h3⟩ := in1_no (T := T) (s := s) (p := s + 1) (hd := hd) (om := om) (fr := [F0 s om]) (wt := 1) (seen := s2) (mk := mk.setIfInBounds 0 (some (s + 1))) (lm := 0) (li := -1) (fun h => by
          cases e : hexd (T.getD (s + 1) 0) with
          | false => rfl
          | true => exact absurd ⟨h, e⟩ ha)
        obtain ⟨n, hn, m', x, ho⟩ := hr hm hd s3 (s + 1) 13 (mk.setIfInBounds 0 (some (s + 1))) 0 (-1) (by simpa using hmk)
        exact ⟨n + 1 + 1 + 1, by lia, m', on st_out h1 (on st_out h2 (on st_out h3 x)), ho⟩
    · have hm : m2 T s = false := by
        unfold m2; rw [show (T.getD s 0 == 37) = false from beq_false_of_ne hc]; simp
      obtain ⟨s1, h1⟩ := lit_no (T := T) (s := s) (p := s) (hd := hd) (om := om) (fr := [F0 s om]) (wt := 1) (seen := seen) (mk := mk) (lm := -1) (li := -1) hlt hc
      obtain ⟨n, hn, m', x, ho⟩ := hr hm hd s1 s 9 mk (-1) (-1) hmk
      exact ⟨n + 1, by lia, m', on st_out h1 x, ho⟩
theorem search : ∃ n, n ≤ (T.size + 1) * 8 ∧ ∃ m', StepsN n (Sre.forSearch c2 T 1 0 T.size false) m' ∧ End T (List.range T.size) m' := by
  by_cases h : T.size < 3
  · have hm : (List.range T.size).find? (m2 T) = none := by
      rw [List.find?_eq_none]
      intro s hs
      rw [List.mem_range] at hs
      unfold m2
      simp; lia
    refine ⟨1, by lia, _, on (n := 0) ?_ rfl (.refl _), ?_⟩
    · unfold Sre.forSearch
      rw [if_pos (by rw [show (header c2).1 = 3 by decide]; simp; lia)]
      rfl
    · unfold End
      rw [hm]
      unfold Sre.forSearch
      rw [if_pos (by rw [show (header c2).1 = 3 by decide]; simp; lia)]
      rfl
  · obtain ⟨n, hn, m', x, ho⟩ := from_start (T := T) T.size 0 0 true ({} |> fun x : Seen => x.add 14) #[none, none] rfl (by lia) (by lia)
    have e : Sre.forSearch c2 T 1 0 T.size false = st T 0 9 0 0 true [F0 0 true] 1 none (({} : Seen).add 14) #[none, none] (-1) (-1) := by
      unfold Sre.forSearch
      rw [if_neg (by rw [show (header c2).1 = 3 by decide]; simp; lia)]
      unfold M.attemptFrom
      refine Eq.trans (if_pos (by rfl)) ?_
      rfl
    exact ⟨n, hn, m', e ▸ x, by rw [List.range_eq_range']; exact ho⟩
end R2
end
section
open PySem PySem.Sre PySem.W PySem.Calls PyProof.Rows PySem.Builtin PySem.F
set_option maxRecDepth 100000
section
variable {C : Cx} {m : Map} {R : Led}
theorem ev_isnotRN {a : Addr} {P : Value → Map → Led → Prop} (h : P (.bool true) m R) : Ev C m R (compareOp .IsNot (.ref a) .none) P := fun _ X => isnot_ref_none ⟨m, R, X, h⟩
theorem ev_isnotNN {P : Value → Map → Led → Prop} (h : P (.bool false) m R) : Ev C m R (compareOp .IsNot .none .none) P := fun _ X => isnot_none_none ⟨m, R, X, h⟩

/-- two names or places at once -/
theorem ev_assigntup {elts : List Expr} {k : Nat} {tpos pos : Pos} {value : Expr} {P : Flow → Map → Led → Prop}
    (h : Ev C m R (eval value C.env) (fun v m1 R1 => Ev C m1 R1 (assign (.Tuple elts k tpos) C.env v) (fun _ m2 R2 => P .next m2 R2)))
    (hs : swapsWithSole [.Tuple elts k tpos] value pos.line C.env = Pure.pure false) (hw : swappedStores [.Tuple elts k tpos] value C.env = Pure.pure none) :
    Ev C m R (exec (.Assign [.Tuple elts k tpos] value pos) C.env) P := fun s X =>
  Assign_Tuple (wpAny_mono (h s X) (fun v s1 zx => exE zx fun _ _ Y p => p s1 Y) fun _ _ x => x) hs hw
theorem At.stay' (x : At C m R s) {h' : Heap} {n : Nat} (k : Heap.ExtBut s.heap.objs.size s.heap h') : At C m R { s with heap := h' } :=
  x.stay (tk := s.toks) fun b o e => k b o (Nat.ne_of_lt (Heap.lt_size e)) e
theorem ev_unpack {elts : List Expr} {k : Nat} {pos : Pos} {t : Addr} {vs : List Value} {P : Unit → Map → Led → Prop} (hh : Has C R t (.tup vs))
    (h : Ev C m R (assignInOrder ((assignEach elts C.env).map (·.2)) vs) P) (hn : (assignEach elts C.env).length = vs.length) (hstar : (assignEach elts C.env).findIdx? (·.1) = none) :
    Ev C m R (assign (.Tuple elts k pos) C.env (.ref t)) P := fun s X =>
  assign_Tuple_tuple X.hh (X.has hh).isTup (by simpa using hn) hstar fun h' e => by
    simpa using h _ (X.stay' (n := 0) e)
theorem ev_assigntup_swapped {elts : List Expr} {k : Nat} {tpos pos : Pos} {value : Expr} {names : List Str} {P : Flow → Map → Led → Prop}
    (h : Ev C m R (eval value C.env) (fun v m1 R1 => ∃ t vs, v = .ref t ∧ Has C R1 t (.tup vs) ∧ names.length = vs.length ∧ Ev C m1 R1 (assignInOrder (names.reverse.map fun n => bindName C.env n) vs.reverse) (fun _ m2 R2 => P .next m2 R2)))
    (hs : swapsWithSole [.Tuple elts k tpos] value pos.line C.env = Pure.pure false) (hw : swappedStores [.Tuple elts k tpos] value C.env = Pure.pure (some names)) :
    Ev C m R (exec (.Assign [.Tuple elts k tpos] value pos) C.env) P := fun s X =>
  Assign_Tuple_swapped (wpAny_mono (h s X) (fun v s1 ⟨_, _, Y, t, vs, e, hh, hl, p⟩ => by
    subst e
    rw [hl, ← List.size_toArray]
    refine unpackItems_tuple Y.hh (Y.has hh).isTup fun h' e => ?_
    simpa using p _ (Y.stay' (n := 0) e)) fun _ _ x => x) hs hw
theorem ev_ord_nil {xs : List Value} {P : Unit → Map → Led → Prop} (h : P () m R) : Ev C m R (assignInOrder [] xs) P := fun _ X => assignInOrder_nil ⟨m, R, X, h⟩
theorem ev_ord_cons {t : Value → Sem Unit} {ts : List (Value → Sem Unit)} {x : Value} {xs : List Value} {P : Unit → Map → Led → Prop} (h : Ev C m R (t x) (fun _ m1 R1 => Ev C m1 R1 (assignInOrder ts xs) P)) :
    Ev C m R (assignInOrder (t :: ts) (x :: xs)) P := fun s X => assignInOrder_cons (wpAny_mono (h s X) (fun _ s1 zx => exE zx fun _ _ Y p => p s1 Y) fun _ _ x => x)
theorem ev_asgname {x : Str} {pos : Pos} {v : Value} {P : Unit → Map → Led → Prop} (W : Fw C) (hk : Var C.env x) (h : P () (sv m x v) R) : Ev C m R (assign (.Name x pos) C.env v) P := fun s X =>
  assign_Name (ev_store W hk h s X)
theorem ev_bindname {x : Str} {v : Value} {P : Unit → Map → Led → Prop} (W : Fw C) (hk : Var C.env x) (h : P () (sv m x v) R) : Ev C m R (bindName C.env x v) P := fun s X =>
  bindName_ (ev_store W hk h s X)
theorem ev_asgsub {o i : Expr} {pos : Pos} {v : Value} {P : Unit → Map → Led → Prop}
    (h : Ev C m R (eval o C.env) (fun ov m1 R1 => Ev C m1 R1 (eval i C.env) (fun iv m2 R2 => Ev C m2 R2 (setItem ov iv v) P))) : Ev C m R (assign (.Subscript o i pos) C.env v) P := fun s X => by
  rw [assign_Subscript]
  refine wpAny_bind (wpAny_holding (wpAny_mono (h s X) (fun ov s1 zx => exE zx fun _ _ Y p => ?_) fun _ _ x => x))
  refine wpAny_bind (wpAny_holding (wpAny_mono (p s1 Y) (fun iv s2 zx => exE zx fun _ _ Z q => ?_) fun _ _ x => x))
  refine wpAny_bind (wpAny_standAt (wpAny_bind (wpAny_holding (wpAny_mono (q s2 Z) (fun _ s3 zx => exE zx fun _ _ U r => ?_) fun _ _ x => x))))
  exact wpAny_release ⟨_, _, U, r⟩

/-- a match's methods -/
theorem ev_getgroup {a : Addr} {o : Obj} {pl : Sem Bool} {P : Value × List Value → Map → Led → Prop} (hh : Has C R a (.raw o)) (hc : o.cls = .type "re.Match") (hd : o.dict = none) (h : P (.builtin "re.Match.group", [.ref a]) m R) :
    Ev C m R (getMethod (.ref a) "group" pl) P := fun s X => by
  obtain ⟨o', ho, rfl⟩ := X.has hh
  exact getMethod_ref ho hc hd ga_mat canon_obj no_ga_mat slot_group.lookup type_group ⟨m, R, X, h⟩
theorem ev_getspan {a : Addr} {o : Obj} {pl : Sem Bool} {P : Value × List Value → Map → Led → Prop} (hh : Has C R a (.raw o)) (hc : o.cls = .type "re.Match") (hd : o.dict = none) (h : P (.builtin "re.Match.span", [.ref a]) m R) :
    Ev C m R (getMethod (.ref a) "span" pl) P := fun s X => by
  obtain ⟨o', ho, rfl⟩ := X.has hh
  exact getMethod_ref ho hc hd ga_mat canon_obj no_ga_mat slot_span.lookup type_span ⟨m, R, X, h⟩
theorem ev_group {a b p : Addr} {lm : Nat} {x : List Nat} {t u : Tok} {m' : Sre.M} {s0 e0 i j : Nat} {P : Value → Map → Led → Prop} (hh : Has C R a (.raw (matObj lm b p (S x) t m'))) (hb : Has C R b (.tup [rawInt s0, rawInt e0, rawInt i, rawInt j]))
    (hx : x.length ≤ 1000) (h : ∀ t, P (.str (S ((x.take j).drop i)) t) m R) : Ev C m R (call (.builtin "re.Match.group") [.ref a, .int 1 u]) P := fun s X => by
  obtain ⟨o', ho, rfl⟩ := X.has hh
  obtain ⟨o2, ho2, n, rfl⟩ := X.has hb
  refine wpAny_call_entry slot_group ⟨_, ho, rfl⟩ entry_group ?_ (args_group _ _)
  unfold «re.Match.group»
  refine wpAny_bind (m := noKeywords "Match.group" ⟨[.ref a, .int 1 u], []⟩) (wpAny_pure ?_)
  refine wpAny_bind (m := Re.reFound (.ref a)) (wpAny_bind (wpAny_fieldsOf ho rfl ?_))
  refine wpAny_bind (m := Re.reRawItems (.ref b)) (wpAny_bind (wpAny_seqItems ho2 rfl (wpAny_pure ?_)))
  have er : Array.map Re.reRawOf ((some [rawInt (s0 : Int), rawInt (e0 : Int), rawInt (i : Int), rawInt (j : Int)].toArray).getD #[]) = #[(s0 : Int), (e0 : Int), (i : Int), (j : Int)] := by
    rw [Option.getD_some, List.map_toArray]; rfl
  rw [er]
  refine wpAny_pure ?_
  refine wpAny_bind (m := Re.reGroupNumber _ (.int 1 u)) (wpAny_of_eq (a := 1) (by with_unfolding_all rfl) ?_)
  unfold Re.reGroupText
  refine wpAny_bind ?_
  refine (congrArg (fun z => wpAny (model Prg C.w) C.A.in1 z _ _ s) (if_neg (c := (decide ((i : Int) < 0) || decide ((j : Int) < 0)) = true) (by simp))).mpr ?_
  refine wpAny_bind (m := Re.reTextOf (.str (S x) t)) (wpAny_of_eq (by rfl) ?_)
  show wpAny _ _ (mkStr ⟨(S x).cps.extract (i : Int).toNat (j : Int).toNat⟩) _ _ _
  have e : (⟨(S x).cps.extract (i : Int).toNat (j : Int).toNat⟩ : Str) = S ((x.take j).drop i) := by
    rw [Int.toNat_natCast, Int.toNat_natCast]
    show (⟨x.toArray.extract i j⟩ : Str) = ⟨((x.take j).drop i).toArray⟩
    rw [List.extract_toArray, List.extract_eq_take_drop]
    congr 2
    rw [List.drop_take]
  rw [e]
  refine wpAny_mkStr (wpAny_pure ⟨_, rfl, m, R, X.toks, h _⟩) ?_
  rw [S_len, sizeLine_eq]
  simp
  omega
theorem ev_span {a b p : Addr} {lm : Nat} {x : List Nat} {t u : Tok} {m' : Sre.M} {s0 e0 i j : Nat} {P : Value → Map → Led → Prop} (hh : Has C R a (.raw (matObj lm b p (S x) t m'))) (hb : Has C R b (.tup [rawInt s0, rawInt e0, rawInt i, rawInt j]))
    (h : ∀ c t1 t2, New C R c → P (.ref c) m ((c, .tup [.int s0 t1, .int e0 t2]) :: R)) : Ev C m R (call (.builtin "re.Match.span") [.ref a, .int 0 u]) P := fun s X => by
  obtain ⟨o', ho, rfl⟩ := X.has hh
  obtain ⟨o2, ho2, n, rfl⟩ := X.has hb
  refine wpAny_call_entry slot_span ⟨_, ho, rfl⟩ entry_span ?_ (args_span _ _)
  unfold «re.Match.span» Re.reOneGroup
  refine wpAny_bind (wpAny_bind (m := selfAndSome "Match.span" "span" 0 1 ⟨[.ref a, .int 0 u], []⟩) (wpAny_of_eq (by with_unfolding_all rfl) ?_))
  refine wpAny_bind (m := Re.reFound (.ref a)) (wpAny_bind (wpAny_fieldsOf ho rfl ?_))
  refine wpAny_bind (m := Re.reRawItems (.ref b)) (wpAny_bind (wpAny_seqItems ho2 rfl (wpAny_pure ?_)))
  have er : Array.map Re.reRawOf ((some [rawInt (s0 : Int), rawInt (e0 : Int), rawInt (i : Int), rawInt (j : Int)].toArray).getD #[]) = #[(s0 : Int), (e0 : Int), (i : Int), (j : Int)] := by
    rw [Option.getD_some, List.map_toArray]; rfl
  rw [er]
  refine wpAny_pure ?_
  refine wpAny_bind (m := Re.reGroupNumber _ (.int 0 u)) (wpAny_of_eq (a := 0) (by with_unfolding_all rfl) ?_)
  refine wpAny_pure ?_
  refine wpAny_bind (wpAny_mkInt ?_)
  refine wpAny_bind (wpAny_mkInt ?_)
  refine wpAny_bind (wpAny_newTuple ?_ (hsz := by show 2 ≤ sizeLine; rw [sizeLine_eq]; omega))
  refine wpAny_pure ⟨_, rfl, ?_⟩
  have Y := (X.toks (tk := s.toks + 1 + 1)).push (c := .tup [.int s0 s.toks, .int e0 (s.toks + 1)]) (tk := s.toks + 1 + 1) (o := { cls := .type "tuple", data := .seq #[.int s0 s.toks, .int e0 (s.toks + 1)] }) ⟨0, rfl⟩ rfl
  exact ⟨m, _, Y, h _ _ _ X.isNew⟩
end
end
section
open PySem PySem.W PySem.Calls PyProof.Rows PySem.Builtin
set_option maxRecDepth 100000
set_option maxHeartbeats 2000000
theorem mod_pct {prog : Program} {w : World} {A : Around} {E : Value → Shared → Prop} {s : Shared} {y : PySem.Str} {t u : Tok} {Q : Value → Shared → Prop} (hy : y.length ≤ 1000000)
    (h : ∀ t' k, Q (.str (Str.ofString "%" ++ y) t') { s with toks := k }) : wpAny (model prog w) A (binaryOp .Mod (.str (Str.ofString "%%%s") t) (.str y u)) Q E s := by
  refine KPc.mod_str (T := fun z => Str.ofString "%" ++ z) (X' := ⟨#[37, 37, 37, 115]⟩) (by decide +kernel) hy ?_ h
  k_dflt kpc_run_s
section
variable {C : Cx} {m : Map} {R : Led}
theorem lit_pct : Str.ofString "%" = S [37] := by decide +kernel
theorem ev_pct {y : List Nat} {t u : Tok} {P : Value → Map → Led → Prop} (hy : y.length ≤ 1000) (h : ∀ t, P (.str (S (37 :: y)) t) m R) : Ev C m R (binaryOp .Mod (.str (Str.ofString "%%%s") t) (.str (S y) u)) P := fun s X =>
  mod_pct (by rw [S_len]; lia) fun t' k => ⟨m, R, X.toks, by rw [lit_pct, S_append]; exact h t'⟩
theorem ev_getupper {y : Str} {u : Tok} {pl : Sem Bool} {P : Value × List Value → Map → Led → Prop} (h : P (.builtin "str.upper", [.str y u]) m R) : Ev C m R (getMethod (.str y u) "upper" pl) P := fun _ X => GM.upper ⟨m, R, X, h⟩
theorem ev_upper {y z : List Nat} {u : Tok} {P : Value → Map → Led → Prop} (e : Txt.upper (S y) = S z) (hl : z.length ≤ 1000) (h : ∀ t, P (.str (S z) t) m R) : Ev C m R (call (.builtin "str.upper") [.str (S y) u]) P := fun s X =>
  SC.upper (by rw [e, S_len]; unfold PySem.Builtin.Str.tooLong; simp [sizeLine_eq]; lia) ⟨m, R, X.toks, by rw [e]; exact h _⟩
end
theorem up_aB : Txt.upper (S [97, 66]) = S [65, 66] := by decide +kernel
theorem up_Af : Txt.upper (S [65, 102]) = S [65, 70] := by decide +kernel
/-- a figure's great form -/
noncomputable def upc (c : Nat) : Nat := if c = 97 then 65 else if c = 102 then 70 else c
noncomputable def Two (l : List Nat) : Prop := l = [97, 66] ∨ l = [65, 102]
theorem up_two {l : List Nat} (h : Two l) : Txt.upper (S l) = S (l.map upc) := by
  rcases h with rfl | rfl
  · exact up_aB
  · exact up_Af
theorem d_upper (w : World) (a b p : Addr) (lm : Nat) (x : List Nat) (t : Tok) (m' : Sre.M) (s0 e0 i j : Nat) (hx : x.length ≤ 100) (h2 : Two ((x.take j).drop i)) :
    Does w 62 1 40 [.ref a] (fun h => Holds w h a (.raw (matObj lm b p (S x) t m')) ∧ Holds w h b (.tup [rawInt s0, rawInt e0, rawInt i, rawInt j]))
      (fun v _ => ∃ t, v = .str (S (37 :: ((x.take j).drop i).map upc)) t) := by
  refine does_of (d := 0) (u := 36) (binds := [("match", .ref a)]) (by k_is) (by k_is) (fun s => BindsTo.of_eq rfl) ?_
  intro C L hw hd hu hH hE W hpre
  subst hw
  repeat walk_at "go"
  refine ev_methcall ?_
  refine ev_methcall ?_
  repeat walk_at "go"
  refine ev_getgroup (.base hpre.1) rfl rfl ?_
  repeat walk_at "go"
  refine ev_group (.base hpre.1) (.base hpre.2) (by lia) fun _ => ?_
  refine ev_getupper ?_
  refine ev_call_builtin0 ?_
  have hl : ((x.take j).drop i).length = 2 := by rcases h2 with e | e <;> rw [e] <;> rfl
  refine ev_upper (up_two h2) (by rw [List.length_map, hl]; lia) fun _ => ?_
  refine ev_pct (by rw [List.length_map, hl]; lia) fun _ => ?_
  exact ⟨[], List.nil_sublist _, _, rfl⟩
end
section
open PySem PySem.W PySem.Calls PyProof.Rows PySem.Builtin
set_option maxRecDepth 100000
set_option maxHeartbeats 2000000
/-- the first escape's place -/
noncomputable def fm (x : List Nat) : Option Nat := (List.range x.length).find? (R2.m2 x.toArray)
noncomputable def great : Nat → List Nat → List Nat
  | 0, x => x
  | n + 1, x => match fm x with
    | none => x
    | some s => x.take s ++ (37 :: ((x.take (s + 3)).drop (s + 1)).map upc ++ great n (x.drop (s + 3)))
noncomputable def EscOk (x : List Nat) : Prop := ∀ s, R2.m2 x.toArray s = true → Two ((x.take (s + 3)).drop (s + 1))
theorem getD_drop (x : List Nat) (k i : Nat) : (x.drop k).toArray.getD i 0 = x.toArray.getD (k + i) 0 := by
  simp [Array.getD_eq_getD_getElem?, List.getElem?_drop]
theorem m2_drop {x : List Nat} {k s : Nat} (h : R2.m2 (x.drop k).toArray s = true) : R2.m2 x.toArray (k + s) = true := by
  unfold R2.m2 at h ⊢
  rw [getD_drop, getD_drop, getD_drop] at h
  simp only [Bool.and_eq_true, decide_eq_true_eq, List.size_toArray, List.length_drop] at h ⊢
  refine ⟨⟨⟨by lia, h.1.1.2⟩, ?_⟩, ?_⟩
  · rw [Nat.add_assoc]; exact h.1.2
  · rw [Nat.add_assoc]; exact h.2
theorem EscOk.drop {x : List Nat} (h : EscOk x) (k : Nat) : EscOk (x.drop k) := fun s hs => by
  have := h (k + s) (m2_drop hs)
  rwa [List.drop_take, List.drop_drop, show k + (s + 1) = k + s + 1 by lia, show s + 3 - (s + 1) = k + s + 3 - (k + s + 1) by lia, ← List.drop_take]
theorem fm_some {x : List Nat} {s : Nat} (h : fm x = some s) : R2.m2 x.toArray s = true ∧ s + 2 < x.length := by
  have := List.find?_some h
  refine ⟨this, ?_⟩
  unfold R2.m2 at this
  simp only [Bool.and_eq_true, decide_eq_true_eq, List.size_toArray] at this
  exact this.1.1.1
theorem pat2 (w : World) {h : Heap} (G : (hd.heap_39 w.params).In h) : PatIn h 55 R2.c2 1 :=
  patIn_of (cd := 54) G (by k_is) (by k_is) (by rfl) (by simp [Re.reRawOf, R2.c2]) (by rfl) (by rfl)
/-- a search for an escape -/
theorem ev_esc {C : Cx} {m : Map} {R : Led} {x : List Nat} {t : Tok} {P : Value → Map → Led → Prop} (hx : x.length ≤ 100) (hno : fm x = none → P .none m R)
    (hyes : ∀ s, fm x = some s → ∀ lm m' b, New C R b → ∀ a, New C ((b, .tup [rawInt s, rawInt ((s + 3 : Nat) : Int), rawInt ((s + 1 : Nat) : Int), rawInt ((s + 3 : Nat) : Int)]) :: R) a →
      P (.ref a) m ((a, .raw (matObj lm b 55 (S x) t m')) :: (b, .tup [rawInt s, rawInt ((s + 3 : Nat) : Int), rawInt ((s + 1 : Nat) : Int), rawInt ((s + 3 : Nat) : Int)]) :: R)) :
    Ev C m R (call (.builtin "re.Pattern.search") [.ref 55, .str (S x) t]) P := by
  refine Ev.gl fun G => ?_
  obtain ⟨n, hn, m', hst, hend⟩ := R2.search (T := x.toArray)
  rw [List.size_toArray] at hn hst hend
  unfold R2.End at hend
  have hfm : (List.range x.length).find? (R2.m2 x.toArray) = fm x := rfl
  rw [hfm] at hend
  cases hf : fm x with
  | none =>
    rw [hf] at hend
    have ho : m'.outcome = some .failed := hend
    refine ev_search (pat2 C.w G.K) (by lia) hst (by lia) (.inr ho) (fun e => by rw [ho] at e; cases e) (fun _ => hno hf) fun e => by rw [ho] at e; cases e
  | some s =>
    rw [hf] at hend
    obtain ⟨h1, h2, h3, h4, h5, h6⟩ := hend
    have e1 : spansOf 1 m' = [rawInt ((s + 1 : Nat) : Int), rawInt ((s + 3 : Nat) : Int)] := by
      unfold spansOf; simp [h4, h5]
    refine ev_search (pat2 C.w G.K) (by lia) hst (by lia) (.inl h1) (fun _ => ⟨?_, ?_⟩) (fun e => by rw [h1] at e; cases e) fun e => ?_
    · unfold noWrong; simp [h4, h5]
    · rw [e1]; simp
    · rw [e1, h2, h3]; intro lm b hb a ha; exact hyes s hf lm m' b hb a ha
end
section
open PySem PySem.W PySem.Calls PyProof.Rows PySem.Builtin
set_option maxRecDepth 100000
set_option maxHeartbeats 2000000
theorem great_none {x : List Nat} (h : fm x = none) : ∀ f, great f x = x
  | 0 => rfl
  | f + 1 => by unfold great; rw [h]
/-- the place found, as it stands in the names -/
noncomputable def Found (y : List Nat) (m : Map) (R : Led) : Prop := (fm y = none ∧ m "found" = some .none) ∨ (∃ s a b lm t m', fm y = some s ∧ m "found" = some (.ref a) ∧ (a, Cell.raw (matObj lm b 55 (S y) t m')) ∈ R ∧
  (b, Cell.tup [rawInt s, rawInt ((s + 3 : Nat) : Int), rawInt ((s + 1 : Nat) : Int), rawInt ((s + 3 : Nat) : Int)]) ∈ R)
theorem d_great (w : World) (x : List Nat) (t : Tok) (hx : x.length ≤ 50) (he : EscOk x) : Does w 169 2 60 [.str (S x) t] (fun _ => True) (fun v _ => ∃ t, v = .str (S (great 50 x)) t) := by
  refine does_of (d := 1) (u := 56) (binds := [("text", .str (S x) t)]) (by k_is) (by k_is) (fun s => BindsTo.of_eq rfl) ?_
  intro C L hw hdp hun hH hE W hpre
  subst hw
  refine Ev.gl fun G => ?_
  have hp := pat2 C.w G.K
  repeat walk_at "go"
  rw [show Str.ofString "" = S [] from rfl]
  refine ev_methcall ?_
  repeat walk_at "go"
  refine ev_getsearch hp ?_
  repeat walk_at "go"
  refine Ev.mono (P := fun v m1 R1 => m1 = sv (lk [("text", .str (S x) t)]) "great" (.str (S []) _) ∧ Found x (sv m1 "found" v) R1) (ev_esc (by lia) (fun hn => ⟨rfl, .inl ⟨hn, sv_self⟩⟩) fun s hs lm m' b hb a ha =>
    ⟨rfl, .inr ⟨s, a, b, lm, _, m', hs, sv_self, List.mem_cons_self, List.mem_cons_of_mem _ List.mem_cons_self⟩⟩) ?_
  rintro v m1 R1 ⟨rfl, hF⟩
  repeat walk_at "go"
  refine ev_while (fun n m R => ∃ g y f tg ty, y.length = n ∧ y.length ≤ f ∧ g.length + y.length = x.length ∧ EscOk y ∧ g ++ great f y = great 50 x ∧ m "great" = some (.str (S g) tg) ∧ m "text" = some (.str (S y) ty) ∧ Found y m R) x.length
    ⟨[], x, 50, _, t, rfl, hx, by simp, he, rfl, by walk_at "lk", by walk_at "lk", hF⟩ ?_
  rintro n m₁ R₁ ⟨g, y, f, tg, ty, hn, hf, hl, hey, hg, h1, h2, h3⟩
  rcases h3 with ⟨hno, h3⟩ | ⟨s, a, b, lm, t0, m', hs, h3, ha, hb⟩
  · repeat walk_at "go"
    refine ev_isnotNN ?_
    repeat walk_at "go"
    refine ⟨fun h => absurd h (by simp), fun _ => ?_⟩
    repeat walk_at "go"
    refine ev_addS (by lia) fun _ => ?_
    exact ⟨[], List.nil_sublist _, _, by rw [great_none hno] at hg; rw [hg]; rfl⟩
  · repeat walk_at "go"
    refine ev_isnotRN ?_
    repeat walk_at "go"
    refine ⟨fun _ => ?_, fun h => absurd h (by simp)⟩
    repeat walk_at "go"
    obtain ⟨hm2, hlt⟩ := fm_some hs
    have hsy : s + 3 ≤ y.length := by lia
    have htwo := hey s hm2
    refine' ev_assigntup ?_ ?k1 ?k2
    case k1 => rfl
    case k2 => rfl
    refine ev_methcall ?_
    repeat walk_at "go"
    refine ev_getspan (.mem ha) rfl rfl ?_
    repeat walk_at "go"
    refine ev_span (.mem ha) (.mem hb) fun c t1 t2 hc => ?_
    refine' ev_unpack .head ?_ ?k1 ?k2
    case k1 => rfl
    case k2 => rfl
    refine ev_ord_cons (ev_asgname W (by walk_at "vr") ?_)
    refine ev_ord_cons (ev_asgname W (by walk_at "vr") ?_)
    refine ev_ord_nil ?_
    repeat walk_at "go"
    refine ev_partTo ?_
    repeat walk_at "go"
    refine ⟨_, _, rfl, by lia, ?_⟩
    repeat walk_at "go"
    refine ⟨_, _, rfl, fun _ => ?_⟩
    rw [S_take]
    refine ev_addS (by rw [List.length_take]; lia) fun _ => ?_
    repeat walk_at "go"
    refine ev_does (d_upper C.w a b 55 lm y t0 m' s (s + 3) (s + 1) (s + 3) (by lia) htwo) (by lia) (by lia)
      (fun s' X => ⟨X.own _ (List.mem_cons_of_mem _ ha), X.own _ (List.mem_cons_of_mem _ hb)⟩) fun v2 R2 ⟨t3, hv⟩ => ?_
    subst hv
    have hl2 : ((y.take (s + 3)).drop (s + 1)).length = 2 := by rw [List.length_drop, List.length_take]; lia
    refine ev_addS (by simp only [List.length_append, List.length_cons, List.length_map, hl2, List.length_take]; lia) fun t4 => ?_
    repeat walk_at "go"
    refine ev_partEnd ?_
    repeat walk_at "go"
    refine ⟨_, _, rfl, by lia, ?_⟩
    repeat walk_at "go"
    refine ⟨_, _, rfl, fun t5 => ?_⟩
    rw [S_drop]
    repeat walk_at "go"
    refine ev_methcall ?_
    repeat walk_at "go"
    refine ev_getsearch hp ?_
    repeat walk_at "go"
    obtain ⟨f', rfl⟩ : ∃ f', f = f' + 1 := ⟨f - 1, by lia⟩
    have hgr : great (f' + 1) y = y.take s ++ (37 :: ((y.take (s + 3)).drop (s + 1)).map upc ++ great f' (y.drop (s + 3))) := by
      rw [great, hs]
    refine Ev.mono (P := fun v m2 R2 => m2 = _ ∧ Found (y.drop (s + 3)) (sv m2 "found" v) R2) (ev_esc (by rw [List.length_drop]; lia) (fun hn => ⟨rfl, .inl ⟨hn, sv_self⟩⟩) fun s hs lm m' b hb a ha =>
      ⟨rfl, .inr ⟨s, a, b, lm, _, m', hs, sv_self, List.mem_cons_self, List.mem_cons_of_mem _ List.mem_cons_self⟩⟩) ?_
    rintro v m1 R1 ⟨rfl, hF⟩
    refine ⟨(y.drop (s + 3)).length, by rw [List.length_drop]; lia, _, _, f', t4, t5, rfl, by rw [List.length_drop]; lia, ?_, hey.drop _, ?_, by walk_at "lk", by walk_at "lk", hF⟩
    · simp only [List.length_append, List.length_cons, List.length_map, hl2, List.length_take, List.length_drop]; lia
    · rw [← hg, hgr]; simp only [List.append_assoc, List.cons_append]
end
section
open PySem PySem.W PySem.Calls PyProof.Rows PySem.Builtin PySem.F
set_option maxRecDepth 100000
section
variable {C : Cx} {m : Map} {R : Led} {s : Shared}
noncomputable def enumObj (it : Addr) : Obj := { cls := .type "enumerate", data := .fields #[.none, .bool false, .ref it, rawInt 0, .none, .none] }
theorem ev_enumS {x : Str} {t : Tok} {P : Value → Map → Led → Prop} (h : ∀ e it o, New C R it → New C R e → e ≠ it → o.cls = .type (strIterType x) → o.data = .fields #[.str x t, .int 0 0] → P (.ref e) m ((e, .raw (enumObj it)) :: (it, .raw o) :: R)) :
    Ev C m R (call (.type "enumerate") [.str x t]) P := fun s X => by
  refine call_enumerate_str fun h' he hi hz hk => ?_
  obtain ⟨o, ho, hc, hd⟩ := hi
  have hn : ∀ a, s.heap.objs.size ≤ a → s.heap.get? a = none := fun a ha => by
    cases e : s.heap.get? a with
    | none => rfl
    | some o => exact absurd (Heap.lt_size e) (Nat.not_lt.mpr ha)
  have Y := X.add (tk := s.toks) (R' := [(s.heap.objs.size + 1, .raw (enumObj s.heap.objs.size)), (s.heap.objs.size, .raw o)]) hk ⟨fun p hp => by
    rcases List.mem_cons.mp hp with rfl | hp
    · exact ⟨⟨_, he, rfl⟩, hn _ (Nat.le_succ _)⟩
    · rw [List.mem_singleton.mp hp]; exact ⟨⟨_, ho, rfl⟩, hn _ (Nat.le_refl _)⟩, by
      show [s.heap.objs.size + 1, s.heap.objs.size].Nodup
      simp⟩
  have N1 : New C R s.heap.objs.size := X.isNew
  have N2 : New C R (s.heap.objs.size + 1) := ⟨fun p hp e => by
    obtain ⟨o, ho⟩ := (X.own p hp).live
    rw [e] at ho
    exact absurd (Heap.lt_size ho) (Nat.not_lt.mpr (Nat.le_succ _)), by
    cases e : C.g.get? (s.heap.objs.size + 1) with
    | none => rfl
    | some o => exact absurd (Heap.lt_size (X.keep _ _ e)) (Nat.not_lt.mpr (Nat.le_succ _))⟩
  exact ⟨m, _, Y, h _ _ o N1 N2 (Nat.ne_of_gt (Nat.lt_succ_self _)) hc hd⟩

/-- behind the last step of an iterator -/
theorem At.over (x : At C m R s) {newA wr : List Addr} {h₁ : Heap} {tk : Nat} (hoff : ∀ a ∈ newA, a ∉ C.fa ++ (R.map (·.1) ++ C.H.map (·.1)) ∧ C.g.get? a = none)
    (hwr : ∀ b ∈ wr, b ∈ newA) (hk₁ : ∀ b o, b ∉ wr → s.heap.get? b = some o → h₁.get? b = some o) : At C m R { s with heap := h₁, toks := tk } := by
  have base : ∀ b o, C.g.get? b = some o → b ∉ wr := fun b o e hw => by rw [(hoff b (hwr b hw)).2] at e; cases e
  have out : ∀ b ∈ C.fa ++ (R.map (·.1) ++ C.H.map (·.1)), b ∉ wr := fun b hb hw => (hoff b (hwr b hw)).1 hb
  have fr : ∀ a, a = C.env.locals ∨ a ∈ C.env.cells.map (·.2) → a ∉ wr := fun a ha => by
    rcases x.frm a ha with h | ⟨o, h⟩
    · exact out a (List.mem_append_left _ h)
    · exact base a o h
  exact {
    same := by obtain ⟨h, t, rfl⟩ := x.same; exact ⟨_, _, rfl⟩
    gl := x.gl
    hh := x.hh
    rd := x.rd
    ru := x.ru
    keep := fun b o e => hk₁ b o (base b o e) (x.keep b o e)
    vars := x.vars.at (fun o e => hk₁ _ o (fr _ (.inl rfl)) e) fun c hc o e => hk₁ c o (fr c (.inr hc)) e
    own := fun p hp => (x.own p hp).at fun o e => hk₁ _ o (out _ (List.mem_append_right _ (List.mem_append_left _ (List.mem_map.mpr ⟨p, hp, rfl⟩)))) e
    hid := fun p hp => hk₁ _ _ (out _ (List.mem_append_right _ (List.mem_append_right _ (List.mem_map.mpr ⟨p, hp, rfl⟩)))) (x.hid p hp)
    live := fun a ha => let ⟨o, e⟩ := x.live a ha; ⟨o, hk₁ _ _ (out a (List.mem_append_left _ ha)) e⟩
    nod := x.nod
    new := x.new
    frm := x.frm
    fn := x.fn }
theorem for_coreT {xi xc : Str} {k : Nat} {pi pc pt : Pos} {body : List Stmt} {I : Addr} {fp wr : List Addr} {n : Nat} {Pt : Nat → Array Value → Prop} {St : Nat → Heap → Prop} {Mid : Nat → Addr → Heap → Prop} {newA : List Addr} {P : Flow → Map → Led → Prop}
    (W : Fw C) (hki : Var C.env xi) (hkc : Var C.env xc) (X : At C m R s) (WT : WalksT Prg C.w C.A I fp wr n Pt St Mid) (live : ∀ i h, St i h → ∀ b ∈ wr, ∃ o, h.get? b = some o)
    (here : ∀ a ∈ newA, ∃ o, s.heap.get? a = some o) (nod : newA.Nodup) (off : ∀ a ∈ newA, a ∉ C.fa ++ (R.map (·.1) ++ C.H.map (·.1)) ∧ C.g.get? a = none)
    (sub : ∀ b ∈ fp, b ∈ newA) (hwr : ∀ b ∈ wr, b ∈ newA) (st : St 0 s.heap)
    (J : Nat → Map → Led → Prop) (h0 : J 0 m R)
    (step : ∀ i vals m₁ R₁ N, i < n → Pt i vals → J i m₁ R₁ → ∃ v0 v1, vals = #[v0, v1] ∧ Ev (C.hide N) (sv (sv m₁ xi v0) xc v1) R₁ (execs body C.env) (Turn (J (i + 1)) P))
    (done : ∀ m₁ R₁, J n m₁ R₁ → P .next m₁ R₁) :
    codeAny (model Prg C.w) C.A (.forLoop (.Tuple [.Name xi pi, .Name xc pc] k pt) (.ref I) body [] C.env) (fun r s' => match r with | .ok f => ∃ m' R', At C m' R' s' ∧ P f m' R' | .error _ => False) s := by
  refine codeAny_forLoop_any
    (fun k s' => ∃ i m' R' N, N.map (·.1) = newA ∧ At (C.hide N) m' R' s' ∧ St i s'.heap ∧ J i m' R' ∧ i ≤ n ∧ k = n + 1 - i) ?_ (n + 1)
    ⟨0, m, R, hidden s.heap newA, hidden_fst _ _, ?_, st, h0, Nat.zero_le _, rfl⟩
  · rintro k s' ⟨i, m', R', N, hN, Y, hst, hj, hi, rfl⟩
    have Y₀ := Y.unhide
    have hoff : ∀ a ∈ newA, a ∉ C.fa ++ (R'.map (·.1) ++ C.H.map (·.1)) ∧ C.g.get? a = none := fun a ha => by
      refine ⟨fun hm => ?_, (off a ha).2⟩
      have hn := Y.nod
      have haN : a ∈ (N ++ C.H).map (·.1) := by rw [List.map_append, hN]; exact List.mem_append_left _ ha
      rw [List.nodup_append] at hn
      have hn2 := List.nodup_append.mp hn.2.1
      rcases List.mem_append.mp hm with h | h
      · exact hn.2.2 a h a (List.mem_append_right _ haN) rfl
      · rcases List.mem_append.mp h with h | h
        · exact hn2.2.2 a h a haN rfl
        · exact (off a ha).1 (List.mem_append_right _ (List.mem_append_right _ h))
    have hall : ∀ b ∈ newA, ∃ o, s'.heap.get? b = some o := fun b hb => by
      obtain ⟨p, hp, rfl⟩ := List.mem_map.mp (hN ▸ hb)
      exact ⟨_, Y.hid p (List.mem_append_left _ hp)⟩
    by_cases hlt : i < n
    · refine WT.item i _ _ _ hlt hst fun T vals h₁ tk₁ hP hTs hT hMid hk₁ => ?_
      refine WT.go _ _ _ i T _ _ _ hMid fun h₂ hst₂ hk₂ => ?_
      have ht₂ : h₂.IsTuple T vals := hT.at fun o e => hk₂ T o (WT.apart i T h₁ hMid) e
      have hk₃ : ∀ b o, b ∉ wr → s'.heap.get? b = some o → h₂.get? b = some o := fun b o hb e => hk₂ b o hb (hk₁ b o hb e)
      have hlive : ∀ b ∈ newA, ∃ o, h₂.get? b = some o := fun b hb => by
        by_cases hw : b ∈ wr
        · exact live _ _ hst₂ b hw
        · obtain ⟨o, ho⟩ := hall b hb; exact ⟨o, hk₃ b o hw ho⟩
      have Y₁ := Y₀.stepped (tk := tk₁) hoff nod hwr hk₃ hlive
      obtain ⟨v0, v1, rfl, hbody⟩ := step i vals m' R' (hidden h₂ newA) hlt hP hj
      refine wpAny_assign_Tuple Y₀.hh ht₂ rfl rfl fun h₃ hx₃ => ?_
      have Z₁ := Y₁.stay' (n := 0) hx₃
      refine assignInOrder_cons (assign_Name (wpAny_mono (ev_store (C := C.hide (hidden h₂ newA)) (P := fun _ m2 R2 => m2 = sv m' xi v0 ∧ R2 = R') (W.hide _) hki ⟨rfl, rfl⟩ _ Z₁) ?_ fun _ _ f => f.elim))
      rintro _ s₂ ⟨m2, R2, Y₂, rfl, rfl⟩
      refine assignInOrder_cons (assign_Name (wpAny_mono (ev_store (C := C.hide (hidden h₂ newA)) (P := fun _ m3 R3 => m3 = sv (sv m' xi v0) xc v1 ∧ R3 = R2) (W.hide _) hkc ⟨rfl, rfl⟩ _ Y₂) ?_ fun _ _ f => f.elim))
      rintro _ s₃ ⟨m3, R3, Y₃, rfl, rfl⟩
      refine assignInOrder_nil ?_
      refine wpAny_mono (hbody s₃ Y₃) ?_ fun _ _ f => f.elim
      rintro f s₄ ⟨m4, R4, Y₄, hTn⟩
      have hst₄ : St (i + 1) s₄.heap := by
        refine WT.frame _ _ _ hst₂ fun b hb o e => ?_
        have := Y₄.hid (b, objAt h₂ b) (List.mem_append_left _ (List.mem_map.mpr ⟨b, sub b hb, rfl⟩))
        rw [objAt_of e] at this; exact this
      cases f with
      | next => exact ⟨n + 1 - (i + 1), by lia, i + 1, m4, R4, _, hidden_fst _ _, Y₄, hst₄, hTn, hlt, rfl⟩
      | cont => exact ⟨n + 1 - (i + 1), by lia, i + 1, m4, R4, _, hidden_fst _ _, Y₄, hst₄, hTn, hlt, rfl⟩
      | brk => exact ⟨m4, R4, Y₄.unhide, hTn⟩
      | ret v => exact ⟨m4, R4, Y₄.unhide, hTn⟩
    · have hin : i = n := by lia
      subst hin
      refine WT.done _ _ _ hst fun h₁ tk₁ hk₁ => wpAny_execs_nil ?_
      exact ⟨m', R', Y₀.over hoff hwr hk₁, done m' R' hj⟩
  · exact X.stepped (h₁ := s.heap) (tk := s.toks) off nod hwr (fun _ _ _ e => e) here

/-- the signs of a text, counted -/
theorem ev_for_enumS {xi xc : Str} {k : Nat} {pi pc pt pos : Pos} {iter : Expr} {body : List Stmt} {P : Flow → Map → Led → Prop} (W : Fw C) (hki : Var C.env xi) (hkc : Var C.env xc)
    (h : Ev C m R (eval iter C.env) (fun v m1 R1 => ∃ e it o x t R2, v = .ref e ∧ R1 = (e, .raw (enumObj it)) :: (it, .raw o) :: R2 ∧ o.cls = .type (strIterType (S x)) ∧ o.data = .fields #[.str (S x) t, .int 0 0] ∧
      ∃ J : Nat → Map → Led → Prop, J 0 m1 R2 ∧
      (∀ i c t1 t2 m₁ R₁ N, x[i]? = some c → J i m₁ R₁ → Ev (C.hide N) (sv (sv m₁ xi (.int i t1)) xc (.str (S [c]) t2)) R₁ (execs body C.env) (Turn (J (i + 1)) P)) ∧ ∀ m₁ R₁, J x.length m₁ R₁ → P .next m₁ R₁))
    (hs : ∀ x, foldedSetIterable iter C.env x = Pure.pure x := by intro _; rfl) : Ev C m R (exec (.For (.Tuple [.Name xi pi, .Name xc pc] k pt) iter body [] pos) C.env) P := by
  intro s X
  refine wpAny_For (wpAny_mono (h s X) ?_ fun _ _ f => f.elim) hs
  rintro v s1 ⟨m1, R1, Y, e, it, o, x, t, R2, rfl, rfl, hc, hd, J, h0, step, done⟩
  obtain ⟨oe, hoe, rfl⟩ := Y.own (e, .raw (enumObj it)) List.mem_cons_self
  obtain ⟨oi, hoi, rfl⟩ := Y.own (it, .raw o) (List.mem_cons_of_mem _ List.mem_cons_self)
  have he : IsEnum s1.heap e it 0 .none := hoe
  have hit : s1.heap.IsStrIter it (strIterType (S x)) (S x) t 0 := ⟨_, hoi, hc, hd⟩
  have hsub : R2.Sublist ((e, Cell.raw (enumObj it)) :: (it, Cell.raw oi) :: R2) := (List.Sublist.refl _).cons _ |>.cons _
  have Z := Y.sub hsub
  have hnd : (([e, it] : List Addr) ++ (C.fa ++ (R2.map (·.1) ++ C.H.map (·.1)))).Nodup := by
    have := Y.nod
    have p : (C.fa ++ (((e, Cell.raw (enumObj it)) :: (it, Cell.raw oi) :: R2).map (·.1) ++ C.H.map (·.1))).Perm (([e, it] : List Addr) ++ (C.fa ++ (R2.map (·.1) ++ C.H.map (·.1)))) := by
      show (C.fa ++ ([e, it] ++ R2.map (·.1) ++ C.H.map (·.1))).Perm _
      rw [List.append_assoc, ← List.append_assoc C.fa, ← List.append_assoc [e, it]]
      exact (List.perm_append_comm).append_right _
    exact (p.nodup_iff).mp this
  have hoff : ∀ a ∈ ([e, it] : List Addr), a ∉ C.fa ++ (R2.map (·.1) ++ C.H.map (·.1)) ∧ C.g.get? a = none := fun a ha =>
    ⟨fun hm => (List.nodup_append.mp hnd).2.2 a ha a hm rfl, Y.new a (List.mem_append_right _ (List.mem_append_left _ (by
      rcases List.mem_cons.mp ha with rfl | ha
      · exact List.mem_cons_self
      · rw [List.mem_singleton.mp ha]; exact List.mem_cons_of_mem _ List.mem_cons_self)))⟩
  have hne : e ≠ it := fun q => by
    have := (List.nodup_append.mp hnd).1
    simp [q] at this
  have D : ∃ St, Draws Prg C.w C.A.in1 it [it] (S x).cps.size (fun i v => ∃ c u, (S x).cps[i]? = some c ∧ v = .str ⟨#[c]⟩ u) St ∧ St 0 s1.heap := by
    unfold strIterType at hit
    by_cases ha : (S x).cps.all (· < 128) = true
    · rw [if_pos ha] at hit
      exact ⟨_, Draws.strAscii (prog := Prg) (w := C.w) (A := C.A.in1) Z.hh it (S x) t, hit⟩
    · rw [if_neg ha] at hit
      exact ⟨_, Draws.strWide (prog := Prg) (w := C.w) (A := C.A.in1) Z.hh it (S x) t, hit⟩
  obtain ⟨St, D, hst⟩ := D
  have hlen : (S x).cps.size = x.length := by simp [S]
  rw [hlen] at D
  refine wpAny_pyIter_enum he ?_
  refine codeAny_mono (for_coreT (newA := [e, it]) W hki hkc Z (WalksT.enumerateD D e hne (by simpa using hne) (by simp)) (fun i h hh b hb => ?_) (fun a ha => ?_) (List.nodup_append.mp hnd).1 hoff (fun b hb => hb) (fun b hb => hb) ⟨⟨_, by simpa using he⟩, hst⟩ J h0 ?_ done) fun r s' hr => ?_
  · rcases List.mem_cons.mp hb with rfl | hb
    · obtain ⟨⟨old, q⟩, _⟩ := hh; exact ⟨_, q⟩
    · rw [List.mem_singleton.mp hb]; exact D.live _ _ hh.2
  · rcases List.mem_cons.mp ha with rfl | ha
    · exact ⟨_, hoe⟩
    · rw [List.mem_singleton.mp ha]; exact ⟨_, hoi⟩
  · rintro i vals m₁ R₁ N hi ⟨t1, v, ⟨c, u, hx, rfl⟩, rfl⟩ hj
    refine ⟨_, _, rfl, step i c t1 u m₁ R₁ N (by simpa [S] using hx) hj⟩
  · cases r with
    | ok f => exact hr
    | error e => exact hr.elim
end
end
section
open PySem PySem.W PySem.Calls PyProof.Rows PySem.Builtin PySem.F
set_option maxRecDepth 100000
section
variable {prog : Program} {w : World} {A : Around} {E : Value → Shared → Prop} {s : Shared}
/-- str is one of (str, bytes) -/
theorem issub_nested {tp : Addr} {Q : Fin → Shared → Prop} (ht : s.heap.get? tp = some { cls := .type "tuple", data := .seq #[.type "str", .type "bytes"] }) (hq : Q (.done (.ret (.bool true))) s) :
    wpAny (model prog w) A (Builtin.«issubclass.nested» ⟨[.type "str", .ref tp, rawInt 0], []⟩) Q E s := by
  have hT2 : s.TypeIs (.ref tp) "tuple" := ⟨_, ht, rfl⟩
  have f1 := F.isi_sub_tuple
  show wpAny _ _ (typeOf (.ref tp) >>= _) _ _ _
  refine wpAny_bind (wpAny_typeOf hT2 ?_)
  show wpAny _ _ (if (Value.type "tuple" == Value.type "type") = true then _ else _) _ _ _
  rw [if_neg (by decide)]
  refine wpAny_bind (m := Builtins.unionMembers (.ref tp)) ?_
  unfold Builtins.unionMembers
  refine wpAny_bind (wpAny_typeOf hT2 ?_)
  rw [if_neg (by decide)]
  refine wpAny_pure ?_
  refine wpAny_bind (wpAny_isInstance hT2 sub_tuple_self ?_)
  rw [if_pos rfl]
  refine (congrArg (fun z => wpAny (model prog w) A z Q E s) (if_neg (c := (0 : Int) ≥ Builtins.nestingLimit) (by decide))).mpr ?_
  refine wpAny_bind (wpAny_seqItems ht rfl ?_)
  rw [Option.getD_some, ← Array.forIn_toList]
  refine wpAny_bind ?_
  show wpAny _ _ (forIn [Value.type "str", Value.type "bytes"] _ _) _ _ _
  rw [List.forIn_cons]
  refine wpAny_bind ?_
  refine wpAny_bind (call_function_any (by decide +kernel) (by decide +kernel) F.entry_issubclass_nested (by unfold argsOk; kernel_rfl) ?_)
  show wpAny _ _ (typeOf (.type "str") >>= _) _ _ _
  refine wpAny_bind (wpAny_of_eq (a := .type "type") F.isi_meta_str ?_)
  rw [if_pos (by decide)]
  refine wpAny_bind ?_
  refine wpAny_of_eq (a := true) (Eq.trans (b := isSubtype (.type "str") (.type "str")) rfl PySem.F.sub_str_str) ?_
  refine wpAny_pure ?_
  refine wpAny_bind (wpAny_truthy_bool ?_)
  rw [if_pos rfl]
  refine wpAny_bind (wpAny_pure (wpAny_pure (wpAny_pure ?_)))
  exact wpAny_pure hq
theorem call_issub {tp : Addr} {Q : Value → Shared → Prop} (ht : s.heap.get? tp = some { cls := .type "tuple", data := .seq #[.type "str", .type "bytes"] }) (h : Q (.bool true) s) :
    wpAny (model prog w) A (call (.builtin "issubclass") [.type "str", .ref tp]) Q E s := by
  refine call_function_any F.kind_issubclass F.plain_issubclass F.entry_issubclass (F.args_issubclass_2 _ _) ?_
  show wpAny _ _ (someArgs "issubclass" 2 2 ⟨[.type "str", .ref tp], []⟩ >>= _) _ _ _
  refine wpAny_bind (wpAny_of_eq (a := [.type "str", .ref tp]) (by rfl) ?_)
  refine wpAny_pure ⟨Code.quiet_builtin _ (by decide +kernel), codeAny_builtin F.entry_issubclass_nested ?_⟩
  rw [Around.under_plain (show (Code.builtin "issubclass.nested" ⟨[.type "str", .ref tp, rawInt 0], []⟩).weight = 0 from rfl) rfl]
  exact issub_nested ht h
end
section
variable {C : Cx} {m : Map} {R : Led} {P : Value → Map → Led → Prop}
theorem ev_tupleR {elts : List Expr} {k : Nat} {pos : Pos} (h : Ev C m R (spliced (backTo pos (starEach elts C.env))) (fun vs m1 R1 => vs.length ≤ 1000 ∧ ∀ a, New C R1 a → P (.ref a) m1 ((a, .raw { cls := .type "tuple", data := .seq vs.toArray }) :: R1))) :
    Ev C m R (eval (.Tuple elts k pos) C.env) P := fun s X =>
  wpAny_Tuple (wpAny_mono (h s X) (fun vs s1 ⟨m1, R1, Y, hl, hp⟩ => ⟨by rw [sizeLine_eq]; lia, m1, _, Y.push (c := .raw { cls := .type "tuple", data := .seq vs.toArray }) rfl rfl, hp _ Y.isNew⟩) fun _ _ x => x)
theorem ev_typeS {x : Str} {t : Tok} (h : P (.type "str") m R) : Ev C m R (call (.type "type") [.str x t]) P := fun s X => call_type_of (Tx := "str") rfl (by decide +kernel) ⟨m, R, X, h⟩
theorem ev_issub {tp : Addr} (hh : Has C R tp (.raw { cls := .type "tuple", data := .seq #[.type "str", .type "bytes"] })) (h : P (.bool true) m R) : Ev C m R (call (.builtin "issubclass") [.type "str", .ref tp]) P := fun s X => by
  obtain ⟨o, ho, rfl⟩ := X.has hh
  exact call_issub ho ⟨m, R, X, h⟩
theorem ev_isiS {tp : Addr} {x : Str} {t : Tok} (hh : Has C R tp (.raw { cls := .type "tuple", data := .seq #[.type "list", .type "tuple"] })) (h : P (.bool false) m R) : Ev C m R (call (.builtin "isinstance") [.str x t, .ref tp]) P := fun s X => by
  obtain ⟨o, ho, rfl⟩ := X.has hh
  exact IsiPair.tupleOf (Tx := "str") (cs := [.type "list", .type "tuple"]) (vs := [false, false]) (by pv_isi_answers) rfl ho fun tk => ⟨m, R, X.toks, h⟩
theorem ev_tlist {l : Addr} {vs : List Value} {P : Bool → Map → Led → Prop} (hh : Has C R l (.list vs)) (hl : vs.length ≤ 1000) (h : P (!vs.isEmpty) m R) : Ev C m R (truthy (.ref l)) P := fun s X =>
  wpAny_truthy_list (X.has hh).isList (by simp; lia) ⟨m, R, X.toks, by simpa using h⟩
end
end
section
open PySem PySem.W PySem.Calls PyProof.Rows PySem.Builtin
set_option maxRecDepth 100000
set_option maxHeartbeats 2000000
theorem d_fspath (w : World) (x : Str) (t : Tok) : Does w 135 1 30 [.str x t] (fun _ => True) (fun v _ => v = .str x t) := by
  refine does_of (d := 0) (u := 26) (binds := [("path", .str x t)]) (by k_is) (by k_is) (fun s => BindsTo.of_eq rfl) ?_
  intro C L hw hdp hun hH hE W hpre
  subst hw
  repeat walk_at "go"
  refine ev_typeS ?_
  repeat walk_at "go"
  refine ev_tval' ?_
  repeat walk_at "go"
  refine ev_tupleR ?_
  repeat walk_at "go"
  refine ⟨by simp, fun a ha => ?_⟩
  repeat walk_at "go"
  refine ev_issub .head ?_
  repeat walk_at "go"
  refine ⟨fun _ => ?_, fun h => absurd h (by simp)⟩
  repeat walk_at "go"
  exact ⟨[], List.nil_sublist _, rfl⟩
end
section
open PySem PySem.W PySem.Calls PyProof.Rows PySem.Builtin PySem.F
set_option maxRecDepth 100000
theorem owner_map : Manifest.owners.lookup (String.ofList ['p', 'a', 'm'].reverse) = some Manifest.sig_map := by kernel_rfl
theorem entry_map_iter : entryFor table "map.__iter__" = some Builtin.«dict_keyiterator.__iter__» :=
  entryFor_alias (id' := "dict_keyiterator.__iter__") (by kernel_rfl) (by first | rfl | decide +kernel | (unfold String.splitOn; simp +decide [String.splitOnAux])) (by decide +kernel) (by kernel_rfl)
theorem mro_map : mroOf (.type "map") = pure [.type "map", .type "object"] := by rw [mroOf_type]; kernel_rfl
theorem lookup_map_new : typeLookup (.type "map") "__new__" = pure (some (.builtin "map.__new__")) := by rw [typeLookup_type, builtinLookup_eq_fast]; kernel_rfl
theorem slot_map_init : Slot "map" "__init__" "object.__init__" :=
  .of (owner := "object") (n := "__init__") (by rw [typeLookup_type, builtinLookup_eq_fast]; kernel_rfl) (by decide +kernel) (by decide +kernel) (by decide +kernel)
    (by first | exact .inl (by decide +kernel) | exact .inr (by decide +kernel)) (by rw [isSubtype_type]; kernel_rfl)
theorem slot_map_iter : Slot "map" "__iter__" "map.__iter__" :=
  .of (owner := "map") (n := "__iter__") (by rw [typeLookup_type, builtinLookup_eq_fast]; kernel_rfl) (by decide +kernel) (by decide +kernel) (by decide +kernel)
    (by first | exact .inl (by decide +kernel) | exact .inr (by decide +kernel)) (by rw [isSubtype_type]; kernel_rfl)
theorem slot_map_next : Slot "map" "__next__" "map.__next__" :=
  .of (owner := "map") (n := "__next__") (by rw [typeLookup_type, builtinLookup_eq_fast]; kernel_rfl) (by decide +kernel) (by decide +kernel) (by decide +kernel)
    (by first | exact .inl (by decide +kernel) | exact .inr (by decide +kernel)) (by rw [isSubtype_type]; kernel_rfl)
theorem entry_map_next : entryFor table "map.__next__" = some Builtin.«map.__next__» := entryFor_of_tree (by kernel_rfl)
theorem args_map_next (a : Value) : argsOk "map.__next__" ⟨[a], []⟩ := by
  unfold argsOk; rw [signature?_of (id := "map.__next__") (n := ['_', '_', 't', 'x', 'e', 'n', '_', '_']) (o := ['p', 'a', 'm']) (by kernel_rfl) owner_map]; kernel_rfl
theorem args_map_iter (a : Value) : argsOk "map.__iter__" ⟨[a], []⟩ := by
  unfold argsOk; rw [signature?_of (id := "map.__iter__") (n := ['_', '_', 'r', 'e', 't', 'i', '_', '_']) (o := ['p', 'a', 'm']) (by kernel_rfl) owner_map]; kernel_rfl
theorem called_map : TypeCalled "map" "map.__new__" "object.__init__" :=
  ⟨by decide +kernel, by decide +kernel, ⟨_, _, mro_map⟩, madeBy_type mro_map lookup_map_new (by decide +kernel), by decide +kernel, by rw [isSubtype_type]; kernel_rfl, slot_map_init⟩
theorem typeCall_map_2 (a b : Value) : checkTypeCall "map" ⟨[a, b], []⟩ = pure () := by kernel_rfl
theorem newCall_map_2 (a b : Value) : checkBuiltinCall "map.__new__" ⟨[.type "map", a, b], []⟩ = pure () := by kernel_rfl
theorem entry_map_new : entryFor table "map.__new__" = some Builtin.«map.__new__» := entryFor_of_tree (by kernel_rfl)
theorem sub_map : isSubtype (.type "map") (.type "map") = pure true := by rw [isSubtype_type]; kernel_rfl
theorem nolen_map : typeLookup (.type "map") "__len__" = pure none := by rw [typeLookup_type, builtinLookup_eq_fast]; kernel_rfl
theorem nohint_map : typeLookup (.type "map") "__length_hint__" = pure none := by rw [typeLookup_type, builtinLookup_eq_fast]; kernel_rfl
noncomputable def mapObj (T f : Addr) : Obj := { cls := .type "map", data := .fields #[.ref T, .ref f] }
noncomputable abbrev mapH1 (h : Heap) (l : Addr) : Heap := h.push { cls := .type "list_iterator", data := .fields #[.ref l, .int 0 0] }
noncomputable abbrev mapH2 (h : Heap) (l : Addr) : Heap := (mapH1 h l).push { cls := .type "tuple", data := .seq #[.ref h.objs.size] }
noncomputable abbrev mapH3 (h : Heap) (l f : Addr) : Heap := (mapH2 h l).push (mapObj (mapH1 h l).objs.size f)
theorem meets_map_new (f l : Addr) (xs : Array Value) :
    Meets (Builtin.«map.__new__» ⟨[.type "map", .ref f, .ref l], []⟩) (fun _ R s => s.heap.IsList l xs ∧
      R (.ok (.ret (.ref (mapH2 s.heap l).objs.size))) { s with heap := mapH3 s.heap l f }) :=
  .of_wp fun prog w A R s h => by
    obtain ⟨hp, g, d, tk, os⟩ := s; obtain ⟨hl1, h⟩ := h
    have hsub := sub_map
    have hL1 : Heap.IsList (Shared.heap ⟨hp, g, d, tk, os⟩) l xs := hl1
    wp_walk using wpAny_pyIter_list hL1
    exact ⟨_, rfl, h⟩
section
variable {prog : Program} {w : World} {A : Around} {E : Value → Shared → Prop} {s : Shared}
theorem call_map {f l : Addr} {xs : Array Value} {Q : Value → Shared → Prop} (hl : s.heap.IsList l xs)
    (h : ∀ h', h'.get? (s.heap.objs.size + 2) = some (mapObj (s.heap.objs.size + 1) f) → h'.get? (s.heap.objs.size + 1) = some { cls := .type "tuple", data := .seq #[.ref s.heap.objs.size] } →
      h'.IsListIter s.heap.objs.size l 0 → h'.objs.size = s.heap.objs.size + 3 → (∀ c o, s.heap.get? c = some o → h'.get? c = some o) → Q (.ref (s.heap.objs.size + 2)) { s with heap := h' }) :
    wpAny (model prog w) A (call (.type "map") [.ref f, .ref l]) Q E s := by
  refine callType_new called_map (by decide) (typeCall_map_2 _ _) (newCall_map_2 _ _) (fun obj => F.args_object_init_3 obj _ _) entry_map_new (meets_map_new f l xs) ⟨hl, ?_⟩
  have z1 : (mapH1 s.heap l).objs.size = s.heap.objs.size + 1 := Heap.size_push ..
  have z2 : (mapH2 s.heap l).objs.size = s.heap.objs.size + 2 := by rw [Heap.size_push, z1]
  have z3 : (mapH3 s.heap l f).objs.size = s.heap.objs.size + 3 := by rw [Heap.size_push, z2]
  have g3 : (mapH3 s.heap l f).get? (mapH2 s.heap l).objs.size = some _ := Heap.get?_push_size _ rfl
  have g2 : (mapH3 s.heap l f).get? (mapH1 s.heap l).objs.size = some _ := Heap.get?_push_of_some _ (Heap.get?_push_size _ rfl)
  have g1 : (mapH3 s.heap l f).get? s.heap.objs.size = some _ := Heap.get?_push_of_some _ (Heap.get?_push_of_some _ (Heap.get?_push_size _ rfl))
  show _ ∧ _
  rw [z1, z2] at g3
  rw [z1] at g2
  rw [z2]
  exact ⟨⟨_, g3, rfl⟩, h _ g3 g2 ⟨_, g1, rfl, rfl⟩ z3 fun c o x => Heap.get?_push_of_some _ (Heap.get?_push_of_some _ (Heap.get?_push_of_some _ x))⟩
theorem wpAny_pyIter_map {D T f : Addr} {Q : Value → Shared → Prop} (hz : s.heap.get? D = some (mapObj T f)) (h : Q (.ref D) s) : wpAny (model prog w) A (pyIter (.ref D)) Q E s := by
  have hT : s.TypeIs (.ref D) "map" := ⟨_, hz, rfl⟩
  refine wpAny_pyIter_slot hT slot_map_iter (wpAny_call_entry slot_map_iter hT entry_map_iter ?_ (args_map_iter _))
  show wpAny _ _ (ret (.ref D)) _ _ s
  exact wpAny_pure ⟨_, rfl, "map", _, hT, slot_map_next.lookup, h⟩
end
end
section
open PySem PySem.W PySem.Calls PyProof.Rows PySem.Builtin PySem.F
set_option maxRecDepth 100000
section
variable {prog : Program} {w : World} {A : Around} {E : Value → Shared → Prop} {s : Shared}
/-- a step of the map: a drawn value goes through the def -/
theorem pyNext_map_item {D T f I : Addr} {fp : List Addr} {n i : Nat} {Pv : Nat → Value → Prop} {St : Nat → Heap → Prop} {Q : Option Value → Shared → Prop} (Dr : Draws prog w A.in1 I fp n Pv St)
    (hD : s.heap.get? D = some (mapObj T f)) (hT : s.heap.get? T = some { cls := .type "tuple", data := .seq #[.ref I] }) (hst : St i s.heap) (hi : i < n) (hDI : D ≠ I)
    (h : ∀ x h' tk, Pv i x → St (i + 1) h' → Heap.SameBut I s.heap h' → wpAny (model prog w) A.in1 (call (.ref f) [x]) (fun v s' => Q (some v) s') (fun _ _ => False) { s with heap := h', toks := tk }) :
    wpAny (model prog w) A (pyNext (.ref D)) Q E s := by
  have hTy : s.TypeIs (.ref D) "map" := ⟨_, hD, rfl⟩
  unfold pyNext
  refine wpAny_bind (wpAny_attempt (wpAny_callSpecial?_slot (name := Str.ofString "__next__") hTy slot_map_next
    (wpAny_call_entry slot_map_next hTy entry_map_next ?_ (args_map_next _))))
  show wpAny _ _ (field (.ref D) 0 >>= _) _ _ _
  refine wpAny_bind (wpAny_field hD rfl (x := .ref T) rfl ?_)
  refine wpAny_bind (wpAny_seqItems hT rfl ?_)
  show wpAny _ _ ((do
      let items ← forIn #[Value.ref I] (#[] : Array Value) fun it items => do
        let v ← holding items.toList (SmallTypes.nextOf it)
        pure (ForInStep.yield (items.push v))
      let g ← field (.ref D) 1
      let result ← holding items.toList (call g items.toList)
      letGo items.toList [result]
      ret result) : Sem Fin) _ _ _
  rw [← Array.forIn_toList]
  refine wpAny_bind ?_
  show wpAny _ _ (forIn [Value.ref I] _ _) _ _ _
  rw [List.forIn_cons]
  refine wpAny_bind (wpAny_bind (wpAny_holding (Dr.item i s _ _ hi hst fun x h' tk hP hst' hs' => wpAny_pure ?_)))
  refine wpAny_pure ?_
  have hD' : h'.get? D = some (mapObj T f) := (hs'.2 D hDI).trans hD
  refine wpAny_bind (wpAny_field hD' rfl (x := .ref f) rfl ?_)
  refine wpAny_bind (wpAny_holding (wpAny_mono (h x h' tk hP hst' hs') (fun v s' hq => ?_) fun _ _ ff => ff.elim))
  refine wpAny_bind (wpAny_letGo ?_)
  exact wpAny_pure ⟨_, rfl, wpAny_pure hq⟩
theorem pyNext_map_end {D T f I : Addr} {fp : List Addr} {n : Nat} {Pv : Nat → Value → Prop} {St : Nat → Heap → Prop} {Q : Option Value → Shared → Prop} (Dr : Draws prog w A.in1 I fp n Pv St)
    (hD : s.heap.get? D = some (mapObj T f)) (hT : s.heap.get? T = some { cls := .type "tuple", data := .seq #[.ref I] }) (hst : St n s.heap)
    (h : ∀ h', Heap.ExtBut I s.heap h' → Q none { s with heap := h' }) :
    wpAny (model prog w) A (pyNext (.ref D)) Q E s := by
  have hTy : s.TypeIs (.ref D) "map" := ⟨_, hD, rfl⟩
  unfold pyNext
  refine wpAny_bind (wpAny_attempt (wpAny_callSpecial?_slot (name := Str.ofString "__next__") hTy slot_map_next
    (wpAny_call_entry slot_map_next hTy entry_map_next ?_ (args_map_next _))))
  show wpAny _ _ (field (.ref D) 0 >>= _) _ _ _
  refine wpAny_bind (wpAny_field hD rfl (x := .ref T) rfl ?_)
  refine wpAny_bind (wpAny_seqItems hT rfl ?_)
  show wpAny _ _ ((do
      let items ← forIn #[Value.ref I] (#[] : Array Value) fun it items => do
        let v ← holding items.toList (SmallTypes.nextOf it)
        pure (ForInStep.yield (items.push v))
      let g ← field (.ref D) 1
      let result ← holding items.toList (call g items.toList)
      letGo items.toList [result]
      ret result) : Sem Fin) _ _ _
  rw [← Array.forIn_toList]
  refine wpAny_bind ?_
  show wpAny _ _ (forIn [Value.ref I] _ _) _ _ _
  rw [List.forIn_cons]
  refine wpAny_bind (wpAny_bind (wpAny_holding (Dr.done s _ _ hst fun h' x he' hx' => ?_)))
  obtain ⟨o, ho, hc⟩ := hx'
  refine wpAny_bind (wpAny_isInstance (T := "StopIteration") (b := true) ⟨o, ho, hc⟩ isSubtype_stop ?_)
  exact wpAny_pure (h _ he')
end
end
section
open PySem PySem.W PySem.Calls PyProof.Rows PySem.Builtin PySem.F
set_option maxRecDepth 100000
noncomputable def MapSt (w : World) (g : Heap) (D T I l f : Addr) (xs : Array Value) (i : Nat) (h : Heap) : Prop :=
  h.get? D = some (mapObj T f) ∧ h.get? T = some { cls := .type "tuple", data := .seq #[.ref I] } ∧ h.IsListIter I l i ∧ h.IsList l xs ∧ g.StaysIn h
theorem Walks.mapped {w : World} {A : Around} {g : Heap} {mg mb : Map} {D T I l f : Addr} {xs : Array Value} {d u : Nat} (G : Gl w mg mb g) (hh : A.handled = none) (hd : A.depth + d < recursionLimit) (hu : A.units + 1 + u < cLine)
    (hDI : D ≠ I) (hTI : T ≠ I) (hlI : l ≠ I) (hgI : g.get? I = none) (hf : ∀ (i : Nat) (x : Value), xs[i]? = some x → Does w f d u [x] (fun _ => True) (fun v _ => v = x)) :
    Walks Prg w A D (D :: T :: I :: l :: (List.range g.objs.size).filter fun b => (g.get? b).isSome) [I] xs.size (fun i v => xs[i]? = some v) (MapSt w g D T I l f xs) where
  sub := fun b hb => by rw [List.mem_singleton.mp hb]; simp
  frame := fun i h h' ⟨h1, h2, h3, h4, h5⟩ hk => ⟨hk D (by simp) _ h1, hk T (by simp) _ h2, h3.at fun o e => hk I (by simp) o e, h4.at fun o e => hk l (by simp) o e,
    fun b o e => hk b (by simp; right; right; right; right; exact ⟨Heap.lt_size e, by rw [e]; rfl⟩) o (h5 b o e)⟩
  item := fun i s Q E hi ⟨h1, h2, h3, h4, h5⟩ hQ => by
    refine pyNext_map_item (Draws.list (prog := Prg) (w := w) (A := A.in1) hh I l hlI xs) h1 h2 ⟨h3, h4⟩ hi hDI fun x h' tk hx hst hs => ?_
    have hk : ∀ b o, b ≠ I → s.heap.get? b = some o → h'.get? b = some o := fun b o hb e => (hs.2 b hb).trans e
    have h5' : g.StaysIn h' := fun b o e => hk b o (fun q => by rw [q, hgI] at e; cases e) (h5 b o e)
    refine hf i x hx mg mb A.in1 _ _ _ (G.keeps h5') hh hd hu trivial fun h'' tk' v R' k M hv => ?_
    subst hv
    refine hQ v h'' tk' hx ⟨k _ _ (hk _ _ hDI h1), k _ _ (hk _ _ hTI h2), hst.1.at (k I), hst.2.at (k l), fun b o e => k _ _ (h5' b o e)⟩ fun b o hb e => k _ _ (hk b o (fun q => hb (by rw [q]; simp)) e)
  done := fun s Q E ⟨h1, h2, h3, h4, h5⟩ hQ => by
    refine pyNext_map_end (Draws.list (prog := Prg) (w := w) (A := A.in1) hh I l hlI xs) h1 h2 ⟨h3, h4⟩ fun h' he => ?_
    exact hQ h' s.toks fun b o hb e => he b o (fun q => hb (by rw [q]; simp)) e
  self := fun i s Q E hst hQ => wpAny_pyIter_map hst.1 hQ
section
variable {prog : Program} {w : World} {A : Around} {E : Value → Shared → Prop} {s : Shared}
variable {I : Addr} {fp wr : List Addr} {n : Nat} {P : Nat → Value → Prop} {St : Nat → Shared → Prop} {G : Array GenState → Array GenState → Prop}
/-- what an iterator with no length gives, in a list -/
theorem wpAny_collect_map {Q : List Value → Shared → Prop} (W : WalksS prog w A.in1 I fp wr G n P St) (hT : ∀ i s, St i s → s.TypeIs (.ref I) "map") (hst : St 0 s) (hfp : ∀ b ∈ fp, b < s.heap.objs.size) (hI : I ∈ fp)
    (hQ : ∀ s' acc, Moved wr G s s' → ItemsOf P acc n → Q acc.toList s') (hn : n ≤ sizeLine) : wpAny (model prog w) A (collect (.ref I)) Q E s := by
  have hSf : s.heap.objs.size ∉ fp := fun hm => Nat.lt_irrefl _ (hfp _ hm)
  have hSI : s.heap.objs.size ≠ I := fun e => hSf (e ▸ hI)
  unfold collect
  refine wpAny_bind (wpAny_runValue (codeAny_builtin F.entry_proto_collect ?_))
  rw [Around.under_plainId F.plain_proto_collect _]
  show wpAny _ A.in1 (newList [] >>= fun l => again (.builtin "list.__iadd__" ⟨[l, .ref I], []⟩)) _ _ s
  refine wpAny_bind (wpAny_newObj_type ?_)
  refine wpAny_pure ⟨plainId_quiet F.plain_list_iadd _, codeAny_builtin F.entry_list_iadd ?_⟩
  rw [Around.under_plainId F.plain_list_iadd _]
  generalize hh0 : s.heap.push { cls := .type "list", data := .seq ([] : List Value).toArray } = h0
  have hS0 : h0.get? s.heap.objs.size = some { cls := .type "list", data := .seq ([] : List Value).toArray } := hh0 ▸ Heap.get?_push_size _ rfl
  have hst1 := W.frame 0 s h0 s.toks hst (Nat.le_refl _) fun b _ o e => hh0 ▸ Heap.get?_push_of_some _ e
  show wpAny _ A.in1 (Builtin.List.listExtendWith (.ref s.heap.objs.size) (.ref I) (.ref s.heap.objs.size)) _ _ _
  unfold Builtin.List.listExtendWith
  refine wpAny_bind (wpAny_typeOf (hT 0 _ hst1) ?_)
  have e1 : Builtin.List.listSameRef (.ref s.heap.objs.size) (.ref I) = false := by simp [Builtin.List.listSameRef, hSI]
  have e2 : (Value.type "map" == Value.type "list") = false := by decide
  have e3 : (Value.type "map" == Value.type "tuple") = false := by decide
  simp only [e1, e2, e3, Bool.or_false, Bool.false_eq_true, if_false]
  refine wpAny_bind (W.self 0 _ _ _ hst1 (wpAny_bind (wpAny_holding ?_)))
  unfold Builtin.List.listLengthHint
  refine wpAny_bind (wpAny_specialOf (hT 0 _ hst1) nolen_map ?_)
  show wpAny _ A.in1 (specialOf (Value.ref I) (Str.ofString "__length_hint__") >>= _) _ _ _
  refine wpAny_bind (wpAny_specialOf (hT 0 _ hst1) nohint_map ?_)
  refine wpAny_pure ?_
  show wpAny _ A.in1 (rule "list.extend.makes-room" >>= fun _ => Builtin.List.listTouch (.ref s.heap.objs.size) >>= fun _ =>
    again (.builtin "list.extend.loop" ⟨[.ref s.heap.objs.size, .ref I, .ref s.heap.objs.size], []⟩)) _ _ _
  refine wpAny_bind (wpAny_rule (wpAny_bind ?_))
  show wpAny _ A.in1 (updateSeq s.heap.objs.size (·.push .none) >>= fun _ => updateSeq s.heap.objs.size (·.pop)) _ _ _
  refine wpAny_bind (wpAny_updateSeq hS0 rfl ?_)
  have hS1 := Heap.get?_update_self (Obj.mapSeq (·.push Value.none)) hS0 rfl
  refine wpAny_updateSeq hS1 rfl ?_
  have hS2 := Heap.get?_update_self (Obj.mapSeq (·.pop)) hS1 rfl
  generalize hh2 : (h0.update s.heap.objs.size (Obj.mapSeq (·.push Value.none))).update s.heap.objs.size (Obj.mapSeq (·.pop)) = h2 at hS2
  have oth : ∀ b o, b ≠ s.heap.objs.size → h0.get? b = some o → h2.get? b = some o := fun b o hb e => by
    rw [← hh2]; exact (Heap.get?_update_other _ _ (Ne.symm hb)).trans ((Heap.get?_update_other _ _ (Ne.symm hb)).trans e)
  refine wpAny_pure ⟨plainId_quiet F.plain_extend_loop _, ?_⟩
  have hst2 := W.frame 0 ({ s with heap := h0 } : Shared) h2 s.toks hst1 (Nat.le_refl _) fun b hb o e => oth b o (fun h => hSf (h ▸ hb)) e
  have key := codeAny_extend_loopS (R := fun r s' => match r with | .ok (.ret v) => v = .ref s.heap.objs.size ∧ ∃ acc c, Moved wr G s s' ∧ s'.heap.get? s.heap.objs.size = some { cls := .type "list", dict := none, data := .seq acc c, slots := #[] } ∧ ItemsOf P acc n | _ => False)
    W hn s.heap.objs.size hSf (.ref s.heap.objs.size) n 0 ({ s with heap := h2 } : Shared) _ _ rfl (Nat.zero_le _) hst2 hS2 (ItemsOf.nil P) fun s' acc' c' hm hS' hacc => ⟨rfl, acc', c', ?_, hS', hacc⟩
  · refine codeAny_mono key fun r s' hr => ?_
    rcases r with e | f
    · exact hr.elim
    · cases f <;> try exact hr.elim
      obtain ⟨rfl, acc, c, hm, hS', hacc⟩ := hr
      show wpAny _ A (load s.heap.objs.size >>= _) _ _ s'
      exact wpAny_bind (wpAny_load hS' (wpAny_pure (hQ s' acc hm hacc)))
  · refine Moved.drop_new (o := { cls := .type "list", data := .seq ([] : List Value).toArray }) (tk := s.toks) (Moved.trans W.gtrans ((Moved.refl W.grefl).then_heap (Nat.le_refl _) fun b o hb e => ?_) hm) (Nat.le_refl _)
    rw [hh0] at e
    exact oth b o (fun h => hb (by rw [h]; exact List.mem_cons_self)) e
end
end
section
open PySem PySem.W PySem.Calls PyProof.Rows PySem.Builtin PySem.F
set_option maxRecDepth 100000
section
variable {prog : Program} {w : World} {A : Around} {E : Value → Shared → Prop} {s : Shared}
variable {I : Addr} {fp wr : List Addr} {n : Nat} {P : Nat → Value → Prop} {St : Nat → Shared → Prop} {G : Array GenState → Array GenState → Prop}
theorem code_tuple_map {Q₁ : Value → Shared → Prop} (W : WalksS prog w A.in1.in1 I fp wr G n P St) (hT : ∀ i s, St i s → s.TypeIs (.ref I) "map") (hst : St 0 s) (hfp : ∀ b ∈ fp, b < s.heap.objs.size) (hI : I ∈ fp)
    (h : ∀ s' acc, Moved wr G s s' → ItemsOf P acc n → Q₁ (.ref s'.heap.objs.size) { s' with heap := s'.heap.push { cls := .type "tuple", data := .seq acc } }) (hsz : n ≤ sizeLine) :
    codeAny (model prog w) A (.call (.builtin "tuple.__new__") ⟨[.type "tuple", .ref I], []⟩) (wants Q₁ E) s := by
  refine codeAny_of_tree ?_
  show wpAny _ A.in1 (do checkBuiltinCall "tuple.__new__" ⟨[.type "tuple", .ref I], []⟩; again (.builtin "tuple.__new__" ⟨[.type "tuple", .ref I], []⟩)) _ _ s
  refine wpAny_bind (wpAny_of_eq (F.newCall_tuple_1 _) (wpAny_pure ⟨plainId_quiet F.plain_tuple_new _, codeAny_builtin F.entry_tuple_new ?_⟩))
  rw [Around.under_plainId F.plain_tuple_new _]
  have hsub := sub_tuple_self
  have hinit := init_tuple_lookup
  have hmh := madeHere_tuple
  have hTI := hT 0 s hst
  wp_walk using wpAny_typeOf hTI, wpAny_collect_map (hn := hsz) W hT hst hfp hI
  intro s' acc hm hacc
  show wpAny _ _ (Builtin.Tuple.tupleExact acc.toList.toArray >>= fun v => ret v) _ _ _
  unfold Builtin.Tuple.tupleExact
  have e : acc.toList.toArray = acc := by simp
  rw [e]
  refine wpAny_bind (wpAny_newObj_type ?_ (by show acc.size ≤ sizeLine; rw [hacc.1]; exact hsz))
  exact wpAny_pure (h s' acc hm hacc)
theorem call_tuple_map {Q : Value → Shared → Prop} (W : WalksS prog w A.in1.in1.in1 I fp wr G n P St) (hT : ∀ i s, St i s → s.TypeIs (.ref I) "map") (hst : St 0 s) (hfp : ∀ b ∈ fp, b < s.heap.objs.size) (hI : I ∈ fp)
    (hQ : ∀ s' acc, Moved wr G s s' → ItemsOf P acc n → Q (.ref s'.heap.objs.size) { s' with heap := s'.heap.push { cls := .type "tuple", data := .seq acc } }) (hsz : n ≤ sizeLine) :
    wpAny (model prog w) A (call (.type "tuple") [.ref I]) Q E s := by
  refine callType_codes (Q₁ := fun obj s₁ => s₁.TypeIs obj "tuple" ∧ Q obj s₁) F.called_tuple (F.typeCall_tuple_1 _) F.entry_object_init
    (code_tuple_map (hsz := hsz) W hT hst hfp hI fun s' acc hm hacc => ⟨⟨_, Heap.get?_push_size _ rfl, rfl⟩, hQ s' acc hm hacc⟩) fun obj s₁ h₁ => ?_
  exact ⟨h₁.1, F.args_object_init_2 obj _, object_init_meets F.called_tuple.init.lookup F.called_tuple.made (by decide) prog w A.in1 _ s₁ ⟨h₁.1, rfl, h₁.2⟩⟩
end
section
variable {C : Cx} {m : Map} {R : Led} {P : Value → Map → Led → Prop}
/-- tuple(map(f, l)) where f gives back what it gets: made as one -/
theorem ev_map {f l : Addr} {vs : List Value} (hh : Has C R l (.list vs)) (h : ∀ D T I o, [D, T, I].Nodup → (∀ a ∈ [D, T, I], New C R a) → o.cls = .type "list_iterator" → o.data = .fields #[.ref l, .int 0 0] →
    P (.ref D) m ((D, .raw (mapObj T f)) :: (T, .raw { cls := .type "tuple", data := .seq #[.ref I] }) :: (I, .raw o) :: R)) : Ev C m R (call (.type "map") [.ref f, .ref l]) P := fun s X => by
  refine call_map (X.has hh).isList fun h' h1 h2 h3 hz hk => ?_
  obtain ⟨o, ho, hc, hd⟩ := h3
  have hn : ∀ a, s.heap.objs.size ≤ a → s.heap.get? a = none := fun a ha => by
    cases e : s.heap.get? a with
    | none => rfl
    | some o => exact absurd (Heap.lt_size e) (Nat.not_lt.mpr ha)
  have le1 : s.heap.objs.size ≤ s.heap.objs.size + 1 := Nat.le_succ _
  have le2 : s.heap.objs.size ≤ s.heap.objs.size + 2 := Nat.le_add_right _ 2
  have hall : ∀ a ∈ ([s.heap.objs.size + 2, s.heap.objs.size + 1, s.heap.objs.size] : List Addr), s.heap.objs.size ≤ a := fun a ha => by
    rcases List.mem_cons.mp ha with rfl | ha
    · exact le2
    · rcases List.mem_cons.mp ha with rfl | ha
      · exact le1
      · rw [List.mem_singleton.mp ha]; exact Nat.le_refl _
  have hnd : ([s.heap.objs.size + 2, s.heap.objs.size + 1, s.heap.objs.size] : List Addr).Nodup := by simp
  have Y := X.add (tk := s.toks) (R' := [(s.heap.objs.size + 2, .raw (mapObj (s.heap.objs.size + 1) f)), (s.heap.objs.size + 1, .raw { cls := .type "tuple", data := .seq #[.ref s.heap.objs.size] }), (s.heap.objs.size, .raw o)]) hk ⟨fun p hp => by
    rcases List.mem_cons.mp hp with rfl | hp
    · exact ⟨⟨_, h1, rfl⟩, hn _ le2⟩
    · rcases List.mem_cons.mp hp with rfl | hp
      · exact ⟨⟨_, h2, rfl⟩, hn _ le1⟩
      · rw [List.mem_singleton.mp hp]; exact ⟨⟨_, ho, rfl⟩, hn _ (Nat.le_refl _)⟩, hnd⟩
  refine ⟨m, _, Y, h _ _ _ o hnd (fun a ha => ⟨fun p hp e => ?_, ?_⟩) hc hd⟩
  · obtain ⟨o, ho⟩ := (X.own p hp).live
    rw [e] at ho
    exact absurd (Heap.lt_size ho) (Nat.not_lt.mpr (hall a ha))
  · cases e : C.g.get? a with
    | none => rfl
    | some o => exact absurd (Heap.lt_size (X.keep _ _ e)) (Nat.not_lt.mpr (hall a ha))
theorem ev_tuplemap {D T I l f : Addr} {o : Obj} {vs : List Value} {d u : Nat} {R0 : Led} (hh : Has C R0 l (.list vs)) (hR : R = (D, Cell.raw (mapObj T f)) :: (T, Cell.raw { cls := .type "tuple", data := .seq #[.ref I] }) :: (I, Cell.raw o) :: R0)
    (hoc : o.cls = .type "list_iterator") (hod : o.data = .fields #[.ref l, .int 0 0]) (hl : vs.length ≤ 1000)
    (hf : ∀ x ∈ vs, Does C.w f d u [x] (fun _ => True) (fun v _ => v = x)) (hd : d ≤ C.dp) (hu : u + 8 ≤ C.un)
    (h : ∀ a, P (.ref a) m ((a, .tup vs) :: R0)) : Ev C m R (call (.type "tuple") [.ref D]) P := fun s X => by
  subst hR
  have hsub : R0.Sublist ((D, Cell.raw (mapObj T f)) :: (T, Cell.raw { cls := .type "tuple", data := .seq #[.ref I] }) :: (I, Cell.raw o) :: R0) := (((List.Sublist.refl _).cons _).cons _).cons _
  have Z := X.sub hsub
  obtain ⟨_, hoD, rfl⟩ := X.own (D, .raw (mapObj T f)) (by simp)
  obtain ⟨_, hoT, rfl⟩ := X.own (T, .raw { cls := .type "tuple", data := .seq #[.ref I] }) (by simp)
  obtain ⟨oi, hoI, rfl⟩ := X.own (I, .raw o) (by simp)
  have hlist := (Z.has hh).isList
  have hnd : (([D, T, I] : List Addr) ++ (C.fa ++ (R0.map (·.1) ++ C.H.map (·.1)))).Nodup := by
    have := X.nod
    have p : (C.fa ++ (((D, Cell.raw (mapObj T f)) :: (T, Cell.raw { cls := .type "tuple", data := .seq #[.ref I] }) :: (I, Cell.raw oi) :: R0).map (·.1) ++ C.H.map (·.1))).Perm (([D, T, I] : List Addr) ++ (C.fa ++ (R0.map (·.1) ++ C.H.map (·.1)))) := by
      show (C.fa ++ ([D, T, I] ++ R0.map (·.1) ++ C.H.map (·.1))).Perm _
      rw [List.append_assoc, ← List.append_assoc C.fa, ← List.append_assoc [D, T, I]]
      exact (List.perm_append_comm).append_right _
    exact (p.nodup_iff).mp this
  have hnew : ∀ a ∈ ([D, T, I] : List Addr), C.g.get? a = none := fun a ha => X.new a (List.mem_append_right _ (List.mem_append_left _ (by
    simp at ha
    simp
    rcases ha with rfl | rfl | rfl <;> simp)))
  have hoff : ∀ a ∈ ([I] : List Addr), a ∉ C.fa ++ (R0.map (·.1) ++ C.H.map (·.1)) ∧ C.g.get? a = none := fun a ha => by
    have ha' : a ∈ ([D, T, I] : List Addr) := by rw [List.mem_singleton.mp ha]; simp
    exact ⟨fun hm => (List.nodup_append.mp hnd).2.2 a ha' a hm rfl, hnew a ha'⟩
  have hnd3 := (List.nodup_append.mp hnd).1
  have hDI : D ≠ I := fun q => by simp [q] at hnd3
  have hTI : T ≠ I := fun q => by simp [q] at hnd3
  have hlI : l ≠ I := fun q => by
    have hI := hoff I (by simp)
    obtain ⟨c', _, hc'⟩ := hh
    rcases hc' with h1 | h1 | ⟨o1, h1, _⟩
    · exact hI.1 (List.mem_append_right _ (List.mem_append_left _ (List.mem_map.mpr ⟨_, h1, q⟩)))
    · obtain ⟨o1, ho1⟩ := h1.live
      rw [q, hI.2] at ho1; cases ho1
    · exact hI.1 (List.mem_append_right _ (List.mem_append_right _ (List.mem_map.mpr ⟨_, h1, q⟩)))
  have W := (Walks.mapped (A := C.A.in1.in1.in1) (xs := vs.toArray) X.gl X.hh (by have := X.rd; show C.A.depth + d < _; lia) (by have := X.ru; show C.A.units + 1 + 1 + 1 + 1 + u < _; lia) hDI hTI hlI (hoff I (by simp)).2
    (l := l) (D := D) (T := T) (f := f) (d := d) (u := u) fun i x hx => hf x (by
      have : vs[i]? = some x := by simpa using hx
      exact List.mem_of_getElem? this)).toS
  refine call_tuple_map W (fun i s hst => ⟨_, hst.1, rfl⟩) ⟨hoD, hoT, ⟨_, hoI, hoc, hod⟩, hlist, X.keep⟩ (fun b hb => ?_) (by simp) (fun s' acc hm hacc => ?_) (by rw [sizeLine_eq]; simp; lia)
  · simp at hb
    rcases hb with rfl | rfl | rfl | rfl | hb
    · exact Heap.lt_size hoD
    · exact Heap.lt_size hoT
    · exact Heap.lt_size hoI
    · exact (Z.has hh).lt
    · obtain ⟨o1, ho1⟩ := Option.isSome_iff_exists.mp hb.2
      exact Heap.lt_size (X.keep _ _ ho1)
  · have hacc' : acc = vs.toArray := by
      apply Array.ext
      · exact hacc.1
      · intro j h1 h2
        have : vs.toArray[j]? = some acc[j] := hacc.2 j acc[j] (by simp [h1])
        rw [Array.getElem?_eq_getElem h2] at this
        exact (Option.some.inj this).symm
    subst hacc'
    obtain ⟨h', gg, dd, tk, oo⟩ := s'
    have e1 : gg = s.gens := hm.gens
    have e2 : dd = s.drawn := hm.drawn
    have e3 : oo = s.os := hm.os
    subst e1; subst e2; subst e3
    have U := Z.over (newA := [I]) (wr := [I]) (h₁ := h') (tk := tk) hoff (fun b hb => hb) hm.heap
    have V := U.push (c := .tup vs) (tk := tk) (o := { cls := .type "tuple", data := .seq vs.toArray }) ⟨0, rfl⟩ rfl
    exact ⟨m, _, V, h _⟩
end
end
section
open PySem PySem.W PySem.Calls PyProof.Rows PySem.Builtin PySem.F
set_option maxRecDepth 100000
/-- values that are texts -/
noncomputable def Texts (vs : List Value) (ns : List (List Nat)) : Prop := vs.length = ns.length ∧ ∀ (i : Nat) (n : List Nat), ns[i]? = some n → ∃ t, vs[i]? = some (Value.str (S n) t)
theorem Texts.nil : Texts [] [] := ⟨rfl, fun i n h => by simp at h⟩
theorem Texts.snoc {vs : List Value} {ns : List (List Nat)} (h : Texts vs ns) (n : List Nat) (t : Tok) : Texts (vs ++ [.str (S n) t]) (ns ++ [n]) := by
  refine ⟨by simp [h.1], fun i m hm => ?_⟩
  rw [List.getElem?_append] at hm ⊢
  rw [h.1]
  by_cases hi : i < ns.length
  · rw [if_pos hi] at hm ⊢; exact h.2 i m hm
  · rw [if_neg hi] at hm ⊢
    by_cases h0 : i - ns.length = 0
    · rw [h0] at hm ⊢; simp at hm; exact ⟨t, by simp [hm]⟩
    · obtain ⟨k, hk⟩ := Nat.exists_eq_succ_of_ne_zero h0
      rw [hk] at hm; simp at hm
theorem Texts.get {vs : List Value} {ns : List (List Nat)} (h : Texts vs ns) {i : Nat} {v : Value} (hv : vs[i]? = some v) : ∃ n t, ns[i]? = some n ∧ v = .str (S n) t := by
  have hi : i < ns.length := by rw [← h.1]; exact (List.getElem?_eq_some_iff.mp hv).1
  obtain ⟨t, ht⟩ := h.2 i ns[i] (List.getElem?_eq_getElem hi)
  exact ⟨ns[i], t, List.getElem?_eq_getElem hi, Option.some.inj (hv.symm.trans ht)⟩
/-- a least one, a greatest one -/
noncomputable def Least (ns : List (List Nat)) (m : List Nat) : Prop := m ∈ ns ∧ ∀ x ∈ ns, ¬ x < m
noncomputable def Greatest (ns : List (List Nat)) (m : List Nat) : Prop := m ∈ ns ∧ ∀ x ∈ ns, ¬ m < x
noncomputable def nth (ns : List (List Nat)) (i : Nat) : List Nat := ns.getD i []
theorem argBest_lt (ns : List (List Nat)) : ∀ k, argBest (fun i j => decide (nth ns i < nth ns j)) k ≤ k ∧ ∀ j, j ≤ k → ¬ nth ns j < nth ns (argBest (fun i j => decide (nth ns i < nth ns j)) k)
  | 0 => ⟨Nat.le_refl _, fun j hj => by rw [Nat.le_zero.mp hj]; exact List.lt_irrefl _⟩
  | k + 1 => by
    obtain ⟨h1, h2⟩ := argBest_lt ns k
    unfold argBest
    by_cases hc : nth ns (k + 1) < nth ns (argBest (fun i j => decide (nth ns i < nth ns j)) k)
    · rw [if_pos (by simpa using hc)]
      refine ⟨Nat.le_refl _, fun j hj => ?_⟩
      by_cases e : j = k + 1
      · rw [e]; exact List.lt_irrefl _
      · exact fun hl => h2 j (by lia) (List.lt_trans hl hc)
    · rw [if_neg (by simpa using hc)]
      refine ⟨by lia, fun j hj => ?_⟩
      by_cases e : j = k + 1
      · rw [e]; exact hc
      · exact h2 j (by lia)
theorem argBest_gt (ns : List (List Nat)) : ∀ k, argBest (fun i j => decide (nth ns j < nth ns i)) k ≤ k ∧ ∀ j, j ≤ k → ¬ nth ns (argBest (fun i j => decide (nth ns j < nth ns i)) k) < nth ns j
  | 0 => ⟨Nat.le_refl _, fun j hj => by rw [Nat.le_zero.mp hj]; exact List.lt_irrefl _⟩
  | k + 1 => by
    obtain ⟨h1, h2⟩ := argBest_gt ns k
    unfold argBest
    by_cases hc : nth ns (argBest (fun i j => decide (nth ns j < nth ns i)) k) < nth ns (k + 1)
    · rw [if_pos (by simpa using hc)]
      refine ⟨Nat.le_refl _, fun j hj => ?_⟩
      by_cases e : j = k + 1
      · rw [e]; exact List.lt_irrefl _
      · exact fun hl => h2 j (by lia) (List.lt_trans hc hl)
    · rw [if_neg (by simpa using hc)]
      refine ⟨by lia, fun j hj => ?_⟩
      by_cases e : j = k + 1
      · rw [e]; exact hc
      · exact h2 j (by lia)
theorem nth_of {ns : List (List Nat)} {i : Nat} {n : List Nat} (h : ns[i]? = some n) : nth ns i = n := by unfold nth; rw [List.getD_eq_getElem?_getD, h]; rfl
theorem mem_nth {ns : List (List Nat)} {x : List Nat} (h : x ∈ ns) : ∃ j, j < ns.length ∧ nth ns j = x := by
  obtain ⟨j, hj, e⟩ := List.mem_iff_getElem.mp h
  exact ⟨j, hj, nth_of (by rw [List.getElem?_eq_getElem hj, e])⟩
theorem CmpOf.texts_lt {prog : Program} {w : World} {A : Around} {vs : List Value} {ns : List (List Nat)} (h : Texts vs ns) :
    CmpOf prog w A .Lt (fun i v => vs.toArray[i]? = some v) (fun i j => decide (nth ns i < nth ns j)) := fun i j vi vj s Q E hi hj hq => by
  obtain ⟨n, t, h1, rfl⟩ := h.get (by simpa using hi)
  obtain ⟨k, u, h2, rfl⟩ := h.get (by simpa using hj)
  dsimp only at hq
  rw [nth_of h1, nth_of h2] at hq
  exact richCompare_gives (op := .Lt) (typeIs_str s _ t) (typeIs_str s _ u) F.slot_str_lt F.entry_str_lt (F.args_str_lt_2 _ _) (gives_str_lt _ _ t u) (fun x => nomatch x) hq
theorem CmpOf.texts_gt {prog : Program} {w : World} {A : Around} {vs : List Value} {ns : List (List Nat)} (h : Texts vs ns) :
    CmpOf prog w A .Gt (fun i v => vs.toArray[i]? = some v) (fun i j => decide (nth ns j < nth ns i)) := fun i j vi vj s Q E hi hj hq => by
  obtain ⟨n, t, h1, rfl⟩ := h.get (by simpa using hi)
  obtain ⟨k, u, h2, rfl⟩ := h.get (by simpa using hj)
  dsimp only at hq
  rw [nth_of h1, nth_of h2] at hq
  exact richCompare_gives (op := .Gt) (typeIs_str s _ t) (typeIs_str s _ u) F.slot_str_gt F.entry_str_gt (F.args_str_gt_2 _ _) (gives_str_gt _ _ t u) (fun x => nomatch x) hq
section
variable {C : Cx} {m : Map} {R : Led} {P : Value → Map → Led → Prop}
theorem ev_minT {tp : Addr} {vs : List Value} {ns : List (List Nat)} (hh : Has C R tp (.tup vs)) (ht : Texts vs ns) (hne : ns ≠ []) (h : ∀ n t, Least ns n → P (.str (S n) t) m R) : Ev C m R (call (.builtin "min") [.ref tp]) P := fun s X => by
  obtain ⟨o, ho, n, e⟩ := X.has hh
  have hT : s.heap.IsTuple tp vs.toArray := ⟨_, ho, by rw [e], n, by rw [e]⟩
  have hlt := Heap.lt_size ho
  refine call_min_walk (wpAny_pyIter_tuple hT ?_)
  refine ⟨s.heap.objs.size, _, _, _, _, _, _, rfl, Walks.tuple (A := C.A.in1) X.hh s.heap.objs.size tp (Nat.ne_of_lt hlt) vs.toArray, ⟨⟨_, Heap.get?_push_size _ rfl, rfl, rfl⟩, hT.at fun o e => Heap.get?_push_of_some _ e⟩, ?_, ?_, CmpOf.texts_lt ht, ?_⟩
  · intro b hb
    rw [Heap.size_push]
    simp at hb
    rcases hb with rfl | rfl
    · exact Nat.lt_succ_self _
    · exact Nat.lt_succ_of_lt hlt
  · simp; rw [ht.1]; exact List.length_pos_iff.mpr hne
  · intro v h' tk hv hk
    obtain ⟨n, t, h1, rfl⟩ := ht.get (by simpa using hv)
    have hsz : vs.toArray.size = ns.length := by simpa using ht.1
    have hpos := List.length_pos_iff.mpr hne
    obtain ⟨b1, b2⟩ := argBest_lt ns (vs.toArray.size - 1)
    refine ⟨m, R, X.stay (tk := tk) fun b o e => hk b o (fun hm => ?_) (Heap.get?_push_of_some _ e), h n t ⟨List.mem_of_getElem? h1, fun x hx => ?_⟩⟩
    · rw [List.mem_singleton.mp hm] at e
      exact Nat.lt_irrefl _ (Heap.lt_size e)
    · obtain ⟨j, hj, rfl⟩ := mem_nth hx
      have := b2 j (by rw [hsz]; lia)
      rw [List.size_toArray] at this
      rwa [nth_of h1] at this
theorem ev_maxT {tp : Addr} {vs : List Value} {ns : List (List Nat)} (hh : Has C R tp (.tup vs)) (ht : Texts vs ns) (hne : ns ≠ []) (h : ∀ n t, Greatest ns n → P (.str (S n) t) m R) : Ev C m R (call (.builtin "max") [.ref tp]) P := fun s X => by
  obtain ⟨o, ho, n, e⟩ := X.has hh
  have hT : s.heap.IsTuple tp vs.toArray := ⟨_, ho, by rw [e], n, by rw [e]⟩
  have hlt := Heap.lt_size ho
  refine call_max_walk (wpAny_pyIter_tuple hT ?_)
  refine ⟨s.heap.objs.size, _, _, _, _, _, _, rfl, Walks.tuple (A := C.A.in1) X.hh s.heap.objs.size tp (Nat.ne_of_lt hlt) vs.toArray, ⟨⟨_, Heap.get?_push_size _ rfl, rfl, rfl⟩, hT.at fun o e => Heap.get?_push_of_some _ e⟩, ?_, ?_, CmpOf.texts_gt ht, ?_⟩
  · intro b hb
    rw [Heap.size_push]
    simp at hb
    rcases hb with rfl | rfl
    · exact Nat.lt_succ_self _
    · exact Nat.lt_succ_of_lt hlt
  · simp; rw [ht.1]; exact List.length_pos_iff.mpr hne
  · intro v h' tk hv hk
    obtain ⟨n, t, h1, rfl⟩ := ht.get (by simpa using hv)
    have hsz : vs.toArray.size = ns.length := by simpa using ht.1
    have hpos := List.length_pos_iff.mpr hne
    obtain ⟨b1, b2⟩ := argBest_gt ns (vs.toArray.size - 1)
    refine ⟨m, R, X.stay (tk := tk) fun b o e => hk b o (fun hm => ?_) (Heap.get?_push_of_some _ e), h n t ⟨List.mem_of_getElem? h1, fun x hx => ?_⟩⟩
    · rw [List.mem_singleton.mp hm] at e
      exact Nat.lt_irrefl _ (Heap.lt_size e)
    · obtain ⟨j, hj, rfl⟩ := mem_nth hx
      have := b2 j (by rw [hsz]; lia)
      rw [List.size_toArray] at this
      rwa [nth_of h1] at this
theorem ev_min2 {a b : List Nat} {t u : Tok} (h : ∀ n t, Least [a, b] n → P (.str (S n) t) m R) : Ev C m R (call (.builtin "min") [.str (S a) t, .str (S b) u]) P := fun s X => by
  have ht : Texts [.str (S a) t, .str (S b) u] [a, b] := (Texts.nil.snoc a t).snoc b u
  have hT : (s.heap.push { cls := .type "tuple", data := .seq #[.str (S a) t, .str (S b) u] }).IsTuple s.heap.objs.size [.str (S a) t, .str (S b) u].toArray := ⟨_, Heap.get?_push_size _ rfl, rfl, _, rfl⟩
  refine call_min_two (wpAny_pyIter_tuple hT ?_)
  have hne : s.heap.objs.size ≠ (s.heap.push { cls := .type "tuple", data := .seq #[.str (S a) t, .str (S b) u] }).objs.size := by rw [Heap.size_push]; exact Nat.ne_of_lt (Nat.lt_succ_self _)
  refine ⟨_, _, _, _, _, _, _, rfl, Walks.tuple (A := C.A.in1) X.hh _ s.heap.objs.size hne _, ⟨⟨_, Heap.get?_push_size _ rfl, rfl, rfl⟩, hT.at fun o e => Heap.get?_push_of_some _ e⟩, ?_, by simp, CmpOf.texts_lt ht, ?_⟩
  · intro b hb
    rw [Heap.size_push]
    simp at hb
    rcases hb with rfl | rfl
    · show s.heap.objs.size + 1 < (s.heap.push _).objs.size + 1
      rw [Heap.size_push]; exact Nat.lt_succ_self _
    · show s.heap.objs.size < (s.heap.push _).objs.size + 1
      rw [Heap.size_push]; exact Nat.lt_succ_of_lt (Nat.lt_succ_self _)
  · intro v h' tk hv hk
    obtain ⟨n, t', h1, rfl⟩ := ht.get (by simpa using hv)
    obtain ⟨b1, b2⟩ := argBest_lt [a, b] 1
    refine ⟨m, R, X.stay (tk := tk) fun b o e => hk b o (fun hm => ?_) (Heap.get?_push_of_some _ (Heap.get?_push_of_some _ e)), h n t' ⟨List.mem_of_getElem? h1, fun x hx => ?_⟩⟩
    · rw [List.mem_singleton.mp hm, Heap.size_push] at e
      exact absurd (Heap.lt_size e) (Nat.not_lt.mpr (Nat.le_succ _))
    · obtain ⟨j, hj, rfl⟩ := mem_nth hx
      have := b2 j (by simp at hj; lia)
      have h1' : [a, b][argBest (fun i j => decide (nth [a, b] i < nth [a, b] j)) 1]? = some n := h1
      rwa [nth_of h1'] at this
theorem ev_max2 {a b : List Nat} {t u : Tok} (h : ∀ n t, Greatest [a, b] n → P (.str (S n) t) m R) : Ev C m R (call (.builtin "max") [.str (S a) t, .str (S b) u]) P := fun s X => by
  have ht : Texts [.str (S a) t, .str (S b) u] [a, b] := (Texts.nil.snoc a t).snoc b u
  have hT : (s.heap.push { cls := .type "tuple", data := .seq #[.str (S a) t, .str (S b) u] }).IsTuple s.heap.objs.size [.str (S a) t, .str (S b) u].toArray := ⟨_, Heap.get?_push_size _ rfl, rfl, _, rfl⟩
  refine call_max_two (wpAny_pyIter_tuple hT ?_)
  have hne : s.heap.objs.size ≠ (s.heap.push { cls := .type "tuple", data := .seq #[.str (S a) t, .str (S b) u] }).objs.size := by rw [Heap.size_push]; exact Nat.ne_of_lt (Nat.lt_succ_self _)
  refine ⟨_, _, _, _, _, _, _, rfl, Walks.tuple (A := C.A.in1) X.hh _ s.heap.objs.size hne _, ⟨⟨_, Heap.get?_push_size _ rfl, rfl, rfl⟩, hT.at fun o e => Heap.get?_push_of_some _ e⟩, ?_, by simp, CmpOf.texts_gt ht, ?_⟩
  · intro b hb
    rw [Heap.size_push]
    simp at hb
    rcases hb with rfl | rfl
    · show s.heap.objs.size + 1 < (s.heap.push _).objs.size + 1
      rw [Heap.size_push]; exact Nat.lt_succ_self _
    · show s.heap.objs.size < (s.heap.push _).objs.size + 1
      rw [Heap.size_push]; exact Nat.lt_succ_of_lt (Nat.lt_succ_self _)
  · intro v h' tk hv hk
    obtain ⟨n, t', h1, rfl⟩ := ht.get (by simpa using hv)
    obtain ⟨b1, b2⟩ := argBest_gt [a, b] 1
    refine ⟨m, R, X.stay (tk := tk) fun b o e => hk b o (fun hm => ?_) (Heap.get?_push_of_some _ (Heap.get?_push_of_some _ e)), h n t' ⟨List.mem_of_getElem? h1, fun x hx => ?_⟩⟩
    · rw [List.mem_singleton.mp hm, Heap.size_push] at e
      exact absurd (Heap.lt_size e) (Nat.not_lt.mpr (Nat.le_succ _))
    · obtain ⟨j, hj, rfl⟩ := mem_nth hx
      have := b2 j (by simp at hj; lia)
      have h1' : [a, b][argBest (fun i j => decide (nth [a, b] j < nth [a, b] i)) 1]? = some n := h1
      rwa [nth_of h1'] at this
end
end
section
open PySem PySem.W PySem.Calls PyProof.Rows PySem.Builtin
set_option maxRecDepth 100000
set_option maxHeartbeats 2000000
/-- the beginning that two texts share -/
noncomputable def lcp : List Nat → List Nat → List Nat
  | a :: x, b :: y => if a = b then a :: lcp x y else []
  | _, _ => []
theorem lcp_all : ∀ (i : Nat) (x y : List Nat), x.take i = y.take i → x.length ≤ i → x.length ≤ y.length → lcp x y = x
  | _, [], _, _, _, _ => by unfold lcp; rfl
  | i + 1, a :: x, [], h, _, hl => by simp at hl
  | i + 1, a :: x, b :: y, h, hi, hl => by
    rw [List.take_succ_cons, List.take_succ_cons] at h
    injection h with h1 h2
    unfold lcp
    rw [if_pos h1, lcp_all i x y h2 (by simpa using hi) (by simpa using hl)]
theorem lcp_at : ∀ (i : Nat) (x y : List Nat) (c d : Nat), x.take i = y.take i → x[i]? = some c → y[i]? = some d → c ≠ d → lcp x y = x.take i
  | 0, a :: x, b :: y, c, d, _, hc, hd, hn => by
    simp at hc hd
    subst hc; subst hd
    unfold lcp
    rw [if_neg hn]; rfl
  | i + 1, a :: x, b :: y, c, d, h, hc, hd, hn => by
    rw [List.take_succ_cons, List.take_succ_cons] at h
    injection h with h1 h2
    unfold lcp
    rw [if_pos h1, lcp_at i x y c d h2 (by simpa using hc) (by simpa using hd) hn, List.take_succ_cons]
  | _, [], _, c, _, _, hc, _, _ => by simp at hc
  | _, _ :: _, [], _, d, _, _, hd, _ => by simp at hd
theorem take_lt : ∀ (i : Nat) (x : List Nat), i < x.length → x.take i < x
  | _, [], h => by simp at h
  | 0, a :: x, _ => by rw [List.take_zero]; exact List.nil_lt_cons a x
  | i + 1, a :: x, h => by
    rw [List.take_succ_cons]
    exact List.cons_lt_cons_iff.mpr (.inr ⟨rfl, take_lt i x (by simpa using h)⟩)
theorem len_of {x y : List Nat} {i : Nat} (h : x.take i = y.take i) (hi : i < x.length) (hle : i ≤ y.length) (hn : ¬ y < x) : i < y.length := by
  rcases Nat.lt_or_ge i y.length with g | g
  · exact g
  · exfalso
    rw [List.take_of_length_le g] at h
    exact hn (h ▸ take_lt i x hi)
theorem take_agree {x y : List Nat} {i c : Nat} (h : x.take i = y.take i) (hx : x[i]? = some c) (hy : y[i]? = some c) : x.take (i + 1) = y.take (i + 1) := by
  rw [List.take_add_one, List.take_add_one, h, hx, hy]
theorem d_common (w : World) (l : Addr) (vs : List Value) (ns : List (List Nat)) (ht : Texts vs ns) (hne : ns ≠ []) (hlen : ∀ n ∈ ns, n.length ≤ 100) (hl : ns.length ≤ 100) :
    Does w 142 3 60 [.ref l] (fun h => Holds w h l (.list vs)) (fun v _ => ∃ a b t, Least ns a ∧ Greatest ns b ∧ v = .str (S (lcp a b)) t) := by
  refine does_of (d := 2) (u := 56) (binds := [("m", .ref l)]) (by k_is) (by k_is) (fun s => BindsTo.of_eq rfl) ?_
  intro C L hw hdp hun hH hE W hpre
  subst hw
  have hvl := ht.1
  have hpos : 0 < ns.length := List.length_pos_iff.mpr hne
  obtain ⟨t0, h0⟩ := ht.2 0 ns[0] (List.getElem?_eq_getElem hpos)
  repeat walk_at "go"
  refine ev_tval' ?_
  repeat walk_at "go"
  refine ev_tlist (.base hpre) (by lia) ?_
  have he : vs.isEmpty = false := by
    cases vs with
    | nil => simp at hvl; lia
    | cons => rfl
  rw [he]
  refine ⟨fun h => absurd h (by simp), fun _ => ?_⟩
  repeat walk_at "go"
  refine ev_tval' ?_
  repeat walk_at "go"
  refine ev_sub ?_
  repeat walk_at "go"
  refine ev_itemL (.base hpre) (by lia) (by lia) h0 ?_
  repeat walk_at "go"
  refine ev_tupleR ?_
  repeat walk_at "go"
  refine ⟨by simp, fun a ha => ?_⟩
  repeat walk_at "go"
  refine ev_isiS .head ?_
  repeat walk_at "go"
  refine ⟨fun _ => ?_, fun h => absurd h (by simp)⟩
  repeat walk_at "go"
  refine ev_map (.base hpre) fun D T I o hnd hnew hoc hod => ?_
  repeat walk_at "go"
  refine ev_tuplemap (.base hpre) rfl hoc hod (by lia) (fun x hx => ?_) (d := 1) (u := 30) (by lia) (by lia) fun tp => ?_
  · obtain ⟨i, hi, e⟩ := List.mem_iff_getElem.mp hx
    obtain ⟨n, t, _, rfl⟩ := ht.get (i := i) (v := x) (by rw [List.getElem?_eq_getElem hi, e])
    exact d_fspath C.w _ _
  repeat walk_at "go"
  refine ev_minT .head ht hne fun s1 ts1 h1 => ?_
  repeat walk_at "go"
  refine ev_maxT .head ht hne fun s2 ts2 h2 => ?_
  repeat walk_at "go"
  have hs1 := hlen s1 h1.1
  have hs2 := hlen s2 h2.1
  have h12 : ¬ s2 < s1 := h1.2 s2 h2.1
  refine ev_for_enumS W (by walk_at "vr") (by walk_at "vr") ?_
  repeat walk_at "go"
  refine ev_enumS fun e it o2 hit hee hne2 hoc2 hod2 => ?_
  refine ⟨e, it, o2, s1, ts1, _, rfl, rfl, hoc2, hod2, fun i m R => m "s1" = some (.str (S s1) ts1) ∧ m "s2" = some (.str (S s2) ts2) ∧ s1.take i = s2.take i ∧ i ≤ s2.length, ⟨by walk_at "lk", by walk_at "lk", rfl, Nat.zero_le _⟩, ?_, ?_⟩
  · rintro i c t1 t2 m₁ R₁ N hc ⟨q1, q2, q3, q4⟩
    have W' := W.hide N
    have hi : i < s1.length := (List.getElem?_eq_some_iff.mp hc).1
    have hi2 := len_of q3 hi q4 h12
    repeat walk_at "go"
    refine ev_sub ?_
    repeat walk_at "go"
    refine ev_itemS (c := s2[i]) (by lia) (by lia) (List.getElem?_eq_getElem hi2) fun _ => ?_
    repeat walk_at "go"
    refine ⟨fun hb => ?_, fun hb => ?_⟩
    · repeat walk_at "go"
      refine ev_partTo ?_
      repeat walk_at "go"
      refine ⟨_, _, rfl, by lia, ?_⟩
      repeat walk_at "go"
      refine ⟨_, _, rfl, fun t5 => ?_⟩
      rw [S_take]
      have hn : c ≠ s2[i] := by simpa using hb
      exact ⟨[], List.nil_sublist _, s1, s2, t5, h1, h2, by rw [lcp_at i s1 s2 c s2[i] q3 hc (List.getElem?_eq_getElem hi2) hn]; rfl⟩
    · refine ev_nil ⟨by walk_at "lk", by walk_at "lk", ?_, hi2⟩
      have hn : c = s2[i] := by simpa using hb
      exact take_agree q3 hc (by rw [List.getElem?_eq_getElem hi2, hn])
  · rintro m₁ R₁ ⟨q1, q2, q3, q4⟩
    repeat walk_at "go"
    exact ⟨[], List.nil_sublist _, s1, s2, _, h1, h2, by rw [lcp_all s1.length s1 s2 q3 (Nat.le_refl _) q4]; rfl⟩
end
section
open PySem PySem.W PySem.Calls PyProof.Rows PySem.Builtin PySem.F
set_option maxRecDepth 100000
theorem cellsFrom_app : ∀ (names : List (Str × NameKind)) (n : Nat) (acc : List (Str × Addr)), cellsFrom n names acc = cellsFrom n names [] ++ acc
  | [], _, _ => rfl
  | (y, k) :: r, n, acc => by
    unfold cellsFrom
    split
    · rw [cellsFrom_app r (n + 1) ((y, n) :: acc), cellsFrom_app r (n + 1) [(y, n)], List.append_assoc]; rfl
    · exact cellsFrom_app r n acc
noncomputable def cenv (scope : Scope) (cl : List (Str × Addr)) (L : Addr) (env : Env) : Env :=
  { scope := relabel scope env, locals := L, globals := env.globals, cells := cellsFrom (L + 1) scope.names cl, qual := env.qual, func := none, code := env.code, frame := env.frame, builtins := env.builtins }
section
variable {Mo : Model} {A : Around} {E : Value → Shared → Prop} {s : Shared}
theorem wpAny_compEnv {scope : Scope} {cl : List (Str × Addr)} {env : Env} {Q : Env → Shared → Prop}
    (h : Q { scope := scope, locals := s.heap.objs.size, globals := env.globals, cells := cellsFrom (s.heap.objs.size + 1) scope.names cl, qual := env.qual, func := none, code := env.code, frame := env.frame, builtins := env.builtins }
      { s with heap := pushCells (s.heap.push { cls := .type "dict", data := .dict #[] }) scope.names }) :
    wpAny Mo A (newFunctionEnv scope env.globals cl [] env.qual none .none (some env)) Q E s := by
  simp only [newFunctionEnv, Option.isSome_some, if_true]
  refine wpAny_bind (wpAny_alloc ?_)
  refine wpAny_bind (wpAny_layCells _ (fun name kind cells => by cases hkc : kind == NameKind.cell <;> simp) _ _ _ _ ?_)
  rw [show ({ s with heap := s.heap.push { cls := .type "dict", data := .dict #[] } } : Shared).heap.objs.size = s.heap.objs.size + 1 from Heap.size_push ..]
  rw [List.forIn_nil]
  exact wpAny_bind (wpAny_pure (wpAny_pure h))
end
structure CompOk (C : Cx) (scope : Scope) (cl : List (Str × Addr)) (x : Str) : Prop where
  clos : closureFor scope C.env = pure cl
  kind : scope.kind = .function
  names : ∀ y ∈ scope.names, y.2 = .local → scope.names.lookup y.1 = some .local
  fro : ∀ y c, cl.lookup y = some c → C.env.kindOf y = some .cell ∧ C.env.cells.lookup y = some c
  frm : ∀ c ∈ cl.map (·.2), ∃ y, C.env.kindOf y = some .cell ∧ C.env.cells.lookup y = some c
  own : ∀ n y c, (y, c) ∈ cellsFrom n scope.names [] → cl.lookup y = none
  dis : cl.Pairwise fun p q => p.2 ≠ q.2
  var : (∀ L, (cenv scope cl L C.env).kindOf x = some .local) ∨ ((∀ L, (cenv scope cl L C.env).kindOf x = some .cell) ∧ ∀ n, ((cellsFrom n scope.names []).lookup x).isSome = true)
noncomputable def Cx.comp (C : Cx) (g : Heap) (scope : Scope) (cl : List (Str × Addr)) (L : Addr) : Cx :=
  { C with g := g, env := cenv scope cl L C.env, fa := L :: (cellsFrom (L + 1) scope.names []).map (·.2), H := [] }
noncomputable def cmap (k : Str → Option NameKind) (cl : List (Str × Addr)) (m m3 : Map) : Map := fun y => if k y = some .cell ∧ (cl.lookup y).isSome = true then m y else m3 y
theorem At.remap {C : Cx} {m m' : Map} {R : Led} {s : Shared} (x : At C m R s) (v : Vars C.env s.heap m') : At C m' R s :=
  { same := x.same, gl := x.gl, hh := x.hh, rd := x.rd, ru := x.ru, keep := x.keep, vars := v, own := x.own, hid := x.hid, live := x.live, nod := x.nod, new := x.new, frm := x.frm, fn := x.fn }
section
variable {C : Cx} {m : Map} {R : Led} {s1 : Shared} {scope : Scope} {cl : List (Str × Addr)} {x : Str}
theorem CompOk.cellOf (K : CompOk C scope cl x) (X : At C m R s1) {y : Str} {c : Addr} (h : cl.lookup y = some c) : s1.heap.IsCell c (m y) :=
  let ⟨h1, h2⟩ := K.fro y c h; X.vars.cl y c h1 h2
theorem CompOk.look (K : CompOk C scope cl x) {L : Addr} {y : Str} {c : Addr} (h : (cellsFrom (L + 1) scope.names cl).lookup y = some c) :
    ((y, c) ∈ cellsFrom (L + 1) scope.names [] ∧ cl.lookup y = none) ∨ cl.lookup y = some c := by
  rw [cellsFrom_app, List.lookup_append] at h
  cases h1 : (cellsFrom (L + 1) scope.names []).lookup y with
  | none => rw [h1] at h; exact .inr h
  | some c' =>
    rw [h1] at h
    have : c' = c := by simpa using h
    subst this
    exact .inl ⟨mem_of_lookup h1, K.own _ _ _ (mem_of_lookup h1)⟩
/-- the outer cells are as they were -/
theorem CompOk.vars (K : CompOk C scope cl x) (X : At C m R s1) {L : Addr} {h : Heap} {m3 : Map} (hk : s1.heap.StaysIn h) (V : Vars (cenv scope cl L C.env) h m3) :
    Vars (cenv scope cl L C.env) h (cmap (cenv scope cl L C.env).kindOf cl m m3) := by
  obtain ⟨⟨ml, hn, hm⟩, hc⟩ := V
  refine ⟨⟨ml, hn, fun y hy => ?_⟩, fun y c hy hl => ?_⟩
  · unfold cmap; rw [if_neg (fun q => by rw [hy] at q; cases q.1)]; exact hm y hy
  · unfold cmap
    by_cases q : (cl.lookup y).isSome = true
    · rw [if_pos ⟨hy, q⟩]
      rcases K.look hl with ⟨_, e⟩ | e
      · rw [e] at q; cases q
      · obtain ⟨o, ho, hd⟩ := K.cellOf X e
        exact ⟨o, hk _ _ ho, hd⟩
    · rw [if_neg (fun r => q r.2)]; exact hc y c hy hl
theorem cells_nodup (names : List (Str × NameKind)) (h : Heap) : (cellsFrom h.objs.size names []).Pairwise (fun p q => p.2 ≠ q.2) ∧ ∀ p ∈ cellsFrom h.objs.size names [], (pushCells h names).IsCell p.2 none ∧ h.objs.size ≤ p.2 := by
  have ok := cellsFrom_ok names h h.objs.size [] ⟨fun _ _ hm => (nomatch hm), List.Pairwise.nil⟩ (Nat.le_refl _)
  exact ⟨ok.apart, fun p hp => ok.empty p.1 p.2 hp⟩
/-- the frame of a comprehension, just made -/
theorem CompOk.at (K : CompOk C scope cl x) (X : At C m R s1) {h2 : Heap} {tk : Nat} (hk : s1.heap.StaysIn h2) (hsz : ∀ b o, s1.heap.get? b = some o → b < h2.objs.size) :
    At (C.comp s1.heap scope cl h2.objs.size) (cmap (cenv scope cl h2.objs.size C.env).kindOf cl m fun _ => none) [] { s1 with heap := pushCells (h2.push { cls := .type "dict", data := .dict #[] }) scope.names, toks := tk } := by
  have hsz1 : (h2.push { cls := .type "dict", data := .dict #[] }).objs.size = h2.objs.size + 1 := Heap.size_push ..
  have hcn := cells_nodup scope.names (h2.push { cls := .type "dict", data := .dict #[] })
  rw [hsz1] at hcn
  have hns : (pushCells (h2.push { cls := .type "dict", data := .dict #[] }) scope.names).Ns h2.objs.size (fun _ => none) := (Heap.Ns.new h2 (.type "dict")).keeps (pushCells_keeps _ _)
  have hkeep : s1.heap.StaysIn (pushCells (h2.push { cls := .type "dict", data := .dict #[] }) scope.names) := fun b o e => pushCells_keeps _ _ b o (Heap.get?_push_of_some _ (hk b o e))
  have hnone : ∀ a, h2.objs.size ≤ a → s1.heap.get? a = none := fun a ha => by
    cases e : s1.heap.get? a with
    | none => rfl
    | some o => exact absurd (hsz a o e) (Nat.not_lt.mpr ha)
  exact {
    same := by obtain ⟨h, t, rfl⟩ := X.same; exact ⟨_, _, rfl⟩
    gl := X.gl.keeps X.keep
    hh := X.hh
    rd := X.rd
    ru := X.ru
    keep := hkeep
    vars := ⟨⟨_, hns, fun y hy => by
        have hy' : (cenv scope cl h2.objs.size C.env).kindOf y = some .local := hy
        unfold cmap; rw [if_neg (fun q => by rw [hy'] at q; cases q.1)]⟩, fun y c hy hl => by
      have hy' : (cenv scope cl h2.objs.size C.env).kindOf y = some .cell := hy
      unfold cmap
      rcases K.look hl with ⟨e, e2⟩ | e
      · rw [if_neg (fun q => by rw [e2] at q; cases q.2)]; exact (hcn.2 _ e).1
      · rw [if_pos ⟨hy', by rw [e]; rfl⟩]
        obtain ⟨o, ho, hd⟩ := K.cellOf X e
        exact ⟨o, hkeep _ _ ho, hd⟩⟩
    own := fun _ hp => nomatch hp
    hid := fun _ hp => nomatch hp
    live := fun a ha => by
      rcases List.mem_cons.mp ha with rfl | ha
      · exact Ns.live hns
      · obtain ⟨p, hp, rfl⟩ := List.mem_map.mp ha
        obtain ⟨o, ho, _⟩ := (hcn.2 p hp).1
        exact ⟨o, ho⟩
    nod := by
      show ((C.comp s1.heap scope cl h2.objs.size).fa ++ ([] ++ [])).Nodup
      rw [List.append_nil, List.append_nil]
      refine List.nodup_cons.mpr ⟨fun hm => ?_, nodup_of_pair hcn.1⟩
      obtain ⟨p, hp, e⟩ := List.mem_map.mp hm
      have := (hcn.2 p hp).2
      rw [e] at this
      exact Nat.not_succ_le_self _ this
    new := fun a ha => by
      have ha' : a ∈ h2.objs.size :: (cellsFrom (h2.objs.size + 1) scope.names []).map (·.2) := (List.mem_append.mp ha).elim id fun h => nomatch h
      rcases List.mem_cons.mp ha' with rfl | ha'
      · exact hnone _ (Nat.le_refl _)
      · obtain ⟨p, hp, rfl⟩ := List.mem_map.mp ha'
        exact hnone _ (Nat.le_of_succ_le (hcn.2 p hp).2)
    frm := fun a ha => by
      rcases ha with rfl | ha
      · exact .inl List.mem_cons_self
      · have : a ∈ (cellsFrom (h2.objs.size + 1) scope.names cl).map (·.2) := ha
        rw [cellsFrom_app, List.map_append] at this
        rcases List.mem_append.mp this with h | h
        · exact .inl (List.mem_cons_of_mem _ h)
        · obtain ⟨y, h1, h2⟩ := K.frm a h
          obtain ⟨o, ho, _⟩ := X.vars.cl y a h1 h2
          exact .inr ⟨o, ho⟩
    fn := ⟨K.kind, X.fn.2.1, X.fn.2.2⟩ }
/-- the tests and the value of a comprehension's turn -/
noncomputable def testsOf (ifs : List Expr) (env : Env) : Sem Bool := forIn ifs true fun c r => if r = true then do let ok ← isTrue c env (eval c env); pure (ForInStep.yield ok) else pure (ForInStep.yield r)
theorem CompOk.store (K : CompOk C scope cl x) {C1 : Cx} {L : Addr} {m1 : Map} {R1 : Led} {v : Value} {P : Unit → Map → Led → Prop} (he : C1.env = cenv scope cl L C.env) (hfa : C1.fa = L :: (cellsFrom (L + 1) scope.names []).map (·.2))
    (hcl : ∀ c ∈ cl.map (·.2), c ≠ L ∧ c ∉ (cellsFrom (L + 1) scope.names []).map (·.2)) (hown : ∀ p ∈ cellsFrom (L + 1) scope.names [], L < p.2) (hap : (cellsFrom (L + 1) scope.names []).Pairwise fun p q => p.2 ≠ q.2) (h : P () (sv m1 x v) R1) : Ev C1 m1 R1 (storeName C1.env x v) P := by
  have hcells : C1.env.cells = cellsFrom (L + 1) scope.names [] ++ cl := by rw [he]; exact cellsFrom_app _ _ _
  rcases K.var with hv | ⟨hv, hc⟩
  · refine store_local h (by rw [he]; exact hv L) (by rw [hfa, he]; exact List.mem_cons_self) fun c hc => ?_
    have hL : C1.env.locals = L := by rw [he]; rfl
    rw [hL]
    rw [hcells, List.map_append] at hc
    rcases List.mem_append.mp hc with h1 | h1
    · obtain ⟨p, hp, rfl⟩ := List.mem_map.mp h1; exact Nat.ne_of_gt (hown p hp)
    · exact (hcl c h1).1
  · obtain ⟨c, hc'⟩ := Option.isSome_iff_exists.mp (hc (L + 1))
    have hm := mem_of_lookup hc'
    refine store_cell (c := c) h (by rw [he]; exact hv L) (by rw [hcells, List.lookup_append, hc']; rfl) (by rw [hfa]; exact List.mem_cons_of_mem _ (List.mem_map.mpr ⟨_, hm, rfl⟩)) ?_ ?_
    · rw [he]; exact Nat.ne_of_lt (hown _ hm)
    · rw [hcells]
      refine List.pairwise_append.mpr ⟨hap, K.dis, fun p hp q hq e => ?_⟩
      exact (hcl q.2 (List.mem_map.mpr ⟨q, hq, rfl⟩)).2 (List.mem_map.mpr ⟨p, hp, e⟩)
end
end
section
open PySem PySem.W PySem.Calls PyProof.Rows PySem.Builtin PySem.F
set_option maxRecDepth 100000
section
variable {C : Cx} {m : Map} {R : Led} {s1 : Shared} {scope : Scope} {cl : List (Str × Addr)} {x : Str}
/-- what the inside of a comprehension may use -/
structure Inside (C : Cx) (m : Map) (R : Led) (scope : Scope) (cl : List (Str × Addr)) (x : Str) (C1 : Cx) (m1 : Map) (y : Value) : Prop where
  w : C1.w = C.w
  dp : C1.dp = C.dp
  un : C1.un = C.un
  env : ∃ L, C1.env = cenv scope cl L C.env
  has : ∀ a c, Has C R a c → ∀ R', Has C1 R' a c
  it : m1 x = some y
  old : ∀ z, z ≠ x → (∀ L, (cenv scope cl L C.env).kindOf z = some .cell) → (cl.lookup z).isSome = true → m1 z = m z
theorem comp_core {v : Value} {n : Nat} {Pv : Nat → Value → Prop} {elt iter : Expr} {px pos : Pos} {ifs : List Expr} {RR : Value → Addr → Result → Shared → Prop} (X : At C m R s1) (K : CompOk C scope cl x) (hn : n ≤ 1000)
    (hsrc : ∀ C0 : Cx, C0.w = C.w → (∀ a c, Has C R a c → ∀ R', Has C0 R' a c) → Src C0 [] [] v n Pv)
    (J : Nat → List Value → Led → Prop) (h0 : J 0 [] [])
    (step : ∀ C1 m1 i y ys Rc, Inside C m R scope cl x C1 m1 y → i < n → Pv i y → J i ys Rc → ys.length ≤ i → Ev C1 m1 Rc (testsOf ifs C1.env) (fun ok m2 R2 => (ok = true → Ev C1 m2 R2 (eval elt C1.env) (fun u _ R3 => J (i + 1) (ys ++ [u]) R3)) ∧ (ok = false → J (i + 1) ys R2)))
    (fin : ∀ D L Rc ys h' tk, J n ys Rc → ys.length ≤ n → At C m (((D, .plist ys) :: Rc) ++ R) { s1 with heap := h', toks := tk } → (∃ mm, h'.Ns L mm) → L ∉ C.fa ++ ((((D, Cell.plist ys) :: Rc) ++ R).map (·.1) ++ C.H.map (·.1)) → s1.heap.get? L = none →
      RR (.ref D) L (.ok .next) { s1 with heap := h', toks := tk }) :
    wpAny (model Prg C.w) C.A (pyIter v) (fun it s₂ => wpAny (model Prg C.w) C.A (newList []) (fun acc s₃ =>
      wpAny (model Prg C.w) C.A (newFunctionEnv scope C.env.globals cl [] C.env.qual none .none (some C.env)) (fun ce s₄ =>
        codeAny (model Prg C.w) C.A (.compStart (.ListComp elt [⟨.Name x px, iter, ifs, 0⟩] scope pos) 0 it acc { ce with scope := relabel scope C.env }) (RR acc ce.locals) s₄) (fun _ _ => False) s₃) (fun _ _ => False) s₂) (fun _ _ => False) s1 := by
  -- the iterator
  have hlocal : ∃ o, s1.heap.get? C.env.locals = some o := let ⟨ml, hn, _⟩ := X.vars.ml; Ns.live hn
  have hframe : ∀ a, a = C.env.locals ∨ a ∈ C.env.cells.map (·.2) → ∃ o, s1.heap.get? a = some o := fun a ha => by
    rcases X.frm a ha with h | ⟨o, h⟩
    · exact X.live a h
    · exact ⟨o, X.keep _ _ h⟩
  let C0 : Cx := { C with g := s1.heap, fa := [], H := [] }
  have X0 : At C0 m [] s1 := { same := X.same, gl := X.gl.keeps X.keep, hh := X.hh, rd := X.rd, ru := X.ru, keep := fun _ _ e => e, vars := X.vars, own := fun _ hp => (nomatch hp), hid := fun _ hp => (nomatch hp)
                               live := fun _ ha => (nomatch ha), nod := List.nodup_nil, new := fun _ ha => (nomatch ha), frm := fun a ha => .inr (hframe a ha), fn := X.fn }
  have hhas : ∀ a c, Has C R a c → ∀ R', Has C0 R' a c := fun a c h R' => .base (X.has h)
  refine hsrc C0 rfl hhas m s1 X0 _ fun I fp wr St newA s2 X2 O => ?_
  obtain ⟨hp2, tk2, e2⟩ : ∃ h t, s2 = { s1 with heap := h, toks := t } := by
    obtain ⟨h, t, rfl⟩ := X2.same
    obtain ⟨h', t', e⟩ := X.same
    exact ⟨h, t, by rw [e]⟩
  subst e2
  -- the list
  refine wpAny_newObj_type (wpAny_compEnv ?_)
  have hsz3 : (hp2.push { cls := .type "list", data := .seq ([] : List Value).toArray }).objs.size = hp2.objs.size + 1 := Heap.size_push ..
  have keep2 : s1.heap.StaysIn hp2 := X2.keep
  have keep3 : s1.heap.StaysIn (hp2.push { cls := .type "list", data := .seq ([] : List Value).toArray }) := fun b o e => Heap.get?_push_of_some _ (keep2 b o e)
  have X4 := K.at X (h2 := hp2.push { cls := .type "list", data := .seq ([] : List Value).toArray }) (tk := tk2) keep3 (fun b o e => Heap.lt_size (keep3 b o e))
  have hD0 : (hp2.push { cls := .type "list", data := .seq ([] : List Value).toArray }).get? hp2.objs.size = some { cls := .type "list", data := .seq ([] : List Value).toArray } := Heap.get?_push_size _ rfl
  generalize hH3 : hp2.push { cls := .type "list", data := .seq ([] : List Value).toArray } = hp3 at *
  have keep34 : hp3.StaysIn (pushCells (hp3.push { cls := .type "dict", data := .dict #[] }) scope.names) := fun b o e => pushCells_keeps _ _ b o (Heap.get?_push_of_some _ e)
  have hcn := cells_nodup scope.names (hp3.push { cls := .type "dict", data := .dict #[] })
  have hns : (pushCells (hp3.push { cls := .type "dict", data := .dict #[] }) scope.names).Ns hp3.objs.size (fun _ => none) := (Heap.Ns.new hp3 (.type "dict")).keeps (pushCells_keeps _ _)
  rw [Heap.size_push] at hcn
  generalize hL : hp3.objs.size = L at *
  generalize hH4 : pushCells (hp3.push { cls := .type "dict", data := .dict #[] }) scope.names = hp4 at *
  have keep24 : hp2.StaysIn hp4 := fun b o e => keep34 b o (by rw [← hH3]; exact Heap.get?_push_of_some _ e)
  let C1 : Cx := C.comp s1.heap scope cl L
  let newA' : List Addr := hp2.objs.size :: newA
  have hDl : hp2.objs.size < L := by rw [hsz3]; exact Nat.lt_succ_self _
  have hnewlt : ∀ a ∈ newA, a < hp2.objs.size := fun a ha => let ⟨o, ho⟩ := O.here a ha; Heap.lt_size ho
  have hnewA'lt : ∀ a ∈ newA', a < L := fun a ha => by
    rcases List.mem_cons.mp ha with rfl | ha
    · exact hDl
    · exact Nat.lt_trans (hnewlt a ha) hDl
  have hown : ∀ p ∈ cellsFrom (L + 1) scope.names [], L < p.2 := fun p hp => (hcn.2 p hp).2
  have hfaL : ∀ a ∈ C1.fa, L ≤ a := fun a ha => by
    rcases List.mem_cons.mp ha with rfl | ha
    · exact Nat.le_refl _
    · obtain ⟨p, hp, rfl⟩ := List.mem_map.mp ha; exact Nat.le_of_lt (hown p hp)
  have hnone1 : ∀ a, hp2.objs.size ≤ a → s1.heap.get? a = none := fun a ha => by
    cases e : s1.heap.get? a with
    | none => rfl
    | some o => exact absurd (Heap.lt_size (keep2 a o e)) (Nat.not_lt.mpr ha)
  have hg : ∀ a ∈ newA', s1.heap.get? a = none := fun a ha => by
    rcases List.mem_cons.mp ha with rfl | ha
    · exact hnone1 _ (Nat.le_refl _)
    · exact (O.off a ha).2
  have hnd' : newA'.Nodup := List.nodup_cons.mpr ⟨fun h => Nat.lt_irrefl _ (hnewlt _ h), O.nod⟩
  have hDfp : hp2.objs.size ∉ fp := fun h => by
    rcases O.sub _ h with h | ⟨o, h⟩ | h | h
    · exact Nat.lt_irrefl _ (hnewlt _ h)
    · exact Nat.lt_irrefl _ (Heap.lt_size (keep2 _ _ h))
    · cases h
    · cases h
  have hDwr : hp2.objs.size ∉ wr := fun h => hDfp (O.W.sub _ h)
  have hwr' : ∀ b ∈ hp2.objs.size :: wr, b ∈ newA' := fun b hb => by
    rcases List.mem_cons.mp hb with rfl | hb
    · exact List.mem_cons_self
    · exact List.mem_cons_of_mem _ (O.wr b hb)
  have hcl : ∀ c ∈ cl.map (·.2), c ≠ L ∧ c ∉ (cellsFrom (L + 1) scope.names []).map (·.2) := fun c hc => by
    obtain ⟨y, h1, h2⟩ := K.frm c hc
    obtain ⟨o, ho, _⟩ := X.vars.cl y c h1 h2
    have hlt : c < L := Nat.lt_of_lt_of_le (Heap.lt_size (keep2 _ _ ho)) (Nat.le_of_lt hDl)
    exact ⟨Nat.ne_of_lt hlt, fun hm => by
      obtain ⟨p, hp, e⟩ := List.mem_map.mp hm
      exact Nat.lt_irrefl _ (Nat.lt_trans hlt (e ▸ hown p hp))⟩
  have hoff0 : ∀ Rc : Led, (∀ N : List (Addr × Obj), N.map (·.1) = newA' → ∀ m' s', At (C1.hide N) m' Rc s' → ∀ a ∈ newA', a ∉ C1.fa ++ (Rc.map (·.1) ++ C1.H.map (·.1)) ∧ C1.g.get? a = none) := fun Rc N hN m' s' Y a ha => by
    refine ⟨fun hm => ?_, hg a ha⟩
    have hn := Y.nod
    have haN : a ∈ (N ++ C1.H).map (·.1) := by rw [List.map_append, hN]; exact List.mem_append_left _ ha
    rw [List.nodup_append] at hn
    have hn2 := List.nodup_append.mp hn.2.1
    rcases List.mem_append.mp hm with h | h
    · exact hn.2.2 a h a (List.mem_append_right _ haN) rfl
    · rcases List.mem_append.mp h with h | h
      · exact hn2.2.2 a h a haN rfl
      · cases h
  -- the loop
  have hplain0 : hp4.PlainList hp2.objs.size ([] : List Value).toArray := ⟨_, keep34 _ _ hD0⟩
  have hst4 : St 0 hp4 := O.W.frame _ _ _ O.st fun b _ o e => keep24 b o e
  have loop : ∀ s4 : Shared, s4 = { s1 with heap := hp4, toks := tk2 } →
      codeAny (model Prg C.w) C.A (.compLoop (.ListComp elt [⟨.Name x px, iter, ifs, 0⟩] scope pos) 0 (.ref I) (.ref hp2.objs.size) (cenv scope cl L C.env)) (RR (.ref hp2.objs.size) L) s4 := by
    rintro s4 rfl
    refine codeAny_compLoop_tests
      (fun k s' => ∃ i m' Rc N ys, N.map (·.1) = newA' ∧ At (C1.hide N) m' Rc s' ∧ St i s'.heap ∧ s'.heap.PlainList hp2.objs.size ys.toArray ∧ J i ys Rc ∧ ys.length ≤ i ∧ i ≤ n ∧ k = n + 1 - i) ?_ (n + 1)
      ⟨0, cmap (cenv scope cl L C.env).kindOf cl m fun _ => none, [], hidden hp4 newA', [], hidden_fst _ _, ?_, hst4, hplain0, h0, Nat.le_refl _, Nat.zero_le _, rfl⟩
    · rintro k s' ⟨i, m', Rc, N, ys, hN, Y, hst, hpl, hj, hyl, hi, rfl⟩
      have Y₀ := Y.unhide
      have hoff := hoff0 Rc N hN m' s' Y
      have hall : ∀ b ∈ newA', ∃ o, s'.heap.get? b = some o := fun b hb => by
        obtain ⟨p, hp, rfl⟩ := List.mem_map.mp (hN ▸ hb)
        exact ⟨_, Y.hid p (List.mem_append_left _ hp)⟩
      by_cases hlt : i < n
      · refine O.W.item i _ _ _ hlt hst fun v h₁ tk₁ hP hst₁ hk₁ => ?_
        have hlive : ∀ b ∈ newA', ∃ o, h₁.get? b = some o := fun b hb => by
          by_cases hw : b ∈ wr
          · exact O.live _ _ hst₁ b hw
          · obtain ⟨o, ho⟩ := hall b hb; exact ⟨o, hk₁ b o hw ho⟩
        have Y₁ := Y₀.stepped (tk := tk₁) hoff hnd' hwr' (fun b o hb e => hk₁ b o (fun h => hb (List.mem_cons_of_mem _ h)) e) hlive
        have hpl₁ : h₁.PlainList hp2.objs.size ys.toArray := let ⟨c, hc⟩ := hpl; ⟨c, hk₁ _ _ hDwr hc⟩
        have Y₂ := Y₁.remap (K.vars (L := L) X Y₁.keep Y₁.vars)
        refine wpAny_assign_Name (wpAny_mono (K.store (C1 := C1.hide (hidden h₁ newA')) (P := fun _ m2 R2 => m2 = sv (cmap (cenv scope cl L C.env).kindOf cl m m') x v ∧ R2 = Rc) rfl rfl hcl hown hcn.1 ⟨rfl, rfl⟩ _ Y₂) ?_ fun _ _ f => f.elim)
        rintro _ s₂ ⟨m2, R2, Y₃, rfl, rfl⟩
        have hin : Inside C m R scope cl x (C1.hide (hidden h₁ newA')) (sv (cmap (cenv scope cl L C.env).kindOf cl m m') x v) v :=
          ⟨rfl, rfl, rfl, ⟨L, rfl⟩, fun a c h R' => .base (X.has h), sv_self, fun z hz hk hs => by
            rw [sv_ne hz rfl]; unfold cmap; rw [if_pos ⟨hk L, hs⟩]⟩
        have frameSt : ∀ (Rx : Led) (mx : Map) (sx : Shared), At (C1.hide (hidden h₁ newA')) mx Rx sx → ∀ hx : Heap, (∀ b o, b ≠ hp2.objs.size → sx.heap.get? b = some o → hx.get? b = some o) → St (i + 1) hx := fun Rx mx sx Yx hx hkx => by
          refine O.W.frame _ _ _ hst₁ fun b hb o e => ?_
          have hbD : b ≠ hp2.objs.size := fun q => hDfp (q ▸ hb)
          rcases O.sub b hb with h | ⟨o', h⟩ | h | h
          · have := Yx.hid (b, objAt h₁ b) (List.mem_append_left _ (List.mem_map.mpr ⟨b, List.mem_cons_of_mem _ h, rfl⟩))
            rw [objAt_of e] at this; exact hkx b o hbD this
          · have e1 := Y₁.keep b o' h
            have e2 : o' = o := Option.some.inj (e1.symm.trans e)
            exact e2 ▸ hkx b o' hbD (Yx.keep b o' h)
          · cases h
          · cases h
        have plainAt : ∀ (Rx : Led) (mx : Map) (sx : Shared), At (C1.hide (hidden h₁ newA')) mx Rx sx → sx.heap.PlainList hp2.objs.size ys.toArray := fun Rx mx sx Yx => by
          obtain ⟨c, hc⟩ := hpl₁
          have := Yx.hid (hp2.objs.size, objAt h₁ hp2.objs.size) (List.mem_append_left _ (List.mem_map.mpr ⟨_, List.mem_cons_self, rfl⟩))
          rw [objAt_of hc] at this
          exact ⟨c, this⟩
        refine wpAny_mono (step (C1.hide (hidden h₁ newA')) _ i v ys R2 hin hlt hP hj hyl s₂ Y₃) ?_ fun _ _ f => f.elim
        rintro ok s₃ ⟨m3, R3, Y₄, hok1, hok2⟩
        cases ok with
        | false =>
          rw [if_neg (by simp)]
          exact ⟨n + 1 - (i + 1), by lia, i + 1, m3, R3, _, ys, hidden_fst _ _, Y₄, frameSt _ _ _ Y₄ _ fun _ _ _ e => e, plainAt _ _ _ Y₄, hok2 rfl, Nat.le_succ_of_le hyl, hlt, rfl⟩
        | true =>
          rw [if_pos rfl]
          refine wpAny_mono (hok1 rfl s₃ Y₄) ?_ fun _ _ f => f.elim
          rintro u s₄ ⟨m4, R4, Y₅, hj'⟩
          refine wpAny_list_append_plain (plainAt _ _ _ Y₅) (fun h₅ hp₅ hs₅ => ?_) (by rw [sizeLine_eq]; simp; lia)
          have hoff5 := hoff0 R4 _ (hidden_fst _ _) m4 s₄ Y₅
          have hall5 : ∀ b ∈ newA', ∃ o, h₅.get? b = some o := fun b hb => by
            by_cases q : b = hp2.objs.size
            · rw [q]; obtain ⟨c, hc⟩ := hp₅; exact ⟨_, hc⟩
            · exact ⟨_, hs₅.extBut _ _ q (Y₅.hid (b, objAt h₁ b) (List.mem_append_left _ (List.mem_map.mpr ⟨b, hb, rfl⟩)))⟩
          have Y₆ := Y₅.unhide.stepped (tk := s₄.toks) (newA := newA') (wr := [hp2.objs.size]) (h₁ := h₅) hoff5 hnd' (fun b hb => by rw [List.mem_singleton.mp hb]; exact List.mem_cons_self)
            (fun b o hb e => hs₅.extBut b o (fun q => hb (by rw [q]; exact List.mem_singleton.mpr rfl)) e) hall5
          exact ⟨n + 1 - (i + 1), by lia, i + 1, m4, R4, _, ys ++ [u], hidden_fst _ _, Y₆, frameSt _ _ _ Y₅ _ fun b o hb e => hs₅.extBut b o hb e, by simpa using hp₅, hj', by simp; lia, hlt, rfl⟩
      · have hin : i = n := by lia
        subst hin
        refine O.W.done _ _ _ hst fun h₁ tk₁ hk₁ => ?_
        have Y₁ := Y₀.over (tk := tk₁) hoff (fun b hb => List.mem_cons_of_mem _ (O.wr b hb)) hk₁
        obtain ⟨h', t', e'⟩ : ∃ h t, s' = { s1 with heap := h, toks := t } := by
          obtain ⟨h, t, rfl⟩ := Y.same
          obtain ⟨h', t', e⟩ := X.same
          exact ⟨h, t, by rw [e]; rfl⟩
        subst e'
        have hplD : h₁.PlainList hp2.objs.size ys.toArray := let ⟨c, hc⟩ := hpl; ⟨c, hk₁ _ _ hDwr hc⟩
        have hkeep : s1.heap.StaysIn h₁ := Y₁.keep
        have hnodY := Y.nod
        have hDRc : hp2.objs.size ∉ Rc.map (·.1) := fun hm => (hoff _ List.mem_cons_self).1 (List.mem_append_right _ (List.mem_append_left _ hm))
        have hZ := X.add (tk := tk₁) (R' := (hp2.objs.size, .plist ys) :: Rc) hkeep ⟨fun p hp => by
          rcases List.mem_cons.mp hp with rfl | hp
          · obtain ⟨c, hc⟩ := hplD; exact ⟨⟨_, hc, c, rfl⟩, hg _ List.mem_cons_self⟩
          · exact ⟨Y₁.own p hp, Y₁.new _ (List.mem_append_right _ (List.mem_append_left _ (List.mem_map.mpr ⟨p, hp, rfl⟩)))⟩, by
          rw [List.map_cons, List.nodup_cons]
          refine ⟨hDRc, ?_⟩
          have := Y₁.nod
          rw [List.nodup_append] at this
          exact (List.nodup_append.mp this.2.1).1⟩
        refine fin _ _ Rc ys h₁ tk₁ hj hyl hZ ?_ ?_ (hnone1 L (Nat.le_of_lt hDl))
        · obtain ⟨ml, hml, _⟩ := Y₁.vars.ml; exact ⟨ml, hml⟩
        · have hLfa : L ∈ C1.fa := List.mem_cons_self
          have hL0 : s1.heap.get? L = none := hnone1 L (Nat.le_of_lt hDl)
          intro hm
          rcases List.mem_append.mp hm with h | h
          · obtain ⟨o, ho⟩ := X.live L h
            rw [hL0] at ho; cases ho
          · rcases List.mem_append.mp h with h | h
            · rw [List.map_append] at h
              rcases List.mem_append.mp h with h | h
              · rcases List.mem_cons.mp h with h | h
                · exact Nat.ne_of_gt hDl h
                · have := Y₁.nod
                  rw [List.nodup_append] at this
                  exact this.2.2 L hLfa L (List.mem_append_left _ h) rfl
              · obtain ⟨p, hp, e⟩ := List.mem_map.mp h
                obtain ⟨o, ho⟩ := (X.own p hp).live
                rw [e, hL0] at ho; cases ho
            · obtain ⟨p, hp, e⟩ := List.mem_map.mp h
              have ho := X.hid p hp
              rw [e, hL0] at ho; cases ho
    · have hoff4 : ∀ a ∈ newA', a ∉ C1.fa ++ (([] : Led).map (·.1) ++ C1.H.map (·.1)) ∧ C1.g.get? a = none := fun a ha => by
        refine ⟨fun hm => ?_, hg a ha⟩
        rcases List.mem_append.mp hm with h | h
        · exact absurd (hfaL a h) (Nat.not_le.mpr (hnewA'lt a ha))
        · cases h
      exact X4.stepped (h₁ := hp4) (tk := tk2) (newA := newA') (wr := wr) hoff4 hnd' (fun b hb => List.mem_cons_of_mem _ (O.wr b hb)) (fun _ _ _ e => e) fun b hb => by
          rcases List.mem_cons.mp hb with rfl | hb
          · exact ⟨_, keep34 _ _ hD0⟩
          · obtain ⟨o, ho⟩ := O.here b hb; exact ⟨o, keep24 _ _ ho⟩
  exact codeAny_compStart_list (loop _ rfl) (O.W.self 0 _ _ _ hst4 (loop _ rfl))
end
end
section
open PySem PySem.W PySem.Calls PyProof.Rows PySem.Builtin PySem.F
set_option maxRecDepth 100000
section
variable {C : Cx} {m : Map} {R : Led} {s1 : Shared} {scope : Scope} {cl : List (Str × Addr)} {x : Str}
/-- what is asked of a comprehension -/
noncomputable def CompSpec (C : Cx) (m : Map) (R : Led) (scope : Scope) (cl : List (Str × Addr)) (x : Str) (ifs : List Expr) (elt : Expr) (v : Value) (n : Nat) (Pv : Nat → Value → Prop) (J : Nat → List Value → Led → Prop) : Prop :=
  n ≤ 1000 ∧ (∀ C0 : Cx, C0.w = C.w → (∀ a c, Has C R a c → ∀ R', Has C0 R' a c) → Src C0 [] [] v n Pv) ∧ J 0 [] [] ∧
  (∀ C1 m1 i y ys Rc, Inside C m R scope cl x C1 m1 y → i < n → Pv i y → J i ys Rc → ys.length ≤ i → Ev C1 m1 Rc (testsOf ifs C1.env) (fun ok m2 R2 => (ok = true → Ev C1 m2 R2 (eval elt C1.env) (fun u _ R3 => J (i + 1) (ys ++ [u]) R3)) ∧ (ok = false → J (i + 1) ys R2)))
theorem ev_comp {elt iter : Expr} {px pos : Pos} {ifs : List Expr} {P : Value → Map → Led → Prop} (K : CompOk C scope cl x)
    (h : Ev C m R (eval iter C.env) (fun v m1 R1 => ∃ n Pv J, CompSpec C m1 R1 scope cl x ifs elt v n Pv J ∧ ∀ D Rc ys, J n ys Rc → ys.length ≤ n → P (.ref D) m1 (((D, .plist ys) :: Rc) ++ R1)))
    (hs : ∀ x, foldedSetIterable iter C.env x = pure x := by intro _; rfl) :
    Ev C m R (eval (.ListComp elt [⟨.Name x px, iter, ifs, 0⟩] scope pos) C.env) P := fun s X => by
  rw [eval_ListComp]
  refine wpAny_comprehension_free (use := none) rfl hs K.clos K.kind K.names (wpAny_mono (h s X) (fun v s1 ⟨m1, R1, Y, n, Pv, J, ⟨h1, h2, h3, h4⟩, h5⟩ => ?_) fun _ _ e => e)
  refine comp_core (RR := fun acc L => compPost (model Prg C.w) C.A (fun _ _ => False) none (fun a s' => ∃ m' R', At C m' R' s' ∧ P a m' R') acc L) Y K h1 h2 J h3 h4 ?_
  intro D L Rc ys h' tk hj hl Z ⟨mm, hn⟩ hL hL0
  refine ⟨mm, hn, fun h'' hs'' => ⟨m1, _, Z.over (tk := tk) (newA := [L]) (wr := [L]) (fun a ha => ?_) (fun b hb => hb) (fun b o hb e => hs''.extBut b o (fun q => hb (by rw [q]; exact List.mem_singleton.mpr rfl)) e), h5 D Rc ys hj hl⟩⟩
  rw [List.mem_singleton.mp ha]
  refine ⟨hL, ?_⟩
  cases e : C.g.get? L with
  | none => rfl
  | some o => rw [Y.keep _ _ e] at hL0; cases hL0
theorem ev_assigncomp {elt iter : Expr} {px py pos spos : Pos} {y : Str} {ifs : List Expr} {P : Flow → Map → Led → Prop} (W : Fw C) (hk : Var C.env y) (K : CompOk C scope cl x)
    (hsw : swapsWith (.ListComp elt [⟨.Name x px, iter, ifs, 0⟩] scope pos) (some (.Name y py)) spos.line C.env = pure true)
    (h : Ev C m R (eval iter C.env) (fun v m1 R1 => ∃ n Pv J, CompSpec C m1 R1 scope cl x ifs elt v n Pv J ∧ ∀ D Rc ys, J n ys Rc → ys.length ≤ n → P .next (sv m1 y (.ref D)) (((D, .plist ys) :: Rc) ++ R1)))
    (hs : ∀ x, foldedSetIterable iter C.env x = pure x := by intro _; rfl) :
    Ev C m R (exec (.Assign [.Name y py] (.ListComp elt [⟨.Name x px, iter, ifs, 0⟩] scope pos) spos) C.env) P := fun s X => by
  rw [exec_Assign_Name_used _ _ _ _ hsw]
  refine wpAny_bind (wpAny_standAt (wpAny_bind ?_))
  show wpAny _ C.A (do let _ ← comprehension (.ListComp elt [⟨.Name x px, iter, ifs, 0⟩] scope pos) scope C.env _ (newList []) false (eval iter C.env) (some (assign (.Name y py) C.env))) _ _ s
  refine wpAny_bind (wpAny_mono (wpAny_comprehension_free (use := some (assign (.Name y py) C.env)) (Q := fun _ s' => ∃ m' R', At C m' R' s' ∧ P .next m' R') rfl hs K.clos K.kind K.names
    (wpAny_mono (h s X) (fun v s1 ⟨m1, R1, Y, n, Pv, J, ⟨h1, h2, h3, h4⟩, h5⟩ => ?_) fun _ _ e => e)) (fun _ s' hq => wpAny_pure (wpAny_pure hq)) fun _ _ e => e)
  refine comp_core (RR := fun acc L => compPost (model Prg C.w) C.A (fun _ _ => False) (some (assign (.Name y py) C.env)) (fun _ s' => ∃ m' R', At C m' R' s' ∧ P .next m' R') acc L) Y K h1 h2 J h3 h4 ?_
  intro D L Rc ys h' tk hj hl Z ⟨mm, hn⟩ hL hL0
  have hg0 : C.g.get? L = none := by
    cases e : C.g.get? L with
    | none => rfl
    | some o => rw [Y.keep _ _ e] at hL0; cases hL0
  have hoff : ∀ a ∈ ([L] : List Addr), a ∉ C.fa ++ ((((D, Cell.plist ys) :: Rc) ++ R1).map (·.1) ++ C.H.map (·.1)) ∧ C.g.get? a = none := fun a ha => by
    rw [List.mem_singleton.mp ha]; exact ⟨hL, hg0⟩
  have U := Z.stepped (h₁ := h') (tk := tk) (newA := [L]) (wr := []) hoff (List.nodup_cons.mpr ⟨List.not_mem_nil, List.nodup_nil⟩) (fun b hb => nomatch hb) (fun _ _ _ e => e) fun b hb => by
    rw [List.mem_singleton.mp hb]; exact Ns.live hn
  show wpAny _ _ (assign (.Name y py) C.env (.ref D)) _ _ _
  refine wpAny_assign_Name (wpAny_mono (ev_store (C := C.hide (hidden h' [L])) (P := fun _ m2 R2 => m2 = sv m1 y (.ref D) ∧ R2 = ((D, .plist ys) :: Rc) ++ R1) (W.hide _) hk ⟨rfl, rfl⟩ _ U) ?_ fun _ _ f => f.elim)
  rintro _ s₂ ⟨m2, R2, V, rfl, rfl⟩
  have hLn : s₂.heap.get? L = some (objAt h' L) := V.hid (L, objAt h' L) (List.mem_append_left _ List.mem_cons_self)
  have hn2 : s₂.heap.Ns L mm := by
    obtain ⟨o, es, ep, ho, r⟩ := hn
    rw [objAt_of ho] at hLn
    exact ⟨o, es, ep, hLn, r⟩
  exact ⟨mm, hn2, fun h'' hs'' => ⟨_, _, V.unhide.over (tk := s₂.toks) (newA := [L]) (wr := [L]) hoff (fun b hb => hb) (fun b o hb e => hs''.extBut b o (fun q => hb (by rw [q]; exact List.mem_singleton.mpr rfl)) e), h5 D Rc ys hj hl⟩⟩
theorem ev_notests {env : Env} {P : Bool → Map → Led → Prop} (h : P true m R) : Ev C m R (testsOf [] env) P := fun s X => wpAny_pure ⟨m, R, X, h⟩
theorem ev_onetest {c : Expr} {P : Bool → Map → Led → Prop} (h : Ev C m R (isTrue c C.env (eval c C.env)) P) : Ev C m R (testsOf [c] C.env) P := fun s X => by
  unfold testsOf
  rw [List.forIn_cons]
  refine wpAny_bind ?_
  rw [if_pos rfl]
  refine wpAny_bind (wpAny_mono (h s X) (fun b s' hb => wpAny_pure ?_) fun _ _ e => e)
  exact wpAny_pure hb
end
end
section
open PySem PySem.W PySem.Calls PyProof.Rows PySem.Builtin
set_option maxRecDepth 100000
set_option maxHeartbeats 2000000
/-- values that are numbers -/
noncomputable def Ints (vs : List Value) (is : List Int) : Prop := vs.length = is.length ∧ ∀ (i : Nat) (n : Int), is[i]? = some n → ∃ t, vs[i]? = some (Value.int n t)
noncomputable def Cells5 (is : List Int) : Prop := is.length = 5 ∧ ∀ i ∈ is, 0 ≤ i ∧ i < 1000
theorem Ints.get {vs : List Value} {ns : List Int} (h : Ints vs ns) {i : Nat} {v : Value} (hv : vs[i]? = some v) : ∃ n t, ns[i]? = some n ∧ v = .int n t := by
  have hi : i < ns.length := by rw [← h.1]; exact (List.getElem?_eq_some_iff.mp hv).1
  obtain ⟨t, ht⟩ := h.2 i ns[i] (List.getElem?_eq_getElem hi)
  exact ⟨ns[i], t, List.getElem?_eq_getElem hi, Option.some.inj (hv.symm.trans ht)⟩
theorem Ints.nil : Ints [] [] := ⟨rfl, fun i n h => by simp at h⟩
theorem Ints.snoc {vs : List Value} {ns : List Int} (h : Ints vs ns) (n : Int) (t : Tok) : Ints (vs ++ [.int n t]) (ns ++ [n]) := by
  refine ⟨by simp [h.1], fun i m hm => ?_⟩
  rw [List.getElem?_append] at hm ⊢
  rw [h.1]
  by_cases hi : i < ns.length
  · rw [if_pos hi] at hm ⊢; exact h.2 i m hm
  · rw [if_neg hi] at hm ⊢
    by_cases h0 : i - ns.length = 0
    · rw [h0] at hm ⊢; simp at hm; exact ⟨t, by simp [hm]⟩
    · obtain ⟨k, hk⟩ := Nat.exists_eq_succ_of_ne_zero h0
      rw [hk] at hm; simp at hm
theorem Ints.set {vs : List Value} {ns : List Int} (h : Ints vs ns) (k : Nat) (n : Int) (t : Tok) : Ints (vs.set k (.int n t)) (ns.set k n) := by
  refine ⟨by simp [h.1], fun i m hm => ?_⟩
  rw [List.getElem?_set] at hm ⊢
  by_cases hk : k = i
  · subst hk
    rw [if_pos rfl] at hm ⊢
    by_cases hi : k < ns.length
    · rw [if_pos hi] at hm
      rw [if_pos (by rw [h.1]; exact hi)]
      cases hm; exact ⟨t, rfl⟩
    · rw [if_neg hi] at hm; cases hm
  · rw [if_neg hk] at hm ⊢; exact h.2 i m hm
theorem mem_put {R : Led} {a : Addr} {c : Cell} (h : a ∈ R.map (·.1)) : (a, c) ∈ put R a c := by
  obtain ⟨p, hp, rfl⟩ := List.mem_map.mp h
  exact List.mem_map.mpr ⟨p, hp, by simp⟩
theorem Has.hide {C : Cx} {R : Led} {a : Addr} {c : Cell} (h : Has C R a c) (N : List (Addr × Obj)) : Has (C.hide N) R a c := by
  obtain ⟨c', l, h⟩ := h
  exact ⟨c', l, h.imp id fun h => h.imp id fun ⟨o, h, i⟩ => ⟨o, List.mem_append_right _ h, i⟩⟩
theorem Src.list0 {C0 : Cx} {l : Addr} {vs : List Value} (h : Has C0 [] l (.list vs)) : Src C0 [] [] (.ref l) vs.length (fun i w => vs[i]? = some w) := src_list h fun _ hp => nomatch hp
theorem d_cells (w : World) (l : Addr) (vs : List Value) (hl : vs.length ≤ 63) (hi : ∀ v ∈ vs, ∃ i t, v = .int i t) :
    Does w 157 1 60 [.ref l] (fun h => Holds w h l (.list vs)) (fun v R' => ∃ D xs is, v = .ref D ∧ (D, Cell.plist xs) ∈ R' ∧ Ints xs is ∧ Cells5 is) := by
  refine does_of (d := 0) (u := 56) (binds := [("script", .ref l)]) (by k_is) (by k_is) (fun s => BindsTo.of_eq rfl) ?_
  intro C L hw hdp hun hH hE W hpre
  subst hw
  repeat walk_at "go"
  refine ev_list ?_
  repeat walk_at "go"
  refine ⟨by simp, fun a ha => ?_⟩
  repeat walk_at "go"
  refine ev_for W (by walk_at "vr") ?_
  repeat walk_at "go"
  refine ev_lenL (.base hpre) (by lia) fun _ => ?_
  repeat walk_at "go"
  refine ev_range1 fun r t1 t2 hr => ?_
  refine ⟨_, _, src_range .head (by lia) (by lia), fun i m R => m "script" = some (.ref l) ∧ m "cells" = some (.ref a) ∧ a ∈ R.map (·.1) ∧ ∃ ws is, Has C R a (.list ws) ∧ Ints ws is ∧ is.length = 5, ⟨by walk_at "lk", by walk_at "lk", by simp, _, [228, 52, 62, 108, 32], (Has.head.cons _).le, ((((Ints.nil.snoc _ _).snoc _ _).snoc _ _).snoc _ _).snoc _ _, rfl⟩, ?_, ?_⟩
  · rintro i v m₁ R₁ N hi' ⟨tk, rfl⟩ ⟨h1, h2, h3, ws, is, h4, h5, h6⟩
    have W' := W.hide N
    refine ev_last (ev_augsub ?_)
    repeat walk_at "go"
    refine ev_fmod (by decide) fun _ => ?_
    have hk5 : (0 + (i : Int)).fmod 5 = ((i % 5 : Nat) : Int) := by rw [Int.fmod_eq_emod_of_nonneg _ (by decide)]; lia
    rw [hk5]
    have hlt5 : i % 5 < is.length := by lia
    obtain ⟨t3, hw5⟩ := h5.2 (i % 5) is[i % 5] (List.getElem?_eq_getElem hlt5)
    refine ev_getL (h4.hide N) (by lia) (by lia) (by rw [Int.toNat_natCast]; exact hw5) ?_
    refine ev_sub ?_
    repeat walk_at "go"
    have hiv : i < vs.length := by lia
    obtain ⟨z, t4, hz⟩ := hi vs[i] (List.getElem_mem hiv)
    refine ev_itemL (x := .int z t4) (.base hpre) (by lia) (by lia) (by rw [show (0 + (i : Int)).toNat = i by lia, List.getElem?_eq_getElem hiv, hz]) ?_
    refine ev_iadd fun t5 => ?_
    refine ev_setL h3 (h4.hide N) (by lia) (by rw [h5.1]; lia) (by rw [h5.1]; lia) ?_
    refine ⟨by walk_at "lk", by walk_at "lk", by rw [put_fst]; exact h3, _, is.set (i % 5) (is[i % 5] + z), (Has.mem (mem_put h3)), ?_, by simpa using h6⟩
    rw [Int.toNat_natCast]; exact h5.set (i % 5) _ t5
  · rintro m₁ R₁ ⟨h1, h2, h3, ws, is, h4, h5, h6⟩
    repeat walk_at "go"
    refine ev_comp (cl := []) ?_ ?_
    · exact ⟨by rw [hE]; rfl, rfl, by decide +kernel, fun y c h => (nomatch h), fun c h => (nomatch h), fun n y c h => rfl, List.Pairwise.nil, .inl fun L => by rw [hE]; rfl⟩
    repeat walk_at "go"
    refine ⟨_, _, fun i ys Rc => Rc = [] ∧ ∃ js, Ints ys js ∧ js.length = i ∧ ∀ j ∈ js, 0 ≤ j ∧ j < 1000, ⟨?_, fun C0 hw0 hh => .list0 (hh _ _ h4 _), ⟨rfl, [], .nil, rfl, fun j hj => nomatch hj⟩, ?_⟩, ?_⟩
    · rw [h5.1, h6]; decide
    · rintro C1 m1 i y ys Rc I hlt hy ⟨rfl, js, hj, hjl, hjb⟩ hyl
      refine ev_notests ⟨fun _ => ?_, fun h => nomatch h⟩
      obtain ⟨z, t3, hz, rfl⟩ := h5.get hy
      obtain ⟨L1, hE1⟩ := I.env
      rw [hE] at hE1
      have hit := I.it
      repeat walk_at "go"
      refine ev_fmod (by decide) fun t6 => ?_
      refine ⟨rfl, js ++ [z.fmod 1000], hj.snoc _ _, by simp [hjl], fun j hj' => ?_⟩
      rcases List.mem_append.mp hj' with h | h
      · exact hjb j h
      · rw [List.mem_singleton.mp h, Int.fmod_eq_emod_of_nonneg _ (by decide)]; lia
    · rintro D Rc ys ⟨rfl, js, hj, hjl, hjb⟩ hyl
      refine ⟨[(D, .plist ys)], by simp, D, ys, js, rfl, List.mem_cons_self, hj, by rw [hjl, h5.1, h6], hjb⟩
end
section
open PySem PySem.W PySem.Calls PyProof.Rows PySem.Builtin
set_option maxRecDepth 100000
set_option maxHeartbeats 2000000
theorem Texts.strs : ∀ {vs : List Value} {ns : List (List Nat)}, Texts vs ns → StrsAre vs (ns.map S)
  | [], [], _ => .nil
  | [], _ :: _, h => by simp [Texts] at h
  | _ :: _, [], h => by simp [Texts] at h
  | v :: r, n :: q, h => by
    obtain ⟨t, ht⟩ := h.2 0 n rfl
    have e : v = .str (S n) t := by simpa using ht
    subst e
    exact .cons _ _ (Texts.strs ⟨by simpa using h.1, fun i m hm => h.2 (i + 1) m (by simpa using hm)⟩)
theorem join_S' : ∀ ns : List (List Nat), Str.join (S []) (ns.map S) = S ns.flatten
  | [] => rfl
  | [n] => by show S n = _; simp
  | n :: q :: r => by
    show S n ++ S [] ++ Str.join (S []) ((q :: r).map S) = _
    rw [join_S' (q :: r), S_append, S_append]
    simp
theorem join_S (ns : List (List Nat)) : Txt.join (S []) (ns.map S) = S ns.flatten := (StrLaws.glued_eq_join _ _).trans (join_S' ns)
section
variable {C : Cx} {m : Map} {R : Led} {P : Value → Map → Led → Prop}
theorem ev_getjoin {y : Str} {u : Tok} {pl : Sem Bool} {P : Value × List Value → Map → Led → Prop} (h : P (.builtin "str.join", [.str y u]) m R) : Ev C m R (getMethod (.str y u) "join" pl) P := fun _ X => GM.join ⟨m, R, X, h⟩
theorem ev_join {l : Addr} {vs : List Value} {ns : List (List Nat)} {u : Tok} (hh : Has C R l (.list vs)) (ht : Texts vs ns) (hl : (ns.map (·.length)).sum ≤ 1000) (h : ∀ t, P (.str (S ns.flatten) t) m R) :
    Ev C m R (call (.builtin "str.join") [.str (S []) u, .ref l]) P := fun s X => by
  refine join_list (X.has hh).isList (by simpa using ht.strs) ?_ fun t' k => ⟨m, R, X.toks, by rw [join_S]; exact h t'⟩
  have e : ((ns.map S).map (·.length)) = ns.map (·.length) := by rw [List.map_map]; exact List.map_congr_left fun n _ => S_len n
  rw [e, S_len]
  simp
  lia
theorem src_listB {X : List Addr} {l : Addr} {vs : List Value} (hb : Holds C.w C.g l (.list vs)) : Src C R X (.ref l) vs.length (fun i w => vs[i]? = some w) := by
  intro m s Y Q hQ
  have hl := (Y.has (R := R) (.base hb)).isList
  refine wpAny_pyIter_list hl ?_
  have hne : l ≠ s.heap.objs.size := Nat.ne_of_lt (Y.has (R := R) (.base hb)).lt
  have W := Walks.list (prog := Prg) (w := C.w) Y.hh s.heap.objs.size l hne vs.toArray
  have e : vs.toArray.size = vs.length := by simp
  rw [e] at W
  have W' : Walks Prg C.w C.A s.heap.objs.size [s.heap.objs.size, l] [s.heap.objs.size] vs.length (fun i w => vs[i]? = some w)
      (fun i h => h.IsListIter s.heap.objs.size l i ∧ h.IsList l vs.toArray) := W.weaken fun i v hv => by simpa using hv
  refine hQ _ _ _ _ _ _ (Y.stay (tk := s.toks) (stays_push _ _)) (loopOk_new (X := X) (tk := s.toks) Y rfl W' (fun i h hs => let ⟨o, ho, _⟩ := hs.1; ⟨o, ho⟩) (fun b hb' => ?_) ?_)
  · rcases List.mem_cons.mp hb' with h | h
    · exact .inl h
    · rw [List.mem_singleton.mp h]; exact .inr (.inl hb.live)
  · exact ⟨⟨_, Heap.get?_push_size _ rfl, rfl, rfl⟩, hl.at fun o e => Heap.get?_push_of_some _ e⟩
theorem ev_cutToT {value hi : Expr} {p pos : Pos}
    (h : Ev C m R (eval value C.env) (fun v m1 R1 => ∃ l vs, v = .ref l ∧ vs.length ≤ 1000 ∧ Ev C m1 R1 (eval hi C.env) (fun w m2 R2 => ∃ (i : Nat) (u : Tok), w = .int i u ∧ Has C R2 l (.list vs) ∧ ∀ a, New C R2 a → P (.ref a) m2 ((a, .plist (vs.take i)) :: R2)))) :
    Ev C m R (eval (.Subscript value (.Slice none (some hi) none p) pos) C.env) P := by
  intro s X
  refine Subscript_ (wpAny_mono (h s X) ?_ fun _ _ x => x)
  rintro v s0 ⟨m1, R1, Y0, l, vs, rfl, hl, h1⟩
  refine wpAny_Slice ?_
  refine wpAny_pure (wpAny_mono (h1 s0 Y0) ?_ fun _ _ x => x)
  rintro w s1 ⟨m2, R2, Y, i, u, rfl, hh, h2⟩
  refine wpAny_pure ?_
  have Z := Y.stay (tk := s1.toks) (stays_push s1.heap { cls := .type "slice", data := .fields #[Value.none, Value.int i u, Value.none] })
  have hsz : (s1.heap.push { cls := .type "slice", data := .fields #[Value.none, Value.int i u, Value.none] }).objs.size = s1.heap.objs.size + 1 := Heap.size_push ..
  have U := Z.push (c := .plist (vs.take i)) (tk := s1.toks) (o := { cls := .type "list", data := .seq (vs.take i).toArray }) ⟨0, rfl⟩ rfl
  dsimp only at U
  rw [hsz] at U
  refine tail_any (Z.has hh).isList.typeIs slot_list_getitem.lookup ?_ rfl
  refine wpAny_getItem_list_slice (lo := none) (hi := some (i : Int)) (st := none) (Z.has hh).isList (Heap.IsSliceOf.new ..) .none (.int _ _) .none (by simp) ?_ (by rw [sizeLine_eq]; simp; lia)
  have e : slicePick vs.toArray none (some (i : Int)) none = (vs.take i).toArray := by rw [slicePick_upto']
  rw [e]
  dsimp only
  rw [hsz]
  exact ⟨m2, _, U, h2 _ (hsz ▸ Z.isNew)⟩
theorem lookup1 {n y : Str} {a c : Addr} (h : [(n, a)].lookup y = some c) : y = n ∧ c = a := by
  rw [List.lookup_cons] at h
  by_cases e : y = n
  · subst e; simp at h; exact ⟨rfl, h.symm⟩
  · rw [show (y == n) = false by simpa using e] at h; cases h
theorem CompOk.zero {scope : Scope} {x : Str} (clos : closureFor scope C.env = pure []) (kind : scope.kind = .function) (names : ∀ y ∈ scope.names, y.2 = .local → scope.names.lookup y.1 = some .local)
    (var : ∀ L, (cenv scope [] L C.env).kindOf x = some .local) : CompOk C scope [] x :=
  ⟨clos, kind, names, fun y c h => (nomatch h), fun c h => (nomatch h), fun n y c h => rfl, List.Pairwise.nil, .inl var⟩
theorem CompOk.one {scope : Scope} {x n : Str} {a : Addr} (clos : closureFor scope C.env = pure [(n, a)]) (kind : scope.kind = .function) (names : ∀ y ∈ scope.names, y.2 = .local → scope.names.lookup y.1 = some .local)
    (hk : C.env.kindOf n = some .cell) (hl : C.env.cells.lookup n = some a) (hno : ∀ k, cellsFrom k scope.names [] = []) (var : ∀ L, (cenv scope [(n, a)] L C.env).kindOf x = some .local) : CompOk C scope [(n, a)] x :=
  ⟨clos, kind, names, fun y c h => by obtain ⟨rfl, rfl⟩ := lookup1 h; exact ⟨hk, hl⟩, fun c h => ⟨n, hk, by
    rw [List.map_cons, List.map_nil, List.mem_singleton] at h; rw [h]; exact hl⟩, fun k y c h => (by rw [hno] at h; cases h), List.pairwise_singleton _ _, .inl var⟩
theorem Has.put_ne {a b : Addr} {c d : Cell} (h : Has C R a c) (hn : a ≠ b) : Has C (put R b d) a c := by
  obtain ⟨c', l, h⟩ := h
  refine ⟨c', l, h.imp (fun hm => List.mem_map.mpr ⟨_, hm, ?_⟩) id⟩
  rw [if_neg hn]
end
end
section
open PySem PySem.W PySem.Calls PyProof.Rows PySem.Builtin
set_option maxRecDepth 100000
set_option maxHeartbeats 2000000
theorem nfmod (a b : Nat) : ((a : Nat) : Int).fmod (b : Int) = ((a % b : Nat) : Int) := by rw [Int.fmod_eq_emod_of_nonneg _ (Int.natCast_nonneg b)]; rfl
theorem nfdiv (a b : Nat) : ((a : Nat) : Int).fdiv (b : Int) = ((a / b : Nat) : Int) := by rw [Int.fdiv_eq_ediv_of_nonneg _ (Int.natCast_nonneg b)]; rfl
/-- numbers that are no less than none -/
noncomputable def Nums (vs : List Value) (ns : List Nat) : Prop := Ints vs (ns.map Int.ofNat)
theorem Nums.get {vs : List Value} {ns : List Nat} (h : Nums vs ns) {i : Nat} {v : Value} (hv : vs[i]? = some v) : ∃ n t, ns[i]? = some n ∧ v = .int (n : Nat) t := by
  obtain ⟨n, t, h1, h2⟩ := Ints.get h hv
  rw [List.getElem?_map] at h1
  cases e : ns[i]? with
  | none => rw [e] at h1; cases h1
  | some k => rw [e] at h1; cases h1; exact ⟨k, t, rfl, h2⟩
theorem Nums.len {vs : List Value} {ns : List Nat} (h : Nums vs ns) : vs.length = ns.length := by rw [h.1, List.length_map]
theorem Nums.nil : Nums [] [] := Ints.nil
theorem Nums.snoc {vs : List Value} {ns : List Nat} (h : Nums vs ns) (n : Nat) (t : Tok) : Nums (vs ++ [.int n t]) (ns ++ [n]) := by
  unfold Nums; rw [List.map_append]; exact Ints.snoc h n t
theorem Nums.app {vs ws : List Value} {ns ks : List Nat} (h : Nums vs ns) (h' : Nums ws ks) : Nums (vs ++ ws) (ns ++ ks) := by
  refine ⟨by simp [h.len, h'.len], fun i m hm => ?_⟩
  rw [List.map_append, List.getElem?_append, List.length_map] at hm
  rw [List.getElem?_append, h.len]
  by_cases hi : i < ns.length
  · rw [if_pos hi] at hm ⊢; exact h.2 i m hm
  · rw [if_neg hi] at hm ⊢; exact h'.2 _ m hm
theorem Nums.take {vs : List Value} {ns : List Nat} (h : Nums vs ns) (k : Nat) : Nums (vs.take k) (ns.take k) := by
  refine ⟨by simp [h.len], fun i m hm => ?_⟩
  rw [List.map_take, List.getElem?_take] at hm
  rw [List.getElem?_take]
  by_cases hi : i < k
  · rw [if_pos hi] at hm ⊢; exact h.2 i m hm
  · rw [if_neg hi] at hm; cases hm
noncomputable def rowStep (prev : List Nat) (c : Nat) : List Nat := prev.take (c % 10 % 4) ++ [c / 10 % 10, c / 100].take (1 + c % 10 / 5)
noncomputable def rowsScan (prev : List Nat) : List Nat → List (List Nat)
  | [] => [prev]
  | c :: r => prev :: rowsScan (rowStep prev c) r
/-- the names of five cells -/
noncomputable def namesOf (P : List (List Nat)) (cs : List Nat) : List (List Nat) := ((rowsScan [] cs).drop 1).map fun row => (row.map fun f => P.getD f []).flatten
theorem rowsScan_len : ∀ (cs : List Nat) (p : List Nat), (rowsScan p cs).length = cs.length + 1
  | [], _ => rfl
  | c :: r, p => by unfold rowsScan; rw [List.length_cons, rowsScan_len r, List.length_cons]
theorem rowsScan_snoc : ∀ (cs : List Nat) (p : List Nat) (c : Nat), ∃ q, (rowsScan p cs)[cs.length]? = some q ∧ rowsScan p (cs ++ [c]) = rowsScan p cs ++ [rowStep q c]
  | [], p, c => ⟨p, rfl, rfl⟩
  | d :: r, p, c => by
    obtain ⟨q, h1, h2⟩ := rowsScan_snoc r (rowStep p d) c
    refine ⟨q, by unfold rowsScan; simpa using h1, ?_⟩
    show p :: rowsScan (rowStep p d) (r ++ [c]) = _
    rw [h2]; rfl
theorem rowStep_lt {p : List Nat} {c : Nat} (hp : ∀ f ∈ p, f < 10) (hc : c < 1000) : ∀ f ∈ rowStep p c, f < 10 := fun f hf => by
  rcases List.mem_append.mp hf with h | h
  · exact hp f (List.mem_of_mem_take h)
  · have := List.mem_of_mem_take h
    simp at this; lia
theorem rowsScan_lt : ∀ (cs : List Nat) (p : List Nat), (∀ f ∈ p, f < 10) → (∀ c ∈ cs, c < 1000) → ∀ row ∈ rowsScan p cs, ∀ f ∈ row, f < 10
  | [], p, hp, _, row, hr => by rw [List.mem_singleton.mp hr]; exact hp
  | c :: r, p, hp, hc, row, hr => by
    rcases List.mem_cons.mp hr with rfl | hr
    · exact hp
    · exact rowsScan_lt r _ (rowStep_lt hp (hc c List.mem_cons_self)) (fun d hd => hc d (List.mem_cons_of_mem _ hd)) row hr
theorem rowStep_len (p : List Nat) (c : Nat) : (rowStep p c).length ≤ 5 := by
  unfold rowStep; simp; lia
theorem rowsScan_len5 : ∀ (cs : List Nat) (p : List Nat), p.length ≤ 5 → ∀ row ∈ rowsScan p cs, row.length ≤ 5
  | [], p, hp, row, hr => by rw [List.mem_singleton.mp hr]; exact hp
  | c :: r, p, hp, row, hr => by
    rcases List.mem_cons.mp hr with rfl | hr
    · exact hp
    · exact rowsScan_len5 r _ (rowStep_len p c) row hr
/-- rows of figures, each a list of its own -/
noncomputable def Rows (C : Cx) (R : Led) (ra : Addr) (as : List Value) (rs : List (List Nat)) : Prop := as.length = rs.length ∧ ∀ (k : Nat) (row : List Nat), rs[k]? = some row → ∃ a vs, as[k]? = some (.ref a) ∧ a ≠ ra ∧ Has C R a (.plist vs) ∧ Nums vs row
theorem sum_pieces {Ps : List (List Nat)} (h : ∀ q ∈ Ps, q.length ≤ 10) : ∀ l : List Nat, ((l.map fun f => Ps.getD f []).map (·.length)).sum ≤ 10 * l.length
  | [] => by simp
  | f :: r => by
    have ih := sum_pieces h r
    have : (Ps.getD f []).length ≤ 10 := by
      rw [List.getD_eq_getElem?_getD]
      cases e : Ps[f]? with
      | none => simp
      | some q => simpa using h q (List.mem_of_getElem? e)
    simp only [List.map_cons, List.sum_cons, List.length_cons]
    lia
theorem d_names (w : World) (l p : Addr) (xs ps : List Value) (cs : List Nat) (Ps : List (List Nat)) (hx : Nums xs cs) (hc : ∀ c ∈ cs, c < 1000) (hlc : cs.length ≤ 20) (hp : Texts ps Ps) (hpl : Ps.length = 10) (hp10 : ∀ q ∈ Ps, q.length ≤ 10) :
    Does w 162 1 80 [.ref l, .ref p] (fun h => Holds w h l (.list xs) ∧ Holds w h p (.list ps)) (fun v R' => ∃ D vs, v = .ref D ∧ (D, Cell.plist vs) ∈ R' ∧ Texts vs (namesOf Ps cs)) := by
  refine does_of (d := 0) (u := 76) (binds := [("cells", .ref l), ("pieces", .ref p)]) (by k_is) (by k_is) (fun s => BindsTo.of_eq rfl) ?_
  intro C L hw hdp hun hH hE W ⟨hpre1, hpre2⟩
  subst hw
  repeat walk_at "go"
  refine ev_list ?_
  refine ev_items ?_ rfl
  refine ev_list ?_
  repeat walk_at "go"
  refine ⟨by simp, fun a0 ha0 => ?_⟩
  repeat walk_at "go"
  refine ⟨by simp, fun ra hra => ?_⟩
  repeat walk_at "go"
  refine ev_for W (by walk_at "vr") ?_
  repeat walk_at "go"
  refine ⟨_, _, src_listB hpre1, fun i m R => m "pieces" = some (.ref p) ∧ m "rows" = some (.ref ra) ∧ ∃ as, (ra, Cell.plist as) ∈ R ∧ Rows C R ra as (rowsScan [] (cs.take i)), ?_, ?_, ?_⟩
  · refine ⟨by walk_at "lk", by walk_at "lk", [.ref a0], by simp, rfl, fun k row hk => ?_⟩
    have : rowsScan [] (List.take 0 cs) = [[]] := rfl
    rw [this] at hk
    cases k with
    | zero => simp at hk; subst hk; exact ⟨a0, [], rfl, fun e => hra.1 _ List.mem_cons_self e, Has.head.cons _, .nil⟩
    | succ k => simp at hk
  · rintro i v m₁ R₁ N hi hv ⟨h1, h2, as, h3, h4⟩
    have W' := W.hide N
    obtain ⟨c, t1, hci, rfl⟩ := hx.get hv
    repeat walk_at "go"
    refine ev_fmod (by decide) fun _ => ?_
    rw [show (c : Int).fmod 10 = ((c % 10 : Nat) : Int) from nfmod c 10]
    repeat walk_at "go"
    refine ev_list ?_
    repeat walk_at "go"
    refine ev_fdiv (by decide) (by decide) fun _ => ?_
    rw [show (c : Int).fdiv 10 = ((c / 10 : Nat) : Int) from nfdiv c 10]
    repeat walk_at "go"
    refine ev_fmod (by decide) fun tA => ?_
    rw [show ((c / 10 : Nat) : Int).fmod 10 = ((c / 10 % 10 : Nat) : Int) from nfmod _ 10]
    repeat walk_at "go"
    refine ev_fdiv (by decide) (by decide) fun tB => ?_
    rw [show (c : Int).fdiv 100 = ((c / 100 : Nat) : Int) from nfdiv c 100]
    repeat walk_at "go"
    refine ⟨by simp, fun fa hfa => ?_⟩
    repeat walk_at "go"
    refine ev_sexpr (hi := by show interactive C.env = false; rw [hE]; rfl) ?_
    refine ev_methcall ?_
    repeat walk_at "go"
    have hic : i < cs.length := by rw [← hx.len]; exact hi
    have htl : (cs.take i).length = i := by rw [List.length_take]; lia
    obtain ⟨q, hq1, hq2⟩ := rowsScan_snoc (cs.take i) [] c
    rw [htl] at hq1
    have hq3 : cs.take (i + 1) = cs.take i ++ [c] := by rw [List.take_add_one, hci]; rfl
    have hql : q.length ≤ 5 := rowsScan_len5 _ [] (by simp) q (List.mem_of_getElem? hq1)
    obtain ⟨qa, qv, hqa, hqn, hqh, hqs⟩ := h4.2 i q hq1
    have hasl : as.length = i + 1 := by rw [h4.1, rowsScan_len, htl]
    refine ev_getappend (.mem (List.mem_cons_of_mem _ h3)) ?_
    repeat walk_at "go"
    refine ev_cutToT ?_
    refine ev_sub ?_
    repeat walk_at "go"
    refine ev_itemLneg (vs := as) (x := .ref qa) (.memP (List.mem_cons_of_mem _ h3)) (by lia) (by lia) (by lia) (by rw [hasl, show ((-1 : Int) + ((i + 1 : Nat) : Int)).toNat = i by lia]; exact hqa) ?_
    refine ⟨qa, qv, rfl, by rw [hqs.len]; lia, ?_⟩
    repeat walk_at "go"
    refine ev_fmod (by decide) fun _ => ?_
    refine ⟨c % 10 % 4, _, by rw [show ((c % 10 : Nat) : Int).fmod 4 = ((c % 10 % 4 : Nat) : Int) from nfmod _ 4], ((hqh.hide N).le).cons _, fun b1 hb1 => ?_⟩
    repeat walk_at "go"
    refine ev_cutTo ?_
    repeat walk_at "go"
    refine ⟨fa, [.int ((c / 10 % 10 : Nat) : Int) tA, .int ((c / 100 : Nat) : Int) tB], rfl, (by decide : 2 ≤ 1000), ?_⟩
    repeat walk_at "go"
    refine ev_fdiv (by decide) (by decide) fun _ => ?_
    rw [show ((c % 10 : Nat) : Int).fdiv 5 = ((c % 10 / 5 : Nat) : Int) from nfdiv _ 5]
    repeat walk_at "go"
    refine ⟨1 + c % 10 / 5, _, by rw [show (1 : Int) + ((c % 10 / 5 : Nat) : Int) = ((1 + c % 10 / 5 : Nat) : Int) by lia], (Has.head.le).cons _, fun b2 hb2 => ?_⟩
    refine ev_addL (.cons .head _) .head (by have := hqs.len; simp only [List.length_take, List.length_cons, List.length_nil]; lia) fun b3 hb3 => ?_
    repeat walk_at "go"
    refine ev_append (vs := as) (by simp [h3]) (by lia) ?_
    have hra3 : b3 ≠ ra := fun e => by
      have := hb3.1 (ra, .plist as) (by simp [h3])
      exact this e.symm
    have hfig : Nums (List.take (c % 10 % 4) qv ++ List.take (1 + c % 10 / 5) [.int ((c / 10 % 10 : Nat) : Int) tA, .int ((c / 100 : Nat) : Int) tB]) (rowStep q c) := (hqs.take _).app (((Nums.nil.snoc (c / 10 % 10) tA).snoc (c / 100) tB).take _)
    refine ⟨by walk_at "lk", by walk_at "lk", as ++ [.ref b3], mem_put (by simp; exact .inr (.inr (.inr (.inr ⟨_, h3⟩)))), ?_⟩
    rw [hq3, hq2]
    refine ⟨by simp [h4.1], fun k row hk => ?_⟩
    have hrl : (rowsScan [] (cs.take i)).length = i + 1 := by rw [rowsScan_len, htl]
    rw [List.getElem?_append, hrl] at hk
    rw [List.getElem?_append, hasl]
    by_cases hki : k < i + 1
    · rw [if_pos hki] at hk ⊢
      obtain ⟨a, vs, g1, g2, g3, g4⟩ := h4.2 k row hk
      exact ⟨a, vs, g1, g2, ((((g3.cons _).cons _).cons _).cons _).put_ne g2, g4⟩
    · rw [if_neg hki] at hk ⊢
      by_cases h0 : k - (i + 1) = 0
      · rw [h0] at hk ⊢
        simp at hk; subst hk
        exact ⟨b3, _, rfl, hra3, Has.head.put_ne hra3, hfig⟩
      · obtain ⟨j, hj⟩ := Nat.exists_eq_succ_of_ne_zero h0
        rw [hj] at hk; simp at hk
  · rintro m₁ R₁ ⟨h1, h2, as, h3, h4⟩
    repeat walk_at "go"
    have hfull : cs.take xs.length = cs := List.take_of_length_le (by rw [hx.len]; exact Nat.le_refl _)
    rw [hfull] at h4
    have hr5 := rowsScan_len5 cs [] (by simp)
    have hr10 := rowsScan_lt cs [] (by simp) hc
    have hasl : as.length = cs.length + 1 := by rw [h4.1, rowsScan_len]
    refine ev_comp (cl := [("pieces", L + 1)]) ?_ ?_
    · exact .one (by rw [hE]; rfl) rfl (by decide +kernel) (by rw [hE]; rfl) (by rw [hE]; rfl) (fun _ => rfl) (fun _ => by rw [hE]; rfl)
    refine ev_cutFrom ?_
    repeat walk_at "go"
    refine ⟨ra, as, rfl, by lia, ?_⟩
    repeat walk_at "go"
    refine ⟨1, _, rfl, (Has.mem h3).le, fun b1 hb1 => ?_⟩
    refine ⟨_, _, fun i ys _ => Texts ys ((namesOf Ps cs).take i), ⟨?_, fun C0 hw0 hh => .list0 (hh b1 _ (Has.head.le) _), ?_, ?_⟩, ?_⟩
    · simp; lia
    · exact Texts.nil
    · rintro C1 m1 i y ys Rc I hlt hy hj hyl
      refine ev_notests ⟨fun _ => ?_, fun h => nomatch h⟩
      obtain ⟨L1, hE1⟩ := I.env
      rw [hE] at hE1
      have hit := I.it
      have hpc := (I.old "pieces" (by decide) (fun _ => by rw [hE]; rfl) rfl).trans h1
      have hnl : (namesOf Ps cs).length = cs.length := by unfold namesOf; rw [List.length_map, List.length_drop, rowsScan_len]; lia
      have hiy : as[1 + i]? = some y := by rw [Nat.add_comm]; simpa [List.getElem?_drop] using hy
      have hil : i < cs.length := by simp at hlt; lia
      have hrl : 1 + i < (rowsScan [] cs).length := by rw [rowsScan_len]; lia
      obtain ⟨ya, yv, g1, g2, g3, g4⟩ := h4.2 (1 + i) (rowsScan [] cs)[1 + i] (List.getElem?_eq_getElem hrl)
      have hyr : y = .ref ya := Option.some.inj (hiy.symm.trans g1)
      subst hyr
      have hrow5 := hr5 _ (List.getElem_mem hrl)
      have hrow10 := hr10 _ (List.getElem_mem hrl)
      have hni : (namesOf Ps cs)[i]? = some (((rowsScan [] cs)[1 + i].map fun f => Ps.getD f []).flatten) := by
        unfold namesOf
        rw [List.getElem?_map, List.getElem?_drop, List.getElem?_eq_getElem hrl]; rfl
      generalize (rowsScan [] cs)[1 + i] = row at *
      refine ev_methcall ?_
      repeat walk_at "go"
      refine ev_getjoin ?_
      repeat walk_at "go"
      refine ev_comp (cl := [("pieces", L + 1)]) ?_ ?_
      · exact .one (by rw [hE1]; rfl) rfl (by decide +kernel) (by rw [hE1]; rfl) (by rw [hE1]; rfl) (fun _ => rfl) (fun _ => by rw [hE1]; rfl)
      repeat walk_at "go"
      refine ⟨_, _, fun k zs _ => Texts zs ((row.map fun f => Ps.getD f []).take k), ⟨?_, fun C0 hw0 hh => .list0 (hh ya _ ((I.has _ _ (g3.le.cons _)) _) _), Texts.nil, ?_⟩, ?_⟩
      · rw [g4.len]; lia
      · rintro C2 m2 k y zs Rd I2 hltk hyk hjk hzl
        refine ev_notests ⟨fun _ => ?_, fun h => nomatch h⟩
        obtain ⟨L2, hE2⟩ := I2.env
        rw [hE1] at hE2
        have hit2 := I2.it
        have hpc2 := (I2.old "pieces" (by decide) (fun _ => by rw [hE1]; rfl) rfl).trans hpc
        obtain ⟨f, tf, hf, rfl⟩ := g4.get hyk
        have hf10 : f < Ps.length := by rw [hpl]; exact hrow10 f (List.mem_of_getElem? hf)
        obtain ⟨tq, hq⟩ := hp.2 f Ps[f] (List.getElem?_eq_getElem hf10)
        repeat walk_at "go"
        refine ev_sub ?_
        repeat walk_at "go"
        refine ev_itemL (I2.has _ _ (I.has _ _ (.base hpre2) _) _) (by lia) (by lia) (by rw [Int.toNat_natCast]; exact hq) ?_
        have e : ((row.map fun f => Ps.getD f []).take (k + 1)) = (row.map fun f => Ps.getD f []).take k ++ [Ps[f]] := by
          rw [List.take_add_one, List.getElem?_map, hf]
          simp [List.getD_eq_getElem?_getD, List.getElem?_eq_getElem hf10]
        show Texts (zs ++ [.str (S Ps[f]) tq]) ((row.map fun f => Ps.getD f []).take (k + 1))
        rw [e]
        exact hjk.snoc _ _
      · rintro D Rd zs hzs hzl
        have hfull2 : (row.map fun f => Ps.getD f []).take yv.length = row.map fun f => Ps.getD f [] := List.take_of_length_le (by rw [g4.len, List.length_map]; exact Nat.le_refl _)
        rw [hfull2] at hzs
        repeat walk_at "go"
        refine ev_join (.memP List.mem_cons_self) hzs (Nat.le_trans (sum_pieces hp10 row) (by lia)) fun tj => ?_
        show Texts (ys ++ [_]) ((namesOf Ps cs).take (i + 1))
        rw [List.take_add_one, hni]
        exact hj.snoc _ _
    · rintro D Rc ys hj hyl
      refine ⟨[(D, .plist ys)], by simp, D, ys, rfl, List.mem_cons_self, ?_⟩
      have : (namesOf Ps cs).take (as.drop 1).length = namesOf Ps cs := List.take_of_length_le (by unfold namesOf; rw [List.length_map, List.length_drop, rowsScan_len, List.length_drop, hasl]; exact Nat.le_refl _)
      rw [this] at hj
      exact hj
end
section
open PySem PySem.W PySem.Calls PyProof.Rows PySem.Builtin
set_option maxRecDepth 100000
set_option maxHeartbeats 2000000
theorem S_eq (a b : List Nat) : (S a == S b) = (a == b) := by
  by_cases h : a = b
  · subst h; simp
  · rw [show (a == b) = false by simpa using h]; exact beq_false_of_ne fun e => h (S_inj.mp e)
section
variable {C : Cx} {m : Map} {R : Led} {P : Value → Map → Led → Prop}
/-- two lists of texts are the same -/
theorem ev_eqTexts {a b : Addr} {vs ws : List Value} {ns ks : List (List Nat)} (ha : Has C R a (.list vs)) (hb : Has C R b (.list ws)) (h1 : Texts vs ns) (h2 : Texts ws ks) (hu : 20 ≤ C.un) (h : P (.bool (ns == ks)) m R) :
    Ev C m R (compareOp .Eq (.ref a) (.ref b)) P := fun s X => by
  have hu' : C.A.units < cLine := by have := X.ru; lia
  by_cases hl : ns.length = ks.length
  · have hsz : vs.toArray.size = ws.toArray.size := by simp [h1.1, h2.1, hl]
    refine SeqAt.eq_listAt (e := fun j => nth ns j == nth ks j) (X.has ha).isList (X.has hb).isList hsz hu' (fun j g1 g2 => ?_) ⟨m, R, X, ?_⟩
    · obtain ⟨n, t, e1, e2⟩ := h1.get (i := j) (v := vs.toArray[j]) (by simp)
      obtain ⟨k, u, e3, e4⟩ := h2.get (i := j) (v := ws.toArray[j]) (by simp)
      rw [e2, e4, nth_of e1, nth_of e3, ← S_eq]
      exact SeqAt.EqAt.str_str _ _ _ _
    · have e : (List.range vs.toArray.size).all (fun j => nth ns j == nth ks j) = (ns == ks) := by
        rw [List.size_toArray, h1.1]
        apply Bool.eq_iff_iff.mpr
        rw [List.all_eq_true, beq_iff_eq]
        constructor
        · intro hh
          apply List.ext_getElem hl
          intro i g1 g2
          have := hh i (List.mem_range.mpr g1)
          rw [beq_iff_eq, nth_of (List.getElem?_eq_getElem g1), nth_of (List.getElem?_eq_getElem g2)] at this
          exact this
        · rintro rfl i _; simp
      rw [e]; exact h
  · refine SeqAt.eq_list_lengthsAt (X.has ha).isList (X.has hb).isList (by simp [h1.1, h2.1, hl]) hu' ⟨m, R, X, ?_⟩
    have e : (ns == ks) = false := beq_false_of_ne fun q => hl (by rw [q])
    rw [e] at h; exact h
end
theorem CompOk.own1 {C : Cx} {scope : Scope} {x n : Str} {a : Addr} (clos : closureFor scope C.env = pure [(n, a)]) (kind : scope.kind = .function) (names : ∀ y ∈ scope.names, y.2 = .local → scope.names.lookup y.1 = some .local)
    (hk : C.env.kindOf n = some .cell) (hl : C.env.cells.lookup n = some a) (hc : ∀ k, cellsFrom k scope.names [] = [(x, k)]) (hxn : x ≠ n) (var : ∀ L, (cenv scope [(n, a)] L C.env).kindOf x = some .cell) : CompOk C scope [(n, a)] x :=
  ⟨clos, kind, names, fun y c h => by obtain ⟨rfl, rfl⟩ := lookup1 h; exact ⟨hk, hl⟩, fun c h => ⟨n, hk, by
    rw [List.map_cons, List.map_nil, List.mem_singleton] at h; rw [h]; exact hl⟩, fun k y c h => (by
    rw [hc, List.mem_singleton] at h
    injection h with h1 h2
    rw [h1, List.lookup_cons, show (x == n) = false by simpa using hxn]; rfl), List.pairwise_singleton _ _, .inr ⟨var, fun k => by rw [hc, List.lookup_cons]; simp⟩⟩
theorem last_filter (q : Nat → Bool) : ∀ n, (∃ j, j < n ∧ q j = true) → ∃ k, ((List.range n).filter q)[((List.range n).filter q).length - 1]? = some k ∧ q k = true ∧ k < n ∧ ∀ j, j < n → q j = true → j ≤ k
  | 0, ⟨_, h, _⟩ => absurd h (Nat.not_lt_zero _)
  | n + 1, ⟨j, hj, hq⟩ => by
    rw [List.range_succ, List.filter_append]
    by_cases hn : q n = true
    · refine ⟨n, ?_, hn, Nat.lt_succ_self n, fun i hi _ => Nat.le_of_lt_succ hi⟩
      simp [hn]
    · have : j ≠ n := fun e => hn (e ▸ hq)
      obtain ⟨k, h1, h2, h3, h4⟩ := last_filter q n ⟨j, by lia, hq⟩
      refine ⟨k, ?_, h2, by lia, fun i hi hqi => h4 i (by have : i ≠ n := fun e => hn (e ▸ hqi); lia) hqi⟩
      simpa [hn] using h1
/-- a beginning that all share -/
noncomputable def okHead (ns : List (List Nat)) (n0 : List Nat) (j : Nat) : Bool := ns.all fun n => n.take (n0.take j).length == n0.take j
noncomputable def Begun (ns : List (List Nat)) (n0 k : List Nat) : Prop := (∃ j, j ≤ n0.length ∧ k = n0.take j) ∧ (∀ n ∈ ns, n.take k.length = k) ∧ ∀ j ≤ n0.length, (∀ n ∈ ns, n.take j = n0.take j) → j ≤ k.length
theorem d_begun (w : World) (l : Addr) (vs : List Value) (ns : List (List Nat)) (n0 : List Nat) (ht : Texts vs ns) (h0 : ns[0]? = some n0) (hlen : ∀ n ∈ ns, n.length ≤ 100) (hl : ns.length ≤ 100) :
    Does w 212 1 80 [.ref l] (fun h => Holds w h l (.list vs)) (fun v _ => ∃ k t, Begun ns n0 k ∧ v = .str (S k) t) := by
  refine does_of (d := 0) (u := 76) (binds := [("texts", .ref l)]) (by k_is) (by k_is) (fun s => BindsTo.of_eq rfl) ?_
  intro C L hw hdp hun hH hE W hpre
  subst hw
  have h0len := hlen n0 (List.mem_of_getElem? h0)
  obtain ⟨t0, hv0⟩ := ht.2 0 n0 h0
  refine ev_cons ?_
  refine' ev_assigncomp (cl := [("texts", L + 1)]) W ?k1 ?k2 ?k3 ?_
  case k1 => walk_at "vr"
  case k2 => exact .one (by rw [hE]; rfl) rfl (by decide +kernel) (by rw [hE]; rfl) (by rw [hE]; rfl) (fun _ => rfl) (fun _ => by rw [hE]; rfl)
  case k3 => rw [hE]; rfl
  repeat walk_at "go"
  refine ev_sub ?_
  repeat walk_at "go"
  refine ev_itemL (.base hpre) (by lia) (by lia) hv0 ?_
  repeat walk_at "go"
  refine ev_lenS (by lia) fun _ => ?_
  repeat walk_at "go"
  refine ev_range1 fun r t1 t2 hr => ?_
  have hn : (((n0.length : Int) + 1) - 0).toNat = n0.length + 1 := by lia
  refine ⟨n0.length + 1, _, fun i ys _ => Texts ys ((List.range i).map fun k => n0.take k), ⟨by lia, fun C0 hw0 hh => hn ▸ src_range (hh r _ .head _) (by lia) (by lia), Texts.nil, ?_⟩, ?_⟩
  · rintro C1 m1 i y ys Rc I hlt ⟨ti, rfl⟩ hj hyl
    refine ev_notests ⟨fun _ => ?_, fun h => nomatch h⟩
    obtain ⟨L1, hE1⟩ := I.env
    rw [hE] at hE1
    have hit := I.it
    have htx := (I.old "texts" (by decide) (fun _ => by rw [hE]; rfl) rfl).trans (show lk [("texts", .ref l)] "texts" = some (.ref l) from rfl)
    refine ev_partTo ?_
    refine ev_sub ?_
    repeat walk_at "go"
    refine ev_itemL (I.has _ _ (.base hpre) _) (by lia) (by lia) hv0 ?_
    refine ⟨_, _, rfl, by lia, ?_⟩
    repeat walk_at "go"
    refine ⟨_, _, rfl, fun t5 => ?_⟩
    rw [show (0 + (i : Int)) = ((i : Nat) : Int) by lia, S_take]
    show Texts _ ((List.range (i + 1)).map fun k => n0.take k)
    rw [List.range_succ, List.map_append]
    exact hj.snoc _ _
  · rintro D Rc ys hj hyl
    repeat walk_at "go"
    refine ev_sub ?_
    refine ev_comp (cl := [("texts", L + 1)]) ?_ ?_
    · exact .own1 (by rw [hE]; rfl) rfl (by decide +kernel) (by rw [hE]; rfl) (by rw [hE]; rfl) (fun _ => rfl) (by decide) (fun _ => by rw [hE]; rfl)
    repeat walk_at "go"
    refine ⟨_, _, fun i zs _ => Texts zs (((List.range i).filter (okHead ns n0)).map fun k => n0.take k), ⟨?_, fun C0 hw0 hh => .list0 (hh D _ (.memP List.mem_cons_self) _), Texts.nil, ?_⟩, ?_⟩
    · rw [hj.1]; simp; lia
    · rintro C1 m1 i y zs Rd I hlt hy hjz hzl
      obtain ⟨L1, hE1⟩ := I.env
      rw [hE] at hE1
      have hit := I.it
      have htx := (I.old "texts" (by decide) (fun _ => by rw [hE]; rfl) rfl).trans (show sv (lk [("texts", .ref l)]) "heads" (.ref D) "texts" = some (.ref l) from rfl)
      obtain ⟨h, th, hh, rfl⟩ := hj.get hy
      refine ev_onetest ?_
      have hil : i < n0.length + 1 := by rw [hj.1] at hlt; simpa using hlt
      have hhi : h = n0.take i := by
        rw [List.getElem?_map, List.getElem?_range hil] at hh
        exact (Option.some.inj hh).symm
      have hhl : h.length ≤ 100 := by rw [hhi, List.length_take]; lia
      have hfs : (List.range (i + 1)).filter (okHead ns n0) = (List.range i).filter (okHead ns n0) ++ (if okHead ns n0 i then [i] else []) := by
        rw [List.range_succ, List.filter_append, List.filter_cons, List.filter_nil]
      repeat walk_at "go"
      refine ev_comp (cl := [("head", L1 + 1)]) ?_ ?_
      · exact .one (by rw [hE1]; rfl) rfl (by decide +kernel) (by rw [hE1]; rfl) (by rw [hE1]; rfl) (fun _ => rfl) (fun _ => by rw [hE1]; rfl)
      repeat walk_at "go"
      refine ⟨_, _, fun k ws _ => Texts ws ((ns.take k).filter fun n => n.take h.length != h), ⟨by rw [ht.1]; lia, fun C0 hw0 hh => .list0 (hh l _ (I.has _ _ (.base hpre) _) _), Texts.nil, ?_⟩, ?_⟩
      · rintro C2 m2 k y ws Re I2 hltk hyk hjk hwl
        obtain ⟨L2, hE2⟩ := I2.env
        rw [hE1] at hE2
        have hit2 := I2.it
        have hhd2 := (I2.old "head" (by decide) (fun _ => by rw [hE1]; rfl) rfl).trans hit
        obtain ⟨n, tn, hn', rfl⟩ := ht.get hyk
        have hnl := hlen n (List.mem_of_getElem? hn')
        refine ev_onetest ?_
        repeat walk_at "go"
        refine ev_partTo ?_
        repeat walk_at "go"
        refine ⟨_, _, rfl, by lia, ?_⟩
        repeat walk_at "go"
        refine ev_lenS (by lia) fun tq => ?_
        refine ⟨_, _, rfl, fun t6 => ?_⟩
        rw [S_take]
        repeat walk_at "go"
        have e : (ns.take (k + 1)).filter (fun n => n.take h.length != h) = (ns.take k).filter (fun n => n.take h.length != h) ++ (if n.take h.length != h then [n] else []) := by
          rw [List.take_add_one, hn', List.filter_append]
          cases hc : (n.take h.length != h) <;> simp_all
        refine ⟨fun hb => ?_, fun hb => ?_⟩
        · repeat walk_at "go"
          show Texts (ws ++ [_]) ((ns.take (k + 1)).filter fun n => n.take h.length != h)
          rw [e, if_pos hb]
          exact hjk.snoc _ _
        · show Texts ws ((ns.take (k + 1)).filter fun n => n.take h.length != h)
          rw [e, if_neg (by simpa using hb), List.append_nil]
          exact hjk
      · rintro D2 Re ws hws hwl
        have hfull : ns.take vs.length = ns := List.take_of_length_le (by rw [ht.1]; exact Nat.le_refl _)
        rw [hfull] at hws
        repeat walk_at "go"
        refine ev_list ?_
        repeat walk_at "go"
        refine ⟨by simp, fun ea hea => ?_⟩
        refine ev_eqTexts (.memP (List.mem_cons_of_mem _ List.mem_cons_self)) (.memP List.mem_cons_self) hws Texts.nil (by rw [I.un]; lia) ?_
        have hok : (ns.filter (fun n => n.take h.length != h) == []) = okHead ns n0 i := by
          apply Bool.eq_iff_iff.mpr
          rw [beq_iff_eq, List.filter_eq_nil_iff]
          unfold okHead
          rw [← hhi, List.all_eq_true]
          simp
        rw [hok]
        repeat walk_at "go"
        refine ⟨fun hb => ?_, fun hb => ?_⟩
        · repeat walk_at "go"
          show Texts (zs ++ [_]) (((List.range (i + 1)).filter (okHead ns n0)).map fun k => n0.take k)
          rw [hfs, if_pos hb, List.map_append, hhi]
          exact hjz.snoc _ _
        · show Texts zs (((List.range (i + 1)).filter (okHead ns n0)).map fun k => n0.take k)
          rw [hfs, if_neg (by simpa using hb), List.append_nil]
          exact hjz
    · rintro D3 Rd zs hz hzl
      have hysl : ys.length = n0.length + 1 := by rw [hj.1]; simp
      rw [hysl] at hz
      have hok0 : okHead ns n0 0 = true := by unfold okHead; simp
      obtain ⟨k, hk1, hk2, hk3, hk4⟩ := last_filter (okHead ns n0) (n0.length + 1) ⟨0, by lia, hok0⟩
      have hzlen := hz.1
      rw [List.length_map] at hzlen
      have hpos : 0 < ((List.range (n0.length + 1)).filter (okHead ns n0)).length := by
        rcases Nat.eq_zero_or_pos ((List.range (n0.length + 1)).filter (okHead ns n0)).length with e | e
        · rw [List.getElem?_eq_none (by lia)] at hk1; cases hk1
        · exact e
      obtain ⟨tz, htz⟩ := hz.2 (((List.range (n0.length + 1)).filter (okHead ns n0)).length - 1) (n0.take k) (by rw [List.getElem?_map, hk1]; rfl)
      repeat walk_at "go"
      refine ev_itemLneg (.memP List.mem_cons_self) (by lia) (by lia) (by lia) (by rw [hzlen, show ((-1 : Int) + ((((List.range (n0.length + 1)).filter (okHead ns n0)).length : Nat) : Int)).toNat = ((List.range (n0.length + 1)).filter (okHead ns n0)).length - 1 by lia]; exact htz) ?_
      have hkl : (n0.take k).length = k := by rw [List.length_take]; lia
      refine ⟨[], List.nil_sublist _, n0.take k, tz, ⟨⟨k, by lia, rfl⟩, fun n hn => ?_, fun j hj hall => ?_⟩, rfl⟩
      · unfold okHead at hk2
        rw [List.all_eq_true] at hk2
        simpa using hk2 n hn
      · rw [hkl]
        refine hk4 j (by lia) ?_
        unfold okHead
        rw [List.all_eq_true]
        intro n hn
        have : (n0.take j).length = j := by rw [List.length_take]; lia
        rw [this, hall n hn]; simp
end
section
open PySem PySem.W PySem.Calls PyProof.Rows PySem.Builtin
set_option maxRecDepth 100000
set_option maxHeartbeats 2000000
noncomputable def upd (M : Nat → Nat → Int) (a b : Nat) (v : Int) : Nat → Nat → Int := fun x y => if x = a ∧ y = b then v else M x y
noncomputable def stepT (t : Int) (i : Nat) (M : Nat → Nat → Int) : Nat → Nat → Int := upd M i i (M i i + t)
noncomputable def stepJ (W : Nat → Nat → Int) (i j : Nat) (M : Nat → Nat → Int) : Nat → Nat → Int :=
  let M1 := upd (upd M i j (-(W i j))) j i (-(W i j))
  let M2 := upd M1 i i (M1 i i + W i j)
  upd M2 j j (M2 j j + W i j)
noncomputable def innerJ (W : Nat → Nat → Int) (i : Nat) (M : Nat → Nat → Int) : Nat → Nat → Nat → Int
  | 0 => M
  | j + 1 => stepJ W i j (innerJ W i M j)
noncomputable def outerI (W : Nat → Nat → Int) (t : Int) : Nat → Nat → Nat → Int
  | 0 => fun _ _ => 0
  | i + 1 => innerJ W i (stepT t i (outerI W t i)) i
/-- the table of a law's lines stands in its rows -/
structure MatIn (C : Cx) (R : Led) (D : Addr) (as : List Addr) (n : Nat) (M : Nat → Nat → Int) : Prop where
  head : (D, Cell.plist (as.map Value.ref)) ∈ R
  len : as.length = n
  nod : as.Nodup
  off : D ∉ as
  row : ∀ k, k < n → ∃ a vs c, as[k]? = some a ∧ (a, c) ∈ R ∧ Le c (.list vs) ∧ Ints vs ((List.range n).map (M k))
theorem MatIn.weak {C : Cx} {R : Led} {D : Addr} {as : List Addr} {n : Nat} {M : Nat → Nat → Int} (h : MatIn C R D as n M) (R' : Led) : MatIn C (R' ++ R) D as n M :=
  ⟨List.mem_append_right _ h.head, h.len, h.nod, h.off, fun k hk => let ⟨a, vs, c, h1, h2, h3, h4⟩ := h.row k hk; ⟨a, vs, c, h1, List.mem_append_right _ h2, h3, h4⟩⟩
theorem MatIn.hide {C : Cx} {R : Led} {D : Addr} {as : List Addr} {n : Nat} {M : Nat → Nat → Int} (h : MatIn C R D as n M) (N : List (Addr × Obj)) : MatIn (C.hide N) R D as n M :=
  ⟨h.head, h.len, h.nod, h.off, h.row⟩
theorem set_range (M : Nat → Nat → Int) (n r c : Nat) (v : Int) : ((List.range n).map (M r)).set c v = (List.range n).map (upd M r c v r) := by
  apply List.ext_getElem
  · simp
  · intro i h1 h2
    simp only [List.getElem_set, List.getElem_map, List.getElem_range, upd]
    by_cases h : c = i
    · subst h; simp
    · rw [if_neg h, if_neg (fun q => h q.2.symm)]
theorem upd_row {M : Nat → Nat → Int} {r c k : Nat} {v : Int} (h : k ≠ r) : upd M r c v k = M k := by
  funext y; unfold upd; rw [if_neg (fun q => h q.1)]
theorem MatIn.set {C : Cx} {R : Led} {D : Addr} {as : List Addr} {n : Nat} {M : Nat → Nat → Int} (h : MatIn C R D as n M) {r c : Nat} {a : Addr} {vs : List Value} {v : Int} {t : Tok} (hr : r < n) (ha : as[r]? = some a) (hv : Ints vs ((List.range n).map (M r))) :
    MatIn C (put R a (.list (vs.set c (.int v t)))) D as n (upd M r c v) := by
  have hDa : D ≠ a := fun e => h.off (e ▸ List.mem_of_getElem? ha)
  refine ⟨?_, h.len, h.nod, h.off, fun k hk => ?_⟩
  · refine List.mem_map.mpr ⟨_, h.head, ?_⟩
    rw [if_neg hDa]
  · obtain ⟨b, ws, c0, h1, h2, h3, h4⟩ := h.row k hk
    by_cases e : k = r
    · subst e
      have hab : b = a := Option.some.inj (h1.symm.trans ha)
      subst hab
      exact ⟨b, _, _, h1, mem_put (List.mem_map.mpr ⟨_, h2, rfl⟩), .rfl, by rw [← set_range]; exact hv.set c v t⟩
    · have hne : b ≠ a := fun q => by
        subst q
        have hk' : k < as.length := by rw [h.len]; exact hk
        have hr' : r < as.length := by rw [h.len]; exact hr
        rw [List.getElem?_eq_getElem hk'] at h1
        rw [List.getElem?_eq_getElem hr'] at ha
        have he : as[k] = as[r] := (Option.some.inj h1).trans (Option.some.inj ha).symm
        have hp := List.pairwise_iff_getElem.mp h.nod
        rcases Nat.lt_or_gt_of_ne e with g | g
        · exact hp k r hk' hr' g he
        · exact hp r k hr' hk' g he.symm
      exact ⟨b, ws, c0, h1, List.mem_map.mpr ⟨_, h2, if_neg hne⟩, h3, by rw [upd_row e]; exact h4⟩
theorem MatIn.item {C : Cx} {R : Led} {D : Addr} {as : List Addr} {n : Nat} {M : Nat → Nat → Int} (h : MatIn C R D as n M) {r : Nat} (hr : r < n) :
    ∃ a vs, as[r]? = some a ∧ a ∈ R.map (·.1) ∧ Has C R a (.list vs) ∧ Ints vs ((List.range n).map (M r)) ∧ (as.map Value.ref)[r]? = some (.ref a) ∧ ∀ c, c < n → ∃ t, vs[c]? = some (.int (M r c) t) := by
  obtain ⟨a, vs, c0, h1, h2, h3, h4⟩ := h.row r hr
  exact ⟨a, vs, h1, List.mem_map.mpr ⟨_, h2, rfl⟩, ⟨c0, h3, .inl h2⟩, h4, by rw [List.getElem?_map, h1]; rfl, fun c hc => h4.2 c (M r c) (by rw [List.getElem?_map, List.getElem?_range hc]; rfl)⟩
section
variable {C : Cx} {m : Map} {R : Led}
/-- lines[r][c] += v, as a statement -/
theorem ev_matadd {D : Addr} {as : List Addr} {n : Nat} {M : Nat → Nat → Int} {x : Str} {er ec : Expr} {value : Expr} {p1 p2 p3 pos : Pos} {r c : Nat} {P : Flow → Map → Led → Prop} (h : MatIn C R D as n M) (hr : r < n) (hc : c < n) (hn : n ≤ 1000)
    (hx : ∀ {P : Value → Map → Led → Prop}, P (.ref D) m R → Ev C m R (eval (.Name x p1) C.env) P)
    (her : ∀ {P : Value → Map → Led → Prop}, (∀ t, P (.int r t) m R) → Ev C m R (eval er C.env) P) (hec : ∀ {P : Value → Map → Led → Prop}, (∀ t, P (.int c t) m R) → Ev C m R (eval ec C.env) P)
    (hi : ∀ ov iv new, augStore ec ov iv new = (do holding [new, ov, iv] (setItem ov iv new); release [new, ov, iv] []; Pure.pure .next))
    (hs : ∀ a t, subscripted er false (.ref a) (.int r t) = operate [.ref a, .int r t] (getItem (.ref a) (.int r t)))
    {v : Int} (hv : ∀ {P : Value → Map → Led → Prop}, (∀ t, P (.int v t) m R) → Ev C m R (eval value C.env) P)
    (hP : ∀ R', MatIn C R' D as n (upd M r c (M r c + v)) → (∀ a c', (∀ (k : Nat) (b : Addr), as[k]? = some b → a ≠ b) → Has C R a c' → Has C R' a c') → P .next m R') :
    Ev C m R (exec (.AugAssign (.Subscript (.Subscript (.Name x p1) er p2) ec p3) .Add value pos) C.env) P := by
  obtain ⟨a, vs, g1, g2, g3, g4, g5, g6⟩ := h.item hr
  obtain ⟨tc, htc⟩ := g6 c hc
  have hvl : vs.length = n := by rw [g4.1]; simp
  refine ev_augsub (ev_sub (hx (her fun t1 => ev_itemL (.memP h.head) (by lia) (by lia) (by rw [Int.toNat_natCast]; exact g5) (hec fun t2 => ev_getL g3 (by lia) (by lia) (by rw [Int.toNat_natCast]; exact htc) (hv fun t3 => ev_iadd fun t4 => ?_)) (hs D t1)))) hi
  refine ev_setL g2 g3 (by lia) (by lia) (by lia) ?_
  rw [Int.toNat_natCast]
  exact hP _ (h.set hr g1 g4) fun b c' hb hh => hh.put_ne (hb r a g1)
/-- lines[r][c] = v -/
theorem ev_matset {D : Addr} {as : List Addr} {n : Nat} {M : Nat → Nat → Int} {x : Str} {er ec : Expr} {p1 p2 p3 : Pos} {r c : Nat} {P : Unit → Map → Led → Prop} (h : MatIn C R D as n M) (hr : r < n) (hc : c < n) (hn : n ≤ 1000)
    (hx : ∀ {P : Value → Map → Led → Prop}, P (.ref D) m R → Ev C m R (eval (.Name x p1) C.env) P)
    (her : ∀ {P : Value → Map → Led → Prop}, (∀ t, P (.int r t) m R) → Ev C m R (eval er C.env) P) (hec : ∀ {P : Value → Map → Led → Prop}, (∀ t, P (.int c t) m R) → Ev C m R (eval ec C.env) P)
    (hs : ∀ a t, subscripted er false (.ref a) (.int r t) = operate [.ref a, .int r t] (getItem (.ref a) (.int r t)))
    {v : Int} {tv : Tok} (hP : ∀ R', MatIn C R' D as n (upd M r c v) → P () m R') :
    Ev C m R (assign (.Subscript (.Subscript (.Name x p1) er p2) ec p3) C.env (.int v tv)) P := by
  obtain ⟨a, vs, g1, g2, g3, g4, g5, g6⟩ := h.item hr
  have hvl : vs.length = n := by rw [g4.1]; simp
  refine ev_asgsub (ev_sub (hx (her fun t1 => ev_itemL (.memP h.head) (by lia) (by lia) (by rw [Int.toNat_natCast]; exact g5) (hec fun t2 => ?_) (hs D t1))))
  refine ev_setL g2 g3 (by lia) (by lia) (by lia) ?_
  rw [Int.toNat_natCast]
  exact hP _ (h.set hr g1 g4)
end
end
section
open PySem PySem.W PySem.Calls PyProof.Rows PySem.Builtin
set_option maxRecDepth 100000
set_option maxHeartbeats 2000000
theorem lcp_comm : ∀ a b : List Nat, lcp a b = lcp b a
  | [], [] => rfl
  | [], _ :: _ => rfl
  | _ :: _, [] => rfl
  | a :: x, b :: y => by
    unfold lcp
    by_cases h : a = b
    · rw [if_pos h, if_pos h.symm, h, lcp_comm x y]
    · rw [if_neg h, if_neg (fun e => h e.symm)]
theorem lcp_len : ∀ a b : List Nat, (lcp a b).length ≤ a.length
  | [], _ => Nat.le_refl _
  | _ :: _, [] => Nat.zero_le _
  | a :: x, b :: y => by
    unfold lcp
    split
    · exact Nat.succ_le_succ (lcp_len x y)
    · exact Nat.zero_le _
/-- the weight of two names' tie -/
noncomputable def tieW (ns : List (List Nat)) (i j : Nat) : Int := tie (lcp (nth ns i) (nth ns j))
theorem CompOk.two {C : Cx} {scope : Scope} {x n n' : Str} {a a' : Addr} (clos : closureFor scope C.env = pure [(n, a), (n', a')]) (kind : scope.kind = .function) (names : ∀ y ∈ scope.names, y.2 = .local → scope.names.lookup y.1 = some .local)
    (hk : C.env.kindOf n = some .cell) (hl : C.env.cells.lookup n = some a) (hk' : C.env.kindOf n' = some .cell) (hl' : C.env.cells.lookup n' = some a') (hne : a ≠ a') (hno : ∀ k, cellsFrom k scope.names [] = [])
    (var : ∀ L, (cenv scope [(n, a), (n', a')] L C.env).kindOf x = some .local) : CompOk C scope [(n, a), (n', a')] x :=
  ⟨clos, kind, names, fun y c h => by
    rw [List.lookup_cons] at h
    by_cases e : y = n
    · subst e; simp at h; subst h; exact ⟨hk, hl⟩
    · rw [show (y == n) = false by simpa using e] at h
      obtain ⟨rfl, rfl⟩ := lookup1 h; exact ⟨hk', hl'⟩, fun c h => by
    simp at h
    rcases h with rfl | rfl
    · exact ⟨n, hk, hl⟩
    · exact ⟨n', hk', hl'⟩, fun k y c h => (by rw [hno] at h; cases h), by simpa using hne, .inl var⟩
/-- what a line's row is -/
noncomputable def MatPost (n : Nat) (M : Nat → Nat → Int) (v : Value) (R' : Led) : Prop := ∃ (D : Addr) (as : List Addr), v = .ref D ∧ (D, Cell.plist (as.map Value.ref)) ∈ R' ∧ as.length = n ∧ ∀ k, k < n → ∃ a vs c, as[k]? = some a ∧ (a, c) ∈ R' ∧ Le c (.list vs) ∧ Ints vs ((List.range n).map (M k))
theorem MatIn.of {C C' : Cx} {R : Led} {D : Addr} {as : List Addr} {n : Nat} {M : Nat → Nat → Int} (h : MatIn C R D as n M) : MatIn C' R D as n M := ⟨h.head, h.len, h.nod, h.off, h.row⟩
theorem eq_of_not_lt {x y : List Nat} (h1 : ¬ x < y) (h2 : ¬ y < x) : x = y := List.le_antisymm (List.not_lt.mp h2) (List.not_lt.mp h1)
theorem low_high {ns : List (List Nat)} {a b lo hi p q : List Nat} (hl : Least [a, b] lo) (hh : Greatest [a, b] hi) (ha : a ∈ ns) (hb : b ∈ ns)
    (hp : Least (ns.filter fun n => !(decide (n < lo)) && !(decide (hi < n))) p) (hq : Greatest (ns.filter fun n => !(decide (n < lo)) && !(decide (hi < n))) q) : lcp p q = lcp a b := by
  have hin : ∀ x, x ∈ [a, b] → x ∈ ns.filter fun n => !(decide (n < lo)) && !(decide (hi < n)) := fun x hx => by
    rw [List.mem_filter]
    have h1 := hl.2 x hx
    have h2 := hh.2 x hx
    refine ⟨?_, by simp [h1, h2]⟩
    simp at hx
    rcases hx with rfl | rfl
    · exact ha
    · exact hb
  have hpl : p = lo := by
    have h1 := (List.mem_filter.mp hp.1).2
    simp only [Bool.and_eq_true, Bool.not_eq_true', decide_eq_false_iff_not] at h1
    exact eq_of_not_lt h1.1 (hp.2 lo (hin lo hl.1))
  have hqh : q = hi := by
    have h1 := (List.mem_filter.mp hq.1).2
    simp only [Bool.and_eq_true, Bool.not_eq_true', decide_eq_false_iff_not] at h1
    exact eq_of_not_lt (hq.2 hi (hin hi hh.1)) h1.2
  subst hpl; subst hqh
  have e1 := hl.1
  have e2 := hh.1
  simp at e1 e2
  rcases e1 with e1 | e1 <;> rcases e2 with e2 | e2
  · have : a = b := eq_of_not_lt (e2 ▸ hh.2 b (by simp)) (e1 ▸ hl.2 b (by simp))
    rw [e1, e2, ← this]
  · rw [e1, e2]
  · rw [e1, e2]; exact lcp_comm _ _
  · have : b = a := eq_of_not_lt (e2 ▸ hh.2 a (by simp)) (e1 ▸ hl.2 a (by simp))
    rw [e1, e2, ← this]
theorem Ev.nod {C : Cx} {m : Map} {R : Led} {α : Type} {t : Sem α} {P : α → Map → Led → Prop} (h : (R.map (·.1)).Nodup → Ev C m R t P) : Ev C m R t P := fun s X => h (by
  have := X.nod
  rw [List.nodup_append] at this
  exact (List.nodup_append.mp this.2.1).1) s X
theorem d_lines (w : World) (l : Addr) (vs : List Value) (ns : List (List Nat)) (t : Int) (tt : Tok) (ht : Texts vs ns) (hlen : ∀ n ∈ ns, n.length ≤ 100) (hl : ns.length ≤ 100) :
    Does w 188 5 100 [.ref l, .int t tt] (fun h => Holds w h l (.list vs)) (MatPost ns.length (outerI (tieW ns) t ns.length)) := by
  refine does_of (d := 4) (u := 96) (binds := [("names", .ref l), ("t", .int t tt)]) (by k_is) (by k_is) (fun s => BindsTo.of_eq rfl) ?_
  intro C L hw hdp hun hH hE W hpre
  subst hw
  have hvl := ht.1
  refine ev_cons ?_
  refine' ev_assigncomp (cl := [("names", L + 1)]) W ?k1 ?k2 ?k3 ?_
  case k1 => walk_at "vr"
  case k2 => exact .one (by rw [hE]; rfl) rfl (by decide +kernel) (by rw [hE]; rfl) (by rw [hE]; rfl) (fun _ => rfl) (fun _ => by rw [hE]; rfl)
  case k3 => rw [hE]; rfl
  repeat walk_at "go"
  refine ⟨_, _, fun i ys Rc => ∃ as : List Addr, ys = as.map Value.ref ∧ as.length = i ∧ as.Nodup ∧ (∀ a ∈ as, a ∈ Rc.map (·.1)) ∧ ∀ k, k < i → ∃ a xs, as[k]? = some a ∧ (a, Cell.plist xs) ∈ Rc ∧ Ints xs ((List.range ns.length).map fun _ => 0), ⟨by lia, fun C0 hw0 hh => .list0 (hh l _ (.base hpre) _), ⟨[], rfl, rfl, List.nodup_nil, fun a h => (nomatch h), fun k h => absurd h (Nat.not_lt_zero _)⟩, ?_⟩, ?_⟩
  · rintro C1 m1 i y ys Rc I hlt hy ⟨as, rfl, h1, h2, h3, h4⟩ hyl
    refine ev_notests ⟨fun _ => ?_, fun h => nomatch h⟩
    obtain ⟨L1, hE1⟩ := I.env
    rw [hE] at hE1
    have hit := I.it
    have hnm := (I.old "names" (by decide) (fun _ => by rw [hE]; rfl) rfl).trans (show lk [("names", .ref l), ("t", .int t tt)] "names" = some (.ref l) from rfl)
    repeat walk_at "go"
    refine ev_list ?_
    repeat walk_at "go"
    refine ⟨by simp, fun z hz => ?_⟩
    repeat walk_at "go"
    refine ev_lenL (I.has _ _ (.base hpre) _) (by lia) fun _ => ?_
    refine ev_mulL .head (by lia) (by lia) fun q hq => ?_
    rw [Int.toNat_natCast]
    refine ⟨as ++ [q], by simp, by simp [h1], ?_, ?_, ?_⟩
    · rw [List.nodup_append]
      refine ⟨h2, List.nodup_cons.mpr ⟨List.not_mem_nil, List.nodup_nil⟩, fun a ha b hb e => ?_⟩
      rw [List.mem_singleton.mp hb] at e
      obtain ⟨p, hp, e2⟩ := List.mem_map.mp (h3 a ha)
      exact hq.1 p (List.mem_cons_of_mem _ hp) (e2.trans e)
    · intro a ha
      rcases List.mem_append.mp ha with h | h
      · exact List.mem_cons_of_mem _ (List.mem_cons_of_mem _ (h3 a h))
      · rw [List.mem_singleton.mp h]; exact List.mem_cons_self
    · intro k hk
      by_cases hki : k < i
      · obtain ⟨a, xs, g1, g2, g3⟩ := h4 k hki
        exact ⟨a, xs, by rw [List.getElem?_append_left (by rw [h1]; exact hki)]; exact g1, List.mem_cons_of_mem _ (List.mem_cons_of_mem _ g2), g3⟩
      · have : k = i := by lia
        subst this
        refine ⟨q, _, by rw [List.getElem?_append_right (by lia), h1]; simp, List.mem_cons_self, ?_⟩
        refine ⟨by simp [hvl], fun j n hj => ?_⟩
        rw [List.getElem?_map] at hj
        by_cases hjn : j < ns.length
        · rw [List.getElem?_range hjn] at hj
          have : (0 : Int) = n := by simpa using hj
          subst this
          exact ⟨_, by rw [List.getElem?_replicate, if_pos (by rw [hvl]; exact hjn)]⟩
        · rw [List.getElem?_eq_none (by simpa using hjn)] at hj; cases hj
  · rintro D Rc ys ⟨as, rfl, h1, h2, h3, h4⟩ hyl
    repeat walk_at "go"
    refine Ev.nod fun hnod => ?_
    have hDas : D ∉ as := fun hm => by
      have hx : (D :: Rc.map (·.1)).Nodup := by simpa using hnod
      exact (List.nodup_cons.mp hx).1 (h3 D hm)
    refine ev_for W (by walk_at "vr") ?_
    repeat walk_at "go"
    refine ev_lenL (.base hpre) (by lia) fun _ => ?_
    repeat walk_at "go"
    refine ev_range1 fun r t1 t2 hr => ?_
    refine ⟨_, _, src_range .head (by lia) (by lia), fun i m R => m "names" = some (.ref l) ∧ m "t" = some (.int t tt) ∧ m "lines" = some (.ref D) ∧ MatIn C R D as ns.length (outerI (tieW ns) t i), ⟨by walk_at "lk", by walk_at "lk", by walk_at "lk", ?_⟩, ?_, ?_⟩
    · refine ⟨by simp, by rw [h1, hvl], h2, hDas, fun k hk => ?_⟩
      obtain ⟨a, xs, g1, g2, g3⟩ := h4 k (by lia)
      exact ⟨a, xs, _, g1, by simp [g2], .inr ⟨xs, rfl, rfl⟩, g3⟩
    · rintro i v m₁ R₁ N hi ⟨ti, rfl⟩ ⟨q1, q2, q3, hM⟩
      have W' := W.hide N
      rw [show (0 + (i : Int)) = ((i : Nat) : Int) by lia]
      have hin : i < ns.length := by lia
      have hM' := hM.hide N
      refine ev_cons (ev_matadd hM' hin hin (by lia) (fun hp => by repeat walk_at "go"; exact hp) (fun hp => by repeat walk_at "go"; exact hp _) (fun hp => by repeat walk_at "go"; exact hp _) (fun _ _ _ => rfl) (fun _ _ => by with_unfolding_all rfl) (fun hp => by repeat walk_at "go"; exact hp _) ?_)
      intro R' hM1 _
      repeat walk_at "go"
      refine ev_for W' (by walk_at "vr") ?_
      repeat walk_at "go"
      refine ev_range1 fun r2 t3 t4 hr2 => ?_
      refine ⟨_, _, src_range .head (by lia) (by lia), fun j m R => m "names" = some (.ref l) ∧ m "t" = some (.int t tt) ∧ m "lines" = some (.ref D) ∧ (∃ ti, m "i" = some (.int i ti)) ∧ MatIn C R D as ns.length (innerJ (tieW ns) i (stepT t i (outerI (tieW ns) t i)) j), ⟨by walk_at "lk", by walk_at "lk", by walk_at "lk", ⟨_, by walk_at "lk"⟩, (hM1.weak [_]).of⟩, ?_, ?_⟩
      · rintro j v m₂ R₂ N2 hj ⟨tj, rfl⟩ ⟨q1, q2, q3, ⟨ti2, q4⟩, hM2⟩
        have W2 := W'.hide N2
        rw [show (0 + (j : Int)) = ((j : Nat) : Int) by lia]
        have hji : j < i := by lia
        have hjn : j < ns.length := by lia
        obtain ⟨ta, hva⟩ := ht.2 i ns[i] (List.getElem?_eq_getElem hin)
        obtain ⟨tb, hvb⟩ := ht.2 j ns[j] (List.getElem?_eq_getElem hjn)
        have hma : ns[i] ∈ ns := List.getElem_mem hin
        have hmb : ns[j] ∈ ns := List.getElem_mem hjn
        refine ev_cons ?_
        refine' ev_assigntup ?_ ?k1 ?k2
        case k1 => rfl
        case k2 => show swappedStores _ _ C.env = _; rw [hE]; rfl
        refine ev_tuple ?_
        repeat walk_at "go"
        refine ev_sub ?_
        repeat walk_at "go"
        refine ev_itemL (.base hpre) (by lia) (by lia) (by rw [Int.toNat_natCast]; exact hva) ?_
        repeat walk_at "go"
        refine ev_sub ?_
        repeat walk_at "go"
        refine ev_itemL (.base hpre) (by lia) (by lia) (by rw [Int.toNat_natCast]; exact hvb) ?_
        repeat walk_at "go"
        refine ev_min2 fun lo tlo hlo => ?_
        repeat walk_at "go"
        refine ev_sub ?_
        repeat walk_at "go"
        refine ev_itemL (.base hpre) (by lia) (by lia) (by rw [Int.toNat_natCast]; exact hva) ?_
        repeat walk_at "go"
        refine ev_sub ?_
        repeat walk_at "go"
        refine ev_itemL (.base hpre) (by lia) (by lia) (by rw [Int.toNat_natCast]; exact hvb) ?_
        repeat walk_at "go"
        refine ev_max2 fun hi thi hhi => ?_
        repeat walk_at "go"
        refine ⟨by simp, fun tp htp => ?_⟩
        refine' ev_unpack .head ?_ ?k1 ?k2
        case k1 => rfl
        case k2 => rfl
        refine ev_ord_cons (ev_asgname W2 (by walk_at "vr") ?_)
        refine ev_ord_cons (ev_asgname W2 (by walk_at "vr") ?_)
        refine ev_ord_nil ?_
        repeat walk_at "go"
        refine ev_comp (cl := [("low", L + 2), ("high", L + 3)]) ?_ ?_
        · exact .two (by show closureFor _ C.env = _; rw [hE]; rfl) rfl (by decide +kernel) (by show C.env.kindOf _ = _; rw [hE]; rfl) (by show C.env.cells.lookup _ = _; rw [hE]; rfl) (by show C.env.kindOf _ = _; rw [hE]; rfl) (by show C.env.cells.lookup _ = _; rw [hE]; rfl) (Nat.ne_of_lt (Nat.lt_succ_self (L + 2))) (fun _ => rfl) (fun _ => by show (cenv _ _ _ C.env).kindOf _ = _; rw [hE]; rfl)
        repeat walk_at "go"
        refine ⟨_, _, fun k ys _ => Texts ys ((ns.take k).filter fun n => !(decide (n < lo)) && !(decide (hi < n))), ⟨by lia, fun C0 hw0 hh => .list0 (hh l _ (.base hpre) _), Texts.nil, ?_⟩, ?_⟩
        · rintro C1 m1 k y ys Rc I hlt hy hj' hyl
          obtain ⟨L1, hE1⟩ := I.env
          rw [show ((C.hide N).hide N2).env = C.env from rfl, hE] at hE1
          have hit := I.it
          have hlow := (I.old "low" (by decide) (fun _ => by show (cenv _ _ _ C.env).kindOf _ = _; rw [hE]; rfl) rfl).trans (show _ = some (.str (S lo) tlo) by walk_at "lk")
          have hhigh := (I.old "high" (by decide) (fun _ => by show (cenv _ _ _ C.env).kindOf _ = _; rw [hE]; rfl) rfl).trans (show _ = some (.str (S hi) thi) by walk_at "lk")
          obtain ⟨n, tn, hn', rfl⟩ := ht.get hy
          refine ev_onetest ?_
          repeat walk_at "go"
          have e : (ns.take (k + 1)).filter (fun n => !(decide (n < lo)) && !(decide (hi < n))) = (ns.take k).filter (fun n => !(decide (n < lo)) && !(decide (hi < n))) ++ (if (!(decide (n < lo)) && !(decide (hi < n))) = true then [n] else []) := by
            rw [List.take_add_one, hn', List.filter_append, Option.toList_some, List.filter_cons, List.filter_nil]
          refine ev_leS ?_
          repeat walk_at "go"
          have hnot : ∀ hf : (!(decide (n < lo)) && !(decide (hi < n))) = false, Texts ys ((ns.take (k + 1)).filter fun n => !(decide (n < lo)) && !(decide (hi < n))) := fun hf => by
            rw [e, if_neg (by rw [hf]; simp), List.append_nil]; exact hj'
          refine ⟨fun hb => ⟨fun h => (nomatch h), fun _ => hnot (by rw [hb]; rfl)⟩, fun hb => ?_⟩
          repeat walk_at "go"
          refine ev_leS ?_
          repeat walk_at "go"
          refine ⟨fun hb2 => ?_, fun hb2 => hnot (by rw [hb, hb2]; rfl)⟩
          repeat walk_at "go"
          show Texts (ys ++ [_]) ((ns.take (k + 1)).filter fun n => !(decide (n < lo)) && !(decide (hi < n)))
          rw [e, if_pos (by rw [hb, hb2]; rfl)]
          exact hj'.snoc _ _
        · rintro D3 Rc ys hys hyl
          have hfull : ns.take vs.length = ns := List.take_of_length_le (by rw [hvl]; exact Nat.le_refl _)
          rw [hfull] at hys
          repeat walk_at "go"
          have hne : (ns.filter fun n => !(decide (n < lo)) && !(decide (hi < n))) ≠ [] := fun q => by
            have : ns[i] ∈ (ns.filter fun n => !(decide (n < lo)) && !(decide (hi < n))) := by
              rw [List.mem_filter]
              exact ⟨hma, by simp [hlo.2 ns[i] (by simp), hhi.2 ns[i] (by simp)]⟩
            rw [q] at this; cases this
          refine ev_does (d_common C.w D3 ys _ hys hne (fun n hn => hlen n (List.mem_filter.mp hn).1) (Nat.le_trans (List.length_filter_le _ _) hl)) (by show 3 ≤ C.dp; lia) (by show 60 ≤ C.un; lia) (fun s X => (X.own _ List.mem_cons_self).le (.inr ⟨_, rfl, rfl⟩)) fun vc Rv ⟨pa, pb, tc, hpa, hpb, hvc⟩ => ?_
          subst hvc
          have hpq := low_high hlo hhi hma hmb hpa hpb
          rw [hpq]
          repeat walk_at "go"
          have hlcl := lcp_len ns[i] ns[j]
          have hlen1 := hlen ns[i] hma
          refine ev_does (d_tie C.w _ tc (by lia)) (by show 3 ≤ C.dp; lia) (by show 50 ≤ C.un; lia) (fun _ _ => trivial) fun vw Rw ⟨tw, hvw⟩ => ?_
          subst hvw
          repeat walk_at "go"
          have hW : tie (lcp ns[i] ns[j]) = tieW ns i j := by
            unfold tieW
            rw [nth_of (List.getElem?_eq_getElem hin), nth_of (List.getElem?_eq_getElem hjn)]
          rw [hW]
          have hM3 : MatIn ((C.hide N).hide N2) (Rw ++ (Rv ++ ((D3, Cell.plist ys) :: Rc ++ (tp, Cell.tup [.str (S lo) tlo, .str (S hi) thi]) :: R₂))) D as ns.length (innerJ (tieW ns) i (stepT t i (outerI (tieW ns) t i)) j) := by
            have := (hM2.weak (Rw ++ (Rv ++ ((D3, Cell.plist ys) :: Rc ++ [(tp, Cell.tup [.str (S lo) tlo, .str (S hi) thi])])))).of (C' := (C.hide N).hide N2)
            simpa using this
          generalize (Rw ++ (Rv ++ ((D3, Cell.plist ys) :: Rc ++ (tp, Cell.tup [.str (S lo) tlo, .str (S hi) thi]) :: R₂))) = RR at hM3 ⊢
          refine' ev_assigntup ?_ ?k1 ?k2
          case k1 => rfl
          case k2 => show swappedStores _ _ C.env = _; rw [hE]; rfl
          refine ev_tuple ?_
          repeat walk_at "go"
          refine ⟨by simp, fun tq htq => ?_⟩
          refine' ev_unpack .head ?_ ?k1 ?k2
          case k1 => rfl
          case k2 => rfl
          refine ev_ord_cons (ev_matset (hM3.weak [_]) hin hjn (by lia) (fun hp => by repeat walk_at "go"; exact hp) (fun hp => by repeat walk_at "go"; exact hp _) (fun hp => by repeat walk_at "go"; exact hp _) (fun _ _ => by with_unfolding_all rfl) fun R4 hM4 => ?_)
          refine ev_ord_cons (ev_matset hM4 hjn hin (by lia) (fun hp => by repeat walk_at "go"; exact hp) (fun hp => by repeat walk_at "go"; exact hp _) (fun hp => by repeat walk_at "go"; exact hp _) (fun _ _ => by with_unfolding_all rfl) fun R5 hM5 => ?_)
          refine ev_ord_nil ?_
          repeat walk_at "go"
          refine ev_matadd hM5 hin hin (by lia) (fun hp => by repeat walk_at "go"; exact hp) (fun hp => by repeat walk_at "go"; exact hp _) (fun hp => by repeat walk_at "go"; exact hp _) (fun _ _ _ => rfl) (fun _ _ => by with_unfolding_all rfl) (v := tieW ns i j) (fun hp => by repeat walk_at "go"; exact hp _) fun R6 hM6 _ => ?_
          repeat walk_at "go"
          refine ev_matadd hM6 hjn hjn (by lia) (fun hp => by repeat walk_at "go"; exact hp) (fun hp => by repeat walk_at "go"; exact hp _) (fun hp => by repeat walk_at "go"; exact hp _) (fun _ _ _ => rfl) (fun _ _ => by with_unfolding_all rfl) (v := tieW ns i j) (fun hp => by repeat walk_at "go"; exact hp _) fun R7 hM7 _ => ?_
          exact ⟨by walk_at "lk", by walk_at "lk", by walk_at "lk", ⟨_, by walk_at "lk"⟩, hM7.of⟩
      · rintro m₂ R₂ ⟨q1, q2, q3, q4, hM2⟩
        have hn : ((i : Int) - 0).toNat = i := by lia
        rw [hn] at hM2
        exact ⟨q1, q2, q3, hM2.of⟩
    · rintro m₁ R₁ ⟨q1, q2, q3, hM⟩
      repeat walk_at "go"
      have hn : ((vs.length : Int) - 0).toNat = ns.length := by lia
      rw [hn] at hM
      exact ⟨R₁, List.Sublist.refl _, D, as, rfl, hM.head, hM.len, hM.row⟩
end
section
open PySem PySem.W PySem.Calls PyProof.Rows PySem.Builtin
set_option maxRecDepth 100000
set_option maxHeartbeats 2000000
/-- the places of a number's ones -/
noncomputable def onesOf (n m : Nat) : List Nat := (List.range n).filter fun j => m / 2 ^ j % 2 == 1
noncomputable def termOf (M : Nat → Nat → Int) (n : Nat) (parts : List Int) (m k : Nat) : Int :=
  let one := M ((onesOf n m).length - 1) ((onesOf n m).getD k 0) * parts.getD (m - 2 ^ (onesOf n m).getD k 0) 0
  if ((onesOf n m).length - k) % 2 = 1 then one else -one
noncomputable def totalOf (M : Nat → Nat → Int) (n : Nat) (parts : List Int) (m : Nat) : Nat → Int
  | 0 => 0
  | k + 1 => totalOf M n parts m k + termOf M n parts m k
noncomputable def partsOf (M : Nat → Nat → Int) (n : Nat) : Nat → List Int
  | 0 => [1]
  | m + 1 => partsOf M n m ++ [totalOf M n (partsOf M n m) (m + 1) (onesOf n (m + 1)).length]
noncomputable def detOf (M : Nat → Nat → Int) (n : Nat) : Int := (partsOf M n (2 ^ n - 1)).getD (2 ^ n - 1) 0
theorem partsOf_len (M : Nat → Nat → Int) (n : Nat) : ∀ m, (partsOf M n m).length = m + 1
  | 0 => rfl
  | m + 1 => by unfold partsOf; rw [List.length_append, partsOf_len M n m]; rfl
theorem onesOf_len (n m : Nat) : (onesOf n m).length ≤ n := by
  unfold onesOf; exact Nat.le_trans (List.length_filter_le _ _) (by rw [List.length_range]; exact Nat.le_refl _)
theorem onesOf_mem {n m j : Nat} (h : j ∈ onesOf n m) : j < n ∧ 2 ^ j ≤ m := by
  unfold onesOf at h
  rw [List.mem_filter, List.mem_range] at h
  refine ⟨h.1, ?_⟩
  have h2 : m / 2 ^ j % 2 = 1 := by simpa using h.2
  rcases Nat.lt_or_ge m (2 ^ j) with g | g
  · rw [Nat.div_eq_of_lt g] at h2; cases h2
  · exact g
theorem npow (j : Nat) : (2 : Int) ^ j = ((2 ^ j : Nat) : Int) := by rw [Int.natCast_pow]; rfl
theorem pow_le_1024 {j : Nat} (h : j ≤ 10) : 2 ^ j ≤ 1024 := by
  have := Nat.pow_le_pow_right (show 0 < 2 by lia) h
  simpa using this
theorem Ints.getD {vs : List Value} {ns : List Int} (h : Ints vs ns) {i : Nat} (hi : i < ns.length) : ∃ t, vs[i]? = some (.int (ns.getD i 0) t) := by
  obtain ⟨t, ht⟩ := h.2 i ns[i] (List.getElem?_eq_getElem hi)
  exact ⟨t, by rw [List.getD_eq_getElem?_getD, List.getElem?_eq_getElem hi]; exact ht⟩
theorem d_det (w : World) (D : Addr) (as : List Addr) (n : Nat) (M : Nat → Nat → Int) (hn : n ≤ 9) (hn1 : 1 ≤ n) (hlen : as.length = n) (hb : ∀ i j, (M i j).natAbs < 2 ^ 63) :
    Does w 193 1 80 [.ref D] (fun h => Holds w h D (.list (as.map Value.ref)) ∧ ∀ k, k < n → ∃ a vs, as[k]? = some a ∧ Holds w h a (.list vs) ∧ Ints vs ((List.range n).map (M k))) (fun v _ => ∃ t, v = .int (detOf M n) t) := by
  refine does_of (d := 0) (u := 76) (binds := [("lines", .ref D)]) (by k_is) (by k_is) (fun s => BindsTo.of_eq rfl) ?_
  intro C L hw hdp hun hH hE W ⟨hpre, hrow⟩
  subst hw
  have h2n : 2 ^ n ≤ 512 := by
    have := Nat.pow_le_pow_right (show 0 < 2 by lia) hn
    simpa using this
  have h2n0 : 0 < 2 ^ n := Nat.pow_pos (by lia)
  repeat walk_at "go"
  refine ev_list ?_
  repeat walk_at "go"
  refine ⟨by simp, fun pa hpa => ?_⟩
  repeat walk_at "go"
  refine ev_for W (by walk_at "vr") ?_
  repeat walk_at "go"
  refine ev_lenL (.base hpre) (by simp; lia) fun _ => ?_
  refine ev_pow (by lia) (by simp; lia) (by decide) fun _ => ?_
  have hpw : (2 : Int) ^ (((as.map Value.ref).length : Nat) : Int).toNat = ((2 ^ n : Nat) : Int) := by rw [Int.toNat_natCast, List.length_map, hlen]; exact npow n
  rw [hpw]
  repeat walk_at "go"
  refine ev_range2 fun r v hr => ?_
  have hnn : (((2 ^ n : Nat) : Int) - 1).toNat = 2 ^ n - 1 := by lia
  refine ⟨2 ^ n - 1, _, hnn ▸ src_range .head (by lia) (by lia), fun i m R => m "lines" = some (.ref D) ∧ m "parts" = some (.ref pa) ∧ ∃ pv, (pa, Cell.plist pv) ∈ R ∧ Ints pv (partsOf M n i), ⟨by walk_at "lk", by walk_at "lk", _, by simp; rfl, Ints.nil.snoc _ _⟩, ?_, ?_⟩
  · rintro i v m₁ R₁ N hi ⟨ti, rfl⟩ ⟨q1, q2, pv, q3, q4⟩
    have W' := W.hide N
    rw [show (1 + (i : Int)) = ((i + 1 : Nat) : Int) by lia]
    refine ev_cons ?_
    refine' ev_assigncomp (cl := [("m", L + 1)]) W' ?k1 ?k2 ?k3 ?_
    case k1 => walk_at "vr"
    case k2 => exact .one (by show closureFor _ C.env = _; rw [hE]; rfl) rfl (by decide +kernel) (by show C.env.kindOf _ = _; rw [hE]; rfl) (by show C.env.cells.lookup _ = _; rw [hE]; rfl) (fun _ => rfl) (fun _ => by show (cenv _ _ _ C.env).kindOf _ = _; rw [hE]; rfl)
    case k3 => show swapsWith _ _ _ C.env = _; rw [hE]; rfl
    repeat walk_at "go"
    refine ev_lenL (.base hpre) (by simp; lia) fun tlen => ?_
    repeat walk_at "go"
    refine ev_range1 fun r2 t3 t4 hr2 => ?_
    have hn3 : ((((as.map Value.ref).length : Nat) : Int) - 0).toNat = n := by rw [List.length_map, hlen]; lia
    refine ⟨n, _, fun k ys _ => Nums ys ((List.range k).filter fun j => (i + 1) / 2 ^ j % 2 == 1), ⟨by lia, fun C0 hw0 hh => hn3 ▸ src_range (hh r2 _ .head _) (by lia) (by simp; lia), Nums.nil, ?_⟩, ?_⟩
    · rintro C1 m1 k y ys Rc I hlt ⟨tk, rfl⟩ hj hyl
      obtain ⟨L1, hE1⟩ := I.env
      rw [show (C.hide N).env = C.env from rfl, hE] at hE1
      have hit := I.it
      have hm := (I.old "m" (by decide) (fun _ => by show (cenv _ _ _ C.env).kindOf _ = _; rw [hE]; rfl) rfl).trans (show _ = some (.int ((i + 1 : Nat) : Int) ti) by walk_at "lk")
      refine ev_onetest ?_
      repeat walk_at "go"
      refine ev_pow (by lia) (by lia) (by decide) fun _ => ?_
      have hk10 : 2 ^ k ≤ 1024 := pow_le_1024 (by lia)
      have hk0 : 0 < 2 ^ k := Nat.pow_pos (by lia)
      rw [show (2 : Int) ^ ((0 + (k : Int))).toNat = ((2 ^ k : Nat) : Int) by rw [show (0 + (k : Int)).toNat = k by lia]; exact npow k]
      refine ev_fdiv (by lia) (by lia) fun _ => ?_
      rw [nfdiv]
      repeat walk_at "go"
      refine ev_fmod (by decide) fun _ => ?_
      rw [show (((i + 1) / 2 ^ k : Nat) : Int).fmod 2 = (((i + 1) / 2 ^ k % 2 : Nat) : Int) from nfmod _ 2]
      repeat walk_at "go"
      have hb1 : ((((i + 1) / 2 ^ k % 2 : Nat) : Int) == 1) = ((i + 1) / 2 ^ k % 2 == 1) := by
        apply Bool.eq_iff_iff.mpr
        rw [beq_iff_eq, beq_iff_eq]; lia
      rw [hb1]
      have e : (List.range (k + 1)).filter (fun j => (i + 1) / 2 ^ j % 2 == 1) = (List.range k).filter (fun j => (i + 1) / 2 ^ j % 2 == 1) ++ (if ((i + 1) / 2 ^ k % 2 == 1) = true then [k] else []) := by
        rw [List.range_succ, List.filter_append, List.filter_cons, List.filter_nil]
      refine ⟨fun hb => ?_, fun hb => ?_⟩
      · repeat walk_at "go"
        show Nums (ys ++ [_]) ((List.range (k + 1)).filter fun j => (i + 1) / 2 ^ j % 2 == 1)
        rw [e, if_pos hb, show (0 + (k : Int)) = ((k : Nat) : Int) by lia]
        exact hj.snoc _ _
      · show Nums ys ((List.range (k + 1)).filter fun j => (i + 1) / 2 ^ j % 2 == 1)
        rw [e, if_neg (by rw [hb]; simp), List.append_nil]
        exact hj
    · rintro Dc Rc ys hys hyl
      repeat walk_at "go"
      have hys' : Nums ys (onesOf n (i + 1)) := hys
      have hyl2 := hys'.len
      have hol := onesOf_len n (i + 1)
      have hmR : (pa, Cell.plist pv) ∈ ((Dc, Cell.plist ys) :: Rc ++ (r2, Cell.raw (rng 0 (((as.map Value.ref).length : Nat) : Int) t3 tlen t4)) :: R₁) := List.mem_append_right _ (List.mem_cons_of_mem _ q3)
      have hcR : (Dc, Cell.plist ys) ∈ ((Dc, Cell.plist ys) :: Rc ++ (r2, Cell.raw (rng 0 (((as.map Value.ref).length : Nat) : Int) t3 tlen t4)) :: R₁) := List.mem_cons_self
      generalize ((Dc, Cell.plist ys) :: Rc ++ (r2, Cell.raw (rng 0 (((as.map Value.ref).length : Nat) : Int) t3 tlen t4)) :: R₁) = RR at hmR hcR ⊢
      refine ev_for W' (by walk_at "vr") ?_
      repeat walk_at "go"
      refine ev_lenL (.memP hcR) (by lia) fun _ => ?_
      repeat walk_at "go"
      refine ev_range1 fun r3 t5 t6 hr3 => ?_
      refine ⟨_, _, src_range .head (by lia) (by lia), fun k m R => m "lines" = some (.ref D) ∧ m "parts" = some (.ref pa) ∧ m "chosen" = some (.ref Dc) ∧ (∃ tm, m "m" = some (.int ((i + 1 : Nat) : Int) tm)) ∧ (∃ t, m "total" = some (.int (totalOf M n (partsOf M n i) (i + 1) k) t)) ∧ (pa, Cell.plist pv) ∈ R ∧ (Dc, Cell.plist ys) ∈ R,
        ⟨by walk_at "lk", by walk_at "lk", by walk_at "lk", ⟨_, by walk_at "lk"⟩, ⟨_, by walk_at "lk"⟩, List.mem_cons_of_mem _ hmR, List.mem_cons_of_mem _ hcR⟩, ?_, ?_⟩
      · rintro k v m₂ R₂ N2 hk ⟨tk, rfl⟩ ⟨g1, g2, g3, ⟨tm, g4⟩, ⟨tt, g5⟩, g6, g7⟩
        have W2 := W'.hide N2
        rw [show (0 + (k : Int)) = ((k : Nat) : Int) by lia]
        have hkl : k < (onesOf n (i + 1)).length := by lia
        have hcm : (onesOf n (i + 1))[k] ∈ onesOf n (i + 1) := List.getElem_mem hkl
        obtain ⟨hcn, hc2⟩ := onesOf_mem hcm
        have hcd : (onesOf n (i + 1)).getD k 0 = (onesOf n (i + 1))[k] := by rw [List.getD_eq_getElem?_getD, List.getElem?_eq_getElem hkl]; rfl
        obtain ⟨tc, hcv⟩ := hys'.2 k (((onesOf n (i + 1))[k] : Nat) : Int) (by rw [List.getElem?_map, List.getElem?_eq_getElem hkl]; rfl)
        have htm : termOf M n (partsOf M n i) (i + 1) k = if ((onesOf n (i + 1)).length - k) % 2 = 1 then M ((onesOf n (i + 1)).length - 1) (onesOf n (i + 1))[k] * (partsOf M n i).getD (i + 1 - 2 ^ (onesOf n (i + 1))[k]) 0 else -(M ((onesOf n (i + 1)).length - 1) (onesOf n (i + 1))[k] * (partsOf M n i).getD (i + 1 - 2 ^ (onesOf n (i + 1))[k]) 0) := by
          unfold termOf; rw [hcd]
        have htot : totalOf M n (partsOf M n i) (i + 1) (k + 1) = totalOf M n (partsOf M n i) (i + 1) k + termOf M n (partsOf M n i) (i + 1) k := rfl
        rw [htm] at htot
        generalize (onesOf n (i + 1))[k] = c at *
        have hen : (onesOf n (i + 1)).length - 1 < n := by lia
        obtain ⟨ae, ve, e1, e2, e3⟩ := hrow _ hen
        obtain ⟨te, hte⟩ := e3.2 c (M ((onesOf n (i + 1)).length - 1) c) (by rw [List.getElem?_map, List.getElem?_range hcn]; rfl)
        have hc10 : 2 ^ c ≤ 1024 := pow_le_1024 (by lia)
        have hc0 : 0 < 2 ^ c := Nat.pow_pos (by lia)
        obtain ⟨tp, htp⟩ := q4.getD (i := i + 1 - 2 ^ c) (by rw [partsOf_len]; lia)
        repeat walk_at "go"
        refine ev_sub ?_
        refine ev_sub ?_
        repeat walk_at "go"
        refine ev_lenL (.memP g7) (by lia) fun _ => ?_
        repeat walk_at "go"
        refine ev_itemL (x := .ref ae) (.base hpre) (by lia) (by lia) (by rw [hyl2, show ((((onesOf n (i + 1)).length : Nat) : Int) - 1).toNat = (onesOf n (i + 1)).length - 1 by lia, List.getElem?_map, e1]; rfl) ?_
        refine ev_sub ?_
        repeat walk_at "go"
        refine ev_itemL (.memP g7) (by lia) (by lia) (by rw [Int.toNat_natCast]; exact hcv) ?_
        refine ev_itemL (.base e2) (by lia) (by lia) (by rw [Int.toNat_natCast]; exact hte) ?_
        refine ev_sub ?_
        repeat walk_at "go"
        refine ev_sub ?_
        repeat walk_at "go"
        refine ev_itemL (.memP g7) (by lia) (by lia) (by rw [Int.toNat_natCast]; exact hcv) ?_
        refine ev_pow (by lia) (by lia) (by decide) fun _ => ?_
        rw [show (2 : Int) ^ (((c : Nat) : Int)).toNat = ((2 ^ c : Nat) : Int) by rw [Int.toNat_natCast]; exact npow c]
        repeat walk_at "go"
        refine ev_itemL (.memP g6) (by lia) (by lia) (by rw [show (((i + 1 : Nat) : Int) - ((2 ^ c : Nat) : Int)).toNat = i + 1 - 2 ^ c by lia]; exact htp) ?_
        refine ev_mulI (.inl (hb _ _)) fun to => ?_
        repeat walk_at "go"
        refine ev_lenL (.memP g7) (by lia) fun _ => ?_
        repeat walk_at "go"
        refine ev_fmod (by decide) fun _ => ?_
        rw [show (((ys.length : Nat) : Int) - ((k : Nat) : Int)).fmod 2 = ((((onesOf n (i + 1)).length - k) % 2 : Nat) : Int) by rw [hyl2, show (((onesOf n (i + 1)).length : Nat) : Int) - ((k : Nat) : Int) = (((onesOf n (i + 1)).length - k : Nat) : Int) by lia]; exact nfmod _ 2]
        repeat walk_at "go"
        refine ⟨fun hb1 => ?_, fun hb1 => ?_⟩
        · have hb2 : ((onesOf n (i + 1)).length - k) % 2 = 1 := by rw [beq_iff_eq] at hb1; lia
          rw [if_pos hb2] at htot
          repeat walk_at "go"
          refine ⟨by walk_at "lk", by walk_at "lk", by walk_at "lk", ⟨_, by walk_at "lk"⟩, ⟨_, by rw [htot]; walk_at "lk"⟩, g6, g7⟩
        · have hb2 : ¬ ((onesOf n (i + 1)).length - k) % 2 = 1 := by
            intro q; rw [q] at hb1; exact absurd hb1 (by decide)
          rw [if_neg hb2] at htot
          repeat walk_at "go"
          refine ⟨by walk_at "lk", by walk_at "lk", by walk_at "lk", ⟨_, by walk_at "lk"⟩, ⟨_, by rw [htot]; walk_at "lk"⟩, g6, g7⟩
      · rintro m₂ R₂ ⟨g1, g2, g3, g4, ⟨tt, g5⟩, g6, g7⟩
        have hkk : (((ys.length : Nat) : Int) - 0).toNat = (onesOf n (i + 1)).length := by lia
        rw [hkk] at g5
        have hpl : pv.length = i + 1 := by rw [q4.1, partsOf_len]
        refine ev_last (ev_sexpr (hi := by show interactive C.env = false; rw [hE]; rfl) ?_)
        refine ev_methcall ?_
        repeat walk_at "go"
        refine ev_getappend (.mem g6) ?_
        repeat walk_at "go"
        refine ev_append g6 (by lia) ?_
        refine ⟨by walk_at "lk", by walk_at "lk", _, mem_put (List.mem_map.mpr ⟨_, g6, rfl⟩), ?_⟩
        show Ints (pv ++ [_]) (partsOf M n (i + 1))
        rw [show partsOf M n (i + 1) = partsOf M n i ++ [totalOf M n (partsOf M n i) (i + 1) (onesOf n (i + 1)).length] from rfl]
        exact q4.snoc _ _
  · rintro m₁ R₁ ⟨q1, q2, pv, q3, q4⟩
    have hpl : pv.length = 2 ^ n := by rw [q4.1, partsOf_len]; lia
    repeat walk_at "go"
    refine ev_sub ?_
    repeat walk_at "go"
    obtain ⟨tz, hz⟩ := q4.getD (i := 2 ^ n - 1) (by rw [partsOf_len]; lia)
    refine ev_itemLneg (.memP q3) (by lia) (by lia) (by lia) (by rw [hpl, show ((-1 : Int) + ((2 ^ n : Nat) : Int)).toNat = 2 ^ n - 1 by lia]; exact hz) ?_
    exact ⟨[], List.nil_sublist _, tz, rfl⟩
end
section
open PySem PySem.W PySem.Calls PyProof.Rows PySem.Builtin PySem.F
set_option maxRecDepth 100000
noncomputable abbrev Tb := List (List Nat × Int)
noncomputable def putT (T : Tb) (k : List Nat) (v : Int) : Tb := if T.any (fun q => q.1 == k) then T.map (fun q => if q.1 = k then (q.1, v) else q) else T ++ [(k, v)]
noncomputable def getT (T : Tb) (k : List Nat) : Int := (T.lookup k).getD 0
theorem any_lookup : ∀ (T : Tb) (k : List Nat), T.any (fun q => q.1 == k) = (T.lookup k).isSome
  | [], _ => rfl
  | (x, v) :: r, k => by
    rw [List.any_cons, List.lookup_cons, any_lookup r k]
    by_cases h : x = k
    · subst h; simp
    · rw [show (x == k) = false by simpa using h, show (k == x) = false by simpa using fun e => h e.symm]; simp
theorem lookup_map_put (k : List Nat) (v : Int) : ∀ (T : Tb) (x : List Nat), (T.map (fun q => if q.1 = k then (q.1, v) else q)).lookup x = if x = k then (T.lookup k).map (fun _ => v) else T.lookup x
  | [], x => by simp
  | (y, u) :: r, x => by
    rw [List.map_cons, List.lookup_cons, List.lookup_cons, lookup_map_put k v r x]
    by_cases hy : y = k
    · subst hy
      simp only [if_true, List.lookup_cons]
      by_cases hx : x = y
      · subst hx; simp
      · rw [show (x == y) = false by simpa using hx]; simp [hx]
    · rw [if_neg hy]
      by_cases hx : x = y
      · subst hx; simp [hy]
      · rw [show (x == y) = false by simpa using hx]
        by_cases hk : x = k
        · subst hk
          simp only [if_true]
          have hxy : (x == y) = false := by simpa using hx
          simp [List.lookup_cons, hxy]
        · have hxy : (x == y) = false := by simpa using hx
          simp [List.lookup_cons, hxy, if_neg hk]
theorem lookup_put (T : Tb) (k : List Nat) (v : Int) (x : List Nat) : (putT T k v).lookup x = if x = k then some v else T.lookup x := by
  unfold putT
  rw [any_lookup]
  by_cases h : (T.lookup k).isSome = true
  · rw [if_pos h, lookup_map_put]
    obtain ⟨u, hu⟩ := Option.isSome_iff_exists.mp h
    rw [hu]; rfl
  · rw [if_neg h, List.lookup_append]
    have hn : T.lookup k = none := by
      cases e : T.lookup k with
      | none => rfl
      | some v => rw [e] at h; exact absurd rfl h
    by_cases hx : x = k
    · subst hx; rw [hn, if_pos rfl]; simp
    · rw [if_neg hx, List.lookup_cons, show (x == k) = false by simpa using hx]; simp
theorem put_len (T : Tb) (k : List Nat) (v : Int) : (putT T k v).length ≤ T.length + 1 := by
  unfold putT
  split
  · rw [List.length_map]; lia
  · rw [List.length_append]; exact Nat.le_refl _
theorem put_len_some {T : Tb} {k : List Nat} {v : Int} (h : (T.lookup k).isSome = true) : (putT T k v).length = T.length := by
  unfold putT
  rw [any_lookup, if_pos h, List.length_map]
theorem Tab.lookup {kvs : List (Str × Value)} {T : Tb} (h : Tab kvs T) {k : List Nat} {v : Int} (hv : T.lookup k = some v) : ∃ t, valueAt kvs (S k) = some (.int v t) := by
  have := h.num k
  rw [hv] at this
  unfold Mine.num at this
  cases e : valueAt kvs (S k) with
  | none => rw [e] at this; cases this
  | some u =>
    obtain ⟨i, t, rfl⟩ := h.ints _ _ e
    rw [e] at this
    have : i = v := by simpa using this
    subst this
    exact ⟨t, rfl⟩
theorem Tab.isSome {kvs : List (Str × Value)} {T : Tb} (h : Tab kvs T) (k : List Nat) : (valueAt kvs (S k)).isSome = (T.lookup k).isSome := by
  have := h.num k
  unfold Mine.num at this
  cases e : valueAt kvs (S k) with
  | none => rw [e] at this; rw [← this]; rfl
  | some u =>
    obtain ⟨i, t, rfl⟩ := h.ints _ _ e
    rw [e] at this; rw [← this]; rfl
theorem Tab.len {kvs : List (Str × Value)} {T : Tb} (h : Tab kvs T) : kvs.length = T.length := by
  have := congrArg List.length h
  simpa using this
theorem tab_map : ∀ {kvs : List (Str × Value)} {T : Tb}, Tab kvs T → ∀ (k : List Nat) (v : Int) (t : Tok), Tab (kvs.map fun kv => if kv.1 = S k then (kv.1, .int v t) else kv) (T.map fun q => if q.1 = k then (q.1, v) else q)
  | [], [], _, k, v, t => rfl
  | [], _ :: _, h, k, v, t => nomatch h
  | _ :: _, [], h, k, v, t => nomatch h
  | (x, u) :: r, (y, i) :: T, h, k, v, t => by
    unfold Tab at h ⊢
    rw [List.map_cons, List.map_cons] at h
    injection h with h1 h2
    injection h1 with h3 h4
    dsimp only at h3 h4
    have ih := tab_map (kvs := r) (T := T) h2 k v t
    unfold Tab at ih
    rw [List.map_cons, List.map_cons, List.map_cons, List.map_cons, ih]
    congr 1
    subst h3
    by_cases hk : y = k
    · subst hk; simp
    · have : ¬ S y = S k := fun e => hk (S_inj.mp e)
      simp [hk, this, h4]
theorem Tab.any : ∀ {kvs : List (Str × Value)} {T : Tb}, Tab kvs T → ∀ k : List Nat, kvs.any (fun kv => kv.1 = S k) = T.any (fun q => q.1 == k)
  | [], [], _, k => rfl
  | [], _ :: _, h, k => nomatch h
  | _ :: _, [], h, k => nomatch h
  | (x, u) :: r, (y, i) :: T, h, k => by
    unfold Tab at h
    rw [List.map_cons, List.map_cons] at h
    injection h with h1 h2
    injection h1 with h3 h4
    dsimp only at h3
    subst h3
    rw [List.any_cons, List.any_cons, Tab.any (kvs := r) (T := T) h2 k]
    congr 1
    by_cases hk : y = k
    · subst hk; simp
    · have : ¬ S y = S k := fun e => hk (S_inj.mp e)
      simp [hk, this]
theorem Tab.put {kvs : List (Str × Value)} {T : Tb} (h : Tab kvs T) (k : List Nat) (v : Int) (t : Tok) : Tab (stored kvs (S k) (.int v t)) (putT T k v) := by
  unfold stored putT
  rw [h.any k]
  split
  · exact tab_map h k v t
  · unfold Tab at h ⊢
    rw [List.map_append, List.map_append, h]; rfl
/-- one more beginning of a name -/
noncomputable def stepK (name : List Nat) (k : Nat) (BW : Tb × Tb) : Tb × Tb :=
  let BW1 := if (BW.1.lookup (name.take k)).isSome = true then BW else (putT BW.1 (name.take k) 0, if 0 < k then putT (putT BW.2 (name.take k) 0) (name.take (k - 1)) (getT (putT BW.2 (name.take k) 0) (name.take (k - 1)) + 1) else putT BW.2 (name.take k) 0)
  (putT BW1.1 (name.take k) (getT BW1.1 (name.take k) + 1), BW1.2)
noncomputable def foldK (name : List Nat) : Nat → Tb × Tb → Tb × Tb
  | 0, BW => BW
  | k + 1, BW => stepK name k (foldK name k BW)
noncomputable def stepName (BW : Tb × Tb) (name : List Nat) : Tb × Tb := ((foldK name (name.length + 1) BW).1, putT (foldK name (name.length + 1) BW).2 name (getT (foldK name (name.length + 1) BW).2 name + 1))
/-- what holds of the two tables -/
structure Inv (BW : Tb × Tb) (N M L : Nat) : Prop where
  same : ∀ x, (BW.1.lookup x).isSome = (BW.2.lookup x).isSome
  pre : ∀ x, (BW.1.lookup x).isSome = true → ∀ k, (BW.1.lookup (x.take k)).isSome = true
  lenB : BW.1.length ≤ L
  lenW : BW.2.length ≤ L
  valB : ∀ x v, BW.1.lookup x = some v → 0 ≤ v ∧ v ≤ N
  valW : ∀ x v, BW.2.lookup x = some v → 0 ≤ v ∧ v ≤ M
  short : ∀ x, (BW.1.lookup x).isSome = true → x.length ≤ 15
theorem getT_le {T : Tb} {N : Nat} (h : ∀ x v, T.lookup x = some v → 0 ≤ v ∧ v ≤ (N : Int)) (k : List Nat) : 0 ≤ getT T k ∧ getT T k ≤ N := by
  unfold getT
  cases e : T.lookup k with
  | none => simp
  | some v => exact h k v e
section
variable {BW : Tb × Tb} {N M L : Nat}
theorem Inv.up (h : Inv BW N M L) {N' M' L' : Nat} (h1 : N ≤ N') (h2 : M ≤ M') (h3 : L ≤ L') : Inv BW N' M' L' :=
  ⟨h.same, h.pre, Nat.le_trans h.lenB h3, Nat.le_trans h.lenW h3, fun x v e => by have := h.valB x v e; lia, fun x v e => by have := h.valW x v e; lia, h.short⟩
theorem Inv.bump (h : Inv BW N M L) {k : List Nat} (hk : (BW.1.lookup k).isSome = true) : Inv (putT BW.1 k (getT BW.1 k + 1), BW.2) (N + 1) M L := by
  have hg := getT_le h.valB k
  refine ⟨fun x => ?_, fun x hx j => ?_, by rw [put_len_some hk]; exact h.lenB, h.lenW, fun x v e => ?_, h.valW, fun x hx => ?_⟩
  · rw [lookup_put]
    by_cases e : x = k
    · rw [if_pos e, e, ← h.same, hk]; rfl
    · rw [if_neg e]; exact h.same x
  · rw [lookup_put] at hx ⊢
    by_cases e : x.take j = k
    · rw [if_pos e]; rfl
    · rw [if_neg e]
      by_cases e2 : x = k
      · exact h.pre x (e2 ▸ hk) j
      · rw [if_neg e2] at hx; exact h.pre x hx j
  · rw [lookup_put] at e
    by_cases e2 : x = k
    · rw [if_pos e2] at e; cases e; lia
    · rw [if_neg e2] at e; have := h.valB x v e; lia
  · rw [lookup_put] at hx
    by_cases e2 : x = k
    · exact h.short x (e2 ▸ hk)
    · rw [if_neg e2] at hx; exact h.short x hx
theorem Inv.bumpW (h : Inv BW N M L) {k : List Nat} (hk : (BW.1.lookup k).isSome = true) : Inv (BW.1, putT BW.2 k (getT BW.2 k + 1)) N (M + 1) L := by
  have hg := getT_le h.valW k
  have hk2 : (BW.2.lookup k).isSome = true := (h.same k).symm.trans hk
  refine ⟨fun x => ?_, h.pre, h.lenB, by rw [put_len_some hk2]; exact h.lenW, h.valB, fun x v e => ?_, h.short⟩
  · rw [lookup_put]
    by_cases e : x = k
    · rw [if_pos e, e, hk]; rfl
    · rw [if_neg e]; exact h.same x
  · rw [lookup_put] at e
    by_cases e2 : x = k
    · rw [if_pos e2] at e; cases e; lia
    · rw [if_neg e2] at e; have := h.valW x v e; lia
theorem Inv.fresh (h : Inv BW N M L) {k : List Nat} (hl : k.length ≤ 15) (hp : ∀ j, j < k.length → (BW.1.lookup (k.take j)).isSome = true) : Inv (putT BW.1 k 0, putT BW.2 k 0) N M (L + 1) := by
  have hB := put_len BW.1 k 0
  have hW := put_len BW.2 k 0
  have h1 := h.lenB
  have h2 := h.lenW
  refine ⟨fun x => ?_, fun x hx j => ?_, by show (putT BW.1 k 0).length ≤ L + 1; lia, by show (putT BW.2 k 0).length ≤ L + 1; lia, fun x v e => ?_, fun x v e => ?_, fun x hx => ?_⟩
  · rw [lookup_put, lookup_put]
    by_cases e : x = k
    · rw [if_pos e, if_pos e]
    · rw [if_neg e, if_neg e]; exact h.same x
  · rw [lookup_put] at hx ⊢
    by_cases e : x.take j = k
    · rw [if_pos e]; rfl
    · rw [if_neg e]
      by_cases e2 : x = k
      · subst e2
        refine hp j ?_
        rcases Nat.lt_or_ge j x.length with g | g
        · exact g
        · exact absurd (List.take_of_length_le g) e
      · rw [if_neg e2] at hx; exact h.pre x hx j
  · rw [lookup_put] at e
    by_cases e2 : x = k
    · rw [if_pos e2] at e; cases e; lia
    · rw [if_neg e2] at e; exact h.valB x v e
  · rw [lookup_put] at e
    by_cases e2 : x = k
    · rw [if_pos e2] at e; cases e; lia
    · rw [if_neg e2] at e; exact h.valW x v e
  · rw [lookup_put] at hx
    by_cases e2 : x = k
    · rw [e2]; exact hl
    · rw [if_neg e2] at hx; exact h.short x hx
/-- a key stays -/
theorem key_put {T : Tb} {k x : List Nat} {v : Int} (h : (T.lookup x).isSome = true) : ((putT T k v).lookup x).isSome = true := by
  rw [lookup_put]; split
  · rfl
  · exact h
theorem key_put_self {T : Tb} {k : List Nat} {v : Int} : ((putT T k v).lookup k).isSome = true := by rw [lookup_put, if_pos rfl]; rfl
theorem Inv.stepK (h : Inv BW N M L) {name : List Nat} {k : Nat} (hl : name.length ≤ 15) (hk : k ≤ name.length) (hq : ∀ j, j < k → (BW.1.lookup (name.take j)).isSome = true) :
    Inv (stepK name k BW) (N + 1) (M + 1) (L + 1) ∧ ∀ j, j < k + 1 → ((Mine.stepK name k BW).1.lookup (name.take j)).isSome = true := by
  have hkl : (name.take k).length = k := by rw [List.length_take]; lia
  unfold Mine.stepK
  by_cases hs : (BW.1.lookup (name.take k)).isSome = true
  · simp only [if_pos hs]
    refine ⟨(h.bump hs).up (Nat.le_refl _) (Nat.le_succ _) (Nat.le_succ _), fun j hj => key_put ?_⟩
    by_cases e : j = k
    · rw [e]; exact hs
    · exact hq j (by lia)
  · simp only [if_neg hs]
    have h1 := h.fresh (k := name.take k) (by rw [hkl]; lia) (fun j hj => by
      rw [hkl] at hj
      rw [List.take_take, Nat.min_eq_left (Nat.le_of_lt hj)]
      exact hq j hj)
    by_cases hk0 : 0 < k
    · simp only [if_pos hk0]
      have h2 := h1.bumpW (k := name.take (k - 1)) (key_put (hq (k - 1) (by lia)))
      have h3 := h2.bump (k := name.take k) key_put_self
      refine ⟨h3, fun j hj => key_put ?_⟩
      by_cases e : j = k
      · rw [e]; exact key_put_self
      · exact key_put (hq j (by lia))
    · simp only [if_neg hk0]
      have h3 := h1.bump (k := name.take k) key_put_self
      refine ⟨h3.up (Nat.le_refl _) (Nat.le_succ _) (Nat.le_refl _), fun j hj => key_put ?_⟩
      have e : j = k := by lia
      rw [e]; exact key_put_self
theorem Inv.foldK (h : Inv BW N M L) {name : List Nat} (hl : name.length ≤ 15) : ∀ k, k ≤ name.length + 1 → Inv (foldK name k BW) (N + k) (M + k) (L + k) ∧ ∀ j, j < k → ((Mine.foldK name k BW).1.lookup (name.take j)).isSome = true
  | 0, _ => ⟨h, fun j hj => absurd hj (Nat.not_lt_zero _)⟩
  | k + 1, hk => by
    obtain ⟨h1, h2⟩ := Inv.foldK h hl k (by lia)
    exact h1.stepK hl (by lia) h2
theorem Inv.stepName (h : Inv BW N M L) {name : List Nat} (hl : name.length ≤ 15) : Inv (stepName BW name) (N + 17) (M + 17) (L + 17) := by
  obtain ⟨h1, h2⟩ := h.foldK hl (name.length + 1) (Nat.le_refl _)
  have hk : ((Mine.foldK name (name.length + 1) BW).1.lookup name).isSome = true := by
    have := h2 name.length (by lia)
    rwa [List.take_of_length_le (Nat.le_refl _)] at this
  exact (h1.bumpW hk).up (by lia) (by lia) (by lia)
end
theorem inv_nil : Inv ([], []) 0 0 0 := ⟨fun _ => rfl, fun x h => by simp at h, Nat.le_refl _, Nat.le_refl _, fun x v e => by simp at e, fun x v e => by simp at e, fun x h => by simp at h⟩
theorem inv_names : ∀ (ns : List (List Nat)) (BW : Tb × Tb) (N : Nat), Inv BW N N N → (∀ n ∈ ns, n.length ≤ 15) → Inv (ns.foldl stepName BW) (N + 17 * ns.length) (N + 17 * ns.length) (N + 17 * ns.length)
  | [], BW, N, h, _ => h
  | n :: r, BW, N, h, hl => by
    have := inv_names r _ (N + 17) (h.stepName (hl n List.mem_cons_self)) (fun m hm => hl m (List.mem_cons_of_mem _ hm))
    rw [List.foldl_cons, List.length_cons]
    exact this.up (by lia) (by lia) (by lia)
/-- a fork's sum and the product of all -/
noncomputable def forkTotal (kvs : List (Str × Value)) (B : Tb) (t : Int) (fork : List Nat) : Nat → Int
  | 0 => t + getT B fork * due kvs fork
  | k + 1 => forkTotal kvs B t fork k + due kvs (fork.take k) * (getT B (fork.take k) - getT B (fork.take (k + 1)))
noncomputable def forkStep (kvs : List (Str × Value)) (B W : Tb) (t : Int) (p : Int) (fork : List Nat) : Int := if 1 < getT W fork then p * forkTotal kvs B t fork fork.length ^ (getT W fork - 1).toNat else p
noncomputable def forksOf (kvs : List (Str × Value)) (BW : Tb × Tb) (t : Int) : Int := (BW.1.map (·.1)).foldl (forkStep kvs BW.1 BW.2 t) t
end
section
open PySem PySem.W PySem.Calls PyProof.Rows PySem.Builtin PySem.F
set_option maxRecDepth 100000
section
variable {C : Cx} {m : Map} {R : Led}
theorem ev_dict0 {pos : Pos} {P : Value → Map → Led → Prop} (h : ∀ a, New C R a → P (.ref a) m ((a, .dict []) :: R)) : Ev C m R (eval (.Dict [] [] pos) C.env) P := fun s X => by
  refine wpAny_Dict_empty ?_
  obtain ⟨o, ho, hd⟩ := Heap.dictOf_iff.mp (Heap.DictOf.new (knd := strKind Prg C.w) s.heap)
  rw [Heap.get?_push_size _ rfl] at ho
  have hd' := (Option.some.inj ho) ▸ hd
  have Y := X.push (c := .dict []) (tk := s.toks) (o := { cls := .type "dict", data := .dict #[] }) ⟨hd', X.noSys _ (Nat.le_refl _)⟩ rfl
  exact ⟨m, _, Y, h _ X.isNew⟩
theorem mem_put_ne {R : Led} {a b : Addr} {c d : Cell} (h : (a, c) ∈ R) (hn : a ≠ b) : (a, c) ∈ put R b d := List.mem_map.mpr ⟨_, h, if_neg hn⟩
/-- a place that is only read from here on -/
theorem ev_freeze {α : Type} {a : Addr} {c : Cell} {t : Sem α} {P : α → Map → Led → Prop} (hm : (a, c) ∈ R) (h : ∀ o, Is C.w a o c → Ev (C.hide [(a, o)]) m (R.filter fun p => p.1 ≠ a) t P) : Ev C m R t P := fun s X => by
  obtain ⟨o, ho, hi⟩ := X.own _ hm
  have hsub : (R.filter fun p => p.1 ≠ a).Sublist R := List.filter_sublist
  have Y := X.sub hsub
  have hn := X.nod
  rw [List.nodup_append] at hn
  have hn2 := List.nodup_append.mp hn.2.1
  have haR : a ∈ R.map (·.1) := List.mem_map.mpr ⟨_, hm, rfl⟩
  have hafl : a ∉ (R.filter fun p => p.1 ≠ a).map (·.1) := fun q => by
    obtain ⟨p, hp, e⟩ := List.mem_map.mp q
    have := (List.mem_filter.mp hp).2
    simp [e] at this
  have Z : At (C.hide [(a, o)]) m (R.filter fun p => p.1 ≠ a) s := { same := Y.same, gl := Y.gl, hh := Y.hh, rd := Y.rd, ru := Y.ru, keep := Y.keep, vars := Y.vars, own := Y.own
                                                                     hid := fun p hp => by
                                                                       rcases List.mem_cons.mp hp with rfl | hp
                                                                       · exact ho
                                                                       · exact Y.hid p hp
                                                                     live := Y.live
                                                                     nod := by
                                                                       have hy := Y.nod
                                                                       rw [List.nodup_append] at hy ⊢
                                                                       have hy2 := List.nodup_append.mp hy.2.1
                                                                       refine ⟨hy.1, List.nodup_append.mpr ⟨hy2.1, ?_, ?_⟩, ?_⟩
                                                                       · refine List.nodup_cons.mpr ⟨fun q => hn2.2.2 a haR a q rfl, hy2.2.1⟩
                                                                       · intro x hx y hy' e
                                                                         rcases List.mem_cons.mp hy' with q | q
                                                                         · exact hafl (by have : x = a := e.trans q; exact this ▸ hx)
                                                                         · exact hy2.2.2 x hx y q e
                                                                       · intro x hx y hy' e
                                                                         rcases List.mem_append.mp hy' with q | q
                                                                         · exact hy.2.2 x hx y (List.mem_append_left _ q) e
                                                                         · rcases List.mem_cons.mp q with q | q
                                                                           · exact hn.2.2 x hx a (List.mem_append_left _ haR) (e.trans q)
                                                                           · exact hy.2.2 x hx y (List.mem_append_right _ q) e
                                                                     new := fun x hx => by
                                                                       rcases List.mem_append.mp hx with q | q
                                                                       · exact Y.new x (List.mem_append_left _ q)
                                                                       · rcases List.mem_append.mp q with q | q
                                                                         · exact Y.new x (List.mem_append_right _ (List.mem_append_left _ q))
                                                                         · rcases List.mem_cons.mp q with q | q
                                                                           · have := X.new a (List.mem_append_right _ (List.mem_append_left _ haR))
                                                                             rw [q]; exact this
                                                                           · exact Y.new x (List.mem_append_right _ (List.mem_append_right _ q))
                                                                     frm := Y.frm, fn := Y.fn }
  exact wpAny_mono (h o hi s Z) (fun r s' zx => exE zx fun m' R' U hp => ⟨m', R', U.unhide, hp⟩) fun _ _ f => f
theorem Has.frozen {a : Addr} {o : Obj} {c : Cell} {R : Led} (hi : Is C.w a o c) : Has (C.hide [(a, o)]) R a c := ⟨c, .rfl, .inr (.inr ⟨o, List.mem_cons_self, hi⟩)⟩
theorem bits_le {c : Int} {n : Nat} (hc : c.natAbs < 2 ^ n) (hn : n ≤ 1048576) : Builtin.Int.intBits c ≤ 2 ^ 20 := by
  unfold Builtin.Int.intBits
  split
  · lia
  · rename_i hz
    have hz' : c.natAbs ≠ 0 := by simpa using hz
    have := (Nat.log2_lt hz').mpr hc
    lia
theorem ev_imulB {a b : Int} {t u : Tok} {n k : Nat} {P : Value → Map → Led → Prop} (ha : a.natAbs < 2 ^ n) (hb : b.natAbs < 2 ^ k) (hn : n ≤ 1048576) (hk : k ≤ 1048576) (h : ∀ t, P (.int (a * b) t) m R) : Ev C m R (inplaceOp .Mult (.int a t) (.int b u)) P := fun _ X =>
  imul_int ⟨m, R, X.toks, h _⟩ (IntMulOk.of_bits (bits_le ha hn) (bits_le hb hk))
end
end
section
open PySem PySem.W PySem.Calls PyProof.Rows PySem.Builtin
set_option maxRecDepth 100000
set_option maxHeartbeats 2000000
theorem Tab.get : ∀ {kvs : List (Str × Value)} {T : Tb}, Tab kvs T → ∀ {i : Nat} {k : Str} {x : Value}, kvs[i]? = some (k, x) → ∃ q, T[i]? = some q ∧ k = S q.1
  | kvs, T, h, i, k, x, hi => by
    have := congrArg (fun l => l[i]?) h
    simp only [List.getElem?_map, hi, Option.map_some] at this
    cases e : T[i]? with
    | none => rw [e] at this; cases this
    | some q =>
      rw [e] at this
      have h2 := Option.some.inj this
      injection h2 with h3 h4
      exact ⟨q, rfl, h3⟩
theorem key_of_mem : ∀ {T : Tb} {q : List Nat × Int}, q ∈ T → (T.lookup q.1).isSome = true
  | (y, u) :: r, q, h => by
    rw [List.lookup_cons]
    by_cases e : q.1 = y
    · rw [show (q.1 == y) = true by simpa using e]; rfl
    · rw [show (q.1 == y) = false by simpa using e]
      rcases List.mem_cons.mp h with rfl | h
      · exact absurd rfl e
      · exact key_of_mem h
theorem forkTotal_le {kvs : List (Str × Value)} {B : Tb} {t : Int} {fork : List Nat} (hB : ∀ x v, B.lookup x = some v → 0 ≤ v ∧ v ≤ ((85 : Nat) : Int)) (hd : ∀ x, (due kvs x).natAbs ≤ 1000) (ht : t.natAbs ≤ 100) : ∀ k, (forkTotal kvs B t fork k).natAbs ≤ 100 + 85000 * (k + 1)
  | 0 => by
    unfold forkTotal
    have h1 := getT_le hB fork
    have h2 := hd fork
    have h3 : (getT B fork * due kvs fork).natAbs ≤ 85 * 1000 := by
      rw [Int.natAbs_mul]; exact Nat.mul_le_mul (by lia) h2
    lia
  | k + 1 => by
    unfold forkTotal
    have ih := forkTotal_le (fork := fork) hB hd ht k
    have h1 := getT_le hB (fork.take k)
    have h2 := getT_le hB (fork.take (k + 1))
    have h3 : (due kvs (fork.take k) * (getT B (fork.take k) - getT B (fork.take (k + 1)))).natAbs ≤ 1000 * 85 := by
      rw [Int.natAbs_mul]; exact Nat.mul_le_mul (hd _) (by lia)
    lia
theorem prod_lt {p tot : Int} {a e : Nat} (hp : p.natAbs < 2 ^ a) (ht : tot.natAbs ≤ 2 ^ 64) (he : e ≤ 85) : (p * tot ^ e).natAbs < 2 ^ (a + 5440) ∧ (tot ^ e).natAbs < 2 ^ 5441 := by
  have h1 : (tot ^ e).natAbs ≤ 2 ^ 5440 := by
    rw [Int.natAbs_pow]
    refine Nat.le_trans (Nat.pow_le_pow_left ht e) ?_
    rw [← Nat.pow_mul]
    exact Nat.pow_le_pow_right (by lia) (by lia)
  refine ⟨?_, Nat.lt_of_le_of_lt h1 (Nat.pow_lt_pow_right (by lia) (by lia))⟩
  rw [Int.natAbs_mul, Nat.pow_add]
  exact Nat.lt_of_le_of_lt (Nat.mul_le_mul_left _ h1) (Nat.mul_lt_mul_of_pos_right hp (Nat.pow_pos (by lia)))
theorem d_forks (w : World) (l nm : Addr) (vs : List Value) (ns : List (List Nat)) (kvs : List (Str × Value)) (T : Tb) (t : Int) (tt : Tok) (ht : Texts vs ns) (hlen : ∀ n ∈ ns, n.length ≤ 15) (hl : ns.length ≤ 5) (hT : Tab kvs T)
    (hdue : ∀ x, (due kvs x).natAbs ≤ 1000) (ht0 : t.natAbs ≤ 100) :
    Does w 207 3 80 [.ref l, .ref nm, .int t tt] (fun h => Holds w h l (.list vs) ∧ Holds w h nm (.dict kvs)) (fun v _ => ∃ t', v = .int (forksOf kvs (ns.foldl stepName ([], [])) t) t') := by
  refine does_of (d := 2) (u := 76) (binds := [("names", .ref l), ("numbers", .ref nm), ("t", .int t tt)]) (by k_is) (by k_is) (fun s => BindsTo.of_eq rfl) ?_
  intro C L hw hdp hun hH hE W ⟨hpre, hnum⟩
  subst hw
  have hvl := ht.1
  refine ev_cons ?_
  refine' ev_assigntup_swapped (names := ["below", "ways"]) ?_ ?k1 ?k2
  case k1 => rfl
  case k2 => rw [hE]; rfl
  refine ev_tuple ?_
  refine ev_items ?_ rfl
  refine ev_dict0 fun db hdb => ?_
  refine ev_items ?_ rfl
  refine ev_dict0 fun dw hdw => ?_
  repeat walk_at "go"
  refine ⟨by simp, fun tp htp => ?_⟩
  refine ⟨tp, _, rfl, .head, rfl, ?_⟩
  refine ev_ord_cons (ev_bindname W (by walk_at "vr") ?_)
  refine ev_ord_cons (ev_bindname W (by walk_at "vr") ?_)
  refine ev_ord_nil ?_
  have hbw : dw ≠ db := fun e => hdw.1 _ List.mem_cons_self e.symm
  repeat walk_at "go"
  refine ev_for W (by walk_at "vr") ?_
  repeat walk_at "go"
  refine ⟨_, _, src_listB hpre, fun i m R => m "names" = some (.ref l) ∧ m "numbers" = some (.ref nm) ∧ m "t" = some (.int t tt) ∧ m "below" = some (.ref db) ∧ m "ways" = some (.ref dw) ∧ ∃ kb kw, (db, Cell.dict kb) ∈ R ∧ (dw, Cell.dict kw) ∈ R ∧ Tab kb ((ns.take i).foldl stepName ([], [])).1 ∧ Tab kw ((ns.take i).foldl stepName ([], [])).2,
    ⟨by walk_at "lk", by walk_at "lk", by walk_at "lk", by walk_at "lk", by walk_at "lk", [], [], by simp, by simp, rfl, rfl⟩, ?_, ?_⟩
  · rintro i v m₁ R₁ N hi hv ⟨q1, q2, q3, q4, q5, kb, kw, q6, q7, q8, q9⟩
    have W' := W.hide N
    obtain ⟨name, tn, hn', rfl⟩ := ht.get hv
    have hin : i < ns.length := by lia
    have hnl := hlen name (List.mem_of_getElem? hn')
    have hinv := inv_names (ns.take i) ([], []) 0 inv_nil (fun n hn => hlen n (List.mem_of_mem_take hn))
    have hfold : (ns.take (i + 1)).foldl stepName ([], []) = stepName ((ns.take i).foldl stepName ([], [])) name := by
      rw [List.take_add_one, hn', Option.toList_some, List.foldl_append]; rfl
    have hilen : (ns.take i).length = i := by rw [List.length_take]; lia
    rw [hilen] at hinv
    obtain ⟨BW0, hBW0⟩ : ∃ b, b = (ns.take i).foldl stepName ([], []) := ⟨_, rfl⟩
    rw [← hBW0] at hinv q8 q9 hfold
    refine ev_cons ?_
    refine ev_for W' (by walk_at "vr") ?_
    repeat walk_at "go"
    refine ev_lenS (by lia) fun _ => ?_
    repeat walk_at "go"
    refine ev_range1 fun r t1 t2 hr => ?_
    have hn3 : (((name.length : Int) + 1) - 0).toNat = name.length + 1 := by lia
    refine ⟨name.length + 1, _, hn3 ▸ src_range .head (by lia) (by lia), fun k m R => m "names" = some (.ref l) ∧ m "numbers" = some (.ref nm) ∧ m "t" = some (.int t tt) ∧ m "below" = some (.ref db) ∧ m "ways" = some (.ref dw) ∧ m "name" = some (.str (S name) tn) ∧ ∃ kb kw, (db, Cell.dict kb) ∈ R ∧ (dw, Cell.dict kw) ∈ R ∧ Tab kb (foldK name k BW0).1 ∧ Tab kw (foldK name k BW0).2,
      ⟨by walk_at "lk", by walk_at "lk", by walk_at "lk", by walk_at "lk", by walk_at "lk", by walk_at "lk", kb, kw, List.mem_cons_of_mem _ q6, List.mem_cons_of_mem _ q7, q8, q9⟩, ?_, ?_⟩
    · rintro k v m₂ R₂ N2 hk ⟨tk, rfl⟩ ⟨g1, g2, g3, g4, g5, g6, kb, kw, g7, g8, g9, g10⟩
      have W2 := W'.hide N2
      rw [show (0 + (k : Int)) = ((k : Nat) : Int) by lia]
      obtain ⟨hI, hQ⟩ := hinv.foldK hnl k (by lia)
      have hkn : k ≤ name.length := by lia
      have hktl : (name.take k).length ≤ 15 := by rw [List.length_take]; lia
      obtain ⟨BK, hBK⟩ : ∃ b, b = foldK name k BW0 := ⟨_, rfl⟩
      have hstep : foldK name (k + 1) BW0 = stepK name k BK := by rw [hBK]; rfl
      rw [← hBK] at hI hQ g9 g10
      have hIs := hI.stepK hnl hkn hQ
      have hkb := g9.len
      have hkw := g10.len
      have hLB := hI.lenB
      have hLW := hI.lenW
      refine ev_cons ?_
      refine ev_assign W2 (by walk_at "vr") (Ev.mono (P := fun v m3 R3 => (∃ th, v = .str (S (name.take k)) th) ∧ m3 = sv m₂ "k" (.int k tk) ∧ R3 = R₂) ?_ ?_) rfl
      · refine ev_partTo ?_
        repeat walk_at "go"
        refine ⟨_, _, rfl, by lia, ?_⟩
        repeat walk_at "go"
        refine ⟨_, _, rfl, fun t5 => ?_⟩
        rw [S_take]
        exact ⟨⟨t5, rfl⟩, rfl, rfl⟩
      rintro _ _ _ ⟨⟨th, rfl⟩, rfl, rfl⟩
      refine Seq.next ?_
      refine ev_cons (Ev.mono (P := fun fl m3 R3 => fl = .next ∧ m3 = sv (sv m₂ "k" (.int k tk)) "head" (.str (S (name.take k)) th) ∧ ∃ kb' kw', (db, Cell.dict kb') ∈ R3 ∧ (dw, Cell.dict kw') ∈ R3 ∧ kb'.length ≤ 300 ∧
        Tab kb' (if (BK.1.lookup (name.take k)).isSome = true then BK else (putT BK.1 (name.take k) 0, if 0 < k then putT (putT BK.2 (name.take k) 0) (name.take (k - 1)) (getT (putT BK.2 (name.take k) 0) (name.take (k - 1)) + 1) else putT BK.2 (name.take k) 0)).1 ∧
        Tab kw' (if (BK.1.lookup (name.take k)).isSome = true then BK else (putT BK.1 (name.take k) 0, if 0 < k then putT (putT BK.2 (name.take k) 0) (name.take (k - 1)) (getT (putT BK.2 (name.take k) 0) (name.take (k - 1)) + 1) else putT BK.2 (name.take k) 0)).2) ?_ ?_)
      · refine ev_if ?_
        repeat walk_at "go"
        refine ev_notinD (.mem g7) ?_
        repeat walk_at "go"
        rw [g9.isSome]
        refine ⟨fun hb => ?_, fun hb => ?_⟩
        · have hno : ¬ (BK.1.lookup (name.take k)).isSome = true := by
            intro q; rw [q] at hb; exact absurd hb (by decide)
          simp only [if_neg hno]
          refine ev_cons ?_
          refine' ev_assigntup ?_ ?k1 ?k2
          case k1 => rfl
          case k2 => show swappedStores _ _ C.env = _; rw [hE]; rfl
          refine ev_tuple ?_
          repeat walk_at "go"
          refine ⟨by simp, fun tq htq => ?_⟩
          refine' ev_unpack .head ?_ ?k1 ?k2
          case k1 => rfl
          case k2 => rfl
          refine ev_ord_cons (ev_asgsub ?_)
          repeat walk_at "go"
          refine ev_setD (List.mem_cons_of_mem _ g7) (by lia) ?_
          refine ev_ord_cons (ev_asgsub ?_)
          repeat walk_at "go"
          refine ev_setD (mem_put_ne (List.mem_cons_of_mem _ g8) hbw) (by lia) ?_
          refine ev_ord_nil ?_
          have e1 := g9.put (name.take k) 0
          have e2 := g10.put (name.take k) 0
          have hl1 : ∀ tz, (stored kb (S (name.take k)) (.int 0 tz)).length ≤ 300 := fun tz => by
            rw [(e1 tz).len]; have := put_len BK.1 (name.take k) 0; lia
          have hl2 : ∀ tz, (stored kw (S (name.take k)) (.int 0 tz)).length ≤ 300 := fun tz => by
            rw [(e2 tz).len]; have := put_len BK.2 (name.take k) 0; lia
          refine Seq.next ?_
          refine ev_last (ev_if ?_)
          repeat walk_at "go"
          refine ⟨fun hb0 => ?_, fun hb0 => ?_⟩
          · have hk0 : 0 < k := by simpa using hb0
            simp only [if_pos hk0]
            have hkey : ((putT BK.2 (name.take k) 0).lookup (name.take (k - 1))).isSome = true := key_put ((hI.same _).symm.trans (hQ (k - 1) (by lia)))
            obtain ⟨v0, hv0⟩ := Option.isSome_iff_exists.mp hkey
            obtain ⟨tv0, hval0⟩ := (e2 _).lookup hv0
            have hg0 : getT (putT BK.2 (name.take k) 0) (name.take (k - 1)) = v0 := by unfold getT; rw [hv0]; rfl
            refine ev_last (ev_augsub ?_)
            repeat walk_at "go"
            refine ev_partTo ?_
            repeat walk_at "go"
            refine ⟨_, _, rfl, by lia, ?_⟩
            repeat walk_at "go"
            refine ⟨_, _, rfl, fun t6 => ?_⟩
            rw [show ((k : Nat) : Int) - 1 = ((k - 1 : Nat) : Int) by lia, S_take]
            refine ev_getD (.mem (mem_put (by rw [put_fst]; exact List.mem_map.mpr ⟨_, List.mem_cons_of_mem _ g8, rfl⟩))) hval0 ?_
            repeat walk_at "go"
            refine ev_setD (mem_put (by rw [put_fst]; exact List.mem_map.mpr ⟨_, List.mem_cons_of_mem _ g8, rfl⟩)) (Nat.le_trans (hl2 _) (by lia)) ?_
            refine ⟨rfl, rfl, _, _, mem_put_ne (mem_put_ne (mem_put (List.mem_map.mpr ⟨_, List.mem_cons_of_mem _ g7, rfl⟩)) hbw.symm) hbw.symm, mem_put (by rw [put_fst, put_fst]; exact List.mem_map.mpr ⟨_, List.mem_cons_of_mem _ g8, rfl⟩), hl1 _, e1 _, ?_⟩
            rw [hg0]
            exact (e2 _).put _ _ _
          · have hk0 : ¬ 0 < k := by simpa using hb0
            simp only [if_neg hk0]
            refine ev_nil ⟨rfl, rfl, _, _, mem_put_ne (mem_put (List.mem_map.mpr ⟨_, List.mem_cons_of_mem _ g7, rfl⟩)) hbw.symm, mem_put (by rw [put_fst]; exact List.mem_map.mpr ⟨_, List.mem_cons_of_mem _ g8, rfl⟩), hl1 _, e1 _, e2 _⟩
        · have hyes : (BK.1.lookup (name.take k)).isSome = true := by simpa using hb
          simp only [if_pos hyes]
          exact ev_nil ⟨rfl, rfl, kb, kw, g7, g8, by lia, g9, g10⟩
      · rintro fl m3 R3 ⟨rfl, rfl, kb', kw', p1, p2, p3, p4, p5⟩
        have hnow : stepK name k BK = (putT (if (BK.1.lookup (name.take k)).isSome = true then BK else (putT BK.1 (name.take k) 0, if 0 < k then putT (putT BK.2 (name.take k) 0) (name.take (k - 1)) (getT (putT BK.2 (name.take k) 0) (name.take (k - 1)) + 1) else putT BK.2 (name.take k) 0)).1 (name.take k) (getT (if (BK.1.lookup (name.take k)).isSome = true then BK else (putT BK.1 (name.take k) 0, if 0 < k then putT (putT BK.2 (name.take k) 0) (name.take (k - 1)) (getT (putT BK.2 (name.take k) 0) (name.take (k - 1)) + 1) else putT BK.2 (name.take k) 0)).1 (name.take k) + 1), (if (BK.1.lookup (name.take k)).isSome = true then BK else (putT BK.1 (name.take k) 0, if 0 < k then putT (putT BK.2 (name.take k) 0) (name.take (k - 1)) (getT (putT BK.2 (name.take k) 0) (name.take (k - 1)) + 1) else putT BK.2 (name.take k) 0)).2) := rfl
        have hkey : ((if (BK.1.lookup (name.take k)).isSome = true then BK else (putT BK.1 (name.take k) 0, if 0 < k then putT (putT BK.2 (name.take k) 0) (name.take (k - 1)) (getT (putT BK.2 (name.take k) 0) (name.take (k - 1)) + 1) else putT BK.2 (name.take k) 0)).1.lookup (name.take k)).isSome = true := by
          by_cases q : (BK.1.lookup (name.take k)).isSome = true
          · rw [if_pos q]; exact q
          · rw [if_neg q]; exact key_put_self
        generalize (if (BK.1.lookup (name.take k)).isSome = true then BK else (putT BK.1 (name.take k) 0, if 0 < k then putT (putT BK.2 (name.take k) 0) (name.take (k - 1)) (getT (putT BK.2 (name.take k) 0) (name.take (k - 1)) + 1) else putT BK.2 (name.take k) 0)) = B1 at *
        obtain ⟨v0, hv0⟩ := Option.isSome_iff_exists.mp hkey
        obtain ⟨tv0, hval0⟩ := p4.lookup hv0
        have hg0 : getT B1.1 (name.take k) = v0 := by unfold getT; rw [hv0]; rfl
        refine Seq.next ?_
        refine ev_last (ev_augsub ?_)
        repeat walk_at "go"
        refine ev_getD (.mem p1) hval0 ?_
        repeat walk_at "go"
        refine ev_setD p1 (by lia) ?_
        refine ⟨by walk_at "lk", by walk_at "lk", by walk_at "lk", by walk_at "lk", by walk_at "lk", by walk_at "lk", _, kw', mem_put (List.mem_map.mpr ⟨_, p1, rfl⟩), mem_put_ne p2 hbw, ?_, ?_⟩
        · rw [hstep, hnow, hg0]; exact p4.put _ _ _
        · rw [hstep, hnow]; exact p5
    · rintro m₂ R₂ ⟨g1, g2, g3, g4, g5, g6, kb, kw, g7, g8, g9, g10⟩
      obtain ⟨hI, hQ⟩ := hinv.foldK hnl (name.length + 1) (Nat.le_refl _)
      repeat walk_at "go"
      obtain ⟨BK, hBK⟩ : ∃ b, b = foldK name (name.length + 1) BW0 := ⟨_, rfl⟩
      have hsn : stepName BW0 name = (BK.1, putT BK.2 name (getT BK.2 name + 1)) := by rw [hBK]; rfl
      rw [← hBK] at hI hQ g9 g10
      have hkey : (BK.2.lookup name).isSome = true := by
        have := hQ name.length (by lia)
        rw [List.take_of_length_le (Nat.le_refl _)] at this
        exact (hI.same _).symm.trans this
      obtain ⟨v0, hv0⟩ := Option.isSome_iff_exists.mp hkey
      obtain ⟨tv0, hval0⟩ := g10.lookup hv0
      have hg0 : getT BK.2 name = v0 := by unfold getT; rw [hv0]; rfl
      have hLW := hI.lenW
      have hkwl := g10.len
      refine ev_augsub ?_
      repeat walk_at "go"
      refine ev_getD (.mem g8) hval0 ?_
      repeat walk_at "go"
      refine ev_setD g8 (by lia) ?_
      refine ⟨g1, g2, g3, g4, g5, kb, _, mem_put_ne g7 hbw.symm, mem_put (List.mem_map.mpr ⟨_, g8, rfl⟩), ?_, ?_⟩
      · rw [hfold, hsn]; exact g9
      · rw [hfold, hsn, hg0]; exact g10.put _ _ _
  · rintro m₁ R₁ ⟨q1, q2, q3, q4, q5, kb, kw, q6, q7, q8, q9⟩
    have hfull : ns.take vs.length = ns := List.take_of_length_le (by rw [hvl]; exact Nat.le_refl _)
    rw [hfull] at q8 q9
    have hinv := inv_names ns ([], []) 0 inv_nil hlen
    generalize ns.foldl stepName ([], []) = BW at *
    repeat walk_at "go"
    have hN : (0 + 17 * ns.length) ≤ 85 := by lia
    have hinv := hinv.up hN hN hN
    refine ev_freeze q6 fun ob hob => ?_
    have hfz : Has (C.hide [(db, ob)]) (R₁.filter fun p => p.1 ≠ db) db (.dict kb) := .frozen hob
    have q7' : (dw, Cell.dict kw) ∈ R₁.filter fun p => p.1 ≠ db := List.mem_filter.mpr ⟨q7, by simpa using hbw⟩
    have Wf := W.hide [(db, ob)]
    refine ev_for Wf (by walk_at "vr") ?_
    repeat walk_at "go"
    have hkbl := q8.len
    have hLB := hinv.lenB
    refine ⟨_, _, src_dict hfz (fun p hp e => absurd e (by simpa using (List.mem_filter.mp hp).2)), fun i m R => m "numbers" = some (.ref nm) ∧ m "t" = some (.int t tt) ∧ m "below" = some (.ref db) ∧ m "ways" = some (.ref dw) ∧ (dw, Cell.dict kw) ∈ R ∧ (∃ tp, m "product" = some (.int (((BW.1.map (·.1)).take i).foldl (forkStep kvs BW.1 BW.2 t) t) tp)) ∧ (((BW.1.map (·.1)).take i).foldl (forkStep kvs BW.1 BW.2 t) t).natAbs < 2 ^ (8 + 5440 * i),
      ⟨by walk_at "lk", by walk_at "lk", by walk_at "lk", by walk_at "lk", q7', ⟨_, by walk_at "lk"⟩, by show t.natAbs < 2 ^ 8; lia⟩, ?_, ?_⟩
    · rintro i v m₂ R₂ N hi ⟨kk, xx, tf, hkv, rfl⟩ ⟨g1, g2, g3, g4, g5, ⟨tp2, g6⟩, g7⟩
      have W2 := Wf.hide N
      obtain ⟨q, hq, rfl⟩ := q8.get hkv
      have hqB := key_of_mem (List.mem_of_getElem? hq)
      have hqs := hinv.short _ hqB
      have hqW : (BW.2.lookup q.1).isSome = true := (hinv.same _).symm.trans hqB
      have hnext : ((BW.1.map (·.1)).take (i + 1)).foldl (forkStep kvs BW.1 BW.2 t) t = forkStep kvs BW.1 BW.2 t (((BW.1.map (·.1)).take i).foldl (forkStep kvs BW.1 BW.2 t) t) q.1 := by
        rw [List.take_add_one, List.getElem?_map, hq, Option.map_some, Option.toList_some, List.foldl_append]; rfl
      obtain ⟨P0, hP0⟩ : ∃ b, b = ((BW.1.map (·.1)).take i).foldl (forkStep kvs BW.1 BW.2 t) t := ⟨_, rfl⟩
      rw [← hP0] at g6 g7 hnext
      generalize q.1 = fork at *
      obtain ⟨wv, hwv⟩ := Option.isSome_iff_exists.mp hqW
      obtain ⟨twv, hwval⟩ := q9.lookup hwv
      have hgW : getT BW.2 fork = wv := by unfold getT; rw [hwv]; rfl
      have hwb := hinv.valW _ _ hwv
      refine ev_last (ev_if ?_)
      repeat walk_at "go"
      refine ev_sub ?_
      repeat walk_at "go"
      refine ev_itemD (.mem g5) hwval ?_
      repeat walk_at "go"
      refine ⟨fun hb => ?_, fun hb => ?_⟩
      · have hw1 : 1 < getT BW.2 fork := by rw [hgW]; simpa using hb
        have hfs : forkStep kvs BW.1 BW.2 t P0 fork = P0 * forkTotal kvs BW.1 t fork fork.length ^ (wv - 1).toNat := by unfold forkStep; rw [if_pos hw1, hgW]
        rw [hfs] at hnext
        have hbnd := prod_lt (p := P0) (tot := forkTotal kvs BW.1 t fork fork.length) (a := 8 + 5440 * i) (e := (wv - 1).toNat) g7 (Nat.le_trans (forkTotal_le hinv.valB hdue ht0 _) (by lia)) (by lia)
        obtain ⟨bv, hbv⟩ := Option.isSome_iff_exists.mp hqB
        obtain ⟨tbv, hbval⟩ := q8.lookup hbv
        have hgB : getT BW.1 fork = bv := by unfold getT; rw [hbv]; rfl
        have hcap := getT_le hinv.valB
        repeat walk_at "go"
        refine ev_sub ?_
        repeat walk_at "go"
        have hz : ∀ R, Has (C.hide [(db, ob)]) R db (.dict kb) := fun R => .frozen hob
        refine ev_itemD ((hz _).hide N) hbval ?_
        repeat walk_at "go"
        refine ev_does (d_due C.w fork tf nm kvs (by lia) hT.ints) (by show 2 ≤ C.dp; lia) (by show 40 ≤ C.un; lia) (fun s X => hnum.keep X.keep) fun vd Rd ⟨td, hvd⟩ => ?_
        subst hvd
        refine ev_mulI (.inr (by have := hdue fork; lia)) fun _ => ?_
        repeat walk_at "go"
        have htot0 : t + bv * due kvs fork = forkTotal kvs BW.1 t fork 0 := by unfold forkTotal; rw [hgB]
        rw [htot0]
        refine ev_for W2 (by walk_at "vr") ?_
        repeat walk_at "go"
        refine ev_lenS (by lia) fun _ => ?_
        repeat walk_at "go"
        refine ev_range1 fun r t1 t2 hr => ?_
        refine ⟨_, _, src_range .head (by lia) (by lia), fun k m R => m "numbers" = some (.ref nm) ∧ m "t" = some (.int t tt) ∧ m "below" = some (.ref db) ∧ m "ways" = some (.ref dw) ∧ m "fork" = some (.str (S fork) tf) ∧ (∃ tp, m "product" = some (.int P0 tp)) ∧ (∃ tz, m "total" = some (.int (forkTotal kvs BW.1 t fork k) tz)) ∧ (dw, Cell.dict kw) ∈ R,
          ⟨by walk_at "lk", by walk_at "lk", by walk_at "lk", by walk_at "lk", by walk_at "lk", ⟨_, by walk_at "lk"⟩, ⟨_, by walk_at "lk"⟩, List.mem_cons_of_mem _ (List.mem_append_right _ g5)⟩, ?_, ?_⟩
        · rintro k v m₃ R₃ N3 hk ⟨tk, rfl⟩ ⟨k1, k2, k3, k4, k5, ⟨tp3, k6⟩, ⟨tz, k7⟩, k8⟩
          have W3 := W2.hide N3
          rw [show (0 + (k : Int)) = ((k : Nat) : Int) by lia]
          have hkf : k < fork.length := by lia
          obtain ⟨v1, hv1⟩ := Option.isSome_iff_exists.mp (hinv.pre fork hqB k)
          obtain ⟨v2, hv2⟩ := Option.isSome_iff_exists.mp (hinv.pre fork hqB (k + 1))
          obtain ⟨tv1, hx1⟩ := q8.lookup hv1
          obtain ⟨tv2, hx2⟩ := q8.lookup hv2
          have hg1 : getT BW.1 (fork.take k) = v1 := by unfold getT; rw [hv1]; rfl
          have hg2 : getT BW.1 (fork.take (k + 1)) = v2 := by unfold getT; rw [hv2]; rfl
          refine ev_last ?_
          repeat walk_at "go"
          refine ev_partTo ?_
          repeat walk_at "go"
          refine ⟨_, _, rfl, by lia, ?_⟩
          repeat walk_at "go"
          refine ⟨_, _, rfl, fun t5 => ?_⟩
          rw [S_take]
          repeat walk_at "go"
          refine ev_does (d_due C.w (fork.take k) t5 nm kvs (by rw [List.length_take]; lia) hT.ints) (by show 2 ≤ C.dp; lia) (by show 40 ≤ C.un; lia) (fun s X => hnum.keep X.keep) fun vd2 Rd2 ⟨td2, hvd2⟩ => ?_
          subst hvd2
          refine ev_binop ?_
          refine ev_sub ?_
          repeat walk_at "go"
          refine ev_partTo ?_
          repeat walk_at "go"
          refine ⟨_, _, rfl, by lia, ?_⟩
          repeat walk_at "go"
          refine ⟨_, _, rfl, fun t6 => ?_⟩
          rw [S_take]
          refine ev_itemD (((hz _).hide N).hide N3) hx1 ?_
          refine ev_sub ?_
          repeat walk_at "go"
          refine ev_partTo ?_
          repeat walk_at "go"
          refine ⟨_, _, rfl, by lia, ?_⟩
          repeat walk_at "go"
          refine ⟨_, _, rfl, fun t7 => ?_⟩
          rw [show ((k : Nat) : Int) + 1 = ((k + 1 : Nat) : Int) by lia, S_take]
          refine ev_itemD (((hz _).hide N).hide N3) hx2 ?_
          repeat walk_at "go"
          refine ev_mulI (.inl (by have := hdue (fork.take k); lia)) fun _ => ?_
          repeat walk_at "go"
          have hnx : forkTotal kvs BW.1 t fork k + due kvs (fork.take k) * (v1 - v2) = forkTotal kvs BW.1 t fork (k + 1) := by
            rw [← hg1, ← hg2]; rfl
          refine ⟨by walk_at "lk", by walk_at "lk", by walk_at "lk", by walk_at "lk", by walk_at "lk", ⟨_, by walk_at "lk"⟩, ⟨_, by rw [← hnx]; walk_at "lk"⟩, List.mem_append_right _ k8⟩
        · rintro m₃ R₃ ⟨k1, k2, k3, k4, k5, ⟨tp3, k6⟩, ⟨tz, k7⟩, k8⟩
          have hkk : ((fork.length : Int) - 0).toNat = fork.length := by lia
          rw [hkk] at k7
          refine ev_last ?_
          repeat walk_at "go"
          refine ev_sub ?_
          repeat walk_at "go"
          refine ev_itemD (.mem k8) hwval ?_
          repeat walk_at "go"
          have hwv1 : 1 < wv := by rw [← hgW]; exact hw1
          refine ev_pow (by lia) (by lia) (Nat.lt_of_le_of_lt (forkTotal_le hinv.valB hdue ht0 _) (by lia)) fun _ => ?_
          refine ev_imulB g7 hbnd.2 (by lia) (by lia) fun _ => ?_
          refine ⟨by walk_at "lk", by walk_at "lk", by walk_at "lk", by walk_at "lk", k8, ⟨_, by rw [hnext]; walk_at "lk"⟩, ?_⟩
          rw [hnext]
          exact Nat.lt_of_lt_of_le hbnd.1 (Nat.pow_le_pow_right (by lia) (by lia))
      · have hw1 : ¬ 1 < getT BW.2 fork := by rw [hgW]; simpa using hb
        refine ev_nil ⟨by walk_at "lk", by walk_at "lk", by walk_at "lk", by walk_at "lk", g5, ⟨tp2, ?_⟩, ?_⟩
        · rw [hnext]; unfold forkStep; rw [if_neg hw1]; walk_at "lk"
        · rw [hnext]; unfold forkStep; rw [if_neg hw1]
          exact Nat.lt_of_lt_of_le g7 (Nat.pow_le_pow_right (by lia) (by lia))
    · rintro m₂ R₂ ⟨g1, g2, g3, g4, g5, ⟨tp2, g6⟩, g7⟩
      have hfull2 : (BW.1.map (·.1)).take kb.length = BW.1.map (·.1) := List.take_of_length_le (by rw [List.length_map, hkbl]; exact Nat.le_refl _)
      rw [hfull2] at g6
      repeat walk_at "go"
      exact ⟨[], List.nil_sublist _, tp2, rfl⟩
end
section
open PySem PySem.W PySem.Calls PyProof.Rows PySem.Builtin PySem.F
set_option maxRecDepth 100000
theorem preSum_eq (l : List Int) (f : Nat → Int) (h : ∀ i, i < l.length → l[i]? = some (f i)) : preSum f l.length = l.sum := by
  have key : ∀ k, k ≤ l.length → preSum f k = (l.take k).sum := by
    intro k
    induction k with
    | zero => intro _; rfl
    | succ k ih =>
      intro hk
      rw [List.take_add_one, h k (by lia)]
      show preSum f k + f k = _
      rw [ih (by lia)]
      simp
  rw [key l.length (Nat.le_refl _), List.take_length]
section
variable {C : Cx} {m : Map} {R : Led} {P : Value → Map → Led → Prop}
theorem ev_neTexts {a b : Addr} {vs ws : List Value} {ns ks : List (List Nat)} (ha : Has C R a (.list vs)) (hb : Has C R b (.list ws)) (h1 : Texts vs ns) (h2 : Texts ws ks) (hu : 20 ≤ C.un) (h : P (.bool (ns != ks)) m R) :
    Ev C m R (compareOp .NotEq (.ref a) (.ref b)) P := fun s X => by
  have hu' : C.A.units < cLine := by have := X.ru; lia
  by_cases hl : ns.length = ks.length
  · have hsz : vs.toArray.size = ws.toArray.size := by simp [h1.1, h2.1, hl]
    refine SeqAt.RcNeAt.lists (e := fun j => nth ns j == nth ks j) (X.has ha).isList (X.has hb).isList hsz hu' (fun j g1 g2 => ?_) Prg C.w _ _ ⟨m, R, X, ?_⟩
    · obtain ⟨n, t, e1, e2⟩ := h1.get (i := j) (v := vs.toArray[j]) (by simp)
      obtain ⟨k, u, e3, e4⟩ := h2.get (i := j) (v := ws.toArray[j]) (by simp)
      rw [e2, e4, nth_of e1, nth_of e3, ← S_eq]
      exact SeqAt.EqAt.str_str _ _ _ _
    · have e : (List.range vs.toArray.size).all (fun j => nth ns j == nth ks j) = (ns == ks) := by
        rw [List.size_toArray, h1.1]
        apply Bool.eq_iff_iff.mpr
        rw [List.all_eq_true, beq_iff_eq]
        constructor
        · intro hh
          apply List.ext_getElem hl
          intro i g1 g2
          have := hh i (List.mem_range.mpr g1)
          rw [beq_iff_eq, nth_of (List.getElem?_eq_getElem g1), nth_of (List.getElem?_eq_getElem g2)] at this
          exact this
        · rintro rfl i _; simp
      rw [e]; exact h
  · refine SeqAt.RcNeAt.lists_lengths (X.has ha).isList (X.has hb).isList (by simp [h1.1, h2.1, hl]) hu' Prg C.w _ _ ⟨m, R, X, ?_⟩
    have e : (ns != ks) = true := by
      have : (ns == ks) = false := beq_false_of_ne fun q => hl (by rw [q])
      simp [bne, this]
    rw [e] at h; exact h
theorem ev_sum {l : Addr} {vs : List Value} {is : List Int} (hh : Has C R l (.list vs)) (hi : Ints vs is) (h : ∀ t, P (.int is.sum t) m R) : Ev C m R (call (.builtin "sum") [.ref l]) P := fun s X => by
  have hl := (X.has hh).isList
  have hlt := (X.has hh).lt
  refine call_sum_walkG (wpAny_pyIter_list hl ?_)
  refine ⟨s.heap.objs.size, _, _, _, _, _, fun i => is.getD i 0, rfl, Walks.list (A := C.A.in1) X.hh s.heap.objs.size l (Nat.ne_of_lt hlt) vs.toArray, ⟨⟨_, Heap.get?_push_size _ rfl, rfl, rfl⟩, hl.at fun o e => Heap.get?_push_of_some _ e⟩, ?_, ?_, ?_⟩
  · intro b hb
    rw [Heap.size_push]
    simp at hb
    rcases hb with rfl | rfl
    · exact Nat.lt_succ_self _
    · exact Nat.lt_succ_of_lt hlt
  · intro i v hv
    obtain ⟨n, t, h1, rfl⟩ := hi.get (by simpa using hv)
    exact ⟨t, by show _ = Value.int (is.getD i 0) t; rw [List.getD_eq_getElem?_getD, h1]; rfl⟩
  · intro h' tk t' hk
    refine ⟨m, R, X.stay (tk := tk) fun b o e => hk b o (fun hm => ?_) (Heap.get?_push_of_some _ e), ?_⟩
    · rw [List.mem_singleton.mp hm] at e
      exact Nat.lt_irrefl _ (Heap.lt_size e)
    · have hsz : vs.toArray.size = is.length := by simpa using hi.1
      rw [hsz, preSum_eq is _ fun i hi' => by rw [List.getD_eq_getElem?_getD, List.getElem?_eq_getElem hi']; rfl]
      exact h t'
/-- the pairs of a written dict -/
inductive Lits : List (Option Expr) → List Expr → Tb → Prop
  | nil : Lits [] [] []
  | cons {x : Str} {i : Int} {k1 k2 p1 p2} {ks : List (Option Expr)} {vs : List Expr} {n : List Nat} {T : Tb} (hx : x = S n) (r : Lits ks vs T) : Lits (some (.Constant (.str x) k1 p1) :: ks) (.Constant (.int i) k2 p2 :: vs) ((n, i) :: T)
theorem ev_lits (C : Cx) (m : Map) (R : Led) (pos : Pos) {keys : List (Option Expr)} {values : List Expr} {T : Tb} (hL : Lits keys values T) :
    Ev C m R (evalPairs (pairTrees keys values C.env pos)) (fun vs m3 R3 => m3 = m ∧ R3 = R ∧ ∃ kvs, Carries (strKind Prg C.w) vs kvs ∧ Tab kvs T) := by
  induction hL with
  | nil => exact fun s X => evalPairs_nil ⟨m, R, X, rfl, rfl, [], trivial, rfl⟩
  | @cons x i k1 k2 p1 p2 ks vs n T h1 _ ih =>
    intro s X
    refine evalPairs_cons ?_
    refine wpAny_mono (ev_str (x := x) (P := fun v m1 R1 => (∃ t, v = .str x t) ∧ m1 = m ∧ R1 = R) (fun t => ⟨⟨t, rfl⟩, rfl, rfl⟩) s X) ?_ fun _ _ f => f.elim
    rintro _ s1 ⟨m1, R1, X1, ⟨t, rfl⟩, e1, e2⟩
    rw [e1, e2] at X1
    refine wpAny_bind (wpAny_mono (ev_int (i := i) (P := fun v m2 R2 => (∃ u, v = .int i u) ∧ m2 = m ∧ R2 = R) (fun t => ⟨⟨t, rfl⟩, rfl, rfl⟩) s1 X1) ?_ fun _ _ f => f.elim)
    rintro _ s2 ⟨m2, R2, X2, ⟨u, rfl⟩, e3, e4⟩
    rw [e3, e4] at X2
    refine wpAny_bind (wpAny_standAt (wpAny_pure ?_))
    refine wpAny_mono (ih s2 X2) ?_ fun _ _ f => f.elim
    rintro vs' s3 ⟨m3, R3, X3, e5, e6, kvs, hc, ht⟩
    rw [e5, e6] at X3
    refine ⟨m, R, X3, rfl, rfl, (x, .int i u) :: kvs, ⟨strKind_is Prg C.w x t, rfl, hc⟩, ?_⟩
    unfold Tab at ht ⊢
    rw [List.map_cons, List.map_cons, ht, h1]
theorem tab_merged : ∀ {kvs : List (Str × Value)} {T : Tb} {acc : List (Str × Value)} {U : Tb}, Tab kvs T → Tab acc U → Tab (merged acc kvs) (T.foldl (fun a q => putT a q.1 q.2) U)
  | [], [], acc, U, _, h => h
  | [], _ :: _, _, _, h, _ => nomatch h
  | _ :: _, [], _, _, h, _ => nomatch h
  | (x, v) :: r, (y, i) :: T, acc, U, h, hu => by
    unfold Tab at h
    rw [List.map_cons, List.map_cons] at h
    injection h with h1 h2
    injection h1 with h3 h4
    dsimp only at h3 h4
    subst h3
    cases v with
    | int j t =>
      have : j = i := by simpa using h4
      subst this
      exact tab_merged (kvs := r) (T := T) h2 (hu.put y j t)
    | _ => exact absurd h4 (by simp)
theorem ev_dictN {keys : List (Option Expr)} {values : List Expr} {pos : Pos} {T : Tb} (hL : Lits keys values T) (hall : keys.all (·.isSome) = true) (hl : keys.length = values.length) (h0 : keys ≠ []) (hlen : keys.length ≤ 15)
    (h : ∀ a kvs, New C R a → Tab kvs (T.foldl (fun a q => putT a q.1 q.2) []) → P (.ref a) m ((a, .dict kvs) :: R)) : Ev C m R (eval (.Dict keys values pos) C.env) P := fun s X => by
  refine wpAny_Dict_walk (knd := strKind Prg C.w) hall hl h0 hlen ?_
  obtain ⟨o, ho, hd⟩ := Heap.dictOf_iff.mp (Heap.DictOf.new (knd := strKind Prg C.w) s.heap)
  rw [Heap.get?_push_size _ rfl] at ho
  have hd' := (Option.some.inj ho) ▸ hd
  have Y := X.push (c := .dict []) (tk := s.toks) (o := { cls := .type "dict", data := .dict #[] }) ⟨hd', X.noSys _ (Nat.le_refl _)⟩ rfl
  refine wpAny_mono (ev_lits C m ((s.heap.objs.size, .dict []) :: R) pos hL _ Y) ?_ fun _ _ f => f.elim
  rintro vs s1 ⟨m3, R3, Z, e1, e2, kvs, hc, ht⟩
  rw [e1, e2] at Z
  have hZ := Z.own (s.heap.objs.size, .dict []) List.mem_cons_self
  refine ⟨kvs, hc, hZ.dictOf, fun h' hd2 hs2 => ?_⟩
  obtain ⟨o2, ho2, hi2⟩ := Heap.dictOf_iff.mp hd2
  have U := Z.chg (tk := s1.toks + vs.length) (a := s.heap.objs.size) (by simp) hs2 (c := .dict (merged [] kvs)) ⟨o2, ho2, hi2, hZ.noSys⟩
  refine ⟨m, _, U, ?_⟩
  have e : put ((s.heap.objs.size, Cell.dict []) :: R) s.heap.objs.size (.dict (merged [] kvs)) = (s.heap.objs.size, .dict (merged [] kvs)) :: R := by
    unfold put
    rw [List.map_cons, if_pos rfl]
    congr 1
    refine (List.map_congr_left fun p hp => ?_).trans (List.map_id _)
    have : p.1 ≠ s.heap.objs.size := X.isNew.1 p hp
    rw [if_neg this]; rfl
  rw [e]
  exact h _ _ X.isNew (tab_merged ht (acc := []) (U := []) rfl)
end
end
section
open PySem PySem.W PySem.Calls PyProof.Rows PySem.Builtin PySem.F
set_option maxRecDepth 100000
/-- great figures, sign by sign -/
noncomputable def gr : List Nat → List Nat
  | 37 :: a :: b :: r => if R2.hexd a && R2.hexd b then 37 :: upc a :: upc b :: gr r else 37 :: gr (a :: b :: r)
  | c :: r => c :: gr r
  | [] => []
theorem m2_zero (c : Nat) (r : List Nat) : R2.m2 (c :: r).toArray 0 = true ↔ c = 37 ∧ ∃ a b r', r = a :: b :: r' ∧ R2.hexd a = true ∧ R2.hexd b = true := by
  unfold R2.m2
  match r with
  | [] => simp
  | [a] => simp
  | a :: b :: r' => simp [and_assoc]
theorem m2_succ (c : Nat) (r : List Nat) (s : Nat) : R2.m2 (c :: r).toArray (s + 1) = R2.m2 r.toArray s := by
  unfold R2.m2
  simp [Array.getD_eq_getD_getElem?, show s + 1 + 1 = (s + 1) + 1 from rfl, show s + 1 + 2 = (s + 2) + 1 from rfl]
theorem fm_cons (c : Nat) (r : List Nat) : fm (c :: r) = if R2.m2 (c :: r).toArray 0 = true then some 0 else (fm r).map (· + 1) := by
  unfold fm
  rw [List.length_cons, List.range_succ_eq_map, List.find?_cons]
  by_cases h : R2.m2 (c :: r).toArray 0 = true
  · rw [h]; simp
  · rw [show R2.m2 (c :: r).toArray 0 = false by simpa using h]
    simp only [Bool.false_eq_true, if_false]
    rw [List.find?_map]
    congr 1
    congr 1
    funext s
    exact m2_succ c r s
theorem gr_cons {c : Nat} {r : List Nat} (h : ¬ R2.m2 (c :: r).toArray 0 = true) : gr (c :: r) = c :: gr r := by
  rw [m2_zero] at h
  conv => lhs; unfold gr
  split
  · rename_i a b r' e
    injection e with e1 e2
    subst e1; subst e2
    rw [if_neg (fun q => h ⟨rfl, a, b, r', rfl, by simpa using q⟩)]
  · rename_i e
    injection e with e1 e2
    subst e1; subst e2; rfl
  · rename_i e; cases e
theorem great_gr : ∀ (k : Nat) (x : List Nat) (n : Nat), x.length ≤ k → x.length ≤ n → great n x = gr x
  | 0, x, n, hk, hn => by
    have : x = [] := List.length_eq_zero_iff.mp (by lia)
    subst this
    exact great_none rfl n
  | k + 1, [], n, hk, hn => great_none rfl n
  | k + 1, c :: r, n, hk, hn => by
    obtain ⟨n, rfl⟩ : ∃ j, n = j + 1 := ⟨n - 1, by simp at hn; lia⟩
    by_cases h : R2.m2 (c :: r).toArray 0 = true
    · obtain ⟨rfl, a, b, r', rfl, h1, h2⟩ := (m2_zero c r).mp h
      unfold great
      rw [fm_cons, if_pos h]
      have ih := great_gr k r' n (by simp at hk; lia) (by simp at hn; lia)
      simp only [gr, h1, h2]
      simp [ih]
    · rw [gr_cons h]
      have ih := great_gr k r (n + 1) (by simp at hk; lia) (by simp at hn; lia)
      rw [← ih]
      unfold great
      rw [fm_cons, if_neg h]
      cases fm r with
      | none => rfl
      | some s => simp [show s + 1 + 3 = (s + 3) + 1 from rfl]
/-- the pieces, and as they are told -/
noncomputable def P1 : List (List Nat) := [[46], [57, 48], [60], [61], [1635], [37, 97, 66], [37, 65, 102], [10], [42], [37, 103]]
noncomputable def P2 : List (List Nat) := [[46], [57, 48], [60], [61], [1635], [37, 65, 66], [37, 65, 70], [10], [42], [37, 103]]
theorem hex97 : R2.hexd 97 = true := by decide
theorem hex66 : R2.hexd 66 = true := by decide
theorem hex65 : R2.hexd 65 = true := by decide
theorem hex102 : R2.hexd 102 = true := by decide
theorem hex103 : R2.hexd 103 = false := by decide
theorem gr_ne {c : Nat} (h : c ≠ 37) (r : List Nat) : gr (c :: r) = c :: gr r := gr_cons (fun q => h ((m2_zero c r).mp q).1)
theorem gr_g (r : List Nat) : gr (37 :: 103 :: r) = 37 :: 103 :: gr r := by
  rw [gr_cons (fun q => by
    obtain ⟨_, a, b, r', e, h1, h2⟩ := (m2_zero 37 (103 :: r)).mp q
    injection e with e1 e2
    rw [← e1, hex103] at h1; cases h1), gr_ne (by decide)]
theorem gr_piece (f : Nat) (hf : f < 10) (r : List Nat) : gr (P1.getD f [] ++ r) = P2.getD f [] ++ gr r := by
  have : f = 0 ∨ f = 1 ∨ f = 2 ∨ f = 3 ∨ f = 4 ∨ f = 5 ∨ f = 6 ∨ f = 7 ∨ f = 8 ∨ f = 9 := by lia
  rcases this with rfl | rfl | rfl | rfl | rfl | rfl | rfl | rfl | rfl | rfl
  · exact gr_ne (by decide) r
  · show gr (57 :: 48 :: r) = _
    rw [gr_ne (by decide), gr_ne (by decide)]; rfl
  · exact gr_ne (by decide) r
  · exact gr_ne (by decide) r
  · exact gr_ne (by decide) r
  · show gr (37 :: 97 :: 66 :: r) = _
    simp only [gr, hex97, hex66]; rfl
  · show gr (37 :: 65 :: 102 :: r) = _
    simp only [gr, hex65, hex102]; rfl
  · exact gr_ne (by decide) r
  · exact gr_ne (by decide) r
  · exact gr_g r
theorem gr_row : ∀ row : List Nat, (∀ f ∈ row, f < 10) → gr (row.map fun f => P1.getD f []).flatten = (row.map fun f => P2.getD f []).flatten
  | [], _ => rfl
  | f :: r, h => by
    rw [List.map_cons, List.flatten_cons, gr_piece f (h f List.mem_cons_self), gr_row r fun g hg => h g (List.mem_cons_of_mem _ hg)]
    rfl
theorem esc_nil : EscOk [] := fun s h => by unfold R2.m2 at h; simp at h
theorem esc_cons {c : Nat} {r : List Nat} (h : EscOk r) (h0 : R2.m2 (c :: r).toArray 0 = true → Two (((c :: r).take 3).drop 1)) : EscOk (c :: r) := fun s hs => by
  cases s with
  | zero => exact h0 hs
  | succ s =>
    rw [m2_succ] at hs
    exact h s hs
theorem esc_ne {c : Nat} {r : List Nat} (h : EscOk r) (hc : c ≠ 37) : EscOk (c :: r) := esc_cons h fun q => absurd ((m2_zero c r).mp q).1 hc
theorem esc_piece (f : Nat) (hf : f < 10) (r : List Nat) (h : EscOk r) : EscOk (P1.getD f [] ++ r) := by
  have : f = 0 ∨ f = 1 ∨ f = 2 ∨ f = 3 ∨ f = 4 ∨ f = 5 ∨ f = 6 ∨ f = 7 ∨ f = 8 ∨ f = 9 := by lia
  rcases this with rfl | rfl | rfl | rfl | rfl | rfl | rfl | rfl | rfl | rfl
  · exact esc_ne h (by decide)
  · exact esc_ne (esc_ne h (by decide)) (by decide)
  · exact esc_ne h (by decide)
  · exact esc_ne h (by decide)
  · exact esc_ne h (by decide)
  · exact esc_cons (esc_ne (esc_ne h (by decide)) (by decide)) fun _ => .inl rfl
  · exact esc_cons (esc_ne (esc_ne h (by decide)) (by decide)) fun _ => .inr rfl
  · exact esc_ne h (by decide)
  · exact esc_ne h (by decide)
  · exact esc_cons (esc_ne h (by decide)) fun q => by
      obtain ⟨_, a, b, r', e, h1, h2⟩ := (m2_zero 37 (103 :: r)).mp q
      injection e with e1 e2
      rw [← e1, hex103] at h1; cases h1
theorem esc_row : ∀ row : List Nat, (∀ f ∈ row, f < 10) → EscOk (row.map fun f => P1.getD f []).flatten
  | [], _ => esc_nil
  | f :: r, h => by
    rw [List.map_cons, List.flatten_cons]
    exact esc_piece f (h f List.mem_cons_self) _ (esc_row r fun g hg => h g (List.mem_cons_of_mem _ hg))
theorem len_row {P : List (List Nat)} (hP : ∀ q ∈ P, q.length ≤ 3) : ∀ row : List Nat, ((row.map fun f => P.getD f []).flatten).length ≤ 3 * row.length
  | [] => Nat.zero_le _
  | f :: r => by
    have ih := len_row hP r
    have : (P.getD f []).length ≤ 3 := by
      rw [List.getD_eq_getElem?_getD]
      cases e : P[f]? with
      | none => simp
      | some q => simpa using hP q (List.mem_of_getElem? e)
    rw [List.map_cons, List.flatten_cons, List.length_append, List.length_cons]
    lia
/-- what is known of the names -/
theorem names_facts (cs : List Nat) (hc : ∀ c ∈ cs, c < 1000) : (namesOf P1 cs).map (great 50) = namesOf P2 cs ∧ (∀ n ∈ namesOf P1 cs, EscOk n ∧ n.length ≤ 15) ∧ (∀ n ∈ namesOf P2 cs, n.length ≤ 15) ∧ (namesOf P2 cs).length = cs.length := by
  have h10 : ∀ row ∈ (rowsScan [] cs).drop 1, ∀ f ∈ row, f < 10 := fun row hr => rowsScan_lt cs [] (by simp) hc row (List.mem_of_mem_drop hr)
  have h5 : ∀ row ∈ (rowsScan [] cs).drop 1, row.length ≤ 5 := fun row hr => rowsScan_len5 cs [] (by simp) row (List.mem_of_mem_drop hr)
  have l1 : ∀ row ∈ (rowsScan [] cs).drop 1, ((row.map fun f => P1.getD f []).flatten).length ≤ 15 := fun row hr => by
    have := len_row (P := P1) (by decide) row
    have := h5 row hr
    lia
  refine ⟨?_, fun n hn => ?_, fun n hn => ?_, ?_⟩
  · unfold namesOf
    rw [List.map_map]
    refine List.map_congr_left fun row hr => ?_
    show great 50 _ = _
    rw [great_gr 15 _ 50 (l1 row hr) (by have := l1 row hr; lia), gr_row row (h10 row hr)]
  · obtain ⟨row, hr, rfl⟩ := List.mem_map.mp hn
    exact ⟨esc_row row (h10 row hr), l1 row hr⟩
  · obtain ⟨row, hr, rfl⟩ := List.mem_map.mp hn
    have := len_row (P := P2) (by decide) row
    have := h5 row hr
    lia
  · unfold namesOf
    rw [List.length_map, List.length_drop, rowsScan_len]; lia
/-- between two names stands what begins as both do -/
theorem lcp_mid : ∀ (a n b : List Nat), ¬ n < a → ¬ b < n → n.take (lcp a b).length = lcp a b
  | [], n, b, _, _ => by unfold lcp; simp
  | c :: a, n, [], _, _ => by unfold lcp; simp
  | c :: a, n, d :: b, h1, h2 => by
    unfold lcp
    by_cases h : c = d
    · subst h
      rw [if_pos rfl]
      match n, h1, h2 with
      | [], h1, _ => exact absurd (List.nil_lt_cons c a) h1
      | e :: n, h1, h2 =>
        rw [List.cons_lt_cons_iff] at h1 h2
        have he : e = c := by lia
        subst he
        have ih := lcp_mid a n b (fun q => h1 (.inr ⟨rfl, q⟩)) (fun q => h2 (.inr ⟨rfl, q⟩))
        rw [List.length_cons, List.take_succ_cons, ih]
    · rw [if_neg h]; simp
theorem lcp_ge : ∀ (j : Nat) (a b : List Nat), a.take j = b.take j → (a.take j).length = j → j ≤ (lcp a b).length
  | 0, _, _, _, _ => Nat.zero_le _
  | j + 1, [], _, _, h => by simp at h
  | j + 1, c :: a, [], h, hl => by simp at h
  | j + 1, c :: a, d :: b, h, hl => by
    rw [List.take_succ_cons, List.take_succ_cons] at h
    injection h with h1 h2
    subst h1
    unfold lcp
    rw [if_pos rfl, List.length_cons]
    have := lcp_ge j a b h2 (by simpa using hl)
    lia
theorem begun_lcp {ns : List (List Nat)} {n0 k a b : List Nat} (h0 : n0 ∈ ns) (hk : Begun ns n0 k) (ha : Least ns a) (hb : Greatest ns b) : lcp a b = k := by
  obtain ⟨⟨j, hj, rfl⟩, hall, hmax⟩ := hk
  have hm : ∀ n ∈ ns, n.take (lcp a b).length = lcp a b := fun n hn => lcp_mid a n b (ha.2 n hn) (hb.2 n hn)
  have hlen0 : (lcp a b).length ≤ n0.length := by
    have := congrArg List.length (hm n0 h0)
    rw [List.length_take] at this; lia
  have h1 : (lcp a b).length ≤ (n0.take j).length := hmax _ hlen0 fun n hn => (hm n hn).trans (hm n0 h0).symm
  have hjl : (n0.take j).length = j := by rw [List.length_take]; lia
  have ea := hall a ha.1
  have eb := hall b hb.1
  have h2 : (n0.take j).length ≤ (lcp a b).length := lcp_ge _ a b (ea.trans eb.symm) (by rw [ea])
  have : (lcp a b).length = j := by lia
  rw [← hm n0 h0, this]
end
section
open PySem PySem.W PySem.Calls PyProof.Rows PySem.Builtin PySem.F
set_option maxRecDepth 100000
/-- the signs of the told names -/
noncomputable def alpha : List Nat := [46, 57, 48, 60, 61, 1635, 37, 65, 66, 70, 103, 10, 42]
noncomputable def Al (x : List Nat) : Prop := ∀ c ∈ x, c ∈ alpha
/-- no equals sign right behind a percent sign -/
noncomputable def Np (x : List Nat) : Prop := ∀ i : Nat, x[i]? = some 37 → x[i + 1]? ≠ some 61
noncomputable def nine (x : List Nat) (i : Nat) : Bool := (x[i]?).any isNine
theorem back_spec (x : List Nat) : ∀ n, (∀ i, back x n ≤ i → i < n → nine x i = true) ∧ (back x n = 0 ∨ nine x (back x n - 1) = false)
  | 0 => ⟨fun i _ h => absurd h (Nat.not_lt_zero _), .inl rfl⟩
  | n + 1 => by
    unfold back
    by_cases h : (x[n]?).any isNine = true
    · rw [if_pos h]
      obtain ⟨h1, h2⟩ := back_spec x n
      refine ⟨fun i hi hin => ?_, h2⟩
      by_cases e : i = n
      · rw [e]; exact h
      · exact h1 i hi (by lia)
    · rw [if_neg h]
      exact ⟨fun i hi hin => by lia, .inr (by show nine x n = false; unfold nine; simpa using h)⟩
theorem back_eq {x : List Nat} {n p : Nat} (hp : p ≤ n) (h1 : ∀ i, p ≤ i → i < n → nine x i = true) (h2 : p = 0 ∨ nine x (p - 1) = false) : back x n = p := by
  obtain ⟨g1, g2⟩ := back_spec x n
  have hle := back_le x n
  rcases Nat.lt_trichotomy (back x n) p with h | h | h
  · have := g1 (p - 1) (by lia) (by lia)
    rcases h2 with h2 | h2
    · lia
    · rw [h2] at this; cases this
  · exact h
  · have := h1 (back x n - 1) (by lia) (by lia)
    rcases g2 with g2 | g2
    · lia
    · rw [g2] at this; cases this
theorem dig_nine {x : List Nat} (h : Al x) (i : Nat) : Sre.isDigit (x.toArray.getD i 0) = nine x i := by
  unfold nine
  have e : x.toArray.getD i 0 = (x[i]?).getD 0 := by simp [Array.getD_eq_getD_getElem?]
  rw [e]
  cases hi : x[i]? with
  | none => rfl
  | some c =>
    have hc := h c (List.mem_of_getElem? hi)
    have key : ∀ c ∈ alpha, Sre.isDigit c = isNine c := by decide
    exact key c hc
theorem drun_spec (x : List Nat) (h : Al x) : ∀ K p, R1.drun x.toArray K p ≤ K ∧ (∀ i, i < R1.drun x.toArray K p → nine x (p + i) = true) ∧ (R1.drun x.toArray K p = K ∨ nine x (p + R1.drun x.toArray K p) = false)
  | 0, p => ⟨Nat.le_refl _, fun i hi => absurd hi (Nat.not_lt_zero _), .inl rfl⟩
  | K + 1, p => by
    unfold R1.drun
    rw [dig_nine h]
    by_cases hn : nine x p = true
    · rw [if_pos hn]
      obtain ⟨g1, g2, g3⟩ := drun_spec x h K (p + 1)
      refine ⟨by lia, fun i hi => ?_, ?_⟩
      · cases i with
        | zero => exact hn
        | succ i => have := g2 i (by lia); rwa [show p + (i + 1) = p + 1 + i by lia]
      · rcases g3 with g3 | g3
        · exact .inl (by lia)
        · exact .inr (by rw [show p + (R1.drun x.toArray K (p + 1) + 1) = p + 1 + R1.drun x.toArray K (p + 1) by lia]; exact g3)
    · rw [if_neg hn]
      exact ⟨Nat.zero_le _, fun i hi => absurd hi (Nat.not_lt_zero _), .inr (by simpa using hn)⟩
theorem drun_eq {x : List Nat} (h : Al x) {K p k : Nat} (hk : k ≤ K) (h1 : ∀ i, i < k → nine x (p + i) = true) (h2 : k = K ∨ nine x (p + k) = false) : R1.drun x.toArray K p = k := by
  obtain ⟨g1, g2, g3⟩ := drun_spec x h K p
  rcases Nat.lt_trichotomy (R1.drun x.toArray K p) k with q | q | q
  · rcases g3 with g3 | g3
    · lia
    · rw [h1 _ q] at g3; cases g3
  · exact q
  · rcases h2 with h2 | h2
    · lia
    · rw [g2 _ q] at h2; cases h2
theorem dueEnd_cases (x : List Nat) : (dueEnd x = x.length ∧ (∀ c, x[x.length - 1]? = some c → c ≠ 10)) ∨ (x.length = dueEnd x + 1 ∧ x[dueEnd x]? = some 10) := by
  unfold dueEnd
  by_cases h : x.length = 0
  · have : x = [] := List.length_eq_zero_iff.mp h
    subst this
    exact .inl ⟨rfl, fun c hc => by simp at hc⟩
  · have hlt : x.length - 1 < x.length := by lia
    have e : x.drop (x.length - 1) = [x[x.length - 1]] := by
      rw [List.drop_eq_getElem_cons hlt, List.drop_of_length_le (by lia)]
    rw [e]
    by_cases hc : x[x.length - 1] = 10
    · rw [hc]
      refine .inr ⟨by simp; lia, ?_⟩
      simp only [beq_self_eq_true, if_true]
      rw [List.getElem?_eq_getElem hlt, hc]
    · rw [if_neg (by simpa using hc)]
      exact .inl ⟨rfl, fun c h2 => by rw [List.getElem?_eq_getElem hlt] at h2; cases h2; exact hc⟩
theorem nine_ten {x : List Nat} {i : Nat} (h : x[i]? = some 10) : nine x i = false := by unfold nine; rw [h]; rfl
theorem nine_out {x : List Nat} {i : Nat} (h : x.length ≤ i) : nine x i = false := by unfold nine; rw [List.getElem?_eq_none h]; rfl
theorem getD_some {x : List Nat} {i c : Nat} : (x.toArray.getD i 0 = c ∧ i < x.length) ↔ x[i]? = some c := by
  have e : x.toArray.getD i 0 = (x[i]?).getD 0 := by simp [Array.getD_eq_getD_getElem?]
  rw [e]
  constructor
  · rintro ⟨h1, h2⟩
    rw [List.getElem?_eq_getElem h2] at h1 ⊢
    exact congrArg some h1
  · intro h
    rw [h]
    exact ⟨rfl, (List.getElem?_eq_some_iff.mp h).1⟩
theorem dotted_iff {x : List Nat} (h : Al x) (hl : x.length ≤ 1000) : dotted x = true ↔ 0 < duePlace x ∧ duePlace x < dueEnd x ∧ x[duePlace x - 1]? = some 46 := by
  have hend := dueEnd_cases x
  constructor
  · intro hd
    unfold dotted at hd
    rw [List.any_eq_true] at hd
    obtain ⟨s, hs, hm⟩ := hd
    rw [List.mem_range] at hs
    unfold R1.m1 at hm
    simp only [Bool.and_eq_true, decide_eq_true_eq, beq_iff_eq, List.size_toArray] at hm
    obtain ⟨⟨⟨_, h46⟩, hk1⟩, hat⟩ := hm
    have hK : min 4294967295 (x.length - (s + 1)) = x.length - (s + 1) := by lia
    rw [hK] at hk1 hat
    obtain ⟨g1, g2, g3⟩ := drun_spec x h (x.length - (s + 1)) (s + 1)
    generalize R1.drun x.toArray (x.length - (s + 1)) (s + 1) = k at *
    have h46' : x[s]? = some 46 := getD_some.mp ⟨h46, hs⟩
    have hns : nine x s = false := by unfold nine; rw [h46']; rfl
    have hE : dueEnd x = s + 1 + k := by
      unfold R1.atEnd at hat
      simp only [Bool.or_eq_true, Bool.and_eq_true, beq_iff_eq, List.size_toArray] at hat
      rcases hat with e | ⟨e1, e2⟩
      · rcases hend with ⟨q, _⟩ | ⟨q, q2⟩
        · lia
        · have := g2 (k - 1) (by lia)
          rw [show s + 1 + (k - 1) = dueEnd x by lia, nine_ten q2] at this; cases this
      · have e3 : x[s + 1 + k]? = some 10 := getD_some.mp ⟨e2, by lia⟩
        rcases hend with ⟨q, q2⟩ | ⟨q, _⟩
        · exact absurd rfl (q2 10 (by rw [show x.length - 1 = s + 1 + k by lia]; exact e3))
        · lia
    have hP : duePlace x = s + 1 := by
      unfold duePlace
      refine back_eq (by lia) (fun i hi hin => ?_) (.inr hns)
      have := g2 (i - (s + 1)) (by lia)
      rwa [show s + 1 + (i - (s + 1)) = i by lia] at this
    rw [hP]
    exact ⟨by lia, by lia, h46'⟩
  · rintro ⟨h1, h2, h3⟩
    obtain ⟨b1, b2⟩ := back_spec x (dueEnd x)
    have hle := dueEnd_le x
    change ∀ i, duePlace x ≤ i → i < dueEnd x → nine x i = true at b1
    unfold dotted
    rw [List.any_eq_true]
    have hpl : duePlace x - 1 < x.length := by lia
    refine ⟨duePlace x - 1, List.mem_range.mpr hpl, ?_⟩
    unfold R1.m1
    simp only [Bool.and_eq_true, decide_eq_true_eq, beq_iff_eq, List.size_toArray]
    have hp1 : duePlace x - 1 + 1 = duePlace x := by lia
    rw [hp1]
    have hK : min 4294967295 (x.length - duePlace x) = x.length - duePlace x := by lia
    rw [hK]
    have hk : R1.drun x.toArray (x.length - duePlace x) (duePlace x) = dueEnd x - duePlace x := by
      refine drun_eq h (by lia) (fun i hi => b1 _ (by lia) (by lia)) ?_
      rcases hend with ⟨q, _⟩ | ⟨q, q2⟩
      · exact .inl (by lia)
      · exact .inr (by rw [show duePlace x + (dueEnd x - duePlace x) = dueEnd x by lia]; exact nine_ten q2)
    rw [hk]
    refine ⟨⟨⟨hpl, (getD_some.mpr h3).1⟩, by lia⟩, ?_⟩
    unfold R1.atEnd
    simp only [Bool.or_eq_true, Bool.and_eq_true, beq_iff_eq, List.size_toArray]
    rw [show duePlace x + (dueEnd x - duePlace x) = dueEnd x by lia]
    rcases hend with ⟨q, _⟩ | ⟨q, q2⟩
    · exact .inl q
    · exact .inr ⟨by lia, (getD_some.mpr q2).1⟩
/-- the law's own numbers -/
noncomputable def numbersT : Tb := [([46], 23), ([46, 46, 46], 52), ([60], 20), ([60, 60], 33), ([60, 61], 29), ([60, 60, 61], 44), ([61], 22), ([61, 61], 27), ([42], 16), ([42, 42], 35), ([42, 61], 38), ([42, 42, 61], 46), ([37], 24)]
theorem keys1 : ∀ a ∈ alpha, exact.lookup [a] = numbersT.lookup [a] := by decide
theorem keys2 : ∀ a ∈ alpha, ∀ b ∈ alpha, ¬ (a = 37 ∧ b = 61) → exact.lookup [a, b] = numbersT.lookup [a, b] := by decide +kernel
theorem lookup_len (k : List Nat) : ∀ T : Tb, T.lookup k = (T.filter fun q => q.1.length == k.length).lookup k
  | [] => rfl
  | q :: r => by
    have ih := lookup_len k r
    rw [List.lookup_cons, List.filter_cons]
    by_cases h : k = q.1
    · rw [if_pos (by rw [h]; exact beq_self_eq_true _), List.lookup_cons, show (k == q.1) = true by simpa using h]
    · have h' : (k == q.1) = false := by simpa using h
      rw [h']
      by_cases hl : (q.1.length == k.length) = true
      · rw [if_pos hl, List.lookup_cons, h']; exact ih
      · rw [if_neg hl]; exact ih
theorem exact3 : (exact.filter fun q => q.1.length == 3) = [([42, 42, 61], 46), ([46, 46, 46], 52), ([47, 47, 61], 48), ([60, 60, 61], 44), ([62, 62, 61], 45)] := by decide +kernel
theorem numbers3 : (numbersT.filter fun q => q.1.length == 3) = [([46, 46, 46], 52), ([60, 60, 61], 44), ([42, 42, 61], 46)] := by decide +kernel
theorem keys3' : ∀ a ∈ alpha, ∀ b ∈ alpha, ∀ c ∈ alpha, List.lookup [a, b, c] [([42, 42, 61], (46 : Int)), ([46, 46, 46], 52), ([47, 47, 61], 48), ([60, 60, 61], 44), ([62, 62, 61], 45)] = List.lookup [a, b, c] [([46, 46, 46], (52 : Int)), ([60, 60, 61], 44), ([42, 42, 61], 46)] := by decide +kernel
theorem keys3 : ∀ a ∈ alpha, ∀ b ∈ alpha, ∀ c ∈ alpha, exact.lookup [a, b, c] = numbersT.lookup [a, b, c] := fun a ha b hb c hc => by
  rw [lookup_len [a, b, c] exact, lookup_len [a, b, c] numbersT]
  show (exact.filter fun q => q.1.length == 3).lookup _ = (numbersT.filter fun q => q.1.length == 3).lookup _
  rw [exact3, numbers3]
  exact keys3' a ha b hb c hc
theorem keys_same {k : List Nat} (h : Al k) (hn : Np k) (hl : k.length ≤ 3) : exact.lookup k = numbersT.lookup k := by
  match k, h, hn, hl with
  | [], _, _, _ => rfl
  | [a], h, _, _ => exact keys1 a (h a (by simp))
  | [a, b], h, hn, _ => exact keys2 a (h a (by simp)) b (h b (by simp)) fun ⟨e1, e2⟩ => hn 0 (by simp [e1]) (by simp [e2])
  | [a, b, c], h, _, _ => exact keys3 a (h a (by simp)) b (h b (by simp)) c (h c (by simp))
  | _ :: _ :: _ :: _ :: _, _, _, hl => simp at hl
theorem Al.drop {x : List Nat} (h : Al x) (k : Nat) : Al (x.drop k) := fun c hc => h c (List.mem_of_mem_drop hc)
theorem Np.drop {x : List Nat} (h : Np x) (k : Nat) : Np (x.drop k) := fun i hi => by
  rw [List.getElem?_drop] at hi ⊢
  exact h (k + i) hi
theorem Al.take {x : List Nat} (h : Al x) (k : Nat) : Al (x.take k) := fun c hc => h c (List.mem_of_mem_take hc)
theorem Np.take {x : List Nat} (h : Np x) (k : Nat) : Np (x.take k) := fun i hi => by
  rw [List.getElem?_take] at hi ⊢
  by_cases e : i + 1 < k
  · rw [if_pos e]; rw [if_pos (by lia)] at hi; exact h i hi
  · rw [if_neg e]; exact fun q => by cases q
theorem symT_same {x : List Nat} (h : Al x) (hn : Np x) : ∀ k, k ≤ 3 → symT exact x k = symT numbersT x k
  | 0, _ => rfl
  | k + 1, hk => by
    unfold symT
    rw [symT_same h hn k (by lia), keys_same (h.drop _) (hn.drop _) (by rw [List.length_drop]; lia)]
theorem numbers_small : ∀ q ∈ numbersT, 0 ≤ q.2 ∧ q.2 ≤ 200 := by decide
theorem lookup_mem : ∀ {T : Tb} {k : List Nat} {v : Int}, T.lookup k = some v → (k, v) ∈ T
  | (y, u) :: r, k, v, h => by
    rw [List.lookup_cons] at h
    by_cases e : k = y
    · subst e; simp at h; subst h; exact List.mem_cons_self
    · rw [show (k == y) = false by simpa using e] at h
      exact List.mem_cons_of_mem _ (lookup_mem h)
theorem symT_range (x : List Nat) : ∀ k, 256 ≤ symT numbersT x k ∨ (0 ≤ symT numbersT x k ∧ symT numbersT x k ≤ 200)
  | 0 => .inl (by unfold symT; lia)
  | k + 1 => by
    unfold symT
    cases h : numbersT.lookup (x.drop (x.length - (k + 1))) with
    | none => exact symT_range x k
    | some v => exact .inr (numbers_small _ (lookup_mem h))
/-- a tie weighs what is due -/
theorem tie_due {kvs : List (Str × Value)} (hT : Tab kvs numbersT) {x : List Nat} (h : Al x) (hn : Np x) (hl : x.length ≤ 1000) : tie x = due kvs x := by
  unfold tie due
  rw [hT.sym, symT_same h hn 3 (Nat.le_refl _)]
  by_cases hd : dotted x = true
  · rw [if_pos hd, if_pos ((dotted_iff h hl).mp hd)]
  · rw [if_neg hd, if_neg (fun q => hd ((dotted_iff h hl).mpr q))]
    rcases symT_range x 3 with g | g
    · rw [if_pos g, if_pos (by lia)]
    · rw [if_neg (by lia), if_neg (by lia), Int.fmod_eq_emod_of_nonneg _ (by decide)]
      lia
theorem due_le {kvs : List (Str × Value)} (hT : Tab kvs numbersT) (x : List Nat) : (due kvs x).natAbs ≤ 1000 := by
  unfold due
  rw [hT.sym]
  split
  · simp
  · rcases symT_range x 3 with g | g
    · rw [if_pos (by lia)]; decide
    · rw [if_neg (by lia)]; lia
theorem tie_le (x : List Nat) : (tie x).natAbs ≤ 1000 := by
  unfold tie
  split
  · simp
  · split
    · decide
    · rename_i h1 h2
      rw [Int.fmod_eq_emod_of_nonneg _ (by decide)]; lia
end
section
open PySem
set_option maxRecDepth 100000
set_option maxHeartbeats 4000000
theorem det1 (M : Nat → Nat → Int) : detOf M 1 = (0) + M 0 0 * (1) := by kernel_rfl
theorem det2 (M : Nat → Nat → Int) : detOf M 2 = ((0) + (-(M 1 0 * ((0) + M 0 1 * (1))))) + M 1 1 * ((0) + M 0 0 * (1)) := by kernel_rfl
theorem det3 (M : Nat → Nat → Int) : detOf M 3 = (((0) + M 2 0 * (((0) + (-(M 1 1 * ((0) + M 0 2 * (1))))) + M 1 2 * ((0) + M 0 1 * (1)))) + (-(M 2 1 * (((0) + (-(M 1 0 * ((0) + M 0 2 * (1))))) + M 1 2 * ((0) + M 0 0 * (1)))))) + M 2 2 * (((0) + (-(M 1 0 * ((0) + M 0 1 * (1))))) + M 1 1 * ((0) + M 0 0 * (1))) := by kernel_rfl
theorem det4 (M : Nat → Nat → Int) : detOf M 4 = ((((0) + (-(M 3 0 * ((((0) + M 2 1 * (((0) + (-(M 1 2 * ((0) + M 0 3 * (1))))) + M 1 3 * ((0) + M 0 2 * (1)))) + (-(M 2 2 * (((0) + (-(M 1 1 * ((0) + M 0 3 * (1))))) + M 1 3 * ((0) + M 0 1 * (1)))))) + M 2 3 * (((0) + (-(M 1 1 * ((0) + M 0 2 * (1))))) + M 1 2 * ((0) + M 0 1 * (1))))))) + M 3 1 * ((((0) + M 2 0 * (((0) + (-(M 1 2 * ((0) + M 0 3 * (1))))) + M 1 3 * ((0) + M 0 2 * (1)))) + (-(M 2 2 * (((0) + (-(M 1 0 * ((0) + M 0 3 * (1))))) + M 1 3 * ((0) + M 0 0 * (1)))))) + M 2 3 * (((0) + (-(M 1 0 * ((0) + M 0 2 * (1))))) + M 1 2 * ((0) + M 0 0 * (1))))) + (-(M 3 2 * ((((0) + M 2 0 * (((0) + (-(M 1 1 * ((0) + M 0 3 * (1))))) + M 1 3 * ((0) + M 0 1 * (1)))) + (-(M 2 1 * (((0) + (-(M 1 0 * ((0) + M 0 3 * (1))))) + M 1 3 * ((0) + M 0 0 * (1)))))) + M 2 3 * (((0) + (-(M 1 0 * ((0) + M 0 1 * (1))))) + M 1 1 * ((0) + M 0 0 * (1))))))) + M 3 3 * ((((0) + M 2 0 * (((0) + (-(M 1 1 * ((0) + M 0 2 * (1))))) + M 1 2 * ((0) + M 0 1 * (1)))) + (-(M 2 1 * (((0) + (-(M 1 0 * ((0) + M 0 2 * (1))))) + M 1 2 * ((0) + M 0 0 * (1)))))) + M 2 2 * (((0) + (-(M 1 0 * ((0) + M 0 1 * (1))))) + M 1 1 * ((0) + M 0 0 * (1)))) := by kernel_rfl
theorem det5 (M : Nat → Nat → Int) : detOf M 5 = (((((0) + M 4 0 * (((((0) + (-(M 3 1 * ((((0) + M 2 2 * (((0) + (-(M 1 3 * ((0) + M 0 4 * (1))))) + M 1 4 * ((0) + M 0 3 * (1)))) + (-(M 2 3 * (((0) + (-(M 1 2 * ((0) + M 0 4 * (1))))) + M 1 4 * ((0) + M 0 2 * (1)))))) + M 2 4 * (((0) + (-(M 1 2 * ((0) + M 0 3 * (1))))) + M 1 3 * ((0) + M 0 2 * (1))))))) + M 3 2 * ((((0) + M 2 1 * (((0) + (-(M 1 3 * ((0) + M 0 4 * (1))))) + M 1 4 * ((0) + M 0 3 * (1)))) + (-(M 2 3 * (((0) + (-(M 1 1 * ((0) + M 0 4 * (1))))) + M 1 4 * ((0) + M 0 1 * (1)))))) + M 2 4 * (((0) + (-(M 1 1 * ((0) + M 0 3 * (1))))) + M 1 3 * ((0) + M 0 1 * (1))))) + (-(M 3 3 * ((((0) + M 2 1 * (((0) + (-(M 1 2 * ((0) + M 0 4 * (1))))) + M 1 4 * ((0) + M 0 2 * (1)))) + (-(M 2 2 * (((0) + (-(M 1 1 * ((0) + M 0 4 * (1))))) + M 1 4 * ((0) + M 0 1 * (1)))))) + M 2 4 * (((0) + (-(M 1 1 * ((0) + M 0 2 * (1))))) + M 1 2 * ((0) + M 0 1 * (1))))))) + M 3 4 * ((((0) + M 2 1 * (((0) + (-(M 1 2 * ((0) + M 0 3 * (1))))) + M 1 3 * ((0) + M 0 2 * (1)))) + (-(M 2 2 * (((0) + (-(M 1 1 * ((0) + M 0 3 * (1))))) + M 1 3 * ((0) + M 0 1 * (1)))))) + M 2 3 * (((0) + (-(M 1 1 * ((0) + M 0 2 * (1))))) + M 1 2 * ((0) + M 0 1 * (1)))))) + (-(M 4 1 * (((((0) + (-(M 3 0 * ((((0) + M 2 2 * (((0) + (-(M 1 3 * ((0) + M 0 4 * (1))))) + M 1 4 * ((0) + M 0 3 * (1)))) + (-(M 2 3 * (((0) + (-(M 1 2 * ((0) + M 0 4 * (1))))) + M 1 4 * ((0) + M 0 2 * (1)))))) + M 2 4 * (((0) + (-(M 1 2 * ((0) + M 0 3 * (1))))) + M 1 3 * ((0) + M 0 2 * (1))))))) + M 3 2 * ((((0) + M 2 0 * (((0) + (-(M 1 3 * ((0) + M 0 4 * (1))))) + M 1 4 * ((0) + M 0 3 * (1)))) + (-(M 2 3 * (((0) + (-(M 1 0 * ((0) + M 0 4 * (1))))) + M 1 4 * ((0) + M 0 0 * (1)))))) + M 2 4 * (((0) + (-(M 1 0 * ((0) + M 0 3 * (1))))) + M 1 3 * ((0) + M 0 0 * (1))))) + (-(M 3 3 * ((((0) + M 2 0 * (((0) + (-(M 1 2 * ((0) + M 0 4 * (1))))) + M 1 4 * ((0) + M 0 2 * (1)))) + (-(M 2 2 * (((0) + (-(M 1 0 * ((0) + M 0 4 * (1))))) + M 1 4 * ((0) + M 0 0 * (1)))))) + M 2 4 * (((0) + (-(M 1 0 * ((0) + M 0 2 * (1))))) + M 1 2 * ((0) + M 0 0 * (1))))))) + M 3 4 * ((((0) + M 2 0 * (((0) + (-(M 1 2 * ((0) + M 0 3 * (1))))) + M 1 3 * ((0) + M 0 2 * (1)))) + (-(M 2 2 * (((0) + (-(M 1 0 * ((0) + M 0 3 * (1))))) + M 1 3 * ((0) + M 0 0 * (1)))))) + M 2 3 * (((0) + (-(M 1 0 * ((0) + M 0 2 * (1))))) + M 1 2 * ((0) + M 0 0 * (1)))))))) + M 4 2 * (((((0) + (-(M 3 0 * ((((0) + M 2 1 * (((0) + (-(M 1 3 * ((0) + M 0 4 * (1))))) + M 1 4 * ((0) + M 0 3 * (1)))) + (-(M 2 3 * (((0) + (-(M 1 1 * ((0) + M 0 4 * (1))))) + M 1 4 * ((0) + M 0 1 * (1)))))) + M 2 4 * (((0) + (-(M 1 1 * ((0) + M 0 3 * (1))))) + M 1 3 * ((0) + M 0 1 * (1))))))) + M 3 1 * ((((0) + M 2 0 * (((0) + (-(M 1 3 * ((0) + M 0 4 * (1))))) + M 1 4 * ((0) + M 0 3 * (1)))) + (-(M 2 3 * (((0) + (-(M 1 0 * ((0) + M 0 4 * (1))))) + M 1 4 * ((0) + M 0 0 * (1)))))) + M 2 4 * (((0) + (-(M 1 0 * ((0) + M 0 3 * (1))))) + M 1 3 * ((0) + M 0 0 * (1))))) + (-(M 3 3 * ((((0) + M 2 0 * (((0) + (-(M 1 1 * ((0) + M 0 4 * (1))))) + M 1 4 * ((0) + M 0 1 * (1)))) + (-(M 2 1 * (((0) + (-(M 1 0 * ((0) + M 0 4 * (1))))) + M 1 4 * ((0) + M 0 0 * (1)))))) + M 2 4 * (((0) + (-(M 1 0 * ((0) + M 0 1 * (1))))) + M 1 1 * ((0) + M 0 0 * (1))))))) + M 3 4 * ((((0) + M 2 0 * (((0) + (-(M 1 1 * ((0) + M 0 3 * (1))))) + M 1 3 * ((0) + M 0 1 * (1)))) + (-(M 2 1 * (((0) + (-(M 1 0 * ((0) + M 0 3 * (1))))) + M 1 3 * ((0) + M 0 0 * (1)))))) + M 2 3 * (((0) + (-(M 1 0 * ((0) + M 0 1 * (1))))) + M 1 1 * ((0) + M 0 0 * (1)))))) + (-(M 4 3 * (((((0) + (-(M 3 0 * ((((0) + M 2 1 * (((0) + (-(M 1 2 * ((0) + M 0 4 * (1))))) + M 1 4 * ((0) + M 0 2 * (1)))) + (-(M 2 2 * (((0) + (-(M 1 1 * ((0) + M 0 4 * (1))))) + M 1 4 * ((0) + M 0 1 * (1)))))) + M 2 4 * (((0) + (-(M 1 1 * ((0) + M 0 2 * (1))))) + M 1 2 * ((0) + M 0 1 * (1))))))) + M 3 1 * ((((0) + M 2 0 * (((0) + (-(M 1 2 * ((0) + M 0 4 * (1))))) + M 1 4 * ((0) + M 0 2 * (1)))) + (-(M 2 2 * (((0) + (-(M 1 0 * ((0) + M 0 4 * (1))))) + M 1 4 * ((0) + M 0 0 * (1)))))) + M 2 4 * (((0) + (-(M 1 0 * ((0) + M 0 2 * (1))))) + M 1 2 * ((0) + M 0 0 * (1))))) + (-(M 3 2 * ((((0) + M 2 0 * (((0) + (-(M 1 1 * ((0) + M 0 4 * (1))))) + M 1 4 * ((0) + M 0 1 * (1)))) + (-(M 2 1 * (((0) + (-(M 1 0 * ((0) + M 0 4 * (1))))) + M 1 4 * ((0) + M 0 0 * (1)))))) + M 2 4 * (((0) + (-(M 1 0 * ((0) + M 0 1 * (1))))) + M 1 1 * ((0) + M 0 0 * (1))))))) + M 3 4 * ((((0) + M 2 0 * (((0) + (-(M 1 1 * ((0) + M 0 2 * (1))))) + M 1 2 * ((0) + M 0 1 * (1)))) + (-(M 2 1 * (((0) + (-(M 1 0 * ((0) + M 0 2 * (1))))) + M 1 2 * ((0) + M 0 0 * (1)))))) + M 2 2 * (((0) + (-(M 1 0 * ((0) + M 0 1 * (1))))) + M 1 1 * ((0) + M 0 0 * (1)))))))) + M 4 4 * (((((0) + (-(M 3 0 * ((((0) + M 2 1 * (((0) + (-(M 1 2 * ((0) + M 0 3 * (1))))) + M 1 3 * ((0) + M 0 2 * (1)))) + (-(M 2 2 * (((0) + (-(M 1 1 * ((0) + M 0 3 * (1))))) + M 1 3 * ((0) + M 0 1 * (1)))))) + M 2 3 * (((0) + (-(M 1 1 * ((0) + M 0 2 * (1))))) + M 1 2 * ((0) + M 0 1 * (1))))))) + M 3 1 * ((((0) + M 2 0 * (((0) + (-(M 1 2 * ((0) + M 0 3 * (1))))) + M 1 3 * ((0) + M 0 2 * (1)))) + (-(M 2 2 * (((0) + (-(M 1 0 * ((0) + M 0 3 * (1))))) + M 1 3 * ((0) + M 0 0 * (1)))))) + M 2 3 * (((0) + (-(M 1 0 * ((0) + M 0 2 * (1))))) + M 1 2 * ((0) + M 0 0 * (1))))) + (-(M 3 2 * ((((0) + M 2 0 * (((0) + (-(M 1 1 * ((0) + M 0 3 * (1))))) + M 1 3 * ((0) + M 0 1 * (1)))) + (-(M 2 1 * (((0) + (-(M 1 0 * ((0) + M 0 3 * (1))))) + M 1 3 * ((0) + M 0 0 * (1)))))) + M 2 3 * (((0) + (-(M 1 0 * ((0) + M 0 1 * (1))))) + M 1 1 * ((0) + M 0 0 * (1))))))) + M 3 3 * ((((0) + M 2 0 * (((0) + (-(M 1 1 * ((0) + M 0 2 * (1))))) + M 1 2 * ((0) + M 0 1 * (1)))) + (-(M 2 1 * (((0) + (-(M 1 0 * ((0) + M 0 2 * (1))))) + M 1 2 * ((0) + M 0 0 * (1)))))) + M 2 2 * (((0) + (-(M 1 0 * ((0) + M 0 1 * (1))))) + M 1 1 * ((0) + M 0 0 * (1))))) := by kernel_rfl
theorem dsw2_0 {M N : Nat → Nat → Int} (h00 : N 0 0 = M 1 1) (h01 : N 0 1 = M 1 0) (h10 : N 1 0 = M 0 1) (h11 : N 1 1 = M 0 0) : detOf N 2 = detOf M 2 := by
  rw [det2, det2]
  simp only [h00, h01, h10, h11]
  grind
theorem dsw3_0 {M N : Nat → Nat → Int} (h00 : N 0 0 = M 1 1) (h01 : N 0 1 = M 1 0) (h02 : N 0 2 = M 1 2) (h10 : N 1 0 = M 0 1) (h11 : N 1 1 = M 0 0) (h12 : N 1 2 = M 0 2) (h20 : N 2 0 = M 2 1) (h21 : N 2 1 = M 2 0) (h22 : N 2 2 = M 2 2) : detOf N 3 = detOf M 3 := by
  rw [det3, det3]
  simp only [h00, h01, h02, h10, h11, h12, h20, h21, h22]
  grind
theorem dsw3_1 {M N : Nat → Nat → Int} (h00 : N 0 0 = M 0 0) (h01 : N 0 1 = M 0 2) (h02 : N 0 2 = M 0 1) (h10 : N 1 0 = M 2 0) (h11 : N 1 1 = M 2 2) (h12 : N 1 2 = M 2 1) (h20 : N 2 0 = M 1 0) (h21 : N 2 1 = M 1 2) (h22 : N 2 2 = M 1 1) : detOf N 3 = detOf M 3 := by
  rw [det3, det3]
  simp only [h00, h01, h02, h10, h11, h12, h20, h21, h22]
  grind
theorem dsw4_0 {M N : Nat → Nat → Int} (h00 : N 0 0 = M 1 1) (h01 : N 0 1 = M 1 0) (h02 : N 0 2 = M 1 2) (h03 : N 0 3 = M 1 3) (h10 : N 1 0 = M 0 1) (h11 : N 1 1 = M 0 0) (h12 : N 1 2 = M 0 2) (h13 : N 1 3 = M 0 3) (h20 : N 2 0 = M 2 1) (h21 : N 2 1 = M 2 0) (h22 : N 2 2 = M 2 2) (h23 : N 2 3 = M 2 3) (h30 : N 3 0 = M 3 1) (h31 : N 3 1 = M 3 0) (h32 : N 3 2 = M 3 2) (h33 : N 3 3 = M 3 3) : detOf N 4 = detOf M 4 := by
  rw [det4, det4]
  simp only [h00, h01, h02, h03, h10, h11, h12, h13, h20, h21, h22, h23, h30, h31, h32, h33]
  grind
theorem dsw4_1 {M N : Nat → Nat → Int} (h00 : N 0 0 = M 0 0) (h01 : N 0 1 = M 0 2) (h02 : N 0 2 = M 0 1) (h03 : N 0 3 = M 0 3) (h10 : N 1 0 = M 2 0) (h11 : N 1 1 = M 2 2) (h12 : N 1 2 = M 2 1) (h13 : N 1 3 = M 2 3) (h20 : N 2 0 = M 1 0) (h21 : N 2 1 = M 1 2) (h22 : N 2 2 = M 1 1) (h23 : N 2 3 = M 1 3) (h30 : N 3 0 = M 3 0) (h31 : N 3 1 = M 3 2) (h32 : N 3 2 = M 3 1) (h33 : N 3 3 = M 3 3) : detOf N 4 = detOf M 4 := by
  rw [det4, det4]
  simp only [h00, h01, h02, h03, h10, h11, h12, h13, h20, h21, h22, h23, h30, h31, h32, h33]
  grind
theorem dsw4_2 {M N : Nat → Nat → Int} (h00 : N 0 0 = M 0 0) (h01 : N 0 1 = M 0 1) (h02 : N 0 2 = M 0 3) (h03 : N 0 3 = M 0 2) (h10 : N 1 0 = M 1 0) (h11 : N 1 1 = M 1 1) (h12 : N 1 2 = M 1 3) (h13 : N 1 3 = M 1 2) (h20 : N 2 0 = M 3 0) (h21 : N 2 1 = M 3 1) (h22 : N 2 2 = M 3 3) (h23 : N 2 3 = M 3 2) (h30 : N 3 0 = M 2 0) (h31 : N 3 1 = M 2 1) (h32 : N 3 2 = M 2 3) (h33 : N 3 3 = M 2 2) : detOf N 4 = detOf M 4 := by
  rw [det4, det4]
  simp only [h00, h01, h02, h03, h10, h11, h12, h13, h20, h21, h22, h23, h30, h31, h32, h33]
  grind
theorem dsw5_0 {M N : Nat → Nat → Int} (h00 : N 0 0 = M 1 1) (h01 : N 0 1 = M 1 0) (h02 : N 0 2 = M 1 2) (h03 : N 0 3 = M 1 3) (h04 : N 0 4 = M 1 4) (h10 : N 1 0 = M 0 1) (h11 : N 1 1 = M 0 0) (h12 : N 1 2 = M 0 2) (h13 : N 1 3 = M 0 3) (h14 : N 1 4 = M 0 4) (h20 : N 2 0 = M 2 1) (h21 : N 2 1 = M 2 0) (h22 : N 2 2 = M 2 2) (h23 : N 2 3 = M 2 3) (h24 : N 2 4 = M 2 4) (h30 : N 3 0 = M 3 1) (h31 : N 3 1 = M 3 0) (h32 : N 3 2 = M 3 2) (h33 : N 3 3 = M 3 3) (h34 : N 3 4 = M 3 4) (h40 : N 4 0 = M 4 1) (h41 : N 4 1 = M 4 0) (h42 : N 4 2 = M 4 2) (h43 : N 4 3 = M 4 3) (h44 : N 4 4 = M 4 4) : detOf N 5 = detOf M 5 := by
  rw [det5, det5]
  simp only [h00, h01, h02, h03, h04, h10, h11, h12, h13, h14, h20, h21, h22, h23, h24, h30, h31, h32, h33, h34, h40, h41, h42, h43, h44]
  grind
theorem dsw5_1 {M N : Nat → Nat → Int} (h00 : N 0 0 = M 0 0) (h01 : N 0 1 = M 0 2) (h02 : N 0 2 = M 0 1) (h03 : N 0 3 = M 0 3) (h04 : N 0 4 = M 0 4) (h10 : N 1 0 = M 2 0) (h11 : N 1 1 = M 2 2) (h12 : N 1 2 = M 2 1) (h13 : N 1 3 = M 2 3) (h14 : N 1 4 = M 2 4) (h20 : N 2 0 = M 1 0) (h21 : N 2 1 = M 1 2) (h22 : N 2 2 = M 1 1) (h23 : N 2 3 = M 1 3) (h24 : N 2 4 = M 1 4) (h30 : N 3 0 = M 3 0) (h31 : N 3 1 = M 3 2) (h32 : N 3 2 = M 3 1) (h33 : N 3 3 = M 3 3) (h34 : N 3 4 = M 3 4) (h40 : N 4 0 = M 4 0) (h41 : N 4 1 = M 4 2) (h42 : N 4 2 = M 4 1) (h43 : N 4 3 = M 4 3) (h44 : N 4 4 = M 4 4) : detOf N 5 = detOf M 5 := by
  rw [det5, det5]
  simp only [h00, h01, h02, h03, h04, h10, h11, h12, h13, h14, h20, h21, h22, h23, h24, h30, h31, h32, h33, h34, h40, h41, h42, h43, h44]
  grind
theorem dsw5_2 {M N : Nat → Nat → Int} (h00 : N 0 0 = M 0 0) (h01 : N 0 1 = M 0 1) (h02 : N 0 2 = M 0 3) (h03 : N 0 3 = M 0 2) (h04 : N 0 4 = M 0 4) (h10 : N 1 0 = M 1 0) (h11 : N 1 1 = M 1 1) (h12 : N 1 2 = M 1 3) (h13 : N 1 3 = M 1 2) (h14 : N 1 4 = M 1 4) (h20 : N 2 0 = M 3 0) (h21 : N 2 1 = M 3 1) (h22 : N 2 2 = M 3 3) (h23 : N 2 3 = M 3 2) (h24 : N 2 4 = M 3 4) (h30 : N 3 0 = M 2 0) (h31 : N 3 1 = M 2 1) (h32 : N 3 2 = M 2 3) (h33 : N 3 3 = M 2 2) (h34 : N 3 4 = M 2 4) (h40 : N 4 0 = M 4 0) (h41 : N 4 1 = M 4 1) (h42 : N 4 2 = M 4 3) (h43 : N 4 3 = M 4 2) (h44 : N 4 4 = M 4 4) : detOf N 5 = detOf M 5 := by
  rw [det5, det5]
  simp only [h00, h01, h02, h03, h04, h10, h11, h12, h13, h14, h20, h21, h22, h23, h24, h30, h31, h32, h33, h34, h40, h41, h42, h43, h44]
  grind
theorem dsw5_3 {M N : Nat → Nat → Int} (h00 : N 0 0 = M 0 0) (h01 : N 0 1 = M 0 1) (h02 : N 0 2 = M 0 2) (h03 : N 0 3 = M 0 4) (h04 : N 0 4 = M 0 3) (h10 : N 1 0 = M 1 0) (h11 : N 1 1 = M 1 1) (h12 : N 1 2 = M 1 2) (h13 : N 1 3 = M 1 4) (h14 : N 1 4 = M 1 3) (h20 : N 2 0 = M 2 0) (h21 : N 2 1 = M 2 1) (h22 : N 2 2 = M 2 2) (h23 : N 2 3 = M 2 4) (h24 : N 2 4 = M 2 3) (h30 : N 3 0 = M 4 0) (h31 : N 3 1 = M 4 1) (h32 : N 3 2 = M 4 2) (h33 : N 3 3 = M 4 4) (h34 : N 3 4 = M 4 3) (h40 : N 4 0 = M 3 0) (h41 : N 4 1 = M 3 1) (h42 : N 4 2 = M 3 2) (h43 : N 4 3 = M 3 4) (h44 : N 4 4 = M 3 3) : detOf N 5 = detOf M 5 := by
  rw [det5, det5]
  simp only [h00, h01, h02, h03, h04, h10, h11, h12, h13, h14, h20, h21, h22, h23, h24, h30, h31, h32, h33, h34, h40, h41, h42, h43, h44]
  grind
theorem dmg2 {M N : Nat → Nat → Int} {f c ma mb  : Int} (g00 : M 0 0 = f - ma * c) (g11 : M 1 1 = f - mb * c) (g01 : M 0 1 = -(mb * c)) (g10 : M 1 0 = -(ma * c)) (e00 : N 0 0 = f - (ma + mb) * c) : detOf M 2 = f * detOf N 1 := by
  rw [det2, det1]
  simp only [g00, g11, g01, g10, e00]
  grind
theorem dmg3 {M N : Nat → Nat → Int} {f c ma mb x2 y2 : Int} (g00 : M 0 0 = f - ma * c) (g11 : M 1 1 = f - mb * c) (g01 : M 0 1 = -(mb * c)) (g10 : M 1 0 = -(ma * c)) (e00 : N 0 0 = f - (ma + mb) * c) (g02 : M 0 2 = x2) (g12 : M 1 2 = x2) (g20 : M 2 0 = ma * y2) (g21 : M 2 1 = mb * y2) (e01 : N 0 1 = x2) (e10 : N 1 0 = (ma + mb) * y2) (e11 : N 1 1 = M 2 2) : detOf M 3 = f * detOf N 2 := by
  rw [det3, det2]
  simp only [g00, g11, g01, g10, e00, g02, g12, g20, g21, e01, e10, e11]
  grind
theorem dmg4 {M N : Nat → Nat → Int} {f c ma mb x2 y2 x3 y3 : Int} (g00 : M 0 0 = f - ma * c) (g11 : M 1 1 = f - mb * c) (g01 : M 0 1 = -(mb * c)) (g10 : M 1 0 = -(ma * c)) (e00 : N 0 0 = f - (ma + mb) * c) (g02 : M 0 2 = x2) (g12 : M 1 2 = x2) (g20 : M 2 0 = ma * y2) (g21 : M 2 1 = mb * y2) (e01 : N 0 1 = x2) (e10 : N 1 0 = (ma + mb) * y2) (e11 : N 1 1 = M 2 2) (e12 : N 1 2 = M 2 3) (g03 : M 0 3 = x3) (g13 : M 1 3 = x3) (g30 : M 3 0 = ma * y3) (g31 : M 3 1 = mb * y3) (e02 : N 0 2 = x3) (e20 : N 2 0 = (ma + mb) * y3) (e21 : N 2 1 = M 3 2) (e22 : N 2 2 = M 3 3) : detOf M 4 = f * detOf N 3 := by
  rw [det4, det3]
  simp only [g00, g11, g01, g10, e00, g02, g12, g20, g21, e01, e10, e11, e12, g03, g13, g30, g31, e02, e20, e21, e22]
  grind
theorem dmg5 {M N : Nat → Nat → Int} {f c ma mb x2 y2 x3 y3 x4 y4 : Int} (g00 : M 0 0 = f - ma * c) (g11 : M 1 1 = f - mb * c) (g01 : M 0 1 = -(mb * c)) (g10 : M 1 0 = -(ma * c)) (e00 : N 0 0 = f - (ma + mb) * c) (g02 : M 0 2 = x2) (g12 : M 1 2 = x2) (g20 : M 2 0 = ma * y2) (g21 : M 2 1 = mb * y2) (e01 : N 0 1 = x2) (e10 : N 1 0 = (ma + mb) * y2) (e11 : N 1 1 = M 2 2) (e12 : N 1 2 = M 2 3) (e13 : N 1 3 = M 2 4) (g03 : M 0 3 = x3) (g13 : M 1 3 = x3) (g30 : M 3 0 = ma * y3) (g31 : M 3 1 = mb * y3) (e02 : N 0 2 = x3) (e20 : N 2 0 = (ma + mb) * y3) (e21 : N 2 1 = M 3 2) (e22 : N 2 2 = M 3 3) (e23 : N 2 3 = M 3 4) (g04 : M 0 4 = x4) (g14 : M 1 4 = x4) (g40 : M 4 0 = ma * y4) (g41 : M 4 1 = mb * y4) (e03 : N 0 3 = x4) (e30 : N 3 0 = (ma + mb) * y4) (e31 : N 3 1 = M 4 2) (e32 : N 3 2 = M 4 3) (e33 : N 3 3 = M 4 4) : detOf M 5 = f * detOf N 4 := by
  rw [det5, det4]
  simp only [g00, g11, g01, g10, e00, g02, g12, g20, g21, e01, e10, e11, e12, e13, g03, g13, g30, g31, e02, e20, e21, e22, e23, g04, g14, g40, g41, e03, e30, e31, e32, e33]
  grind
end
section
open PySem
set_option maxRecDepth 100000
theorem lcp_cc (x y : Nat) (a b : List Nat) : lcp (x :: a) (y :: b) = if x = y then x :: lcp a b else [] := by conv => lhs; unfold lcp
theorem lcp_n (b : List Nat) : lcp [] b = [] := by unfold lcp; rfl
theorem lcp_r (a : List Nat) : lcp a [] = [] := by cases a <;> (unfold lcp; rfl)
noncomputable def cl (a b : List Nat) : Nat := (lcp a b).length
theorem cl_comm (a b : List Nat) : cl a b = cl b a := by unfold cl; rw [lcp_comm]
theorem cl_le (a b : List Nat) : cl a b ≤ a.length := lcp_len a b
theorem lcp_take : ∀ a b : List Nat, lcp a b = a.take (cl a b)
  | [], b => by unfold cl; rw [lcp_n]; rfl
  | x :: a, [] => by unfold cl; rw [lcp_r]; rfl
  | x :: a, y :: b => by
    unfold cl
    rw [lcp_cc]
    by_cases h : x = y
    · rw [if_pos h, List.length_cons, List.take_succ_cons]; exact congrArg (x :: ·) (lcp_take a b)
    · rw [if_neg h]; rfl
theorem lcp_self : ∀ a : List Nat, lcp a a = a
  | [] => rfl
  | x :: a => by rw [lcp_cc, if_pos rfl, lcp_self a]
theorem ultra : ∀ a b c : List Nat, cl a b ≤ cl a c ∨ cl b c ≤ cl a c
  | [], b, c => .inl (by unfold cl; rw [lcp_n]; exact Nat.zero_le _)
  | x :: a, [], c => .inl (by unfold cl; rw [lcp_r]; exact Nat.zero_le _)
  | x :: a, y :: b, [] => .inr (by unfold cl; rw [lcp_r]; exact Nat.zero_le _)
  | x :: a, y :: b, z :: c => by
    unfold cl
    rw [lcp_cc, lcp_cc, lcp_cc]
    by_cases h : x = y
    · subst h
      by_cases h' : x = z
      · subst h'
        rw [if_pos rfl, if_pos rfl]
        rcases ultra a b c with h | h
        · exact .inl (Nat.succ_le_succ h)
        · exact .inr (by rw [if_pos rfl]; exact Nat.succ_le_succ h)
      · exact .inr (by rw [if_neg h']; exact Nat.zero_le _)
    · exact .inl (by rw [if_neg h]; exact Nat.zero_le _)
theorem lcp_merge : ∀ a b c : List Nat, cl a c ≤ cl a b → cl b c ≤ cl a b → lcp b c = lcp a c ∧ lcp (lcp a b) c = lcp a c
  | [], b, c, _, h => by
    unfold cl at h
    rw [lcp_n] at h
    rw [lcp_n, lcp_n]
    exact ⟨List.length_eq_zero_iff.mp (Nat.le_zero.mp h), lcp_n c⟩
  | x :: a, [], c, h, _ => by
    unfold cl at h
    rw [lcp_r] at h
    rw [lcp_r, lcp_n]
    exact ⟨(List.length_eq_zero_iff.mp (Nat.le_zero.mp h)).symm, (List.length_eq_zero_iff.mp (Nat.le_zero.mp h)).symm⟩
  | x :: a, y :: b, [], _, _ => ⟨by rw [lcp_r, lcp_r], by rw [lcp_r, lcp_r]⟩
  | x :: a, y :: b, z :: c, h1, h2 => by
    unfold cl at h1 h2
    rw [lcp_cc, lcp_cc] at h1 h2
    rw [lcp_cc, lcp_cc, lcp_cc]
    by_cases h : x = y
    · subst h
      by_cases h' : x = z
      · subst h'
        have k1 : (x :: lcp a c).length ≤ (x :: lcp a b).length := by simpa using h1
        have k2 : (x :: lcp b c).length ≤ (x :: lcp a b).length := by simpa using h2
        obtain ⟨g1, g2⟩ := lcp_merge a b c (Nat.le_of_succ_le_succ k1) (Nat.le_of_succ_le_succ k2)
        simp only [if_true, lcp_cc, g1, g2, and_self]
      · simp only [if_true, lcp_cc, if_neg h', and_self]
    · rw [if_neg h] at h1 h2
      rw [if_neg h, lcp_n]
      have e1 := List.length_eq_zero_iff.mp (Nat.le_zero.mp h1)
      have e2 := List.length_eq_zero_iff.mp (Nat.le_zero.mp h2)
      exact ⟨by rw [e2, e1], by rw [e1]⟩
theorem lcp_pq (a b : List Nat) : lcp (lcp a b) a = lcp a b ∧ lcp (lcp a b) b = lcp a b := by
  have e : ∀ a b : List Nat, lcp (lcp a b) a = lcp a b := fun a b => by
    rw [lcp_take a b]
    generalize cl a b = k
    induction a generalizing k with
    | nil => rw [List.take_nil]; rfl
    | cons x a ih =>
      cases k with
      | zero => rfl
      | succ k => rw [List.take_succ_cons, lcp_cc, if_pos rfl, ih]
  exact ⟨e a b, by rw [lcp_comm a b]; exact e b a⟩
theorem perm_swaps {α β : Type} (V : List α → β) (N : Nat) (h : ∀ (q : List α) (x y : α) (r : List α), (q ++ x :: y :: r).length ≤ N → V (q ++ x :: y :: r) = V (q ++ y :: x :: r)) {l l' : List α} (hp : l.Perm l') : ∀ q : List α, (q ++ l).length ≤ N → V (q ++ l) = V (q ++ l') := by
  induction hp with
  | nil => intro q _; rfl
  | cons x _ ih =>
    intro q hl
    have := ih (q ++ [x]) (by simp at hl ⊢; lia)
    simpa using this
  | swap x y l => intro q hl; exact h q y x l hl
  | trans p1 p2 ih1 ih2 =>
    intro q hl
    rw [ih1 q hl]
    exact ih2 q (by rw [List.length_append, ← p1.length_eq, ← List.length_append]; exact hl)
theorem exists_max {P : Nat → Prop} : ∀ B : Nat, (∀ k, P k → k ≤ B) → (∃ k, P k) → ∃ k, P k ∧ ∀ j, P j → j ≤ k
  | 0, hB, ⟨k, hk⟩ => ⟨k, hk, fun j hj => Nat.le_trans (hB j hj) (Nat.zero_le _)⟩
  | B + 1, hB, hx => by
    by_cases h : P (B + 1)
    · exact ⟨B + 1, h, fun j hj => hB j hj⟩
    · exact exists_max B (fun k hk => by have := hB k hk; rcases Nat.lt_or_ge B k with q | q; · exact absurd (by rw [show B + 1 = k by lia]; exact hk) h
                                         · exact q) hx
/-- the length a name shares with the names seen -/
noncomputable def bl (x : List Nat) : List (List Nat) → Nat
  | [] => 0
  | s :: l => max (cl x s) (bl x l)
noncomputable def best (x : List Nat) (l : List (List Nat)) : List Nat := x.take (bl x l)
noncomputable def Gacc (f : List Nat → Int) (seen : List (List Nat)) : List (List Nat) → Int
  | [] => 1
  | x :: l => f (best x seen) * Gacc f (x :: seen) l
noncomputable def Gf (f : List Nat → Int) : List (List Nat) → Int
  | [] => 1
  | x :: l => Gacc f [x] l
theorem bl_swap (z x y : List Nat) (l : List (List Nat)) : bl z (x :: y :: l) = bl z (y :: x :: l) := by unfold bl bl; lia
theorem gacc_seen (f : List Nat → Int) : ∀ (l s s' : List (List Nat)), (∀ z, bl z s = bl z s') → Gacc f s l = Gacc f s' l
  | [], _, _, _ => rfl
  | x :: l, s, s', h => by
    unfold Gacc
    rw [show best x s = best x s' by unfold best; rw [h x], gacc_seen f l (x :: s) (x :: s') (fun z => by unfold bl; rw [h z])]
theorem bl_cases (x y : List Nat) : ∀ l : List (List Nat), (bl x l = bl y l) ∨ (cl x y ≤ bl x l ∧ cl x y ≤ bl y l)
  | [] => .inl rfl
  | s :: l => by
    unfold bl
    have u1 := ultra x y s
    have u2 := ultra y x s
    have u3 := ultra x s y
    rw [cl_comm y x] at u2
    rw [cl_comm s y] at u3
    have u4 := ultra y s x
    rw [cl_comm s x, cl_comm y x] at u4
    rcases bl_cases x y l with h | h <;> lia
theorem take_cl (x y : List Nat) {k : Nat} (h : k ≤ cl x y) : x.take k = y.take k := by
  have e1 : (lcp x y).take k = x.take k := by rw [lcp_take x y, List.take_take, Nat.min_eq_left h]
  have e2 : (lcp x y).take k = y.take k := by rw [lcp_comm x y, lcp_take y x, List.take_take, Nat.min_eq_left (by rw [cl_comm]; exact h)]
  rw [← e1, e2]
theorem gacc_swap (f : List Nat → Int) (x y : List Nat) (l s : List (List Nat)) : Gacc f s (x :: y :: l) = Gacc f s (y :: x :: l) := by
  show f (best x s) * (f (best y (x :: s)) * Gacc f (y :: x :: s) l) = f (best y s) * (f (best x (y :: s)) * Gacc f (x :: y :: s) l)
  rw [gacc_seen f l (y :: x :: s) (x :: y :: s) (fun z => bl_swap z y x s), ← Int.mul_assoc, ← Int.mul_assoc]
  congr 1
  unfold best
  show f (x.take (bl x s)) * f (y.take (max (cl y x) (bl y s))) = f (y.take (bl y s)) * f (x.take (max (cl x y) (bl x s)))
  rw [cl_comm y x]
  rcases bl_cases x y s with h | h
  · rw [h]
    rcases Nat.le_total (bl y s) (cl x y) with g | g
    · rw [Nat.max_eq_left g, take_cl x y g, take_cl x y (Nat.le_refl _)]
    · rw [Nat.max_eq_right g, Int.mul_comm]
  · rw [Nat.max_eq_right h.1, Nat.max_eq_right h.2, Int.mul_comm]
theorem gacc_swaps (f : List Nat → Int) (x y : List Nat) (l : List (List Nat)) : ∀ q s : List (List Nat), Gacc f s (q ++ x :: y :: l) = Gacc f s (q ++ y :: x :: l)
  | [], s => gacc_swap f x y l s
  | c :: q, s => by
    show f (best c s) * Gacc f (c :: s) (q ++ x :: y :: l) = f (best c s) * Gacc f (c :: s) (q ++ y :: x :: l)
    rw [gacc_swaps f x y l q (c :: s)]
theorem best_one (x y : List Nat) : best x [y] = lcp x y := by
  unfold best bl bl
  rw [Nat.max_eq_left (Nat.zero_le _), ← lcp_take]
theorem gf_swaps (f : List Nat → Int) (x y : List Nat) (l : List (List Nat)) : ∀ q : List (List Nat), Gf f (q ++ x :: y :: l) = Gf f (q ++ y :: x :: l)
  | [] => by
    show f (best y [x]) * Gacc f (y :: [x]) l = f (best x [y]) * Gacc f (x :: [y]) l
    rw [best_one, best_one, lcp_comm y x, gacc_seen f l _ _ (fun z => bl_swap z y x [])]
  | c :: q => gacc_swaps f x y l q [c]
theorem gacc_merge (f : List Nat → Int) (a b p : List Nat) : ∀ (l s : List (List Nat)), (∀ c ∈ l, cl c a = cl c p ∧ cl c b = cl c p) → (∀ c ∈ l, bl c (b :: a :: []) = bl c [p]) → ∀ u u' : List (List Nat), (∀ c ∈ l, bl c u = bl c u') → Gacc f u l = Gacc f u' l
  | [], _, _, _, _, _, _ => rfl
  | x :: l, s, h1, h2, u, u', h => by
    unfold Gacc
    rw [show best x u = best x u' by unfold best; rw [h x (List.mem_cons_self ..)], gacc_merge f a b p l s (fun c hc => h1 c (List.mem_cons_of_mem _ hc)) (fun c hc => h2 c (List.mem_cons_of_mem _ hc)) (x :: u) (x :: u') (fun c hc => by unfold bl; rw [h c (List.mem_cons_of_mem _ hc)])]
theorem gf_merge (f : List Nat → Int) (a b : List Nat) (l : List (List Nat)) (h : ∀ c ∈ l, cl a c ≤ cl a b ∧ cl b c ≤ cl a b) : Gf f (a :: b :: l) = f (lcp a b) * Gf f (lcp a b :: l) := by
  show f (best b [a]) * Gacc f (b :: [a]) l = f (lcp a b) * Gacc f [lcp a b] l
  rw [best_one, lcp_comm b a]
  congr 1
  have key : ∀ c ∈ l, cl c a = cl c (lcp a b) ∧ cl c b = cl c (lcp a b) := fun c hc => by
    obtain ⟨g1, g2⟩ := lcp_merge a b c (h c hc).1 (h c hc).2
    rw [cl_comm c a, cl_comm c b, cl_comm c (lcp a b)]
    unfold cl
    exact ⟨by rw [g2], by rw [g1, g2]⟩
  have k2 : ∀ c ∈ l, bl c (b :: [a]) = bl c [lcp a b] := fun c hc => by
    obtain ⟨g1, g2⟩ := key c hc
    unfold bl bl bl
    lia
  exact gacc_merge f a b (lcp a b) l [] key k2 _ _ k2
end
section
open PySem
set_option maxRecDepth 100000
set_option maxHeartbeats 4000000
noncomputable abbrev Nm := List Nat × Int
/-- what one place gathers -/
noncomputable def Fs (w : List Nat → Int) (q : List Nat) : List Nm → Int
  | [] => 0
  | s :: l => s.2 * w (lcp q s.1) + Fs w q l
noncomputable def Fq (w : List Nat → Int) (t : Int) (l : List Nm) (q : List Nat) : Int := t + Fs w q l
noncomputable def Mx (w : List Nat → Int) (t : Int) (l : List Nm) (i j : Nat) : Int :=
  if i = j then Fq w t l (l.getD i ([], 0)).1 - (l.getD i ([], 0)).2 * w (l.getD i ([], 0)).1
  else -((l.getD j ([], 0)).2 * w (lcp (l.getD i ([], 0)).1 (l.getD j ([], 0)).1))
noncomputable def Dt (w : List Nat → Int) (t : Int) (l : List Nm) : Int := detOf (Mx w t l) l.length
theorem fs_swap (w : List Nat → Int) (z : List Nat) (x y : Nm) (l : List Nm) : ∀ q : List Nm, Fs w z (q ++ x :: y :: l) = Fs w z (q ++ y :: x :: l)
  | [] => by show x.2 * _ + (y.2 * _ + Fs w z l) = y.2 * _ + (x.2 * _ + Fs w z l); lia
  | c :: q => by show c.2 * _ + Fs w z (q ++ _) = c.2 * _ + Fs w z (q ++ _); rw [fs_swap w z x y l q]
noncomputable def sg (k i : Nat) : Nat := if i = k then k + 1 else if i = k + 1 then k else i
theorem getD_swap (x y d : Nm) (l : List Nm) : ∀ (q : List Nm) (i : Nat), (q ++ x :: y :: l).getD i d = (q ++ y :: x :: l).getD (sg q.length i) d
  | [], 0 => rfl
  | [], 1 => rfl
  | [], i + 2 => by
    rw [show sg ([] : List Nm).length (i + 2) = i + 2 from rfl]; rfl
  | c :: q, 0 => by rw [show sg (c :: q).length 0 = 0 by unfold sg; simp]; rfl
  | c :: q, i + 1 => by
    rw [show sg (c :: q).length (i + 1) = sg q.length i + 1 by unfold sg; simp only [List.length_cons, Nat.add_right_cancel_iff]; split <;> (try split) <;> rfl]
    exact getD_swap x y d l q i
theorem sg_inj (k : Nat) {i j : Nat} : sg k i = sg k j ↔ i = j := by
  unfold sg
  constructor
  · intro h; split at h <;> split at h <;> (try split at h) <;> (try split at h) <;> lia
  · intro h; rw [h]
theorem mx_swap (w : List Nat → Int) (t : Int) (q : List Nm) (x y : Nm) (l : List Nm) (i j : Nat) : Mx w t (q ++ x :: y :: l) i j = Mx w t (q ++ y :: x :: l) (sg q.length i) (sg q.length j) := by
  unfold Mx Fq
  rw [getD_swap x y _ l q i, getD_swap x y _ l q j, fs_swap]
  by_cases h : i = j
  · rw [if_pos h, if_pos ((sg_inj _).mpr h)]
  · rw [if_neg h, if_neg (fun e => h ((sg_inj _).mp e))]
theorem dt_swap (w : List Nat → Int) (t : Int) (q : List Nm) (x y : Nm) (l : List Nm) (h : (q ++ x :: y :: l).length ≤ 5) : Dt w t (q ++ x :: y :: l) = Dt w t (q ++ y :: x :: l) := by
  have m := mx_swap w t q x y l
  unfold Dt
  rw [show (q ++ y :: x :: l).length = (q ++ x :: y :: l).length by simp]
  generalize Mx w t (q ++ x :: y :: l) = N at m
  generalize Mx w t (q ++ y :: x :: l) = M at m
  have hn : (q ++ x :: y :: l).length = q.length + 2 + l.length := by simp; lia
  rw [hn] at h ⊢
  generalize q.length = k at m h
  generalize l.length = r at h
  have hk : k ≤ 3 := by lia
  have hr : r ≤ 3 := by lia
  match k, r, hk, hr, h with
  | 0, 0, _, _, _ => exact dsw2_0 (m 0 0) (m 0 1) (m 1 0) (m 1 1)
  | 0, 1, _, _, _ => apply dsw3_0 <;> exact m _ _
  | 1, 0, _, _, _ => apply dsw3_1 <;> exact m _ _
  | 0, 2, _, _, _ => apply dsw4_0 <;> exact m _ _
  | 1, 1, _, _, _ => apply dsw4_1 <;> exact m _ _
  | 2, 0, _, _, _ => apply dsw4_2 <;> exact m _ _
  | 0, 3, _, _, _ => apply dsw5_0 <;> exact m _ _
  | 1, 2, _, _, _ => apply dsw5_1 <;> exact m _ _
  | 2, 1, _, _, _ => apply dsw5_2 <;> exact m _ _
  | 3, 0, _, _, _ => apply dsw5_3 <;> exact m _ _
  | 1, 3, _, _, h => lia
  | 2, 2, _, _, h => lia
  | 2, 3, _, _, h => lia
  | 3, 1, _, _, h => lia
  | 3, 2, _, _, h => lia
  | 3, 3, _, _, h => lia
theorem fs_merge (w : List Nat → Int) (a b p z : List Nat) (ma mb : Int) (l : List Nm) (h1 : lcp z a = lcp z p) (h2 : lcp z b = lcp z p) : Fs w z ((a, ma) :: (b, mb) :: l) = Fs w z ((p, ma + mb) :: l) := by
  show ma * w (lcp z a) + (mb * w (lcp z b) + Fs w z l) = (ma + mb) * w (lcp z p) + Fs w z l
  rw [h1, h2, Int.add_mul]; lia
theorem dt_merge (w : List Nat → Int) (t : Int) (a b : List Nat) (ma mb : Int) (l : List Nm) (hl : l.length ≤ 3) (h : ∀ c ∈ l, cl a c.1 ≤ cl a b ∧ cl b c.1 ≤ cl a b) :
    Dt w t ((a, ma) :: (b, mb) :: l) = Fq w t ((lcp a b, ma + mb) :: l) (lcp a b) * Dt w t ((lcp a b, ma + mb) :: l) := by
  have key : ∀ c ∈ l, lcp a c.1 = lcp (lcp a b) c.1 ∧ lcp b c.1 = lcp (lcp a b) c.1 ∧ lcp c.1 a = lcp c.1 (lcp a b) ∧ lcp c.1 b = lcp c.1 (lcp a b) := fun c hc => by
    obtain ⟨g1, g2⟩ := lcp_merge a b c.1 (h c hc).1 (h c hc).2
    rw [lcp_comm c.1 a, lcp_comm c.1 b, lcp_comm c.1 (lcp a b), g1, g2]
    exact ⟨rfl, rfl, rfl, rfl⟩
  have fl : ∀ (l' : List Nm), (∀ c ∈ l', lcp a c.1 = lcp (lcp a b) c.1 ∧ lcp b c.1 = lcp (lcp a b) c.1) → Fs w a l' = Fs w (lcp a b) l' ∧ Fs w b l' = Fs w (lcp a b) l' := by
    intro l'
    induction l' with
    | nil => intro _; exact ⟨rfl, rfl⟩
    | cons c l' ih =>
      intro hc
      obtain ⟨i1, i2⟩ := ih (fun c' h' => hc c' (List.mem_cons_of_mem _ h'))
      obtain ⟨j1, j2⟩ := hc c (List.mem_cons_self ..)
      unfold Fs
      rw [j1, j2, i1, i2]
      exact ⟨rfl, rfl⟩
  obtain ⟨fa, fb⟩ := fl l (fun c hc => ⟨(key c hc).1, (key c hc).2.1⟩)
  obtain ⟨pa, pb⟩ := lcp_pq a b
  have e00 : Fq w t ((a, ma) :: (b, mb) :: l) a - ma * w a = Fq w t ((lcp a b, ma + mb) :: l) (lcp a b) - ma * w (lcp a b) := by
    show t + (ma * w (lcp a a) + (mb * w (lcp a b) + Fs w a l)) - ma * w a = t + ((ma + mb) * w (lcp (lcp a b) (lcp a b)) + Fs w (lcp a b) l) - ma * w (lcp a b)
    rw [lcp_self, lcp_self, fa, Int.add_mul]; lia
  have e11 : Fq w t ((a, ma) :: (b, mb) :: l) b - mb * w b = Fq w t ((lcp a b, ma + mb) :: l) (lcp a b) - mb * w (lcp a b) := by
    show t + (ma * w (lcp b a) + (mb * w (lcp b b) + Fs w b l)) - mb * w b = t + ((ma + mb) * w (lcp (lcp a b) (lcp a b)) + Fs w (lcp a b) l) - mb * w (lcp a b)
    rw [lcp_self, lcp_self, fb, lcp_comm b a, Int.add_mul]; lia
  have fc : ∀ c ∈ l, Fq w t ((a, ma) :: (b, mb) :: l) c.1 = Fq w t ((lcp a b, ma + mb) :: l) c.1 := fun c hc => by
    unfold Fq
    rw [fs_merge w a b (lcp a b) c.1 ma mb l (key c hc).2.2.1 (key c hc).2.2.2]
  have m10 : Mx w t ((a, ma) :: (b, mb) :: l) 1 0 = -(ma * w (lcp a b)) := by
    show -(ma * w (lcp b a)) = _
    rw [lcp_comm b a]
  have gm : ∀ k, k < l.length → l.getD k ([], 0) ∈ l := fun k hk => by
    rw [List.getD_eq_getElem?_getD, List.getElem?_eq_getElem hk]; exact List.getElem_mem _
  have r0 : ∀ k, k < l.length → Mx w t ((a, ma) :: (b, mb) :: l) 0 (k + 2) = -((l.getD k ([], 0)).2 * w (lcp (lcp a b) (l.getD k ([], 0)).1)) := fun k hk => by
    show -((l.getD k ([], 0)).2 * w (lcp a (l.getD k ([], 0)).1)) = _
    rw [(key _ (gm k hk)).1]
  have r1 : ∀ k, k < l.length → Mx w t ((a, ma) :: (b, mb) :: l) 1 (k + 2) = -((l.getD k ([], 0)).2 * w (lcp (lcp a b) (l.getD k ([], 0)).1)) := fun k hk => by
    unfold Mx
    rw [if_neg (by lia)]
    show -((l.getD k ([], 0)).2 * w (lcp b (l.getD k ([], 0)).1)) = _
    rw [(key _ (gm k hk)).2.1]
  have c0 : ∀ k, k < l.length → Mx w t ((a, ma) :: (b, mb) :: l) (k + 2) 0 = ma * (-w (lcp (l.getD k ([], 0)).1 (lcp a b))) := fun k hk => by
    unfold Mx
    rw [if_neg (by lia)]
    show -(ma * w (lcp (l.getD k ([], 0)).1 a)) = _
    rw [(key _ (gm k hk)).2.2.1, Int.mul_neg]
  have c1 : ∀ k, k < l.length → Mx w t ((a, ma) :: (b, mb) :: l) (k + 2) 1 = mb * (-w (lcp (l.getD k ([], 0)).1 (lcp a b))) := fun k hk => by
    unfold Mx
    rw [if_neg (by lia)]
    show -(mb * w (lcp (l.getD k ([], 0)).1 b)) = _
    rw [(key _ (gm k hk)).2.2.2, Int.mul_neg]
  have n0 : ∀ k, k < l.length → Mx w t ((lcp a b, ma + mb) :: l) 0 (k + 1) = -((l.getD k ([], 0)).2 * w (lcp (lcp a b) (l.getD k ([], 0)).1)) := fun k hk => by
    unfold Mx
    rw [if_neg (by lia)]
    rfl
  have n1 : ∀ k, k < l.length → Mx w t ((lcp a b, ma + mb) :: l) (k + 1) 0 = (ma + mb) * (-w (lcp (l.getD k ([], 0)).1 (lcp a b))) := fun k hk => by
    unfold Mx
    rw [if_neg (by lia), Int.mul_neg]
    rfl
  have nm : ∀ i j, i < l.length → Mx w t ((lcp a b, ma + mb) :: l) (i + 1) (j + 1) = Mx w t ((a, ma) :: (b, mb) :: l) (i + 2) (j + 2) := fun i j hi => by
    unfold Mx
    by_cases e : i = j
    · rw [if_pos (by lia), if_pos (by lia)]
      subst e
      show Fq w t ((lcp a b, ma + mb) :: l) (l.getD i ([], 0)).1 - _ = Fq w t ((a, ma) :: (b, mb) :: l) (l.getD i ([], 0)).1 - _
      rw [fc _ (gm i hi)]
      rfl
    · rw [if_neg (by lia), if_neg (by lia)]
      rfl
  unfold Dt
  have hll : ((a, ma) :: (b, mb) :: l).length = l.length + 2 := rfl
  have hl2 : ((lcp a b, ma + mb) :: l).length = l.length + 1 := rfl
  rw [hll, hl2]
  have g00 : Mx w t ((a, ma) :: (b, mb) :: l) 0 0 = Fq w t ((lcp a b, ma + mb) :: l) (lcp a b) - ma * w (lcp a b) := e00
  have g11 : Mx w t ((a, ma) :: (b, mb) :: l) 1 1 = Fq w t ((lcp a b, ma + mb) :: l) (lcp a b) - mb * w (lcp a b) := e11
  have g01 : Mx w t ((a, ma) :: (b, mb) :: l) 0 1 = -(mb * w (lcp a b)) := rfl
  have f00 : Mx w t ((lcp a b, ma + mb) :: l) 0 0 = Fq w t ((lcp a b, ma + mb) :: l) (lcp a b) - (ma + mb) * w (lcp a b) := rfl
  generalize Mx w t ((a, ma) :: (b, mb) :: l) = M at *
  generalize Mx w t ((lcp a b, ma + mb) :: l) = N at *
  generalize l.length = n at *
  match n, hl with
  | 0, _ => exact dmg2 g00 g11 g01 m10 f00
  | 1, _ =>
    exact dmg3 g00 g11 g01 m10 f00 (r0 0 (by lia)) (r1 0 (by lia)) (c0 0 (by lia)) (c1 0 (by lia)) (n0 0 (by lia)) (n1 0 (by lia)) (nm 0 0 (by lia))
  | 2, _ =>
    apply dmg4 g00 g11 g01 m10 f00 (r0 0 (by lia)) (r1 0 (by lia)) (c0 0 (by lia)) (c1 0 (by lia)) (n0 0 (by lia)) (n1 0 (by lia)) (nm 0 0 (by lia)) (nm 0 1 (by lia)) (r0 1 (by lia)) (r1 1 (by lia)) (c0 1 (by lia)) (c1 1 (by lia)) (n0 1 (by lia)) (n1 1 (by lia)) <;> exact nm _ _ (by lia)
  | 3, _ =>
    apply dmg5 g00 g11 g01 m10 f00 (r0 0 (by lia)) (r1 0 (by lia)) (c0 0 (by lia)) (c1 0 (by lia)) (n0 0 (by lia)) (n1 0 (by lia)) (nm 0 0 (by lia)) (nm 0 1 (by lia)) (nm 0 2 (by lia)) (r0 1 (by lia)) (r1 1 (by lia)) (c0 1 (by lia)) (c1 1 (by lia)) (n0 1 (by lia)) (n1 1 (by lia)) (nm 1 0 (by lia)) (nm 1 1 (by lia)) (nm 1 2 (by lia)) (r0 2 (by lia)) (r1 2 (by lia)) (c0 2 (by lia)) (c1 2 (by lia)) (n0 2 (by lia)) (n1 2 (by lia)) <;> exact nm _ _ (by lia)
theorem gf_congr (f g : List Nat → Int) : ∀ (l s : List (List Nat)), (∀ x ∈ l, ∀ s', f (best x s') = g (best x s')) → Gacc f s l = Gacc g s l
  | [], _, _ => rfl
  | x :: l, s, h => by
    unfold Gacc
    rw [h x (List.mem_cons_self ..), gf_congr f g l (x :: s) (fun y hy => h y (List.mem_cons_of_mem _ hy))]
theorem gf_ext {f g : List Nat → Int} (h : ∀ q, f q = g q) (l : List (List Nat)) : Gf f l = Gf g l := by
  rw [show f = g from funext h]
end
section
open PySem
set_option maxRecDepth 100000
noncomputable def Rt (w : List Nat → Int) (t : Int) (l : List Nm) : Int := t * Gf (Fq w t l) (l.map (·.1))
theorem rt_swap (w : List Nat → Int) (t : Int) (q : List Nm) (x y : Nm) (l : List Nm) : Rt w t (q ++ x :: y :: l) = Rt w t (q ++ y :: x :: l) := by
  unfold Rt
  rw [gf_ext (f := Fq w t (q ++ x :: y :: l)) (g := Fq w t (q ++ y :: x :: l)) (fun z => by unfold Fq; rw [fs_swap])]
  simp only [List.map_append, List.map_cons]
  rw [gf_swaps]
theorem lcp_taken : ∀ (k : Nat) (x a : List Nat), lcp (x.take k) a = (lcp x a).take k
  | 0, x, a => by rw [List.take_zero, List.take_zero, lcp_n]
  | k + 1, [], a => by rw [List.take_nil, lcp_n, List.take_nil]
  | k + 1, x :: l, [] => by rw [lcp_r, lcp_r, List.take_nil]
  | k + 1, x :: l, y :: a => by
    rw [List.take_succ_cons, lcp_cc, lcp_cc]
    by_cases h : x = y
    · rw [if_pos h, if_pos h, List.take_succ_cons, lcp_taken k l a]
    · rw [if_neg h, if_neg h, List.take_nil]
theorem rt_merge (w : List Nat → Int) (t : Int) (a b : List Nat) (ma mb : Int) (l : List Nm) (h : ∀ c ∈ l, cl a c.1 ≤ cl a b ∧ cl b c.1 ≤ cl a b) :
    Rt w t ((a, ma) :: (b, mb) :: l) = Fq w t ((lcp a b, ma + mb) :: l) (lcp a b) * Rt w t ((lcp a b, ma + mb) :: l) := by
  unfold Rt
  simp only [List.map_cons]
  rw [gf_merge _ a b (l.map (·.1)) (fun c hc => by obtain ⟨d, hd, rfl⟩ := List.mem_map.mp hc; exact h d hd)]
  obtain ⟨pa, pb⟩ := lcp_pq a b
  have e0 : Fq w t ((a, ma) :: (b, mb) :: l) (lcp a b) = Fq w t ((lcp a b, ma + mb) :: l) (lcp a b) := by
    unfold Fq
    rw [fs_merge w a b (lcp a b) (lcp a b) ma mb l (by rw [pa, lcp_self]) (by rw [pb, lcp_self])]
  rw [e0]
  have e1 : Gf (Fq w t ((a, ma) :: (b, mb) :: l)) (lcp a b :: l.map (·.1)) = Gf (Fq w t ((lcp a b, ma + mb) :: l)) (lcp a b :: l.map (·.1)) := by
    refine gf_congr _ _ _ _ fun x hx s' => ?_
    obtain ⟨d, hd, rfl⟩ := List.mem_map.mp hx
    obtain ⟨g1, g2⟩ := lcp_merge a b d.1 (h d hd).1 (h d hd).2
    unfold Fq
    rw [fs_merge w a b (lcp a b) _ ma mb l]
    · unfold best
      rw [lcp_taken, lcp_taken, lcp_comm d.1 a, lcp_comm d.1 (lcp a b), g2]
    · unfold best
      rw [lcp_taken, lcp_taken, lcp_comm d.1 b, lcp_comm d.1 (lcp a b), g2, g1]
  rw [e1, ← Int.mul_assoc, ← Int.mul_assoc, Int.mul_comm t]
theorem tree_law (w : List Nat → Int) (t : Int) (B : Nat) : ∀ (n : Nat) (l : List Nm), l.length = n + 1 → n ≤ 4 → (∀ s ∈ l, s.1.length ≤ B) → Dt w t l = Rt w t l
  | 0, [(a, m)], _, _, _ => by
    unfold Dt
    show detOf (Mx w t [(a, m)]) 1 = t * 1
    rw [det1]
    show 0 + (t + (m * w (lcp a a) + 0) - m * w a) * 1 = t * 1
    rw [lcp_self]; lia
  | n + 1, l, hl, hn, hB => by
    have hP : ∃ k, (∃ a b r, l.Perm (a :: b :: r) ∧ cl a.1 b.1 = k) ∧ ∀ j, (∃ a b r, l.Perm (a :: b :: r) ∧ cl a.1 b.1 = j) → j ≤ k := by
      refine exists_max B ?_ ?_
      · rintro k ⟨a, b, r, p, rfl⟩
        exact Nat.le_trans (cl_le _ _) (hB a (p.mem_iff.mpr (List.mem_cons_self ..)))
      · match l, hl with
        | a :: b :: r, _ => exact ⟨_, a, b, r, List.Perm.refl _, rfl⟩
    obtain ⟨k, ⟨a, b, r, p, hk⟩, hmax⟩ := hP
    have v1 := perm_swaps (Dt w t) 5 (fun q x y r h => dt_swap w t q x y r h) p [] (by simp; lia)
    have v2 := perm_swaps (Rt w t) 5 (fun q x y r h => rt_swap w t q x y r) p [] (by simp; lia)
    rw [List.nil_append, List.nil_append] at v1 v2
    rw [v1, v2]
    have hlen : r.length = n := by have := p.length_eq; simp at this; lia
    have hc : ∀ c ∈ r, cl a.1 c.1 ≤ cl a.1 b.1 ∧ cl b.1 c.1 ≤ cl a.1 b.1 := fun c hc => by
      rw [hk]
      obtain ⟨r', hr'⟩ : ∃ r', r.Perm (c :: r') := ⟨_, List.perm_cons_erase hc⟩
      refine ⟨hmax _ ⟨a, c, b :: r', ?_, rfl⟩, hmax _ ⟨b, c, a :: r', ?_, rfl⟩⟩
      · exact p.trans (List.Perm.cons a ((List.Perm.cons b hr').trans (List.Perm.swap c b r')))
      · exact p.trans ((List.Perm.swap b a r).trans (List.Perm.cons b ((List.Perm.cons a hr').trans (List.Perm.swap c a r'))))
    obtain ⟨a, ma⟩ := a
    obtain ⟨b, mb⟩ := b
    rw [dt_merge w t a b ma mb r (by lia) hc, rt_merge w t a b ma mb r hc]
    rw [tree_law w t B n ((lcp a b, ma + mb) :: r) (by simp; lia) (by lia) (fun s hs => by
      rcases List.mem_cons.mp hs with h | h
      · subst h
        exact Nat.le_trans (cl_le a b) (hB (a, ma) (p.mem_iff.mpr (List.mem_cons_self ..)))
      · exact hB s (p.mem_iff.mpr (List.mem_cons_of_mem _ (List.mem_cons_of_mem _ h))))]
end
section
open PySem
set_option maxRecDepth 100000
set_option maxHeartbeats 4000000
theorem det_congr5 {M N : Nat → Nat → Int} (h : ∀ i j, i < 5 → j < 5 → M i j = N i j) : detOf M 5 = detOf N 5 := by
  have e1 : detOf M 5 = detOf (fun i j => N (sg 0 i) (sg 0 j)) 5 := by
    apply dsw5_0 <;> exact h _ _ (by lia) (by lia)
  have e2 : detOf N 5 = detOf (fun i j => N (sg 0 i) (sg 0 j)) 5 := by
    apply dsw5_0 <;> rfl
  rw [e1, e2]
theorem outer5 (W : Nat → Nat → Int) (t : Int) (hs : ∀ i j, W i j = W j i) : ∀ i j, i < 5 → j < 5 → outerI W t 5 i j = if i = j then t + (W i 0 + (W i 1 + (W i 2 + (W i 3 + (W i 4 + 0))))) - W i i else -(W i j) := by
  intro i j hi hj
  have d0 : outerI W t 5 0 0 = 0 + t + W 1 0 + W 2 0 + W 3 0 + W 4 0 := by kernel_rfl
  have d1 : outerI W t 5 1 1 = 0 + t + W 1 0 + W 2 1 + W 3 1 + W 4 1 := by kernel_rfl
  have d2 : outerI W t 5 2 2 = 0 + t + W 2 0 + W 2 1 + W 3 2 + W 4 2 := by kernel_rfl
  have d3 : outerI W t 5 3 3 = 0 + t + W 3 0 + W 3 1 + W 3 2 + W 4 3 := by kernel_rfl
  have d4 : outerI W t 5 4 4 = 0 + t + W 4 0 + W 4 1 + W 4 2 + W 4 3 := by kernel_rfl
  have hij : ∀ i j, i < 5 → j < i → outerI W t 5 i j = -(W i j) ∧ outerI W t 5 j i = -(W i j) := by
    intro i j hi hj
    have : (i, j) ∈ [(1,0),(2,0),(2,1),(3,0),(3,1),(3,2),(4,0),(4,1),(4,2),(4,3)] := by
      match i, j, hi, hj with
      | 1, 0, _, _ => decide
      | 2, 0, _, _ => decide
      | 2, 1, _, _ => decide
      | 3, 0, _, _ => decide
      | 3, 1, _, _ => decide
      | 3, 2, _, _ => decide
      | 4, 0, _, _ => decide
      | 4, 1, _, _ => decide
      | 4, 2, _, _ => decide
      | 4, 3, _, _ => decide
    simp only [List.mem_cons, List.mem_nil_iff, or_false, Prod.mk.injEq] at this
    rcases this with ⟨rfl, rfl⟩ | ⟨rfl, rfl⟩ | ⟨rfl, rfl⟩ | ⟨rfl, rfl⟩ | ⟨rfl, rfl⟩ | ⟨rfl, rfl⟩ | ⟨rfl, rfl⟩ | ⟨rfl, rfl⟩ | ⟨rfl, rfl⟩ | ⟨rfl, rfl⟩
    all_goals exact ⟨by kernel_rfl, by kernel_rfl⟩
  rcases Nat.lt_trichotomy i j with h | h | h
  · rw [if_neg (by lia), (hij j i hj h).2, hs]
  · subst h
    rw [if_pos rfl]
    have h10 := hs 1 0
    have h20 := hs 2 0
    have h21 := hs 2 1
    have h30 := hs 3 0
    have h31 := hs 3 1
    have h32 := hs 3 2
    have h40 := hs 4 0
    have h41 := hs 4 1
    have h42 := hs 4 2
    have h43 := hs 4 3
    match i, hi with
    | 0, _ => rw [d0]; lia
    | 1, _ => rw [d1]; lia
    | 2, _ => rw [d2]; lia
    | 3, _ => rw [d3]; lia
    | 4, _ => rw [d4]; lia
  · rw [if_neg (by lia), (hij i j hi h).1]
noncomputable def ones (ns : List (List Nat)) : List Nm := ns.map fun n => (n, 1)
theorem lines_mx (w : List Nat → Int) (t : Int) (ns : List (List Nat)) (h : ns.length = 5) (W : Nat → Nat → Int) (hW : ∀ i j, i < 5 → j < 5 → W i j = w (lcp (nth ns i) (nth ns j))) (hs : ∀ i j, W i j = W j i) : detOf (outerI W t 5) 5 = Dt w t (ones ns) := by
  unfold Dt
  rw [show (ones ns).length = 5 by unfold ones; rw [List.length_map, h]]
  refine det_congr5 fun i j hi hj => ?_
  rw [outer5 W t hs i j hi hj]
  match ns, h with
  | [a, b, c, d, e], _ =>
    unfold Mx
    have gi : ∀ i, i < 5 → (ones [a, b, c, d, e]).getD i ([], 0) = (nth [a, b, c, d, e] i, 1) := fun i hi => by
      match i, hi with
      | 0, _ => rfl
      | 1, _ => rfl
      | 2, _ => rfl
      | 3, _ => rfl
      | 4, _ => rfl
    rw [gi i hi, gi j hj]
    by_cases e : i = j
    · rw [if_pos e, if_pos e, hW i 0 hi (by lia), hW i 1 hi (by lia), hW i 2 hi (by lia), hW i 3 hi (by lia), hW i 4 hi (by lia), hW i i hi hi]
      show _ = t + (1 * w (lcp (nth _ i) _) + (1 * w (lcp (nth _ i) _) + (1 * w (lcp (nth _ i) _) + (1 * w (lcp (nth _ i) _) + (1 * w (lcp (nth _ i) _) + 0))))) - 1 * w (nth _ i)
      simp only [Int.one_mul, lcp_self]
      rfl
    · rw [if_neg e, if_neg e, hW i j hi hj, Int.one_mul]
end
section
open PySem
set_option maxRecDepth 100000
set_option maxHeartbeats 1000000
noncomputable def keysOf (T : Tb) : List (List Nat) := T.map (·.1)
theorem mem_keys : ∀ {T : Tb} {x : List Nat}, x ∈ keysOf T ↔ (T.lookup x).isSome = true
  | [], x => by unfold keysOf; simp
  | (k, v) :: T, x => by
    have ih := @mem_keys T x
    unfold keysOf at ih ⊢
    rw [List.map_cons, List.mem_cons, List.lookup_cons]
    by_cases h : x = k
    · subst h; simp
    · rw [show (x == k) = false by simpa using h, ih]; simp [h]
theorem getT_none {T : Tb} {x : List Nat} (h : x ∉ keysOf T) : getT T x = 0 := by
  rw [mem_keys] at h
  unfold getT
  cases e : T.lookup x with
  | none => rfl
  | some v => rw [e] at h; exact absurd rfl h
theorem getT_put (T : Tb) (k : List Nat) (v : Int) (x : List Nat) : getT (putT T k v) x = if x = k then v else getT T x := by
  unfold getT
  rw [lookup_put]
  split <;> rfl
theorem keys_old {T : Tb} {k : List Nat} {v : Int} (h : k ∈ keysOf T) : keysOf (putT T k v) = keysOf T := by
  rw [mem_keys] at h
  unfold putT
  rw [any_lookup, if_pos h]
  unfold keysOf
  rw [List.map_map]
  apply List.map_congr_left
  intro a _
  show (if a.1 = k then (a.1, v) else a).1 = a.1
  split <;> rfl
theorem keys_new {T : Tb} {k : List Nat} {v : Int} (h : k ∉ keysOf T) : keysOf (putT T k v) = keysOf T ++ [k] := by
  rw [mem_keys] at h
  unfold putT
  rw [any_lookup, if_neg h]
  unfold keysOf
  rw [List.map_append]; rfl
noncomputable def PF (F : List Nat → Int) (W : Tb) : List (List Nat) → Int
  | [] => 1
  | x :: l => F x ^ (getT W x - 1).toNat * PF F W l
theorem pf_app (F : List Nat → Int) (W : Tb) (x : List Nat) : ∀ l : List (List Nat), PF F W (l ++ [x]) = PF F W l * F x ^ (getT W x - 1).toNat
  | [] => by show F x ^ (getT W x - 1).toNat * 1 = 1 * F x ^ (getT W x - 1).toNat; rw [Int.mul_one, Int.one_mul]
  | y :: l => by
    show _ * PF F W (l ++ [x]) = (_ * PF F W l) * _
    rw [pf_app F W x l, Int.mul_assoc]
theorem pf_congr (F : List Nat → Int) {W W' : Tb} : ∀ l : List (List Nat), (∀ x ∈ l, (getT W' x - 1).toNat = (getT W x - 1).toNat) → PF F W' l = PF F W l
  | [], _ => rfl
  | y :: l, h => by
    unfold PF
    rw [h y (List.mem_cons_self ..), pf_congr F l (fun x hx => h x (List.mem_cons_of_mem _ hx))]
theorem pf_bump (F : List Nat → Int) {W W' : Tb} {x : List Nat} (hx : 1 ≤ getT W x) (h : ∀ y, getT W' y = if y = x then getT W x + 1 else getT W y) : ∀ l : List (List Nat), l.Nodup → x ∈ l → PF F W' l = PF F W l * F x
  | [], _, hm => by cases hm
  | y :: l, hn, hm => by
    unfold PF
    rw [List.nodup_cons] at hn
    by_cases e : y = x
    · subst e
      rw [pf_congr F (W := W) l (fun z hz => by rw [h z, if_neg (fun q : z = y => hn.1 (q ▸ hz))]), h y, if_pos rfl]
      rw [show (getT W y + 1 - 1).toNat = (getT W y - 1).toNat + 1 by lia, Int.pow_succ, Int.mul_assoc, Int.mul_assoc, Int.mul_comm (F y)]
    · rw [pf_bump F hx h l hn.2 (by rcases List.mem_cons.mp hm with q | q; · exact absurd q.symm e
                                    · exact q), h y, if_neg e, Int.mul_assoc]
/-- the tables while a name goes in -/
structure Gr (F : List Nat → Int) (B0 W0 : Tb) (name : List Nat) (m k : Nat) (B W : Tb) : Prop where
  nd : (keysOf B).Nodup
  keys : ∀ x, x ∈ keysOf B ↔ x ∈ keysOf B0 ∨ (x.length < k ∧ name.take x.length = x)
  cnt : ∀ x, getT B x = getT B0 x + if x.length < k ∧ name.take x.length = x then 1 else 0
  lo : k ≤ m → PF F W (keysOf B) = PF F W0 (keysOf B0) ∧ ∀ x ∈ keysOf B, 1 ≤ getT W x
  hi : m < k → PF F W (keysOf B) = PF F W0 (keysOf B0) * (if m = 0 then 1 else F (name.take (m - 1))) ∧ getT W (name.take (k - 1)) = 0 ∧ ∀ x ∈ keysOf B, x ≠ name.take (k - 1) → 1 ≤ getT W x
theorem take_fix {name x : List Nat} {k : Nat} (hk : k ≤ name.length) : (x.length < k + 1 ∧ name.take x.length = x) ↔ ((x.length < k ∧ name.take x.length = x) ∨ x = name.take k) := by
  constructor
  · rintro ⟨h1, h2⟩
    by_cases e : x.length = k
    · exact .inr (by rw [← e, h2])
    · exact .inl ⟨by lia, h2⟩
  · rintro (⟨h1, h2⟩ | h)
    · exact ⟨by lia, h2⟩
    · subst h
      rw [List.length_take, Nat.min_eq_left hk]
      exact ⟨by lia, rfl⟩
theorem not_yet {name : List Nat} {k : Nat} (hk : k ≤ name.length) : ¬ ((name.take k).length < k ∧ name.take (name.take k).length = name.take k) := by
  rw [List.length_take, Nat.min_eq_left hk]; lia
theorem Gr.step {F : List Nat → Int} {B0 W0 : Tb} {name : List Nat} {m k : Nat} {B W : Tb} (hm : ∀ j, j ≤ name.length → (name.take j ∈ keysOf B0 ↔ j < m)) (hk : k ≤ name.length) (g : Gr F B0 W0 name m k B W) :
    Gr F B0 W0 name m (k + 1) (stepK name k (B, W)).1 (stepK name k (B, W)).2 := by
  have hcnt : ∀ x, (if x.length < k + 1 ∧ name.take x.length = x then (1 : Int) else 0) = (if x = name.take k then 1 else if x.length < k ∧ name.take x.length = x then 1 else 0) := fun x => by
    by_cases e : x = name.take k
    · rw [if_pos e, if_pos ((take_fix hk).mpr (.inr e))]
    · rw [if_neg e]
      by_cases e' : x.length < k ∧ name.take x.length = x
      · rw [if_pos e', if_pos ((take_fix hk).mpr (.inl e'))]
      · rw [if_neg e', if_neg (fun q => by rcases (take_fix hk).mp q with r | r; · exact e' r
                                           · exact e r)]
  have hg0 : getT B (name.take k) = getT B0 (name.take k) := by
    rw [g.cnt, if_neg (not_yet hk)]; lia
  by_cases hx : name.take k ∈ keysOf B
  · have hx0 : name.take k ∈ keysOf B0 := by
      rcases (g.keys _).mp hx with q | q
      · exact q
      · exact absurd q (not_yet hk)
    have hkm : k < m := (hm k hk).mp hx0
    have es : stepK name k (B, W) = (putT B (name.take k) (getT B (name.take k) + 1), W) := by
      unfold stepK
      simp only [mem_keys.mp hx, if_true]
    rw [es]
    refine ⟨by rw [keys_old hx]; exact g.nd, fun x => ?_, fun x => ?_, fun _ => by rw [keys_old hx]; exact g.lo (by lia), fun h => by lia⟩
    · rw [keys_old hx, g.keys, take_fix hk]
      constructor
      · rintro (q | q)
        · exact .inl q
        · exact .inr (.inl q)
      · rintro (q | q | q)
        · exact .inl q
        · exact .inr q
        · exact .inl (q ▸ hx0)
    · rw [getT_put, hcnt]
      by_cases e : x = name.take k
      · rw [if_pos e, if_pos e, hg0, e]
      · rw [if_neg e, if_neg e, g.cnt]
  · have hx0 : name.take k ∉ keysOf B0 := fun q => hx ((g.keys _).mpr (.inl q))
    have hkm : m ≤ k := by
      rcases Nat.lt_or_ge k m with q | q
      · exact absurd ((hm k hk).mpr q) hx0
      · exact q
    have hs : ¬ (B.lookup (name.take k)).isSome = true := fun q => hx (mem_keys.mpr q)
    have kb : keysOf (putT (putT B (name.take k) 0) (name.take k) (getT (putT B (name.take k) 0) (name.take k) + 1)) = keysOf B ++ [name.take k] := by
      rw [keys_old (by rw [keys_new hx]; simp), keys_new hx]
    have e1 : (stepK name k (B, W)).1 = putT (putT B (name.take k) 0) (name.take k) (getT (putT B (name.take k) 0) (name.take k) + 1) := by
      unfold stepK
      simp only [if_neg hs]
    have e2 : (stepK name k (B, W)).2 = if 0 < k then putT (putT W (name.take k) 0) (name.take (k - 1)) (getT (putT W (name.take k) 0) (name.take (k - 1)) + 1) else putT W (name.take k) 0 := by
      unfold stepK
      simp only [if_neg hs]
    rw [e1, e2]
    refine ⟨?_, fun x => ?_, fun x => ?_, fun h => by lia, fun _ => ?_⟩
    · rw [kb]
      rw [List.nodup_append]
      exact ⟨g.nd, by simp, fun a ha b hb => by rw [List.mem_singleton.mp hb]; exact fun q => hx (q ▸ ha)⟩
    · rw [kb, List.mem_append, List.mem_singleton, g.keys, take_fix hk, or_assoc]
    · rw [getT_put, getT_put, getT_put, if_pos rfl, hcnt]
      by_cases e : x = name.take k
      · rw [if_pos e, if_pos e, e, getT_none hx0]
      · rw [if_neg e, if_neg e, if_neg e, g.cnt]
    · rw [kb, pf_app]
      by_cases h0 : 0 < k
      · rw [if_pos h0]
        have hne : name.take (k - 1) ≠ name.take k := fun q => by
          have := congrArg List.length q
          rw [List.length_take, List.length_take, Nat.min_eq_left hk, Nat.min_eq_left (by lia)] at this
          lia
        have hp : name.take (k - 1) ∈ keysOf B := (g.keys _).mpr (.inr (by rw [List.length_take, Nat.min_eq_left (by lia)]; exact ⟨by lia, rfl⟩))
        have hW : ∀ y, getT (putT (putT W (name.take k) 0) (name.take (k - 1)) (getT (putT W (name.take k) 0) (name.take (k - 1)) + 1)) y = if y = name.take (k - 1) then getT W (name.take (k - 1)) + 1 else if y = name.take k then 0 else getT W y := fun y => by
          rw [getT_put, getT_put, if_neg hne, getT_put]
        generalize putT (putT W (name.take k) 0) (name.take (k - 1)) (getT (putT W (name.take k) 0) (name.take (k - 1)) + 1) = W' at hW
        have hWx : getT W' (name.take k) = 0 := by rw [hW, if_neg (fun q => hne q.symm), if_pos rfl]
        rw [hWx, show ((0 : Int) - 1).toNat = 0 from rfl, Int.pow_zero, Int.mul_one, show k + 1 - 1 = k from rfl]
        have hWk : ∀ y ∈ keysOf B, getT W' y = if y = name.take (k - 1) then getT W (name.take (k - 1)) + 1 else getT W y := fun y hy => by
          rw [hW]
          by_cases e : y = name.take k
          · exact absurd (e ▸ hy) hx
          · rw [if_neg e]
        have hge : 0 ≤ getT W (name.take (k - 1)) := by
          rcases Nat.lt_or_ge m k with q | q
          · rw [(g.hi q).2.1]; exact Int.le_refl _
          · have := (g.lo q).2 _ hp; lia
        have hoth : ∀ x ∈ keysOf B ++ [name.take k], x ≠ name.take k → 1 ≤ getT W' x := fun x hxm hxn => by
          have hxm' : x ∈ keysOf B := by
            rcases List.mem_append.mp hxm with q | q
            · exact q
            · exact absurd (List.mem_singleton.mp q) hxn
          rw [hWk x hxm']
          by_cases e : x = name.take (k - 1)
          · rw [if_pos e]; lia
          · rw [if_neg e]
            rcases Nat.lt_or_ge m k with q | q
            · exact (g.hi q).2.2 x hxm' e
            · exact (g.lo q).2 x hxm'
        refine ⟨?_, hWx, hoth⟩
        rcases Nat.lt_or_ge m k with q | q
        · rw [← (g.hi q).1]
          refine pf_congr F _ fun y hy => ?_
          rw [hWk y hy]
          by_cases e : y = name.take (k - 1)
          · rw [if_pos e, e, (g.hi q).2.1]; rfl
          · rw [if_neg e]
        · have hmk : m = k := by lia
          rw [if_neg (by lia), ← (g.lo q).1, hmk]
          have hW2 : ∀ y, getT (putT W (name.take (k - 1)) (getT W (name.take (k - 1)) + 1)) y = if y = name.take (k - 1) then getT W (name.take (k - 1)) + 1 else getT W y := fun y => getT_put ..
          rw [← pf_bump F ((g.lo q).2 _ hp) hW2 _ g.nd hp]
          exact pf_congr F _ fun y hy => by rw [hWk y hy, hW2]
      · have hk0 : k = 0 := by lia
        have hm0 : m = 0 := by lia
        rw [if_neg h0, getT_put, if_pos rfl, show ((0 : Int) - 1).toNat = 0 from rfl, Int.pow_zero, Int.mul_one, if_pos hm0, Int.mul_one, show k + 1 - 1 = k from rfl, getT_put, if_pos rfl]
        have hWk : ∀ y ∈ keysOf B, getT (putT W (name.take k) 0) y = getT W y := fun y hy => by
          rw [getT_put]
          by_cases e : y = name.take k
          · exact absurd (e ▸ hy) hx
          · rw [if_neg e]
        refine ⟨?_, rfl, fun x hxm hxn => ?_⟩
        · rw [← (g.lo (by lia)).1]
          exact pf_congr F _ fun y hy => by rw [hWk y hy]
        · have hxm' : x ∈ keysOf B := by
            rcases List.mem_append.mp hxm with q | q
            · exact q
            · exact absurd (List.mem_singleton.mp q) hxn
          rw [hWk x hxm']
          exact (g.lo (by lia)).2 x hxm'
end
section
open PySem
set_option maxRecDepth 100000
set_option maxHeartbeats 1000000
theorem Gr.start {F : List Nat → Int} {B W : Tb} {name : List Nat} {m : Nat} (nd : (keysOf B).Nodup) (ge : ∀ x ∈ keysOf B, 1 ≤ getT W x) : Gr F B W name m 0 B W :=
  ⟨nd, fun x => ⟨fun h => .inl h, fun h => by rcases h with h | h; · exact h
                                              · lia⟩, fun x => by rw [if_neg (by lia)]; lia, fun _ => ⟨rfl, ge⟩, fun h => by lia⟩
theorem Gr.fold {F : List Nat → Int} {BW : Tb × Tb} {name : List Nat} {m : Nat} (hm : ∀ j, j ≤ name.length → (name.take j ∈ keysOf BW.1 ↔ j < m)) (nd : (keysOf BW.1).Nodup) (ge : ∀ x ∈ keysOf BW.1, 1 ≤ getT BW.2 x) :
    ∀ k, k ≤ name.length + 1 → Gr F BW.1 BW.2 name m k (foldK name k BW).1 (foldK name k BW).2
  | 0, _ => Gr.start nd ge
  | k + 1, hk => Gr.step hm (by lia) (Gr.fold hm nd ge k (by lia))
noncomputable def ind (n x : List Nat) : Int := if n.take x.length = x then 1 else 0
noncomputable def ct (x : List Nat) : List (List Nat) → Int
  | [] => 0
  | n :: l => ind n x + ct x l
structure Se (S : List (List Nat)) (B W : Tb) : Prop where
  nd : (keysOf B).Nodup
  keys : ∀ x, x ∈ keysOf B ↔ ∃ n ∈ S, n.take x.length = x
  cnt : ∀ x, getT B x = ct x S
  ge : ∀ x ∈ keysOf B, 1 ≤ getT W x
theorem take_iff {x y : List Nat} {j : Nat} (hj : j ≤ x.length) : y.take j = x.take j ↔ j ≤ cl x y :=
  ⟨fun h => lcp_ge j x y h.symm (by rw [List.length_take, Nat.min_eq_left hj]), fun h => (take_cl x y h).symm⟩
theorem bl_ex {x : List Nat} {j : Nat} : ∀ S : List (List Nat), (∃ n ∈ S, j ≤ cl x n) ↔ S ≠ [] ∧ j ≤ bl x S
  | [] => ⟨fun ⟨n, h, _⟩ => (nomatch h), fun h => absurd rfl h.1⟩
  | s :: l => by
    have ih := bl_ex (x := x) (j := j) l
    unfold bl
    constructor
    · rintro ⟨n, hn, h⟩
      refine ⟨by simp, ?_⟩
      rcases List.mem_cons.mp hn with q | q
      · subst q; lia
      · have := (ih.mp ⟨n, q, h⟩).2; lia
    · rintro ⟨_, h⟩
      by_cases e : j ≤ cl x s
      · exact ⟨s, List.mem_cons_self .., e⟩
      · by_cases e' : l = []
        · subst e'
          unfold bl at h
          lia
        · obtain ⟨n, hn, hj⟩ := ih.mpr ⟨e', by lia⟩
          exact ⟨n, List.mem_cons_of_mem _ hn, hj⟩
theorem bl_le (x : List Nat) : ∀ S : List (List Nat), bl x S ≤ x.length
  | [] => Nat.zero_le _
  | s :: l => by unfold bl; have := bl_le x l; have := cl_le x s; lia
theorem Se.step {F : List Nat → Int} {S : List (List Nat)} {BW : Tb × Tb} (h : Se S BW.1 BW.2) (name : List Nat) :
    Se (name :: S) (stepName BW name).1 (stepName BW name).2 ∧ PF F (stepName BW name).2 (keysOf (stepName BW name).1) = PF F BW.2 (keysOf BW.1) * (if S = [] then 1 else F (best name S)) := by
  have hm : ∀ j, j ≤ name.length → (name.take j ∈ keysOf BW.1 ↔ j < if S = [] then 0 else bl name S + 1) := fun j hj => by
    rw [h.keys]
    rw [List.length_take, Nat.min_eq_left hj]
    have : (∃ n, n ∈ S ∧ n.take j = name.take j) ↔ ∃ n ∈ S, j ≤ cl name n := by
      constructor
      · rintro ⟨n, hn, e⟩; exact ⟨n, hn, (take_iff hj).mp e⟩
      · rintro ⟨n, hn, e⟩; exact ⟨n, hn, (take_iff hj).mpr e⟩
    rw [this, bl_ex]
    by_cases e : S = []
    · rw [if_pos e]; exact ⟨fun q => absurd e q.1, fun q => absurd q (Nat.not_lt_zero _)⟩
    · rw [if_neg e]; exact ⟨fun q => by lia, fun q => ⟨e, by lia⟩⟩
  have hmle : (if S = [] then 0 else bl name S + 1) ≤ name.length + 1 := by
    split
    · lia
    · have := bl_le name S; lia
  have g := Gr.fold (F := F) hm h.nd h.ge (name.length + 1) (Nat.le_refl _)
  unfold stepName
  show Se (name :: S) (foldK name (name.length + 1) BW).1 _ ∧ PF F (putT (foldK name (name.length + 1) BW).2 name (getT (foldK name (name.length + 1) BW).2 name + 1)) (keysOf (foldK name (name.length + 1) BW).1) = _
  generalize (foldK name (name.length + 1) BW).1 = B at g ⊢
  generalize (foldK name (name.length + 1) BW).2 = W at g ⊢
  have hW : ∀ y, getT (putT W name (getT W name + 1)) y = if y = name then getT W name + 1 else getT W y := fun y => getT_put ..
  have fixl : ∀ x : List Nat, (x.length < name.length + 1 ∧ name.take x.length = x) ↔ name.take x.length = x := fun x =>
    ⟨fun q => q.2, fun q => ⟨by have := congrArg List.length q; rw [List.length_take] at this; lia, q⟩⟩
  have hin : name ∈ keysOf B := (g.keys name).mpr (.inr ⟨by lia, List.take_length⟩)
  have hkeys : ∀ x, x ∈ keysOf B ↔ ∃ n ∈ name :: S, n.take x.length = x := fun x => by
    rw [g.keys, h.keys, fixl]
    constructor
    · rintro (⟨n, hn, e⟩ | e)
      · exact ⟨n, List.mem_cons_of_mem _ hn, e⟩
      · exact ⟨name, List.mem_cons_self .., e⟩
    · rintro ⟨n, hn, e⟩
      rcases List.mem_cons.mp hn with q | q
      · exact .inr (q ▸ e)
      · exact .inl ⟨n, q, e⟩
  have hcnt : ∀ x, getT B x = ct x (name :: S) := fun x => by
    rw [g.cnt, h.cnt]
    show _ = ind name x + ct x S
    unfold ind
    by_cases e : name.take x.length = x
    · rw [if_pos ((fixl x).mpr e), if_pos e]; lia
    · rw [if_neg (fun q => e ((fixl x).mp q)), if_neg e]; lia
  rcases Nat.lt_or_ge (if S = [] then 0 else bl name S + 1) (name.length + 1) with q | q
  · obtain ⟨i1, i2, i3⟩ := g.hi q
    rw [show name.length + 1 - 1 = name.length from rfl, List.take_length] at i2 i3
    refine ⟨⟨g.nd, hkeys, hcnt, fun x hx => ?_⟩, ?_⟩
    · rw [hW]
      by_cases e : x = name
      · rw [if_pos e, i2]; lia
      · rw [if_neg e]; exact i3 x hx e
    · rw [pf_congr F (W := W) _ (fun y hy => by
        rw [hW]
        by_cases e : y = name
        · rw [if_pos e, e, i2]; rfl
        · rw [if_neg e]), i1]
      by_cases e : S = []
      · rw [if_pos e, if_pos e]; simp
      · simp only [if_neg e]
        rw [if_neg (by lia)]
        rfl
  · have e : S ≠ [] := fun e => by rw [if_pos e] at q; lia
    obtain ⟨i1, i2⟩ := g.lo q
    refine ⟨⟨g.nd, hkeys, hcnt, fun x hx => ?_⟩, ?_⟩
    · rw [hW]
      have := i2 _ hx
      by_cases e : x = name
      · rw [if_pos e]; rw [e] at this; lia
      · rw [if_neg e]; exact this
    · rw [pf_bump F (i2 _ hin) hW _ g.nd hin, i1, if_neg e]
      rw [if_neg e] at q
      have := bl_le name S
      unfold best
      rw [List.take_of_length_le (by lia)]
theorem se_all {F : List Nat → Int} : ∀ (ns S : List (List Nat)) (BW : Tb × Tb), S ≠ [] → Se S BW.1 BW.2 → Se (ns.reverse ++ S) (ns.foldl stepName BW).1 (ns.foldl stepName BW).2 ∧ PF F (ns.foldl stepName BW).2 (keysOf (ns.foldl stepName BW).1) = PF F BW.2 (keysOf BW.1) * Gacc F S ns
  | [], S, BW, _, h => ⟨h, by show _ = _ * 1; rw [Int.mul_one]; rfl⟩
  | n :: ns, S, BW, hS, h => by
    obtain ⟨g1, g2⟩ := h.step (F := F) n
    obtain ⟨i1, i2⟩ := se_all (F := F) ns (n :: S) (stepName BW n) (by simp) g1
    rw [List.foldl_cons]
    refine ⟨by simpa using i1, ?_⟩
    rw [i2, g2, if_neg hS]
    show _ = _ * (F (best n S) * _)
    rw [Int.mul_assoc]
theorem se_nil : Se [] [] [] := ⟨by unfold keysOf; simp, fun x => by unfold keysOf; simp, fun x => rfl, fun x h => by unfold keysOf at h; simp at h⟩
theorem se_names {F : List Nat → Int} (n : List Nat) (ns : List (List Nat)) : Se (ns.reverse ++ [n]) ((n :: ns).foldl stepName ([], [])).1 ((n :: ns).foldl stepName ([], [])).2 ∧ PF F ((n :: ns).foldl stepName ([], [])).2 (keysOf ((n :: ns).foldl stepName ([], [])).1) = Gf F (n :: ns) := by
  obtain ⟨g1, g2⟩ := Se.step (F := F) (BW := ([], [])) se_nil n
  obtain ⟨i1, i2⟩ := se_all (F := F) ns [n] _ (by simp) g1
  rw [List.foldl_cons]
  refine ⟨i1, ?_⟩
  rw [i2, g2, if_pos rfl]
  show 1 * 1 * _ = _
  rw [Int.mul_one, Int.one_mul]; rfl
noncomputable def Tot (w c : List Nat → Int) (q : List Nat) : Nat → Int
  | 0 => c q * w q
  | k + 1 => Tot w c q k + w (q.take k) * (c (q.take k) - c (q.take (k + 1)))
theorem forkTotal_tot (kvs : List (Str × Value)) (B : Tb) (t : Int) (q : List Nat) : ∀ k, forkTotal kvs B t q k = t + Tot (due kvs) (getT B) q k
  | 0 => rfl
  | k + 1 => by unfold forkTotal Tot; rw [forkTotal_tot kvs B t q k, Int.add_assoc]
theorem tot_add (w c d e : List Nat → Int) (q : List Nat) (h : ∀ x, c x = d x + e x) : ∀ k, Tot w c q k = Tot w d q k + Tot w e q k
  | 0 => by unfold Tot; rw [h, Int.add_mul]
  | k + 1 => by
    unfold Tot
    rw [tot_add w c d e q h k, h, h, show d (q.take k) + e (q.take k) - (d (q.take (k + 1)) + e (q.take (k + 1))) = (d (q.take k) - d (q.take (k + 1))) + (e (q.take k) - e (q.take (k + 1))) by lia, Int.mul_add]
    lia
theorem ind_take {n q : List Nat} {k : Nat} (hk : k ≤ q.length) : ind n (q.take k) = if k ≤ cl q n then 1 else 0 := by
  unfold ind
  rw [List.length_take, Nat.min_eq_left hk]
  by_cases e : k ≤ cl q n
  · rw [if_pos e, if_pos ((take_iff hk).mpr e)]
  · rw [if_neg e, if_neg (fun h => e ((take_iff hk).mp h))]
theorem tot_ind (w : List Nat → Int) (n q : List Nat) : ∀ k, k ≤ q.length → Tot w (ind n) q k = if cl q n = q.length then w q else if cl q n < k then w (q.take (cl q n)) else 0
  | 0, _ => by
    unfold Tot
    have e := ind_take (n := n) (q := q) (Nat.le_refl _)
    rw [List.take_length] at e
    have := cl_le q n
    rw [e]
    by_cases h : cl q n = q.length
    · rw [if_pos (by lia), if_pos h, Int.one_mul]
    · rw [if_neg (by lia), if_neg h, if_neg (by lia), Int.zero_mul]
  | k + 1, hk => by
    unfold Tot
    rw [tot_ind w n q k (by lia), ind_take (by lia), ind_take hk]
    by_cases h : cl q n = q.length
    · rw [if_pos h, if_pos h, if_pos (show k ≤ cl q n by lia), if_pos (show k + 1 ≤ cl q n by lia)]; simp
    · rw [if_neg h, if_neg h]
      rcases Nat.lt_trichotomy (cl q n) k with e | e | e
      · rw [if_pos e, if_pos (show cl q n < k + 1 by lia), if_neg (show ¬ k ≤ cl q n by lia), if_neg (show ¬ k + 1 ≤ cl q n by lia)]; simp
      · rw [if_neg (show ¬ cl q n < k by lia), if_pos (show cl q n < k + 1 by lia), if_pos (show k ≤ cl q n by lia), if_neg (show ¬ k + 1 ≤ cl q n by lia), e]; simp
      · rw [if_neg (show ¬ cl q n < k by lia), if_neg (show ¬ cl q n < k + 1 by lia), if_pos (show k ≤ cl q n by lia), if_pos (show k + 1 ≤ cl q n by lia)]; simp
theorem tot_one (w : List Nat → Int) (n q : List Nat) : Tot w (ind n) q q.length = w (lcp q n) := by
  rw [tot_ind w n q _ (Nat.le_refl _), lcp_take q n]
  have := cl_le q n
  by_cases h : cl q n = q.length
  · rw [if_pos h, h, List.take_length]
  · rw [if_neg h, if_pos (by lia)]
theorem tot_ct (w : List Nat → Int) (q : List Nat) : ∀ S : List (List Nat), Tot w (fun x => ct x S) q q.length = Fs w q (ones S)
  | [] => by
    have z : ∀ k, Tot w (fun x => ct x []) q k = 0 := fun k => by
      induction k with
      | zero => show (0 : Int) * w q = 0; rw [Int.zero_mul]
      | succ k ih => unfold Tot; rw [ih]; show (0 : Int) + w _ * (0 - 0) = 0; simp
    exact z _
  | n :: S => by
    rw [tot_add w (fun x => ct x (n :: S)) (ind n) (fun x => ct x S) q (fun x => rfl), tot_one, tot_ct w q S]
    show _ = 1 * w (lcp q n) + Fs w q (ones S)
    rw [Int.one_mul]
theorem fs_app (w : List Nat → Int) (q : List Nat) : ∀ a b : List Nm, Fs w q (a ++ b) = Fs w q a + Fs w q b
  | [], b => by show _ = 0 + _; rw [Int.zero_add]; rfl
  | c :: a, b => by show _ + Fs w q (a ++ b) = _ + Fs w q a + _; rw [fs_app w q a b, Int.add_assoc]
theorem fs_rev (w : List Nat → Int) (q : List Nat) : ∀ l : List (List Nat), Fs w q (ones l.reverse) = Fs w q (ones l)
  | [] => rfl
  | n :: l => by
    unfold ones
    rw [List.reverse_cons, List.map_append, fs_app]
    have := fs_rev w q l
    unfold ones at this
    rw [this]
    show _ + (1 * _ + 0) = 1 * _ + Fs w q (l.map _)
    lia
theorem fork_fold (kvs : List (Str × Value)) (B W : Tb) (t : Int) : ∀ (l : List (List Nat)) (p : Int), l.foldl (forkStep kvs B W t) p = p * PF (fun q => forkTotal kvs B t q q.length) W l
  | [], p => by show p = p * 1; rw [Int.mul_one]
  | x :: l, p => by
    rw [List.foldl_cons, fork_fold kvs B W t l]
    show (if 1 < getT W x then p * forkTotal kvs B t x x.length ^ (getT W x - 1).toNat else p) * _ = p * (forkTotal kvs B t x x.length ^ (getT W x - 1).toNat * PF (fun q => forkTotal kvs B t q q.length) W l)
    by_cases h : 1 < getT W x
    · rw [if_pos h, Int.mul_assoc]
    · rw [if_neg h, show (getT W x - 1).toNat = 0 by lia, Int.pow_zero, Int.one_mul]
theorem forks_law (kvs : List (Str × Value)) (t : Int) (ns : List (List Nat)) (h : ns ≠ []) : forksOf kvs (ns.foldl stepName ([], [])) t = Rt (due kvs) t (ones ns) := by
  match ns, h with
  | n :: ns, _ =>
    unfold forksOf
    rw [fork_fold]
    obtain ⟨g, e⟩ := se_names (F := fun q => forkTotal kvs ((n :: ns).foldl stepName ([], [])).1 t q q.length) n ns
    unfold Rt
    have e' := e
    unfold keysOf at e'
    rw [e', show (ones (n :: ns)).map (·.1) = n :: ns by unfold ones; rw [List.map_map]; exact List.map_id _]
    refine congrArg (t * ·) (gf_ext (fun q => ?_) _)
    rw [forkTotal_tot]
    unfold Fq
    rw [show getT ((n :: ns).foldl stepName ([], [])).1 = fun x => ct x (ns.reverse ++ [n]) from funext g.cnt, tot_ct]
    rw [show ns.reverse ++ [n] = (n :: ns).reverse by simp, fs_rev]
end
section
open PySem
set_option maxRecDepth 100000
set_option maxHeartbeats 1000000
theorem np_nil : Np [] := fun i h => by simp at h
theorem np_cons {c : Nat} {r : List Nat} (h : Np r) (hc : c = 37 → r[0]? ≠ some 61) : Np (c :: r) := fun i hi => by
  cases i with
  | zero => simp at hi; exact hc hi
  | succ i => exact h i hi
theorem np_piece (f : Nat) (r : List Nat) (h : Np r) : Np (P2.getD f [] ++ r) := by
  match f with
  | 0 => exact np_cons h (fun q => absurd q (by decide))
  | 1 => exact np_cons (np_cons h (fun q => absurd q (by decide))) (fun q => absurd q (by decide))
  | 2 => exact np_cons h (fun q => absurd q (by decide))
  | 3 => exact np_cons h (fun q => absurd q (by decide))
  | 4 => exact np_cons h (fun q => absurd q (by decide))
  | 5 => exact np_cons (np_cons (np_cons h (fun q => absurd q (by decide))) (fun q => absurd q (fun q => absurd q (by decide)))) (fun _ => by simp)
  | 6 => exact np_cons (np_cons (np_cons h (fun q => absurd q (by decide))) (fun q => absurd q (fun q => absurd q (by decide)))) (fun _ => by simp)
  | 7 => exact np_cons h (fun q => absurd q (by decide))
  | 8 => exact np_cons h (fun q => absurd q (by decide))
  | 9 => exact np_cons (np_cons h (fun q => absurd q (fun q => absurd q (by decide)))) (fun _ => by simp)
  | f + 10 => exact h
theorem np_row : ∀ row : List Nat, Np (row.map fun f => P2.getD f []).flatten
  | [] => np_nil
  | f :: row => by rw [List.map_cons, List.flatten_cons]; exact np_piece f _ (np_row row)
theorem al_piece : ∀ q ∈ P2, ∀ c ∈ q, c ∈ alpha := by decide
theorem al_row (row : List Nat) : Al (row.map fun f => P2.getD f []).flatten := fun c hc => by
  obtain ⟨q, hq, hcq⟩ := List.mem_flatten.mp hc
  obtain ⟨f, _, rfl⟩ := List.mem_map.mp hq
  rw [List.getD_eq_getElem?_getD] at hcq
  cases e : P2[f]? with
  | none => rw [e] at hcq; cases hcq
  | some q => rw [e] at hcq; exact al_piece q (List.mem_of_getElem? e) c hcq
theorem al_names (cs : List Nat) : ∀ n ∈ namesOf P2 cs, Al n ∧ Np n := fun n hn => by
  unfold namesOf at hn
  obtain ⟨row, _, rfl⟩ := List.mem_map.mp hn
  exact ⟨al_row row, np_row row⟩
theorem law_plain {cs : List Nat} (hc : ∀ c ∈ cs, c < 1000) (hl : cs.length = 5) {kvs : List (Str × Value)} (hT : Tab kvs numbersT) (t : Int) :
    detOf (outerI (tieW (namesOf P2 cs)) t 5) 5 = forksOf kvs ((namesOf P2 cs).foldl stepName ([], [])) t := by
  obtain ⟨_, _, f3, f4⟩ := names_facts cs hc
  have an := al_names cs
  generalize namesOf P2 cs = ns at f3 f4 an ⊢
  rw [hl] at f4
  have hne : ns ≠ [] := fun e => by rw [e] at f4; cases f4
  rw [forks_law kvs t ns hne, lines_mx (due kvs) t ns f4 (tieW ns) (fun i j hi hj => ?_) (fun i j => by unfold tieW; rw [lcp_comm])]
  · refine tree_law (due kvs) t 15 4 (ones ns) (by unfold ones; rw [List.length_map, f4]) (Nat.le_refl _) fun s hs => ?_
    obtain ⟨n, hn, rfl⟩ := List.mem_map.mp hs
    exact f3 n hn
  · unfold tieW
    have hm : nth ns i ∈ ns := by
      unfold nth
      rw [List.getD_eq_getElem?_getD, List.getElem?_eq_getElem (by lia)]
      exact List.getElem_mem _
    have ha := an _ hm
    have h3 := f3 _ hm
    rw [lcp_take]
    refine tie_due hT (ha.1.take _) (ha.2.take _) ?_
    rw [List.length_take]; lia
end
section
open PySem PySem.W PySem.Calls PyProof.Rows PySem.Builtin
set_option maxRecDepth 100000
set_option maxHeartbeats 2000000
theorem law_enter {w : World} {mg mb : Map} {s₁ : Shared} {h₁ : Heap} {tk : Nat} {name : Str} {scope : Scope} {fa : Addr} {cd : Value} {m0 : Str → Option Value} {binds : List (Str × Value)} {body : List Stmt} {d u : Nat} {E : Value → Shared → Prop}
    (K : (hd.heap_39 w.params).In s₁.heap) (T : TopR mg mb s₁.heap) (F : Fr s₁.heap s₁.heap.objs.size h₁ m0) (hm : ∀ y, m0 y = lk binds y) (hk : scope.kind = .function)
    (hd1 : callerA.depth + 1 + d < recursionLimit) (hu1 : callerA.units + 3 + u < cLine) {Q : Flow → Shared → Prop}
    (H : ∀ C : Cx, C.w = w → C.dp = d → C.un = u → C.H = [] → C.g = s₁.heap → C.env = envOf name scope s₁.heap.objs.size fa cd → Fw C → Ev C (lk binds) [] (execs body C.env) (fun fl _ _ => fl = .ret (.bool true)))
    (hQ : ∀ s' : Shared, s₁.heap.StaysIn s'.heap → s'.os = s₁.os → s'.gens = s₁.gens → Q (.ret (.bool true)) s') :
    wpAny (model Prg w) (callerA.deeper (envOf name scope s₁.heap.objs.size fa cd)) (execs body (envOf name scope s₁.heap.objs.size fa cd)) Q E { s₁ with heap := h₁, toks := tk } := by
  have hnone : ∀ a, s₁.heap.objs.size ≤ a → s₁.heap.get? a = none := fun a ha => by
    cases e : s₁.heap.get? a with
    | none => rfl
    | some o => exact absurd (Heap.lt_size e) (Nat.not_lt.mpr ha)
  let C : Cx := { w := w, mg := mg, mb := mb, A := callerA.deeper (envOf name scope s₁.heap.objs.size fa cd), g := s₁.heap, env := envOf name scope s₁.heap.objs.size fa cd, s₀ := s₁,
                  fa := [s₁.heap.objs.size], H := [], dp := d, un := u }
  have W : Fw C := ⟨List.mem_cons_self, (fun c hc => (nomatch hc)), List.Pairwise.nil⟩
  have X : At C (lk binds) [] { s₁ with heap := h₁, toks := tk } := {
    same := ⟨_, _, rfl⟩
    gl := ⟨K, T⟩
    hh := rfl
    rd := hd1
    ru := hu1
    keep := F.keep
    vars := ⟨⟨_, F.ns, fun y _ => hm y⟩, (fun y c hy hc => (nomatch hc))⟩
    own := fun _ hp => nomatch hp
    hid := fun _ hp => nomatch hp
    live := fun a ha => by
      rcases List.mem_cons.mp ha with rfl | ha
      · exact Ns.live F.ns
      · cases ha
    nod := by
      show ([s₁.heap.objs.size] ++ ([] ++ [])).Nodup
      simp
    new := fun a ha => by
      have ha' : a ∈ [s₁.heap.objs.size] := (List.mem_append.mp ha).elim id fun h => nomatch h
      rw [List.mem_singleton.mp ha']
      exact hnone _ (Nat.le_refl _)
    frm := fun a ha => .inl (by
      rcases ha with rfl | ha
      · exact List.mem_cons_self
      · cases ha)
    fn := ⟨hk, rfl, rfl⟩ }
  refine wpAny_mono (H C rfl rfl rfl rfl rfl rfl W _ X) (fun fl s' ⟨m', R', Y, hp⟩ => ?_) fun _ _ x => x.elim
  obtain ⟨h', tk', e⟩ := Y.same
  subst hp
  refine hQ s' Y.keep ?_ ?_ <;> rw [e]
end
section
open PySem PySem.W PySem.Calls PyProof.Rows PySem.Builtin
set_option maxRecDepth 100000
set_option maxHeartbeats 2000000
/-- no entry of a table is larger than b -/
noncomputable def Bnd (M : Nat → Nat → Int) (b : Nat) : Prop := ∀ i j, (M i j).natAbs ≤ b
theorem bnd_T {M : Nat → Nat → Int} {b : Nat} {t : Int} (h : Bnd M b) (ht : t.natAbs ≤ 100) (i : Nat) : Bnd (stepT t i M) (b + 100) := fun x y => by
  have h1 := h x y
  have h2 := h i i
  unfold stepT upd
  split <;> omega
theorem bnd_upd {M : Nat → Nat → Int} {b : Nat} {v : Int} (h : Bnd M b) (hv : v.natAbs ≤ b) (i j : Nat) : Bnd (upd M i j v) b := fun x y => by
  have h1 := h x y
  unfold upd
  split <;> omega
theorem Bnd.le {M : Nat → Nat → Int} {b c : Nat} (h : Bnd M b) (hc : b ≤ c) : Bnd M c := fun x y => Nat.le_trans (h x y) hc
theorem bnd_J {W M : Nat → Nat → Int} {b : Nat} (hW : ∀ i j, (W i j).natAbs ≤ 1000) (h : Bnd M b) (i j : Nat) : Bnd (stepJ W i j M) (b + 3000) := by
  have hw := hW i j
  have a1 : Bnd (upd (upd M i j (-(W i j))) j i (-(W i j))) (b + 1000) := bnd_upd (bnd_upd (h.le (by omega)) (by omega) _ _) (by omega) _ _
  have a2 := a1 i i
  have a3 : Bnd (upd (upd (upd M i j (-(W i j))) j i (-(W i j))) i i ((upd (upd M i j (-(W i j))) j i (-(W i j))) i i + W i j)) (b + 2000) := bnd_upd (a1.le (by omega)) (by omega) _ _
  have a4 := a3 j j
  exact bnd_upd (a3.le (by omega)) (by omega) _ _
theorem bnd_inner {W M : Nat → Nat → Int} {b : Nat} (hW : ∀ i j, (W i j).natAbs ≤ 1000) (h : Bnd M b) (i : Nat) : ∀ j, Bnd (innerJ W i M j) (b + 3000 * j)
  | 0 => h
  | j + 1 => (bnd_J hW (bnd_inner hW h i j) i j).le (by omega)
theorem bnd_outer {W : Nat → Nat → Int} {t : Int} (hW : ∀ i j, (W i j).natAbs ≤ 1000) (ht : t.natAbs ≤ 100) : ∀ n, n ≤ 5 → Bnd (outerI W t n) (20000 * n)
  | 0, _ => fun _ _ => Nat.le_refl _
  | n + 1, h => (bnd_inner hW (bnd_T (bnd_outer hW ht n (by omega)) ht n) n n).le (by omega)
theorem tieW_le (ns : List (List Nat)) (i j : Nat) : (tieW ns i j).natAbs ≤ 1000 := tie_le _
theorem ints_of : ∀ {vs : List Value} {is : List Int}, IntsAre vs is → vs.length = is.length ∧ ∀ v ∈ vs, ∃ i t, v = .int i t
  | _, _, .nil => ⟨rfl, fun _ h => nomatch h⟩
  | _, _, .cons n t r => by
    obtain ⟨h1, h2⟩ := ints_of r
    refine ⟨by rw [List.length_cons, List.length_cons, h1], fun v hv => ?_⟩
    rcases List.mem_cons.mp hv with rfl | hv
    · exact ⟨n, t, rfl⟩
    · exact h2 v hv
theorem nums_of {xs : List Value} {is : List Int} (h : Ints xs is) (h5 : Cells5 is) : ∃ cs : List Nat, is = cs.map Int.ofNat ∧ Nums xs cs ∧ (∀ c ∈ cs, c < 1000) ∧ cs.length = 5 := by
  have e : is = (is.map Int.toNat).map Int.ofNat := by
    rw [List.map_map]
    conv => lhs; rw [← List.map_id is]
    apply List.map_congr_left
    intro i hi
    have := (h5.2 i hi).1
    show i = Int.ofNat i.toNat
    rw [Int.ofNat_eq_natCast, Int.toNat_of_nonneg this]
  refine ⟨is.map Int.toNat, e, by unfold Nums; rw [← e]; exact h, fun c hc => ?_, by rw [List.length_map]; exact h5.1⟩
  obtain ⟨i, hi, rfl⟩ := List.mem_map.mp hc
  have := h5.2 i hi
  omega
theorem texts_cons {x : Str} {vs : List Value} {n : List Nat} {ns : List (List Nat)} {t : Tok} (hx : x = S n) (h : Texts vs ns) : Texts (.str x t :: vs) (n :: ns) := by
  subst hx
  refine ⟨by rw [List.length_cons, List.length_cons, h.1], fun i m hi => ?_⟩
  cases i with
  | zero => simp at hi; subst hi; exact ⟨t, rfl⟩
  | succ i => exact h.2 i m hi
theorem numbers_fold : numbersT.foldl (fun a q => putT a q.1 q.2) [] = numbersT := by decide +kernel
theorem ev_doesG {C : Cx} {m : Map} {R : Led} {f : Addr} {d u : Nat} {args : List Value} {pre : Heap → Prop} {post : Value → Led → Prop} {P : Value → Map → Led → Prop} (S : Led)
    (D : Does C.w f d u args pre post) (hd : d ≤ C.dp) (hu : u ≤ C.un) (hpre : ∀ s, At C m R s → pre s.heap) (hS : ∀ p ∈ S, p ∈ R)
    (h : ∀ v R' RA, post v R' → (∀ p ∈ R', p ∈ RA) → (∀ p ∈ S, p ∈ RA) → P v m RA) : Ev C m R (call (.ref f) args) P :=
  ev_does D hd hu hpre fun v R' q => h v R' (R' ++ R) q (fun _ hp => List.mem_append_left _ hp) fun p hp => List.mem_append_right _ (hS p hp)
end
section
open PySem PySem.W PySem.Calls PyProof.Rows
set_option maxRecDepth 100000
/-! names that the head's own words would else fill with large equations -/
theorem top.tw10005945817407372193 : True := trivial
theorem top.tw10006222313960134694 : True := trivial
theorem top.tw10090393231696489298 : True := trivial
theorem top.tw10187264123177260123 : True := trivial
theorem top.tw10371376264297449482 : True := trivial
theorem top.tw10404823597219466188 : True := trivial
theorem top.tw10448899703829047738 : True := trivial
theorem top.tw1047907039808853306 : True := trivial
theorem top.tw105208000716104510 : True := trivial
theorem top.tw10567129059001840431 : True := trivial
theorem top.tw10703516329204539289 : True := trivial
theorem top.tw10773188271377071773 : True := trivial
theorem top.tw10936122117785486979 : True := trivial
theorem top.tw10956490626425055710 : True := trivial
theorem top.tw11185412093961514726 : True := trivial
theorem top.tw11265818243910019876 : True := trivial
theorem top.tw11279390925490393535 : True := trivial
theorem top.tw11334350811105764591 : True := trivial
theorem top.tw11384619953446753611 : True := trivial
theorem top.tw1139600151236580504 : True := trivial
theorem top.tw11430207588045935325 : True := trivial
theorem top.tw11459358961799972967 : True := trivial
theorem top.tw11466170419677230873 : True := trivial
theorem top.tw1149218181149386328 : True := trivial
theorem top.tw11613256710310857696 : True := trivial
theorem top.tw11762496359356365647 : True := trivial
theorem top.tw11858546649754279707 : True := trivial
theorem top.tw11960245374511038805 : True := trivial
theorem top.tw12080426169559351053 : True := trivial
theorem top.tw12102947074072374899 : True := trivial
theorem top.tw12105128591322288922 : True := trivial
theorem top.tw1212798325632107971 : True := trivial
theorem top.tw12166907935582030026 : True := trivial
theorem top.tw12216630987165489725 : True := trivial
theorem top.tw12318557346453588183 : True := trivial
theorem top.tw12342655685612074800 : True := trivial
theorem top.tw12392516345856041104 : True := trivial
theorem top.tw12425085872883035938 : True := trivial
theorem top.tw12483720753089274532 : True := trivial
theorem top.tw12535971307161669396 : True := trivial
theorem top.tw12622177474791663080 : True := trivial
theorem top.tw12643491718579748851 : True := trivial
theorem top.tw12718909917080609646 : True := trivial
theorem top.tw12818724758795314161 : True := trivial
theorem top.tw12819366960792805191 : True := trivial
theorem top.tw1284575025550258836 : True := trivial
theorem top.tw12945667359872996184 : True := trivial
theorem top.tw12958502747184954254 : True := trivial
theorem top.tw13044034144603486326 : True := trivial
theorem top.tw13160728816969591200 : True := trivial
theorem top.tw13264354339760550358 : True := trivial
theorem top.tw13303987763403120937 : True := trivial
theorem top.tw13345470168829271861 : True := trivial
theorem top.tw13359135706311490777 : True := trivial
theorem top.tw13369591340354186047 : True := trivial
theorem top.tw13578796956288294943 : True := trivial
theorem top.tw13664746368384525793 : True := trivial
theorem top.tw13822267516522204269 : True := trivial
theorem top.tw13889484949932952446 : True := trivial
theorem top.tw13896958669275611876 : True := trivial
theorem top.tw1400011881503588481 : True := trivial
theorem top.tw14142502885225118848 : True := trivial
theorem top.tw14263998999751124003 : True := trivial
theorem top.tw14349089067433371257 : True := trivial
theorem top.tw14371913498598963198 : True := trivial
theorem top.tw14372152842798730730 : True := trivial
theorem top.tw14402358008270493973 : True := trivial
theorem top.tw14459580976405569124 : True := trivial
theorem top.tw14502225709538309166 : True := trivial
theorem top.tw14533951869480809633 : True := trivial
theorem top.tw14597223018079223185 : True := trivial
theorem top.tw14608685727046917156 : True := trivial
theorem top.tw14789260269991461300 : True := trivial
theorem top.tw14823308797102314842 : True := trivial
theorem top.tw14826035006057030972 : True := trivial
theorem top.tw1483126911874232274 : True := trivial
theorem top.tw14851680436948445374 : True := trivial
theorem top.tw14901070454687303710 : True := trivial
theorem top.tw14917401599646851644 : True := trivial
theorem top.tw1492452104121835379 : True := trivial
theorem top.tw15058813355848621054 : True := trivial
theorem top.tw15092371282622821202 : True := trivial
theorem top.tw15112810671261844655 : True := trivial
theorem top.tw15131181735567767105 : True := trivial
theorem top.tw1516213087968936877 : True := trivial
theorem top.tw15169761463676818070 : True := trivial
theorem top.tw15177526630643400193 : True := trivial
theorem top.tw15240379268576122478 : True := trivial
theorem top.tw15299407806266782574 : True := trivial
theorem top.tw15362295582089109014 : True := trivial
theorem top.tw15503665604740900718 : True := trivial
theorem top.tw15646934709686841381 : True := trivial
theorem top.tw15860264024139754761 : True := trivial
theorem top.tw15865747894454325196 : True := trivial
theorem top.tw15878805988109762761 : True := trivial
theorem top.tw15985961358823992270 : True := trivial
theorem top.tw16044733080236030384 : True := trivial
theorem top.tw16050417384331286980 : True := trivial
theorem top.tw16058212318047004132 : True := trivial
theorem top.tw16123964013534891561 : True := trivial
theorem top.tw16155163154822807229 : True := trivial
theorem top.tw16174758807025615021 : True := trivial
theorem top.tw16196420915677631385 : True := trivial
theorem top.tw16204670001084760307 : True := trivial
theorem top.tw16273406610938067001 : True := trivial
theorem top.tw16394108629617908822 : True := trivial
theorem top.tw16420938139371093754 : True := trivial
theorem top.tw16439428074185983240 : True := trivial
theorem top.tw16502063483782752993 : True := trivial
theorem top.tw16752672240329700380 : True := trivial
theorem top.tw16759092144687519636 : True := trivial
theorem top.tw1676862907878916244 : True := trivial
theorem top.tw16782997733028217545 : True := trivial
theorem top.tw16840627104734473223 : True := trivial
theorem top.tw16900427199656544559 : True := trivial
theorem top.tw16963527931363030636 : True := trivial
theorem top.tw17081178143035459574 : True := trivial
theorem top.tw17315540178315561739 : True := trivial
theorem top.tw1732150942055357024 : True := trivial
theorem top.tw17323899518341599180 : True := trivial
theorem top.tw17355269125676882429 : True := trivial
theorem top.tw17469865338272021226 : True := trivial
theorem top.tw17486766287000646611 : True := trivial
theorem top.tw17492772389151264855 : True := trivial
theorem top.tw17555251805378815213 : True := trivial
theorem top.tw17600567758703202055 : True := trivial
theorem top.tw17810072253543177317 : True := trivial
theorem top.tw17886615442053742456 : True := trivial
theorem top.tw18008055252877512497 : True := trivial
theorem top.tw18034075008235765660 : True := trivial
theorem top.tw18063644159110109576 : True := trivial
theorem top.tw18085771088847121727 : True := trivial
theorem top.tw18086089286151905521 : True := trivial
theorem top.tw18164388396756303480 : True := trivial
theorem top.tw18194552166560175392 : True := trivial
theorem top.tw18371284783138465269 : True := trivial
theorem top.tw1869187583165140508 : True := trivial
theorem top.tw1886144042066472794 : True := trivial
theorem top.tw1891491216880485542 : True := trivial
theorem top.tw2057334267981633021 : True := trivial
theorem top.tw2126296398998916975 : True := trivial
theorem top.tw2145171640123136144 : True := trivial
theorem top.tw216529984938456764 : True := trivial
theorem top.tw2218668502564051296 : True := trivial
theorem top.tw2249405535684624136 : True := trivial
theorem top.tw2287823674025257028 : True := trivial
theorem top.tw2462062305354472974 : True := trivial
theorem top.tw2464713573024523455 : True := trivial
theorem top.tw2514443458684651071 : True := trivial
theorem top.tw2555065506035805374 : True := trivial
theorem top.tw2617719716777270872 : True := trivial
theorem top.tw2782073688633401757 : True := trivial
theorem top.tw2812155379371279736 : True := trivial
theorem top.tw2822501910515967889 : True := trivial
theorem top.tw2835187731363253809 : True := trivial
theorem top.tw2867133514656366558 : True := trivial
theorem top.tw2924597203103170677 : True := trivial
theorem top.tw3195968871104189447 : True := trivial
theorem top.tw319827597282564339 : True := trivial
theorem top.tw3290017127015548484 : True := trivial
theorem top.tw3337584539547039419 : True := trivial
theorem top.tw3430127420881650015 : True := trivial
theorem top.tw344219194075145802 : True := trivial
theorem top.tw3561193834555079511 : True := trivial
theorem top.tw370947364307004932 : True := trivial
theorem top.tw3730354652608582461 : True := trivial
theorem top.tw3768957769849046624 : True := trivial
theorem top.tw381845443943030031 : True := trivial
theorem top.tw3855276242980373810 : True := trivial
theorem top.tw390997316461189296 : True := trivial
theorem top.tw3969286963782609292 : True := trivial
theorem top.tw4076138812419527698 : True := trivial
theorem top.tw4166218997396506358 : True := trivial
theorem top.tw4186445540838780016 : True := trivial
theorem top.tw4213018616267185653 : True := trivial
theorem top.tw4257513813871878786 : True := trivial
theorem top.tw427269002284569659 : True := trivial
theorem top.tw4321519831107876412 : True := trivial
theorem top.tw4498253355057717688 : True := trivial
theorem top.tw453181688931711583 : True := trivial
theorem top.tw4565347363164230621 : True := trivial
theorem top.tw4571971715460732019 : True := trivial
theorem top.tw4655869559712951663 : True := trivial
theorem top.tw4671429814451907529 : True := trivial
theorem top.tw4859757453598101857 : True := trivial
theorem top.tw5088376156974544275 : True := trivial
theorem top.tw5105846836358774362 : True := trivial
theorem top.tw517144808224063464 : True := trivial
theorem top.tw521701566708251284 : True := trivial
theorem top.tw5225153198818245361 : True := trivial
theorem top.tw5225916559131626549 : True := trivial
theorem top.tw5244899138074338376 : True := trivial
theorem top.tw5278709424875269971 : True := trivial
theorem top.tw5303079699428457377 : True := trivial
theorem top.tw5405092056839124451 : True := trivial
theorem top.tw5476889619067714990 : True := trivial
theorem top.tw5581607755468803823 : True := trivial
theorem top.tw5635023394480961331 : True := trivial
theorem top.tw5667650583090716360 : True := trivial
theorem top.tw575894324575664597 : True := trivial
theorem top.tw5766051744304087583 : True := trivial
theorem top.tw5868845118606482295 : True := trivial
theorem top.tw5926821756582167016 : True := trivial
theorem top.tw6127594578889010139 : True := trivial
theorem top.tw614279269813649353 : True := trivial
theorem top.tw6187478851450931391 : True := trivial
theorem top.tw6286779285267259847 : True := trivial
theorem top.tw6333448901615975916 : True := trivial
theorem top.tw6370870915552960936 : True := trivial
theorem top.tw6431110157172167083 : True := trivial
theorem top.tw6442268759946869923 : True := trivial
theorem top.tw6491118196486620199 : True := trivial
theorem top.tw649594095290182367 : True := trivial
theorem top.tw6520327441239513222 : True := trivial
theorem top.tw663096999872334218 : True := trivial
theorem top.tw6664487174759623829 : True := trivial
theorem top.tw6749217079512962374 : True := trivial
theorem top.tw6756868429301003459 : True := trivial
theorem top.tw6761616313442571491 : True := trivial
theorem top.tw6812286434817487243 : True := trivial
theorem top.tw6859976401760118174 : True := trivial
theorem top.tw6883741973766446791 : True := trivial
theorem top.tw6898770573198911631 : True := trivial
theorem top.tw6961719218334789944 : True := trivial
theorem top.tw7008692893051332821 : True := trivial
theorem top.tw705360758644809490 : True := trivial
theorem top.tw708234853630380328 : True := trivial
theorem top.tw7250933059871147345 : True := trivial
theorem top.tw7260941619817147077 : True := trivial
theorem top.tw728428047077509346 : True := trivial
theorem top.tw7297446738713254254 : True := trivial
theorem top.tw7414872774492366064 : True := trivial
theorem top.tw7444641836354208208 : True := trivial
theorem top.tw7458633546980236471 : True := trivial
theorem top.tw7557910624720293991 : True := trivial
theorem top.tw7673058066778466091 : True := trivial
theorem top.tw7740461459972228597 : True := trivial
theorem top.tw775762912060472103 : True := trivial
theorem top.tw7855079511596107753 : True := trivial
theorem top.tw788273225186049534 : True := trivial
theorem top.tw795583310449317561 : True := trivial
theorem top.tw8107780213005350392 : True := trivial
theorem top.tw814325599930780420 : True := trivial
theorem top.tw8143265674769528471 : True := trivial
theorem top.tw81815255157605957 : True := trivial
theorem top.tw8184561461823581802 : True := trivial
theorem top.tw8265191368974092141 : True := trivial
theorem top.tw8363718466572441477 : True := trivial
theorem top.tw8410488445778877200 : True := trivial
theorem top.tw8435561252592420358 : True := trivial
theorem top.tw8443935842833279946 : True := trivial
theorem top.tw8507776931139520737 : True := trivial
theorem top.tw8523463495250067690 : True := trivial
theorem top.tw8598144960395782539 : True := trivial
theorem top.tw860223938195835975 : True := trivial
theorem top.tw8640399195822439974 : True := trivial
theorem top.tw8645369167282567922 : True := trivial
theorem top.tw864819663365544661 : True := trivial
theorem top.tw8689318265317240412 : True := trivial
theorem top.tw8729362747519067210 : True := trivial
theorem top.tw8735323631387419056 : True := trivial
theorem top.tw877433047237710547 : True := trivial
theorem top.tw8810280945414196856 : True := trivial
theorem top.tw887695700811335699 : True := trivial
theorem top.tw8973803690348224638 : True := trivial
theorem top.tw9059672392935016618 : True := trivial
theorem top.tw9059832203979395877 : True := trivial
theorem top.tw9063741608606530840 : True := trivial
theorem top.tw908825868028484722 : True := trivial
theorem top.tw9108098604805947806 : True := trivial
theorem top.tw919456116618348977 : True := trivial
theorem top.tw9229161468869434483 : True := trivial
theorem top.tw9305691244287143441 : True := trivial
theorem top.tw9437893007894698314 : True := trivial
theorem top.tw9514973924220054061 : True := trivial
theorem top.tw9547732980113122599 : True := trivial
theorem top.tw956942650209027819 : True := trivial
theorem top.tw9631074621892390191 : True := trivial
theorem top.tw9685306978477570941 : True := trivial
theorem top.tw9768079942903668216 : True := trivial
theorem top.tw9800703332001039478 : True := trivial
theorem top.tw987869383939708018 : True := trivial
theorem top.tw9883271218011376521 : True := trivial
theorem top.tw9961057766049560675 : True := trivial
theorem top.tw13271418669901316289 : True := trivial
theorem top.tw4156846831997812186 : True := trivial
theorem top.tw8075568018651887793 : True := trivial
theorem top.tw3144195297128060453 : True := trivial
theorem top.tw415706843491771442 : True := trivial
theorem top.tw1488887377122669195 : True := trivial
theorem top.tw12870557308960232558 : True := trivial
theorem top.tw6516942875648907648 : True := trivial
end
section
open PySem PySem.W PySem.Calls PyProof.Rows PySem.Builtin
set_option maxRecDepth 100000
set_option maxHeartbeats 2000000
set_option Elab.async true in
theorem top : PySem.Challenge.rw_wa0015_01.Holds := by
  w_on
  o_law
  o_head (kHook hd.heap_39 AS (fun _ => by kernel_rfl))
  (case hw => w_witness2)
  k_go0
  rename_i w s₀ s₁ mg mb G Y fa o pm doc kV ho hg KX X V GL T B TE TW w9 w8 M w7 w6 hcd is hs hlay0 hL1 hr1 hl2 w4 w3 l vs w00 hL ra w1 r0 hI hr hcond1 hcond K0 hD h₁ F N0
  clear hD hcd TW TE B GL V X Y G M hr hl2 hr1 hL1 hlay0 hs r0
  refine law_enter (d := 6) (u := 110) (binds := [("script", .ref l)]) KX ⟨T.g, T.b, T.nolimit, T.builtins⟩ F (fun y => rfl) rfl (by decide) (by decide) ?_ ?_
  · intro C hw hdp hun hH hgC hE W
    clear ho hg F N0 w1
    clear KX T K0
    subst hw
    have hpre : Holds C.w C.g l (.list vs) := by
      rw [hgC]
      have := Holds.ofList (w := C.w) hL
      simpa using this
    clear hL ra hgC
    obtain ⟨hvl, hvi⟩ := ints_of hI
    repeat walk_at "go"
    refine ev_doesG [] (d_cells C.w l vs (by omega) hvi) (by omega) (by omega) (fun s X => X.has (.base hpre)) (fun _ h => nomatch h) ?_
    rintro _ R1 RA ⟨D, xs, is2, rfl, hD, hI2, h5⟩ hR1 _
    have hDA := hR1 _ hD
    clear hR1 hD hI hvl hvi
    obtain ⟨cs, hcs, hN, hc, hcl⟩ := nums_of hI2 h5
    obtain ⟨nf1, nf2, nf3, nf4⟩ := names_facts cs hc
    repeat walk_at "go"
    refine' ev_assigncomp (cl := []) W ?k1 ?k2 ?k3 ?_
    case k1 => walk_at "vr"
    case k2 => exact .zero (by rw [hE]; rfl) rfl (by decide +kernel) (fun _ => by rw [hE]; rfl)
    case k3 => rw [hE]; rfl
    repeat walk_at "go"
    refine ev_list ?_
    repeat walk_at "go"
    refine ⟨by simp, fun z hz => ?_⟩
    repeat walk_at "go"
    refine' ev_doesG [(D, .plist xs)] (d_names C.w D z xs _ cs P1 hN hc (by omega) ?kt rfl (by decide)) (by omega) (by omega) (fun s X => ⟨X.has (.memP (List.mem_cons_of_mem _ hDA)), X.has (.memP List.mem_cons_self)⟩) (fun p hp => by rw [List.mem_singleton.mp hp]; exact List.mem_cons_of_mem _ hDA) ?_
    case kt => repeat (first | exact Texts.nil | refine texts_cons (by with_unfolding_all rfl) ?_)
    rintro _ R2 RB ⟨N, ys, rfl, hNm, hT1⟩ hRb hDB
    replace hDB := hDB _ List.mem_cons_self
    replace hNm := hRb _ hNm
    clear hDA hRb R2
    have hyl5 : ys.length = 5 := by rw [hT1.1, ← nf4.trans hcl, ← nf1, List.length_map]
    refine ⟨_, _, fun i zs _ => Texts zs ((namesOf P2 cs).take i), ⟨by omega, fun C0 hw0 hh => .list0 (hh N _ (Has.memP hNm) _), Texts.nil, ?_⟩, ?_⟩
    · rintro C1 m1 i y zs Rc I hlt hy hj hzl
      refine ev_notests ⟨fun _ => ?_, fun h => nomatch h⟩
      obtain ⟨L1, hE1⟩ := I.env
      rw [hE] at hE1
      have hit := I.it
      obtain ⟨n, tn, hn, rfl⟩ := hT1.get hy
      have hnm := nf2 n (List.mem_of_getElem? hn)
      repeat walk_at "go"
      refine ev_does (d_great C1.w n tn (by omega) hnm.1) (by rw [I.dp]; omega) (by rw [I.un]; omega) (fun _ _ => trivial) ?_
      rintro _ R3 ⟨t3, rfl⟩
      have e : (namesOf P2 cs).take (i + 1) = (namesOf P2 cs).take i ++ [great 50 n] := by
        rw [List.take_add_one, ← nf1, List.getElem?_map, hn]; rfl
      show Texts (zs ++ [.str (S (great 50 n)) t3]) ((namesOf P2 cs).take (i + 1))
      rw [e]
      exact hj.snoc _ _
    · rintro D2 Rc zs hz hzl
      rw [List.take_of_length_le (by omega)] at hz
      have hDC : (D, Cell.plist xs) ∈ (D2, Cell.plist zs) :: Rc ++ RB := List.mem_append_right _ hDB
      have hZC : (D2, Cell.plist zs) ∈ (D2, Cell.plist zs) :: Rc ++ RB := List.mem_append_left _ List.mem_cons_self
      generalize (D2, Cell.plist zs) :: Rc ++ RB = RC at hDC hZC ⊢
      clear hDB hNm RB
      repeat walk_at "go"
      refine ev_list ?_
      repeat walk_at "go"
      refine ⟨by simp, fun z2 hz2 => ?_⟩
      repeat walk_at "go"
      refine' ev_doesG [(D, .plist xs), (D2, .plist zs)] (d_names C.w D z2 xs _ cs P2 hN hc (by omega) ?kt2 rfl (by decide)) (by omega) (by omega) (fun s X => ⟨X.has (.memP (List.mem_cons_of_mem _ hDC)), X.has (.memP List.mem_cons_self)⟩) (fun p hp => by
        rcases List.mem_cons.mp hp with rfl | hp
        · exact List.mem_cons_of_mem _ hDC
        · rw [List.mem_singleton.mp hp]; exact List.mem_cons_of_mem _ hZC) ?_
      case kt2 => repeat (first | exact Texts.nil | refine texts_cons (by with_unfolding_all rfl) ?_)
      rintro _ R4 RD ⟨N2, ys2, rfl, hNm2, hT2⟩ hRd hSd
      have hDD := hSd (D, .plist xs) (by simp)
      have hZD := hSd (D2, .plist zs) (by simp)
      have hND := hRd _ hNm2
      clear hRd hSd hNm2 R4 hDC hZC
      have hl5 : (namesOf P2 cs).length = 5 := nf4.trans hcl
      have hplain := fun (kvs : List (Str × Value)) (hT : Tab kvs numbersT) (t : Int) => law_plain hc hcl hT t
      clear nf1 nf2 nf4 hT1 hN hc
      generalize namesOf P2 cs = ns at *
      repeat walk_at "go"
      have hne : ns ≠ [] := fun q => by rw [q] at hl5; cases hl5
      have h100 : ∀ n ∈ ns, n.length ≤ 100 := fun n hn => Nat.le_trans (nf3 n hn) (by decide)
      have h0 : ns[0]? = some ns[0] := List.getElem?_eq_getElem (by omega)
      refine ev_doesG [(D, .plist xs), (D2, .plist zs), (N2, .plist ys2)] (d_common C.w D2 zs ns hz hne h100 (by omega)) (by omega) (by omega) (fun s X => X.has (.memP hZD)) (by simp [hDD, hZD, hND]) ?_
      rintro _ R5 RE ⟨pa, pb, tc, hpa, hpb, rfl⟩ _ hSe
      clear hDD hZD hND
      have hDE := hSe (D, .plist xs) (by simp)
      have hZE := hSe (D2, .plist zs) (by simp)
      have hNE := hSe (N2, .plist ys2) (by simp)
      clear hSe
      repeat walk_at "go"
      refine ev_doesG [(D, .plist xs), (D2, .plist zs), (N2, .plist ys2)] (d_begun C.w N2 ys2 ns ns[0] hT2 h0 h100 (by omega)) (by omega) (by omega) (fun s X => X.has (.memP hNE)) (by simp [hDE, hZE, hNE]) ?_
      rintro _ R6 RF ⟨k, tk, hk, rfl⟩ _ hSf
      clear hDE hZE hNE
      have hDF := hSf (D, .plist xs) (by simp)
      have hZF := hSf (D2, .plist zs) (by simp)
      have hNF := hSf (N2, .plist ys2) (by simp)
      clear hSf
      rw [begun_lcp (List.mem_of_getElem? h0) hk hpa hpb]
      repeat walk_at "go"
      have e1 : (k != k) = false := by simp
      rw [e1]
      refine ⟨fun h => (nomatch h), fun _ => ?_⟩
      repeat walk_at "go"
      refine ev_neTexts (.memP hZF) (.memP hNF) hz hT2 (by omega) ?_
      have e2 : (ns != ns) = false := by simp
      rw [e2]
      repeat walk_at "go"
      refine ⟨fun h => (nomatch h), fun _ => ?_⟩
      repeat walk_at "go"
      refine ⟨fun h => (nomatch h), fun _ => ?_⟩
      repeat walk_at "go"
      (with_reducible refine' ev_dictN (T := numbersT) ?q1 ?q2 ?q3 ?q4 ?q5 ?_)
      case q1 =>
        unfold numbersT
        repeat (first | exact Lits.nil | refine Lits.cons (by with_unfolding_all rfl) ?_)
      case q2 => exact rfl
      case q3 => exact rfl
      case q4 => exact fun q => nomatch q
      case q5 => decide
      intro da kvs hda hTab
      rw [numbers_fold] at hTab
      repeat walk_at "go"
      refine ev_sum (is := is2) (.memP (List.mem_cons_of_mem _ hDF)) hI2 fun _ => ?_
      repeat walk_at "go"
      refine ev_fmod (by decide) fun _ => ?_
      refine ev_addI fun tt => ?_
      have ht : ((1 : Int) + is2.sum.fmod 5).natAbs ≤ 100 := by
        have h1 := Int.fmod_nonneg_of_pos is2.sum (show (0 : Int) < 5 by decide)
        have h2 := Int.fmod_lt_of_pos is2.sum (show (0 : Int) < 5 by decide)
        omega
      generalize (1 : Int) + is2.sum.fmod 5 = tv at ht ⊢
      clear hDF
      repeat walk_at "go"
      refine ev_doesG [(N2, .plist ys2), (da, .dict kvs)] (d_lines C.w D2 zs ns tv tt hz h100 (by omega)) (by omega) (by omega) (fun s X => X.has (.memP (List.mem_cons_of_mem _ hZF))) (by simp [hNF]) ?_
      intro vM R7 RG hmat hR7 hSg
      rw [hl5] at hmat
      obtain ⟨M, as, rfl, hM, hal, hrows⟩ := hmat
      have hNG := hSg (N2, .plist ys2) (by simp)
      have hdG := hSg (da, .dict kvs) (by simp)
      clear hSg hNF hZF
      repeat walk_at "go"
      refine ev_doesG [(N2, .plist ys2), (da, .dict kvs)] (d_det C.w M as 5 (outerI (tieW ns) tv 5) (by decide) (by decide) hal fun i j => Nat.lt_of_le_of_lt (bnd_outer (tieW_le ns) ht 5 (Nat.le_refl _) i j) (by decide)) (by omega) (by omega) (fun s X => ⟨X.has (.memP (hR7 _ hM)), fun k hk => ?_⟩) (by simp [hNG, hdG]) ?_
      · obtain ⟨a, vs, c, g1, g2, g3, g4⟩ := hrows k hk
        exact ⟨a, vs, g1, (X.own _ (hR7 _ g2)).le g3, g4⟩
      rintro _ R8 RH ⟨td, rfl⟩ _ hSh
      have hNH := hSh (N2, .plist ys2) (by simp)
      have hdH := hSh (da, .dict kvs) (by simp)
      clear hSh hNG hdG hR7 hM hrows
      repeat walk_at "go"
      refine ev_does (d_forks C.w N2 da ys2 ns kvs numbersT tv tt hT2 nf3 (by omega) hTab (fun x => due_le hTab x) ht) (by omega) (by omega) (fun s X => ⟨X.has (.memP hNH), X.has (.mem hdH)⟩) ?_
      rintro _ R9 ⟨tf, rfl⟩
      repeat walk_at "go"
      show Flow.ret (.bool (detOf (outerI (tieW ns) tv 5) 5 == forksOf kvs (ns.foldl stepName ([], [])) tv)) = .ret (.bool true)
      rw [hplain kvs hTab tv]
      simp
  · intro s' k1 k2 k3
    refine ⟨.inl ⟨.bool true, .bool true, [], rfl, fun _ => rfl, .bool true, ?_, fun _ => ⟨List.nodup_nil, fun a ha => nomatch ha⟩⟩, k1, k2, k3.trans hg⟩
    kernel_rfl
end
end Mine
theorem PySem.Challenge.cw_wa0015_01_holds : PySem.Challenge.rw_wa0015_01.Holds := by
  exact Mine.top
