import PyProof.Rows.All
import Wide.All
import OpenK.AllK
import Wide.FinOn
import PySem.Challenge.RW_ab6002_01
open PySem PySem.W PySem.W.X PyProof.Rows
set_option Elab.async false
set_option maxRecDepth 100000
-- lays the entry of z_head's own table under the names Mine.tw.* (the head itself is dropped): the next defs stand for them
set_option maxHeartbeats 0 in
theorem Mine.tw : True := by
  first
  | (have hh : ({ PySem.Challenge.rw_ab6002_01.row with name := (PySem.Str.ofString "nope") } : PySem.W.OpenRow).Holds := by
       z_head
     trivial)
  | trivial
local macro_rules | `(tactic| k_head) => `(tactic| z_head)
set_option maxHeartbeats 8000000 in
open_top hz for PySem.Challenge.rw_ab6002_01
namespace Mine
/-- the tree of objects without the one at a place -/
noncomputable def del : KT → Nat → KT
  | .nil, _ => .nil
  | .node v l r, i => match Nat.beq i 0 with
    | true => .node none l r
    | false => match Nat.beq (i % 2) 1 with
      | true => .node v (del l (i / 2)) r
      | false => .node v l (del r (i / 2 - 1))
theorem del_get : ∀ (t : KT) (i j : Nat) (o : Obj), (del t i).get j = some o → j ≠ i ∧ t.get j = some o := by
  intro t
  induction t with
  | nil => intro i j o h; simp [del, KT.get] at h
  | node v l r ihl ihr =>
    intro i j o h
    unfold del at h
    rw [BT.beq_eq, BT.beq_eq] at h
    by_cases h0 : i = 0
    · subst h0
      simp only [decide_true] at h
      rw [KT.get_node] at h
      by_cases hj : j = 0
      · rw [if_pos hj] at h; cases h
      · rw [if_neg hj] at h
        refine ⟨hj, ?_⟩
        rw [KT.get_node, if_neg hj]; exact h
    · rw [decide_eq_false h0] at h
      by_cases p : i % 2 = 1
      · rw [decide_eq_true p] at h
        dsimp only at h
        rw [KT.get_node] at h
        rw [KT.get_node]
        by_cases hj : j = 0
        · rw [if_pos hj] at h ⊢; exact ⟨by omega, h⟩
        · rw [if_neg hj] at h ⊢
          by_cases q : j % 2 = 1
          · rw [if_pos q] at h ⊢
            have := ihl _ _ _ h
            exact ⟨by intro e; subst e; exact this.1 rfl, this.2⟩
          · rw [if_neg q] at h ⊢
            exact ⟨by intro e; subst e; exact q p, h⟩
      · rw [decide_eq_false p] at h
        dsimp only at h
        rw [KT.get_node] at h
        rw [KT.get_node]
        by_cases hj : j = 0
        · rw [if_pos hj] at h ⊢; exact ⟨by omega, h⟩
        · rw [if_neg hj] at h ⊢
          by_cases q : j % 2 = 1
          · rw [if_pos q] at h ⊢
            exact ⟨by intro e; subst e; exact p q, h⟩
          · rw [if_neg q] at h ⊢
            have := ihr _ _ _ h
            exact ⟨by intro e; subst e; exact this.1 rfl, this.2⟩
theorem holds_of_get {h : Heap} : ∀ (t : KT) (s b : Nat), (∀ j o, t.get j = some o → h.get? (s * j + b) = some o) → KT.Holds h s b t := by
  intro t
  induction t with
  | nil => intro s b _; trivial
  | node v l r ihl ihr =>
    intro s b H
    refine ⟨fun o e => ?_, ihl _ _ fun j o e => ?_, ihr _ _ fun j o e => ?_⟩
    · have := H 0 o (by rw [KT.get_node, if_pos rfl]; exact e)
      simpa using this
    · have := H (2 * j + 1) o (by rw [KT.get_node, if_neg (by omega), if_pos (by omega), show (2 * j + 1) / 2 = j from by omega]; exact e)
      rw [show 2 * s * j + (s + b) = s * (2 * j + 1) + b from by rw [Nat.mul_add, Nat.mul_one, ← Nat.mul_assoc, Nat.mul_comm s 2]; omega]
      exact this
    · have := H (2 * j + 2) o (by rw [KT.get_node, if_neg (by omega), if_neg (by omega), show (2 * j + 2) / 2 - 1 = j from by omega]; exact e)
      rw [show 2 * s * j + (2 * s + b) = s * (2 * j + 2) + b from by rw [Nat.mul_add, ← Nat.mul_assoc, Nat.mul_comm s 2]; omega]
      exact this
theorem holds_del {h h' : Heap} {t : KT} {i : Nat} (H : KT.Holds h 1 0 t) (k : ∀ b o, b ≠ i → h.get? b = some o → h'.get? b = some o) : KT.Holds h' 1 0 (del t i) := by
  refine holds_of_get _ _ _ fun j o e => ?_
  obtain ⟨hj, hg⟩ := del_get _ _ _ _ e
  have := kt_at H hg
  rw [Nat.one_mul, Nat.add_zero]
  exact k _ _ hj this
namespace tw
noncomputable def ktop_105 (P : Params) : KT := del (hz.ktop_143 P) 30
noncomputable def zo (P : Params) (a : Nat) : Obj := ((hz.ktop_143 P).get a).getD { cls := .none }
noncomputable def zo_9 (P : Params) : Obj := zo P 8
noncomputable def zo_10 (P : Params) : Obj := zo P 9
noncomputable def zo_13 (P : Params) : Obj := zo P 12
noncomputable def zo_14 (P : Params) : Obj := zo P 13
noncomputable def zo_17 (P : Params) : Obj := zo P 16
noncomputable def zo_21 (P : Params) : Obj := zo P 20
noncomputable def zo_24 (P : Params) : Obj := zo P 23
noncomputable def zo_28 (P : Params) : Obj := zo P 27
noncomputable def zo_31 (_ : Params) : Obj := { cls := .none }
noncomputable def zo_35 (P : Params) : Obj := zo P 34
noncomputable def zo_38 (P : Params) : Obj := zo P 37
noncomputable def zo_42 (P : Params) : Obj := zo P 41
noncomputable def zo_45 (P : Params) : Obj := zo P 44
noncomputable def zo_47 (P : Params) : Obj := zo P 46
noncomputable def zo_50 (P : Params) : Obj := zo P 49
noncomputable def zo_52 (P : Params) : Obj := zo P 51
end tw
abbrev PG : Program := PySem.Challenge.pw_ab6002_01
/-- parts of the program's text, by place -/
def sBody : Stmt → List Stmt
  | .FunctionDef _ _ b .. => b
  | .ClassDef _ _ _ b .. => b
  | .For _ _ b _ _ => b
  | .If _ b _ _ => b
  | .While _ b _ _ => b
  | _ => []
def sArgs : Stmt → Arguments
  | .FunctionDef _ a .. => a
  | _ => ⟨[], [], none, [], [], none, []⟩
def sScope : Stmt → Scope
  | .FunctionDef _ _ _ _ _ _ s .. => s
  | .ClassDef _ _ _ _ _ _ s .. => s
  | _ => default
def nth (l : List Stmt) (i : Nat) : Stmt := l.getD i (.Pass ⟨0, 0, 0, 0⟩)
def top (i : Nat) : Stmt := nth PG.main.body i
def clsK : Stmt := nth (sBody (top 2)) 0
def mInit : Stmt := nth (sBody clsK) 2
def mGt : Stmt := nth (sBody clsK) 4
def mEq : Stmt := nth (sBody clsK) 5
def dCmp : Stmt := nth (sBody (top 4)) 0
/-- the base's objects that stay as they are: all but the two code tables -/
noncomputable def KB (P : Params) : Frag := (hz.heap_91 P).filter fun p => !(Nat.beq p.1 30) && !(Nat.beq p.1 23)
theorem lookup_filter {f : Addr × Obj → Bool} (hf : ∀ a o o', f (a, o) = f (a, o')) : ∀ (K : Frag) (a : Addr) (o : Obj), (K.filter f).lookup a = some o → K.lookup a = some o ∧ f (a, o) = true
  | [], _, _, e => nomatch e
  | (b, x) :: K, a, o, e => by
    rw [List.filter_cons] at e
    by_cases hb : (a == b) = true
    · have hab : a = b := beq_iff_eq.mp hb
      subst hab
      cases hx : f (a, x) with
      | true =>
        rw [hx, if_pos rfl, List.lookup_cons, beq_self_eq_true] at e
        cases e
        exact ⟨by rw [List.lookup_cons, beq_self_eq_true], hx⟩
      | false =>
        rw [hx, if_neg (by simp)] at e
        have := (lookup_filter hf K a o e).2
        rw [hf a o x, hx] at this
        cases this
    · have hb' : (a == b) = false := by simpa using hb
      have e' : (K.filter f).lookup a = some o := by
        cases hx : f (b, x) with
        | true => rw [hx, if_pos rfl, List.lookup_cons, hb'] at e; exact e
        | false => rw [hx, if_neg (by simp)] at e; exact e
      have := lookup_filter hf K a o e'
      exact ⟨by rw [List.lookup_cons, hb']; exact this.1, this.2⟩
theorem KB_in {P : Params} {h h' : Heap} (X : (hz.heap_91 P).In h) (k : ∀ b o, b ≠ 30 → b ≠ 23 → h.get? b = some o → h'.get? b = some o) : (KB P).In h' := by
  intro a o e
  obtain ⟨e1, e2⟩ := lookup_filter (fun _ _ _ => rfl) _ _ _ e
  simp only [Bool.and_eq_true, Bool.not_eq_true'] at e2
  exact k a o (fun q => by rw [q] at e2; exact absurd e2.1 (by decide)) (fun q => by rw [q] at e2; exact absurd e2.2 (by decide)) (X a o e1)
end Mine
namespace Mine
/-- the shapes of what cmp_to_key leaves behind -/
structure KTok where
  (n1 n2 n3 n4 n5 n6 : Tok)
  (e1 e2 e3 e4 e5 e6 e7 e8 e9 e10 e11 e12 e13 : Tok)
  (i1 i2 i3 i4 i5 : Tok)
  (g1 g2 g3 g4 g5 : Tok)
  (q1 q2 q3 q4 q5 : Tok)
structure KAdr where
  (C ns fi ci ds b1 fg cg fe ce cl x1 x2 x3 x4 x5 x6 x7 x8 x9 x10 x11 x12 : Addr)
  (y1 y2 y3 y4 y5 z1 z2 z3 z4 z5 gt eqt : Addr)
def oCls (a : KAdr) (t : KTok) : Obj :=
  ⟨.type "type", none, .cls { name := Str.ofString "K", bases := [.type "object"], mro := [.ref a.C, .type "object"], ns := a.ns, qualname := Str.ofString "cmp_to_key.<locals>.K", hasDict := false, slotNames := [Str.ofString "obj"] },
   #[some (.ref a.b1), none, some (.str (Str.ofString "K") t.n1), some (.str (Str.ofString "cmp_to_key.<locals>.K") t.n2), some (.builtin "object.__new__"), some (.bool false)]⟩
def oNs (H : Nat → Int) (a : KAdr) (t : KTok) : Obj :=
  ⟨.type "dict", none, .dict #[
    ⟨H 0, .str (Str.ofString "__module__") t.e1, .str (Str.ofString "cpy313.functools") t.n3⟩,
    ⟨H 1, .str (Str.ofString "__firstlineno__") t.e2, .int 9 t.n4⟩,
    ⟨H 2, .str (Str.ofString "__slots__") t.e3, .ref a.x1⟩,
    ⟨H 3, .str (Str.ofString "__init__") t.e4, .ref a.fi⟩,
    ⟨H 4, .str (Str.ofString "__lt__") t.e5, .ref a.x2⟩,
    ⟨H 5, .str (Str.ofString "__gt__") t.e6, .ref a.fg⟩,
    ⟨H 6, .str (Str.ofString "__eq__") t.e7, .ref a.fe⟩,
    ⟨H 7, .str (Str.ofString "__le__") t.e8, .ref a.x3⟩,
    ⟨H 8, .str (Str.ofString "__ge__") t.e9, .ref a.x4⟩,
    ⟨H 9, .str (Str.ofString "__hash__") t.e10, .none⟩,
    ⟨H 10, .str (Str.ofString "__static_attributes__") t.e11, .ref a.x5⟩,
    ⟨H 11, .str (Str.ofString "obj") t.e12, .ref a.ds⟩,
    ⟨H 12, .str (Str.ofString "__doc__") t.e13, .none⟩] 3, #[]⟩
def oDs (a : KAdr) (t : KTok) : Obj := ⟨.type "member_descriptor", none, .fields #[.str (Str.ofString "obj") t.n5, .ref a.C, .builtin "proto.slot", .builtin "proto.slot#set", .int 0 0], #[]⟩
def oInit (a : KAdr) (t : KTok) : Obj := ⟨.type "function", none, .func { name := Str.ofString "__init__", qualname := Str.ofString "cmp_to_key.<locals>.K.__init__", params := sArgs mInit, body := .stmts (sBody mInit), scope := sScope mInit, globals := 3, closure := [], defaults := .none, kwdefaults := .none, pyModule := .str (Str.ofString "law_ab6002_01") t.n6, code := .ref a.ci }, #[]⟩
def oCode (name qual : String) (line args flags : Int) (t1 t2 t3 t4 t5 : Tok) (x1 x2 x3 x4 x5 : Addr) : Obj := ⟨.type "code", none, .fields #[.str (Str.ofString name) t1, .str (Str.ofString qual) t2, .str (Str.ofString "/claim/cut.py") t3, .int line 0, .int args 0, .int 0 0, .int 0 0, .int flags 0, .ref x1, .bool true, .int 181 0, .ref x2, .none, .ref x3, .ref x4, .ref x5, .int t4 0, .int line 0, .str (Str.ofString "/claim/cut.py") t5], #[]⟩
def oMeth (name qual : String) (m : Stmt) (fv : String) (cl code ct : Addr) (n6 : Tok) : Obj := ⟨.type "function", none, .func { name := Str.ofString name, qualname := Str.ofString qual, params := sArgs m, body := .stmts (sBody m), scope := sScope m, globals := 3, closure := [(Str.ofString fv, cl)], defaults := .none, kwdefaults := .none, pyModule := .str (Str.ofString "law_ab6002_01") n6, code := .ref code, closureTuple := .ref ct }, #[]⟩
def oInst (C dx : Addr) (a : Int) (t : Tok) : Obj := ⟨.ref C, some dx, .plain, #[some (.int a t)]⟩
/-- the class K as cmp_to_key made it over the comparison cf -/
structure IsK (h : Heap) (a : KAdr) (t : KTok) (cf : Addr) : Prop where
  cls : h.get? a.C = some (oCls a t)
  ns : ∃ H, h.get? a.ns = some (oNs H a t)
  ds : h.get? a.ds = some (oDs a t)
  init : h.get? a.fi = some (oInit a t)
  ci : h.get? a.ci = some (oCode "__init__" "cmp_to_key.<locals>.K.__init__" 13 2 19 t.i1 t.i2 t.i3 t.i4 t.i5 a.x8 a.x9 a.x10 a.x11 a.x12)
  gt : h.get? a.fg = some (oMeth "__gt__" "cmp_to_key.<locals>.K.__gt__" mGt "mycmp" a.cl a.cg a.gt t.n6)
  cg : h.get? a.cg = some (oCode "__gt__" "cmp_to_key.<locals>.K.__gt__" 19 2 19 t.g1 t.g2 t.g3 t.g4 t.g5 a.y1 a.y2 a.y3 a.y4 a.y5)
  eq : h.get? a.fe = some (oMeth "__eq__" "cmp_to_key.<locals>.K.__eq__" mEq "mycmp" a.cl a.ce a.eqt t.n6)
  ce : h.get? a.ce = some (oCode "__eq__" "cmp_to_key.<locals>.K.__eq__" 22 2 19 t.q1 t.q2 t.q3 t.q4 t.q5 a.z1 a.z2 a.z3 a.z4 a.z5)
  cell : h.get? a.cl = some ⟨.type "cell", none, .cell (some (.ref cf)), #[]⟩
theorem IsK.keeps {h h' : Heap} {a : KAdr} {t : KTok} {cf : Addr} (x : IsK h a t cf) (k : ∀ b o, h.get? b = some o → h'.get? b = some o) : IsK h' a t cf :=
  ⟨k _ _ x.cls, x.ns.imp fun _ e => k _ _ e, k _ _ x.ds, k _ _ x.init, k _ _ x.ci, k _ _ x.gt, k _ _ x.cg, k _ _ x.eq, k _ _ x.ce, k _ _ x.cell⟩
/-- the comparison that _law_compare made over the table T -/
structure IsCmp (h : Heap) (f code cell ct x1 x2 x3 x4 x5 : Addr) (n6 t1 t2 t3 t4 t5 : Tok) (T : Addr) : Prop where
  fn : h.get? f = some (oMeth "compare" "_law_compare.<locals>.compare" dCmp "table" cell code ct n6)
  code : h.get? code = some (oCode "compare" "_law_compare.<locals>.compare" 35 2 19 t1 t2 t3 t4 t5 x1 x2 x3 x4 x5)
  cell : h.get? cell = some ⟨.type "cell", none, .cell (some (.ref T)), #[]⟩
theorem IsCmp.keeps {h h' : Heap} {f code cell ct x1 x2 x3 x4 x5 : Addr} {n6 t1 t2 t3 t4 t5 : Tok} {T : Addr} (x : IsCmp h f code cell ct x1 x2 x3 x4 x5 n6 t1 t2 t3 t4 t5 T) (k : ∀ b o, h.get? b = some o → h'.get? b = some o) :
    IsCmp h' f code cell ct x1 x2 x3 x4 x5 n6 t1 t2 t3 t4 t5 T := ⟨k _ _ x.fn, k _ _ x.code, k _ _ x.cell⟩
/-- an end of the machine's own run, as a claim: its answer is that Q holds -/
noncomputable def claimQ (Q : Prop) : ClaimW := { prog := PG, records := [], pre := fun _ => true, post := fun _ _ _ => @decide Q (Classical.propDecidable Q), raises := fun _ _ => false }
def okT : Result := .ok (.ret (.bool true))
theorem claimQ_intro {Q : Prop} {a : List WData} {b : WData} {c : List WData} (h : Q) : (claimQ Q).post a b c = true := @decide_eq_true Q (Classical.propDecidable Q) h
theorem of_claimQ {Q : Prop} {cl : Str → Option Addr} {mean : ExcName → Option Value} {s₁ s' : Shared} (h : GoodWG (claimQ Q) cl mean [] s₁ okT s') : Q := by
  rcases h.1 with ⟨v, d, as, _, _, _, hp, _⟩ | ⟨e, ob, cls, he, _⟩
  · exact @of_decide_eq_true Q (Classical.propDecidable Q) hp
  · cases he
theorem rep_at {V : XV} {h : Heap} {T : BT} {m : Nat} {ch : Ch} (D : Rep V h T m ch) {i : Nat} {o : Obj} (e : T.get i = some o) : h.get? (V.n₁ + i) = some o := (D.own i o e).2
end Mine

namespace Mine
theorem rep_ch {V : XV} {h : Heap} {T : BT} {m : Nat} {ch : Ch} {a : Addr} (D : Rep V h T m ch) (e : (chLook ch a).isSome = true) : ∃ vs, h.get? a = some (tableObj vs) ∧ ∃ c ps more, V.h₀.TableAt c a ps ∧ vs = ps ++ more := by
  obtain ⟨vs, hv⟩ := Option.isSome_iff_exists.mp e
  exact ⟨vs, D.ch _ _ hv⟩
theorem ch_off {a b : Addr} {vs : Array Value} (h : b ≠ a) : chLook [(a, vs)] b = none := by
  show (match Nat.beq a b with | true => some vs | false => none) = none
  rw [BT.beq_eq, decide_eq_false (fun e => h e.symm)]
/-- a code table that has only grown -/
def Grew (h h' : Heap) (P : Addr) : Prop := ∃ vs, h'.get? P = some (tableObj vs) ∧ ∃ c ps more, h.TableAt c P ps ∧ vs = ps ++ more
/-- what a run of _law_compare leaves, when the heap's size was N -/
structure CmpEnd (h h' : Heap) (N t : Nat) (T : Addr) : Prop where
  it : IsCmp h' (N + 9) (N + 8) (N + 1) (N + 2) (N + 3) (N + 4) (N + 5) (N + 6) (N + 7) 207 t (t + 1) (t + 2) (t + 6) (t + 7) T
  size : h'.objs.size = N + 10
  keep : ∀ b o, b ≠ 30 → h.get? b = some o → h'.get? b = some o
  grew : Grew h h' 30
def kAdr (N : Nat) : KAdr where
  C := N + 60
  ns := N + 59
  fi := N + 16
  ci := N + 15
  ds := N + 61
  b1 := N + 2
  fg := N + 32
  cg := N + 31
  fe := N + 40
  ce := N + 39
  cl := N + 1
  x1 := N + 9
  x2 := N + 24
  x3 := N + 48
  x4 := N + 56
  x5 := N + 57
  x6 := 0
  x7 := 0
  x8 := N + 10
  x9 := N + 11
  x10 := N + 12
  x11 := N + 13
  x12 := N + 14
  y1 := N + 26
  y2 := N + 27
  y3 := N + 28
  y4 := N + 29
  y5 := N + 30
  z1 := N + 34
  z2 := N + 35
  z3 := N + 36
  z4 := N + 37
  z5 := N + 38
  gt := N + 25
  eqt := N + 33
def kTok (t : Nat) : KTok where
  n1 := t
  n2 := t + 9
  n3 := t + 13
  n4 := t + 11
  n5 := t + 73
  n6 := 207
  e1 := t + 8
  e2 := t + 12
  e3 := t + 16
  e4 := t + 24
  e5 := t + 33
  e6 := t + 42
  e7 := t + 51
  e8 := t + 60
  e9 := t + 69
  e10 := t + 70
  e11 := t + 72
  e12 := t + 74
  e13 := t + 75
  i1 := t + 17
  i2 := t + 18
  i3 := t + 19
  i4 := t + 22
  i5 := t + 23
  g1 := t + 34
  g2 := t + 35
  g3 := t + 36
  g4 := t + 40
  g5 := t + 41
  q1 := t + 43
  q2 := t + 44
  q3 := t + 45
  q4 := t + 49
  q5 := t + 50
def hashesOf (o : Option Obj) (i : Nat) : Int := match o with
  | some ⟨_, _, .dict es _, _⟩ => (es.toList.getD i ⟨0, .none, .none⟩).hash
  | _ => 0
theorem rep_ns {V : XV} {h : Heap} {T : BT} {m : Nat} {ch : Ch} {i : Nat} {a : KAdr} {t : KTok} (D : Rep V h T m ch) (e : T.get i = some (oNs (hashesOf (T.get i)) a t)) : ∃ H, h.get? (V.n₁ + i) = some (oNs H a t) := ⟨_, rep_at D e⟩
structure KeyEnd (h h' : Heap) (N t : Nat) (cf : Addr) : Prop where
  it : IsK h' (kAdr N) (kTok t) cf
  keep : ∀ b o, b ≠ 23 → h.get? b = some o → h'.get? b = some o
  grew : Grew h h' 23
set_option hygiene false in
local macro_rules | `(tactic| wrow_post) => `(tactic| ((rename Rep _ _ _ _ _ => D); (refine claimQ_intro (hQ _ _ _ ?_ ?_ ⟨⟨rep_at (i := 9) D ?_, rep_at (i := 8) D ?_, rep_at (i := 1) D ?_⟩, ?_, ?_, ?_⟩) <;> first | exact Rep.size D | kernel_rfl | (intro b o hb e; exact D.keep b o e (ch_off hb)) | exact rep_ch D (by kernel_rfl) | fail)))
set_option maxHeartbeats 0 in
theorem cmpz3 {w : World} {env : Env} {h : Heap} {d : Drawn} {t : Nat} {os : OsState} {T : Addr} (ZH : KT.Holds h 1 0 (hz.ktop_143 w.params)) (hs : h.objs.size = 93) {Q : Value → Shared → Prop} {E : Value → Shared → Prop}
   (hQ : ∀ h' v tk, v = Value.ref (93 + 9) → tk = t + 9 → CmpEnd h h' 93 t T → Q v ⟨h', #[], d, tk, os⟩) :
   wpAny (model PG w) (callerA.deeper env) (PySem.call (.ref 35) [.ref T]) Q E ⟨h, #[], d, t, os⟩ := by
  refine wpAny_mono (Q := fun v s' => GoodWG (claimQ (Q v s')) (fun _ => none) (fun _ => none) [] ⟨h, #[], d, t, os⟩ okT s') ?_ (fun v s' q => of_claimQ q) (fun _ _ e => e)
  have hg : (#[] : Array GenState) = #[] := rfl
  z_run
set_option maxHeartbeats 0 in
theorem cmpz4 {w : World} {env : Env} {h : Heap} {d : Drawn} {t : Nat} {os : OsState} {T : Addr} (ZH : KT.Holds h 1 0 (hz.ktop_143 w.params)) (hs : h.objs.size = 99) {Q : Value → Shared → Prop} {E : Value → Shared → Prop}
   (hQ : ∀ h' v tk, v = Value.ref (99 + 9) → tk = t + 9 → CmpEnd h h' 99 t T → Q v ⟨h', #[], d, tk, os⟩) :
   wpAny (model PG w) (callerA.deeper env) (PySem.call (.ref 35) [.ref T]) Q E ⟨h, #[], d, t, os⟩ := by
  refine wpAny_mono (Q := fun v s' => GoodWG (claimQ (Q v s')) (fun _ => none) (fun _ => none) [] ⟨h, #[], d, t, os⟩ okT s') ?_ (fun v s' q => of_claimQ q) (fun _ _ e => e)
  have hg : (#[] : Array GenState) = #[] := rfl
  z_run
set_option maxHeartbeats 0 in
theorem cmpz5 {w : World} {env : Env} {h : Heap} {d : Drawn} {t : Nat} {os : OsState} {T : Addr} (ZH : KT.Holds h 1 0 (hz.ktop_143 w.params)) (hs : h.objs.size = 105) {Q : Value → Shared → Prop} {E : Value → Shared → Prop}
   (hQ : ∀ h' v tk, v = Value.ref (105 + 9) → tk = t + 9 → CmpEnd h h' 105 t T → Q v ⟨h', #[], d, tk, os⟩) :
   wpAny (model PG w) (callerA.deeper env) (PySem.call (.ref 35) [.ref T]) Q E ⟨h, #[], d, t, os⟩ := by
  refine wpAny_mono (Q := fun v s' => GoodWG (claimQ (Q v s')) (fun _ => none) (fun _ => none) [] ⟨h, #[], d, t, os⟩ okT s') ?_ (fun v s' q => of_claimQ q) (fun _ _ e => e)
  have hg : (#[] : Array GenState) = #[] := rfl
  z_run
set_option maxHeartbeats 0 in
theorem cmpz6 {w : World} {env : Env} {h : Heap} {d : Drawn} {t : Nat} {os : OsState} {T : Addr} (ZH : KT.Holds h 1 0 (hz.ktop_143 w.params)) (hs : h.objs.size = 111) {Q : Value → Shared → Prop} {E : Value → Shared → Prop}
   (hQ : ∀ h' v tk, v = Value.ref (111 + 9) → tk = t + 9 → CmpEnd h h' 111 t T → Q v ⟨h', #[], d, tk, os⟩) :
   wpAny (model PG w) (callerA.deeper env) (PySem.call (.ref 35) [.ref T]) Q E ⟨h, #[], d, t, os⟩ := by
  refine wpAny_mono (Q := fun v s' => GoodWG (claimQ (Q v s')) (fun _ => none) (fun _ => none) [] ⟨h, #[], d, t, os⟩ okT s') ?_ (fun v s' q => of_claimQ q) (fun _ _ e => e)
  have hg : (#[] : Array GenState) = #[] := rfl
  z_run
set_option maxHeartbeats 0 in
theorem cmpz7 {w : World} {env : Env} {h : Heap} {d : Drawn} {t : Nat} {os : OsState} {T : Addr} (ZH : KT.Holds h 1 0 (hz.ktop_143 w.params)) (hs : h.objs.size = 117) {Q : Value → Shared → Prop} {E : Value → Shared → Prop}
   (hQ : ∀ h' v tk, v = Value.ref (117 + 9) → tk = t + 9 → CmpEnd h h' 117 t T → Q v ⟨h', #[], d, tk, os⟩) :
   wpAny (model PG w) (callerA.deeper env) (PySem.call (.ref 35) [.ref T]) Q E ⟨h, #[], d, t, os⟩ := by
  refine wpAny_mono (Q := fun v s' => GoodWG (claimQ (Q v s')) (fun _ => none) (fun _ => none) [] ⟨h, #[], d, t, os⟩ okT s') ?_ (fun v s' q => of_claimQ q) (fun _ _ e => e)
  have hg : (#[] : Array GenState) = #[] := rfl
  z_run
set_option hygiene false in
local macro_rules | `(tactic| wrow_post) => `(tactic| ((rename Rep _ _ _ _ _ => D); (refine claimQ_intro (hQ _ _ _ ?_ ?_ ⟨⟨rep_at (i := 60) D ?_, rep_ns (i := 59) D ?_, rep_at (i := 61) D ?_, rep_at (i := 16) D ?_, rep_at (i := 15) D ?_, rep_at (i := 32) D ?_, rep_at (i := 31) D ?_, rep_at (i := 40) D ?_, rep_at (i := 39) D ?_, rep_at (i := 1) D ?_⟩, ?_, ?_⟩) <;> first | kernel_rfl | (intro b o hb e; exact D.keep b o e (ch_off hb)) | exact rep_ch D (by kernel_rfl) | fail)))
set_option maxHeartbeats 0 in
theorem keyz3 {w : World} {env : Env} {h : Heap} {d : Drawn} {t : Nat} {os : OsState} {cf : Addr} (ZH : KT.Holds h 1 0 (tw.ktop_105 w.params)) (hs : h.objs.size = 103) {Q : Value → Shared → Prop} {E : Value → Shared → Prop}
   (hQ : ∀ h' v tk, v = Value.ref (103 + 60) → tk = t + 78 → KeyEnd h h' 103 t cf → Q v ⟨h', #[], d, tk, os⟩) :
   wpAny (model PG w) (callerA.deeper env) (PySem.call (.ref 28) [.ref cf]) Q E ⟨h, #[], d, t, os⟩ := by
  refine wpAny_mono (Q := fun v s' => GoodWG (claimQ (Q v s')) (fun _ => none) (fun _ => none) [] ⟨h, #[], d, t, os⟩ okT s') ?_ (fun v s' q => of_claimQ q) (fun _ _ e => e)
  have hg : (#[] : Array GenState) = #[] := rfl
  z_run
set_option maxHeartbeats 0 in
theorem keyz4 {w : World} {env : Env} {h : Heap} {d : Drawn} {t : Nat} {os : OsState} {cf : Addr} (ZH : KT.Holds h 1 0 (tw.ktop_105 w.params)) (hs : h.objs.size = 109) {Q : Value → Shared → Prop} {E : Value → Shared → Prop}
   (hQ : ∀ h' v tk, v = Value.ref (109 + 60) → tk = t + 78 → KeyEnd h h' 109 t cf → Q v ⟨h', #[], d, tk, os⟩) :
   wpAny (model PG w) (callerA.deeper env) (PySem.call (.ref 28) [.ref cf]) Q E ⟨h, #[], d, t, os⟩ := by
  refine wpAny_mono (Q := fun v s' => GoodWG (claimQ (Q v s')) (fun _ => none) (fun _ => none) [] ⟨h, #[], d, t, os⟩ okT s') ?_ (fun v s' q => of_claimQ q) (fun _ _ e => e)
  have hg : (#[] : Array GenState) = #[] := rfl
  z_run
set_option maxHeartbeats 0 in
theorem keyz5 {w : World} {env : Env} {h : Heap} {d : Drawn} {t : Nat} {os : OsState} {cf : Addr} (ZH : KT.Holds h 1 0 (tw.ktop_105 w.params)) (hs : h.objs.size = 115) {Q : Value → Shared → Prop} {E : Value → Shared → Prop}
   (hQ : ∀ h' v tk, v = Value.ref (115 + 60) → tk = t + 78 → KeyEnd h h' 115 t cf → Q v ⟨h', #[], d, tk, os⟩) :
   wpAny (model PG w) (callerA.deeper env) (PySem.call (.ref 28) [.ref cf]) Q E ⟨h, #[], d, t, os⟩ := by
  refine wpAny_mono (Q := fun v s' => GoodWG (claimQ (Q v s')) (fun _ => none) (fun _ => none) [] ⟨h, #[], d, t, os⟩ okT s') ?_ (fun v s' q => of_claimQ q) (fun _ _ e => e)
  have hg : (#[] : Array GenState) = #[] := rfl
  z_run
set_option maxHeartbeats 0 in
theorem keyz6 {w : World} {env : Env} {h : Heap} {d : Drawn} {t : Nat} {os : OsState} {cf : Addr} (ZH : KT.Holds h 1 0 (tw.ktop_105 w.params)) (hs : h.objs.size = 121) {Q : Value → Shared → Prop} {E : Value → Shared → Prop}
   (hQ : ∀ h' v tk, v = Value.ref (121 + 60) → tk = t + 78 → KeyEnd h h' 121 t cf → Q v ⟨h', #[], d, tk, os⟩) :
   wpAny (model PG w) (callerA.deeper env) (PySem.call (.ref 28) [.ref cf]) Q E ⟨h, #[], d, t, os⟩ := by
  refine wpAny_mono (Q := fun v s' => GoodWG (claimQ (Q v s')) (fun _ => none) (fun _ => none) [] ⟨h, #[], d, t, os⟩ okT s') ?_ (fun v s' q => of_claimQ q) (fun _ _ e => e)
  have hg : (#[] : Array GenState) = #[] := rfl
  z_run
set_option maxHeartbeats 0 in
theorem keyz7 {w : World} {env : Env} {h : Heap} {d : Drawn} {t : Nat} {os : OsState} {cf : Addr} (ZH : KT.Holds h 1 0 (tw.ktop_105 w.params)) (hs : h.objs.size = 127) {Q : Value → Shared → Prop} {E : Value → Shared → Prop}
   (hQ : ∀ h' v tk, v = Value.ref (127 + 60) → tk = t + 78 → KeyEnd h h' 127 t cf → Q v ⟨h', #[], d, tk, os⟩) :
   wpAny (model PG w) (callerA.deeper env) (PySem.call (.ref 28) [.ref cf]) Q E ⟨h, #[], d, t, os⟩ := by
  refine wpAny_mono (Q := fun v s' => GoodWG (claimQ (Q v s')) (fun _ => none) (fun _ => none) [] ⟨h, #[], d, t, os⟩ okT s') ?_ (fun v s' q => of_claimQ q) (fun _ _ e => e)
  have hg : (#[] : Array GenState) = #[] := rfl
  z_run
end Mine
open PySem PySem.W PySem.W.X PyProof.Rows
set_option Elab.async false
set_option maxRecDepth 100000
namespace Mine
/-- nothing of the heap is lost or changed -/
def Ext (h h' : Heap) : Prop := ∀ b o, h.get? b = some o → h'.get? b = some o
theorem Ext.refl (h : Heap) : Ext h h := fun _ _ e => e
theorem Ext.trans {a b c : Heap} (x : Ext a b) (y : Ext b c) : Ext a c := fun l o e => y l o (x l o e)
theorem Ext.push (h : Heap) (o : Obj) : Ext h (h.push o) := fun _ _ e => Heap.get?_push_of_some _ e
theorem size_upd (h : Heap) (a : Addr) (f : Obj → Obj) : (h.update a f).objs.size = h.objs.size := (Heap.SameBut.update h a f).1

abbrev Own := Addr × (Obj → Prop)
def upd (m : Str → Option Value) (x : Str) (v : Value) : Str → Option Value := fun y => if y = x then some v else m y
/-- a frame's state: its names m at L, the ground g kept, the own objects cs, the heap's size z -/
structure Sta (g : Heap) (L : Addr) (m : Str → Option Value) (cs : List Own) (z : Nat) (h : Heap) : Prop where
  ns : h.Ns L m
  keep : Ext g h
  offL : g.get? L = none
  own : ∀ p ∈ cs, ∃ o, h.get? p.1 = some o ∧ p.2 o ∧ g.get? p.1 = none ∧ p.1 ≠ L
  nd : (cs.map (·.1)).Nodup
  size : h.objs.size = z
section
variable {g : Heap} {L : Addr} {m m' : Str → Option Value} {cs : List Own} {z z' : Nat} {h h' : Heap}
theorem Sta.lt (S : Sta g L m cs z h) : L < z := by
  obtain ⟨o, _, _, ho, _⟩ := S.ns
  exact S.size ▸ Heap.lt_size ho
theorem none_of_le (k : Ext g h) {a : Addr} (hz : h.objs.size ≤ a) : g.get? a = none := by
  cases e : g.get? a with
  | none => rfl
  | some o => exact absurd (Heap.lt_size (k _ _ e)) (Nat.not_lt.mpr hz)
theorem Sta.push (S : Sta g L m cs z h) (o : Obj) (P : Obj → Prop) (hP : P o) (hf : o.isFreed = false := by rfl) : Sta g L m ((z, P) :: cs) (z + 1) (h.push o) := by
  have hz := S.size
  refine ⟨S.ns.push _, S.keep.trans (Ext.push _ _), S.offL, ?_, ?_, by rw [Heap.size_push, hz]⟩
  · intro p hp
    rcases List.mem_cons.mp hp with rfl | hp
    · refine ⟨o, by rw [← hz]; exact Heap.get?_push_size _ hf, hP, none_of_le S.keep (Nat.le_of_eq hz), Nat.ne_of_gt S.lt⟩
    · obtain ⟨o', h1, h2⟩ := S.own p hp
      exact ⟨o', Heap.get?_push_of_some _ h1, h2⟩
  · rw [List.map_cons]
    refine List.nodup_cons.mpr ⟨fun hm => ?_, S.nd⟩
    obtain ⟨p, hp, e⟩ := List.mem_map.mp hm
    obtain ⟨o', h1, _⟩ := S.own p hp
    have := Heap.lt_size h1
    dsimp only at e
    rw [e, hz] at this
    exact Nat.lt_irrefl _ this
theorem Sta.ext (S : Sta g L m cs z h) (k : Ext h h') (hz : h'.objs.size = z') : Sta g L m cs z' h' :=
  ⟨S.ns.keeps k, S.keep.trans k, S.offL, fun p hp => let ⟨o, h1, h2⟩ := S.own p hp; ⟨o, k _ _ h1, h2⟩, S.nd, hz⟩
theorem Sta.loc (S : Sta g L m cs z h) (hn : h'.Ns L m') (hs : Heap.SameBut L h h') : Sta g L m' cs z h' :=
  ⟨hn, fun b o e => (hs.2 b (fun q => by rw [q, S.offL] at e; cases e)).trans (S.keep b o e), S.offL,
    fun p hp => let ⟨o, h1, h2, h3, h4⟩ := S.own p hp; ⟨o, (hs.2 _ h4).trans h1, h2, h3, h4⟩, S.nd, hs.1.trans S.size⟩
theorem Sta.get (S : Sta g L m cs z h) {a : Addr} {P : Obj → Prop} (hp : (a, P) ∈ cs) : ∃ o, h.get? a = some o ∧ P o := let ⟨o, h1, h2, _⟩ := S.own _ hp; ⟨o, h1, h2⟩
theorem nodup_at {α : Type} : ∀ {l : List α} {i j : Nat} {x : α}, l.Nodup → l[i]? = some x → l[j]? = some x → i = j := by
  intro l i j x hn hi hj
  obtain ⟨h1, e1⟩ := List.getElem?_eq_some_iff.mp hi
  obtain ⟨h2, e2⟩ := List.getElem?_eq_some_iff.mp hj
  rcases Nat.lt_trichotomy i j with q | q | q
  · exact absurd (e1.trans e2.symm) ((List.pairwise_iff_getElem.mp hn) i j h1 h2 q)
  · exact q
  · exact absurd (e2.trans e1.symm) ((List.pairwise_iff_getElem.mp hn) j i h2 h1 q)
/-- the own object at place i is turned -/
theorem Sta.turn (S : Sta g L m cs z h) {i : Nat} {a : Addr} {P P' : Obj → Prop} (hi : cs[i]? = some (a, P)) (hs : Heap.SameBut a h h') (ho : ∃ o, h'.get? a = some o ∧ P' o) : Sta g L m (cs.set i (a, P')) z h' := by
  have hm := List.mem_of_getElem? hi
  obtain ⟨o₀, a1, a2, a3, a4⟩ := S.own _ hm
  obtain ⟨o, b1, b2⟩ := ho
  have hmap : (cs.set i (a, P')).map (·.1) = cs.map (·.1) := by
    rw [List.map_set]
    exact PySem.W.X.set_same (by rw [List.getElem?_map, hi]; rfl)
  refine ⟨S.ns.sameBut hs (Ne.symm a4), fun b o' e => (hs.2 b (fun q => by rw [q, a3] at e; cases e)).trans (S.keep b o' e), S.offL, ?_, by rw [hmap]; exact S.nd, hs.1.trans S.size⟩
  intro p hp
  obtain ⟨j, hj⟩ := List.getElem?_of_mem hp
  by_cases hij : i = j
  · subst hij
    rw [List.getElem?_set_self (List.getElem?_eq_some_iff.mp hi).1] at hj
    cases hj
    exact ⟨o, b1, b2, a3, a4⟩
  · rw [List.getElem?_set_ne hij] at hj
    obtain ⟨o', c1, c2, c3, c4⟩ := S.own p (List.mem_of_getElem? hj)
    refine ⟨o', (hs.2 _ (fun q => hij ?_)).trans c1, c2, c3, c4⟩
    refine nodup_at S.nd (x := a) ?_ ?_
    · rw [List.getElem?_map, hi]; rfl
    · rw [List.getElem?_map, hj, ← q]; rfl
theorem Sta.sub (S : Sta g L m cs z h) {cs' : List Own} (k : ∀ p ∈ cs', ∃ P, (p.1, P) ∈ cs ∧ ∀ o, P o → p.2 o) (nd : (cs'.map (·.1)).Nodup) : Sta g L m cs' z h :=
  ⟨S.ns, S.keep, S.offL, fun p hp => by
    obtain ⟨P, hP, hi⟩ := k p hp
    obtain ⟨o, h1, h2, h3⟩ := S.own _ hP
    exact ⟨o, h1, hi _ h2, h3⟩, nd, S.size⟩
theorem Sta.drop (S : Sta g L m cs z h) (n : Nat) : Sta g L m (cs.drop n) z h :=
  ⟨S.ns, S.keep, S.offL, fun p hp => S.own p (List.mem_of_mem_drop hp), by rw [List.map_drop]; exact S.nd.sublist (List.drop_sublist _ _), S.size⟩
end
/-- the kinds of own objects -/
def CellP (v : Option Value) (o : Obj) : Prop := o.data = .cell v
def IsP (o₀ o : Obj) : Prop := o = o₀
def ListP (vs : List Value) (o : Obj) : Prop := o.cls = .type "list" ∧ ∃ n, o.data = .seq vs.toArray n
abbrev RIter (x left : Int) : Obj := { cls := .type "range_iterator", dict := none, data := .fields #[rawInt x, rawInt left, rawInt 1], slots := #[] }
section
variable {w : World} {A : Around} {E : Value → Shared → Prop} {env : Env} {g : Heap} {m : Str → Option Value} {cs : List Own} {z : Nat} {h : Heap} {gs : Array GenState} {d : Drawn} {t : Nat} {os : OsState}
theorem ldL {x : Str} {pos : Pos} {v : Value} {Q : Value → Shared → Prop} (S : Sta g env.locals m cs z h) (hv : m x = some v) (k : Q v ⟨h, gs, d, t, os⟩)
    (hk : env.scope.kind = .function := by rfl) (hl : env.kindOf x = some .local := by rfl) (hd : (x == ("__debug__" : Str)) = false := by decide) :
    wpAny (model PG w) A (eval (.Name x pos) env) Q E ⟨h, gs, d, t, os⟩ := wpAny_Name (wpAny_loadName_local hk hl S.ns hv k) hd
theorem ldC {x : Str} {pos : Pos} {v : Value} {c : Addr} {Q : Value → Shared → Prop} (S : Sta g env.locals m cs z h) (hm : (c, CellP (some v)) ∈ cs) (k : Q v ⟨h, gs, d, t, os⟩)
    (hc : env.cells.lookup x = some c := by rfl) (hk : env.scope.kind = .function := by rfl) (hl : env.kindOf x = some .cell := by rfl) (hd : (x == ("__debug__" : Str)) = false := by decide) :
    wpAny (model PG w) A (eval (.Name x pos) env) Q E ⟨h, gs, d, t, os⟩ := wpAny_Name (wpAny_loadName_cell hk hl hc (S.get hm) k) hd
theorem ldF {x : Str} {pos : Pos} {v : Value} {c : Addr} {o : Obj} {Q : Value → Shared → Prop} (ho : h.get? c = some o) (hd' : o.data = .cell (some v)) (k : Q v ⟨h, gs, d, t, os⟩)
    (hc : env.cells.lookup x = some c := by rfl) (hk : env.scope.kind = .function := by rfl) (hl : env.kindOf x = some .free := by rfl) (hd : (x == ("__debug__" : Str)) = false := by decide) (hn : (x == ("__classdict__" : Str)) = false := by decide) :
    wpAny (model PG w) A (eval (.Name x pos) env) Q E ⟨h, gs, d, t, os⟩ := wpAny_Name (wpAny_loadName_free hk hl hc ⟨o, ho, hd'⟩ k hn) hd
theorem ldG {x : Str} {pos : Pos} {v : Value} {Q : Value → Shared → Prop} (X : (KB w.params).In h) (e : nsIn (KB w.params) mainGlobals x = some (some v)) (k : Q v ⟨h, gs, d, t, os⟩)
    (hg : env.globals = mainGlobals := by rfl) (hk : env.scope.kind = .function := by rfl) (hl : env.kindOf x = some .globalImplicit := by rfl) (hd : (x == ("__debug__" : Str)) = false := by decide) :
    wpAny (model PG w) A (eval (.Name x pos) env) Q E ⟨h, gs, d, t, os⟩ := by
  refine Calls.Name_function_global hk hl ?_ hd
  unfold loadGlobal
  rw [hg]
  exact wpAny_bind ((looks_nsIn X e).at (wpAny_pure k))
theorem ldB {x : Str} {pos : Pos} {v : Value} {Q : Value → Shared → Prop} (X : (KB w.params).In h) (e : nsIn (KB w.params) mainGlobals x = some none) (e' : nsIn (KB w.params) builtinsNs x = some (some v)) (k : Q v ⟨h, gs, d, t, os⟩)
    (hg : env.globals = mainGlobals := by rfl) (hb : env.builtins = builtinsNs := by rfl) (hk : env.scope.kind = .function := by rfl) (hl : env.kindOf x = some .globalImplicit := by rfl) (hd : (x == ("__debug__" : Str)) = false := by decide) :
    wpAny (model PG w) A (eval (.Name x pos) env) Q E ⟨h, gs, d, t, os⟩ := by
  refine Calls.Name_function_global hk hl ?_ hd
  unfold loadGlobal
  rw [hg, hb]
  exact wpAny_bind ((looks_nsIn X e).at (wpAny_bind ((looks_nsIn X e').at (wpAny_pure k))))
theorem stL {x : Str} {v : Value} {Q : Unit → Shared → Prop} (S : Sta g env.locals m cs z h)
    (k : ∀ h', Sta g env.locals (upd m x v) cs z h' → Q () ⟨h', gs, d, t + 1, os⟩)
    (hl : env.kindOf x = some .local := by rfl) (hp : (env.scope.kind == .class || (env.scope.kind == .module && env.locals != env.globals)) = false := by rfl) :
    wpAny (model PG w) A (storeName env x v) Q E ⟨h, gs, d, t, os⟩ :=
  wpAny_storeName_local hl S.ns (fun h' hn hs => k h' (S.loc hn hs)) hp
theorem stC {x : Str} {v : Value} {c : Addr} {v₀ : Option Value} {i : Nat} {Q : Unit → Shared → Prop} (S : Sta g env.locals m cs z h) (hi : cs[i]? = some (c, CellP v₀))
    (k : ∀ h', Sta g env.locals m (cs.set i (c, CellP (some v))) z h' → Q () ⟨h', gs, d, t, os⟩)
    (hc : env.cells.lookup x = some c := by rfl) (hk : env.scope.kind = .function := by rfl) (hl : env.kindOf x = some .cell := by rfl) :
    wpAny (model PG w) A (storeName env x v) Q E ⟨h, gs, d, t, os⟩ :=
  wpAny_storeName_cell hk hl hc (S.get (List.mem_of_getElem? hi)) (fun h' hn hs => k h' (S.turn hi hs hn))
end
end Mine
open PySem PySem.W PySem.W.X PyProof.Rows
set_option Elab.async false
set_option maxRecDepth 100000
namespace Mine
section
variable {w : World} {A : Around} {E : Value → Shared → Prop} {h : Heap} {gs : Array GenState} {d : Drawn} {t : Nat} {os : OsState}
/-- a StopIteration is made: two objects more -/
theorem stop_new {Q : Value → Shared → Prop}
    (k : ∀ h' e, Ext h h' → h'.objs.size = h.objs.size + 2 → (⟨h', gs, d, t, os⟩ : Shared).TypeIs (.ref e) "StopIteration" → Q (.ref e) ⟨h', gs, d, t, os⟩) :
    wpAny (model PG w) A (newExc (.type "StopIteration") []) Q E ⟨h, gs, d, t, os⟩ := by
  simp only [newExc, newTuple]
  refine wpAny_bind (wpAny_newObj_type ?_ (by size_fits))
  refine wpAny_bind (m := firstArgMember _ _) (wpAny_of_eq (a := Value.none) (by first | rfl | (simp only [firstArgMember]; rfl)) ?_)
  refine wpAny_newObj_type ?_ (by size_fits)
  exact k _ _ ((Ext.push _ _).trans (Ext.push _ _)) (by rw [Heap.size_push, Heap.size_push]) ⟨_, Heap.get?_push_size _ rfl, rfl⟩
theorem raise_new {α : Type} {e : Value} {Q : α → Shared → Prop} (hh : A.handled = none) (k : E e ⟨h, gs, d, t, os⟩) : wpAny (model PG w) A (raiseNew e : Sem α) Q E ⟨h, gs, d, t, os⟩ := by
  simp only [raiseNew]
  refine wpAny_bind (wpAny_handled ?_)
  rw [hh]
  cases e <;> exact wpAny_throw k
theorem rng_end {it : Addr} {x left : Int} {Q : Option Value → Shared → Prop} (hh : A.handled = none) (hit : IsRangeIter h it x left 1) (hl : left ≤ 0)
    (k : ∀ h', Ext h h' → h'.objs.size = h.objs.size + 2 → Q none ⟨h', gs, d, t, os⟩) : wpAny (model PG w) A (pyNext (.ref it)) Q E ⟨h, gs, d, t, os⟩ := by
  have hT : (⟨h, gs, d, t, os⟩ : Shared).TypeIs (.ref it) "range_iterator" := ⟨_, hit, rfl⟩
  unfold pyNext
  refine wpAny_bind (wpAny_attempt (wpAny_callSpecial?_slot (name := Str.ofString "__next__") hT F.slot_range_iterator_next
    (wpAny_call_entry F.slot_range_iterator_next hT F.entry_range_iterator_next ?_ (F.args_range_iterator_next_1 _))))
  show wpAny _ _ (field (.ref it) 0 >>= _) _ _ _
  refine wpAny_bind (wpAny_field hit rfl (x := rawInt x) rfl ?_)
  show wpAny _ _ (field (.ref it) 1 >>= _) _ _ _
  refine wpAny_bind (wpAny_field hit rfl (x := rawInt left) rfl ?_)
  show wpAny _ _ (field (.ref it) 2 >>= _) _ _ _
  refine wpAny_bind (wpAny_field hit rfl (x := rawInt 1) rfl ?_)
  show wpAny _ _ (if left ≤ 0 then _ else _) _ _ _
  rw [if_pos hl]
  refine wpAny_bind (wpAny_rule (wpAny_bind ?_))
  unfold Builtin.SmallTypes.stopIteration
  refine wpAny_bind (stop_new fun h' e k1 k2 hT' => raise_new (by exact hh) ?_)
  refine wpAny_bind (wpAny_isInstance (T := "StopIteration") (b := true) hT' isSubtype_stop ?_)
  exact wpAny_pure (k h' k1 k2)
theorem lst_end {it l : Addr} {i : Nat} {items : Array Value} {Q : Option Value → Shared → Prop} (hh : A.handled = none)
    (hit : h.IsListIter it l i) (hl : h.IsList l items) (hx : items[i]? = none)
    (k : ∀ h₁ h', Heap.SameBut it h h₁ → Ext h₁ h' → h'.objs.size = h.objs.size + 2 → Q none ⟨h', gs, d, t, os⟩) : wpAny (model PG w) A (pyNext (.ref it)) Q E ⟨h, gs, d, t, os⟩ := by
  have hT : (⟨h, gs, d, t, os⟩ : Shared).TypeIs (.ref it) "list_iterator" := Heap.IsListIter.typeIs (s := ⟨h, gs, d, t, os⟩) hit
  obtain ⟨o, ho, hc, hd⟩ := id hit
  obtain ⟨ol, hol, _, nl, hdl⟩ := hl
  unfold pyNext
  refine wpAny_bind (wpAny_attempt (wpAny_callSpecial?_slot (name := Str.ofString "__next__") hT slot_listiter_next
    (wpAny_call_entry slot_listiter_next hT entry_listiter_next ?_ (args_listiter_next _))))
  show wpAny _ _ (field (.ref it) 0 >>= _) _ _ _
  refine wpAny_bind (wpAny_field ho hd (x := .ref l) rfl ?_)
  show wpAny _ _ (if (Value.ref l == Value.none) = true then _ else _) _ _ _
  rw [if_neg (show ¬ ((Value.ref l == Value.none) = true) from Bool.false_ne_true)]
  show wpAny _ _ (field (.ref it) 1 >>= _) _ _ _
  refine wpAny_bind (wpAny_field ho hd (x := .int i 0) rfl ?_)
  show wpAny _ _ (seqItems? (.ref l) >>= _) _ _ _
  refine wpAny_bind (wpAny_seqItems hol hdl ?_)
  simp only [Int.toNat_natCast, hx]
  refine wpAny_bind (wpAny_rule (wpAny_bind (wpAny_setField ho hd (by simp) ?_)))
  refine wpAny_bind (stop_new fun h' e k1 k2 hT' => raise_new (by exact hh) ?_)
  refine wpAny_bind (wpAny_isInstance (T := "StopIteration") (b := true) hT' isSubtype_stop ?_)
  exact wpAny_pure (k _ h' (Heap.SameBut.update ..) k1 (by rw [k2, size_upd]))
end
end Mine
open PySem PySem.W PySem.W.X PyProof.Rows
set_option Elab.async false
set_option maxRecDepth 100000
namespace Mine
def NsP (m : Str → Option Value) (o : Obj) : Prop := ∃ es ep, o.data = .dict es ep ∧ StrKeys es ∧ ∀ name, nsFind es name = m name
section
variable {g : Heap} {L C : Addr} {m mC : Str → Option Value} {cs cs' : List Own} {z : Nat} {h : Heap}
theorem Sta.perm (S : Sta g L m cs z h) (p : cs'.Perm cs) : Sta g L m cs' z h :=
  ⟨S.ns, S.keep, S.offL, fun q hq => S.own q (p.mem_iff.mp hq), ((p.map (·.1)).nodup_iff).mpr S.nd, S.size⟩
theorem Sta.swap (S : Sta g L m ((C, NsP mC) :: cs) z h) : Sta g C mC ((L, NsP m) :: cs) z h := by
  obtain ⟨o, h1, ⟨es, ep, h2, h3, h4⟩, h5, h6⟩ := S.own _ (.head _)
  obtain ⟨oL, esL, epL, l1, l2, l3, l4⟩ := S.ns
  have nd := List.nodup_cons.mp S.nd
  refine ⟨⟨o, es, ep, h1, h2, h3, h4⟩, S.keep, h5, ?_, ?_, S.size⟩
  · intro p hp
    rcases List.mem_cons.mp hp with rfl | hp
    · exact ⟨oL, l1, ⟨esL, epL, l2, l3, l4⟩, S.offL, Ne.symm h6⟩
    · obtain ⟨o', q1, q2, q3, _⟩ := S.own p (.tail _ hp)
      exact ⟨o', q1, q2, q3, fun e => nd.1 (List.mem_map.mpr ⟨p, hp, e⟩)⟩
  · rw [List.map_cons]
    refine List.nodup_cons.mpr ⟨fun hm => ?_, nd.2⟩
    obtain ⟨p, hp, e⟩ := List.mem_map.mp hm
    obtain ⟨_, _, _, _, q⟩ := S.own p (.tail _ hp)
    exact q e
theorem Sta.nsP (S : Sta g L m cs z h) : ∃ o, h.get? L = some o ∧ NsP m o := let ⟨o, es, ep, a, b⟩ := S.ns; ⟨o, a, es, ep, b⟩
/-- a new frame, a dict or a frame object, is made -/
theorem Sta.frame (S : Sta g L m cs z h) (c : Value) : Sta g z (fun _ => none) ((L, NsP m) :: cs) (z + 1) (h.push { cls := c, data := .dict #[] }) :=
  (S.push { cls := c, data := .dict #[] } (NsP fun _ => none) ⟨#[], 0, rfl, fun _ he => by simp at he, fun _ => by simp [nsFind, findBy]⟩).swap
/-- the first frame of a call: the whole heap is the ground -/
theorem Sta.first {h : Heap} (c : Value) : Sta h h.objs.size (fun _ => none) [] (h.objs.size + 1) (h.push { cls := c, data := .dict #[] }) :=
  ⟨Heap.Ns.new h c, Ext.push _ _, none_of_le (Ext.refl h) (Nat.le_refl _), (fun _ hp => nomatch hp), List.nodup_nil, Heap.size_push ..⟩
noncomputable def ownCells : Nat → List (Str × NameKind) → List Own → List Own
  | _, [], cs => cs
  | n, (_, k) :: r, cs => if k == .cell then ownCells (n + 1) r ((n, CellP none) :: cs) else ownCells n r cs
noncomputable def nCells : List (Str × NameKind) → Nat
  | [] => 0
  | (_, k) :: r => if k == .cell then nCells r + 1 else nCells r
theorem Sta.cells : ∀ (names : List (Str × NameKind)) {cs : List Own} {z : Nat} {h : Heap}, Sta g L m cs z h → Sta g L m (ownCells z names cs) (z + nCells names) (pushCells h names)
  | [], _, _, _, S => S
  | (_, k) :: r, cs, z, h, S => by
    unfold ownCells nCells pushCells
    split
    · have := Sta.cells r (S.push { cls := .type "cell", data := .cell none } (CellP none) rfl)
      rw [show z + (nCells r + 1) = z + 1 + nCells r from by omega]
      exact this
    · exact Sta.cells r S
end
section
variable {w : World} {A : Around} {E : Value → Shared → Prop} {env : Env} {g : Heap} {m : Str → Option Value} {cs : List Own} {z : Nat} {h : Heap} {gs : Array GenState} {d : Drawn} {t : Nat} {os : OsState}
noncomputable def Binds (w : World) (A : Around) (E : Value → Shared → Prop) (env : Env) : List (Str × Value) → (Shared → Prop) → Shared → Prop
  | [], Q, s => Q s
  | (n, v) :: r, Q, s => wpAny (model PG w) A (storeName env n v) (fun _ s' => Binds w A E env r Q s') E s
theorem binds_for {f : Str × Value → PUnit → Sem (ForInStep PUnit)} (hf : ∀ n v u, f (n, v) u = (do storeName env n v; pure (.yield ⟨⟩))) :
    ∀ (bs : List (Str × Value)) (s : Shared) (Q : PUnit → Shared → Prop), Binds w A E env bs (fun s' => Q ⟨⟩ s') s → wpAny (model PG w) A (forIn bs ⟨⟩ f) Q E s
  | [], _, _, k => by rw [List.forIn_nil]; exact wpAny_pure k
  | (n, v) :: r, s, Q, k => by
    rw [List.forIn_cons, hf]
    exact wpAny_bind (wpAny_bind (wpAny_mono k (fun _ s' k' => wpAny_pure (binds_for hf r s' Q k')) fun _ _ e => e))
theorem Binds.mono : ∀ (bs : List (Str × Value)) (s : Shared) {Q Q' : Shared → Prop}, (∀ s, Q s → Q' s) → Binds w A E env bs Q s → Binds w A E env bs Q' s
  | [], s, _, _, q, b => q s b
  | (_, _) :: r, _, _, _, q, b => wpAny_mono b (fun _ s' b' => Binds.mono r s' q b') fun _ _ e => e
/-- a called def's frame -/
theorem new_env {scope : Scope} {globals : Addr} {closure : List (Str × Addr)} {binds : List (Str × Value)} {qual : Str} {func : Option Addr} {code : Value} {builtins : Addr} {Q : Env → Shared → Prop}
    (k : ∀ h', Sta h h.objs.size (fun _ => none) (ownCells (h.objs.size + 1) scope.names []) (h.objs.size + 1 + nCells scope.names) h' →
      Binds w A E (newEnv scope h.objs.size globals (cellsFrom (h.objs.size + 1) scope.names closure) qual func code none builtins) binds
        (fun s' => Q (newEnv scope h.objs.size globals (cellsFrom (h.objs.size + 1) scope.names closure) qual func code none builtins) s') ⟨h', gs, d, t, os⟩) :
    wpAny (model PG w) A (newFunctionEnv scope globals closure binds qual func code none builtins) Q E ⟨h, gs, d, t, os⟩ := by
  simp only [newFunctionEnv, Option.isSome_none, Bool.false_eq_true, if_false]
  refine wpAny_bind (wpAny_alloc ?_)
  refine wpAny_bind (wpAny_layCells _ (fun name kind cells => by cases hkc : kind == NameKind.cell <;> simp) _ _ _ _ ?_)
  have hz : (h.push { cls := .type "frame", data := .dict #[] }).objs.size = h.objs.size + 1 := Heap.size_push ..
  dsimp only
  rw [hz]
  refine wpAny_bind (binds_for (env := newEnv scope h.objs.size globals (cellsFrom (h.objs.size + 1) scope.names closure) qual func code none builtins) (fun _ _ _ => rfl) _ _ _ ?_)
  exact Binds.mono _ _ (fun s q => wpAny_pure q) (k _ (Sta.cells scope.names (Sta.first (h := h) (.type "frame"))))
/-- a block's frame -/
theorem block_env {scope : Scope} {globals : Addr} {closure : List (Str × Addr)} {qual : Str} {Q : Env → Shared → Prop} {L : Addr} (S : Sta g L m cs z h)
    (k : ∀ h', Sta g z (fun _ => none) (ownCells (z + 1) scope.names ((L, NsP m) :: cs)) (z + 1 + nCells scope.names) h' →
      Q (newEnv scope z globals (cellsFrom (z + 1) scope.names closure) qual none .none (some env) 0) ⟨h', gs, d, t, os⟩) :
    wpAny (model PG w) A (newFunctionEnv scope globals closure [] qual none .none (some env)) Q E ⟨h, gs, d, t, os⟩ := by
  simp only [newFunctionEnv, Option.isSome_some, if_true]
  refine wpAny_bind (wpAny_alloc ?_)
  refine wpAny_bind (wpAny_layCells _ (fun name kind cells => by cases hkc : kind == NameKind.cell <;> simp) _ _ _ _ ?_)
  dsimp only
  have S1 := S.frame (.type "dict")
  rw [S1.size]
  have hz : h.objs.size = z := S.size
  rw [hz]
  refine wpAny_bind ?_
  rw [List.forIn_nil]
  exact wpAny_pure (wpAny_pure (k _ (Sta.cells scope.names S1)))
end
end Mine
open PySem PySem.W PySem.W.X PyProof.Rows
set_option Elab.async false
set_option maxRecDepth 100000
namespace Mine
section
variable {w : World} {A : Around} {E : Value → Shared → Prop} {R : Result → Shared → Prop} {env : Env} {g : Heap} {L : Addr} {m : Str → Option Value} {cs : List Own} {z : Nat} {h : Heap} {gs : Array GenState} {d : Drawn} {t : Nat} {os : OsState}
theorem Sta.but {C : Addr} {P : Obj → Prop} {h' : Heap} (S : Sta g L m ((C, P) :: cs) z h) (hs : Heap.SameBut C h h') : Sta g L m cs z h' := by
  obtain ⟨o, h1, h2, h3, h4⟩ := S.own _ (.head _)
  have nd := List.nodup_cons.mp S.nd
  refine ⟨S.ns.sameBut hs (Ne.symm h4), fun b o e => (hs.2 b (fun q => by rw [q] at e; rw [show g.get? C = none from h3] at e; cases e)).trans (S.keep b o e), S.offL, ?_, nd.2, hs.1.trans S.size⟩
  intro p hp
  obtain ⟨o', q1, q2, q3, q4⟩ := S.own p (.tail _ hp)
  exact ⟨o', (hs.2 _ (fun e => nd.1 (List.mem_map.mpr ⟨p, hp, e⟩))).trans q1, q2, q3, q4⟩
abbrev MT := Str → Option Value
def ForEnd (g : Heap) (L : Addr) (it : Own) (gs : Array GenState) (d : Drawn) (os : OsState) (J : MT → List Own → Nat → Prop) (R : Result → Shared → Prop) (f : Flow) (s : Shared) : Prop := match f with
  | .ret v => R (.ok (.ret v)) s
  | .brk => R (.ok .next) s
  | _ => ∃ m cs z h t, s = ⟨h, gs, d, t, os⟩ ∧ Sta g L m (it :: cs) z h ∧ J m cs z
theorem ForEnd.next {it : Own} {J : MT → List Own → Nat → Prop} (S : Sta g L m (it :: cs) z h) (j : J m cs z) : ForEnd g L it gs d os J R .next ⟨h, gs, d, t, os⟩ := ⟨m, cs, z, h, t, rfl, S, j⟩
/-- for x in range -/
theorem forR {x : Str} {px : Pos} {body : List Stmt} {I : Addr} {a : Int} {n : Nat} (J : Nat → MT → List Own → Nat → Prop) (hh : A.handled = none)
    (S : Sta g env.locals m ((I, IsP (RIter a n)) :: cs) z h) (h0 : J 0 m cs z)
    (turn : ∀ (k : Nat) (m : MT) (cs : List Own) (z : Nat) (h : Heap) (t : Nat) (t₀ : Tok) (E' : Value → Shared → Prop), k < n → J k m cs z → Sta g env.locals m ((I, IsP (RIter (a + (k + 1 : Nat)) ((n : Int) - (k + 1 : Nat)))) :: cs) z h →
      wpAny (model PG w) A (assign (.Name x px) env (.int (a + k) t₀)) (fun _ s₂ => wpAny (model PG w) A (execs body env)
        (ForEnd g env.locals (I, IsP (RIter (a + (k + 1 : Nat)) ((n : Int) - (k + 1 : Nat)))) gs d os (J (k + 1)) R) E' s₂) E' ⟨h, gs, d, t, os⟩)
    (done : ∀ (m : MT) (cs : List Own) (z : Nat) (h : Heap) (t : Nat), J n m cs z → Sta g env.locals m cs (z + 2) h → R (.ok .next) ⟨h, gs, d, t, os⟩) :
    codeAny (model PG w) A (.forLoop (.Name x px) (.ref I) body [] env) R ⟨h, gs, d, t, os⟩ := by
  refine codeAny_forLoop (fun c s => ∃ k m cs z h t, k ≤ n ∧ c = n - k ∧ s = ⟨h, gs, d, t, os⟩ ∧ Sta g env.locals m ((I, IsP (RIter (a + (k : Nat)) ((n : Int) - (k : Nat)))) :: cs) z h ∧ J k m cs z) ?_ n
    ⟨0, m, cs, z, h, t, Nat.zero_le _, rfl, rfl, by simpa using S, h0⟩
  rintro c s ⟨k, m, cs, z, h, t, hk, rfl, rfl, S, j⟩
  obtain ⟨o, ho, rfl⟩ := S.get (List.mem_cons_self ..)
  by_cases hlt : k < n
  · refine wpAny_pyNext_range_item (s := ⟨h, gs, d, t, os⟩) ho (by omega) fun h' hit hs => ?_
    have e1 : a + (k : Int) + 1 = a + ((k + 1 : Nat) : Int) := by push_cast; omega
    have e2 : (n : Int) - (k : Int) - 1 = (n : Int) - ((k + 1 : Nat) : Int) := by push_cast; omega
    rw [e1, e2] at hit
    have S' := S.turn (i := 0) (P' := IsP (RIter (a + ((k + 1 : Nat) : Int)) ((n : Int) - ((k + 1 : Nat) : Int)))) rfl hs ⟨_, hit, rfl⟩
    refine wpAny_mono (turn k m cs z h' (t + 1) t _ hlt j S') (fun _ s₂ q => wpAny_mono q (fun f s₃ q => ?_) fun _ _ e => e) fun _ _ e => e
    cases f with
    | ret v => exact q
    | brk => exact q
    | next => obtain ⟨m', cs', z', h', t', rfl, S', j'⟩ := q; exact ⟨n - (k + 1), by omega, k + 1, m', cs', z', h', t', hlt, rfl, rfl, S', j'⟩
    | cont => obtain ⟨m', cs', z', h', t', rfl, S', j'⟩ := q; exact ⟨n - (k + 1), by omega, k + 1, m', cs', z', h', t', hlt, rfl, rfl, S', j'⟩
  · have : k = n := by omega
    subst this
    refine rng_end hh ho (by omega) fun h' k1 k2 => wpAny_execs_nil (done m cs z h' t j ?_)
    have S1 := (S.ext k1 (z' := z + 2) (by rw [k2, S.size]))
    exact S1.drop 1
abbrev LIter (l : Addr) (i : Nat) (o : Obj) : Prop := o.cls = .type "list_iterator" ∧ o.data = .fields #[.ref l, .int i 0]
/-- for x in a list of the ground -/
theorem forL {x : Str} {px : Pos} {body : List Stmt} {I l : Addr} {vs : List Value} (J : Nat → MT → List Own → Nat → Prop) (hh : A.handled = none) (hl : g.IsList l vs.toArray)
    (S : Sta g env.locals m ((I, LIter l 0) :: cs) z h) (h0 : J 0 m cs z)
    (turn : ∀ (k : Nat) (v : Value) (m : MT) (cs : List Own) (z : Nat) (h : Heap) (t : Nat) (E' : Value → Shared → Prop), vs[k]? = some v → J k m cs z → Sta g env.locals m ((I, LIter l (k + 1)) :: cs) z h →
      wpAny (model PG w) A (assign (.Name x px) env v) (fun _ s₂ => wpAny (model PG w) A (execs body env)
        (ForEnd g env.locals (I, LIter l (k + 1)) gs d os (J (k + 1)) R) E' s₂) E' ⟨h, gs, d, t, os⟩)
    (done : ∀ (m : MT) (cs : List Own) (z : Nat) (h : Heap) (t : Nat), J vs.length m cs z → Sta g env.locals m cs (z + 2) h → R (.ok .next) ⟨h, gs, d, t, os⟩) :
    codeAny (model PG w) A (.forLoop (.Name x px) (.ref I) body [] env) R ⟨h, gs, d, t, os⟩ := by
  refine codeAny_forLoop (fun c s => ∃ k m cs z h t, k ≤ vs.length ∧ c = vs.length - k ∧ s = ⟨h, gs, d, t, os⟩ ∧ Sta g env.locals m ((I, LIter l k) :: cs) z h ∧ J k m cs z) ?_ vs.length
    ⟨0, m, cs, z, h, t, Nat.zero_le _, rfl, rfl, S, h0⟩
  rintro c s ⟨k, m, cs, z, h, t, hk, rfl, rfl, S, j⟩
  obtain ⟨o, ho, q1, q2⟩ := S.get (List.mem_cons_self ..)
  have hl' : h.IsList l vs.toArray := hl.at fun o e => S.keep l o e
  have hit : h.IsListIter I l k := ⟨o, ho, q1, q2⟩
  by_cases hlt : k < vs.length
  · have hv : vs[k]? = some vs[k] := by simp [hlt]
    refine wpAny_pyNext_list_item (s := ⟨h, gs, d, t, os⟩) hit hl' (x := vs[k]) (by simp [hlt]) fun h' hit hs => ?_
    obtain ⟨o', r1, r2, r3⟩ := hit
    have S' := S.turn (i := 0) (P' := LIter l (k + 1)) rfl hs ⟨o', r1, r2, r3⟩
    refine wpAny_mono (turn k _ m cs z h' t _ hv j S') (fun _ s₂ q => wpAny_mono q (fun f s₃ q => ?_) fun _ _ e => e) fun _ _ e => e
    cases f with
    | ret v => exact q
    | brk => exact q
    | next => obtain ⟨m', cs', z', h', t', rfl, S', j'⟩ := q; exact ⟨vs.length - (k + 1), by omega, k + 1, m', cs', z', h', t', hlt, rfl, rfl, S', j'⟩
    | cont => obtain ⟨m', cs', z', h', t', rfl, S', j'⟩ := q; exact ⟨vs.length - (k + 1), by omega, k + 1, m', cs', z', h', t', hlt, rfl, rfl, S', j'⟩
  · have : k = vs.length := by omega
    subst this
    refine lst_end hh hit hl' (by simp) fun h₁ h' k0 k1 k2 => wpAny_execs_nil (done m cs z h' t j ?_)
    exact (S.but k0).ext k1 (by rw [k2, S.size])
/-- while -/
theorem whileR {test : Expr} {body : List Stmt} (J : Nat → MT → List Own → Nat → Prop) {n : Nat} (S : Sta g env.locals m cs z h) (h0 : J n m cs z)
    (turn : ∀ (k : Nat) (m : MT) (cs : List Own) (z : Nat) (h : Heap) (t : Nat) (E' : Value → Shared → Prop), J k m cs z → Sta g env.locals m cs z h →
      wpAny (model PG w) A (isTrue test env (eval test env)) (fun b s₂ => if b then wpAny (model PG w) A (execs body env)
        (fun f s₃ => f = .next ∧ ∃ k' m cs z h t, k' < k ∧ s₃ = ⟨h, gs, d, t, os⟩ ∧ Sta g env.locals m cs z h ∧ J k' m cs z) E' s₂
        else R (.ok .next) s₂) E' ⟨h, gs, d, t, os⟩) :
    codeAny (model PG w) A (.whileLoop test body [] env) R ⟨h, gs, d, t, os⟩ := by
  refine codeAny_whileLoop (fun c s => ∃ m cs z h t, s = ⟨h, gs, d, t, os⟩ ∧ Sta g env.locals m cs z h ∧ J c m cs z) ?_ n ⟨m, cs, z, h, t, rfl, S, h0⟩
  rintro c s ⟨m, cs, z, h, t, rfl, S, j⟩
  refine wpAny_mono (turn c m cs z h t _ j S) (fun b s₂ q => ?_) fun _ _ e => e
  cases b with
  | false => simp only [Bool.false_eq_true, if_false] at q ⊢; exact wpAny_execs_nil q
  | true =>
    simp only [if_true] at q ⊢
    refine wpAny_mono q (fun f s₃ q => ?_) fun _ _ e => e
    obtain ⟨rfl, k', m', cs', z', h', t', hk, rfl, S', j'⟩ := q
    exact ⟨k', hk, m', cs', z', h', t', rfl, S', j'⟩
/-- a block over a range -/
abbrev blockEnv (scope : Scope) (cl : List (Str × Addr)) (C : Addr) (env : Env) : Env :=
  { scope := relabel scope env, locals := C, globals := env.globals, cells := cellsFrom (C + 1) scope.names cl, qual := env.qual, func := none, code := env.code, frame := env.frame, builtins := env.builtins }
def CompEnd (g : Heap) (C : Addr) (gs : Array GenState) (d : Drawn) (os : OsState) (mid : List Own) (J : MT → List Own → List Own → Nat → Prop) (s : Shared) : Prop :=
  ∃ mC pre cs z h t, s = ⟨h, gs, d, t, os⟩ ∧ Sta g C mC (pre ++ (mid ++ cs)) z h ∧ J mC pre cs z
theorem compG {x : Str} {use : Option (Value → Sem Unit)} {px : Pos} {elt iter : Expr} {ifs : List Expr} {scope : Scope} {pos : Pos} {cl : List (Str × Addr)} {pre₀ : List Own} {r : Addr} {a b : Int} {u₁ u₂ u₃ : Tok} {n : Nat} {Q : Value → Shared → Prop}
    (J : Nat → List Value → MT → List Own → List Own → Nat → Prop) (hh : A.handled = none)
    (S : Sta g env.locals m cs z h) (hr : IsRange h r a b 1 u₁ u₂ u₃) (hsm : Builtin.Range.small a b 1 = true) (hn : Builtin.Range.rangeSize a b 1 = (n : Int)) (hn' : n ≤ 1000)
    (hpre : ∀ cs, ownCells (z + 3) scope.names cs = pre₀ ++ cs)
    (h0 : J 0 [] (fun _ => none) pre₀ cs (z + 3 + nCells scope.names))
    (hlen : ∀ k vs mC pre cs z, J k vs mC pre cs z → vs.length ≤ k)
    (turn : ∀ (k : Nat) (vs : List Value) (mC : MT) (pre cs : List Own) (z' : Nat) (h : Heap) (t : Nat) (t₀ : Tok) (E' : Value → Shared → Prop), k < n → J k vs mC pre cs z' →
      Sta g (z + 2) mC (pre ++ ([(env.locals, NsP m), (z + 1, ListP vs), (z, IsP (RIter (a + (k + 1 : Nat)) ((n : Int) - (k + 1 : Nat))))] ++ cs)) z' h →
      wpAny (model PG w) A (assign (.Name x px) (blockEnv scope cl (z + 2) env) (.int (a + k) t₀)) (fun _ s₂ =>
        wpAny (model PG w) A (forIn ifs true fun c r => if r = true then do let ok ← isTrue c (blockEnv scope cl (z + 2) env) (eval c (blockEnv scope cl (z + 2) env)); pure (ForInStep.yield ok) else pure (ForInStep.yield r)) (fun ok s₃ =>
          if ok = true then wpAny (model PG w) A (eval elt (blockEnv scope cl (z + 2) env)) (fun v s₄ =>
            CompEnd g (z + 2) gs d os [(env.locals, NsP m), (z + 1, ListP vs), (z, IsP (RIter (a + (k + 1 : Nat)) ((n : Int) - (k + 1 : Nat))))] (J (k + 1) (vs ++ [v])) s₄) E' s₃
          else CompEnd g (z + 2) gs d os [(env.locals, NsP m), (z + 1, ListP vs), (z, IsP (RIter (a + (k + 1 : Nat)) ((n : Int) - (k + 1 : Nat))))] (J (k + 1) vs) s₃) E' s₂) E' ⟨h, gs, d, t, os⟩)
    (fin : ∀ (vs : List Value) (mC : MT) (pre cs : List Own) (z' : Nat) (h : Heap) (t : Nat), J n vs mC pre cs z' → Sta g env.locals m ((z + 2, NsP mC) :: (z + 1, ListP vs) :: cs) (z' + 2) h → compPost (model PG w) A E use Q (.ref (z + 1)) (z + 2) (.ok .next) ⟨h, gs, d, t, os⟩) :
    wpAny (model PG w) A (pyIter (.ref r)) (fun it s₂ => wpAny (model PG w) A (newList []) (fun acc s₃ =>
      wpAny (model PG w) A (newFunctionEnv scope env.globals cl [] env.qual none .none (some env)) (fun cenv s₄ =>
        codeAny (model PG w) A (.compStart (.ListComp elt [⟨.Name x px, iter, ifs, 0⟩] scope pos) 0 it acc { cenv with scope := relabel scope env }) (compPost (model PG w) A E use Q acc cenv.locals) s₄) E s₃) E s₂) E ⟨h, gs, d, t, os⟩ := by
  refine wpAny_pyIter_range (s := ⟨h, gs, d, t, os⟩) hr hsm ?_
  rw [hn]
  have S1 := S.push (RIter a n) (IsP (RIter a n)) rfl
  have hz1 := S.size
  dsimp only
  rw [hz1]
  refine wpAny_newObj_type ?_ (by size_fits)
  have S2 := S1.push { cls := .type "list", data := .seq ([] : List Value).toArray } (ListP []) ⟨rfl, 0, rfl⟩
  dsimp only
  rw [S1.size]
  refine block_env S2 fun h' S3 => ?_
  rw [show z + 1 + 1 + 1 = z + 3 from rfl, hpre] at S3
  show codeAny _ _ (.compStart _ 0 (.ref z) (.ref (z + 1)) (blockEnv scope cl (z + 2) env)) _ _
  have key : ∀ (s : Shared), s = ⟨h', gs, d, t, os⟩ → codeAny (model PG w) A (.compLoop (.ListComp elt [⟨.Name x px, iter, ifs, 0⟩] scope pos) 0 (.ref z) (.ref (z + 1)) (blockEnv scope cl (z + 2) env))
      (compPost (model PG w) A E use Q (.ref (z + 1)) (z + 2)) s := by
    rintro s rfl
    refine codeAny_compLoop_tests (fun c s => ∃ k vs mC pre cs z' h t, k ≤ n ∧ c = n - k ∧ s = ⟨h, gs, d, t, os⟩ ∧
      Sta g (z + 2) mC (pre ++ ([(env.locals, NsP m), (z + 1, ListP vs), (z, IsP (RIter (a + (k : Nat)) ((n : Int) - (k : Nat))))] ++ cs)) z' h ∧ J k vs mC pre cs z') ?_ n
      ⟨0, [], _, pre₀, cs, _, h', t, Nat.zero_le _, rfl, rfl, by simpa using S3, h0⟩
    rintro c s ⟨k, vs, mC, pre, cs, z', h, t, hk, rfl, rfl, S, j⟩
    obtain ⟨o, ho, rfl⟩ := S.get (a := z) (P := IsP (RIter (a + (k : Nat)) ((n : Int) - (k : Nat)))) (by simp)
    by_cases hlt : k < n
    · refine wpAny_pyNext_range_item (s := ⟨h, gs, d, t, os⟩) ho (by omega) fun h' hit hs => ?_
      have e1 : a + (k : Int) + 1 = a + ((k + 1 : Nat) : Int) := by push_cast; omega
      have e2 : (n : Int) - (k : Int) - 1 = (n : Int) - ((k + 1 : Nat) : Int) := by push_cast; omega
      rw [e1, e2] at hit
      have S' := S.turn (i := pre.length + 2) (P := IsP (RIter (a + (k : Nat)) ((n : Int) - (k : Nat)))) (P' := IsP (RIter (a + ((k + 1 : Nat) : Int)) ((n : Int) - ((k + 1 : Nat) : Int)))) (by rw [List.getElem?_append_right (by omega)]; simp) hs ⟨_, hit, rfl⟩
      rw [List.set_append_right _ _ (by omega), show pre.length + 2 - pre.length = 2 from by omega] at S'
      refine wpAny_mono (turn k vs mC pre cs z' h' (t + 1) t _ hlt j S') (fun _ s₂ q => wpAny_mono q (fun ok s₃ q => ?_) fun _ _ e => e) fun _ _ e => e
      cases ok with
      | false =>
        simp only [Bool.false_eq_true, if_false] at q ⊢
        obtain ⟨mC', pre', cs', z'', h'', t'', rfl, S'', j'⟩ := q
        exact ⟨n - (k + 1), by omega, k + 1, vs, mC', pre', cs', z'', h'', t'', hlt, rfl, rfl, S'', j'⟩
      | true =>
        simp only [if_true] at q ⊢
        refine wpAny_mono q (fun v s₄ q => ?_) fun _ _ e => e
        obtain ⟨mC', pre', cs', z'', h'', t'', rfl, S'', j'⟩ := q
        obtain ⟨oD, hD, c1, nD, c2⟩ := S''.get (a := z + 1) (P := ListP vs) (by simp)
        have hl := hlen _ _ _ _ _ _ j
        refine wpAny_list_append (s := ⟨h'', gs, d, t'', os⟩) (l := z + 1) (items := vs.toArray) (x := v) ⟨oD, hD, c1, nD, c2⟩ (fun h₃ hl₃ hs₃ => ?_) (by rw [List.size_toArray, show sizeLine = 16777216 from rfl]; omega)
        obtain ⟨o₃, a1, a2, n₃, a3⟩ := hl₃
        have S₃ := S''.turn (i := pre'.length + 1) (P := ListP vs) (P' := ListP (vs ++ [v])) (by rw [List.getElem?_append_right (by omega)]; simp) hs₃ ⟨o₃, a1, a2, n₃, by rw [a3]; simp⟩
        rw [List.set_append_right _ _ (by omega), show pre'.length + 1 - pre'.length = 1 from by omega] at S₃
        exact ⟨n - (k + 1), by omega, k + 1, vs ++ [v], mC', pre', cs', z'', h₃, t'', hlt, rfl, rfl, S₃, j'⟩
    · have : k = n := by omega
      subst this
      refine rng_end hh ho (by omega) fun h' k1 k2 => ?_
      have S1 := (S.ext k1 (z' := z' + 2) (by rw [k2, S.size]))
      refine fin vs mC pre cs z' h' t j ?_
      have S3 := (S1.perm (cs' := (env.locals, NsP m) :: (pre ++ ([(z + 1, ListP vs), (z, IsP (RIter (a + (k : Nat)) ((k : Int) - (k : Nat))))] ++ cs))) (List.perm_middle.symm)).swap
      refine S3.sub (fun p hp => ⟨p.2, ?_, fun _ q => q⟩) ?_
      · rcases List.mem_cons.mp hp with rfl | hp
        · simp
        · rcases List.mem_cons.mp hp with rfl | hp
          · simp
          · simp [hp]
      · have nd := S3.nd
        rw [List.map_cons, List.map_append] at nd
        have nd0 := List.nodup_cons.mp nd
        have nd2 := (List.nodup_append.mp nd0.2).2.1
        simp only [List.cons_append, List.nil_append, List.map_cons] at nd2 nd0 ⊢
        have q1 := List.nodup_cons.mp nd2
        have q2 := List.nodup_cons.mp q1.2
        refine List.nodup_cons.mpr ⟨fun hm => nd0.1 (List.mem_append_right _ ?_), List.nodup_cons.mpr ⟨fun hm => q1.1 (List.mem_cons_of_mem _ hm), q2.2⟩⟩
        rcases List.mem_cons.mp hm with e | hm
        · rw [e]; exact List.mem_cons_self ..
        · exact List.mem_cons_of_mem _ (List.mem_cons_of_mem _ hm)
  refine codeAny_compStart_list (key _ rfl) ?_
  obtain ⟨o, ho, rfl⟩ := S3.get (a := z) (P := IsP (RIter a n)) (by simp)
  exact wpAny_pyIter_rangeiter (s := ⟨h', gs, d, t, os⟩) ho (key _ rfl)
end
end Mine
open PySem PySem.W PySem.W.X PyProof.Rows
set_option Elab.async false
set_option maxRecDepth 100000
namespace Mine
theorem nolimit_of {P : Params} {h : Heap} (X : (KB P).In h) : h.NoLimit := by
  have e : (KB P).lookup cStatics = some { cls := .none, data := .dict #[] } := by kernel_rfl
  refine ⟨fun _ => none, ⟨_, #[], 0, X _ _ e, rfl, fun _ he => by simp at he, fun _ => by simp [nsFind, findBy]⟩, rfl⟩
section
variable {w : World} {A : Around} {E : Value → Shared → Prop} {R : Result → Shared → Prop} {h : Heap} {gs : Array GenState} {d : Drawn} {t : Nat} {os : OsState}
abbrev fnEnv (fd : FuncData) (z : Nat) (f : Addr) : Env := newEnv fd.scope z fd.globals (cellsFrom (z + 1) fd.scope.names fd.closure) (fd.qualname ++ ".<locals>.") (some f) fd.code none fd.builtins
theorem call_fn {f : Addr} {o : Obj} {fd : FuncData} {args : Args} {binds : List (Str × Value)} {body : List Stmt} (hroom : A.depth < recursionLimit) (ho : h.get? f = some o) (hd : o.data = .func fd) (hbody : fd.body = .stmts body)
    (hcd : h.CodeRec fd.code fd.qualname) (hbind : bindArgs fd args = pure binds)
    (k : ∀ h', Sta h h.objs.size (fun _ => none) (ownCells (h.objs.size + 1) fd.scope.names []) (h.objs.size + 1 + nCells fd.scope.names) h' →
      Binds w A.in1 (fun e s' => R (.error e) s') (fnEnv fd h.objs.size f) binds (fun s' => s'.heap.NoLimit ∧
        wpAny (model PG w) (A.deeper (fnEnv fd h.objs.size f)) (execs body (fnEnv fd h.objs.size f)) (fun f s' => R (.ok (.ret (match f with | .ret v => v | _ => .none))) s')
          (fun e s' => wpAny (model PG w) (A.deeper (fnEnv fd h.objs.size f)) (leaving (fnEnv fd h.objs.size f) e) (fun _ s'' => R (.error e) s'') (fun e' s'' => R (.error e') s'') s') s') ⟨h', gs, d, t, os⟩)
    (hco : fd.scope.isCoroutine = false := by rfl) (hgen : fd.scope.isGenerator = false := by rfl) :
    codeAny (model PG w) A (.call (.ref f) args) R ⟨h, gs, d, t, os⟩ := by
  refine codeAny_call_function (s := ⟨h, gs, d, t, os⟩) hroom ho hd hco hgen hbody hcd ?_
  rw [hbind]
  refine wpAny_pure (new_env fun h' S => ?_)
  exact Binds.mono _ _ (fun s' q => ⟨q.1, codeAny_func q.2⟩) (k h' S)
end
/-- the table T of n rows tells tb -/
def Ent (vals : List (List Value)) (n : Nat) (tb : Nat → Nat → Int) : Prop := vals.length = n ∧ ∀ a, a < n → ∃ vs, vals[a]? = some vs ∧ vs.length = n ∧ ∀ b, b < n → ∃ tk, vs[b]? = some (.int (tb a b) tk)
structure IsTab (h : Heap) (T : Addr) (n : Nat) (tb : Nat → Nat → Int) : Prop where
  all : ∃ (rows : List Addr) (vals : List (List Value)), rows.length = n ∧ Ent vals n tb ∧ (∃ o, h.get? T = some o ∧ ListP (rows.map Value.ref) o) ∧ ∀ (a : Nat) (r : Addr) (vs : List Value), rows[a]? = some r → vals[a]? = some vs → ∃ o, h.get? r = some o ∧ ListP vs o
theorem IsTab.ext {h h' : Heap} {T : Addr} {n : Nat} {tb : Nat → Nat → Int} (x : IsTab h T n tb) (k : Ext h h') : IsTab h' T n tb := by
  obtain ⟨rows, vals, h1, h2, ⟨o, h3, h4⟩, h5⟩ := x.all
  exact ⟨rows, vals, h1, h2, ⟨o, k _ _ h3, h4⟩, fun a r vs e1 e2 => let ⟨o, q1, q2⟩ := h5 a r vs e1 e2; ⟨o, k _ _ q1, q2⟩⟩
section
variable {w : World} {A : Around} {E : Value → Shared → Prop} {R : Result → Shared → Prop} {h : Heap} {gs : Array GenState} {d : Drawn} {t : Nat} {os : OsState} {env : Env}
theorem isList_of {h : Heap} {l : Addr} {vs : List Value} (x : ∃ o, h.get? l = some o ∧ ListP vs o) : h.IsList l vs.toArray := let ⟨o, h1, h2, n, h3⟩ := x; ⟨o, h1, h2, n, h3⟩
/-- an item of a list -/
theorem item {value slice : Expr} {l : Addr} {vs : List Value} {k : Int} {u : Tok} {x : Value} {Q : Value → Shared → Prop} (hl : ∃ o, h.get? l = some o ∧ ListP vs o) (h0 : 0 ≤ k) (hk : k < 2 ^ 63) (hx : vs[k.toNat]? = some x) (q : Q x ⟨h, gs, d, t, os⟩)
    (hs : subscripted slice false (.ref l) (.int k u) = operate [.ref l, .int k u] (getItem (.ref l) (.int k u)) := by with_unfolding_all rfl) :
    wpAny (model PG w) A (subscriptTail value slice (.ref l) (.int k u)) Q E ⟨h, gs, d, t, os⟩ :=
  item_listR (s := ⟨h, gs, d, t, os⟩) (isList_of hl) h0 hk (by simpa using hx) q hs
theorem IsTab.row {T : Addr} {n : Nat} {tb : Nat → Nat → Int} {a : Nat} (hT : IsTab h T n tb) (ha : a < n) : ∃ (rows : List Value) (r : Addr) (vs : List Value), (∃ o, h.get? T = some o ∧ ListP rows o) ∧ rows[a]? = some (.ref r) ∧ (∃ o, h.get? r = some o ∧ ListP vs o) ∧ ∀ b, b < n → ∃ tk, vs[b]? = some (.int (tb a b) tk) := by
  obtain ⟨rows, vals, h1, ⟨h2, h2'⟩, h3, h5⟩ := hT.all
  obtain ⟨vs, e1, e2, e3⟩ := h2' a ha
  have er : rows[a]? = some rows[a] := by simp [h1, ha]
  exact ⟨rows.map Value.ref, rows[a], vs, h3, by simp [er], h5 a _ _ er e1, e3⟩
/-- a call of the comparison over the table -/
theorem cmp_call {f code cell ct x1 x2 x3 x4 x5 : Addr} {n6 t1 t2 t3 t4 t5 : Tok} {T : Addr} {n : Nat} {tb : Nat → Nat → Int} {a b : Nat} {ta tb' : Tok} {Q : Value → Shared → Prop}
    (hroom : A.depth < recursionLimit) (X : (KB w.params).In h) (F : IsCmp h f code cell ct x1 x2 x3 x4 x5 n6 t1 t2 t3 t4 t5 T) (hT : IsTab h T n tb) (hn : n ≤ 1000) (ha : a < n) (hb : b < n)
    (q : ∀ h' tk t', Ext h h' → Q (.int (tb a b) tk) ⟨h', gs, d, t', os⟩) :
    wpAny (model PG w) A (call (.ref f) [.int a ta, .int b tb']) Q E ⟨h, gs, d, t, os⟩ := by
  refine wpAny_call (call_fn (o := _) (binds := [(Str.ofString "a", .int a ta), (Str.ofString "b", .int b tb')]) hroom F.fn rfl rfl ?_ ?_ fun h' S => ?_)
  · exact ⟨_, _, _, _, rfl, F.code, rfl, rfl⟩
  · with_unfolding_all rfl
  refine stL S fun h1 S1 => stL S1 fun h2 S2 => ⟨nolimit_of (X.keeps S2.keep), ?_⟩
  refine wpAny_execs_cons (wpAny_Return_some ?_)
  refine Subscript_ (Subscript_ ?_)
  refine ldF (S2.keep _ _ F.cell) rfl ?_
  refine ldL S2 (by rfl) ?_
  obtain ⟨rows, r, vs, g1, g2, g3, g4⟩ := (hT.ext S2.keep).row ha
  obtain ⟨tk, g5⟩ := g4 b hb
  refine item g1 (by omega) (by omega) (by simpa using g2) ?_
  refine ldL S2 (by rfl) ?_
  refine item g3 (by omega) (by omega) (by simpa using g5) ?_
  exact q h2 tk _ S2.keep
end
end Mine
open PySem PySem.W PySem.W.X PyProof.Rows
set_option Elab.async false
set_option maxRecDepth 100000
namespace Mine
section
variable {w : World} {A : Around} {E : Value → Shared → Prop} {h : Heap} {gs : Array GenState} {d : Drawn} {t : Nat} {os : OsState} {env : Env}
theorem ns_range (P : Params) : nsIn (KB P) mainGlobals (Str.ofString "range") = some none := by kernel_rfl
theorem ns_range' (P : Params) : nsIn (KB P) builtinsNs (Str.ofString "range") = some (some (.type "range")) := by kernel_rfl
theorem range_1e {e : Expr} {p pos : Pos} {Q : Value → Shared → Prop} (X : (KB w.params).In h) (k : wpAny (model PG w) A (eval e env) (fun v s => wpAny (model PG w) A (call (.type "range") [v]) Q E s) E ⟨h, gs, d, t, os⟩)
    (hg : env.globals = mainGlobals := by rfl) (hb : env.builtins = builtinsNs := by rfl) (hk : env.scope.kind = .function := by rfl) (hl : env.kindOf (Str.ofString "range") = some .globalImplicit := by rfl) (hs : ∀ r, starEach (e :: r) env = (false, eval e env) :: starEach r env := by intro _; rfl) :
    wpAny (model PG w) A (eval (.Call (.Name (Str.ofString "range") p) [e] [] pos) env) Q E ⟨h, gs, d, t, os⟩ :=
  Call_ (ldB X (ns_range _) (ns_range' _) (PyProof.Rows.callWith_type1 (args_cons (wpAny_mono k (fun _ _ q => args_nil q) fun _ _ e => e) (hs _)) (hs _)) hg hb hk hl)
theorem range_2e {e e' : Expr} {p pos : Pos} {Q : Value → Shared → Prop} (X : (KB w.params).In h) (k : wpAny (model PG w) A (eval e env) (fun v s => wpAny (model PG w) A (eval e' env) (fun v' s => wpAny (model PG w) A (call (.type "range") [v, v']) Q E s) E s) E ⟨h, gs, d, t, os⟩)
    (hg : env.globals = mainGlobals := by rfl) (hb : env.builtins = builtinsNs := by rfl) (hk : env.scope.kind = .function := by rfl) (hl : env.kindOf (Str.ofString "range") = some .globalImplicit := by rfl) (hs : ∀ r, starEach (e :: r) env = (false, eval e env) :: starEach r env := by intro _; rfl) (hs' : ∀ r, starEach (e' :: r) env = (false, eval e' env) :: starEach r env := by intro _; rfl) :
    wpAny (model PG w) A (eval (.Call (.Name (Str.ofString "range") p) [e, e'] [] pos) env) Q E ⟨h, gs, d, t, os⟩ :=
  Call_ (ldB X (ns_range _) (ns_range' _) (PyProof.Rows.callWith_type1 (args_cons (wpAny_mono k (fun _ _ q => args_cons (wpAny_mono q (fun _ _ q => args_nil q) fun _ _ e => e) (hs' _)) fun _ _ e => e) (hs _)) (hs _) (by rw [hs']; rfl)) hg hb hk hl)
/-- a range's object -/
abbrev Rng (a b : Int) (u₁ u₂ u₃ : Tok) : Obj := { cls := .type "range", dict := none, data := .fields #[.int a u₁, .int b u₂, .int 1 u₃], slots := #[] }
/-- an expression that makes a range -/
abbrev EvR (w : World) (A : Around) (E : Value → Shared → Prop) (env : Env) (gs : Array GenState) (d : Drawn) (os : OsState) (iter : Expr) (h : Heap) (t : Nat) (a b : Int) : Prop :=
  ∀ Q' : Value → Shared → Prop, (∀ t' u₁ u₂ u₃, Q' (.ref h.objs.size) ⟨h.push (Rng a b u₁ u₂ u₃), gs, d, t', os⟩) → wpAny (model PG w) A (eval iter env) Q' E ⟨h, gs, d, t, os⟩
theorem rng_n (a : Int) (n : Nat) : Builtin.Range.rangeSize a (a + n) 1 = (n : Int) := by
  rw [rangeSize_one]; split <;> omega
theorem rng_small {a : Int} {n : Nat} (h0 : 0 ≤ a) (h1 : a ≤ 100000) (h2 : n ≤ 1000) : Builtin.Range.small a (a + n) 1 = true := small_one (by omega) (by omega) (by omega) (by omega)
theorem forRange {x : Str} {px pos : Pos} {body : List Stmt} {iter : Expr} {g : Heap} {m : MT} {cs : List Own} {z : Nat} {a : Int} {n : Nat} {Q : Flow → Shared → Prop} (J : Nat → MT → List Own → Nat → Prop) (hh : A.handled = none)
    (S : Sta g env.locals m cs z h) (he : EvR w A E env gs d os iter h t a (a + n)) (h0 : 0 ≤ a) (h1 : a ≤ 100000) (h2 : n ≤ 1000) (j0 : J 0 m cs (z + 2))
    (turn : ∀ (k : Nat) (m : MT) (cs : List Own) (z : Nat) (h : Heap) (t : Nat) (t₀ : Tok) (I : Own) (E' : Value → Shared → Prop), k < n → J k m cs z → Sta g env.locals m (I :: cs) z h →
      wpAny (model PG w) A (storeName env x (.int (a + k) t₀)) (fun _ s₂ => wpAny (model PG w) A (execs body env)
        (ForEnd g env.locals I gs d os (J (k + 1)) (fun r s' => match r with | .ok f => Q f s' | .error e => cameBackBy (model PG w) A env E e s')) E' s₂) E' ⟨h, gs, d, t, os⟩)
    (done : ∀ (m : MT) (cs : List Own) (z : Nat) (h : Heap) (t : Nat), J n m cs z → Sta g env.locals m cs (z + 2) h → Q .next ⟨h, gs, d, t, os⟩)
    (hf : ∀ x, foldedSetIterable iter env x = pure x := by intro _; rfl) :
    wpAny (model PG w) A (exec (.For (.Name x px) iter body [] pos) env) Q E ⟨h, gs, d, t, os⟩ := by
  refine wpAny_For (he _ fun t' u₁ u₂ u₃ => ?_) hf
  have S1 := S.push (Rng a (a + n) u₁ u₂ u₃) (fun _ => True) trivial
  refine wpAny_pyIter_range (s := ⟨_, gs, d, t', os⟩) (r := h.objs.size) (Heap.get?_push_size _ rfl) (rng_small h0 h1 h2) ?_
  rw [rng_n]
  have S2 := S1.push (RIter a n) (IsP (RIter a n)) rfl
  have hz : (h.push (Rng a (a + n) u₁ u₂ u₃)).objs.size = z + 1 := S1.size
  dsimp only
  rw [hz]
  refine forR J hh (S2.sub (cs' := (z + 1, IsP (RIter a n)) :: cs) (fun p hp => ?_) ?_) j0 ?_ done
  · rcases List.mem_cons.mp hp with rfl | hp
    · exact ⟨_, List.mem_cons_self .., fun _ q => q⟩
    · exact ⟨p.2, List.mem_cons_of_mem _ (List.mem_cons_of_mem _ hp), fun _ q => q⟩
  · have nd := S2.nd
    rw [List.map_cons, List.map_cons] at nd
    have q1 := List.nodup_cons.mp nd
    have q2 := List.nodup_cons.mp q1.2
    rw [List.map_cons]
    exact List.nodup_cons.mpr ⟨fun hm => q1.1 (List.mem_cons_of_mem _ hm), q2.2⟩
  · intro k m cs z h t t₀ E' hk j S
    exact wpAny_assign_Name (turn k m cs z h t t₀ _ E' hk j S)
/-- a new list -/
theorem new_list {g : Heap} {L : Addr} {m : MT} {cs : List Own} {z : Nat} {vs : List Value} {Q : Value → Shared → Prop} (S : Sta g L m cs z h)
    (k : ∀ h', h' = h.push { cls := .type "list", data := .seq vs.toArray } → Sta g L m ((z, ListP vs) :: cs) (z + 1) h' → Q (.ref z) ⟨h', gs, d, t, os⟩) (hsz : vs.length < 2 ^ 20) : wpAny (model PG w) A (newList vs) Q E ⟨h, gs, d, t, os⟩ := by
  have S1 := S.push { cls := .type "list", data := .seq vs.toArray } (ListP vs) ⟨rfl, 0, rfl⟩
  simp only [newList]
  refine wpAny_newObj_type ?_ (by show vs.toArray.size ≤ sizeLine; rw [List.size_toArray, show sizeLine = 16777216 from rfl]; omega)
  rw [show (⟨h, gs, d, t, os⟩ : Shared).heap.objs.size = z from S.size]
  exact k _ rfl S1
/-- a list times an int, exact -/
theorem mul_list' {l : Addr} {items : Array Value} {k : Nat} {x : Int} {u : Tok} {Q : Value → Shared → Prop}
    (hl : h.get? l = some { cls := .type "list", dict := none, data := .seq items k, slots := #[] })
    (hlo : -(2 ^ 63 : Int) ≤ x) (hhi : x < 2 ^ 63) (hsz : items.size * x.toNat ≤ 2 ^ 24)
    (q : Q (.ref h.objs.size) ⟨h.push { cls := .type "list", data := .seq (List.foldl (fun x1 x2 => x1 ++ x2) #[] (List.replicate (if items.isEmpty = true then 0 else x.toNat) items)) }, gs, d, t, os⟩) :
    wpAny (model PG w) A (binaryOp .Mult (.ref l) (.int x u)) Q E ⟨h, gs, d, t, os⟩ :=
  wpAny_binaryOp_repeat_ref (T := "list") (U := "int") (by decide) ⟨_, hl, rfl⟩ (fun s' => typeIs_int s' x u) noFill_list_mul F.fills_int_mul F.slot_int_rmul repeat_list F.slot_int_index.lookup
    (call_meets F.slot_int_rmul (typeIs_int _ x u) F.entry_int_rmul (F.args_int_rmul_2 _ _) (int___rmul___int_list x u l items k)
      ⟨hl, rfl, ⟨_, hl, rfl⟩, call_meets F.slot_list_mul ⟨_, hl, rfl⟩ F.entry_list_mul (F.args_list_mul_2 _ _)
        (AutoListH.list___mul___list_int_3 l items k x u (by simp [Builtin.List.listFitsIndex]; omega) (by omega) (by simp [Builtin.List.listTooLong, sizeLine]; omega))
        ⟨hl, q⟩⟩)
theorem rep_one (v : Value) (n : Nat) : List.foldl (fun (x1 x2 : Array Value) => x1 ++ x2) #[] (List.replicate n #[v]) = (List.replicate n v).toArray := by
  have : ∀ (n : Nat) (acc : List Value), List.foldl (fun (x1 x2 : Array Value) => x1 ++ x2) acc.toArray (List.replicate n #[v]) = (acc ++ List.replicate n v).toArray := by
    intro n
    induction n with
    | zero => intro acc; simp
    | succ n ih =>
      intro acc
      rw [List.replicate_succ, List.foldl_cons, show acc.toArray ++ #[v] = (acc ++ [v]).toArray from by simp, ih]
      simp [List.replicate_succ]
  have := this n []
  simpa using this
/-- [v] * n -/
theorem list1_mul {g : Heap} {L : Addr} {m : MT} {cs : List Own} {z : Nat} {e₁ : Expr} {e₂ : Expr} {p₁ p₂ : Pos} {v : Value} {n : Nat} {Q : Value → Shared → Prop} (S : Sta g L m cs z h) (hn : n ≤ 1000)
    (h1 : ∀ Q', (∀ t, Q' v ⟨h, gs, d, t, os⟩) → wpAny (model PG w) A (eval e₁ env) Q' E ⟨h, gs, d, t, os⟩)
    (h2 : ∀ h' t Q', Ext h h' → (∀ t tk, Q' (.int n tk) ⟨h', gs, d, t, os⟩) → wpAny (model PG w) A (eval e₂ env) Q' E ⟨h', gs, d, t, os⟩)
    (k : ∀ h' t, Sta g L m ((z + 1, ListP (List.replicate n v)) :: cs) (z + 2) h' → Q (.ref (z + 1)) ⟨h', gs, d, t, os⟩)
    (hs : starEach [e₁] env = (false, eval e₁ env) :: starEach [] env := by rfl) :
    wpAny (model PG w) A (eval (.BinOp (.List [e₁] p₁) .Mult e₂ p₂) env) Q E ⟨h, gs, d, t, os⟩ := by
  refine wpAny_BinOp (List_ (args_cons (h1 _ fun t => args_nil (new_list S (fun h' eh S1 => ?_) (by simp))) hs))
  refine h2 _ _ _ (eh ▸ Ext.push _ _) fun t tk => ?_
  have hz : h.objs.size = z := S.size
  subst eh
  refine mul_list' (l := z) (items := #[v]) (k := 0) (by rw [← hz]; exact Heap.get?_push_size _ rfl) (by omega) (by omega) (by simp; omega) ?_
  have S2 := S1.push { cls := .type "list", data := .seq (List.replicate n v).toArray } (ListP (List.replicate n v)) ⟨rfl, 0, rfl⟩
  rw [S1.size, show (if (#[v] : Array Value).isEmpty = true then 0 else (n : Int).toNat) = n from by simp, rep_one]
  refine k _ _ (S2.sub (fun p hp => ?_) ?_)
  · rcases List.mem_cons.mp hp with rfl | hp
    · exact ⟨_, List.mem_cons_self .., fun _ q => q⟩
    · exact ⟨p.2, List.mem_cons_of_mem _ (List.mem_cons_of_mem _ hp), fun _ q => q⟩
  · have nd := S2.nd
    rw [List.map_cons, List.map_cons] at nd
    have q1 := List.nodup_cons.mp nd
    have q2 := List.nodup_cons.mp q1.2
    rw [List.map_cons]
    exact List.nodup_cons.mpr ⟨fun hm => q1.1 (List.mem_cons_of_mem _ hm), q2.2⟩
/-- an item of an own list is set -/
theorem set_item {g : Heap} {L l : Addr} {m : MT} {cs : List Own} {z i k : Nat} {tk : Tok} {vs : List Value} {v : Value} {Q : Unit → Shared → Prop} (S : Sta g L m cs z h) (hi : cs[i]? = some (l, ListP vs)) (hk : k < vs.length) (hv : vs.length < 2 ^ 20)
    (q : ∀ h', Sta g L m (cs.set i (l, ListP (vs.set k v))) z h' → Q () ⟨h', gs, d, t, os⟩) : wpAny (model PG w) A (setItem (.ref l) (.int k tk) v) Q E ⟨h, gs, d, t, os⟩ := by
  refine wpAny_setItem_list (s := ⟨h, gs, d, t, os⟩) (items := vs.toArray) (isList_of (S.get (List.mem_of_getElem? hi))) (by omega) (by omega) (by rw [List.size_toArray]; omega) fun h' hl hs => ?_
  obtain ⟨o, h1, h2, n, h3⟩ := hl
  exact q h' (S.turn hi hs ⟨o, h1, h2, n, by rw [h3]; simp⟩)
end
end Mine
open PySem PySem.W PySem.W.X PyProof.Rows
set_option Elab.async false
set_option maxRecDepth 100000
namespace Mine
abbrev fdFn (name : String) (i : Nat) (n6 : Tok) (c : Addr) : FuncData := { name := Str.ofString name, qualname := Str.ofString name, params := sArgs (top i), body := .stmts (sBody (top i)), scope := sScope (top i), globals := 3, closure := [], defaults := .none, kwdefaults := .none, pyModule := .str (Str.ofString "law_ab6002_01") n6, code := .ref c }
def oFn (name : String) (i : Nat) (n6 : Tok) (c : Addr) : Obj := ⟨.type "function", none, .func (fdFn name i n6 c), #[]⟩
theorem fn_table (P : Params) : (KB P).lookup 47 = some (oFn "_law_table" 6 207 46) := by kernel_rfl
theorem fn_walks (P : Params) : (KB P).lookup 42 = some (oFn "_law_walks" 5 207 41) := by kernel_rfl
theorem fn_law (P : Params) : (KB P).lookup 52 = some (oFn "law" 7 207 51) := by kernel_rfl
theorem cd_table {P : Params} {h : Heap} (X : (KB P).In h) : h.CodeRec (.ref 46) (Str.ofString "_law_table") := by
  have e : (KB P).lookup 46 = some (hz.zo_85 P) := by kernel_rfl
  exact ⟨_, _, _, _, rfl, X _ _ e, rfl, rfl⟩
theorem cd_walks {P : Params} {h : Heap} (X : (KB P).In h) : h.CodeRec (.ref 41) (Str.ofString "_law_walks") := by
  have e : (KB P).lookup 41 = some (hz.zo_80 P) := by kernel_rfl
  exact ⟨_, _, _, _, rfl, X _ _ e, rfl, rfl⟩
theorem cd_law {P : Params} {h : Heap} (X : (KB P).In h) : h.CodeRec (.ref 51) (Str.ofString "law") := by
  have e : (KB P).lookup 51 = some (hz.zo_90 P) := by kernel_rfl
  exact ⟨_, _, _, _, rfl, X _ _ e, rfl, rfl⟩
end Mine
open PySem PySem.W PySem.W.X PyProof.Rows
set_option Elab.async false
set_option maxRecDepth 100000
namespace Mine
section
variable {w : World} {A : Around} {E : Value → Shared → Prop} {h : Heap} {gs : Array GenState} {d : Drawn} {t : Nat} {os : OsState} {env : Env}
theorem tests_nil {M : Model} {s : Shared} {f : Expr → Bool → Sem (ForInStep Bool)} {Q : Bool → Shared → Prop} (q : Q true s) : wpAny M A (forIn ([] : List Expr) true f) Q E s := by
  rw [List.forIn_nil]; exact wpAny_pure q
theorem tests_one {M : Model} {s : Shared} {c : Expr} {ce : Env} {Q : Bool → Shared → Prop} (q : wpAny M A (isTrue c ce (eval c ce)) Q E s) :
    wpAny M A (forIn [c] true fun c r => if r = true then do let ok ← isTrue c ce (eval c ce); pure (ForInStep.yield ok) else pure (ForInStep.yield r)) Q E s := by
  rw [List.forIn_cons]
  refine wpAny_bind ?_
  rw [if_pos rfl]
  refine wpAny_bind (wpAny_mono q (fun b s' q => wpAny_pure ?_) fun _ _ e => e)
  dsimp only
  rw [List.forIn_nil]
  exact wpAny_pure q
theorem tests_two {M : Model} {s : Shared} {c c' : Expr} {ce : Env} {Q : Bool → Shared → Prop} (q : wpAny M A (isTrue c ce (eval c ce)) (fun b s => if b = true then wpAny M A (isTrue c' ce (eval c' ce)) Q E s else Q false s) E s) :
    wpAny M A (forIn [c, c'] true fun c r => if r = true then do let ok ← isTrue c ce (eval c ce); pure (ForInStep.yield ok) else pure (ForInStep.yield r)) Q E s := by
  rw [List.forIn_cons]
  refine wpAny_bind ?_
  rw [if_pos rfl]
  refine wpAny_bind (wpAny_mono q (fun b s' q => wpAny_pure ?_) fun _ _ e => e)
  dsimp only
  cases b with
  | true => exact tests_one q
  | false =>
    rw [List.forIn_cons]
    refine wpAny_bind ?_
    rw [if_neg (by decide)]
    refine wpAny_pure ?_
    dsimp only
    rw [List.forIn_nil]
    exact wpAny_pure q
variable {x : Str} {px pos : Pos} {elt iter : Expr} {ifs : List Expr} {scope : Scope} {cl : List (Str × Addr)} {pre₀ : List Own} {g : Heap} {m : MT} {cs : List Own} {z : Nat} {a : Int} {n : Nat}
abbrev mid3 (L : Addr) (m : MT) (z : Nat) (a : Int) (n k : Nat) (vs : List Value) : List Own := [(L, NsP m), (z + 2, ListP vs), (z + 1, IsP (RIter (a + (k + 1 : Nat)) ((n : Int) - (k + 1 : Nat))))]
theorem compN {Q : Value → Shared → Prop} (J : Nat → List Value → MT → List Own → List Own → Nat → Prop) (hh : A.handled = none)
    (S : Sta g env.locals m cs z h) (he : EvR w A E env gs d os iter h t a (a + n)) (h0 : 0 ≤ a) (h1 : a ≤ 100000) (h2 : n ≤ 1000) (hcl : closureFor scope env = pure cl)
    (hpre : ∀ cs, ownCells (z + 4) scope.names cs = pre₀ ++ cs)
    (j0 : J 0 [] (fun _ => none) pre₀ cs (z + 4 + nCells scope.names))
    (hlen : ∀ k vs mC pre cs z, J k vs mC pre cs z → vs.length ≤ k)
    (turn : ∀ (k : Nat) (vs : List Value) (mC : MT) (pre cs : List Own) (z' : Nat) (h : Heap) (t : Nat) (t₀ : Tok) (E' : Value → Shared → Prop), k < n → J k vs mC pre cs z' →
      Sta g (z + 3) mC (pre ++ (mid3 env.locals m z a n k vs ++ cs)) z' h →
      wpAny (model PG w) A (storeName (blockEnv scope cl (z + 3) env) x (.int (a + k) t₀)) (fun _ s₂ =>
        wpAny (model PG w) A (forIn ifs true fun c r => if r = true then do let ok ← isTrue c (blockEnv scope cl (z + 3) env) (eval c (blockEnv scope cl (z + 3) env)); pure (ForInStep.yield ok) else pure (ForInStep.yield r)) (fun ok s₃ =>
          if ok = true then wpAny (model PG w) A (eval elt (blockEnv scope cl (z + 3) env)) (fun v s₄ =>
            CompEnd g (z + 3) gs d os (mid3 env.locals m z a n k vs) (J (k + 1) (vs ++ [v])) s₄) E' s₃
          else CompEnd g (z + 3) gs d os (mid3 env.locals m z a n k vs) (J (k + 1) vs) s₃) E' s₂) E' ⟨h, gs, d, t, os⟩)
    (done : ∀ (vs : List Value) (mC : MT) (pre cs : List Own) (z' : Nat) (h : Heap) (t : Nat), J n vs mC pre cs z' → Sta g env.locals m ((z + 2, ListP vs) :: cs) (z' + 2) h → Q (.ref (z + 2)) ⟨h, gs, d, t, os⟩)
    (hs : ∀ x, foldedSetIterable iter env x = pure x := by intro _; rfl) (hkind : scope.kind = .function := by rfl) (hnames : ∀ y ∈ scope.names, y.2 = .local → scope.names.lookup y.1 = some .local := by decide) :
    wpAny (model PG w) A (eval (.ListComp elt [⟨.Name x px, iter, ifs, 0⟩] scope pos) env) Q E ⟨h, gs, d, t, os⟩ := by
  rw [eval_ListComp]
  refine wpAny_comprehension_free (use := none) rfl hs hcl hkind hnames (he _ fun t' u₁ u₂ u₃ => ?_)
  have hz : h.objs.size = z := S.size
  have S1 := S.ext (Ext.push h (Rng a (a + n) u₁ u₂ u₃)) (z' := z + 1) (by rw [Heap.size_push, hz])
  refine compG (env := env) (px := px) J hh S1 (r := h.objs.size) (Heap.get?_push_size _ rfl) (rng_small h0 h1 h2) (rng_n _ _) h2 (hpre := hpre) j0 hlen ?_ ?_
  · intro k vs mC pre cs z' h t t₀ E' hk j S
    exact wpAny_assign_Name (turn k vs mC pre cs z' h t t₀ E' hk j S)
  · intro vs mC pre cs z' h t j S
    obtain ⟨o, q1, es, ep, q2⟩ := S.get (List.mem_cons_self ..)
    exact ⟨mC, ⟨o, es, ep, q1, q2⟩, fun h'' hs => done vs mC pre cs z' h'' t j (S.but hs)⟩
theorem compU {y : Str} {py spos : Pos} {Q : Flow → Shared → Prop} (J : Nat → List Value → MT → List Own → List Own → Nat → Prop) (hh : A.handled = none)
    (S : Sta g env.locals m cs z h) (he : EvR w A E env gs d os iter h t a (a + n)) (h0 : 0 ≤ a) (h1 : a ≤ 100000) (h2 : n ≤ 1000) (hcl : closureFor scope env = pure cl)
    (hpre : ∀ cs, ownCells (z + 4) scope.names cs = pre₀ ++ cs)
    (j0 : J 0 [] (fun _ => none) pre₀ cs (z + 4 + nCells scope.names))
    (hlen : ∀ k vs mC pre cs z, J k vs mC pre cs z → vs.length ≤ k)
    (turn : ∀ (k : Nat) (vs : List Value) (mC : MT) (pre cs : List Own) (z' : Nat) (h : Heap) (t : Nat) (t₀ : Tok) (E' : Value → Shared → Prop), k < n → J k vs mC pre cs z' →
      Sta g (z + 3) mC (pre ++ (mid3 env.locals m z a n k vs ++ cs)) z' h →
      wpAny (model PG w) A (storeName (blockEnv scope cl (z + 3) env) x (.int (a + k) t₀)) (fun _ s₂ =>
        wpAny (model PG w) A (forIn ifs true fun c r => if r = true then do let ok ← isTrue c (blockEnv scope cl (z + 3) env) (eval c (blockEnv scope cl (z + 3) env)); pure (ForInStep.yield ok) else pure (ForInStep.yield r)) (fun ok s₃ =>
          if ok = true then wpAny (model PG w) A (eval elt (blockEnv scope cl (z + 3) env)) (fun v s₄ =>
            CompEnd g (z + 3) gs d os (mid3 env.locals m z a n k vs) (J (k + 1) (vs ++ [v])) s₄) E' s₃
          else CompEnd g (z + 3) gs d os (mid3 env.locals m z a n k vs) (J (k + 1) vs) s₃) E' s₂) E' ⟨h, gs, d, t, os⟩)
    (done : ∀ (vs : List Value) (mC : MT) (pre cs : List Own) (z' : Nat) (h : Heap) (t : Nat), J n vs mC pre cs z' → Sta g env.locals (upd m y (.ref (z + 2))) ((z + 2, ListP vs) :: cs) (z' + 2) h → Q .next ⟨h, gs, d, t, os⟩)
    (hsw : swapsWith (.ListComp elt [⟨.Name x px, iter, ifs, 0⟩] scope pos) (some (.Name y py)) spos.line env = pure true := by rfl) (hy : env.kindOf y = some .local := by rfl) (hp : (env.scope.kind == .class || (env.scope.kind == .module && env.locals != env.globals)) = false := by rfl)
    (hs : ∀ x, foldedSetIterable iter env x = pure x := by intro _; rfl) (hkind : scope.kind = .function := by rfl) (hnames : ∀ y ∈ scope.names, y.2 = .local → scope.names.lookup y.1 = some .local := by decide) :
    wpAny (model PG w) A (exec (.Assign [.Name y py] (.ListComp elt [⟨.Name x px, iter, ifs, 0⟩] scope pos) spos) env) Q E ⟨h, gs, d, t, os⟩ := by
  rw [exec_Assign_Name_used _ _ _ _ hsw]
  refine wpAny_bind (wpAny_standAt (wpAny_bind ?_))
  show wpAny _ A (do let _ ← comprehension (.ListComp elt [⟨.Name x px, iter, ifs, 0⟩] scope pos) scope env _ (newList []) false (eval iter env) (some (assign (.Name y py) env))) _ _ _
  refine wpAny_bind (wpAny_mono (wpAny_comprehension_free (use := some (assign (.Name y py) env)) (Q := fun _ s' => Q .next s') rfl hs hcl hkind hnames (he _ fun t' u₁ u₂ u₃ => ?_)) (fun _ s' hq => wpAny_pure (wpAny_pure hq)) fun _ _ e => e)
  have hz : h.objs.size = z := S.size
  have S1 := S.ext (Ext.push h (Rng a (a + n) u₁ u₂ u₃)) (z' := z + 1) (by rw [Heap.size_push, hz])
  refine compG (env := env) (px := px) J hh S1 (r := h.objs.size) (Heap.get?_push_size _ rfl) (rng_small h0 h1 h2) (rng_n _ _) h2 (hpre := hpre) j0 hlen ?_ ?_
  · intro k vs mC pre cs z' h t t₀ E' hk j S
    exact wpAny_assign_Name (turn k vs mC pre cs z' h t t₀ E' hk j S)
  · intro vs mC pre cs z' h t j S
    refine wpAny_assign_Name (stL S (fun h₂ S₂ => ?_) hy hp)
    obtain ⟨o, q1, es, ep, q2⟩ := S₂.get (List.mem_cons_self ..)
    exact ⟨mC, ⟨o, es, ep, q1, q2⟩, fun h'' hs => done vs mC pre cs z' h'' _ j (S₂.but hs)⟩
end
end Mine
open PySem PySem.W PySem.W.X PyProof.Rows
set_option Elab.async false
set_option maxRecDepth 100000
namespace Mine
theorem upd_eq {m : MT} {x : Str} {v : Value} : upd m x v x = some v := if_pos rfl
theorem upd_ne {m : MT} {x y : Str} {v : Value} {r : Option Value} (e : m y = r) (h : y ≠ x := by decide) : upd m x v y = r := (if_neg h).trans e
theorem fdiv_pow_nn {a : Int} {n : Nat} (h : 0 ≤ a) : 0 ≤ a.fdiv (2 ^ n) := Int.fdiv_nonneg h (by have : (0 : Int) < 2 ^ n := Int.pow_pos (by decide); omega)
theorem bit_one {a : Int} (h : 0 ≤ a) : Builtin.bitAnd a 1 = 0 ∨ Builtin.bitAnd a 1 = 1 := by
  rw [bitAnd_pp h (by decide)]
  have : a.toNat &&& (1 : Int).toNat = a.toNat % 2 := Nat.and_one_is_mod _
  rw [this]
  omega
theorem fmod_range {a b : Int} (h : 0 < b) : 0 ≤ a.fmod b ∧ a.fmod b < b := ⟨Int.fmod_nonneg_of_pos a h, Int.fmod_lt_of_pos a h⟩
def upT (tb : Nat → Nat → Int) (a b : Nat) (s : Int) : Nat → Nat → Int := fun x y => if x = a ∧ y = b then s else tb x y
theorem Ent.set {vals : List (List Value)} {n a b : Nat} {tb : Nat → Nat → Int} {vs : List Value} {s : Int} {tk : Tok} (x : Ent vals n tb) (ha : a < n) (hb : b < n) (e : vals[a]? = some vs) : Ent (vals.set a (vs.set b (.int s tk))) n (upT tb a b s) := by
  refine ⟨by rw [List.length_set]; exact x.1, fun a' ha' => ?_⟩
  obtain ⟨vs', h1, h2, h3⟩ := x.2 a' ha'
  by_cases haa : a' = a
  · subst haa
    rw [e] at h1; cases h1
    refine ⟨vs.set b (.int s tk), by rw [List.getElem?_set_self (by rw [x.1]; exact ha)], by rw [List.length_set]; exact h2, fun b' hb' => ?_⟩
    by_cases hbb : b' = b
    · subst hbb
      exact ⟨tk, by rw [List.getElem?_set_self (by rw [h2]; exact hb)]; simp [upT]⟩
    · obtain ⟨tk', h4⟩ := h3 b' hb'
      exact ⟨tk', by rw [List.getElem?_set_ne (Ne.symm hbb), h4]; simp [upT, hbb]⟩
  · refine ⟨vs', by rw [List.getElem?_set_ne (Ne.symm haa), h1], h2, fun b' hb' => ?_⟩
    obtain ⟨tk', h4⟩ := h3 b' hb'
    exact ⟨tk', by rw [h4]; simp [upT, haa]⟩
structure Part (n k j : Nat) (tb : Nat → Nat → Int) : Prop where
  diag : ∀ a, a < n → tb a a = 0
  anti : ∀ a b, a < n → b < n → tb b a = - tb a b
  sign : ∀ a b, a < b → b < n → (a < k ∨ (a = k ∧ b < k + 1 + j)) → tb a b = 1 ∨ tb a b = -1
theorem Part.zero (n : Nat) : Part n 0 0 fun _ _ => 0 := ⟨fun _ _ => rfl, fun _ _ _ _ => rfl, fun a b h1 h2 h3 => by omega⟩
theorem Part.next {n k : Nat} {tb : Nat → Nat → Int} (h : Part n k (n - (k + 1)) tb) : Part n (k + 1) 0 tb :=
  ⟨h.diag, h.anti, fun a b h1 h2 h3 => h.sign a b h1 h2 (by omega)⟩
theorem Part.step {n k j : Nat} {tb : Nat → Nat → Int} {s : Int} (h : Part n k j tb) (hb : k + 1 + j < n) (hs : s = 1 ∨ s = -1) : Part n k (j + 1) (upT (upT tb k (k + 1 + j) s) (k + 1 + j) k (-s)) := by
  refine ⟨fun a ha => ?_, fun a b ha hb' => ?_, fun a b h1 h2 h3 => ?_⟩
  · have := h.diag a ha
    simp only [upT]
    rw [if_neg (by omega), if_neg (by omega)]; exact this
  · have := h.anti a b ha hb'
    simp only [upT]
    by_cases c1 : a = k ∧ b = k + 1 + j
    · rw [if_pos (by omega), if_neg (by omega), if_pos c1]
    · by_cases c2 : a = k + 1 + j ∧ b = k
      · rw [if_neg (by omega), if_pos (by omega), if_pos c2]; omega
      · rw [if_neg (by omega), if_neg (by omega), if_neg (by omega), if_neg (by omega)]; exact this
  · simp only [upT]
    rw [if_neg (by omega)]
    by_cases c1 : a = k ∧ b = k + 1 + j
    · rw [if_pos c1]; exact hs
    · rw [if_neg c1]; exact h.sign a b h1 h2 (by omega)
/-- a tournament's table -/
structure Tourn (n : Nat) (tb : Nat → Nat → Int) : Prop where
  diag : ∀ a, a < n → tb a a = 0
  anti : ∀ a b, a < n → b < n → tb b a = - tb a b
  sign : ∀ a b, a < n → b < n → a ≠ b → tb a b = 1 ∨ tb a b = -1
theorem Part.tourn {n j : Nat} {tb : Nat → Nat → Int} (h : Part n n j tb) : Tourn n tb :=
  ⟨h.diag, h.anti, fun a b ha hb hab => by
    rcases Nat.lt_or_gt_of_ne hab with q | q
    · exact h.sign a b q hb (by omega)
    · have h1 := h.sign b a q ha (by omega)
      have h2 := h.anti b a hb ha
      omega⟩
def rowsOwn (rs : List Addr) (vals : List (List Value)) : List Own := List.zipWith (fun r vs => (r, ListP vs)) rs vals
theorem rowsOwn_at {rs : List Addr} {vals : List (List Value)} {a : Nat} {r : Addr} {vs : List Value} {cs : List Own} (h1 : rs[a]? = some r) (h2 : vals[a]? = some vs) : (rowsOwn rs vals ++ cs)[a]? = some (r, ListP vs) := by
  have q : (rowsOwn rs vals)[a]? = some (r, ListP vs) := by simp [rowsOwn, List.getElem?_zipWith, h1, h2]
  rw [List.getElem?_append_left (List.getElem?_eq_some_iff.mp q).1]; exact q
theorem rowsOwn_set {rs : List Addr} {vals : List (List Value)} {a : Nat} {r : Addr} {vs vs' : List Value} {cs : List Own} (h1 : rs[a]? = some r) (h2 : vals[a]? = some vs) : (rowsOwn rs vals ++ cs).set a (r, ListP vs') = rowsOwn rs (vals.set a vs') ++ cs := by
  have q : (rowsOwn rs vals)[a]? = some (r, ListP vs) := by simp [rowsOwn, List.getElem?_zipWith, h1, h2]
  rw [List.set_append_left _ _ (List.getElem?_eq_some_iff.mp q).1]
  congr 1
  apply List.ext_getElem?
  intro i
  by_cases hi : a = i
  · subst hi
    rw [List.getElem?_set_self (List.getElem?_eq_some_iff.mp q).1]
    simp [rowsOwn, List.getElem?_zipWith, h1, List.getElem?_set_self (List.getElem?_eq_some_iff.mp h2).1]
  · rw [List.getElem?_set_ne hi]
    simp [rowsOwn, List.getElem?_zipWith, List.getElem?_set_ne hi]
end Mine
open PySem PySem.W PySem.W.X PyProof.Rows
set_option Elab.async false
set_option maxRecDepth 100000
set_option maxHeartbeats 4000000
namespace Mine
section
variable {w : World} {A : Around} {E : Value → Shared → Prop} {h : Heap} {gs : Array GenState} {d : Drawn} {t : Nat} {os : OsState}
/-- for x in a list of the ground, the whole statement -/
theorem forList {x : Str} {px pos : Pos} {body : List Stmt} {iter : Expr} {env : Env} {g : Heap} {m : MT} {cs : List Own} {z : Nat} {l : Addr} {vs : List Value} {Q : Flow → Shared → Prop} (J : Nat → MT → List Own → Nat → Prop) (hh : A.handled = none)
    (S : Sta g env.locals m cs z h) (he : ∀ Q' : Value → Shared → Prop, (∀ t', Q' (.ref l) ⟨h, gs, d, t', os⟩) → wpAny (model PG w) A (eval iter env) Q' E ⟨h, gs, d, t, os⟩) (hl : g.IsList l vs.toArray) (j0 : J 0 m cs (z + 1))
    (turn : ∀ (k : Nat) (v : Value) (m : MT) (cs : List Own) (z : Nat) (h : Heap) (t : Nat) (I : Own) (E' : Value → Shared → Prop), vs[k]? = some v → J k m cs z → Sta g env.locals m (I :: cs) z h →
      wpAny (model PG w) A (storeName env x v) (fun _ s₂ => wpAny (model PG w) A (execs body env)
        (ForEnd g env.locals I gs d os (J (k + 1)) (fun r s' => match r with | .ok f => Q f s' | .error e => cameBackBy (model PG w) A env E e s')) E' s₂) E' ⟨h, gs, d, t, os⟩)
    (done : ∀ (m : MT) (cs : List Own) (z : Nat) (h : Heap) (t : Nat), J vs.length m cs z → Sta g env.locals m cs (z + 2) h → Q .next ⟨h, gs, d, t, os⟩)
    (hf : ∀ x, foldedSetIterable iter env x = pure x := by intro _; rfl) :
    wpAny (model PG w) A (exec (.For (.Name x px) iter body [] pos) env) Q E ⟨h, gs, d, t, os⟩ := by
  refine wpAny_For (he _ fun t' => ?_) hf
  refine wpAny_pyIter_list (s := ⟨_, gs, d, t', os⟩) (hl.at fun o e => S.keep _ o e) ?_
  have S2 := S.push { cls := .type "list_iterator", data := .fields #[.ref l, .int 0 0] } (LIter l 0) ⟨rfl, rfl⟩
  have hz : h.objs.size = z := S.size
  dsimp only
  rw [hz]
  refine forL J hh hl S2 j0 ?_ done
  intro k v m cs z h t E' hk j S
  exact wpAny_assign_Name (turn k v m cs z h t _ E' hk j S)
theorem ldCo {env : Env} {x : Str} {pos : Pos} {v : Value} {c : Addr} {o : Obj} {Q : Value → Shared → Prop} (ho : h.get? c = some o) (hd' : o.data = .cell (some v)) (k : Q v ⟨h, gs, d, t, os⟩)
    (hc : env.cells.lookup x = some c := by rfl) (hk : env.scope.kind = .function := by rfl) (hl : env.kindOf x = some .cell := by rfl) (hd : (x == ("__debug__" : Str)) = false := by decide) :
    wpAny (model PG w) A (eval (.Name x pos) env) Q E ⟨h, gs, d, t, os⟩ := wpAny_Name (wpAny_loadName_cell hk hl hc ⟨o, ho, hd'⟩ k) hd
abbrev EvI (w : World) (A : Around) (E : Value → Shared → Prop) (env : Env) (gs : Array GenState) (d : Drawn) (os : OsState) (e : Expr) (h : Heap) (n : Int) : Prop :=
  ∀ (t : Nat) (Q' : Value → Shared → Prop), (∀ t' tk, Q' (.int n tk) ⟨h, gs, d, t', os⟩) → wpAny (model PG w) A (eval e env) Q' E ⟨h, gs, d, t, os⟩
theorem evr1 {env : Env} {e : Expr} {p pos : Pos} {n : Nat} (X : (KB w.params).In h) (he : EvI w A E env gs d os e h n) (hg : env.globals = mainGlobals := by rfl) (hb : env.builtins = builtinsNs := by rfl) (hk : env.scope.kind = .function := by rfl) (hl : env.kindOf (Str.ofString "range") = some .globalImplicit := by rfl) (hs : ∀ r, starEach (e :: r) env = (false, eval e env) :: starEach r env := by intro _; rfl) :
    EvR w A E env gs d os (.Call (.Name (Str.ofString "range") p) [e] [] pos) h t 0 (0 + n) := by
  intro Q' k
  refine range_1e X (he _ _ fun t' tk => call_range_1 ?_) hg hb hk hl hs
  have := k (t' + 1 + 1) t' tk (t' + 1)
  rw [show (0 : Int) + (n : Int) = n from by omega] at this
  exact this
theorem evr2 {env : Env} {e e' : Expr} {p pos : Pos} {a : Int} {n : Nat} (X : (KB w.params).In h) (he : EvI w A E env gs d os e h a) (he' : EvI w A E env gs d os e' h (a + n)) (hg : env.globals = mainGlobals := by rfl) (hb : env.builtins = builtinsNs := by rfl) (hk : env.scope.kind = .function := by rfl) (hl : env.kindOf (Str.ofString "range") = some .globalImplicit := by rfl) (hs : ∀ r, starEach (e :: r) env = (false, eval e env) :: starEach r env := by intro _; rfl) (hs' : ∀ r, starEach (e' :: r) env = (false, eval e' env) :: starEach r env := by intro _; rfl) :
    EvR w A E env gs d os (.Call (.Name (Str.ofString "range") p) [e, e'] [] pos) h t a (a + n) := by
  intro Q' k
  refine range_2e X (he _ _ fun t' tk => he' _ _ fun t'' tk' => call_range_2 ?_) hg hb hk hl hs hs'
  exact k (t'' + 1) tk tk' t''
/-- rows made by a comprehension -/
def JRows (v : Tok → Value) (n : Nat) (bs : List Own) (zz : Nat) (k : Nat) (vs : List Value) (_ : MT) (pre cs : List Own) (z' : Nat) : Prop :=
  ∃ (rs : List Addr) (vals : List (List Value)), rs.length = k ∧ vals.length = k ∧ (∀ a, a < k → ∃ tk, vals[a]? = some (List.replicate n (v tk))) ∧ vs = rs.map Value.ref ∧ pre = [] ∧ cs = rowsOwn rs vals ++ bs ∧ z' = zz + 2 * k
theorem JRows.zero {v : Tok → Value} {n : Nat} {bs : List Own} {zz : Nat} {mC : MT} : JRows v n bs zz 0 [] mC [] bs zz := ⟨[], [], rfl, rfl, fun _ h => absurd h (Nat.not_lt_zero _), rfl, rfl, rfl, rfl⟩
theorem JRows.len {v : Tok → Value} {n : Nat} {bs : List Own} {zz k : Nat} {vs : List Value} {mC : MT} {pre cs : List Own} {z' : Nat} (j : JRows v n bs zz k vs mC pre cs z') : vs.length ≤ k := by
  obtain ⟨rs, vals, h1, h2, h3, rfl, _⟩ := j; simp [h1]
theorem JRows.step {v : Tok → Value} {n : Nat} {bs mid : List Own} {zz k r C : Nat} {tk : Tok} {vs : List Value} {g : Heap} {mC mC' : MT} {pre cs : List Own} {z' : Nat} (j : JRows v n bs zz k vs mC pre cs z') (S : Sta g C mC' ((r, ListP (List.replicate n (v tk))) :: (pre ++ (mid ++ cs))) (z' + 2) h) :
    CompEnd g C gs d os mid (JRows v n bs zz (k + 1) (vs ++ [.ref r])) ⟨h, gs, d, t, os⟩ := by
  obtain ⟨rs, vals, h1, h2, h3, rfl, rfl, rfl, rfl⟩ := j
  refine ⟨mC', [], rowsOwn (rs ++ [r]) (vals ++ [List.replicate n (v tk)]) ++ bs, _, h, t, rfl, S.perm ?_, rs ++ [r], vals ++ [List.replicate n (v tk)], by simp [h1], by simp [h2], fun a ha => ?_, by simp, rfl, rfl, by omega⟩
  · have e : rowsOwn (rs ++ [r]) (vals ++ [List.replicate n (v tk)]) = rowsOwn rs vals ++ [(r, ListP (List.replicate n (v tk)))] := by
      unfold rowsOwn; rw [List.zipWith_append (by rw [h1, h2])]; rfl
    rw [e, List.nil_append, List.nil_append, List.append_assoc, List.singleton_append, ← List.append_assoc, ← List.append_assoc]
    exact List.perm_middle
  · by_cases hk : a < k
    · obtain ⟨tk', e⟩ := h3 a hk
      exact ⟨tk', by rw [List.getElem?_append_left (by omega)]; exact e⟩
    · exact ⟨tk, by rw [List.getElem?_append_right (by omega), show a - vals.length = 0 from by omega]; rfl⟩
/-- word >= 0 -/
def JW (z n : Nat) (tn : Tok) (zz : Nat) (_ : Nat) (m : MT) (cs : List Own) (z' : Nat) : Prop := z' = zz ∧ (∃ W tw, m (Str.ofString "word") = some (.int W tw) ∧ 0 ≤ W ∧ W < 2097152) ∧ cs = [(z + 1, CellP (some (.int n tn)))]
/-- the table under way -/
def TI (n : Nat) (T c : Addr) (tn : Tok) (W : Int) (zz k j : Nat) (m : MT) (cs : List Own) (z' : Nat) : Prop :=
  z' = zz ∧ (∃ tw, m (Str.ofString "word") = some (.int W tw)) ∧ m (Str.ofString "table") = some (.ref T) ∧ (∃ p tp, m (Str.ofString "place") = some (.int p tp) ∧ 0 ≤ p) ∧
  ∃ (rs : List Addr) (vals : List (List Value)) (tb : Nat → Nat → Int), rs.length = n ∧ Ent vals n tb ∧ Part n k j tb ∧ cs = rowsOwn rs vals ++ [(T, ListP (rs.map Value.ref)), (c, CellP (some (.int n tn)))]
def TJ (n : Nat) (T c : Addr) (tn : Tok) (W : Int) (zz k : Nat) (I : Own) (j : Nat) (m : MT) (cs : List Own) (z' : Nat) : Prop :=
  ∃ cs', cs = I :: cs' ∧ TI n T c tn W zz k j m cs' z' ∧ ∃ ta, m (Str.ofString "a") = some (.int k ta)
abbrev tEnv (z : Nat) : Env := fnEnv (fdFn "_law_table" 6 207 46) z 47
theorem fill_turn {R : Result → Shared → Prop} {g : Heap} {z₀ n k j : Nat} {T c : Addr} {tn t₁ : Tok} {W : Int} {zz : Nat} {I I' : Own} {m : MT} {cs : List Own} {z' : Nat} (hn : n ≤ 100) (hk : k < n) (hj : j < n - (k + 1)) (hW0 : 0 ≤ W)
    (J : TJ n T c tn W zz k I j m cs z') (S10 : Sta g z₀ m (I' :: cs) z' h) :
    wpAny (model PG w) A (storeName (tEnv z₀) (Str.ofString "b") (.int ((k : Int) + 1 + j) t₁)) (fun _ s₂ => wpAny (model PG w) A (execs (sBody (nth (sBody (nth (sBody (top 6)) 4)) 0)) (tEnv z₀))
      (ForEnd g z₀ I' gs d os (TJ n T c tn W zz k I (j + 1)) R) E s₂) E ⟨h, gs, d, t, os⟩ := by
  obtain ⟨cs', rfl, ⟨rfl, ⟨tw'', hW''⟩, hT', ⟨p', tp', hp', hp0'⟩, rs', vals', tb', r1', r2', r3', rfl⟩, ta, hA⟩ := J
  have hb : k + 1 + j < n := by omega
  rw [show (k : Int) + 1 + (j : Int) = ((k + 1 + j : Nat) : Int) from by omega]
  refine stL S10 fun h11 S11 => ?_
  refine wpAny_execs_cons <| wpAny_Assign_Name <| wpAny_BinOp <| wpAny_Constant_int <| wpAny_BinOp <| wpAny_Constant_int <| wpAny_BinOp <| wpAny_BinOp <| ldL S11 (upd_ne hW'') <| ldL S11 (upd_ne hp') <| rshift_int hp0' <| wpAny_Constant_int <| and_int <| mul_int <| sub_int <| stL S11 fun h12 S12 => ?_
  have hbit := bit_one (fdiv_pow_nn (n := p'.toNat) hW0)
  have hsg : (1 : Int) - 2 * Builtin.bitAnd (W.fdiv (2 ^ p'.toNat)) 1 = 1 ∨ (1 : Int) - 2 * Builtin.bitAnd (W.fdiv (2 ^ p'.toNat)) 1 = -1 := by omega
  obtain ⟨vs, e1, e2, e3⟩ := r2'.2 k hk
  have q1 : rs'[k]? = some rs'[k] := by simp [r1', hk]
  refine wpAny_execs_cons <| wpAny_Assign_Subscript <| ldL S12 upd_eq <| Subscript_ <| ldL S12 (upd_ne (upd_ne hT')) <| ldL S12 (upd_ne (upd_ne hA)) <| item (x := .ref rs'[k]) (S12.get (.tail _ (.tail _ (List.mem_append_right _ (.head _))))) (by omega) (by omega) (by simp [r1', hk]) ?_
  refine ldL S12 (upd_ne upd_eq) <| set_item (i := k + 2) S12 (vs := vs) (rowsOwn_at q1 e1) (by omega) (by omega) fun h13 S13 => ?_
  rw [List.set_cons_succ, List.set_cons_succ, rowsOwn_set q1 e1] at S13
  have r4 := r2'.set hk hb e1 (s := (1 : Int) - 2 * Builtin.bitAnd (W.fdiv (2 ^ p'.toNat)) 1) (tk := t + 1 + 1 + 1 + 1 + 1 + 1 + 1)
  obtain ⟨vs2, f1, f2, f3⟩ := r4.2 (k + 1 + j) hb
  have q2 : rs'[k + 1 + j]? = some rs'[k + 1 + j] := by simp [r1', hb]
  refine wpAny_execs_cons <| wpAny_Assign_Subscript <| UnaryOp_ <| ldL S13 upd_eq <| neg_int <| Subscript_ <| ldL S13 (upd_ne (upd_ne hT')) <| ldL S13 (upd_ne upd_eq) <| item (x := .ref rs'[k + 1 + j]) (S13.get (.tail _ (.tail _ (List.mem_append_right _ (.head _))))) (by omega) (by omega) (by rw [Int.toNat_natCast, List.getElem?_map, q2]; rfl) ?_
  refine ldL S13 (upd_ne (upd_ne hA)) <| set_item (i := k + 1 + j + 2) S13 (vs := vs2) (rowsOwn_at q2 f1) (by omega) (by omega) fun h14 S14 => ?_
  rw [List.set_cons_succ, List.set_cons_succ, rowsOwn_set q2 f1] at S14
  refine wpAny_execs_cons <| wpAny_Assign_Name <| wpAny_BinOp <| ldL S14 (upd_ne (upd_ne hp')) <| wpAny_Constant_int <| add_int <| stL S14 fun h15 S15 => wpAny_execs_nil ?_
  refine .next S15 ⟨_, rfl, ⟨rfl, ⟨_, upd_ne (upd_ne (upd_ne hW''))⟩, upd_ne (upd_ne (upd_ne hT')), ⟨_, _, upd_eq, by omega⟩, rs', _, _, r1', r4.set hb hk f1, r3'.step hb hsg, rfl⟩, ta, upd_ne (upd_ne (upd_ne hA))⟩
theorem table_call {sc : Addr} {ts tn : Tok} {xs : List Value} {n : Nat} {Q : Value → Shared → Prop} (hroom : A.depth < recursionLimit) (hh : A.handled = none) (X : (KB w.params).In h) (hsc : h.IsList sc xs.toArray) (hx : ∀ v ∈ xs, ∃ i tk, v = .int i tk) (hn : n ≤ 100)
    (q : ∀ h' T tb t', Ext h h' → h'.objs.size = h.objs.size + 6 * n + 15 → (∀ h'', (∀ b o, h.get? b = none → h'.get? b = some o → h''.get? b = some o) → IsTab h'' T n tb) → Tourn n tb → Q (.ref T) ⟨h', gs, d, t', os⟩) :
    wpAny (model PG w) A (call (.ref 47) [.ref sc, .int n tn]) Q E ⟨h, gs, d, t, os⟩ := by
  refine wpAny_call (call_fn (o := oFn "_law_table" 6 207 46) (binds := [(Str.ofString "script", .ref sc), (Str.ofString "n", .int n tn)]) hroom (X _ _ (fn_table _)) rfl rfl (cd_table X) ?_ fun h' S => ?_)
  · with_unfolding_all rfl
  refine stL S fun h1 S1 => stC (i := 0) S1 (by rfl) fun h2 S2 => ⟨nolimit_of (X.keeps S2.keep), ?_⟩
  refine wpAny_execs_cons (wpAny_Assign_Name (wpAny_Constant_int (stL S2 fun h3 S3 => ?_)))
  refine wpAny_execs_cons ?_
  refine forList (JW h.objs.size n tn (h.objs.size + 1 + 1 + 1)) hh S3 (fun Q' k => ldL S3 (v := .ref sc) (by rfl) (k _)) hsc ⟨rfl, ⟨_, _, upd_eq, by decide, by decide⟩, rfl⟩ ?_ ?_
  · rintro k v m cs z' h4 t4 I E' hv ⟨rfl, ⟨W, tw, hW, hW0, hW1⟩, rfl⟩ S4
    obtain ⟨i, ti, rfl⟩ := hx v (List.mem_of_getElem? hv)
    refine stL S4 fun h5 S5 => ?_
    refine wpAny_execs_cons (wpAny_Assign_Name (wpAny_BinOp (wpAny_BinOp (wpAny_BinOp (wpAny_BinOp (ldL S5 (upd_ne hW) (wpAny_Constant_int (mul_int ?_)))))))) 
    refine ldL S5 upd_eq (add_int (wpAny_Constant_int (add_int (wpAny_Constant_int (mod_int' (by decide) (stL S5 fun h6 S6 => wpAny_execs_nil ?_))))))
    exact .next S6 ⟨rfl, ⟨_, _, upd_eq, (fmod_range (by decide)).1, (fmod_range (by decide)).2⟩, rfl⟩
  rintro m cs z' h4 t4 ⟨rfl, ⟨W, tw, hW, hW0, hW1⟩, rfl⟩ S4
  refine wpAny_execs_cons ?_
  refine compU (cl := [(Str.ofString "n", h.objs.size + 1)]) (pre₀ := []) (a := 0) (n := n) (JRows (fun tk => .int 0 tk) n [(h.objs.size + 1, CellP (some (.int n tn)))] (h.objs.size + 9)) hh S4 (evr1 (X.keeps S4.keep) fun t Q' k => ldC S4 (List.mem_singleton.mpr rfl) (k _ _)) (by decide) (by decide) (by omega) (by with_unfolding_all rfl) (fun _ => rfl) JRows.zero (fun _ _ _ _ _ _ j => j.len) ?_ ?_
  · intro k vs mC pre cs z' h5 t5 t₀ E' hk j S5
    refine stL S5 fun h6 S6 => tests_nil ?_
    rw [if_pos rfl]
    obtain ⟨o, ho, hd⟩ := S6.get (a := h.objs.size + 1) (P := CellP (some (.int n tn))) (by obtain ⟨rs, vals, _, _, _, _, rfl, rfl, _⟩ := j; simp)
    refine list1_mul (n := n) S6 (by omega) (fun Q' k => wpAny_Constant_int (k _)) (fun h' t Q' e k => ldCo (e _ _ ho) hd (k _ _)) fun h7 t7 S7 => ?_
    exact j.step (v := fun tk => .int 0 tk) S7
  rintro vs mC pre cs z' h5 t5 ⟨rs, vals, l1, l2, l3, rfl, rfl, rfl, rfl⟩ S5
  have S6 := S5.perm (cs' := rowsOwn rs vals ++ [(h.objs.size + 1 + 1 + 1 + 2 + 2, ListP (rs.map Value.ref)), (h.objs.size + 1, CellP (some (.int n tn)))]) List.perm_middle
  refine wpAny_execs_cons (wpAny_Assign_Name (wpAny_Constant_int (stL S6 fun h7 S7 => wpAny_execs_cons ?_)))
  refine forRange (a := 0) (n := n) (fun k m cs z' => TI n (h.objs.size + 1 + 1 + 1 + 2 + 2) (h.objs.size + 1) tn W (h.objs.size + 13 + 2 * n + 4 * k) k 0 m cs z') hh S7 (evr1 (X.keeps S7.keep) fun t Q' k => ldC S7 (List.mem_append_right _ (.tail _ (.head _))) (k _ _)) (by decide) (by decide) (by omega) ⟨by omega, ⟨tw, upd_ne (upd_ne hW)⟩, upd_ne upd_eq, ⟨0, _, upd_eq, by decide⟩, rs, vals, fun _ _ => 0, l1, ⟨l2, fun a ha => ?_⟩, .zero n, rfl⟩ ?_ ?_
  · obtain ⟨tk, e⟩ := l3 a ha
    exact ⟨_, e, List.length_replicate .., fun b hb => ⟨tk, by rw [List.getElem?_replicate, if_pos hb]⟩⟩
  · rintro k m cs z' h8 t8 t₀ I E' hk ⟨rfl, ⟨tw', hW'⟩, hT, ⟨p, tp, hp, hp0⟩, rs, vals, tb, r1, r2, r3, rfl⟩ S8
    refine stL S8 fun h9 S9 => wpAny_execs_cons ?_
    refine forRange (a := (k : Int) + 1) (n := n - (k + 1)) (fun j m cs z' => TJ n (h.objs.size + 1 + 1 + 1 + 2 + 2) (h.objs.size + 1) tn W (h.objs.size + 13 + 2 * n + 4 * k + 2) k I j m cs z') hh S9 (evr2 (X.keeps S9.keep)
        (fun t Q' q => wpAny_BinOp (ldL S9 upd_eq (wpAny_Constant_int (add_int ?_)))) (fun t Q' q => ldC S9 (v := .int n tn) (.tail _ (List.mem_append_right _ (.tail _ (.head _)))) ?_)) (by omega) (by omega) (by omega)
        ⟨_, rfl, ⟨rfl, ⟨_, upd_ne hW'⟩, upd_ne hT, ⟨_, _, upd_ne hp, hp0⟩, rs, vals, tb, r1, r2, r3, rfl⟩, t₀, ?_⟩ ?_ ?_
    · rw [show (0 : Int) + (k : Int) + 1 = (k : Int) + 1 from by omega]; exact q _ _
    · rw [show ((n : Nat) : Int) = (k : Int) + 1 + ((n - (k + 1) : Nat) : Int) from by omega]; exact q _ _
    · rw [upd_eq, show (0 : Int) + (k : Int) = k from by omega]
    · exact fun j m cs z' h10 t10 t₁ I' E'' hj J S10 => fill_turn hn hk hj hW0 J S10
    · rintro m cs z' h10 t10 ⟨cs', rfl, ⟨rfl, e2, e3, e4, rs, vals, tb, r1, r2, r3, rfl⟩, _⟩ S10
      exact wpAny_execs_nil (.next S10 ⟨by omega, e2, e3, e4, rs, vals, tb, r1, r2, r3.next, rfl⟩)
  · rintro m cs z' h8 t8 ⟨rfl, ⟨tw', hW'⟩, hT, ⟨p, tp, hp, hp0⟩, rs, vals, tb, r1, r2, r3, rfl⟩ S8
    refine wpAny_execs_cons (wpAny_Return_some (ldL S8 hT ?_))
    have new : ∀ (h'' : Heap), (∀ b o, h.get? b = none → h8.get? b = some o → h''.get? b = some o) → ∀ p ∈ (rowsOwn rs vals ++ [(h.objs.size + 1 + 1 + 1 + 2 + 2, ListP (rs.map Value.ref)), (h.objs.size + 1, CellP (some (.int n tn)))]), ∃ o, h''.get? p.1 = some o ∧ p.2 o := fun h'' kk p hp =>
      let ⟨o, a1, a2, a3, _⟩ := S8.own p hp
      ⟨o, kk _ _ a3 a1, a2⟩
    exact q h8 _ tb _ S8.keep (by rw [S8.size]; omega) (fun h'' kk => ⟨rs, vals, r1, r2, new h'' kk _ (List.mem_append_right _ (.head _)), fun a r vs e1 e2 => new h'' kk _ (List.mem_of_getElem? (rowsOwn_at e1 e2))⟩) r3.tourn
end
end Mine
open PySem PySem.W PySem.W.X PyProof.Rows
set_option Elab.async false
set_option maxRecDepth 100000
set_option maxHeartbeats 4000000
namespace Mine
theorem lookup_mem {K : Frag} {h : Heap} (all : ∀ p ∈ K, h.get? p.1 = some p.2) {x : Addr} {o : Obj} (hm : (x, o) ∈ K) : K.lookup x = some o := by
  have key : ∀ (l : Frag), (∀ p ∈ l, h.get? p.1 = some p.2) → (x, o) ∈ l → l.lookup x = some o := by
    intro l
    induction l with
    | nil => intro _ hm; cases hm
    | cons p r ih =>
      intro all hm
      obtain ⟨y, o'⟩ := p
      rw [List.lookup_cons]
      by_cases hxy : (x == y) = true
      · have e := all _ (List.mem_cons_self ..)
        have e2 := all _ hm
        rw [hxy]
        have : x = y := beq_iff_eq.mp hxy
        subst this
        dsimp only at e e2
        rw [e] at e2; exact e2
      · have : (x == y) = false := by simpa using hxy
        rw [this]
        rcases List.mem_cons.mp hm with q | q
        · cases q; simp at this
        · exact ih (fun p hp => all p (List.mem_cons_of_mem _ hp)) q
  exact key K all hm
theorem in_of_all {K : Frag} {h : Heap} (all : ∀ p ∈ K, h.get? p.1 = some p.2) : K.In h := by
  intro a o e
  have key : ∀ (l : Frag), l.lookup a = some o → (a, o) ∈ l := by
    intro l
    induction l with
    | nil => intro e; cases e
    | cons p r ih =>
      intro e
      obtain ⟨y, o'⟩ := p
      rw [List.lookup_cons] at e
      by_cases hxy : (a == y) = true
      · rw [hxy] at e
        have : a = y := beq_iff_eq.mp hxy
        cases e; subst this; exact List.mem_cons_self ..
      · have : (a == y) = false := by simpa using hxy
        rw [this] at e
        exact List.mem_cons_of_mem _ (ih e)
  exact all _ (key K e)
def oStat : Obj := { cls := .none, data := .dict #[] }
def oGt (a : KAdr) (t : KTok) : Obj := oMeth "__gt__" "cmp_to_key.<locals>.K.__gt__" mGt "mycmp" a.cl a.cg a.gt t.n6
def oEq (a : KAdr) (t : KTok) : Obj := oMeth "__eq__" "cmp_to_key.<locals>.K.__eq__" mEq "mycmp" a.cl a.ce a.eqt t.n6
/-- the class's own part of the heap -/
def KD (H : Nat → Int) (a : KAdr) (t : KTok) : Frag := [(a.C, oCls a t), (a.ns, oNs H a t), (a.ds, oDs a t), (a.fg, oGt a t), (a.fe, oEq a t), (2, oStat)]
abbrev All (K : Frag) (h : Heap) : Prop := ∀ p ∈ K, h.get? p.1 = some p.2
theorem kd_all {P : Params} {h : Heap} {a : KAdr} {t : KTok} {cf : Addr} (x : IsK h a t cf) (X : (KB P).In h) : ∃ H, All (KD H a t) h := by
  obtain ⟨H, e⟩ := x.ns
  have e2 : (KB P).lookup cStatics = some oStat := by kernel_rfl
  refine ⟨H, fun p hp => ?_⟩
  simp only [KD, List.mem_cons, List.not_mem_nil, or_false] at hp
  rcases hp with rfl | rfl | rfl | rfl | rfl | rfl
  · exact x.cls
  · exact e
  · exact x.ds
  · exact x.gt
  · exact x.eq
  · exact X _ _ e2
section
variable {H : Nat → Int} {a : KAdr} {t : KTok} {h : Heap}
theorem kC (k : All (KD H a t) h) : (KD H a t).lookup a.C = some (oCls a t) := lookup_mem k (by simp [KD])
theorem kN (k : All (KD H a t) h) : (KD H a t).lookup a.ns = some (oNs H a t) := lookup_mem k (by simp [KD])
theorem kDs (k : All (KD H a t) h) : (KD H a t).lookup a.ds = some (oDs a t) := lookup_mem k (by simp [KD])
theorem kG (k : All (KD H a t) h) : (KD H a t).lookup a.fg = some (oGt a t) := lookup_mem k (by simp [KD])
theorem kE (k : All (KD H a t) h) : (KD H a t).lookup a.fe = some (oEq a t) := lookup_mem k (by simp [KD])
theorem kS (k : All (KD H a t) h) : (KD H a t).lookup 2 = some oStat := lookup_mem k (by simp [KD])
theorem find_C (k : All (KD H a t) h) (name : Str) : findIn (KD H a t) (.ref a.C) name = match nsIn (KD H a t) a.ns name with
    | some (some v) => some (some v)
    | some none => alongIn (KD H a t) name [.type "object"]
    | none => none := by
  unfold findIn
  dsimp only
  rw [kC k]
  show alongIn _ name [.ref a.C, .type "object"] = _
  rw [alongIn]
  unfold ownIn
  dsimp only
  rw [kC k]
  rfl
theorem c_gt (k : All (KD H a t) h) : findIn (KD H a t) (.ref a.C) "__gt__" = some (some (.ref a.fg)) := by
  rw [find_C k]; unfold nsIn; rw [kN k]; kernel_rfl
theorem c_eq (k : All (KD H a t) h) : findIn (KD H a t) (.ref a.C) "__eq__" = some (some (.ref a.fe)) := by
  rw [find_C k]; unfold nsIn; rw [kN k]; kernel_rfl
theorem c_ne (k : All (KD H a t) h) : findIn (KD H a t) (.ref a.C) "__ne__" = some (some (.builtin "object.__ne__")) := by
  rw [find_C k]; unfold nsIn; rw [kN k]; kernel_rfl
theorem c_ga (k : All (KD H a t) h) : findIn (KD H a t) (.ref a.C) "__getattribute__" = some (some (.builtin "object.__getattribute__")) := by
  rw [find_C k]; unfold nsIn; rw [kN k]; kernel_rfl
theorem c_gx (k : All (KD H a t) h) : findIn (KD H a t) (.ref a.C) "__getattr__" = some none := by
  rw [find_C k]; unfold nsIn; rw [kN k]; kernel_rfl
theorem c_obj (k : All (KD H a t) h) : findIn (KD H a t) (.ref a.C) "obj" = some (some (.ref a.ds)) := by
  rw [find_C k]; unfold nsIn; rw [kN k]; kernel_rfl
theorem t_C (k : All (KD H a t) h) : typeIn (KD H a t) (.ref a.C) = some (.type "type") := by
  unfold typeIn; dsimp only; rw [kC k]; rfl
theorem t_ds (k : All (KD H a t) h) : typeIn (KD H a t) (.ref a.ds) = some (.type "member_descriptor") := by
  unfold typeIn; dsimp only; rw [kDs k]; rfl
theorem t_fg (k : All (KD H a t) h) : typeIn (KD H a t) (.ref a.fg) = some (.type "function") := by
  unfold typeIn; dsimp only; rw [kG k]; rfl
theorem t_fe (k : All (KD H a t) h) : typeIn (KD H a t) (.ref a.fe) = some (.type "function") := by
  unfold typeIn; dsimp only; rw [kE k]; rfl
theorem d_get (k : All (KD H a t) h) : specialIn (KD H a t) (.ref a.ds) "__get__" = some (some (.builtin "member_descriptor.__get__")) := by
  unfold specialIn; rw [t_ds k, Option.bind_some]; kernel_rfl
theorem d_set (k : All (KD H a t) h) : takesIn (KD H a t) (.ref a.ds) = some true := by
  unfold takesIn specialIn; rw [t_ds k, Option.bind_some]; kernel_rfl
theorem c_slot (k : All (KD H a t) h) : slotIn (KD H a t) a.ds a.C = some 0 := by
  unfold slotIn recIn clsIn
  rw [kDs k, kC k]
  simp [oDs, oCls]
end
end Mine
open PySem PySem.W PySem.W.X PyProof.Rows
set_option Elab.async false
set_option maxRecDepth 100000
set_option maxHeartbeats 4000000
namespace Mine
/-- x is a key of the class C over the int i -/
def IsInst (h : Heap) (x C : Addr) (i : Int) : Prop := ∃ dx tk od, h.get? x = some (oInst C dx i tk) ∧ h.get? dx = some od
theorem IsInst.ext {h h' : Heap} {x C : Addr} {i : Int} (I : IsInst h x C i) (k : Ext h h') : IsInst h' x C i := let ⟨dx, tk, od, a, b⟩ := I; ⟨dx, tk, od, k _ _ a, k _ _ b⟩
section
variable {w : World} {A : Around} {E : Value → Shared → Prop} {h : Heap} {gs : Array GenState} {d : Drawn} {t : Nat} {os : OsState} {ka : KAdr} {kt : KTok} {cf x y : Addr} {i j : Int}
theorem inst_at (I : IsInst h x ka.C i) : ∃ dx tk od, W.InstAt h x (oInst ka.C dx i tk) ka.C (some od) :=
  let ⟨dx, tk, od, a, b⟩ := I; ⟨dx, tk, od, ⟨a, rfl, rfl, b⟩⟩
theorem get_obj {expr : Bool} {Q : Value → Shared → Prop} {H : Nat → Int} (k : All (KD H ka kt) h) (I : IsInst h x ka.C i) (q : ∀ tk, Q (.int i tk) ⟨h, gs, d, t + 1, os⟩) :
    wpAny (model PG w) A (getAttr (.ref x) "obj" expr) Q E ⟨h, gs, d, t, os⟩ := by
  obtain ⟨dx, tk, od, I⟩ := inst_at I
  have X := in_of_all k
  refine get_bind (s := ⟨h, gs, d, t, os⟩) X I (c_ga k) (findObj_data (by unfold clsIn; rw [kC k]; rfl) (c_obj k) (d_get k) (d_set k)) (c_gx k) ?_
  exact wpAny_call (slot_get (s := ⟨h, gs, d, t + 1, os⟩) X I (c_slot k) (v := .int i tk) rfl (handed_on rfl (q tk)))
theorem cls_gt {expr : Bool} {Q : Value → Shared → Prop} {H : Nat → Int} (k : All (KD H ka kt) h) (q : Q (.ref ka.fg) ⟨h, gs, d, t + 1, os⟩) :
    wpAny (model PG w) A (getAttr (.ref ka.C) "__gt__" expr) Q E ⟨h, gs, d, t, os⟩ := by
  have X := in_of_all k
  refine cls_value (s := ⟨h, gs, d, t, os⟩) (mc := .type "type") (v := .ref ka.fg) X ?_ ?_ rfl q
  · unfold readsIn
    rw [t_C k]
    unfold nsIn
    rw [show cStatics = 2 from rfl, kS k]
    kernel_rfl
  · unfold findCls
    rw [show findIn (KD H ka kt) (.type "type") "__gt__" = some (some (.builtin "object.__gt__")) from by kernel_rfl, Option.bind_some]
    dsimp only
    rw [show specialIn (KD H ka kt) (.builtin "object.__gt__") "__get__" = some (some (.builtin "wrapper_descriptor.__get__")) from by kernel_rfl, Option.bind_some]
    dsimp only
    rw [show takesIn (KD H ka kt) (.builtin "object.__gt__") = some false from by kernel_rfl, Option.bind_some]
    dsimp only
    rw [c_gt k, Option.bind_some]
    dsimp only
    rw [if_neg (by intro e; cases e), t_fg k, Option.bind_some]
    kernel_rfl
theorem All.ext {K : Frag} {h h' : Heap} (a : All K h) (k : Ext h h') : All K h' := fun p hp => k _ _ (a p hp)
/-- the comparison over the table T -/
def IsCmpE (h : Heap) (cf T : Addr) : Prop := ∃ code cell ct x1 x2 x3 x4 x5 n6 t1 t2 t3 t4 t5, IsCmp h cf code cell ct x1 x2 x3 x4 x5 n6 t1 t2 t3 t4 t5 T
theorem IsCmpE.ext {h h' : Heap} {cf T : Addr} (x : IsCmpE h cf T) (k : Ext h h') : IsCmpE h' cf T := by
  obtain ⟨code, cell, ct, x1, x2, x3, x4, x5, n6, t1, t2, t3, t4, t5, F⟩ := x
  exact ⟨code, cell, ct, x1, x2, x3, x4, x5, n6, t1, t2, t3, t4, t5, F.keeps k⟩
/-- all that a comparison of keys stands on -/
structure Keyed (w : World) (h : Heap) (ka : KAdr) (kt : KTok) (cf T : Addr) (n : Nat) (tb : Nat → Nat → Int) : Prop where
  X : (KB w.params).In h
  K : IsK h ka kt cf
  F : IsCmpE h cf T
  T : IsTab h T n tb
  n : n ≤ 1000
theorem Keyed.ext {h' : Heap} {T : Addr} {n : Nat} {tb : Nat → Nat → Int} (k : Keyed w h ka kt cf T n tb) (e : Ext h h') : Keyed w h' ka kt cf T n tb := ⟨k.X.keeps e, k.K.keeps e, k.F.ext e, k.T.ext e, k.n⟩
theorem attr_obj {env : Env} {nm : Str} {p p' : Pos} {H : Nat → Int} {g : Heap} {m : MT} {cs : List Own} {z : Nat} {Q : Value → Shared → Prop} (S : Sta g env.locals m cs z h) (hv : m nm = some (.ref x)) (k : All (KD H ka kt) h) (I : IsInst h x ka.C i) (q : ∀ tk, Q (.int i tk) ⟨h, gs, d, t + 1, os⟩)
    (hk : env.scope.kind = .function := by rfl) (hl : env.kindOf nm = some .local := by rfl) (hd : (nm == ("__debug__" : Str)) = false := by decide) :
    wpAny (model PG w) A (eval (.Attribute (.Name nm p) (Str.ofString "obj") p') env) Q E ⟨h, gs, d, t, os⟩ :=
  Attribute_Name_ (ldL S hv (get_obj k I q) hk hl hd)
theorem gt_call {T : Addr} {n a b : Nat} {tb : Nat → Nat → Int} {Q : Value → Shared → Prop} (hroom : A.depth + 1 < recursionLimit) (k : Keyed w h ka kt cf T n tb) (ha : a < n) (hb : b < n) (Ix : IsInst h x ka.C a) (Iy : IsInst h y ka.C b)
    (q : ∀ h' t', Ext h h' → Q (.bool (decide (0 < tb a b))) ⟨h', gs, d, t', os⟩) : wpAny (model PG w) A (call (.ref ka.fg) [.ref x, .ref y]) Q E ⟨h, gs, d, t, os⟩ := by
  refine wpAny_call (call_fn (o := oGt ka kt) (binds := [(Str.ofString "self", .ref x), (Str.ofString "other", .ref y)]) (Nat.lt_of_succ_lt hroom) k.K.gt rfl rfl ⟨_, _, _, _, rfl, k.K.cg, rfl, rfl⟩ ?_ fun h' S => ?_)
  · with_unfolding_all rfl
  refine stL S fun h1 S1 => stL S1 fun h2 S2 => ?_
  have k2 := k.ext S2.keep
  obtain ⟨H, hall⟩ := kd_all k2.K k2.X
  obtain ⟨code, cell, ct, x1, x2, x3, x4, x5, n6, t1, t2, t3, t4, t5, F⟩ := k2.F
  refine ⟨nolimit_of k2.X, ?_⟩
  refine wpAny_execs_cons <| wpAny_Return_some <| wpAny_Compare1 <| Call_ <| ldF k2.K.cell rfl <| callWith_def (o := oMeth "compare" "_law_compare.<locals>.compare" dCmp "table" cell code ct n6) rfl <| args_cons <| attr_obj S2 (upd_ne upd_eq) hall (Ix.ext S2.keep) fun tk => args_cons <| attr_obj S2 upd_eq hall (Iy.ext S2.keep) fun tk' => args_nil ⟨F.fn, ?_⟩
  refine cmp_call hroom k2.X F k2.T k2.n ha hb fun h3 tk3 t3 e3 => wpAny_Constant_int <| PyProof.Rows.gt_int ?_
  exact q h3 _ (S2.keep.trans e3)
theorem eq_call {T : Addr} {n a b : Nat} {tb : Nat → Nat → Int} {Q : Value → Shared → Prop} (hroom : A.depth + 1 < recursionLimit) (k : Keyed w h ka kt cf T n tb) (ha : a < n) (hb : b < n) (Ix : IsInst h x ka.C a) (Iy : IsInst h y ka.C b)
    (q : ∀ h' t', Ext h h' → Q (.bool (tb a b == 0)) ⟨h', gs, d, t', os⟩) : wpAny (model PG w) A (call (.ref ka.fe) [.ref x, .ref y]) Q E ⟨h, gs, d, t, os⟩ := by
  refine wpAny_call (call_fn (o := oEq ka kt) (binds := [(Str.ofString "self", .ref x), (Str.ofString "other", .ref y)]) (Nat.lt_of_succ_lt hroom) k.K.eq rfl rfl ⟨_, _, _, _, rfl, k.K.ce, rfl, rfl⟩ ?_ fun h' S => ?_)
  · with_unfolding_all rfl
  refine stL S fun h1 S1 => stL S1 fun h2 S2 => ?_
  have k2 := k.ext S2.keep
  obtain ⟨H, hall⟩ := kd_all k2.K k2.X
  obtain ⟨code, cell, ct, x1, x2, x3, x4, x5, n6, t1, t2, t3, t4, t5, F⟩ := k2.F
  refine ⟨nolimit_of k2.X, ?_⟩
  refine wpAny_execs_cons <| wpAny_Return_some <| wpAny_Compare1 <| Call_ <| ldF k2.K.cell rfl <| callWith_def (o := oMeth "compare" "_law_compare.<locals>.compare" dCmp "table" cell code ct n6) rfl <| args_cons <| attr_obj S2 (upd_ne upd_eq) hall (Ix.ext S2.keep) fun tk => args_cons <| attr_obj S2 upd_eq hall (Iy.ext S2.keep) fun tk' => args_nil ⟨F.fn, ?_⟩
  refine cmp_call hroom k2.X F k2.T k2.n ha hb fun h3 tk3 t3 e3 => wpAny_Constant_int <| PyProof.Rows.eq_int ?_
  exact q h3 _ (S2.keep.trans e3)
end
end Mine
open PySem PySem.W PySem.W.X PyProof.Rows
set_option Elab.async false
set_option maxRecDepth 100000
set_option maxHeartbeats 4000000
namespace Mine
section
variable {w : World} {A : Around} {E : Value → Shared → Prop} {h : Heap} {gs : Array GenState} {d : Drawn} {t : Nat} {os : OsState} {ka : KAdr} {kt : KTok} {cf x y : Addr} {i j : Int}
theorem own_eq (K : IsK h ka kt cf) (I : IsInst h x ka.C i) : h.OwnEqNoNe x ka.C ka.fe "object" [.type "object"] := by
  obtain ⟨dx, tk, od, a, b⟩ := I
  obtain ⟨H, e⟩ := K.ns
  refine ⟨_, _, Str.ofString "K", Str.ofString "cmp_to_key.<locals>.K", ka.ns, [.type "object"], false, [Str.ofString "obj"], [], false, none, none, some (.ref ka.b1), none, some (.str (Str.ofString "K") kt.n1), some (.str (Str.ofString "cmp_to_key.<locals>.K") kt.n2), some (.bool false), "object.__new__", _, _, a, rfl, K.cls, ⟨_, _, _, e, rfl, ?_, fun _ => rfl⟩, ?_, K.eq, rfl, PySem.F.cmp_object.mro, PySem.F.cmp_object.eq.lookup, ?_⟩
  · intro p hp
    simp only [List.mem_toArray, List.mem_cons, List.not_mem_nil, or_false] at hp
    rcases hp with rfl | rfl | rfl | rfl | rfl | rfl | rfl | rfl | rfl | rfl | rfl | rfl | rfl <;> exact ⟨_, _, rfl⟩
  · rfl
  · rfl
theorem ne_op {T : Addr} {n a b : Nat} {tb : Nat → Nat → Int} {Q : Value → Shared → Prop} (hroom : A.depth + 1 < recursionLimit) (hu : A.units + 1 < cLine) (k : Keyed w h ka kt cf T n tb) (ha : a < n) (hb : b < n) (Ix : IsInst h x ka.C a) (Iy : IsInst h y ka.C b)
    (q : ∀ h' t', Ext h h' → Q (.bool (!(tb a b == 0))) ⟨h', gs, d, t', os⟩) : wpAny (model PG w) A (compareOp .NotEq (.ref x) (.ref y)) Q E ⟨h, gs, d, t, os⟩ := by
  obtain ⟨dy, tk, od, e1, e2⟩ := id Iy
  refine compareOp_ne_ownEq PySem.F.cmp_object (own_eq k.K Ix) e1 rfl hu ?_
  exact eq_call (A := A.in1) hroom k ha hb Ix Iy fun h' t' e => ⟨_, rfl, q h' t' e⟩
end
theorem ne_lt {x : Int} (h : ¬ 0 < x) : (!(x == 0)) = decide (x < 0) := by
  by_cases z : x = 0
  · subst z; rfl
  · have e1 : (x == 0) = false := by simpa using z
    rw [e1, decide_eq_true (show x < 0 by omega)]; rfl
abbrev fdFnM (name : String) (i : Nat) (mod : String) (n6 : Tok) (c : Addr) : FuncData := { name := Str.ofString name, qualname := Str.ofString name, params := sArgs (top i), body := .stmts (sBody (top i)), scope := sScope (top i), globals := 3, closure := [], defaults := .none, kwdefaults := .none, pyModule := .str (Str.ofString mod) n6, code := .ref c }
def oFnM (name : String) (i : Nat) (mod : String) (n6 : Tok) (c : Addr) : Obj := ⟨.type "function", none, .func (fdFnM name i mod n6 c), #[]⟩
theorem fn_lt (P : Params) : (KB P).lookup 21 = some (oFnM "_lt_from_gt" 1 "cpy313.functools" 187 20) := by kernel_rfl
theorem cd_lt {P : Params} {h : Heap} (X : (KB P).In h) : h.CodeRec (.ref 20) (Str.ofString "_lt_from_gt") := by
  have e : (KB P).lookup 20 = some (hz.zo_59 P) := by kernel_rfl
  exact ⟨_, _, _, _, rfl, X _ _ e, rfl, rfl⟩
theorem ns_type (P : Params) : nsIn (KB P) mainGlobals (Str.ofString "type") = some none := by kernel_rfl
theorem ns_type' (P : Params) : nsIn (KB P) builtinsNs (Str.ofString "type") = some (some (.type "type")) := by kernel_rfl
theorem ns_ni (P : Params) : nsIn (KB P) mainGlobals (Str.ofString "NotImplemented") = some none := by kernel_rfl
theorem ns_ni' (P : Params) : nsIn (KB P) builtinsNs (Str.ofString "NotImplemented") = some (some .notImplemented) := by kernel_rfl
section
variable {w : World} {A : Around} {E : Value → Shared → Prop} {h : Heap} {gs : Array GenState} {d : Drawn} {t : Nat} {os : OsState} {ka : KAdr} {kt : KTok} {cf x y : Addr} {i j : Int}
theorem lt_call {T : Addr} {n a b : Nat} {tb : Nat → Nat → Int} {Q : Value → Shared → Prop} (hroom : A.depth + 2 < recursionLimit) (hu : A.units + 4 < cLine) (k : Keyed w h ka kt cf T n tb) (ha : a < n) (hb : b < n) (Ix : IsInst h x ka.C a) (Iy : IsInst h y ka.C b)
    (q : ∀ h' t', Ext h h' → Q (.bool (decide (tb a b < 0))) ⟨h', gs, d, t', os⟩) : wpAny (model PG w) A (call (.ref 21) [.ref x, .ref y]) Q E ⟨h, gs, d, t, os⟩ := by
  refine wpAny_call (call_fn (o := oFnM "_lt_from_gt" 1 "cpy313.functools" 187 20) (binds := [(Str.ofString "self", .ref x), (Str.ofString "other", .ref y)]) (by omega) (k.X _ _ (fn_lt _)) rfl rfl (cd_lt k.X) ?_ fun h' S => ?_)
  · with_unfolding_all rfl
  refine stL S fun h1 S1 => stL S1 fun h2 S2 => ⟨nolimit_of (k.X.keeps S2.keep), ?_⟩
  have k2 := k.ext S2.keep
  obtain ⟨H, hall⟩ := kd_all k2.K k2.X
  obtain ⟨dx, tk, od, I2⟩ := inst_at (Ix.ext S2.keep)
  have X2 := in_of_all hall
  refine wpAny_execs_cons <| wpAny_Assign_Name <| methodCall_KW <| Call_ <| ldB k2.X (ns_type _) (ns_type' _) <| PyProof.Rows.callWith_type1 <| args_cons <| ldL S2 (upd_ne upd_eq) <| args_nil <| kto_own (s := ⟨_, gs, d, _, os⟩) I2 <| method_cls (s := ⟨_, gs, d, _, os⟩) X2 ?_ <| cls_gt hall ?_
  · unfold specialIn; rw [t_C hall, Option.bind_some]; kernel_rfl
  refine callWith_def (o := oGt ka kt) rfl <| args_cons <| ldL S2 (upd_ne upd_eq) <| args_cons <| ldL S2 upd_eq <| args_nil ⟨k2.K.gt, ?_⟩
  refine gt_call (by exact hroom) k2 ha hb (Ix.ext S2.keep) (Iy.ext S2.keep) fun h3 t3 e3 => ?_
  have S3 := S2.ext e3 rfl
  refine stL S3 fun h4 S4 => ?_
  have k4 := k.ext S4.keep
  refine wpAny_execs_cons <| wpAny_If <| wpAny_isTrue_Compare1 <| ldL S4 upd_eq <| ldB k4.X (ns_ni _) (ns_ni' _) <| wpAny_is_plain rfl <| wpAny_truthy_bool ?_
  rw [show ((Value.bool (decide (0 < tb a b))) == Value.notImplemented) = false from rfl, if_neg (by decide)]
  refine wpAny_execs_nil <| wpAny_execs_cons <| wpAny_Return_some <| BoolOp_and <| UnaryOp_ <| ldL S4 upd_eq <| not_of <| wpAny_truthy_bool <| wpAny_truthy_bool ?_
  by_cases hc : 0 < tb a b
  · rw [decide_eq_true hc, if_neg (by decide)]
    have := q h4 (t3 + 1) S4.keep
    rw [decide_eq_false (show ¬ tb a b < 0 by omega)] at this
    exact this
  · rw [decide_eq_false hc, if_pos (by decide)]
    refine BoolOp_one <| wpAny_Compare1 <| ldL S4 (upd_ne (upd_ne upd_eq)) <| ldL S4 (upd_ne upd_eq) <| ne_op (by exact hroom) (by show A.units + 3 + 1 < cLine; exact hu) k4 ha hb (Ix.ext S4.keep) (Iy.ext S4.keep) fun h5 t5 e5 => ?_
    have := q h5 t5 (S4.keep.trans e5)
    rw [ne_lt hc]
    exact this
end
end Mine
open PySem PySem.W PySem.W.X PyProof.Rows
set_option Elab.async false
set_option maxRecDepth 100000
namespace Mine
set_option hygiene false in
local macro_rules | `(tactic| x_close) => `(tactic| (exact hQ _ _ _ _ _ (fun b o e => D.keep b o e (by simp [away])) (D.at 1 _ _ rfl) (D.at 2 _ _ rfl) (D.nw _ (.tail _ (.head _))).2 (D.nw _ (.tail _ (.tail _ (.head _)))).2 (D.ne 1 2 _ _ _ _ rfl rfl rfl)))
set_option maxHeartbeats 0 in
theorem maker {w : World} {h : Heap} {g : Array GenState} {d : Drawn} {t : Nat} {os : OsState} {ka : KAdr} {kt : KTok} {cf : Addr} {a : Int} {ta : Tok} {env : Env}
   (K : IsK h ka kt cf) (X : (KB w.params).In h) {Q : Value → Shared → Prop} {E : Value → Shared → Prop}
   (hQ : ∀ h' x dx od t', Ext h h' → h'.get? x = some (oInst ka.C dx a ta) → h'.get? dx = some od → h.get? x = none → h.get? dx = none → x ≠ dx → Q (.ref x) ⟨h', g, d, t', os⟩) :
   wpAny (model PG w) (callerA.deeper env) (PySem.call (.ref ka.C) [.int a ta]) Q E ⟨h, g, d, t, os⟩ := by
  revert X; k_fill; intro X
  obtain ⟨h1, ⟨H, h2⟩, h3, h4, h5, -, -, -, -, -⟩ := K
  obtain ⟨C, ns, fi, ci, ds, b1, fg, cg, fe, ce, cl, x1, x2, x3, x4, x5, x6, x7, x8, x9, x10, x11, x12, y1, y2, y3, y4, y5, z1, z2, z3, z4, z5, gt, eqt⟩ := ka
  obtain ⟨n1, n2, n3, n4, n5, n6, e1, e2, e3, e4, e5, e6, e7, e8, e9, e10, e11, e12, e13, i1, i2, i3, i4, i5, g1, g2, g3, g4, g5, q1, q2, q3, q4, q5⟩ := kt
  unfold oCls at h1; unfold oNs at h2; unfold oDs at h3; unfold oInit at h4; unfold oCode at h5
  dsimp only at h1 h2 h3 h4 h5 hQ
  dsimp only
  x_run
end Mine
open PySem PySem.W PySem.W.X PyProof.Rows
set_option Elab.async false
set_option maxRecDepth 100000
set_option maxHeartbeats 4000000
namespace Mine
def cnt (n seen : Nat) : Nat := (List.range n).countP fun b => !seen.testBit b
theorem full_of_cnt {n seen : Nat} (h : seen < 2 ^ n) (hc : cnt n seen = 0) : seen = 2 ^ n - 1 := by
  apply Nat.eq_of_testBit_eq
  intro i
  rw [Nat.testBit_two_pow_sub_one]
  by_cases hi : i < n
  · rw [decide_eq_true hi]
    have := (List.countP_eq_zero.mp hc) i (List.mem_range.mpr hi)
    simpa using this
  · rw [decide_eq_false hi]
    exact Nat.testBit_lt_two_pow (Nat.lt_of_lt_of_le h (Nat.pow_le_pow_right (by decide) (by omega)))
theorem countP_lt {α : Type} {p q : α → Bool} : ∀ {l : List α} {x : α}, (∀ y ∈ l, q y = true → p y = true) → x ∈ l → p x = true → q x = false → l.countP q < l.countP p
  | [], _, _, hx, _, _ => by cases hx
  | y :: l, x, hs, hx, hp, hq => by
    have hle : l.countP q ≤ l.countP p := List.countP_mono_left fun z hz e => hs z (List.mem_cons_of_mem _ hz) e
    rw [List.countP_cons, List.countP_cons]
    rcases List.mem_cons.mp hx with rfl | hx
    · rw [hp, hq]; simp; omega
    · have this_lt := countP_lt (l := l) (fun z hz e => hs z (List.mem_cons_of_mem _ hz) e) hx hp hq
      by_cases hy : q y = true
      · rw [hy, hs y (List.mem_cons_self ..) hy]; omega
      · have : q y = false := by simpa using hy
        rw [this, if_neg (by decide)]; exact Nat.lt_of_lt_of_le (by simpa using this_lt) (Nat.le_add_right _ _)
theorem cnt_or {n seen b : Nat} (hb : b < n) (hs : seen.testBit b = false) : cnt n (seen ||| 2 ^ b) < cnt n seen := by
  refine countP_lt (x := b) (fun y _ e => ?_) (List.mem_range.mpr hb) (by rw [hs]; rfl) ?_
  · rw [Nat.testBit_or] at e; simp at e; simp [e.1]
  · rw [Nat.testBit_or, Nat.testBit_two_pow_self, Bool.or_true]; rfl
theorem or_lt {n seen b : Nat} (h : seen < 2 ^ n) (hb : b < n) : seen ||| 2 ^ b < 2 ^ n := Nat.or_lt_two_pow h (Nat.pow_lt_pow_right (by decide) hb)
theorem bit_test (seen b : Nat) : (Builtin.bitAnd ((seen : Int).fdiv (2 ^ ((b : Int).toNat))) 1 == 0) = !seen.testBit b := by
  rw [Int.toNat_natCast]
  have e : (seen : Int).fdiv (2 ^ b) = ((seen / 2 ^ b : Nat) : Int) := by
    rw [Int.fdiv_eq_ediv_of_nonneg _ (Int.le_of_lt (Int.pow_pos (by decide)))]
    rw [Int.natCast_ediv, Int.natCast_pow]; rfl
  rw [e, bitAnd_pp (Int.natCast_nonneg _) (by decide)]
  have : ((seen / 2 ^ b : Nat) : Int).toNat &&& (1 : Int).toNat = (seen / 2 ^ b) % 2 := by rw [Int.toNat_natCast]; exact Nat.and_one_is_mod _
  rw [this, Nat.testBit_eq_decide_div_mod_eq]
  rcases Nat.mod_two_eq_zero_or_one (seen / 2 ^ b) with q | q <;> rw [q] <;> rfl
theorem and_add_or : ∀ (x y : Nat), x + y = (x ||| y) + (x &&& y) := by
  intro x y
  have := Nat.two_pow_pos 0
  induction x using Nat.div2Induction generalizing y with
  | ind x ih =>
    by_cases hx : x = 0
    · subst hx; simp
    · have hi := ih (by omega) (y / 2)
      have h1 : (x ||| y) / 2 = (x / 2) ||| (y / 2) := Nat.or_div_two ..
      have h2 : (x &&& y) / 2 = (x / 2) &&& (y / 2) := Nat.and_div_two ..
      have h3 : (x ||| y) % 2 + (x &&& y) % 2 = x % 2 + y % 2 := by
        have a1 := Nat.or_mod_two_pow (a := x) (b := y) (n := 1)
        have a2 := Nat.and_mod_two_pow (a := x) (b := y) (n := 1)
        simp only [Nat.pow_one] at a1 a2
        rw [a1, a2]
        rcases Nat.mod_two_eq_zero_or_one x with q | q <;> rcases Nat.mod_two_eq_zero_or_one y with r | r <;> rw [q, r] <;> rfl
      omega
theorem bit_or (x y : Nat) : Builtin.bitOr (x : Int) (y : Int) = ((x ||| y : Nat) : Int) := by
  rw [bitOr_and, bitAnd_pp (by omega) (by omega), Int.toNat_natCast, Int.toNat_natCast]
  have := and_add_or x y
  omega
/-- the number of ways on, and of those that close -/
noncomputable def wk (n : Nat) (bt : Nat → Nat → Bool) (first : Nat) : Nat → Nat → Nat → Int × Int
  | 0, last, seen => if seen = 2 ^ n - 1 then (1, if bt last first then 1 else 0) else (0, 0)
  | f + 1, last, seen => if seen = 2 ^ n - 1 then (1, if bt last first then 1 else 0) else
    (List.range n).foldl (fun acc b => if bt last b && !seen.testBit b then (acc.1 + (wk n bt first f b (seen ||| 2 ^ b)).1, acc.2 + (wk n bt first f b (seen ||| 2 ^ b)).2) else acc) (0, 0)
noncomputable def wkPart (n : Nat) (bt : Nat → Nat → Bool) (first f last seen k : Nat) : Int × Int :=
  (List.range k).foldl (fun acc b => if bt last b && !seen.testBit b then (acc.1 + (wk n bt first f b (seen ||| 2 ^ b)).1, acc.2 + (wk n bt first f b (seen ||| 2 ^ b)).2) else acc) (0, 0)
theorem wkPart_succ (n : Nat) (bt : Nat → Nat → Bool) (first f last seen k : Nat) : wkPart n bt first f last seen (k + 1) = if bt last k && !seen.testBit k then ((wkPart n bt first f last seen k).1 + (wk n bt first f k (seen ||| 2 ^ k)).1, (wkPart n bt first f last seen k).2 + (wk n bt first f k (seen ||| 2 ^ k)).2) else wkPart n bt first f last seen k := by
  unfold wkPart
  rw [List.range_succ, List.foldl_append]; rfl
theorem wk_full {n : Nat} {bt : Nat → Nat → Bool} {first f last seen : Nat} (h : seen = 2 ^ n - 1) : wk n bt first f last seen = (1, if bt last first then 1 else 0) := by
  cases f <;> simp [wk, h]
theorem wk_succ {n : Nat} {bt : Nat → Nat → Bool} {first f last seen : Nat} (h : seen ≠ 2 ^ n - 1) : wk n bt first (f + 1) last seen = wkPart n bt first f last seen n := by
  unfold wk; rw [if_neg h]; rfl
end Mine
open PySem PySem.W PySem.W.X PyProof.Rows
set_option Elab.async false
set_option maxRecDepth 100000
set_option maxHeartbeats 4000000
namespace Mine
/-- the table B of n rows of bools tells bt -/
def IsBt (h : Heap) (B : Addr) (n : Nat) (bt : Nat → Nat → Bool) : Prop :=
  ∃ (rows : List Addr) (vals : List (List Value)), rows.length = n ∧ vals.length = n ∧ (∀ a, a < n → ∃ vs, vals[a]? = some vs ∧ vs.length = n ∧ ∀ b, b < n → vs[b]? = some (.bool (bt a b))) ∧
    (∃ o, h.get? B = some o ∧ ListP (rows.map Value.ref) o) ∧ ∀ (a : Nat) (r : Addr) (vs : List Value), rows[a]? = some r → vals[a]? = some vs → ∃ o, h.get? r = some o ∧ ListP vs o
theorem IsBt.ext {h h' : Heap} {B : Addr} {n : Nat} {bt : Nat → Nat → Bool} (x : IsBt h B n bt) (k : Ext h h') : IsBt h' B n bt := by
  obtain ⟨rows, vals, h1, h2, h2', ⟨o, h3, h4⟩, h5⟩ := x
  exact ⟨rows, vals, h1, h2, h2', ⟨o, k _ _ h3, h4⟩, fun a r vs e1 e2 => let ⟨o, q1, q2⟩ := h5 a r vs e1 e2; ⟨o, k _ _ q1, q2⟩⟩
theorem IsBt.row {h : Heap} {B : Addr} {n a : Nat} {bt : Nat → Nat → Bool} (hT : IsBt h B n bt) (ha : a < n) : ∃ (rows : List Value) (r : Addr) (vs : List Value), (∃ o, h.get? B = some o ∧ ListP rows o) ∧ rows[a]? = some (.ref r) ∧ (∃ o, h.get? r = some o ∧ ListP vs o) ∧ ∀ b, b < n → vs[b]? = some (.bool (bt a b)) := by
  obtain ⟨rows, vals, h1, h2, h2', h3, h5⟩ := hT
  obtain ⟨vs, e1, e2, e3⟩ := h2' a ha
  have er : rows[a]? = some rows[a] := by simp [h1, ha]
  exact ⟨rows.map Value.ref, rows[a], vs, h3, by simp [er], h5 a _ _ er e1, e3⟩
theorem Sta.gain {g : Heap} {L l : Addr} {m : MT} {cs : List Own} {z : Nat} {h h' : Heap} {P : Obj → Prop} (S : Sta g L m cs z h) (e : Ext h h') (hl : ∃ o, h'.get? l = some o ∧ P o) (hn : h.get? l = none) : Sta g L m ((l, P) :: cs) h'.objs.size h' := by
  have S' := S.ext e rfl
  obtain ⟨o, h1, h2⟩ := hl
  refine ⟨S'.ns, S'.keep, S'.offL, ?_, ?_, rfl⟩
  · intro p hp
    rcases List.mem_cons.mp hp with rfl | hp
    · refine ⟨o, h1, h2, ?_, ?_⟩
      · cases q : g.get? l with
        | none => rfl
        | some o' => have := S.keep _ _ q; rw [hn] at this; cases this
      · rintro rfl
        obtain ⟨o', _, _, ho, _⟩ := S.ns
        rw [hn] at ho; cases ho
    · exact S'.own p hp
  · rw [List.map_cons]
    refine List.nodup_cons.mpr ⟨fun hm => ?_, S'.nd⟩
    obtain ⟨p, hp, q⟩ := List.mem_map.mp hm
    obtain ⟨o', a1, _⟩ := S.own p hp
    dsimp only at q
    rw [q, hn] at a1; cases a1
theorem Sta.isNew {g : Heap} {L a : Addr} {m : MT} {cs : List Own} {z : Nat} {h : Heap} {P : Obj → Prop} (S : Sta g L m cs z h) (hp : (a, P) ∈ cs) : g.get? a = none := let ⟨_, _, _, e, _⟩ := S.own _ hp; e
theorem Sta.pick2 {g : Heap} {L : Addr} {m : MT} {cs : List Own} {z i j : Nat} {h : Heap} {p q : Own} (S : Sta g L m cs z h) (hi : cs[i]? = some p) (hj : cs[j]? = some q) (hij : i ≠ j) : Sta g L m [p, q] z h := by
  refine S.sub (fun r hr => ?_) ?_
  · rcases List.mem_cons.mp hr with rfl | hr
    · exact ⟨_, List.mem_of_getElem? hi, fun _ x => x⟩
    · rw [List.mem_singleton] at hr; subst hr
      exact ⟨_, List.mem_of_getElem? hj, fun _ x => x⟩
  · simp only [List.map_cons, List.map_nil, List.nodup_cons, List.mem_singleton, List.not_mem_nil, not_false_eq_true, List.nodup_nil, and_true]
    intro e
    exact hij (nodup_at S.nd (x := p.1) (by rw [List.getElem?_map, hi]; rfl) (by rw [List.getElem?_map, hj, e]; rfl))
theorem ns_walks (P : Params) : nsIn (KB P) mainGlobals (Str.ofString "_law_walks") = some (some (.ref 42)) := by kernel_rfl
section
variable {w : World} {A : Around} {E : Value → Shared → Prop} {h : Heap} {gs : Array GenState} {d : Drawn} {t : Nat} {os : OsState}
theorem bt_item {B : Addr} {n a b : Nat} {bt : Nat → Nat → Bool} {env : Env} {x y z : Str} {p1 p2 p3 p4 p5 : Pos} {Q : Value → Shared → Prop} (hB : IsBt h B n bt) (hn : n ≤ 1000) (ha : a < n) (hb : b < n)
    (e1 : ∀ (t : Nat) (Q' : Value → Shared → Prop), (∀ t', Q' (.ref B) ⟨h, gs, d, t', os⟩) → wpAny (model PG w) A (eval (.Name x p1) env) Q' E ⟨h, gs, d, t, os⟩)
    (e2 : EvI w A E env gs d os (.Name y p2) h a) (e3 : EvI w A E env gs d os (.Name z p3) h b) (q : ∀ t, Q (.bool (bt a b)) ⟨h, gs, d, t, os⟩) :
    wpAny (model PG w) A (eval (.Subscript (.Subscript (.Name x p1) (.Name y p2) p4) (.Name z p3) p5) env) Q E ⟨h, gs, d, t, os⟩ := by
  obtain ⟨rows, r, vs, g1, g2, g3, g4⟩ := hB.row ha
  refine Subscript_ <| Subscript_ <| e1 _ _ fun t' => e2 _ _ fun t'' tk => item g1 (by omega) (by omega) (by simpa using g2) ?_
  exact e3 _ _ fun t3 tk3 => item g3 (by omega) (by omega) (by simpa using g4 b hb) (q _)
abbrev wEnv (z : Nat) : Env := fnEnv (fdFn "_law_walks" 5 207 41) z 42
structure WM (B : Addr) (n last seen first : Nat) (m : MT) : Prop where
  beats : m (Str.ofString "beats") = some (.ref B)
  n : ∃ tk, m (Str.ofString "n") = some (.int n tk)
  last : ∃ tk, m (Str.ofString "last") = some (.int last tk)
  seen : ∃ tk, m (Str.ofString "seen") = some (.int seen tk)
  first : ∃ tk, m (Str.ofString "first") = some (.int first tk)
def WalksP (w : World) (gs : Array GenState) (d : Drawn) (os : OsState) (B : Addr) (n first : Nat) (bt : Nat → Nat → Bool) (fuel : Nat) : Prop := ∀ {A : Around} {E : Value → Shared → Prop} {h : Heap} {t : Nat} {Q : Value → Shared → Prop} {last seen : Nat} {tn tl ts tf : Tok},
    A.depth + fuel < recursionLimit → A.handled = none → (KB w.params).In h → IsBt h B n bt → last < n → seen < 2 ^ n → cnt n seen ≤ fuel →
    (∀ h' l t', Ext h h' → h.get? l = none → (∃ tp tc o, h'.get? l = some o ∧ ListP [.int (wk n bt first fuel last seen).1 tp, .int (wk n bt first fuel last seen).2 tc] o) → Q (.ref l) ⟨h', gs, d, t', os⟩) →
    wpAny (model PG w) A (call (.ref 42) [.ref B, .int n tn, .int last tl, .int seen ts, .int first tf]) Q E ⟨h, gs, d, t, os⟩
theorem WM.upd {B : Addr} {n last seen first : Nat} {m : MT} (M : WM B n last seen first m) (x : Str) (v : Value) (h1 : Str.ofString "beats" ≠ x := by decide) (h2 : Str.ofString "n" ≠ x := by decide) (h3 : Str.ofString "last" ≠ x := by decide) (h4 : Str.ofString "seen" ≠ x := by decide) (h5 : Str.ofString "first" ≠ x := by decide) : WM B n last seen first (Mine.upd m x v) :=
  ⟨upd_ne M.beats h1, let ⟨t, e⟩ := M.n; ⟨t, upd_ne e h2⟩, let ⟨t, e⟩ := M.last; ⟨t, upd_ne e h3⟩, let ⟨t, e⟩ := M.seen; ⟨t, upd_ne e h4⟩, let ⟨t, e⟩ := M.first; ⟨t, upd_ne e h5⟩⟩
def WJ (B : Addr) (n last seen first : Nat) (acc : Int × Int) (m : MT) (cs : List Own) : Prop := WM B n last seen first m ∧ ∃ l tp tc, m (Str.ofString "told") = some (.ref l) ∧ cs = [(l, ListP [.int acc.1 tp, .int acc.2 tc])]
theorem eq_is {s : Shared} {a b : Int} {c : Bool} {t u : Tok} {Q : Value → Shared → Prop} (e : (a == b) = c) (h : Q (.bool c) s) : wpAny (model PG w) A (compareOp .Eq (.int a t) (.int b u)) Q E s := PyProof.Rows.eq_int (by rw [e]; exact h)
theorem or_is {s : Shared} {a b c : Int} {t u : Tok} {Q : Value → Shared → Prop} (e : Builtin.bitOr a b = c) (h : Q (.int c s.toks) { s with toks := s.toks + 1 }) : wpAny (model PG w) A (binaryOp .BitOr (.int a t) (.int b u)) Q E s := or_int (by rw [e]; exact h)
theorem or_pow (seen k : Nat) : Builtin.bitOr (seen : Int) (1 * 2 ^ ((k : Int).toNat)) = ((seen ||| 2 ^ k : Nat) : Int) := by
  rw [Int.toNat_natCast, Int.one_mul, show ((2 : Int) ^ k) = ((2 ^ k : Nat) : Int) from by push_cast; rfl, bit_or]
theorem walks_turn {R : Result → Shared → Prop} {B : Addr} {n first last seen f' k : Nat} {bt : Nat → Nat → Bool} {g : Heap} {z₀ z' : Nat} {t₀ : Tok} {I : Own} {m : MT} {cs : List Own} (hn : n ≤ 20) (hf : first < n) (hh : A.handled = none) (hroom : A.depth + (f' + 1) < recursionLimit) (X : (KB w.params).In g) (hB : IsBt g B n bt) (hl : last < n) (hs : seen < 2 ^ n) (hc : cnt n seen ≤ f' + 1)
    (ih : WalksP w gs d os B n first bt f') (hk : k < n) (J : WJ B n last seen first (wkPart n bt first f' last seen k) m cs) (S8 : Sta g z₀ m (I :: cs) z' h) :
    wpAny (model PG w) (A.deeper (wEnv z₀)) (storeName (wEnv z₀) (Str.ofString "b") (.int (0 + k) t₀)) (fun _ s₂ => wpAny (model PG w) (A.deeper (wEnv z₀)) (execs (sBody (nth (sBody (top 5)) 2)) (wEnv z₀))
      (ForEnd g z₀ I gs d os (fun m cs _ => WJ B n last seen first (wkPart n bt first f' last seen (k + 1)) m cs) R) E s₂) E ⟨h, gs, d, t, os⟩ := by
  obtain ⟨M8, l, tp, tc, hl8, rfl⟩ := J
  rw [show (0 : Int) + (k : Int) = k from by omega]
  refine stL S8 fun h9 S9 => ?_
  have M9 := M8.upd (Str.ofString "b") (.int k t₀)
  have hl9 : Mine.upd m (Str.ofString "b") (.int k t₀) (Str.ofString "told") = some (.ref l) := upd_ne hl8
  obtain ⟨ta, hla⟩ := M9.last
  obtain ⟨tse, hse⟩ := M9.seen
  obtain ⟨tnn, hnn⟩ := M9.n
  obtain ⟨tfi, hfi⟩ := M9.first
  have hB9 := hB.ext S9.keep
  have hX9 := X.keeps S9.keep
  refine wpAny_execs_cons <| wpAny_If <| isTrue_and <| isTrue_plain <| bt_item hB9 (by omega) hl hk (fun t Q' k => ldL S9 M9.beats (k _)) (fun t Q' k => ldL S9 hla (k _ _)) (fun t Q' k => ldL S9 upd_eq (k _ _)) fun t9 => wpAny_truthy_bool ?_
  by_cases hb : bt last k = true
  · rw [if_pos hb]
    refine isTrue_and <| wpAny_isTrue_Compare1 <| wpAny_BinOp <| wpAny_BinOp <| ldL S9 hse <| ldL S9 upd_eq <| rshift_int (by omega) <| wpAny_Constant_int <| and_int <| wpAny_Constant_int <| eq_is (bit_test seen k) <| wpAny_truthy_bool ?_
    cases hbit : seen.testBit k with
    | true =>
      rw [Bool.not_true, if_neg (by decide), if_neg (by decide)]
      refine wpAny_execs_nil <| wpAny_execs_nil <| .next S9 ⟨M9, l, tp, tc, hl9, ?_⟩
      rw [wkPart_succ, if_neg (by rw [hbit, Bool.not_true, Bool.and_false]; decide)]
    | false =>
      rw [Bool.not_false, if_pos rfl]
      refine isTrue_and_nil ?_
      rw [if_pos rfl]
      refine wpAny_execs_cons <| wpAny_Assign_Name <| Call_ <| ldG hX9 (ns_walks _) <| callWith_def (o := oFn "_law_walks" 5 207 41) rfl <| args_cons <| ldL S9 M9.beats <| args_cons <| ldL S9 hnn <| args_cons <| ldL S9 upd_eq <| args_cons <| wpAny_BinOp <| ldL S9 hse <| wpAny_BinOp <| wpAny_Constant_int <| ldL S9 upd_eq <| lshift_int_small (by omega) (by omega) (by decide) <| or_is (or_pow seen k) <| args_cons <| ldL S9 hfi <| args_nil ⟨hX9 _ _ (fn_walks _), ?_⟩
      refine ih (by show A.depth + 1 + f' < recursionLimit; omega) hh hX9 hB9 hk (or_lt hs hk) (by have := cnt_or hk hbit; omega) fun h10 l2 t10 e10 hn10 hl2 => ?_
      obtain ⟨tp2, tc2, o2, q1, q2⟩ := hl2
      refine stL (S9.gain e10 ⟨o2, q1, q2⟩ hn10) fun h11 S11 => ?_
      refine wpAny_execs_cons <| wpAny_Assign_Name <| List_ <| args_cons <| wpAny_BinOp <| Subscript_ <| ldL S11 (upd_ne hl9) <| wpAny_Constant_int <| item (S11.get (.tail _ (.tail _ (.head _)))) (by decide) (by decide) rfl <| Subscript_ <| ldL S11 upd_eq <| wpAny_Constant_int <| item (S11.get (.head _)) (by decide) (by decide) rfl <| add_int ?_
      refine args_cons <| wpAny_BinOp <| Subscript_ <| ldL S11 (upd_ne hl9) <| wpAny_Constant_int <| item (S11.get (.tail _ (.tail _ (.head _)))) (by decide) (by decide) rfl <| Subscript_ <| ldL S11 upd_eq <| wpAny_Constant_int <| item (S11.get (.head _)) (by decide) (by decide) rfl <| add_int <| args_nil ?_
      rw [show wkPart n bt first f' last seen (k + 1) = _ from (wkPart_succ ..).trans (if_pos (by rw [hb, hbit]; rfl))]
      exact new_list S11 (fun h12 e12 S12 => stL S12 fun h13 S13 => wpAny_execs_nil <| wpAny_execs_nil <| .next (S13.pick2 (i := 2) (j := 0) rfl rfl (by decide)) ⟨(M9.upd _ _).upd _ _, _, _, _, upd_eq, rfl⟩) (by simp)
  · rw [if_neg hb, if_neg (by decide)]
    refine wpAny_execs_nil <| wpAny_execs_nil <| .next S9 ⟨M9, l, tp, tc, hl9, ?_⟩
    rw [wkPart_succ, if_neg (by simp [hb])]
theorem walks_step {B : Addr} {n first : Nat} {bt : Nat → Nat → Bool} (hn : n ≤ 20) (hf : first < n) (fuel : Nat) (ih : ∀ f', fuel = f' + 1 → WalksP w gs d os B n first bt f') : WalksP w gs d os B n first bt fuel := by
  intro A E h t Q last seen tn tl ts tf hroom hh X hB hl hs hc q
  refine wpAny_call (call_fn (o := oFn "_law_walks" 5 207 41) (binds := [(Str.ofString "beats", .ref B), (Str.ofString "n", .int n tn), (Str.ofString "last", .int last tl), (Str.ofString "seen", .int seen ts), (Str.ofString "first", .int first tf)]) (by omega) (X _ _ (fn_walks _)) rfl rfl (cd_walks X) ?_ fun h' S => ?_)
  · with_unfolding_all rfl
  refine stL S fun h1 S1 => stL S1 fun h2 S2 => stL S2 fun h3 S3 => stL S3 fun h4 S4 => stL S4 fun h5 S5 => ⟨nolimit_of (X.keeps S5.keep), ?_⟩
  have hpow : (0 : Nat) < 2 ^ n := Nat.two_pow_pos n
  have M5 : WM B n last seen first (Mine.upd (Mine.upd (Mine.upd (Mine.upd (Mine.upd (fun _ => none) (Str.ofString "beats") (.ref B)) (Str.ofString "n") (.int n tn)) (Str.ofString "last") (.int last tl)) (Str.ofString "seen") (.int seen ts)) (Str.ofString "first") (.int first tf)) :=
    ⟨upd_ne (upd_ne (upd_ne (upd_ne upd_eq))), ⟨_, upd_ne (upd_ne (upd_ne upd_eq))⟩, ⟨_, upd_ne (upd_ne upd_eq)⟩, ⟨_, upd_ne upd_eq⟩, ⟨_, upd_eq⟩⟩
  refine wpAny_execs_cons <| wpAny_If <| wpAny_isTrue_Compare1 <| ldL S5 (upd_ne upd_eq) <| wpAny_BinOp <| wpAny_BinOp <| wpAny_Constant_int <| ldL S5 (upd_ne (upd_ne (upd_ne upd_eq))) <| lshift_int_small (by omega) (by omega) (by decide) <| wpAny_Constant_int <| sub_int <| PyProof.Rows.eq_int <| wpAny_truthy_bool ?_
  have hcond : ((seen : Int) == 1 * 2 ^ ((n : Nat) : Int).toNat - 1) = decide (seen = 2 ^ n - 1) := by
    rw [Int.toNat_natCast, Int.one_mul]
    have : ((2 : Int) ^ n) = ((2 ^ n : Nat) : Int) := by push_cast; rfl
    rw [this]
    by_cases e : seen = 2 ^ n - 1
    · rw [decide_eq_true e]; exact beq_iff_eq.mpr (by omega)
    · rw [decide_eq_false e]; exact beq_false_of_ne (by omega)
  rw [hcond]
  by_cases hfull : seen = 2 ^ n - 1
  · rw [decide_eq_true hfull, if_pos rfl]
    have hB5 := hB.ext S5.keep
    refine wpAny_execs_cons <| wpAny_Return_some <| List_ <| args_cons <| wpAny_Constant_int <| args_cons <| IfExp_ <| isTrue_plain <| bt_item hB5 (by omega) hl hf (fun t Q' k => ldL S5 M5.beats (k _)) (fun t Q' k => ldL S5 (upd_ne (upd_ne upd_eq)) (k _ _)) (fun t Q' k => ldL S5 upd_eq (k _ _)) fun t6 => wpAny_truthy_bool ?_
    by_cases hb : bt last first = true
    · rw [if_pos hb]
      refine wpAny_Constant_int <| args_nil <| new_list S5 (fun h6 e6 S6 => q h6 _ _ S6.keep (S6.isNew (.head _)) ?_) (by simp)
      rw [wk_full hfull, if_pos hb]; obtain ⟨o, q1, q2⟩ := S6.get (.head _); exact ⟨_, _, o, q1, q2⟩
    · rw [if_neg hb]
      refine wpAny_Constant_int <| args_nil <| new_list S5 (fun h6 e6 S6 => q h6 _ _ S6.keep (S6.isNew (.head _)) ?_) (by simp)
      rw [wk_full hfull, if_neg hb]; obtain ⟨o, q1, q2⟩ := S6.get (.head _); exact ⟨_, _, o, q1, q2⟩
  · rw [decide_eq_false hfull, if_neg (by decide)]
    obtain ⟨f', hf'⟩ : ∃ f', fuel = f' + 1 := by
      cases fuel with
      | zero => exact absurd (full_of_cnt hs (by omega)) hfull
      | succ f => exact ⟨f, rfl⟩
    refine wpAny_execs_nil <| wpAny_execs_cons <| wpAny_Assign_Name <| List_ <| args_cons <| wpAny_Constant_int <| args_cons <| wpAny_Constant_int <| args_nil <| new_list S5 (fun h6 e6 S6 => stL S6 fun h7 S7 => ?_) (by simp)
    refine wpAny_execs_cons ?_
    refine forRange (a := 0) (n := n) (fun k m cs _ => WJ B n last seen first (wkPart n bt first f' last seen k) m cs) hh S7 (evr1 (X.keeps S7.keep) fun t Q' k => ldL S7 (upd_ne (upd_ne (upd_ne (upd_ne upd_eq)))) (k _ _)) (by decide) (by decide) (by omega) ⟨M5.upd _ _, _, _, _, upd_eq, rfl⟩ ?_ ?_
    · exact fun k m cs z' h8 t8 t₀ I E' hk J S8 => walks_turn hn hf hh (by rw [← hf']; exact hroom) X hB hl hs (by omega) (ih f' hf') hk J S8
    · rintro m cs z' h8 t8 ⟨M8, l, tp, tc, hl8, rfl⟩ S8
      refine wpAny_execs_cons <| wpAny_Return_some <| ldL S8 hl8 ?_
      refine q h8 l _ S8.keep (S8.isNew (.head _)) ?_
      rw [hf', wk_succ hfull]; exact ⟨_, _, S8.get (.head _)⟩
theorem walks_call {B : Addr} {n first : Nat} {bt : Nat → Nat → Bool} (hn : n ≤ 20) (hf : first < n) (fuel : Nat) : WalksP w gs d os B n first bt fuel := by
  induction fuel with
  | zero => exact @walks_step w gs d os B n first bt hn hf 0 fun f' e => absurd e (by omega)
  | succ f ih =>
    refine @walks_step w gs d os B n first bt hn hf (f + 1) fun f' e => ?_
    have : f = f' := by omega
    subst this
    exact @ih
end
end Mine
open PySem PySem.W PySem.W.X PyProof.Rows
set_option Elab.async false
set_option maxRecDepth 100000
set_option maxHeartbeats 4000000
namespace Mine
/-- the heap without some objects -/
noncomputable def wout (h : Heap) : List Addr → Heap
  | [] => h
  | a :: r => (wout h r).update a fun o => { o with data := .freed }
theorem get_freed (h : Heap) (a : Addr) : (h.update a fun o => { o with data := .freed }).get? a = none := by
  cases h with
  | mk objs l =>
    simp only [Heap.update, Heap.get?, Array.getElem?_modify, if_true]
    cases objs[a]? with
    | none => rfl
    | some o => rfl
theorem wout_in (h : Heap) : ∀ (l : List Addr) (a : Addr), a ∈ l → (wout h l).get? a = none
  | [], _, hm => nomatch hm
  | b :: r, a, hm => by
    unfold wout
    by_cases e : a = b
    · subst e; exact get_freed _ _
    · rw [Heap.get?_update_ne _ _ _ _ e]
      rcases List.mem_cons.mp hm with q | q
      · exact absurd q e
      · exact wout_in h r a q
theorem wout_out (h : Heap) : ∀ (l : List Addr) (a : Addr), a ∉ l → (wout h l).get? a = h.get? a
  | [], _, _ => rfl
  | b :: r, a, hm => by
    unfold wout
    have e : a ≠ b := fun e => hm (e ▸ List.mem_cons_self ..)
    rw [Heap.get?_update_ne _ _ _ _ e]
    exact wout_out h r a fun q => hm (List.mem_cons_of_mem _ q)
theorem Sta.reground {g : Heap} {L : Addr} {m : MT} {ds cs : List Own} {z : Nat} {h : Heap} (S : Sta g L m (ds ++ cs) z h) :
    ∃ g', Ext g g' ∧ Ext g' h ∧ Sta g' L m cs z h ∧ (∀ p ∈ ds, ∃ o, g'.get? p.1 = some o ∧ p.2 o) ∧ ∀ a o, h.get? a = some o → a ≠ L → a ∉ cs.map (·.1) → g'.get? a = some o := by
  have out : ∀ a o, h.get? a = some o → a ≠ L → a ∉ cs.map (·.1) → (wout h (L :: cs.map (·.1))).get? a = some o := fun a o e h1 h2 => by
    rw [wout_out _ _ _ (fun q => (List.mem_cons.mp q).elim h1 h2)]; exact e
  have back : Ext (wout h (L :: cs.map (·.1))) h := fun a o e => by
    by_cases q : a ∈ L :: cs.map (·.1)
    · rw [wout_in _ _ _ q] at e; cases e
    · rw [wout_out _ _ _ q] at e; exact e
  have nd := S.nd
  rw [List.map_append, List.nodup_append] at nd
  refine ⟨wout h (L :: cs.map (·.1)), fun a o e => out a o (S.keep _ _ e) ?_ ?_, back, ⟨S.ns, back, wout_in _ _ _ (List.mem_cons_self ..), ?_, nd.2.1, S.size⟩, ?_, out⟩
  · rintro rfl; rw [S.offL] at e; cases e
  · intro q
    obtain ⟨p, hp, rfl⟩ := List.mem_map.mp q
    obtain ⟨_, _, _, q3, _⟩ := S.own p (List.mem_append_right _ hp)
    rw [q3] at e; cases e
  · intro p hp
    obtain ⟨o, q1, q2, q3, q4⟩ := S.own p (List.mem_append_right _ hp)
    exact ⟨o, q1, q2, wout_in _ _ _ (List.mem_cons_of_mem _ (List.mem_map_of_mem (f := (·.1)) hp)), q4⟩
  · intro p hp
    obtain ⟨o, q1, q2, q3, q4⟩ := S.own p (List.mem_append_left _ hp)
    exact ⟨o, out _ _ q1 q4 (fun q => nd.2.2 _ (List.mem_map_of_mem (f := (·.1)) hp) _ q rfl), q2⟩
/-- two new objects -/
theorem Sta.gain2 {g : Heap} {L x y : Addr} {m : MT} {cs : List Own} {z : Nat} {h h' : Heap} {P P' : Obj → Prop} (S : Sta g L m cs z h) (e : Ext h h') (hx : ∃ o, h'.get? x = some o ∧ P o) (hy : ∃ o, h'.get? y = some o ∧ P' o) (nx : h.get? x = none) (ny : h.get? y = none) (hxy : x ≠ y) :
    Sta g L m ((x, P) :: (y, P') :: cs) h'.objs.size h' := by
  have S1 := S.gain e hy ny
  have S2 := S.gain e hx nx
  refine ⟨S1.ns, S1.keep, S1.offL, ?_, ?_, rfl⟩
  · intro p hp
    rcases List.mem_cons.mp hp with rfl | hp
    · exact S2.own _ (List.mem_cons_self ..)
    · exact S1.own _ hp
  · have n1 := S1.nd
    have n2 := List.nodup_cons.mp (by have := S2.nd; rw [List.map_cons] at this; exact this)
    rw [List.map_cons]
    refine List.nodup_cons.mpr ⟨fun q => ?_, n1⟩
    rw [List.map_cons] at q
    rcases List.mem_cons.mp q with q | q
    · exact hxy q
    · exact n2.1 q
end Mine
open PySem PySem.W PySem.W.X PyProof.Rows
set_option Elab.async false
set_option maxRecDepth 100000
set_option maxHeartbeats 4000000
namespace Mine
abbrev lEnv (z : Nat) : Env := fnEnv (fdFn "law" 7 207 51) z 52
abbrev lA (z : Nat) : Around := callerA.deeper (lEnv z)
abbrev lS (i : Nat) : Stmt := nth (sBody (top 7)) i
def base (z n : Nat) (tn : Tok) (T C : Addr) (va vb : Option Value) : List Own := [(z + 5, CellP vb), (z + 4, CellP va), (z + 3, CellP (some (.ref C))), (z + 2, CellP (some (.ref T))), (z + 1, CellP (some (.int n tn)))]
structure Law (w : World) (ka : KAdr) (kt : KTok) (cf T : Addr) (n : Nat) (tb : Nat → Nat → Int) (g : Heap) : Prop where
  K : Keyed w g ka kt cf T n tb
  tour : Tourn n tb
  lo : 3 ≤ n
  hi : n ≤ 7
theorem Law.ext {w : World} {ka : KAdr} {kt : KTok} {cf T : Addr} {n : Nat} {tb : Nat → Nat → Int} {g g' : Heap} (x : Law w ka kt cf T n tb g) (e : Ext g g') : Law w ka kt cf T n tb g' := ⟨x.K.ext e, x.tour, x.lo, x.hi⟩
def IsKeys (g : Heap) (KL C : Addr) (n : Nat) : Prop := ∃ xs : List Addr, xs.length = n ∧ (∃ o, g.get? KL = some o ∧ ListP (xs.map Value.ref) o) ∧ ∀ (i : Nat) (x : Addr), xs[i]? = some x → IsInst g x C i
theorem IsKeys.ext {g g' : Heap} {KL C : Addr} {n : Nat} (x : IsKeys g KL C n) (e : Ext g g') : IsKeys g' KL C n := by
  obtain ⟨xs, h1, ⟨o, h2, h3⟩, h4⟩ := x
  exact ⟨xs, h1, ⟨o, e _ _ h2, h3⟩, fun i x q => (h4 i x q).ext e⟩
theorem k_keep {H : Nat → Int} {a : KAdr} {t : KTok} {h : Heap} (k : All (KD H a t) h) : keepIn (KD H a t) (.ref a.C) = true := by
  unfold keepIn
  dsimp only
  rw [kC k]
  show (specialIn _ _ _ == _) = true
  unfold specialIn
  rw [t_C k, Option.bind_some]
  kernel_rfl
noncomputable def kOwn (C : Addr) : List (Addr × Addr × Tok) → List Own
  | [] => []
  | p :: r => (p.1, IsP (oInst C p.2.1 r.length p.2.2)) :: (p.2.1, fun _ => True) :: kOwn C r
theorem kOwn_at {C : Addr} : ∀ (ks : List (Addr × Addr × Tok)) (i : Nat) (x : Addr), (ks.map (·.1)).reverse[i]? = some x → ∃ dx tk, (x, IsP (oInst C dx i tk)) ∈ kOwn C ks ∧ (dx, fun _ => True) ∈ kOwn C ks
  | [], i, x, h => by simp at h
  | p :: r, i, x, h => by
    rw [List.map_cons, List.reverse_cons] at h
    by_cases hi : i < (r.map (·.1)).reverse.length
    · rw [List.getElem?_append_left hi] at h
      obtain ⟨dx, tk, a, b⟩ := kOwn_at (C := C) r i x h
      exact ⟨dx, tk, .tail _ (.tail _ a), .tail _ (.tail _ b)⟩
    · rw [List.getElem?_append_right (by omega)] at h
      have hl : (r.map (·.1)).reverse.length = r.length := by simp
      obtain ⟨h1, h2⟩ := List.getElem?_eq_some_iff.mp h
      rw [List.length_singleton] at h1
      have hi' : i = r.length := by omega
      subst hi'
      have : x = p.1 := by rw [← h2]; simp
      subst this
      exact ⟨p.2.1, p.2.2, .head _, .tail _ (.head _)⟩
def JKeys (C : Addr) (bs : List Own) (k : Nat) (vs : List Value) (_ : MT) (pre cs : List Own) (_ : Nat) : Prop :=
  ∃ ks : List (Addr × Addr × Tok), ks.length = k ∧ vs = ((ks.map (·.1)).reverse).map Value.ref ∧ pre = [] ∧ cs = kOwn C ks ++ bs
section
variable {w : World} {E : Value → Shared → Prop} {h : Heap} {gs : Array GenState} {d : Drawn} {t : Nat} {os : OsState} {ka : KAdr} {kt : KTok} {cf T : Addr} {n : Nat} {tn : Tok} {tb : Nat → Nat → Int} {g : Heap} {z zz : Nat} {m : MT} {va vb : Option Value} {rest : List Stmt} {P : Flow → Shared → Prop}
theorem st3 (Lw : Law w ka kt cf T n tb g) (S : Sta g z m (base z n tn T ka.C va vb) zz h)
    (k : ∀ g' KL zz' h' t', Ext g g' → Sta g' z (upd m (Str.ofString "keys") (.ref KL)) (base z n tn T ka.C va vb) zz' h' → IsKeys g' KL ka.C n → wpAny (model PG w) (lA z) (execs rest (lEnv z)) P E ⟨h', gs, d, t', os⟩) :
    wpAny (model PG w) (lA z) (execs (lS 3 :: rest) (lEnv z)) P E ⟨h, gs, d, t, os⟩ := by
  have hX := Lw.K.X
  have hlo := Lw.lo
  have hhi := Lw.hi
  refine wpAny_execs_cons ?_
  refine compU (cl := [(Str.ofString "maker", z + 3)]) (pre₀ := []) (a := 0) (n := n) (JKeys ka.C (base z n tn T ka.C va vb)) rfl S (evr1 (hX.keeps S.keep) fun t Q' k => ldC S (.tail _ (.tail _ (.tail _ (.tail _ (.head _))))) (k _ _)) (by decide) (by decide) (by omega) (by with_unfolding_all rfl) (fun _ => rfl) ⟨[], rfl, rfl, rfl, rfl⟩ ?_ ?_ ?_
  · rintro k vs mC pre cs z' ⟨ks, h1, rfl, _⟩; simp [h1]
  · rintro k vs mC pre cs z' h5 t5 t₀ E' hk ⟨ks, h1, rfl, rfl, rfl⟩ S5
    rw [show (0 : Int) + (k : Int) = k from by omega]
    refine stL S5 fun h6 S6 => tests_nil ?_
    rw [if_pos rfl]
    obtain ⟨o, ho, hd⟩ := S6.get (a := z + 3) (P := CellP (some (.ref ka.C))) (by simp [base])
    have K6 := Lw.K.ext S6.keep
    obtain ⟨H, hall⟩ := kd_all K6.K K6.X
    refine Call_ <| ldCo ho hd <| callWith_K (in_of_all hall) (k_keep hall) <| args_cons <| ldL S6 upd_eq <| args_nil ⟨in_of_all hall, ?_⟩
    refine maker K6.K K6.X fun h7 x dx od t7 e7 q1 q2 q3 q4 q5 => ?_
    have S7 := S6.gain2 (P := IsP (oInst ka.C dx k t₀)) (P' := fun _ => True) e7 ⟨_, q1, rfl⟩ ⟨_, q2, trivial⟩ q3 q4 q5
    refine ⟨_, [], kOwn ka.C ((x, dx, t₀) :: ks) ++ base z n tn T ka.C va vb, _, h7, t7, rfl, S7.perm ?_, (x, dx, t₀) :: ks, by simp [h1], by simp, rfl, rfl⟩
    rw [List.nil_append, List.nil_append]
    rw [show kOwn ka.C ((x, dx, t₀) :: ks) = (x, IsP (oInst ka.C dx ks.length t₀)) :: (dx, fun _ => True) :: kOwn ka.C ks from rfl, h1]
    exact List.perm_append_comm_assoc _ [(x, IsP (oInst ka.C dx k t₀)), (dx, fun _ => True)] _
  · rintro vs mC pre cs z' h5 t5 ⟨ks, h1, rfl, rfl, rfl⟩ S5
    rw [← List.cons_append] at S5
    obtain ⟨g', e1, e2, S6, f1, f2⟩ := S5.reground
    refine k g' _ _ h5 _ e1 S6 ⟨(ks.map (·.1)).reverse, by simp [h1], f1 _ (.head _), fun i x hx => ?_⟩
    obtain ⟨dx, tk, a1, a2⟩ := kOwn_at (C := ka.C) ks i x hx
    obtain ⟨o1, b1, b2⟩ := f1 _ (.tail _ a1)
    obtain ⟨o2, c1, _⟩ := f1 _ (.tail _ a2)
    exact ⟨dx, tk, o2, by rw [b1, show o1 = _ from b2], c1⟩
end
end Mine
open PySem PySem.W PySem.W.X PyProof.Rows
set_option Elab.async false
set_option maxRecDepth 100000
set_option maxHeartbeats 4000000
namespace Mine
section
variable {z n : Nat} {tn : Tok} {T C : Addr} {va vb : Option Value}
theorem bn : (z + 1, CellP (some (.int n tn))) ∈ base z n tn T C va vb := by simp [base]
theorem bT : (z + 2, CellP (some (.ref T))) ∈ base z n tn T C va vb := by simp [base]
theorem bM : (z + 3, CellP (some (.ref C))) ∈ base z n tn T C va vb := by simp [base]
theorem bA : (z + 4, CellP va) ∈ base z n tn T C va vb := by simp [base]
theorem bB : (z + 5, CellP vb) ∈ base z n tn T C va vb := by simp [base]
end
theorem ns_lt (P : Params) : nsIn (KB P) mainGlobals (Str.ofString "_lt_from_gt") = some (some (.ref 21)) := by kernel_rfl
def EntB (vals : List (List Value)) (n : Nat) (f : Nat → Nat → Bool) : Prop := vals.length = n ∧ ∀ a, a < n → ∃ vs, vals[a]? = some vs ∧ vs.length = n ∧ ∀ b, b < n → vs[b]? = some (.bool (f a b))
def upB (f : Nat → Nat → Bool) (a b : Nat) (s : Bool) : Nat → Nat → Bool := fun x y => if x = a ∧ y = b then s else f x y
theorem EntB.set {vals : List (List Value)} {n a b : Nat} {f : Nat → Nat → Bool} {vs : List Value} {s : Bool} (x : EntB vals n f) (ha : a < n) (hb : b < n) (e : vals[a]? = some vs) : EntB (vals.set a (vs.set b (.bool s))) n (upB f a b s) := by
  refine ⟨by rw [List.length_set]; exact x.1, fun a' ha' => ?_⟩
  obtain ⟨vs', h1, h2, h3⟩ := x.2 a' ha'
  by_cases haa : a' = a
  · subst haa
    rw [e] at h1; cases h1
    refine ⟨vs.set b (.bool s), by rw [List.getElem?_set_self (by rw [x.1]; exact ha)], by rw [List.length_set]; exact h2, fun b' hb' => ?_⟩
    by_cases hbb : b' = b
    · subst hbb
      rw [List.getElem?_set_self (by rw [h2]; exact hb)]; simp [upB]
    · rw [List.getElem?_set_ne (Ne.symm hbb), h3 b' hb']; simp [upB, hbb]
  · refine ⟨vs', by rw [List.getElem?_set_ne (Ne.symm haa), h1], h2, fun b' hb' => ?_⟩
    rw [h3 b' hb']; simp [upB, haa]
def J5 (z n : Nat) (tn : Tok) (T C KL BL : Addr) (tb : Nat → Nat → Int) (pa : Option Value → Prop) (k j : Nat) (m : MT) (cs : List Own) : Prop :=
  m (Str.ofString "keys") = some (.ref KL) ∧ m (Str.ofString "beats") = some (.ref BL) ∧ ∃ va vb rs vals f, pa va ∧ rs.length = n ∧ EntB vals n f ∧ (∀ a b, a < n → b < n → (a < k ∨ (a = k ∧ b < j)) → f a b = decide (tb a b = 1)) ∧
    cs = base z n tn T C va vb ++ ((BL, ListP (rs.map Value.ref)) :: rowsOwn rs vals)
section
variable {w : World} {A : Around} {E : Value → Shared → Prop} {h : Heap} {gs : Array GenState} {d : Drawn} {t : Nat} {os : OsState} {ka : KAdr} {kt : KTok} {cf T : Addr} {n : Nat} {tn : Tok} {tb : Nat → Nat → Int} {g : Heap} {z zz : Nat} {m : MT} {va vb : Option Value} {rest : List Stmt} {P : Flow → Shared → Prop} {env : Env}
abbrev EvV (w : World) (A : Around) (E : Value → Shared → Prop) (env : Env) (gs : Array GenState) (d : Drawn) (os : OsState) (e : Expr) (h : Heap) (v : Value) : Prop :=
  ∀ (t : Nat) (Q' : Value → Shared → Prop), (∀ t', Q' v ⟨h, gs, d, t', os⟩) → wpAny (model PG w) A (eval e env) Q' E ⟨h, gs, d, t, os⟩
/-- an item of a list, whole -/
theorem sub1 {e1 e2 : Expr} {p : Pos} {l : Addr} {vs : List Value} {k : Nat} {x : Value} {Q : Value → Shared → Prop} (h1 : EvV w A E env gs d os e1 h (.ref l)) (h2 : EvI w A E env gs d os e2 h k) (hl : ∃ o, h.get? l = some o ∧ ListP vs o) (hk : k < 1000000) (hx : vs[k]? = some x) (q : ∀ t, Q x ⟨h, gs, d, t, os⟩)
    (hs : ∀ l k u, subscripted e2 false (.ref l) (.int k u) = operate [.ref l, .int k u] (getItem (.ref l) (.int k u)) := by intro _ _ _; with_unfolding_all rfl) :
    wpAny (model PG w) A (eval (.Subscript e1 e2 p) env) Q E ⟨h, gs, d, t, os⟩ :=
  Subscript_ <| h1 _ _ fun t' => h2 _ _ fun t'' tk => item hl (by omega) (by omega) (by simpa using hx) (q _) (hs _ _ _)
theorem key_item {KL C : Addr} {k : Nat} (x : IsKeys h KL C n) (hk : k < n) : ∃ vs y, (∃ o, h.get? KL = some o ∧ ListP vs o) ∧ vs[k]? = some (.ref y) ∧ IsInst h y C k := by
  obtain ⟨xs, h1, h2, h3⟩ := x
  have e : xs[k]? = some xs[k] := by simp [h1, hk]
  exact ⟨_, xs[k], h2, by rw [List.getElem?_map, e]; rfl, h3 k _ e⟩
theorem st4 (Lw : Law w ka kt cf T n tb g) (S : Sta g z m (base z n tn T ka.C va vb) zz h)
    (k : ∀ BL rs vals zz' h' t', rs.length = n → EntB vals n (fun _ _ => false) → Sta g z (upd m (Str.ofString "beats") (.ref BL)) (base z n tn T ka.C va vb ++ ((BL, ListP (rs.map Value.ref)) :: rowsOwn rs vals)) zz' h' → wpAny (model PG w) (lA z) (execs rest (lEnv z)) P E ⟨h', gs, d, t', os⟩) :
    wpAny (model PG w) (lA z) (execs (lS 4 :: rest) (lEnv z)) P E ⟨h, gs, d, t, os⟩ := by
  have hX := Lw.K.X
  have hlo := Lw.lo
  have hhi := Lw.hi
  refine wpAny_execs_cons ?_
  refine compU (cl := [(Str.ofString "n", z + 1)]) (pre₀ := []) (a := 0) (n := n) (JRows (fun _ => .bool false) n (base z n tn T ka.C va vb) (zz + 4)) rfl S (evr1 (hX.keeps S.keep) fun t Q' k => ldC S bn (k _ _)) (by decide) (by decide) (by omega) (by with_unfolding_all rfl) (fun _ => rfl) JRows.zero (fun _ _ _ _ _ _ j => j.len) ?_ ?_
  · intro k vs mC pre cs z' h5 t5 t₀ E' hk j S5
    refine stL S5 fun h6 S6 => tests_nil ?_
    rw [if_pos rfl]
    obtain ⟨o, ho, hd⟩ := S6.get (a := z + 1) (P := CellP (some (.int n tn))) (by obtain ⟨rs, vals, _, _, _, _, rfl, rfl, _⟩ := j; simp [base])
    refine list1_mul (n := n) S6 (by omega) (fun Q' k => Constant_bool (k _)) (fun h' t Q' e k => ldCo (e _ _ ho) hd (k _ _)) fun h7 t7 S7 => ?_
    exact j.step (v := fun _ => .bool false) (tk := 0) S7
  · rintro vs mC pre cs z' h5 t5 ⟨rs, vals, l1, l2, l3, rfl, rfl, rfl, rfl⟩ S5
    refine k (zz + 2) rs vals _ h5 _ l1 ⟨l2, fun a ha => ?_⟩ (S5.perm ?_)
    · obtain ⟨_, e⟩ := l3 a ha
      exact ⟨_, e, List.length_replicate .., fun b hb => by rw [List.getElem?_replicate, if_pos hb]⟩
    · exact (List.perm_middle).trans ((List.perm_cons _).mpr List.perm_append_comm)
end
end Mine
open PySem PySem.W PySem.W.X PyProof.Rows
set_option Elab.async false
set_option maxRecDepth 100000
set_option maxHeartbeats 4000000
namespace Mine
theorem lA_room (z : Nat) : (lA z).depth + 2 < recursionLimit := by show callerA.depth + 1 + 2 < recursionLimit; decide
theorem lA_units (z : Nat) : (lA z).units + 4 < cLine := by show callerA.units + 3 + 4 < cLine; decide
theorem rowsOwn_at0 {rs : List Addr} {vals : List (List Value)} {a : Nat} {r : Addr} {vs : List Value} (h1 : rs[a]? = some r) (h2 : vals[a]? = some vs) : (rowsOwn rs vals)[a]? = some (r, ListP vs) := by
  have := rowsOwn_at (cs := []) h1 h2
  rwa [List.append_nil] at this
theorem rowsOwn_set0 {rs : List Addr} {vals : List (List Value)} {a : Nat} {r : Addr} {vs vs' : List Value} (h1 : rs[a]? = some r) (h2 : vals[a]? = some vs) : (rowsOwn rs vals).set a (r, ListP vs') = rowsOwn rs (vals.set a vs') := by
  have := rowsOwn_set (cs := []) (vs' := vs') h1 h2
  rwa [List.append_nil, List.append_nil] at this
theorem Tourn.lt_iff {n : Nat} {tb : Nat → Nat → Int} (x : Tourn n tb) {a b : Nat} (ha : a < n) (hb : b < n) : decide (tb b a < 0) = decide (tb a b = 1) := by
  have h1 := x.anti a b ha hb
  by_cases e : a = b
  · subst e
    have := x.diag a ha
    rw [this]; rfl
  · rcases x.sign a b ha hb e with q | q <;> rw [h1, q] <;> rfl
section
variable {w : World} {A : Around} {E : Value → Shared → Prop} {h : Heap} {gs : Array GenState} {d : Drawn} {t : Nat} {os : OsState} {ka : KAdr} {kt : KTok} {cf T : Addr} {n : Nat} {tn : Tok} {tb : Nat → Nat → Int} {g : Heap} {z zz : Nat} {m : MT} {va vb : Option Value} {rest : List Stmt} {P : Flow → Shared → Prop} {env : Env}
theorem lt_is {x y : Addr} {a b : Nat} {c : Bool} {Q : Value → Shared → Prop} (e : decide (tb a b < 0) = c) (hroom : A.depth + 2 < recursionLimit) (hu : A.units + 4 < cLine) (k : Keyed w h ka kt cf T n tb) (ha : a < n) (hb : b < n) (Ix : IsInst h x ka.C a) (Iy : IsInst h y ka.C b)
    (q : ∀ h' t', Ext h h' → Q (.bool c) ⟨h', gs, d, t', os⟩) : wpAny (model PG w) A (call (.ref 21) [.ref x, .ref y]) Q E ⟨h, gs, d, t, os⟩ := lt_call hroom hu k ha hb Ix Iy (by rw [e]; exact q)
def J5i (z n : Nat) (tn : Tok) (T C KL BL : Addr) (tb : Nat → Nat → Int) (k : Nat) (I : Own) (j : Nat) (m : MT) (cs : List Own) : Prop := ∃ cs', cs = I :: cs' ∧ J5 z n tn T C KL BL tb (fun va => ∃ ta, va = some (.int k ta)) k j m cs'
theorem t5i {R : Result → Shared → Prop} {KL BL : Addr} {k j z' : Nat} {t₀ : Tok} {I I' : Own} {cs : List Own} (Lw : Law w ka kt cf T n tb g) (hKeys : IsKeys g KL ka.C n) (hk : k < n) (hj : j < n) (J : J5i z n tn T ka.C KL BL tb k I j m cs) (S : Sta g z m (I' :: cs) z' h) :
    wpAny (model PG w) (lA z) (storeName (lEnv z) (Str.ofString "b") (.int (0 + j) t₀)) (fun _ s₂ => wpAny (model PG w) (lA z) (execs (sBody (nth (sBody (lS 5)) 1)) (lEnv z))
      (ForEnd g z I' gs d os (fun m cs _ => J5i z n tn T ka.C KL BL tb k I (j + 1) m cs) R) E s₂) E ⟨h, gs, d, t, os⟩ := by
  obtain ⟨cs', rfl, hK, hBl, va, vb, rs, vals, f, ⟨ta, rfl⟩, l1, l2, l3, rfl⟩ := J
  have hhi := Lw.hi
  rw [show (0 : Int) + (j : Int) = j from by omega]
  refine stC (i := 2) S rfl fun h1 S1 => ?_
  have S1 : Sta g z m (I' :: I :: (base z n tn T ka.C (some (.int k ta)) (some (.int j t₀)) ++ ((BL, ListP (rs.map Value.ref)) :: rowsOwn rs vals))) z' h1 := S1
  have K1 := hKeys.ext S1.keep
  obtain ⟨ks, xj, a1, a2, a3⟩ := key_item K1 hj
  obtain ⟨ks', xk, b1, b2, b3⟩ := key_item K1 hk
  have LK := Lw.K.ext S1.keep
  have mb : ∀ {p : Own}, p ∈ base z n tn T ka.C (some (.int k ta)) (some (.int j t₀)) → p ∈ (I' :: I :: (base z n tn T ka.C (some (.int k ta)) (some (.int j t₀)) ++ ((BL, ListP (rs.map Value.ref)) :: rowsOwn rs vals))) := fun hp => .tail _ (.tail _ (List.mem_append_left _ hp))
  refine wpAny_execs_cons <| wpAny_Assign_Subscript <| Call_ <| ldG LK.X (ns_lt _) <| callWith_def (o := oFnM "_lt_from_gt" 1 "cpy313.functools" 187 20) rfl <| args_cons <|
    sub1 (fun t Q' q => ldL S1 hK (q _)) (fun t Q' q => ldC S1 (mb bB) (q _ _)) a1 (by omega) a2 fun t2 => args_cons <|
    sub1 (fun t Q' q => ldL S1 hK (q _)) (fun t Q' q => ldC S1 (mb bA) (q _ _)) b1 (by omega) b2 fun t3 => args_nil ⟨LK.X _ _ (fn_lt _), ?_⟩
  refine lt_is (Lw.tour.lt_iff hk hj) (lA_room z) (lA_units z) LK hj hk a3 b3 fun h2 t4 e2 => ?_
  have S2 := S1.ext e2 rfl
  obtain ⟨vs, e1, e2', e3⟩ := l2.2 k hk
  have q1 : rs[k]? = some rs[k] := by simp [l1, hk]
  refine sub1 (x := .ref rs[k]) (fun t Q' q => ldL S2 hBl (q _)) (fun t Q' q => ldC S2 (mb bA) (q _ _)) (S2.get (.tail _ (.tail _ (List.mem_append_right _ (.head _))))) (by omega) (by rw [List.getElem?_map, q1]; rfl) fun t5 => ?_
  refine ldC S2 (mb bB) <| set_item (i := k + 8) S2 (vs := vs) (rowsOwn_at0 q1 e1) (by omega) (by omega) fun h3 S3 => ?_
  have S3 : Sta g z m (I' :: I :: (base z n tn T ka.C (some (.int k ta)) (some (.int j t₀)) ++ ((BL, ListP (rs.map Value.ref)) :: (rowsOwn rs vals).set k (rs[k], ListP (vs.set j (.bool (decide (tb k j = 1)))))))) _ h3 := S3
  rw [rowsOwn_set0 q1 e1] at S3
  have r4 := l2.set hk hj e1 (s := decide (tb k j = 1))
  obtain ⟨vs2, f1, f2, f3⟩ := r4.2 k hk
  have mb3 : ∀ {p : Own}, p ∈ base z n tn T ka.C (some (.int k ta)) (some (.int j t₀)) → p ∈ (I' :: I :: (base z n tn T ka.C (some (.int k ta)) (some (.int j t₀)) ++ ((BL, ListP (rs.map Value.ref)) :: rowsOwn rs (vals.set k (vs.set j (.bool (decide (tb k j = 1)))))))) := fun hp => .tail _ (.tail _ (List.mem_append_left _ hp))
  obtain ⟨trows, tr, tvs, g1, g2, g3, g4⟩ := (Lw.K.T.ext S3.keep).row hk
  obtain ⟨tkk, g5⟩ := g4 j hj
  have hfv : upB f k j (decide (tb k j = 1)) k j = decide (tb k j = 1) := if_pos ⟨rfl, rfl⟩
  refine wpAny_execs_cons <| wpAny_If <| wpAny_isTrue_Compare1 <|
    sub1 (x := .bool (decide (tb k j = 1))) (fun t Q' q => sub1 (x := .ref rs[k]) (fun t Q' q => ldL S3 hBl (q _)) (fun t Q' q => ldC S3 (mb3 bA) (q _ _)) (S3.get (.tail _ (.tail _ (List.mem_append_right _ (.head _))))) (by omega) (by rw [List.getElem?_map, q1]; rfl) fun t5 => q _)
      (fun t Q' q => ldC S3 (mb3 bB) (q _ _)) (S3.get (.tail _ (.tail _ (List.mem_append_right _ (.tail _ (List.mem_of_getElem? (rowsOwn_at0 q1 f1))))))) (by omega) (by rw [f3 j hj, hfv]) fun t6 =>
    wpAny_Compare1 <| sub1 (fun t Q' q => sub1 (fun t Q' q => ldC S3 (mb3 bT) (q _)) (fun t Q' q => ldC S3 (mb3 bA) (q _ _)) g1 (by omega) g2 fun t5 => q _) (fun t Q' q => ldC S3 (mb3 bB) (q _ _)) g3 (by omega) g5 fun t7 =>
    wpAny_Constant_int <| PyProof.Rows.eq_int <| wpAny_isNot_plain rfl <| wpAny_truthy_bool ?_
  rw [show (!((Value.bool (decide (tb k j = 1))) == (Value.bool (tb k j == 1)))) = false from by rw [show (tb k j == 1) = decide (tb k j = 1) from rfl, beq_self_eq_true]; rfl, if_neg (by decide)]
  refine wpAny_execs_nil <| wpAny_execs_nil <| .next S3 ⟨_, rfl, hK, hBl, _, _, rs, _, _, ⟨ta, rfl⟩, l1, r4, fun a b ha hb hab => ?_, rfl⟩
  by_cases c : a = k ∧ b = j
  · obtain ⟨rfl, rfl⟩ := c; exact hfv
  · rw [show upB f k j (decide (tb k j = 1)) a b = f a b from if_neg c]
    exact l3 a b ha hb (by omega)
end
end Mine
open PySem PySem.W PySem.W.X PyProof.Rows
set_option Elab.async false
set_option maxRecDepth 100000
set_option maxHeartbeats 4000000
namespace Mine
section
variable {w : World} {A : Around} {E : Value → Shared → Prop} {h : Heap} {gs : Array GenState} {d : Drawn} {t : Nat} {os : OsState} {ka : KAdr} {kt : KTok} {cf T : Addr} {n : Nat} {tn : Tok} {tb : Nat → Nat → Int} {g : Heap} {z zz : Nat} {m : MT} {va vb : Option Value} {rest : List Stmt} {P : Flow → Shared → Prop} {env : Env}
theorem t5 {R : Result → Shared → Prop} {KL BL : Addr} {k z' : Nat} {t₀ : Tok} {I : Own} {cs : List Own} (Lw : Law w ka kt cf T n tb g) (hKeys : IsKeys g KL ka.C n) (hk : k < n) (J : J5 z n tn T ka.C KL BL tb (fun _ => True) k 0 m cs) (S : Sta g z m (I :: cs) z' h) :
    wpAny (model PG w) (lA z) (storeName (lEnv z) (Str.ofString "a") (.int (0 + k) t₀)) (fun _ s₂ => wpAny (model PG w) (lA z) (execs (sBody (lS 5)) (lEnv z))
      (ForEnd g z I gs d os (fun m cs _ => J5 z n tn T ka.C KL BL tb (fun _ => True) (k + 1) 0 m cs) R) E s₂) E ⟨h, gs, d, t, os⟩ := by
  obtain ⟨hK, hBl, va, vb, rs, vals, f, -, l1, l2, l3, rfl⟩ := J
  have hhi := Lw.hi
  rw [show (0 : Int) + (k : Int) = k from by omega]
  refine stC (i := 2) S rfl fun h1 S1 => ?_
  have S1 : Sta g z m (I :: (base z n tn T ka.C (some (.int k t₀)) vb ++ ((BL, ListP (rs.map Value.ref)) :: rowsOwn rs vals))) z' h1 := S1
  have K1 := hKeys.ext S1.keep
  obtain ⟨ks, xk, a1, a2, a3⟩ := key_item K1 hk
  have LK := Lw.K.ext S1.keep
  obtain ⟨H, hall⟩ := kd_all LK.K LK.X
  have mb : ∀ {p : Own}, p ∈ base z n tn T ka.C (some (.int k t₀)) vb → p ∈ (I :: (base z n tn T ka.C (some (.int k t₀)) vb ++ ((BL, ListP (rs.map Value.ref)) :: rowsOwn rs vals))) := fun hp => .tail _ (List.mem_append_left _ hp)
  refine wpAny_execs_cons <| wpAny_If <| wpAny_isTrue_Compare1 <| Call_ <| ldG LK.X (ns_lt _) <| callWith_def (o := oFnM "_lt_from_gt" 1 "cpy313.functools" 187 20) rfl <| args_cons <|
    sub1 (fun t Q' q => ldL S1 hK (q _)) (fun t Q' q => ldC S1 (mb bA) (q _ _)) a1 (by omega) a2 fun t2 => args_cons <|
    Call_ <| ldC S1 (mb bM) <| callWith_K (in_of_all hall) (k_keep hall) <| args_cons <| ldC S1 (mb bA) <| args_nil ⟨in_of_all hall, ?_⟩
  refine maker LK.K LK.X fun h2 x dx od t3 e2 q1 q2 q3 q4 q5 => args_nil ⟨LK.X.keeps e2 _ _ (fn_lt _), ?_⟩
  have S2 := S1.ext e2 rfl
  refine lt_is (c := false) (by rw [Lw.tour.diag k hk]; rfl) (lA_room z) (lA_units z) (LK.ext e2) hk hk (a3.ext e2) ⟨dx, _, od, q1, q2⟩ fun h3 t4 e3 => ?_
  have S3 := S2.ext e3 rfl
  refine Constant_bool <| wpAny_isNot_plain rfl <| wpAny_truthy_bool ?_
  rw [show (!((Value.bool false) == (Value.bool false))) = false from rfl, if_neg (by decide)]
  refine wpAny_execs_nil <| wpAny_execs_cons ?_
  refine forRange (a := 0) (n := n) (fun j m cs _ => J5i z n tn T ka.C KL BL tb k I j m cs) rfl S3 (evr1 (LK.X.keeps (e2.trans e3)) fun t Q' q => ldC S3 (mb bn) (q _ _)) (by decide) (by decide) (by omega) ⟨_, rfl, hK, hBl, _, _, rs, vals, f, ⟨_, rfl⟩, l1, l2, l3, rfl⟩ ?_ ?_
  · exact fun j m cs z' h10 t10 t₁ I' E'' hj J S10 => t5i Lw hKeys hk hj J S10
  · rintro m cs z' h8 t8 ⟨cs', rfl, hK, hBl, va, vb, rs, vals, f, ⟨ta, rfl⟩, l1, l2, l3, rfl⟩ S8
    exact wpAny_execs_nil <| .next S8 ⟨hK, hBl, _, _, rs, vals, f, trivial, l1, l2, fun a b ha hb hab => l3 a b ha hb (by omega), rfl⟩
theorem st5 {KL BL : Addr} {rs : List Addr} {vals : List (List Value)} {P : Flow → Shared → Prop} (Lw : Law w ka kt cf T n tb g) (hKeys : IsKeys g KL ka.C n) (hK : m (Str.ofString "keys") = some (.ref KL)) (hBl : m (Str.ofString "beats") = some (.ref BL))
    (l1 : rs.length = n) (l2 : EntB vals n fun _ _ => false) (S : Sta g z m (base z n tn T ka.C va vb ++ ((BL, ListP (rs.map Value.ref)) :: rowsOwn rs vals)) zz h)
    (k : ∀ g' m' va vb zz' h' t', Ext g g' → IsBt g' BL n (fun a b => decide (tb a b = 1)) → m' (Str.ofString "keys") = some (.ref KL) → m' (Str.ofString "beats") = some (.ref BL) → Sta g' z m' (base z n tn T ka.C va vb) zz' h' → wpAny (model PG w) (lA z) (execs rest (lEnv z)) P E ⟨h', gs, d, t', os⟩) :
    wpAny (model PG w) (lA z) (execs (lS 5 :: rest) (lEnv z)) P E ⟨h, gs, d, t, os⟩ := by
  have hhi := Lw.hi
  refine wpAny_execs_cons ?_
  refine forRange (a := 0) (n := n) (fun k m cs _ => J5 z n tn T ka.C KL BL tb (fun _ => True) k 0 m cs) rfl S (evr1 (Lw.K.X.keeps S.keep) fun t Q' q => ldC S (List.mem_append_left _ bn) (q _ _)) (by decide) (by decide) (by omega) ⟨hK, hBl, _, _, rs, vals, _, trivial, l1, l2, fun a b ha hb hab => by omega, rfl⟩ ?_ ?_
  · exact fun k m cs z' h10 t10 t₁ I E'' hk J S10 => t5 Lw hKeys hk J S10
  · rintro m cs z' h8 t8 ⟨hK, hBl, va, vb, rs, vals, f, -, l1, l2, l3, rfl⟩ S8
    obtain ⟨g', e1, e2, S9, f1, f2⟩ := (S8.perm (cs' := ((BL, ListP (rs.map Value.ref)) :: rowsOwn rs vals) ++ base z n tn T ka.C va vb) List.perm_append_comm).reground
    refine k g' m va vb _ h8 _ e1 ⟨rs, vals, l1, l2.1, fun a ha => ?_, f1 _ (.head _), fun a r vs x1 x2 => f1 _ (.tail _ (List.mem_of_getElem? (rowsOwn_at0 x1 x2)))⟩ hK hBl S9
    obtain ⟨vs, y1, y2, y3⟩ := l2.2 a ha
    exact ⟨vs, y1, y2, fun b hb => by rw [y3 b hb, l3 a b ha hb (by omega)]⟩
end
end Mine
open PySem PySem.W PySem.W.X PyProof.Rows
set_option Elab.async false
set_option maxRecDepth 100000
set_option maxHeartbeats 4000000
namespace Mine
section
variable {w : World} {A : Around} {E : Value → Shared → Prop} {h : Heap} {gs : Array GenState} {d : Drawn} {t : Nat} {os : OsState} {env : Env} {g : Heap} {L : Addr} {m : MT} {cs : List Own} {z : Nat}
/-- a slice of a list -/
theorem slice_own {e : Expr} {lo hi : Option Expr} {p p' : Pos} {l : Addr} {vs : List Value} {x y : Option Int} {Q : Value → Shared → Prop} (S : Sta g L m cs z h) (he : EvV w A E env gs d os e h (.ref l)) (hl : ∃ o, h.get? l = some o ∧ ListP vs o)
    (hx : ∀ (t : Nat) (Q' : Value → Shared → Prop), (∀ t' v, IsPart v x → Q' v ⟨h, gs, d, t', os⟩) → wpAny (model PG w) A (evalPart lo env) Q' E ⟨h, gs, d, t, os⟩)
    (hy : ∀ (t : Nat) (Q' : Value → Shared → Prop), (∀ t' v, IsPart v y → Q' v ⟨h, gs, d, t', os⟩) → wpAny (model PG w) A (evalPart hi env) Q' E ⟨h, gs, d, t, os⟩)
    (hsz : vs.length < 2 ^ 20) (q : ∀ h' t', Ext h h' → Sta g L m ((z + 1, ListP (slicePick vs.toArray x y none).toList) :: cs) (z + 2) h' → Q (.ref (z + 1)) ⟨h', gs, d, t', os⟩)
    (ht : ∀ o r, letTemporaryGo e o r = pure () := by intro _ _; rfl) :
    wpAny (model PG w) A (eval (.Subscript e (.Slice lo hi none p) p') env) Q E ⟨h, gs, d, t, os⟩ := by
  refine wpAny_Subscript_Slice list_getitem_lookup (he _ _ fun t1 => wpAny_Slice (hx _ _ fun t2 v1 hv1 => hy _ _ fun t3 v2 hv2 => wpAny_pure ?_)) ht
  have hz : h.objs.size = z := S.size
  have S1 := S.ext (Ext.push h { cls := .type "slice", data := .fields #[v1, v2, .none] }) (z' := z + 1) (by rw [Heap.size_push, hz])
  have hl1 : (h.push { cls := .type "slice", data := .fields #[v1, v2, .none] }).IsList l vs.toArray := (isList_of hl).push _
  refine ⟨hl1.typeIs, wpAny_getItem_list_slice hl1 (Heap.IsSliceOf.new ..) hv1 hv2 .none (by simp) ?_ (by rw [List.size_toArray, show sizeLine = 16777216 from rfl]; omega)⟩
  have S2 := S1.push { cls := .type "list", data := .seq (slicePick vs.toArray x y none) } (ListP (slicePick vs.toArray x y none).toList) ⟨rfl, 0, by simp⟩
  show Q (.ref (h.push _).objs.size) _
  rw [S1.size]
  exact q _ _ ((Ext.push _ _).trans (Ext.push _ _)) S2
/-- two lists joined -/
theorem add_own {l b : Addr} {vs ws : List Value} {Q : Value → Shared → Prop} (S : Sta g L m cs z h) (hl : ∃ o, h.get? l = some o ∧ ListP vs o) (hb : ∃ o, h.get? b = some o ∧ ListP ws o) (hsz : vs.length + ws.length < 2 ^ 20)
    (q : ∀ h', Ext h h' → Sta g L m ((z, ListP (vs ++ ws)) :: cs) (z + 1) h' → Q (.ref z) ⟨h', gs, d, t, os⟩) : wpAny (model PG w) A (binaryOp .Add (.ref l) (.ref b)) Q E ⟨h, gs, d, t, os⟩ := by
  obtain ⟨⟨cls, dd, data, sl⟩, ho, hc, n, hd⟩ := hl
  obtain ⟨⟨cls2, dd2, data2, sl2⟩, ho2, hc2, n2, hd2⟩ := hb
  simp only at hc hd hc2 hd2
  subst hc hd hc2 hd2
  have e : vs.toArray ++ ws.toArray = (vs ++ ws).toArray := by simp
  refine concat_meets ⟨_, ho, rfl⟩ ⟨_, ho2, rfl⟩ noFill_list_add seq_list_add PySem.F.slot_list_add PySem.F.entry_list_add (PySem.F.args_list_add_2 _ _) (list_addW l b vs.toArray ws.toArray n n2 dd dd2 sl sl2 (by rw [List.size_toArray, List.size_toArray, show sizeLine = 16777216 from rfl]; omega)) ⟨ho, ho2, ?_⟩
  rw [e]
  have S2 := S.push { cls := .type "list", data := .seq (vs ++ ws).toArray } (ListP (vs ++ ws)) ⟨rfl, 0, rfl⟩
  rw [S.size]
  exact q _ (Ext.push _ _) S2
theorem sum_own {l : Addr} {vs : List Value} {ns : List Int} {Q : Value → Shared → Prop} (S : Sta g L m cs z h) (hh : A.handled = none) (hl : ∃ o, h.get? l = some o ∧ ListP vs o) (hi : IntsAre vs ns)
    (q : ∀ h' z' tk t', Ext h h' → Sta g L m cs z' h' → Q (.int ns.sum tk) ⟨h', gs, d, t', os⟩) : wpAny (model PG w) A (call (.builtin "sum") [.ref l]) Q E ⟨h, gs, d, t, os⟩ := by
  obtain ⟨xs, e⟩ := hi.allInts.items
  have hl' := isList_of hl
  rw [e] at hl'
  refine sum_intListG (s := ⟨h, gs, d, t, os⟩) hh hl' fun h' tk t' k => ?_
  have hns : ns = xs.toList.map (·.1) := by rw [← hi.numsOf, ← nums_intItems, ← e]
  rw [preSum_eq, List.take_of_length_le (by simp), ← hns]
  exact q h' _ t' tk k (S.ext k rfl)
theorem max_own {l : Addr} {vs : List Value} {ns : List Int} {Q : Value → Shared → Prop} (S : Sta g L m cs z h) (hh : A.handled = none) (hl : ∃ o, h.get? l = some o ∧ ListP vs o) (hi : IntsAre vs ns) (hne : 0 < ns.length)
    (q : ∀ h' z' M tk t', Ext h h' → Sta g L m cs z' h' → M ∈ ns → (∀ a, a ∈ ns → a ≤ M) → Q (.int M tk) ⟨h', gs, d, t', os⟩) : wpAny (model PG w) A (call (.builtin "max") [.ref l]) Q E ⟨h, gs, d, t, os⟩ := by
  obtain ⟨xs, e⟩ := hi.allInts.items
  have hl' := isList_of hl
  rw [e] at hl'
  have hns : ns = xs.toList.map (·.1) := by rw [← hi.numsOf, ← nums_intItems, ← e]
  have hsz : 0 < xs.size := by rw [hns, List.length_map, Array.length_toList] at hne; exact hne
  refine max_intList (s := ⟨h, gs, d, t, os⟩) hh hl' hsz fun v h' tk hv k => ?_
  obtain ⟨t', rfl⟩ := intItems_at hv
  obtain ⟨b1, b2⟩ := argBest_gt (numAt xs) (xs.size - 1)
  refine q h' _ _ t' tk k (S.ext k rfl) ?_ fun a ha => ?_
  · rw [numAt_eq, ← hns]
    have hlt : argBest (fun i j => decide (numAt xs i > numAt xs j)) (xs.size - 1) < ns.length := by rw [hns, List.length_map, Array.length_toList]; omega
    simp only [List.getD, List.getElem?_eq_getElem hlt, Option.getD_some]
    exact List.getElem_mem hlt
  · obtain ⟨j, hj⟩ := List.getElem?_of_mem ha
    have hj' := (List.getElem?_eq_some_iff.mp hj).1
    have := b2 j (by rw [hns, List.length_map, Array.length_toList] at hj'; omega)
    rw [numAt_eq xs j, ← hns, List.getD, hj] at this
    exact this
theorem sorted_own {l : Addr} {vs : List Value} {ns : List Int} {Q : Value → Shared → Prop} (S : Sta g L m cs z h) (hl : ∃ o, h.get? l = some o ∧ ListP vs o) (hi : IntsAre vs ns) (h64 : vs.length < 64)
    (q : ∀ h' l' z' vs' ns', Ext h h' → Sta g L m ((l', ListP vs') :: cs) z' h' → IntsAre vs' ns' → ns'.Perm ns → ns'.Pairwise (· ≤ ·) → Q (.ref l') ⟨h', gs, d, t, os⟩) : wpAny (model PG w) A (call (.builtin "sorted") [.ref l]) Q E ⟨h, gs, d, t, os⟩ := by
  refine sorted_ints (s := ⟨h, gs, d, t, os⟩) (isList_of hl) hi h64 fun out ns' a1 a2 a3 => ?_
  obtain ⟨e, he⟩ := sortedAll_at h vs out
  have ex : Ext h (sortedAll h vs out) := fun _ _ => sortedAll_old
  refine q _ _ _ out.toList ns' ex (S.gain ex ⟨_, he, rfl, e, by simp [seqObj]⟩ ?_) a1 a2 a3
  cases e : h.get? (h.objs.size + 1) with
  | none => rfl
  | some o => exact absurd (Heap.lt_size e) (Nat.not_lt.mpr (Nat.le_succ _))
end
end Mine
open PySem PySem.W PySem.W.X PyProof.Rows
set_option Elab.async false
set_option maxRecDepth 100000
set_option maxHeartbeats 4000000
namespace Mine
structure RowOk (tb : Nat → Nat → Int) (k : Nat) (r : List Nat) : Prop where
  perm : r.Perm (List.range k)
  chain : ∀ (i : Nat) (x y : Nat), r[i]? = some x → r[i + 1]? = some y → tb x y = 1
theorem RowOk.len {tb : Nat → Nat → Int} {k : Nat} {r : List Nat} (x : RowOk tb k r) : r.length = k := by rw [x.perm.length_eq, List.length_range]
theorem RowOk.lt {tb : Nat → Nat → Int} {k : Nat} {r : List Nat} (x : RowOk tb k r) {i y : Nat} (h : r[i]? = some y) : y < k := List.mem_range.mp (x.perm.mem_iff.mp (List.mem_of_getElem? h))
theorem ins_at {r : List Nat} {p k : Nat} (hp : p ≤ r.length) (i : Nat) : (r.take p ++ (k :: r.drop p))[i]? = if i < p then r[i]? else if i = p then some k else r[i - 1]? := by
  have hl : (r.take p).length = p := by rw [List.length_take]; omega
  by_cases h1 : i < p
  · rw [if_pos h1, List.getElem?_append_left (by omega), List.getElem?_take, if_pos h1]
  · rw [if_neg h1, List.getElem?_append_right (by omega), hl]
    by_cases h2 : i = p
    · rw [if_pos h2, h2, Nat.sub_self]; rfl
    · rw [if_neg h2, show i - p = (i - p - 1) + 1 from by omega, List.getElem?_cons_succ, List.getElem?_drop]
      congr 1; omega
theorem RowOk.zero (tb : Nat → Nat → Int) : RowOk tb 0 [] := ⟨List.Perm.refl _, fun i x y h => by simp at h⟩
theorem RowOk.ins {n k p : Nat} {tb : Nat → Nat → Int} {r : List Nat} (T : Tourn n tb) (R : RowOk tb k r) (hk : k < n) (hp : p ≤ r.length) (h1 : ∀ (i : Nat) (x : Nat), i < p → r[i]? = some x → ¬ tb x k < 0) (h2 : ∀ x, r[p]? = some x → tb x k < 0) :
    RowOk tb (k + 1) (r.take p ++ (k :: r.drop p)) := by
  refine ⟨?_, fun i x y hx hy => ?_⟩
  · refine List.perm_middle.trans ?_
    rw [List.take_append_drop, List.range_succ]
    exact ((List.perm_cons k).mpr R.perm).trans (List.perm_append_comm (l₁ := [k]))
  · rw [ins_at hp] at hx hy
    have pm : ∀ (i x : Nat), r[i]? = some x → x < n ∧ x ≠ k := fun i x h => ⟨Nat.lt_trans (R.lt h) hk, Nat.ne_of_lt (R.lt h)⟩
    by_cases c1 : i + 1 < p
    · rw [if_pos (by omega)] at hx; rw [if_pos c1] at hy
      exact R.chain i x y hx hy
    · by_cases c2 : i + 1 = p
      · rw [if_pos (by omega)] at hx; rw [if_neg c1, if_pos c2] at hy
        cases hy
        have a := h1 i x (by omega) hx
        obtain ⟨b1, b2⟩ := pm i x hx
        rcases T.sign x k b1 hk b2 with q | q
        · exact q
        · omega
      · by_cases c3 : i = p
        · subst c3
          rw [if_neg (by omega), if_pos rfl] at hx
          rw [if_neg c1, if_neg c2, show i + 1 - 1 = i from by omega] at hy
          cases hx
          have a := h2 y hy
          obtain ⟨b1, b2⟩ := pm i y hy
          have c := T.anti k y hk b1
          rcases T.sign k y hk b1 (Ne.symm b2) with q | q
          · exact q
          · omega
        · rw [if_neg (by omega), if_neg c3] at hx
          rw [if_neg c1, if_neg c2] at hy
          exact R.chain (i - 1) x y hx (by rw [← hy]; congr 1; omega)
def toI (r : List Nat) : List Int := r.map fun x : Nat => (x : Int)
theorem ints_get {vs : List Value} {r : List Nat} (h : IntsAre vs (toI r)) {i x : Nat} (e : r[i]? = some x) : ∃ tk, vs[i]? = some (.int x tk) := h.get i x (by unfold toI; rw [List.getElem?_map, e]; rfl)
theorem ints_len {vs : List Value} {r : List Nat} (h : IntsAre vs (toI r)) : vs.length = r.length := by rw [h.length]; simp [toI]
theorem ints_ins {vs : List Value} {r : List Nat} {p k : Nat} {tk : Tok} (h : IntsAre vs (toI r)) : IntsAre (vs.take p ++ [.int k tk] ++ vs.drop p) (toI (r.take p ++ (k :: r.drop p))) := by
  have e : toI (r.take p ++ (k :: r.drop p)) = (toI r).take p ++ [(k : Int)] ++ (toI r).drop p := by simp [toI]
  rw [e]
  exact ((h.take p).append (.cons _ _ .nil)).append (h.drop p)
end Mine
open PySem PySem.W PySem.W.X PyProof.Rows
set_option Elab.async false
set_option maxRecDepth 100000
set_option maxHeartbeats 4000000
namespace Mine
theorem ns_len (P : Params) : nsIn (KB P) mainGlobals (Str.ofString "len") = some none := by kernel_rfl
theorem ns_len' (P : Params) : nsIn (KB P) builtinsNs (Str.ofString "len") = some (some (.builtin "len")) := by kernel_rfl
theorem Sta.thin {g : Heap} {L : Addr} {m : MT} {cs cs' : List Own} {z : Nat} {h : Heap} (S : Sta g L m cs z h) (k : cs'.Sublist cs) : Sta g L m cs' z h :=
  S.sub (fun p hp => ⟨p.2, k.subset hp, fun _ q => q⟩) ((k.map _).nodup S.nd)
def J7 (z n : Nat) (tn : Tok) (T C KL BL : Addr) (tb : Nat → Nat → Int) (pn : Option Value → Prop) (k : Nat) (m : MT) (cs : List Own) (RL : Addr) (r : List Nat) : Prop :=
  m (Str.ofString "keys") = some (.ref KL) ∧ m (Str.ofString "beats") = some (.ref BL) ∧ m (Str.ofString "row") = some (.ref RL) ∧ pn (m (Str.ofString "new")) ∧ RowOk tb k r ∧ ∃ va vb vs, IntsAre vs (toI r) ∧ cs = (RL, ListP vs) :: base z n tn T C va vb
section
variable {w : World} {A : Around} {E : Value → Shared → Prop} {h : Heap} {gs : Array GenState} {d : Drawn} {t : Nat} {os : OsState} {ka : KAdr} {kt : KTok} {cf T : Addr} {n : Nat} {tn : Tok} {tb : Nat → Nat → Int} {g : Heap} {z zz : Nat} {m : MT} {va vb : Option Value} {rest : List Stmt} {P : Flow → Shared → Prop} {env : Env}
theorem st6 {P : Flow → Shared → Prop} (S : Sta g z m (base z n tn T ka.C va vb) zz h)
    (k : ∀ RL zz' h' t', Sta g z (upd m (Str.ofString "row") (.ref RL)) ((RL, ListP []) :: base z n tn T ka.C va vb) zz' h' → wpAny (model PG w) (lA z) (execs rest (lEnv z)) P E ⟨h', gs, d, t', os⟩) :
    wpAny (model PG w) (lA z) (execs (lS 6 :: rest) (lEnv z)) P E ⟨h, gs, d, t, os⟩ :=
  wpAny_execs_cons <| wpAny_Assign_Name <| List_ <| args_nil <| new_list S (fun h1 e1 S1 => stL S1 fun h2 S2 => k _ _ _ _ S2) (by simp)
/-- the search of the place -/
theorem while7 {Q : Flow → Shared → Prop} {KL BL RL : Addr} {k z' : Nat} {tk : Tok} {I : Own} {r : List Nat} {vs : List Value} (Lw : Law w ka kt cf T n tb g) (hKeys : IsKeys g KL ka.C n) (hk : k < n) (hK : m (Str.ofString "keys") = some (.ref KL)) (hB : m (Str.ofString "beats") = some (.ref BL)) (hR : m (Str.ofString "row") = some (.ref RL)) (hN : m (Str.ofString "new") = some (.int k tk)) (h0 : ∃ u, m (Str.ofString "k") = some (.int 0 u))
    (R : RowOk tb k r) (hi : IntsAre vs (toI r)) (S : Sta g z m (I :: (RL, ListP vs) :: base z n tn T ka.C va vb) z' h)
    (q : ∀ (p : Nat) (m' : MT) (z' : Nat) (h' : Heap) (t' : Nat) (u : Tok), p ≤ r.length → (∀ (i : Nat) (x : Nat), i < p → r[i]? = some x → ¬ tb x k < 0) → (∀ x, r[p]? = some x → tb x k < 0) →
      m' (Str.ofString "keys") = some (.ref KL) → m' (Str.ofString "beats") = some (.ref BL) → m' (Str.ofString "row") = some (.ref RL) → m' (Str.ofString "new") = some (.int k tk) → m' (Str.ofString "k") = some (.int p u) → Sta g z m' (I :: (RL, ListP vs) :: base z n tn T ka.C va vb) z' h' → Q .next ⟨h', gs, d, t', os⟩) :
    wpAny (model PG w) (lA z) (exec (nth (sBody (lS 7)) 1) (lEnv z)) Q E ⟨h, gs, d, t, os⟩ := by
  have hhi := Lw.hi
  have hlen := R.len
  have hvl := ints_len hi
  refine wpAny_While <| whileR (env := lEnv z) (fun c m cs _ => cs = I :: (RL, ListP vs) :: base z n tn T ka.C va vb ∧ ∃ p u, c = r.length - p ∧ p ≤ r.length ∧ (∀ (i : Nat) (x : Nat), i < p → r[i]? = some x → ¬ tb x k < 0) ∧
      m (Str.ofString "keys") = some (.ref KL) ∧ m (Str.ofString "beats") = some (.ref BL) ∧ m (Str.ofString "row") = some (.ref RL) ∧ m (Str.ofString "new") = some (.int k tk) ∧ m (Str.ofString "k") = some (.int (p : Nat) u)) (n := r.length) S
    ⟨rfl, 0, h0.choose, by omega, by omega, fun i x hi => absurd hi (Nat.not_lt_zero _), hK, hB, hR, hN, h0.choose_spec⟩ ?_
  rintro c m cs z1 h1 t1 E' ⟨rfl, p, u, hc, hp, hprev, hK, hB, hR, hN, hP⟩ S1
  have LK := Lw.K.ext S1.keep
  refine isTrue_and <| wpAny_isTrue_Compare1 <| ldL S1 hP <| Call_ <| ldB LK.X (ns_len _) (ns_len' _) <| PyProof.Rows.callWith_builtin1 <| args_cons <| ldL S1 hR <| args_nil <|
    PySem.Calls.call_len_list (s := ⟨h1, gs, d, _, os⟩) (isList_of (S1.get (.tail _ (.head _)))) (by rw [List.size_toArray]; omega) <| PyProof.Rows.lt_int <| wpAny_truthy_bool ?_
  by_cases hpl : p < r.length
  · rw [decide_eq_true (by rw [List.size_toArray]; omega), if_pos rfl]
    have er : r[p]? = some r[p] := by simp [hpl]
    obtain ⟨tx, ex⟩ := ints_get hi er
    have hxk := R.lt er
    have K1 := hKeys.ext S1.keep
    obtain ⟨ks, y1, a1, a2, a3⟩ := key_item K1 (Nat.lt_trans hxk hk)
    obtain ⟨ks', y2, b1, b2, b3⟩ := key_item K1 hk
    refine isTrue_and <| isTrue_not <| isTrue_plain <| Call_ <| ldG LK.X (ns_lt _) <| callWith_def (o := oFnM "_lt_from_gt" 1 "cpy313.functools" 187 20) rfl <| args_cons <|
      sub1 (fun t Q' q => ldL S1 hK (q _)) (fun t Q' q => sub1 (fun t Q' q => ldL S1 hR (q _)) (fun t Q' q => ldL S1 hP (q _ _)) (S1.get (.tail _ (.head _))) (by omega) ex fun t2 => q _ _) a1 (by omega) a2 fun t2 => args_cons <|
      sub1 (fun t Q' q => ldL S1 hK (q _)) (fun t Q' q => ldL S1 hN (q _ _)) b1 (by omega) b2 fun t3 => args_nil ⟨LK.X _ _ (fn_lt _), ?_⟩
    refine lt_call (lA_room z) (lA_units z) LK (Nat.lt_trans hxk hk) hk a3 b3 fun h2 t4 e2 => wpAny_truthy_bool ?_
    have S2 := S1.ext e2 rfl
    by_cases hlt : tb r[p] k < 0
    · rw [decide_eq_true hlt, Bool.not_true, if_neg (by decide), if_neg (by decide)]
      exact q p m _ h2 _ u hp hprev (fun x hx => by rw [er] at hx; cases hx; exact hlt) hK hB hR hN hP S2
    · rw [decide_eq_false hlt, Bool.not_false, if_pos rfl]
      refine isTrue_and_nil ?_
      rw [if_pos rfl]
      refine wpAny_execs_cons <| wpAny_Assign_Name <| wpAny_BinOp <| ldL S2 hP <| wpAny_Constant_int <| add_int <| stL S2 fun h3 S3 => wpAny_execs_nil ⟨rfl, r.length - (p + 1), _, _, _, h3, _, by omega, rfl, S3, rfl, p + 1, _, rfl, by omega, fun i x hi hx => ?_, upd_ne hK, upd_ne hB, upd_ne hR, upd_ne hN, upd_eq⟩
      by_cases hip : i = p
      · subst hip; rw [er] at hx; cases hx; exact hlt
      · exact hprev i x (by omega) hx
  · rw [decide_eq_false (by rw [List.size_toArray]; omega), if_neg (by decide), if_neg (by decide)]
    exact q p m _ h1 _ u hp hprev (fun x hx => by rw [List.getElem?_eq_none (by omega)] at hx; cases hx) hK hB hR hN hP S1
end
end Mine
open PySem PySem.W PySem.W.X PyProof.Rows
set_option Elab.async false
set_option maxRecDepth 100000
set_option maxHeartbeats 4000000
namespace Mine
section
variable {w : World} {A : Around} {E : Value → Shared → Prop} {h : Heap} {gs : Array GenState} {d : Drawn} {t : Nat} {os : OsState} {ka : KAdr} {kt : KTok} {cf T : Addr} {n : Nat} {tn : Tok} {tb : Nat → Nat → Int} {g : Heap} {z zz : Nat} {m : MT} {va vb : Option Value} {rest : List Stmt} {P : Flow → Shared → Prop} {env : Env}
theorem ne_is {s : Shared} {a b : Int} {c : Bool} {t u : Tok} {Q : Value → Shared → Prop} (e : (a != b) = c) (h : Q (.bool c) s) : wpAny (model PG w) A (compareOp .NotEq (.int a t) (.int b u)) Q E s := PyProof.Rows.ne_int (by rw [e]; exact h)
theorem t7i {R : Result → Shared → Prop} {KL BL RL : Addr} {k j z' : Nat} {t₀ : Tok} {I I' : Own} {cs : List Own} {r : List Nat} (Lw : Law w ka kt cf T n tb g) (hk : k + 1 ≤ n) (hj : j < k) (J : ∃ cs', cs = I :: cs' ∧ J7 z n tn T ka.C KL BL tb (fun _ => True) (k + 1) m cs' RL r) (S : Sta g z m (I' :: cs) z' h) :
    wpAny (model PG w) (lA z) (storeName (lEnv z) (Str.ofString "m") (.int (0 + j) t₀)) (fun _ s₂ => wpAny (model PG w) (lA z) (execs (sBody (nth (sBody (lS 7)) 3)) (lEnv z))
      (ForEnd g z I' gs d os (fun m cs _ => ∃ cs', cs = I :: cs' ∧ J7 z n tn T ka.C KL BL tb (fun _ => True) (k + 1) m cs' RL r) R) E s₂) E ⟨h, gs, d, t, os⟩ := by
  obtain ⟨cs', rfl, hK, hB, hR, -, RO, va, vb, vs, hi, rfl⟩ := J
  have hhi := Lw.hi
  have hlen := RO.len
  have hvl := ints_len hi
  rw [show (0 : Int) + (j : Int) = j from by omega]
  refine stL S fun h1 S1 => ?_
  have ex : r[j]? = some r[j] := by simp
  have ey : r[j + 1]? = some r[j + 1] := by simp
  obtain ⟨tx, vx⟩ := ints_get hi ex
  obtain ⟨ty, vy⟩ := ints_get hi ey
  have hx := RO.lt ex
  have hy := RO.lt ey
  obtain ⟨trows, tr, tvs, g1, g2, g3, g4⟩ := (Lw.K.T.ext S1.keep).row (show r[j] < n by omega)
  obtain ⟨tkk, g5⟩ := g4 r[j + 1] (by omega)
  have hc := RO.chain j _ _ ex ey
  refine wpAny_execs_cons <| wpAny_If <| wpAny_isTrue_Compare1 <|
    sub1 (fun t Q' q => sub1 (fun t Q' q => ldC S1 (.tail _ (.tail _ (.tail _ bT))) (q _)) (fun t Q' q => sub1 (fun t Q' q => ldL S1 (upd_ne hR) (q _)) (fun t Q' q => ldL S1 upd_eq (q _ _)) (S1.get (.tail _ (.tail _ (.head _)))) (by omega) vx fun t2 => q _ _) g1 (by omega) g2 fun t5 => q _)
      (fun t Q' q => sub1 (k := j + 1) (fun t Q' q => ldL S1 (upd_ne hR) (q _)) (fun t Q' q => wpAny_BinOp <| ldL S1 upd_eq <| wpAny_Constant_int <| add_int (by exact q _ _)) (S1.get (.tail _ (.tail _ (.head _)))) (by omega) vy fun t2 => q _ _) g3 (by omega) g5 fun t7 =>
    wpAny_Constant_int <| ne_is (c := false) (by rw [hc]; rfl) <| wpAny_truthy_bool ?_
  rw [if_neg (by decide)]
  exact wpAny_execs_nil <| wpAny_execs_nil <| .next S1 ⟨_, rfl, upd_ne hK, upd_ne hB, upd_ne hR, trivial, RO, va, vb, vs, hi, rfl⟩
theorem t7 {R : Result → Shared → Prop} {KL BL : Addr} {k z' : Nat} {t₀ : Tok} {I : Own} {cs : List Own} (Lw : Law w ka kt cf T n tb g) (hKeys : IsKeys g KL ka.C n) (hk : k < n) (J : ∃ RL r, J7 z n tn T ka.C KL BL tb (fun _ => True) k m cs RL r) (S : Sta g z m (I :: cs) z' h) :
    wpAny (model PG w) (lA z) (storeName (lEnv z) (Str.ofString "new") (.int (0 + k) t₀)) (fun _ s₂ => wpAny (model PG w) (lA z) (execs (sBody (lS 7)) (lEnv z))
      (ForEnd g z I gs d os (fun m cs _ => ∃ RL r, J7 z n tn T ka.C KL BL tb (fun _ => True) (k + 1) m cs RL r) R) E s₂) E ⟨h, gs, d, t, os⟩ := by
  obtain ⟨RL, r, hK, hB, hR, -, RO, va, vb, vs, hi, rfl⟩ := J
  have hhi := Lw.hi
  have hlen := RO.len
  have hvl := ints_len hi
  rw [show (0 : Int) + (k : Int) = k from by omega]
  refine stL S fun h1 S1 => ?_
  refine wpAny_execs_cons <| wpAny_Assign_Name <| wpAny_Constant_int <| stL S1 fun h2 S2 => wpAny_execs_cons ?_
  refine while7 Lw hKeys hk (upd_ne (upd_ne hK)) (upd_ne (upd_ne hB)) (upd_ne (upd_ne hR)) (upd_ne upd_eq) ⟨_, upd_eq⟩ RO hi S2 fun p m3 z3 h3 t3 u hp hprev hnext hK hB hR hN hP S3 => ?_
  have R' := RO.ins Lw.tour hk hp hprev hnext
  have hi' := ints_ins (p := p) (k := k) (tk := t₀) hi
  refine wpAny_execs_cons <| wpAny_Assign_Name <| wpAny_BinOp <| wpAny_BinOp <| slice_own (x := none) (y := some (p : Int)) S3 (fun t Q' q => ldL S3 hR (q _)) (S3.get (.tail _ (.head _))) (fun t Q' q => evalPart_none_step (q _ _ .none)) (fun t Q' q => evalPart_some_step <| ldL S3 hP (q _ _ (.int _ _))) (by omega) fun h4 t4 e4 S4 => ?_
  rw [slicePick_upto' vs.toArray p, List.toList_toArray, List.toList_toArray] at S4
  refine List_ <| args_cons <| ldL S4 hN <| args_nil <| new_list S4 (fun h5 e5 S5 => add_own S5 (S5.get (.tail _ (.head _))) (S5.get (.head _)) (by rw [List.length_take]; simp; omega) fun h6 e6 S6 => ?_) (by simp)
  refine slice_own (x := some (p : Int)) (y := none) S6 (fun t Q' q => ldL S6 hR (q _)) (S6.get (.tail _ (.tail _ (.tail _ (.tail _ (.head _)))))) (fun t Q' q => evalPart_some_step <| ldL S6 hP (q _ _ (.int _ _))) (fun t Q' q => evalPart_none_step (q _ _ .none)) (by omega) fun h7 t7 e7 S7 => ?_
  rw [slicePick_from' vs.toArray p, List.toList_toArray, List.toList_toArray] at S7
  refine add_own S7 (S7.get (.tail _ (.head _))) (S7.get (.head _)) (by rw [List.length_append, List.length_take, List.length_drop]; simp; omega) fun h8 e8 S8 => stL S8 fun h9 S9 => ?_
  have S10 := (S9.thin (cs' := (_, ListP (vs.take p ++ [.int k t₀] ++ vs.drop p)) :: I :: base z n tn T ka.C va vb) (.cons₂ _ (.cons _ (.cons _ (.cons _ (.cons _ (.cons₂ _ (.cons _ (List.Sublist.refl _))))))))).perm (List.Perm.swap _ _ _)
  have hX := Lw.K.X.keeps S10.keep
  have hvl' := ints_len hi'
  have hl' := R'.len
  refine wpAny_execs_cons ?_
  refine forRange (a := 0) (n := k) (fun j m cs _ => ∃ cs', cs = I :: cs' ∧ J7 z n tn T ka.C KL BL tb (fun _ => True) (k + 1) m cs' _ _) rfl S10 (evr1 hX fun t Q' q => wpAny_BinOp <| Call_ <| ldB hX (ns_len _) (ns_len' _) <| PyProof.Rows.callWith_builtin1 <| args_cons <| ldL S10 upd_eq <| args_nil <|
    PySem.Calls.call_len_list (s := ⟨h9, gs, d, _, os⟩) (isList_of (S10.get (.tail _ (.head _)))) (by rw [List.size_toArray]; omega) <| wpAny_Constant_int <| sub_int ?_) (by decide) (by decide) (by omega)
    ⟨_, rfl, upd_ne hK, upd_ne hB, upd_eq, trivial, R', va, vb, _, hi', rfl⟩ ?_ ?_
  · rw [List.size_toArray, hvl', hl', show (((k + 1 : Nat) : Int) - 1) = k from by omega]
    exact q _ _
  · exact fun j m cs z' h10 t10 t₁ I' E'' hj J S => t7i Lw hk hj J S
  · rintro m cs z' h10 t10 ⟨cs', rfl, J⟩ S
    exact wpAny_execs_nil <| .next S ⟨_, _, J⟩
theorem st7 {KL BL RL : Addr} {P : Flow → Shared → Prop} (Lw : Law w ka kt cf T n tb g) (hKeys : IsKeys g KL ka.C n) (hK : m (Str.ofString "keys") = some (.ref KL)) (hB : m (Str.ofString "beats") = some (.ref BL)) (hR : m (Str.ofString "row") = some (.ref RL))
    (S : Sta g z m ((RL, ListP []) :: base z n tn T ka.C va vb) zz h)
    (k : ∀ RL r vs m' va vb zz' h' t', RowOk tb n r → IntsAre vs (toI r) → m' (Str.ofString "row") = some (.ref RL) → m' (Str.ofString "beats") = some (.ref BL) → Sta g z m' ((RL, ListP vs) :: base z n tn T ka.C va vb) zz' h' → wpAny (model PG w) (lA z) (execs rest (lEnv z)) P E ⟨h', gs, d, t', os⟩) :
    wpAny (model PG w) (lA z) (execs (lS 7 :: rest) (lEnv z)) P E ⟨h, gs, d, t, os⟩ := by
  have hhi := Lw.hi
  refine wpAny_execs_cons ?_
  refine forRange (a := 0) (n := n) (fun k m cs _ => ∃ RL r, J7 z n tn T ka.C KL BL tb (fun _ => True) k m cs RL r) rfl S (evr1 (Lw.K.X.keeps S.keep) fun t Q' q => ldC S (.tail _ bn) (q _ _)) (by decide) (by decide) (by omega) ⟨RL, [], hK, hB, hR, trivial, .zero tb, va, vb, [], .nil, rfl⟩ ?_ ?_
  · exact fun k m cs z' h10 t10 t₁ I E'' hk J S10 => t7 Lw hKeys hk J S10
  · rintro m cs z' h8 t8 ⟨RL, r, hK, hB, hR, -, RO, va, vb, vs, hi, rfl⟩ S8
    exact k RL r vs m va vb _ h8 _ RO hi hR hB S8
end
end Mine
open PySem PySem.W PySem.W.X PyProof.Rows
set_option Elab.async false
set_option maxRecDepth 100000
set_option maxHeartbeats 4000000
namespace Mine
theorem toI_sorted (n : Nat) : (toI (List.range n)).Pairwise (· ≤ ·) := by
  unfold toI
  rw [List.pairwise_map]
  exact (List.pairwise_le_range (n := n)).imp fun h => by omega
theorem toI_perm {r r' : List Nat} (h : r.Perm r') : (toI r).Perm (toI r') := h.map _
theorem eq_range {ns : List Int} {r : List Nat} {n : Nat} (h1 : ns.Perm (toI r)) (h2 : r.Perm (List.range n)) (h3 : ns.Pairwise (· ≤ ·)) : ns = toI (List.range n) :=
  List.Perm.eq_of_pairwise (fun a b _ _ x y => Int.le_antisymm x y) h3 (toI_sorted n) (h1.trans (toI_perm h2))
theorem ns_sorted (P : Params) : nsIn (KB P) mainGlobals (Str.ofString "sorted") = some none := by kernel_rfl
theorem ns_sorted' (P : Params) : nsIn (KB P) builtinsNs (Str.ofString "sorted") = some (some (.builtin "sorted")) := by kernel_rfl
theorem ns_list (P : Params) : nsIn (KB P) mainGlobals (Str.ofString "list") = some none := by kernel_rfl
theorem ns_list' (P : Params) : nsIn (KB P) builtinsNs (Str.ofString "list") = some (some (.type "list")) := by kernel_rfl
section
variable {w : World} {A : Around} {E : Value → Shared → Prop} {h : Heap} {gs : Array GenState} {d : Drawn} {t : Nat} {os : OsState} {ka : KAdr} {kt : KTok} {cf T : Addr} {n : Nat} {tn : Tok} {tb : Nat → Nat → Int} {g : Heap} {z zz : Nat} {m : MT} {va vb : Option Value} {rest : List Stmt} {P : Flow → Shared → Prop} {env : Env}
theorem st8 {RL : Addr} {r : List Nat} {vs : List Value} {P : Flow → Shared → Prop} (Lw : Law w ka kt cf T n tb g) (R : RowOk tb n r) (hi : IntsAre vs (toI r)) (hR : m (Str.ofString "row") = some (.ref RL))
    (S : Sta g z m ((RL, ListP vs) :: base z n tn T ka.C va vb) zz h)
    (k : ∀ zz' h' t', Sta g z m (base z n tn T ka.C va vb) zz' h' → wpAny (model PG w) (lA z) (execs rest (lEnv z)) P E ⟨h', gs, d, t', os⟩) :
    wpAny (model PG w) (lA z) (execs (lS 8 :: rest) (lEnv z)) P E ⟨h, gs, d, t, os⟩ := by
  have hhi := Lw.hi
  have hX := Lw.K.X.keeps S.keep
  have hvl := ints_len hi
  have hrl := R.len
  refine wpAny_execs_cons <| wpAny_If <| wpAny_isTrue_Compare1 <| Call_ <| ldB hX (ns_sorted _) (ns_sorted' _) <| PyProof.Rows.callWith_builtin1 <| args_cons <| ldL S hR <| args_nil <|
    sorted_own S (S.get (.head _)) hi (by omega) fun h1 l1 z1 vs1 ns1 e1 S1 i1 p1 o1 => ?_
  have hns := eq_range p1 R.perm o1
  subst hns
  have hX1 := hX.keeps e1
  refine Call_ <| ldB hX1 (ns_list _) (ns_list' _) <| PyProof.Rows.callWith_type1 <| args_cons <| (evr1 (env := lEnv z) (n := n) hX1 (fun t Q' q => ldC S1 (.tail _ (.tail _ bn)) (q _ _))) _ fun t2 u1 u2 u3 => args_nil ?_
  have S2 := S1.ext (Ext.push h1 (Rng 0 (0 + n) u1 u2 u3)) rfl
  refine call_list_range (s := ⟨_, gs, d, t2, os⟩) rfl (Heap.get?_push_size _ rfl) (rng_small (by decide) (by decide) (by omega)) (rng_n _ _) (by omega) fun h3 t3 acc c3 k3 q1 q2 => ?_
  have S3 := S2.ext (show Ext _ h3 from k3) rfl
  have hv1 := ints_len i1
  rw [List.length_range] at hv1
  have ea : (lA z).units < cLine := Nat.lt_trans (Nat.lt_add_of_pos_right (by decide)) (lA_units z)
  have hitems : ∀ j (h1 : j < vs1.toArray.size) (h2 : j < acc.size), PySem.SeqAt.EqAt (lA z).in1 ⟨h3, gs, d, t3, os⟩ vs1.toArray[j] acc[j] true := by
    intro j hj1 hj2
    rw [List.size_toArray, hv1] at hj1
    obtain ⟨tk, ev⟩ := ints_get i1 (i := j) (x := j) (by rw [List.getElem?_range hj1])
    obtain ⟨tk2, ev2⟩ := q2.2 j acc[j] (by simp)
    have e1 : vs1.toArray[j] = .int j tk := by
      have := (List.getElem?_eq_some_iff.mp ev).2
      simpa using this
    rw [e1, ev2, show (0 : Int) + (j : Int) * 1 = j from by omega]
    have := PySem.SeqAt.EqAt.int_int (A := (lA z).in1) (s := ⟨h3, gs, d, t3, os⟩) j tk j tk2
    rwa [beq_self_eq_true] at this
  refine PySem.SeqAt.RcNeAt.lists (s := ⟨h3, gs, d, t3, os⟩) (e := fun _ => true) ?_ ⟨_, q1, rfl, c3, rfl⟩ ?_ ea hitems _ _ _ _ ?_
  · exact isList_of (S3.get (.head _))
  · rw [List.size_toArray, hv1, q2.1]
  rw [show (!(List.range vs1.toArray.size).all fun _ => true) = false from by simp]
  refine wpAny_truthy_bool ?_
  rw [if_neg (by decide)]
  exact wpAny_execs_nil <| k _ h3 _ (S3.thin (.cons _ (.cons _ (List.Sublist.refl _))))
end
end Mine
open PySem PySem.W PySem.W.X PyProof.Rows
set_option Elab.async false
set_option maxRecDepth 100000
set_option maxHeartbeats 4000000
namespace Mine
theorem lA_depth (z : Nat) : (lA z).depth + 100 < recursionLimit := by show callerA.depth + 1 + 100 < recursionLimit; decide
theorem cnt_le (n s : Nat) : cnt n s ≤ n := by have := List.countP_le_length (p := fun b => !s.testBit b) (l := List.range n); rwa [List.length_range] at this
def btOf (tb : Nat → Nat → Int) (a b : Nat) : Bool := decide (tb a b = 1)
noncomputable def wsum (n : Nat) (bt : Nat → Nat → Bool) : Nat → Int
  | 0 => 0
  | k + 1 => wsum n bt k + (wk n bt k n k (2 ^ k)).1
section
variable {w : World} {A : Around} {E : Value → Shared → Prop} {h : Heap} {gs : Array GenState} {d : Drawn} {t : Nat} {os : OsState} {ka : KAdr} {kt : KTok} {cf T : Addr} {n : Nat} {tn : Tok} {tb : Nat → Nat → Int} {g : Heap} {z zz : Nat} {m : MT} {va vb : Option Value} {rest : List Stmt} {P : Flow → Shared → Prop} {env : Env}
theorem shl_is {s : Shared} {a b c : Int} {t u : Tok} {Q : Value → Shared → Prop} (hn : 0 ≤ b) (hn2 : b ≤ 1000000) (ha : a.natAbs < 2 ^ 64) (e : a * 2 ^ b.toNat = c) (h : Q (.int c s.toks) { s with toks := s.toks + 1 }) : wpAny (model PG w) A (binaryOp .LShift (.int a t) (.int b u)) Q E s := lshift_int_small hn hn2 ha (by rw [e]; exact h)
theorem one_shl (k : Nat) : (1 : Int) * 2 ^ ((k : Int).toNat) = ((2 ^ k : Nat) : Int) := by rw [Int.toNat_natCast, Int.one_mul]; push_cast; rfl
def J10 (z n : Nat) (tn : Tok) (T C BL : Addr) (bt : Nat → Nat → Bool) (k : Nat) (m : MT) (cs : List Own) : Prop :=
  m (Str.ofString "beats") = some (.ref BL) ∧ (∃ tk, m (Str.ofString "ways") = some (.int (wsum n bt k) tk)) ∧ ∃ va vb, cs = base z n tn T C va vb
theorem t10 {R : Result → Shared → Prop} {BL : Addr} {k z' : Nat} {t₀ : Tok} {I : Own} {cs : List Own} {bt : Nat → Nat → Bool} (Lw : Law w ka kt cf T n tb g) (hBt : IsBt g BL n bt) (hk : k < n) (J : J10 z n tn T ka.C BL bt k m cs) (S : Sta g z m (I :: cs) z' h) :
    wpAny (model PG w) (lA z) (storeName (lEnv z) (Str.ofString "first") (.int (0 + k) t₀)) (fun _ s₂ => wpAny (model PG w) (lA z) (execs (sBody (lS 10)) (lEnv z))
      (ForEnd g z I gs d os (fun m cs _ => J10 z n tn T ka.C BL bt (k + 1) m cs) R) E s₂) E ⟨h, gs, d, t, os⟩ := by
  obtain ⟨hB, ⟨tw, hW⟩, va, vb, rfl⟩ := J
  have hhi := Lw.hi
  have hd := lA_depth z
  rw [show (0 : Int) + (k : Int) = k from by omega]
  refine stL S fun h1 S1 => ?_
  have hX := Lw.K.X.keeps S1.keep
  have hB1 := hBt.ext S1.keep
  refine wpAny_execs_cons <| wpAny_Assign_Name <| wpAny_BinOp <| ldL S1 (upd_ne hW) <| Subscript_ <| Call_ <| ldG hX (ns_walks _) <| callWith_def (o := oFn "_law_walks" 5 207 41) rfl <| args_cons <| ldL S1 (upd_ne hB) <| args_cons <| ldC S1 (.tail _ bn) <| args_cons <| ldL S1 upd_eq <| args_cons <|
    wpAny_BinOp <| wpAny_Constant_int <| ldL S1 upd_eq <| shl_is (by omega) (by omega) (by decide) (one_shl k) <| args_cons <| ldL S1 upd_eq <| args_nil ⟨hX _ _ (fn_walks _), ?_⟩
  refine walks_call (by omega) hk n (by omega) rfl hX hB1 hk (Nat.pow_lt_pow_right (by decide) hk) (cnt_le _ _) fun h2 l t2 e2 n2 hl => ?_
  obtain ⟨tp, tc, o, q1, q2⟩ := hl
  have S2 := S1.ext e2 rfl
  refine wpAny_Constant_int <| item ⟨o, q1, q2⟩ (by decide) (by decide) rfl <| add_int <| stL S2 fun h3 S3 => wpAny_execs_nil <| .next S3 ⟨upd_ne (upd_ne hB), ⟨_, upd_eq⟩, va, vb, rfl⟩
theorem st10 {BL : Addr} {bt : Nat → Nat → Bool} {P : Flow → Shared → Prop} (Lw : Law w ka kt cf T n tb g) (hBt : IsBt g BL n bt) (hodd : (wsum n bt n).fmod 2 = 1) (hB : m (Str.ofString "beats") = some (.ref BL))
    (S : Sta g z m (base z n tn T ka.C va vb) zz h)
    (k : ∀ m' va vb zz' h' t', m' (Str.ofString "beats") = some (.ref BL) → Sta g z m' (base z n tn T ka.C va vb) zz' h' → wpAny (model PG w) (lA z) (execs rest (lEnv z)) P E ⟨h', gs, d, t', os⟩) :
    wpAny (model PG w) (lA z) (execs (lS 9 :: lS 10 :: lS 11 :: rest) (lEnv z)) P E ⟨h, gs, d, t, os⟩ := by
  have hhi := Lw.hi
  refine wpAny_execs_cons <| wpAny_Assign_Name <| wpAny_Constant_int <| stL S fun h1 S1 => wpAny_execs_cons ?_
  refine forRange (a := 0) (n := n) (fun k m cs _ => J10 z n tn T ka.C BL bt k m cs) rfl S1 (evr1 (Lw.K.X.keeps S1.keep) fun t Q' q => ldC S1 bn (q _ _)) (by decide) (by decide) (by omega) ⟨upd_ne hB, ⟨_, upd_eq⟩, va, vb, rfl⟩ ?_ ?_
  · exact fun k m cs z' h10 t11 t₁ I E'' hk J S10 => t10 Lw hBt hk J S10
  · rintro m cs z' h8 t8 ⟨hB, ⟨tk, hW⟩, va, vb, rfl⟩ S8
    refine wpAny_execs_cons <| wpAny_If <| wpAny_isTrue_Compare1 <| wpAny_BinOp <| ldL S8 hW <| wpAny_Constant_int <| mod_int' (by decide) <| wpAny_Constant_int <| ne_is (c := false) (by rw [hodd]; rfl) <| wpAny_truthy_bool ?_
    rw [if_neg (by decide)]
    exact wpAny_execs_nil <| k m va vb _ h8 _ hB S8
end
end Mine
open PySem PySem.W PySem.W.X PyProof.Rows
set_option Elab.async false
set_option maxRecDepth 100000
set_option maxHeartbeats 4000000
namespace Mine
def sVal : Stmt → Expr
  | .Assign _ v _ => v
  | .If e _ _ _ => e
  | _ => .Constant .none 0 ⟨0, 0, 0, 0⟩
def cScope : Expr → Scope
  | .ListComp _ _ s _ => s
  | _ => default
def cElt : Expr → Expr
  | .ListComp e _ _ _ => e
  | e => e
def arg0 : Expr → Expr
  | .Call _ (a :: _) _ _ => a
  | e => e
def cLeft : Expr → Expr
  | .Compare l _ _ _ => l
  | e => e
def score (n : Nat) (tb : Nat → Nat → Int) (a : Nat) : Nat := (List.range n).countP fun b => decide (tb a b = 1)
theorem ns_sum (P : Params) : nsIn (KB P) mainGlobals (Str.ofString "sum") = some none := by kernel_rfl
theorem ns_sum' (P : Params) : nsIn (KB P) builtinsNs (Str.ofString "sum") = some (some (.builtin "sum")) := by kernel_rfl
abbrev oEnv (z c : Nat) : Env := blockEnv (cScope (sVal (lS 12))) [(Str.ofString "table", z + 2), (Str.ofString "n", z + 1)] c (lEnv z)
section
variable {w : World} {A : Around} {E : Value → Shared → Prop} {h : Heap} {gs : Array GenState} {d : Drawn} {t : Nat} {os : OsState} {ka : KAdr} {kt : KTok} {cf T : Addr} {n : Nat} {tn : Tok} {tb : Nat → Nat → Int} {g : Heap} {z zz : Nat} {m : MT} {va vb : Option Value} {rest : List Stmt} {P : Flow → Shared → Prop} {env : Env}
theorem inner12 {c a : Nat} {ta : Tok} {cs : List Own} {z' : Nat} {Q : Value → Shared → Prop} (Lw : Law w ka kt cf T n tb g) (ha : a < n) (S : Sta g c m cs z' h) (cT : (z + 2, CellP (some (.ref T))) ∈ cs) (cN : (z + 1, CellP (some (.int n tn))) ∈ cs) (cA : (c + 1, CellP (some (.int a ta))) ∈ cs)
    (q : ∀ h' D z'' t' vs, Sta g c m ((D, ListP vs) :: cs) z'' h' → IntsAre vs (List.replicate (score n tb a) 1) → Q (.ref D) ⟨h', gs, d, t', os⟩) :
    wpAny (model PG w) (lA z) (eval (arg0 (cElt (sVal (lS 12)))) (oEnv z c)) Q E ⟨h, gs, d, t, os⟩ := by
  have hhi := Lw.hi
  have hX := Lw.K.X.keeps S.keep
  refine compN (env := oEnv z c) (cl := [(Str.ofString "table", z + 2), (Str.ofString "a", c + 1)]) (pre₀ := []) (a := 0) (n := n) (fun j vs _ pre' cs' _ => pre' = [] ∧ cs' = cs ∧ IntsAre vs (List.replicate ((List.range j).countP fun b => decide (tb a b = 1)) 1)) rfl S
    (evr1 hX fun t Q' q => ldC S cN (q _ _)) (by decide) (by decide) (by omega) (by with_unfolding_all rfl) (fun _ => rfl) ⟨rfl, rfl, .nil⟩ ?_ ?_ ?_
  · rintro k vs mC pre cs z ⟨_, _, hi⟩
    rw [hi.length, List.length_replicate]
    have := List.countP_le_length (p := fun b => decide (tb a b = 1)) (l := List.range k)
    rwa [List.length_range] at this
  · rintro j vs mC pre cs' z1 h1 t1 t₀ E' hj ⟨rfl, rfl, hi⟩ S1
    rw [show (0 : Int) + (j : Int) = j from by omega]
    refine stL S1 fun h2 S2 => tests_one ?_
    obtain ⟨trows, tr, tvs, g1, g2, g3, g4⟩ := (Lw.K.T.ext S2.keep).row ha
    obtain ⟨tkk, g5⟩ := g4 j hj
    have mm : ∀ {p : Own}, p ∈ cs' → p ∈ ([] ++ (mid3 (oEnv z c).locals m z' 0 n j vs ++ cs')) := fun hp => List.mem_append_right _ (List.mem_append_right _ hp)
    refine wpAny_isTrue_Compare1 <| sub1 (fun t Q' q => sub1 (fun t Q' q => ldC S2 (mm cT) (q _)) (fun t Q' q => ldC S2 (mm cA) (q _ _)) g1 (by omega) g2 fun t5 => q _) (fun t Q' q => ldL S2 upd_eq (q _ _)) g3 (by omega) g5 fun t7 =>
      wpAny_Constant_int <| eq_is (c := decide (tb a j = 1)) rfl <| wpAny_truthy_bool ?_
    cases hc : decide (tb a j = 1) with
    | true =>
      rw [if_pos rfl]
      refine wpAny_Constant_int ⟨_, _, cs', _, h2, _, rfl, S2, rfl, rfl, ?_⟩
      rw [List.range_succ, List.countP_append, List.countP_singleton, hc, if_pos rfl, List.replicate_succ']
      exact hi.append (.cons _ _ .nil)
    | false =>
      rw [if_neg (by decide)]
      refine ⟨_, _, cs', _, h2, _, rfl, S2, rfl, rfl, ?_⟩
      rw [List.range_succ, List.countP_append, List.countP_singleton, hc, if_neg (by decide)]
      exact hi
  · rintro vs mC pre cs' z1 h1 t1 ⟨rfl, rfl, hi⟩ S1
    exact q h1 _ _ t1 vs S1 hi
end
end Mine
open PySem PySem.W PySem.W.X PyProof.Rows
set_option Elab.async false
set_option maxRecDepth 100000
set_option maxHeartbeats 4000000
namespace Mine
def scores (n : Nat) (tb : Nat → Nat → Int) (k : Nat) : List Int := (List.range k).map fun a => (score n tb a : Int)
def IsInts (g : Heap) (l : Addr) (ns : List Int) : Prop := ∃ vs, IntsAre vs ns ∧ ∃ o, g.get? l = some o ∧ ListP vs o
theorem IsInts.ext {g g' : Heap} {l : Addr} {ns : List Int} (x : IsInts g l ns) (e : Ext g g') : IsInts g' l ns := let ⟨vs, a, o, b, c⟩ := x; ⟨vs, a, o, e _ _ b, c⟩
section
variable {w : World} {A : Around} {E : Value → Shared → Prop} {h : Heap} {gs : Array GenState} {d : Drawn} {t : Nat} {os : OsState} {ka : KAdr} {kt : KTok} {cf T : Addr} {n : Nat} {tn : Tok} {tb : Nat → Nat → Int} {g : Heap} {z zz : Nat} {m : MT} {va vb : Option Value} {rest : List Stmt} {P : Flow → Shared → Prop} {env : Env}
theorem st12 (Lw : Law w ka kt cf T n tb g) (S : Sta g z m (base z n tn T ka.C va vb) zz h)
    (k : ∀ g' WL zz' h' t', Ext g g' → Sta g' z (upd m (Str.ofString "wins") (.ref WL)) (base z n tn T ka.C va vb) zz' h' → IsInts g' WL (scores n tb n) → wpAny (model PG w) (lA z) (execs rest (lEnv z)) P E ⟨h', gs, d, t', os⟩) :
    wpAny (model PG w) (lA z) (execs (lS 12 :: rest) (lEnv z)) P E ⟨h, gs, d, t, os⟩ := by
  have hX := Lw.K.X
  have hlo := Lw.lo
  have hhi := Lw.hi
  refine wpAny_execs_cons ?_
  refine compU (env := lEnv z) (cl := [(Str.ofString "table", z + 2), (Str.ofString "n", z + 1)]) (pre₀ := [(zz + 4, CellP none)]) (a := 0) (n := n)
    (fun k vs _ pre cs' _ => cs' = base z n tn T ka.C va vb ∧ (∃ v, pre = [(zz + 4, CellP v)]) ∧ IntsAre vs (scores n tb k)) rfl S (evr1 (hX.keeps S.keep) fun t Q' k => ldC S bn (k _ _)) (by decide) (by decide) (by omega) (by with_unfolding_all rfl) (fun _ => rfl) ⟨rfl, ⟨_, rfl⟩, .nil⟩ ?_ ?_ ?_
  · rintro k vs mC pre cs z ⟨_, _, hi⟩
    rw [hi.length]; simp [scores]
  · rintro a vs mC pre cs' z1 h1 t1 t₀ E' ha ⟨rfl, ⟨v, rfl⟩, hi⟩ S1
    rw [show (0 : Int) + (a : Int) = a from by omega]
    refine stC (i := 0) S1 rfl fun h2 S2 => tests_nil ?_
    rw [if_pos rfl]
    have S2 : Sta g (zz + 3) mC ((zz + 4, CellP (some (.int a t₀))) :: (mid3 (lEnv z).locals m zz 0 n a vs ++ base z n tn T ka.C va vb)) z1 h2 := S2
    have mm : ∀ {p : Own}, p ∈ base z n tn T ka.C va vb → p ∈ ((zz + 4, CellP (some (.int a t₀))) :: (mid3 (lEnv z).locals m zz 0 n a vs ++ base z n tn T ka.C va vb)) := fun hp => .tail _ (List.mem_append_right _ hp)
    have hX2 := hX.keeps S2.keep
    refine Call_ <| ldB hX2 (ns_sum _) (ns_sum' _) <| PyProof.Rows.callWith_builtin1 <| args_cons <| inner12 Lw ha S2 (mm bT) (mm bn) (.head _) fun h3 D z3 t3 vs3 S3 hi3 => args_nil <| sum_own S3 rfl (S3.get (.head _)) hi3 fun h4 z4 tk4 t4 e4 S4 => ?_
    refine ⟨_, [(zz + 4, CellP (some (.int a t₀)))], _, _, h4, t4, rfl, S4.thin (.cons _ (List.Sublist.refl _)), rfl, ⟨_, rfl⟩, ?_⟩
    rw [show scores n tb (a + 1) = scores n tb a ++ [(score n tb a : Int)] from by simp [scores, List.range_succ], show (List.replicate (score n tb a) (1 : Int)).sum = (score n tb a : Int) from by simp]
    exact hi.append (.cons _ _ .nil)
  · rintro vs mC pre cs z' h5 t5 ⟨rfl, _, hi⟩ S5
    obtain ⟨g', e1, e2, S6, f1, f2⟩ := (show Sta g z _ ([(zz + 2, ListP vs)] ++ base z n tn T ka.C va vb) _ h5 from S5).reground
    exact k g' _ _ h5 _ e1 S6 ⟨vs, hi, f1 _ (.head _)⟩
theorem st13 {WL : Addr} (Lw : Law w ka kt cf T n tb g) (hW : IsInts g WL (scores n tb n)) (hw : m (Str.ofString "wins") = some (.ref WL)) (S : Sta g z m (base z n tn T ka.C va vb) zz h)
    (k : ∀ g' FL ns zz' h' t', Ext g g' → Sta g' z (upd m (Str.ofString "fewest") (.ref FL)) (base z n tn T ka.C va vb) zz' h' → IsInts g' FL ns → ns.Perm (scores n tb n) → ns.Pairwise (· ≤ ·) → wpAny (model PG w) (lA z) (execs rest (lEnv z)) P E ⟨h', gs, d, t', os⟩) :
    wpAny (model PG w) (lA z) (execs (lS 13 :: rest) (lEnv z)) P E ⟨h, gs, d, t, os⟩ := by
  have hhi := Lw.hi
  have hX := Lw.K.X.keeps S.keep
  obtain ⟨vs, hi, hl⟩ := hW.ext S.keep
  refine wpAny_execs_cons <| wpAny_Assign_Name <| Call_ <| ldB hX (ns_sorted _) (ns_sorted' _) <| PyProof.Rows.callWith_builtin1 <| args_cons <| ldL S hw <| args_nil <|
    sorted_own S hl hi (by rw [hi.length]; simp [scores]; omega) fun h1 l1 z1 vs1 ns1 e1 S1 i1 p1 o1 => stL S1 fun h2 S2 => ?_
  obtain ⟨g', e1, e2, S6, f1, f2⟩ := (show Sta g z _ ([(l1, ListP vs1)] ++ base z n tn T ka.C va vb) _ h2 from S2).reground
  exact k g' _ ns1 _ h2 _ e1 S6 ⟨vs1, i1, f1 _ (.head _)⟩ p1 o1
end
end Mine
open PySem PySem.W PySem.W.X PyProof.Rows
set_option Elab.async false
set_option maxRecDepth 100000
set_option maxHeartbeats 4000000
namespace Mine
def lowAt (ns : List Int) (i : Nat) : Bool := decide ((ns.take i).sum ≤ (((i : Nat) : Int) * ((i : Int) - 1)).fdiv 2)
def wholeTo (ns : List Int) (j : Nat) : Bool := (List.range j).all fun i => !lowAt ns (i + 1)
theorem wholeTo_succ (ns : List Int) (j : Nat) : wholeTo ns (j + 1) = (wholeTo ns j && !lowAt ns (j + 1)) := by
  unfold wholeTo; rw [List.range_succ, List.all_append]; simp
section
variable {w : World} {A : Around} {E : Value → Shared → Prop} {h : Heap} {gs : Array GenState} {d : Drawn} {t : Nat} {os : OsState} {ka : KAdr} {kt : KTok} {cf T : Addr} {n : Nat} {tn : Tok} {tb : Nat → Nat → Int} {g : Heap} {z zz : Nat} {m : MT} {va vb : Option Value} {rest : List Stmt} {P : Flow → Shared → Prop} {env : Env}
def J15 (z n : Nat) (tn : Tok) (T C BL WL FL : Addr) (va vb : Option Value) (ns : List Int) (j : Nat) (m : MT) (cs : List Own) : Prop :=
  m (Str.ofString "beats") = some (.ref BL) ∧ m (Str.ofString "wins") = some (.ref WL) ∧ m (Str.ofString "fewest") = some (.ref FL) ∧ m (Str.ofString "whole") = some (.bool (wholeTo ns j)) ∧ cs = base z n tn T C va vb
theorem t15 {R : Result → Shared → Prop} {BL WL FL : Addr} {ns : List Int} {j z' : Nat} {t₀ : Tok} {I : Own} {cs : List Own} (Lw : Law w ka kt cf T n tb g) (hF : IsInts g FL ns) (hns : ns.length = n) (hj : j < n - 1) (J : J15 z n tn T ka.C BL WL FL va vb ns j m cs) (S : Sta g z m (I :: cs) z' h) :
    wpAny (model PG w) (lA z) (storeName (lEnv z) (Str.ofString "k") (.int (1 + j) t₀)) (fun _ s₂ => wpAny (model PG w) (lA z) (execs (sBody (lS 15)) (lEnv z))
      (ForEnd g z I gs d os (fun m cs _ => J15 z n tn T ka.C BL WL FL va vb ns (j + 1) m cs) R) E s₂) E ⟨h, gs, d, t, os⟩ := by
  obtain ⟨hB, hW, hFw, hWh, rfl⟩ := J
  have hhi := Lw.hi
  rw [show (1 : Int) + (j : Int) = ((j + 1 : Nat) : Int) from by omega]
  refine stL S fun h1 S1 => ?_
  have hX := Lw.K.X.keeps S1.keep
  obtain ⟨vs, hi, hl⟩ := hF.ext S1.keep
  have hvl := hi.length
  refine wpAny_execs_cons <| wpAny_If <| wpAny_isTrue_Compare1 <| Call_ <| ldB hX (ns_sum _) (ns_sum' _) <| PyProof.Rows.callWith_builtin1 <| args_cons <|
    slice_own (x := none) (y := some ((j + 1 : Nat) : Int)) S1 (fun t Q' q => ldL S1 (upd_ne hFw) (q _)) hl (fun t Q' q => evalPart_none_step (q _ _ .none)) (fun t Q' q => evalPart_some_step <| ldL S1 upd_eq (q _ _ (.int _ _))) (by omega) fun h2 t2 e2 S2 => args_nil ?_
  rw [slicePick_upto' vs.toArray (j + 1), List.toList_toArray, List.toList_toArray] at S2
  refine sum_own S2 rfl (S2.get (.head _)) (hi.take (j + 1)) fun h3 z3 tk3 t3 e3 S3 => ?_
  have S4 : Sta g z _ (I :: base z n tn T ka.C va vb) _ h3 := S3.thin (.cons _ (List.Sublist.refl _))
  refine wpAny_BinOp <| wpAny_BinOp <| ldL S4 upd_eq <| wpAny_BinOp <| ldL S4 upd_eq <| wpAny_Constant_int <| sub_int <| mul_int (wpAny_Constant_int <| floordiv_int (by decide) (PyProof.Rows.le_int <| wpAny_truthy_bool ?_) (Or.inl (PyProof.noPylong_small (by decide)))) (IntMulOk.of_left ?_)
  · show if lowAt ns (j + 1) = true then _ else _
    cases hc : lowAt ns (j + 1) with
    | true =>
      rw [if_pos rfl]
      refine wpAny_execs_cons <| wpAny_Assign_Name <| Constant_bool <| stL S4 fun h5 S5 => wpAny_execs_nil <| wpAny_execs_nil <| .next S5 ⟨upd_ne (upd_ne hB), upd_ne (upd_ne hW), upd_ne (upd_ne hFw), ?_, rfl⟩
      rw [wholeTo_succ, hc, Bool.not_true, Bool.and_false]; exact upd_eq
    | false =>
      rw [if_neg (by decide)]
      refine wpAny_execs_nil <| wpAny_execs_nil <| .next S4 ⟨upd_ne hB, upd_ne hW, upd_ne hFw, ?_, rfl⟩
      rw [wholeTo_succ, hc, Bool.not_false, Bool.and_true]; exact upd_ne hWh
  · rcases (by omega : j = 0 ∨ j = 1 ∨ j = 2 ∨ j = 3 ∨ j = 4 ∨ j = 5) with rfl | rfl | rfl | rfl | rfl | rfl <;> decide
theorem st14 {BL WL FL : Addr} {ns : List Int} (Lw : Law w ka kt cf T n tb g) (hF : IsInts g FL ns) (hns : ns.length = n) (hB : m (Str.ofString "beats") = some (.ref BL)) (hW : m (Str.ofString "wins") = some (.ref WL)) (hFw : m (Str.ofString "fewest") = some (.ref FL))
    (S : Sta g z m (base z n tn T ka.C va vb) zz h)
    (k : ∀ m' zz' h' t', m' (Str.ofString "beats") = some (.ref BL) → m' (Str.ofString "wins") = some (.ref WL) → m' (Str.ofString "whole") = some (.bool (wholeTo ns (n - 1))) → Sta g z m' (base z n tn T ka.C va vb) zz' h' → wpAny (model PG w) (lA z) (execs rest (lEnv z)) P E ⟨h', gs, d, t', os⟩) :
    wpAny (model PG w) (lA z) (execs (lS 14 :: lS 15 :: rest) (lEnv z)) P E ⟨h, gs, d, t, os⟩ := by
  have hlo := Lw.lo
  have hhi := Lw.hi
  refine wpAny_execs_cons <| wpAny_Assign_Name <| Constant_bool <| stL S fun h1 S1 => wpAny_execs_cons ?_
  refine forRange (a := 1) (n := n - 1) (fun j m cs _ => J15 z n tn T ka.C BL WL FL va vb ns j m cs) rfl S1 (evr2 (Lw.K.X.keeps S1.keep) (fun t Q' q => wpAny_Constant_int (q _ _)) (fun t Q' q => ldC S1 (v := .int n tn) bn ?_)) (by decide) (by decide) (by omega) ⟨upd_ne hB, upd_ne hW, upd_ne hFw, upd_eq, rfl⟩ ?_ ?_
  · rw [show ((n : Nat) : Int) = 1 + ((n - 1 : Nat) : Int) from by omega]; exact q _ _
  · exact fun j m cs z' h10 t11 t₁ I E'' hj J S10 => t15 Lw hF hns hj J S10
  · rintro m cs z' h8 t8 ⟨hB, hW, hFw, hWh, rfl⟩ S8
    exact k m _ h8 _ hB hW hWh S8
theorem st16 {BL WL : Addr} {c : Bool} {bt : Nat → Nat → Bool} (Lw : Law w ka kt cf T n tb g) (hBt : IsBt g BL n bt) (hcyc : decide (0 < (wk n bt 0 n 0 1).2) = c) (hB : m (Str.ofString "beats") = some (.ref BL)) (hWh : m (Str.ofString "whole") = some (.bool c))
    (S : Sta g z m (base z n tn T ka.C va vb) zz h)
    (k : ∀ zz' h' t', Sta g z m (base z n tn T ka.C va vb) zz' h' → wpAny (model PG w) (lA z) (execs rest (lEnv z)) P E ⟨h', gs, d, t', os⟩) :
    wpAny (model PG w) (lA z) (execs (lS 16 :: rest) (lEnv z)) P E ⟨h, gs, d, t, os⟩ := by
  have hlo := Lw.lo
  have hhi := Lw.hi
  have hd := lA_depth z
  have hX := Lw.K.X.keeps S.keep
  refine wpAny_execs_cons <| wpAny_If <| wpAny_isTrue_Compare1 <| wpAny_Compare1 <| Subscript_ <| Call_ <| ldG hX (ns_walks _) <| callWith_def (o := oFn "_law_walks" 5 207 41) rfl <| args_cons <| ldL S hB <| args_cons <| ldC S bn <| args_cons <| wpAny_Constant_int <| args_cons <| wpAny_Constant_int <| args_cons <| wpAny_Constant_int <| args_nil ⟨hX _ _ (fn_walks _), ?_⟩
  have hp : 1 < 2 ^ n := Nat.one_lt_two_pow (by omega)
  refine walks_call (last := 0) (seen := 1) (first := 0) (by omega) (by omega) n (by omega) rfl hX (hBt.ext S.keep) (by omega) hp (cnt_le _ _) fun h2 l t2 e2 n2 hl => ?_
  obtain ⟨tp, tc, o, q1, q2⟩ := hl
  have S2 := S.ext e2 rfl
  refine wpAny_Constant_int <| item ⟨o, q1, q2⟩ (by decide) (by decide) rfl <| wpAny_Constant_int <| PyProof.Rows.gt_int <| ldL S2 hWh <| PySem.SeqAt.RcNeAt.bool_bool _ _ _ _ _ _ <| wpAny_truthy_bool ?_
  rw [hcyc, beq_self_eq_true, Bool.not_true, if_neg (by decide)]
  exact wpAny_execs_nil <| k _ h2 _ S2
end
end Mine
open PySem PySem.W PySem.W.X PyProof.Rows
set_option Elab.async false
set_option maxRecDepth 100000
set_option maxHeartbeats 4000000
namespace Mine
def sTest : Stmt → Expr
  | .If e _ _ _ => e
  | _ => .Constant .none 0 ⟨0, 0, 0, 0⟩
abbrev kIf : Stmt := nth (sBody (lS 17)) 0
abbrev kFor : Stmt := nth (sBody kIf) 0
abbrev kIf2 : Stmt := nth (sBody kFor) 0
abbrev kIf3 : Stmt := nth (sBody kIf2) 0
def mid (n : Nat) (tb : Nat → Nat → Int) (a b j : Nat) : Nat := (List.range j).countP fun c => decide (tb a c = 1) && decide (tb c b = 1)
section
variable {w : World} {A : Around} {E : Value → Shared → Prop} {h : Heap} {gs : Array GenState} {d : Drawn} {t : Nat} {os : OsState} {ka : KAdr} {kt : KTok} {cf T : Addr} {n : Nat} {tn : Tok} {tb : Nat → Nat → Int} {g : Heap} {z zz : Nat} {m : MT} {va vb : Option Value} {rest : List Stmt} {P : Flow → Shared → Prop} {env : Env}
theorem kcomp {a b : Nat} {ta u : Tok} {cs : List Own} {z' : Nat} {Q : Value → Shared → Prop} (Lw : Law w ka kt cf T n tb g) (ha : a < n) (hb : b < n) (S : Sta g z m cs z' h) (cT : (z + 2, CellP (some (.ref T))) ∈ cs) (cN : (z + 1, CellP (some (.int n tn))) ∈ cs) (cA : (z + 4, CellP (some (.int a ta))) ∈ cs) (cB : (z + 5, CellP (some (.int b u))) ∈ cs)
    (q : ∀ h' D z'' t' vs, Sta g z m ((D, ListP vs) :: cs) z'' h' → vs.length = mid n tb a b n → Q (.ref D) ⟨h', gs, d, t', os⟩) :
    wpAny (model PG w) (lA z) (eval (cLeft (sTest kIf3)) (lEnv z)) Q E ⟨h, gs, d, t, os⟩ := by
  have hhi := Lw.hi
  have hX := Lw.K.X.keeps S.keep
  refine compN (env := lEnv z) (cl := [(Str.ofString "table", z + 2), (Str.ofString "b", z + 5), (Str.ofString "a", z + 4)]) (pre₀ := []) (a := 0) (n := n) (fun j vs _ pre' cs' _ => pre' = [] ∧ cs' = cs ∧ vs.length = mid n tb a b j) rfl S
    (evr1 hX fun t Q' q => ldC S cN (q _ _)) (by decide) (by decide) (by omega) (by with_unfolding_all rfl) (fun _ => rfl) ⟨rfl, rfl, rfl⟩ ?_ ?_ ?_
  · rintro k vs mC pre cs z ⟨_, _, hi⟩
    rw [hi]
    have := List.countP_le_length (p := fun c => decide (tb a c = 1) && decide (tb c b = 1)) (l := List.range k)
    rwa [List.length_range] at this
  · rintro j vs mC pre cs' z1 h1 t1 t₀ E' hj ⟨rfl, rfl, hi⟩ S1
    rw [show (0 : Int) + (j : Int) = j from by omega]
    refine stL S1 fun h2 S2 => tests_one ?_
    obtain ⟨trows, tr, tvs, g1, g2, g3, g4⟩ := (Lw.K.T.ext S2.keep).row ha
    obtain ⟨tkk, g5⟩ := g4 j hj
    obtain ⟨trows', tr', tvs', f1, f2, f3, f4⟩ := (Lw.K.T.ext S2.keep).row hj
    obtain ⟨tkk', f5⟩ := f4 b hb
    have mm : ∀ {p : Own}, p ∈ cs' → p ∈ ([] ++ (mid3 (lEnv z).locals m z' 0 n j vs ++ cs')) := fun hp => List.mem_append_right _ (List.mem_append_right _ hp)
    have step : ∀ (b1 b2 : Bool), decide (tb a j = 1) = b1 → decide (tb j b = 1) = b2 → mid n tb a b (j + 1) = mid n tb a b j + if (b1 && b2) = true then 1 else 0 := by
      intro b1 b2 e1 e2
      unfold mid
      rw [List.range_succ, List.countP_append, List.countP_singleton, e1, e2]
    refine isTrue_and <| wpAny_isTrue_Compare1 <| sub1 (fun t Q' q => sub1 (fun t Q' q => ldC S2 (mm cT) (q _)) (fun t Q' q => ldC S2 (mm cA) (q _ _)) g1 (by omega) g2 fun t5 => q _) (fun t Q' q => ldL S2 upd_eq (q _ _)) g3 (by omega) g5 fun t7 =>
      wpAny_Constant_int <| eq_is (c := decide (tb a j = 1)) rfl <| wpAny_truthy_bool ?_
    cases hc : decide (tb a j = 1) with
    | false =>
      rw [if_neg (by decide), if_neg (by decide)]
      exact ⟨_, _, cs', _, h2, _, rfl, S2, rfl, rfl, by rw [step _ _ hc rfl, hi]; rfl⟩
    | true =>
      rw [if_pos rfl]
      refine isTrue_and <| wpAny_isTrue_Compare1 <| sub1 (fun t Q' q => sub1 (fun t Q' q => ldC S2 (mm cT) (q _)) (fun t Q' q => ldL S2 upd_eq (q _ _)) f1 (by omega) f2 fun t5 => q _) (fun t Q' q => ldC S2 (mm cB) (q _ _)) f3 (by omega) f5 fun t7 =>
        wpAny_Constant_int <| eq_is (c := decide (tb j b = 1)) rfl <| wpAny_truthy_bool ?_
      cases hc2 : decide (tb j b = 1) with
      | false =>
        rw [if_neg (by decide), if_neg (by decide)]
        exact ⟨_, _, cs', _, h2, _, rfl, S2, rfl, rfl, by rw [step _ _ hc hc2, hi]; rfl⟩
      | true =>
        rw [if_pos rfl]
        refine isTrue_and_nil ?_
        rw [if_pos rfl]
        refine ldL S2 upd_eq ⟨_, _, cs', _, h2, _, rfl, S2, rfl, rfl, by rw [step _ _ hc hc2, List.length_append, hi]; rfl⟩
  · rintro vs mC pre cs' z1 h1 t1 ⟨rfl, rfl, hi⟩ S1
    exact q h1 _ _ t1 vs S1 hi
end
end Mine
open PySem PySem.W PySem.W.X PyProof.Rows
set_option Elab.async false
set_option maxRecDepth 100000
set_option maxHeartbeats 4000000
namespace Mine
theorem ns_max (P : Params) : nsIn (KB P) mainGlobals (Str.ofString "max") = some none := by kernel_rfl
theorem ns_max' (P : Params) : nsIn (KB P) builtinsNs (Str.ofString "max") = some (some (.builtin "max")) := by kernel_rfl
section
variable {w : World} {A : Around} {E : Value → Shared → Prop} {h : Heap} {gs : Array GenState} {d : Drawn} {t : Nat} {os : OsState} {ka : KAdr} {kt : KTok} {cf T : Addr} {n : Nat} {tn : Tok} {tb : Nat → Nat → Int} {g : Heap} {z zz : Nat} {m : MT} {va vb : Option Value} {rest : List Stmt} {P : Flow → Shared → Prop} {env : Env}
def J17i (z n : Nat) (tn : Tok) (T C WL : Addr) (k : Nat) (I : Own) (m : MT) (cs : List Own) : Prop := m (Str.ofString "wins") = some (.ref WL) ∧ ∃ ta vb, cs = I :: base z n tn T C (some (.int k ta)) vb
theorem t17i {R : Result → Shared → Prop} {WL : Addr} {k j z' : Nat} {t₀ : Tok} {I I' : Own} {cs : List Own} (Lw : Law w ka kt cf T n tb g) (hk : k < n) (hj : j < n) (hmid : k ≠ j → tb k j ≠ 1 → 0 < mid n tb k j n) (J : J17i z n tn T ka.C WL k I m cs) (S : Sta g z m (I' :: cs) z' h) :
    wpAny (model PG w) (lA z) (storeName (lEnv z) (Str.ofString "b") (.int (0 + j) t₀)) (fun _ s₂ => wpAny (model PG w) (lA z) (execs (sBody kFor) (lEnv z))
      (ForEnd g z I' gs d os (fun m cs _ => J17i z n tn T ka.C WL k I m cs) R) E s₂) E ⟨h, gs, d, t, os⟩ := by
  obtain ⟨hW, ta, vb, rfl⟩ := J
  have hhi := Lw.hi
  rw [show (0 : Int) + (j : Int) = j from by omega]
  refine stC (i := 2) S rfl fun h1 S1 => ?_
  have S1 : Sta g z m (I' :: I :: base z n tn T ka.C (some (.int k ta)) (some (.int j t₀))) z' h1 := S1
  have mb : ∀ {p : Own}, p ∈ base z n tn T ka.C (some (.int k ta)) (some (.int j t₀)) → p ∈ (I' :: I :: base z n tn T ka.C (some (.int k ta)) (some (.int j t₀))) := fun hp => .tail _ (.tail _ hp)
  obtain ⟨trows, tr, tvs, g1, g2, g3, g4⟩ := (Lw.K.T.ext S1.keep).row hk
  obtain ⟨tkk, g5⟩ := g4 j hj
  refine wpAny_execs_cons <| wpAny_If <| isTrue_and <| wpAny_isTrue_Compare1 <| ldC S1 (mb bA) <| ldC S1 (mb bB) <| ne_is (c := decide (k ≠ j)) ?_ <| wpAny_truthy_bool ?_
  · by_cases e : k = j
    · subst e; simp
    · rw [decide_eq_true e]
      exact (bne_iff_ne (a := (k : Int)) (b := (j : Int))).mpr (by omega)
  by_cases hkj : k = j
  · rw [decide_eq_false (by simpa using hkj), if_neg (by decide), if_neg (by decide)]
    exact wpAny_execs_nil <| wpAny_execs_nil <| .next S1 ⟨hW, ta, _, rfl⟩
  · rw [decide_eq_true hkj, if_pos rfl]
    refine isTrue_and <| wpAny_isTrue_Compare1 <| sub1 (fun t Q' q => sub1 (fun t Q' q => ldC S1 (mb bT) (q _)) (fun t Q' q => ldC S1 (mb bA) (q _ _)) g1 (by omega) g2 fun t5 => q _) (fun t Q' q => ldC S1 (mb bB) (q _ _)) g3 (by omega) g5 fun t7 =>
      wpAny_Constant_int <| ne_is (c := decide (tb k j ≠ 1)) (by by_cases e : tb k j = 1 <;> simp [e, bne]) <| wpAny_truthy_bool ?_
    by_cases h1 : tb k j = 1
    · rw [decide_eq_false (by simpa using h1), if_neg (by decide), if_neg (by decide)]
      exact wpAny_execs_nil <| wpAny_execs_nil <| .next S1 ⟨hW, ta, _, rfl⟩
    · rw [decide_eq_true h1, if_pos rfl]
      refine isTrue_and_nil ?_
      rw [if_pos rfl]
      have hm := hmid hkj h1
      refine wpAny_execs_cons <| wpAny_If <| wpAny_isTrue_Compare1 <| kcomp Lw hk hj S1 (mb bT) (mb bn) (mb bA) (mb bB) fun h2 D z2 t2 vs S2 hvs => List_ <| args_nil <| new_list S2 (fun h3 e3 S3 => ?_) (by simp)
      refine PySem.SeqAt.eq_list_lengthsAt (s := ⟨h3, gs, d, _, os⟩) (isList_of (S3.get (.tail _ (.head _)))) (isList_of (S3.get (.head _))) ?_ (Nat.lt_trans (Nat.lt_add_of_pos_right (by decide)) (lA_units z)) <| wpAny_truthy_bool ?_
      · rw [List.size_toArray, hvs]; exact bne_iff_ne.mpr (by simp; omega)
      rw [if_neg (by decide)]
      exact wpAny_execs_nil <| wpAny_execs_nil <| wpAny_execs_nil <| .next (S3.thin (.cons _ (.cons _ (List.Sublist.refl _)))) ⟨hW, ta, _, rfl⟩
theorem t17 {R : Result → Shared → Prop} {WL : Addr} {k z' : Nat} {t₀ : Tok} {I : Own} {cs : List Own} (Lw : Law w ka kt cf T n tb g) (hWs : IsInts g WL (scores n tb n)) (hk : k < n)
    (hking : (∀ x, x < n → score n tb x ≤ score n tb k) → ∀ j, j < n → k ≠ j → tb k j ≠ 1 → 0 < mid n tb k j n) (J : m (Str.ofString "wins") = some (.ref WL) ∧ ∃ va vb, cs = base z n tn T ka.C va vb) (S : Sta g z m (I :: cs) z' h) :
    wpAny (model PG w) (lA z) (storeName (lEnv z) (Str.ofString "a") (.int (0 + k) t₀)) (fun _ s₂ => wpAny (model PG w) (lA z) (execs (sBody (lS 17)) (lEnv z))
      (ForEnd g z I gs d os (fun m cs _ => m (Str.ofString "wins") = some (.ref WL) ∧ ∃ va vb, cs = base z n tn T ka.C va vb) R) E s₂) E ⟨h, gs, d, t, os⟩ := by
  obtain ⟨hW, va, vb, rfl⟩ := J
  have hhi := Lw.hi
  rw [show (0 : Int) + (k : Int) = k from by omega]
  refine stC (i := 2) S rfl fun h1 S1 => ?_
  have S1 : Sta g z m (I :: base z n tn T ka.C (some (.int k t₀)) vb) z' h1 := S1
  have hX := Lw.K.X.keeps S1.keep
  obtain ⟨vs, hi, hl⟩ := hWs.ext S1.keep
  have hsc : (scores n tb n)[k]? = some (score n tb k : Int) := by unfold scores; rw [List.getElem?_map, List.getElem?_range hk]; rfl
  obtain ⟨tk, hvk⟩ := hi.get k _ hsc
  refine wpAny_execs_cons <| wpAny_If <| wpAny_isTrue_Compare1 <| sub1 (fun t Q' q => ldL S1 hW (q _)) (fun t Q' q => ldC S1 (.tail _ bA) (q _ _)) hl (by omega) hvk fun t2 => Call_ <| ldB hX (ns_max _) (ns_max' _) <| PyProof.Rows.callWith_builtin1 <| args_cons <| ldL S1 hW <| args_nil <|
    max_own S1 rfl hl hi (by simp [scores]; omega) fun h2 z2 M tk2 t3 e2 S2 hM hle => eq_is (c := decide ((score n tb k : Int) = M)) rfl <| wpAny_truthy_bool ?_
  by_cases hc : (score n tb k : Int) = M
  · rw [decide_eq_true hc, if_pos rfl]
    have hmx : ∀ x, x < n → score n tb x ≤ score n tb k := fun x hx => by
      have := hle (score n tb x : Int) (List.mem_map.mpr ⟨x, List.mem_range.mpr hx, rfl⟩)
      omega
    refine wpAny_execs_cons ?_
    refine forRange (a := 0) (n := n) (fun j m cs _ => J17i z n tn T ka.C WL k I m cs) rfl S2 (evr1 (hX.keeps e2) fun t Q' q => ldC S2 (.tail _ bn) (q _ _)) (by decide) (by decide) (by omega) ⟨hW, t₀, vb, rfl⟩ ?_ ?_
    · exact fun j m cs z' h10 t10 t₁ I' E'' hj J S10 => t17i Lw hk hj (hking hmx j hj) J S10
    · rintro m cs z' h8 t8 ⟨hW, ta, vb, rfl⟩ S8
      exact wpAny_execs_nil <| wpAny_execs_nil <| .next S8 ⟨hW, _, _, rfl⟩
  · rw [decide_eq_false hc, if_neg (by decide)]
    exact wpAny_execs_nil <| wpAny_execs_nil <| .next S2 ⟨hW, _, _, rfl⟩
theorem st17 {WL : Addr} (Lw : Law w ka kt cf T n tb g) (hWs : IsInts g WL (scores n tb n)) (hking : ∀ k, k < n → (∀ x, x < n → score n tb x ≤ score n tb k) → ∀ j, j < n → k ≠ j → tb k j ≠ 1 → 0 < mid n tb k j n) (hW : m (Str.ofString "wins") = some (.ref WL))
    (S : Sta g z m (base z n tn T ka.C va vb) zz h)
    (k : ∀ h' t', Ext g h' → P (.ret (.bool true)) ⟨h', gs, d, t', os⟩) :
    wpAny (model PG w) (lA z) (execs (lS 17 :: lS 18 :: rest) (lEnv z)) P E ⟨h, gs, d, t, os⟩ := by
  have hhi := Lw.hi
  refine wpAny_execs_cons ?_
  refine forRange (a := 0) (n := n) (fun k m cs _ => m (Str.ofString "wins") = some (.ref WL) ∧ ∃ va vb, cs = base z n tn T ka.C va vb) rfl S (evr1 (Lw.K.X.keeps S.keep) fun t Q' q => ldC S bn (q _ _)) (by decide) (by decide) (by omega) ⟨hW, va, vb, rfl⟩ ?_ ?_
  · exact fun k m cs z' h10 t11 t₁ I E'' hk J S10 => t17 Lw hWs hk (hking k hk) J S10
  · rintro m cs z' h8 t8 ⟨hW, va, vb, rfl⟩ S8
    exact wpAny_execs_cons <| wpAny_Return_some <| Constant_bool <| k h8 _ S8.keep
end
end Mine
open PySem PySem.W PySem.W.X PyProof.Rows
set_option Elab.async false
set_option maxRecDepth 100000
set_option maxHeartbeats 4000000
namespace Mine
/-- what the law says of a tournament, in plain words -/
structure Says (n : Nat) (tb : Nat → Nat → Int) : Prop where
  odd : (wsum n (fun a b => decide (tb a b = 1)) n).fmod 2 = 1
  cyc : ∀ ns : List Int, ns.Perm (scores n tb n) → ns.Pairwise (· ≤ ·) → decide (0 < (wk n (fun a b => decide (tb a b = 1)) 0 n 0 1).2) = wholeTo ns (n - 1)
  king : ∀ k, k < n → (∀ x, x < n → score n tb x ≤ score n tb k) → ∀ j, j < n → k ≠ j → tb k j ≠ 1 → 0 < mid n tb k j n
section
variable {w : World} {A : Around} {E : Value → Shared → Prop} {h : Heap} {gs : Array GenState} {d : Drawn} {t : Nat} {os : OsState} {ka : KAdr} {kt : KTok} {cf T : Addr} {n : Nat} {tn : Tok} {tb : Nat → Nat → Int} {g : Heap} {z zz : Nat} {m : MT} {va vb : Option Value} {rest : List Stmt} {P : Flow → Shared → Prop} {env : Env}
theorem lawB (Lw : Law w ka kt cf T n tb g) (M : Says n tb) (S : Sta g z m (base z n tn T ka.C va vb) zz h) (k : ∀ h' t', Ext g h' → P (.ret (.bool true)) ⟨h', gs, d, t', os⟩) :
    wpAny (model PG w) (lA z) (execs (lS 3 :: lS 4 :: lS 5 :: lS 6 :: lS 7 :: lS 8 :: lS 9 :: lS 10 :: lS 11 :: lS 12 :: lS 13 :: lS 14 :: lS 15 :: lS 16 :: lS 17 :: lS 18 :: []) (lEnv z)) P E ⟨h, gs, d, t, os⟩ := by
  refine st3 Lw S fun g1 KL z1 h1 t1 e1 S1 K1 => ?_
  have Lw1 := Lw.ext e1
  refine st4 Lw1 S1 fun BL rs vals z2 h2 t2 l1 l2 S2 => ?_
  refine st5 Lw1 K1 (upd_ne upd_eq) upd_eq l1 l2 S2 fun g3 m3 va3 vb3 z3 h3 t3 e3 B3 hK3 hB3 S3 => ?_
  have Lw3 := Lw1.ext e3
  refine st6 S3 fun RL z4 h4 t4 S4 => ?_
  refine st7 Lw3 (K1.ext e3) (upd_ne hK3) (upd_ne hB3) upd_eq S4 fun RL r vs m5 va5 vb5 z5 h5 t5 R5 i5 hR5 hB5 S5 => ?_
  refine st8 Lw3 R5 i5 hR5 S5 fun z6 h6 t6 S6 => ?_
  refine st10 Lw3 B3 M.odd hB5 S6 fun m7 va7 vb7 z7 h7 t7 hB7 S7 => ?_
  refine st12 Lw3 S7 fun g8 WL z8 h8 t8 e8 S8 W8 => ?_
  have Lw8 := Lw3.ext e8
  refine st13 Lw8 W8 upd_eq S8 fun g9 FL ns z9 h9 t9 e9 S9 F9 p9 o9 => ?_
  have Lw9 := Lw8.ext e9
  refine st14 (WL := WL) Lw9 F9 (by rw [p9.length_eq]; simp [scores]) (upd_ne (upd_ne hB7)) (upd_ne upd_eq) upd_eq S9 fun m10 z10 h10 t10 hB10 hW10 hWh10 S10 => ?_
  refine st16 (WL := WL) Lw9 (B3.ext (e8.trans e9)) (M.cyc ns p9 o9) hB10 hWh10 S10 fun z11 h11 t11 S11 => ?_
  exact st17 Lw9 (W8.ext e9) M.king hW10 S11 fun h' t' e => k h' t' (e1.trans (e3.trans (e8.trans (e9.trans e))))
end
end Mine
open PySem PySem.W PySem.W.X PyProof.Rows
set_option Elab.async false
set_option maxRecDepth 100000
set_option maxHeartbeats 4000000
namespace Mine
theorem ns_table (P : Params) : nsIn (KB P) mainGlobals (Str.ofString "_law_table") = some (some (.ref 47)) := by kernel_rfl
theorem ns_ctk (P : Params) : nsIn (KB P) mainGlobals (Str.ofString "cmp_to_key") = some (some (.ref 28)) := by kernel_rfl
theorem ns_lc (P : Params) : nsIn (KB P) mainGlobals (Str.ofString "_law_compare") = some (some (.ref 35)) := by kernel_rfl
theorem fn_ctk (P : Params) : (KB P).lookup 28 = some (oFnM "cmp_to_key" 2 "cpy313.functools" 187 27) := by kernel_rfl
theorem fn_lc (P : Params) : (KB P).lookup 35 = some (oFn "_law_compare" 4 207 34) := by kernel_rfl
theorem Sta.lower {g g' : Heap} {L : Addr} {m : MT} {cs : List Own} {z : Nat} {h : Heap} (S : Sta g L m cs z h) (e : Ext g' g) : Sta g' L m cs z h := by
  have off : ∀ a, g.get? a = none → g'.get? a = none := fun a q => by
    cases r : g'.get? a with
    | none => rfl
    | some o => have := e _ _ r; rw [q] at this; cases this
  exact ⟨S.ns, e.trans S.keep, off _ S.offL, fun p hp => let ⟨o, a, b, c, d⟩ := S.own p hp; ⟨o, a, b, off _ c, d⟩, S.nd, S.size⟩
theorem Sta.butA {g : Heap} {L a : Addr} {m : MT} {cs : List Own} {z : Nat} {h h' : Heap} (S : Sta g L m cs z h) (k : ∀ b o, b ≠ a → h.get? b = some o → h'.get? b = some o) (ha : L ≠ a) (hc : ∀ p ∈ cs, p.1 ≠ a) (hg : g.get? a = none) : Sta g L m cs h'.objs.size h' := by
  refine ⟨?_, fun b o e => k b o (fun q => by rw [q, hg] at e; cases e) (S.keep b o e), S.offL, fun p hp => let ⟨o, x, y, u, v⟩ := S.own p hp; ⟨o, k _ _ (hc p hp) x, y, u, v⟩, S.nd, rfl⟩
  obtain ⟨o, es, ep, h1, h2⟩ := S.ns
  exact ⟨o, es, ep, k _ _ ha h1, h2⟩
theorem holds_ext {h h' : Heap} {T : KT} (H : KT.Holds h 1 0 T) (k : Ext h h') : KT.Holds h' 1 0 T := by
  refine holds_of_get _ _ _ fun j o e => ?_
  rw [Nat.one_mul, Nat.add_zero]
  exact k _ _ (kt_at H e)
section
variable {w : World} {env : Env} {h : Heap} {d : Drawn} {t : Nat} {os : OsState}
theorem cmp_any {n : Nat} {T : Addr} (hlo : 3 ≤ n) (hhi : n ≤ 7) (ZH : KT.Holds h 1 0 (hz.ktop_143 w.params)) (hs : h.objs.size = 75 + 6 * n) {Q : Value → Shared → Prop} {E : Value → Shared → Prop}
    (hQ : ∀ h', CmpEnd h h' (75 + 6 * n) t T → Q (.ref (75 + 6 * n + 9)) ⟨h', #[], d, t + 9, os⟩) :
    wpAny (model PG w) (callerA.deeper env) (PySem.call (.ref 35) [.ref T]) Q E ⟨h, #[], d, t, os⟩ := by
  rcases (by omega : n = 3 ∨ n = 4 ∨ n = 5 ∨ n = 6 ∨ n = 7) with rfl | rfl | rfl | rfl | rfl
  · exact cmpz3 ZH hs fun h' v tk e1 e2 x => by subst e1; subst e2; exact hQ h' x
  · exact cmpz4 ZH hs fun h' v tk e1 e2 x => by subst e1; subst e2; exact hQ h' x
  · exact cmpz5 ZH hs fun h' v tk e1 e2 x => by subst e1; subst e2; exact hQ h' x
  · exact cmpz6 ZH hs fun h' v tk e1 e2 x => by subst e1; subst e2; exact hQ h' x
  · exact cmpz7 ZH hs fun h' v tk e1 e2 x => by subst e1; subst e2; exact hQ h' x
theorem key_any {n : Nat} {cf : Addr} (hlo : 3 ≤ n) (hhi : n ≤ 7) (ZH : KT.Holds h 1 0 (tw.ktop_105 w.params)) (hs : h.objs.size = 85 + 6 * n) {Q : Value → Shared → Prop} {E : Value → Shared → Prop}
    (hQ : ∀ h', KeyEnd h h' (85 + 6 * n) t cf → Q (.ref (85 + 6 * n + 60)) ⟨h', #[], d, t + 78, os⟩) :
    wpAny (model PG w) (callerA.deeper env) (PySem.call (.ref 28) [.ref cf]) Q E ⟨h, #[], d, t, os⟩ := by
  rcases (by omega : n = 3 ∨ n = 4 ∨ n = 5 ∨ n = 6 ∨ n = 7) with rfl | rfl | rfl | rfl | rfl
  · exact keyz3 ZH hs fun h' v tk e1 e2 x => by subst e1; subst e2; exact hQ h' x
  · exact keyz4 ZH hs fun h' v tk e1 e2 x => by subst e1; subst e2; exact hQ h' x
  · exact keyz5 ZH hs fun h' v tk e1 e2 x => by subst e1; subst e2; exact hQ h' x
  · exact keyz6 ZH hs fun h' v tk e1 e2 x => by subst e1; subst e2; exact hQ h' x
  · exact keyz7 ZH hs fun h' v tk e1 e2 x => by subst e1; subst e2; exact hQ h' x
end
end Mine
open PySem PySem.W PySem.W.X PyProof.Rows
set_option Elab.async false
set_option maxRecDepth 100000
set_option maxHeartbeats 4000000
namespace Mine
section
variable {w : World} {E : Value → Shared → Prop} {h : Heap} {d : Drawn} {t : Nat} {os : OsState}
theorem cells_ne {cs : List Own} {l : List Addr} {a : Addr} (e : cs.map (·.1) = l) (h : a ∉ l) : ∀ p ∈ cs, p.1 ≠ a := fun p hp q => h (by rw [← e, ← q]; exact List.mem_map_of_mem (f := (·.1)) hp)
theorem low_step {h₀ h h' : Heap} (K : OldK h₀ h) (k : ∀ b o, b < h₀.objs.size → h.get? b = some o → h'.get? b = some o) : OldK h₀ h' := by
  refine ⟨fun b o e => ?_, fun b o e => (K.there b o e).imp fun o' r => k b o' (Heap.lt_size e) r⟩
  have lt := Heap.lt_size e
  rcases K.old b o e with x | ⟨t1, c1, vs, more, v1, x⟩ | ⟨rfl, c1, ⟨o', es, n, x, r⟩, y⟩
  · exact .inl (k _ _ lt x)
  · exact .inr (.inl ⟨t1, c1, vs, more, v1, k _ _ lt x⟩)
  · refine .inr (.inr ⟨rfl, c1, ⟨o', es, n, k _ _ lt x, r⟩, fun key => ?_⟩)
    rw [OldK.staticOf_congr ((k _ _ lt x).trans x.symm) key]; exact y key
theorem own_alive {g : Heap} {L b : Addr} {m : MT} {cs : List Own} {z : Nat} {h : Heap} {l : List Addr} (S : Sta g L m cs z h) (e : cs.map (·.1) = l) (hb : h.get? b = none) (q : b ∈ l) : False := by
  rw [← e] at q
  obtain ⟨p, hp, r⟩ := List.mem_map.mp q
  obtain ⟨o', r1, _⟩ := S.own p hp
  rw [r, hb] at r1; cases r1
theorem isK_up {h h' : Heap} {N : Nat} {t : KTok} {cf : Addr} (x : IsK h (kAdr N) t cf) (hN : 60 ≤ N) (up : ∀ b o, 60 ≤ b → h.get? b = some o → h'.get? b = some o) : IsK h' (kAdr N) t cf :=
  ⟨up _ _ (Nat.le_trans hN (Nat.le_add_right N 60)) x.cls, x.ns.imp fun _ e => up _ _ (Nat.le_trans hN (Nat.le_add_right N 59)) e, up _ _ (Nat.le_trans hN (Nat.le_add_right N 61)) x.ds, up _ _ (Nat.le_trans hN (Nat.le_add_right N 16)) x.init, up _ _ (Nat.le_trans hN (Nat.le_add_right N 15)) x.ci,
    up _ _ (Nat.le_trans hN (Nat.le_add_right N 32)) x.gt, up _ _ (Nat.le_trans hN (Nat.le_add_right N 31)) x.cg, up _ _ (Nat.le_trans hN (Nat.le_add_right N 40)) x.eq, up _ _ (Nat.le_trans hN (Nat.le_add_right N 39)) x.ce, up _ _ (Nat.le_trans hN (Nat.le_add_right N 1)) x.cell⟩
theorem grow_step {h₀ h h' : Heap} {P c₀ : Addr} {ps₀ : Array Value} (K : OldK h₀ h) (ht : h₀.TableAt c₀ P ps₀) (k : ∀ b o, b ≠ P → h.get? b = some o → h'.get? b = some o) (g : Grew h h' P) (hP : P ≠ cStatics) : OldK h₀ h' := by
  obtain ⟨vs, e1, c, ps, more, t1, rfl⟩ := g
  refine K.step_table ht t1 ⟨?_, e1⟩ (fun b o hb e => k b o hb e) hP
  obtain ⟨⟨o, fs, a1, a2, a3, a4⟩, b1⟩ := t1
  refine ⟨o, fs, k _ _ (fun q => ?_) a1, a2, a3, a4⟩
  rw [q, b1] at a1; cases a1; cases a2
theorem fmod5 (k : Nat) : (3 : Int) + ((k : Int)).fmod 5 = ((3 + k % 5 : Nat) : Int) := by
  rw [Int.fmod_eq_emod_of_nonneg _ (by decide)]; omega
theorem lawA {sc : Addr} {xs : List Value} {Q : Value → Shared → Prop} (hs : h.objs.size = 54) (X : (hz.heap_91 w.params).In h) (ZH : KT.Holds h 1 0 (hz.ktop_143 w.params)) (hsc : h.IsList sc xs.toArray) (hx : ∀ v ∈ xs, ∃ i tk, v = .int i tk) (hl : xs.length ≤ 1000)
    (M : ∀ tb, Tourn (3 + xs.length % 5) tb → Says (3 + xs.length % 5) tb)
    (q : ∀ h' t', OldK h h' → Q (.bool true) ⟨h', #[], d, t', os⟩) :
    wpAny (model PG w) callerA (call (.ref 52) [.ref sc]) Q E ⟨h, #[], d, t, os⟩ := by
  have XB : (KB w.params).In h := KB_in X fun b o _ _ e => e
  have h30 : ∃ o, h.get? 30 = some o := ⟨_, X 30 (hz.zo_69 w.params) (by kernel_rfl)⟩
  have h23 : ∃ o, h.get? 23 = some o := ⟨_, X 23 (hz.zo_62 w.params) (by kernel_rfl)⟩
  refine wpAny_call (call_fn (o := oFn "law" 7 207 51) (binds := [(Str.ofString "script", .ref sc)]) (by decide) (XB _ _ (fn_law _)) rfl rfl (cd_law XB) ?_ fun h' S => ?_)
  · with_unfolding_all rfl
  rw [hs] at S
  rw [hs]
  refine stL S fun h1 S1 => ⟨nolimit_of (XB.keeps S1.keep), ?_⟩
  have S1 : Sta h 54 (upd (fun _ => none) (Str.ofString "script") (.ref sc)) [(59, CellP none), (58, CellP none), (57, CellP none), (56, CellP none), (55, CellP none)] 60 h1 := S1
  have X1 := XB.keeps S1.keep
  have hlo : 3 ≤ 3 + xs.length % 5 := by omega
  have hhi : 3 + xs.length % 5 ≤ 7 := by omega
  -- n
  refine wpAny_execs_cons <| wpAny_Assign_Name <| wpAny_BinOp <| wpAny_Constant_int <| wpAny_BinOp <| Call_ <| ldB X1 (ns_len _) (ns_len' _) <| PyProof.Rows.callWith_builtin1 <| args_cons <| ldL S1 (v := .ref sc) upd_eq <| args_nil <|
    PySem.Calls.call_len_list (s := ⟨h1, #[], d, _, os⟩) (hsc.at fun o e => S1.keep _ _ e) (by rw [List.size_toArray]; omega) <| wpAny_Constant_int <| mod_int' (by decide) <| add_int ?_
  rw [List.size_toArray, fmod5]
  generalize hn : 3 + xs.length % 5 = n at *
  refine stC (i := 4) S1 rfl fun h2 S2 => ?_
  have X2 := XB.keeps S2.keep
  refine wpAny_execs_cons <| wpAny_Assign_Name <| Call_ <| ldG X2 (ns_table _) <| callWith_def (o := oFn "_law_table" 6 207 46) rfl <| args_cons <| ldL S2 (v := .ref sc) upd_eq <| args_cons <| ldC S2 (.tail _ (.tail _ (.tail _ (.tail _ (.head _))))) <| args_nil ⟨X2 _ _ (fn_table _), ?_⟩
  refine table_call (ts := 0) (A := lA 54) (Nat.lt_trans (Nat.lt_add_of_pos_right (by decide)) (lA_depth 54)) rfl X2 (hsc.at fun o e => S2.keep _ _ e) hx (by omega) fun h3 T tb t3 e3 z3 tab3 T3 => ?_
  have S3 := S2.ext e3 (z' := 75 + 6 * n) (by rw [z3, S2.size]; omega)
  obtain ⟨g3, e31, e32, S3', -, f3⟩ := (show Sta h 54 _ ([] ++ [(59, CellP none), (58, CellP none), (57, CellP none), (56, CellP none), (55, CellP (some (.int n _)))]) _ h3 from S3).reground
  refine stC (i := 3) S3' rfl fun h4 S4 => ?_
  have X4 := XB.keeps (e31.trans S4.keep)
  have cs4 : Sta g3 54 (upd (fun _ => none) (Str.ofString "script") (.ref sc)) [(59, CellP none), (58, CellP none), (57, CellP none), (56, CellP (some (.ref T))), (55, CellP (some (.int n _)))] (75 + 6 * n) h4 := S4
  have back : Ext (wout g3 [30, 23]) g3 := fun a o e => by
    by_cases q : a ∈ [30, 23]
    · rw [wout_in _ _ _ q] at e; cases e
    · rw [wout_out _ _ _ q] at e; exact e
  have S5 := cs4.lower back
  refine wpAny_execs_cons <| wpAny_Assign_Name <| Call_ <| ldG X4 (ns_ctk _) <| callWith_def (o := oFnM "cmp_to_key" 2 "cpy313.functools" 187 27) rfl <| args_cons <| Call_ <| ldG X4 (ns_lc _) <| callWith_def (o := oFn "_law_compare" 4 207 34) rfl <| args_cons <| ldC cs4 (.tail _ (.tail _ (.tail _ (.head _)))) <| args_nil ⟨X4 _ _ (fn_lc _), ?_⟩
  refine cmp_any hlo hhi (holds_ext ZH (e31.trans cs4.keep)) cs4.size fun h5 C5 => args_nil ⟨?_, ?_⟩
  · exact C5.keep _ _ (by decide) (X4 _ _ (fn_ctk _))
  have n30 : (wout g3 [30, 23]).get? 30 = none := wout_in _ _ _ (by simp)
  have n23 : (wout g3 [30, 23]).get? 23 = none := wout_in _ _ _ (by simp)
  have S6 := S5.butA C5.keep (by decide) (cells_ne (l := [59, 58, 57, 56, 55]) rfl (by decide)) n30
  have z5 : h5.objs.size = 85 + 6 * n := by rw [C5.size]; omega
  have H4 := holds_ext ZH (e31.trans cs4.keep)
  refine key_any hlo hhi (holds_del H4 C5.keep) z5 fun h6 C6 => ?_
  have S7 := S6.butA C6.keep (by decide) (cells_ne (l := [59, 58, 57, 56, 55]) rfl (by decide)) n23
  obtain ⟨g', e9, e10, S9, -, f9⟩ := (show Sta (wout g3 [30, 23]) 54 _ ([] ++ [(59, CellP none), (58, CellP none), (57, CellP none), (56, CellP (some (.ref T))), (55, CellP (some (.int n _)))]) _ h6 from S7).reground
  refine stC (i := 2) S9 rfl fun h7 S10 => ?_
  have S10 : Sta g' 54 (upd (fun _ => none) (Str.ofString "script") (.ref sc)) (base 54 n _ T (kAdr (85 + 6 * n)).C none none) _ h7 := S10
  have up : ∀ b o, 60 ≤ b → h6.get? b = some o → g'.get? b = some o := fun b o hb e => f9 b o e (fun q => by rw [q] at hb; exact absurd hb (by decide)) (fun q => by
    have q : b ∈ [59, 58, 57, 56, 55] := q
    have : ∀ x ∈ [59, 58, 57, 56, 55], ¬ 60 ≤ x := by decide
    exact this b q hb)
  have X' : (KB w.params).In g' := by
    refine (KB_in (h' := wout g3 [30, 23]) X fun b o b1 b2 e => ?_).keeps e9
    rw [wout_out _ _ _ (by simp [b1, b2])]; exact e31 _ _ e
  have K' := isK_up C6.it (by omega) up
  have upc : ∀ b o, 60 ≤ b → h5.get? b = some o → g'.get? b = some o := fun b o hb e => up b o hb (C6.keep b o (fun q => by rw [q] at hb; exact absurd hb (by decide)) e)
  have F' : IsCmpE g' (75 + 6 * n + 9) T := by
    have x := C5.it
    have h75 : 60 ≤ 75 + 6 * n := by omega
    exact ⟨_, _, _, _, _, _, _, _, _, _, _, _, _, _, ⟨upc _ _ (Nat.le_trans h75 (Nat.le_add_right _ 9)) x.fn, upc _ _ (Nat.le_trans h75 (Nat.le_add_right _ 8)) x.code, upc _ _ (Nat.le_trans h75 (Nat.le_add_right _ 1)) x.cell⟩⟩
  have T' : IsTab g' T n tb := by
    refine tab3 g' fun b o hb e => ?_
    have a30 : b ≠ 30 := fun q => by obtain ⟨o', r⟩ := h30; have := S2.keep _ _ r; rw [q] at hb; rw [hb] at this; cases this
    have a23 : b ≠ 23 := fun q => by obtain ⟨o', r⟩ := h23; have := S2.keep _ _ r; rw [q] at hb; rw [hb] at this; cases this
    have a54 : b ≠ 54 := fun q => by obtain ⟨o', r, _⟩ := S2.nsP; have r : h2.get? 54 = some o' := r; rw [q] at hb; rw [hb] at r; cases r
    have acs : b ∉ [59, 58, 57, 56, 55] := fun q => by
      exact own_alive S2 (l := [59, 58, 57, 56, 55]) rfl hb q
    exact f9 b o (C6.keep _ _ a23 (C5.keep _ _ a30 (S4.keep _ _ (f3 b o e a54 acs)))) a54 acs
  have LW := Law.mk (Keyed.mk X' K' F' T' (by omega)) T3 hlo hhi
  have tA30 : h.TableAt 34 30 _ := ⟨⟨_, _, X 34 (hz.zo_73 w.params) (by kernel_rfl), rfl, rfl, rfl⟩, X 30 (hz.zo_69 w.params) (by kernel_rfl)⟩
  have tA23 : h.TableAt 27 23 _ := ⟨⟨_, _, X 27 (hz.zo_66 w.params) (by kernel_rfl), rfl, rfl, rfl⟩, X 23 (hz.zo_62 w.params) (by kernel_rfl)⟩
  have O4 : OldK h h4 := .of_keep (e31.trans S4.keep)
  have O5 := grow_step O4 tA30 C5.keep C5.grew (by decide)
  have O6 := grow_step O5 tA23 C6.keep C6.grew (by decide)
  refine wpAny_mono (lawB LW (M tb T3) S10 (P := fun f s => f = .ret (.bool true) ∧ ∃ h' t', s = ⟨h', #[], d, t', os⟩ ∧ Ext g' h') fun h8 t8 e8 => ⟨rfl, h8, t8, rfl, e8⟩) ?_ fun _ _ e => e
  rintro f s ⟨rfl, h8, t8, rfl, e8⟩
  refine q h8 t8 (low_step O6 fun b o hb e => e8 _ _ (f9 b o e ?_ ?_))
  · rw [hs] at hb; exact Nat.ne_of_lt hb
  · intro r
    rw [hs] at hb
    have r : b ∈ [59, 58, 57, 56, 55] := r
    have : ∀ x ∈ [59, 58, 57, 56, 55], ¬ x < 54 := by decide
    exact this b r hb
end
end Mine
set_option maxRecDepth 100000
namespace Mine
/-- the xor-sum -/
def X {α : Type} (l : List α) (f : α → Bool) : Bool := l.foldr (fun a r => xor (f a) r) false
section
variable {α β : Type}
theorem X_nil (f : α → Bool) : X [] f = false := rfl
theorem X_cons (a : α) (l : List α) (f : α → Bool) : X (a :: l) f = xor (f a) (X l f) := rfl
theorem X_congr {l : List α} {f g : α → Bool} (h : ∀ a ∈ l, f a = g a) : X l f = X l g := by
  induction l with
  | nil => rfl
  | cons a l ih => rw [X_cons, X_cons, h a (List.mem_cons_self ..), ih fun b hb => h b (List.mem_cons_of_mem _ hb)]
theorem X_false (l : List α) : X l (fun _ => false) = false := by
  induction l with
  | nil => rfl
  | cons a l ih => rw [X_cons, ih]; rfl
theorem X_xor (l : List α) (f g : α → Bool) : X l (fun a => xor (f a) (g a)) = xor (X l f) (X l g) := by
  induction l with
  | nil => rfl
  | cons a l ih => rw [X_cons, X_cons, X_cons, ih]; cases f a <;> cases g a <;> cases X l f <;> cases X l g <;> rfl
theorem X_and (l : List α) (c : Bool) (f : α → Bool) : X l (fun a => c && f a) = (c && X l f) := by
  induction l with
  | nil => cases c <;> rfl
  | cons a l ih => rw [X_cons, X_cons, ih]; cases c <;> rfl
theorem X_append (l r : List α) (f : α → Bool) : X (l ++ r) f = xor (X l f) (X r f) := by
  induction l with
  | nil => rw [List.nil_append, X_nil]; simp
  | cons a l ih => rw [List.cons_append, X_cons, X_cons, ih]; cases f a <;> cases X l f <;> cases X r f <;> rfl
theorem X_map (l : List α) (h : α → β) (f : β → Bool) : X (l.map h) f = X l fun a => f (h a) := by
  induction l with
  | nil => rfl
  | cons a l ih => rw [List.map_cons, X_cons, X_cons, ih]
theorem X_swap (l : List α) (r : List β) (f : α → β → Bool) : X l (fun a => X r fun b => f a b) = X r fun b => X l fun a => f a b := by
  induction l with
  | nil => rw [X_nil]; exact (X_false r).symm
  | cons a l ih => rw [X_cons, ih, ← X_xor]; rfl
/-- the ways to part a list in two -/
noncomputable def splits : List α → List (List α × List α)
  | [] => [([], [])]
  | x :: l => (splits l).map (fun p => (x :: p.1, p.2)) ++ (splits l).map (fun p => (p.1, x :: p.2))
theorem X_splits (x : α) (l : List α) (f : List α × List α → Bool) : X (splits (x :: l)) f = xor (X (splits l) fun p => f (x :: p.1, p.2)) (X (splits l) fun p => f (p.1, x :: p.2)) := by
  rw [show splits (x :: l) = (splits l).map (fun p => (x :: p.1, p.2)) ++ (splits l).map (fun p => (p.1, x :: p.2)) from rfl, X_append, X_map, X_map]
theorem X_splits_swap (l : List α) (f : List α × List α → Bool) : X (splits l) f = X (splits l) fun p => f (p.2, p.1) := by
  induction l generalizing f with
  | nil => rfl
  | cons x l ih => rw [X_splits, X_splits, ih (fun p => f (x :: p.1, p.2)), ih (fun p => f (p.1, x :: p.2))]; cases (X (splits l) fun p => f (x :: p.2, p.1)) <;> cases (X (splits l) fun p => f (p.2, x :: p.1)) <;> rfl
end
end Mine
set_option maxRecDepth 100000
namespace Mine
theorem splits_sub {α : Type} : ∀ {V : List α} {p : List α × List α}, p ∈ splits V → p.1.Sublist V ∧ p.2.Sublist V
  | [], p, h => by
    rw [show splits ([] : List α) = [([], [])] from rfl, List.mem_singleton] at h
    subst h; exact ⟨List.Sublist.refl _, List.Sublist.refl _⟩
  | x :: V, p, h => by
    rw [show splits (x :: V) = (splits V).map (fun p => (x :: p.1, p.2)) ++ (splits V).map (fun p => (p.1, x :: p.2)) from rfl, List.mem_append, List.mem_map, List.mem_map] at h
    rcases h with ⟨q, hq, rfl⟩ | ⟨q, hq, rfl⟩
    · have := splits_sub hq; exact ⟨this.1.cons_cons x, this.2.cons x⟩
    · have := splits_sub hq; exact ⟨this.1.cons x, this.2.cons_cons x⟩
theorem splits_mem {α : Type} {V : List α} {p : List α × List α} {a : α} (h : p ∈ splits V) (ha : a ∈ p.1) : a ∈ V := (splits_sub h).1.subset ha
/-- a vertex taken first, then a parting of the rest: the same as a parting, then a vertex of its first part -/
theorem X_reindex (V : List Nat) (hn : V.Nodup) (f : Nat → List Nat → List Nat → Bool) :
    (X V fun a => X (splits (V.erase a)) fun p => f a p.1 p.2) = X (splits V) fun p => X p.1 fun a => f a (p.1.erase a) p.2 := by
  induction V generalizing f with
  | nil => rfl
  | cons x V ih =>
    have hx : x ∉ V := (List.nodup_cons.mp hn).1
    have hV := (List.nodup_cons.mp hn).2
    rw [X_cons, X_splits, List.erase_cons_head]
    have e1 : (X V fun a => X (splits ((x :: V).erase a)) fun p => f a p.1 p.2) = X V fun a => X (splits (V.erase a)) fun p => xor (f a (x :: p.1) p.2) (f a p.1 (x :: p.2)) := by
      refine X_congr fun a ha => ?_
      have hax : x ≠ a := fun e => hx (e ▸ ha)
      rw [List.erase_cons_tail (by simpa using hax), X_splits, X_xor]
    rw [e1, ih hV fun a b c => xor (f a (x :: b) c) (f a b (x :: c))]
    have e2 : (X (splits V) fun p => X (x :: p.1) fun a => f a ((x :: p.1).erase a) p.2) = xor (X (splits V) fun p => f x p.1 p.2) (X (splits V) fun p => X p.1 fun a => f a (x :: p.1.erase a) p.2) := by
      rw [← X_xor]
      refine X_congr fun p hp => ?_
      rw [X_cons, List.erase_cons_head]
      congr 1
      refine X_congr fun a ha => ?_
      have hax : x ≠ a := fun e => hx (e ▸ splits_mem hp ha)
      rw [List.erase_cons_tail (by simpa using hax)]
    rw [e2]
    have e3 : (X (splits V) fun p => X p.1 fun a => xor (f a (x :: p.1.erase a) p.2) (f a (p.1.erase a) (x :: p.2))) = xor (X (splits V) fun p => X p.1 fun a => f a (x :: p.1.erase a) p.2) (X (splits V) fun p => X p.1 fun a => f a (p.1.erase a) (x :: p.2)) := by
      rw [← X_xor]; exact X_congr fun p _ => X_xor ..
    rw [e3]
    simp only [Bool.xor_assoc]
end Mine
set_option maxRecDepth 100000
namespace Mine
/-- the parity of the paths from a through all of U, U of length k -/
noncomputable def F (Y : Nat → Nat → Bool) : Nat → Nat → List Nat → Bool
  | 0, _, _ => true
  | k + 1, a, U => X U fun b => Y a b && F Y k b (U.erase b)
noncomputable def fv (Y : Nat → Nat → Bool) (V : List Nat) : Bool := if V.isEmpty then true else X V fun a => F Y (V.length - 1) a (V.erase a)
def inv (Y : Nat → Nat → Bool) : Nat → Nat → Bool := fun a b => !Y a b
theorem X_splits_nil {α : Type} (V : List α) (g : List α → Bool) : (X (splits V) fun p => p.1.isEmpty && g p.2) = g V := by
  induction V generalizing g with
  | nil => show xor (true && g []) false = g []; simp
  | cons x V ih => rw [X_splits, ih (fun l => g (x :: l))]; simp [X_false]
theorem F_parts (Y : Nat → Nat → Bool) (a : Nat) (B : List Nat) : F Y B.length a B = xor B.isEmpty (X B fun b => Y a b && F Y (B.erase b).length b (B.erase b)) := by
  cases hB : B with
  | nil => rfl
  | cons x r =>
    rw [← hB]
    have hl : B.length = r.length + 1 := by rw [hB]; rfl
    rw [hl]
    show (X B fun b => Y a b && F Y r.length b (B.erase b)) = _
    have he : B.isEmpty = false := by rw [hB]; rfl
    rw [he, Bool.false_xor]
    refine X_congr fun b hb => ?_
    rw [List.length_erase_of_mem hb, hl]; rfl
theorem berge_F (Y : Nat → Nat → Bool) : ∀ (k : Nat) (U : List Nat), U.length = k → U.Nodup → ∀ a, F (inv Y) k a U = X (splits U) fun p => F Y p.1.length a p.1 && fv (inv Y) p.2 := by
  intro k
  induction k with
  | zero =>
    intro U hU hn a
    obtain rfl := List.length_eq_zero_iff.mp hU
    rfl
  | succ k ih =>
    intro U hU hn a
    have hne : U.isEmpty = false := by cases U with | nil => simp at hU | cons => rfl
    have r1 : (X (splits U) fun p => F Y p.1.length a p.1 && fv (inv Y) p.2) = xor (fv (inv Y) U) (X (splits U) fun p => X p.1 fun b => (Y a b && F Y (p.1.erase b).length b (p.1.erase b)) && fv (inv Y) p.2) := by
      rw [← X_splits_nil U (fv (inv Y)), ← X_xor]
      refine X_congr fun p _ => ?_
      rw [F_parts]
      have : (X p.1 fun b => (Y a b && F Y (p.1.erase b).length b (p.1.erase b)) && fv (inv Y) p.2) = ((X p.1 fun b => (Y a b && F Y (p.1.erase b).length b (p.1.erase b))) && fv (inv Y) p.2) := by
        rw [Bool.and_comm, ← X_and]; exact X_congr fun b _ => Bool.and_comm ..
      rw [this]
      cases p.1.isEmpty <;> cases (X p.1 fun b => (Y a b && F Y (p.1.erase b).length b (p.1.erase b))) <;> cases fv (inv Y) p.2 <;> rfl
    rw [r1, ← X_reindex U hn fun b B R => (Y a b && F Y B.length b B) && fv (inv Y) R]
    show (X U fun b => inv Y a b && F (inv Y) k b (U.erase b)) = _
    have r2 : fv (inv Y) U = X U fun b => F (inv Y) k b (U.erase b) := by
      unfold fv; rw [hne, hU]; rfl
    rw [r2, ← X_xor]
    refine X_congr fun b hb => ?_
    have hb2 := ih (U.erase b) (by rw [List.length_erase_of_mem hb, hU]; rfl) (hn.erase b) b
    have : (X (splits (U.erase b)) fun p => (Y a b && F Y p.1.length b p.1) && fv (inv Y) p.2) = (Y a b && F (inv Y) k b (U.erase b)) := by
      rw [hb2, ← X_and]; exact X_congr fun p _ => Bool.and_assoc ..
    rw [this]
    unfold inv
    cases Y a b <;> cases F (fun a b => !Y a b) k b (U.erase b) <;> rfl
end Mine
set_option maxRecDepth 100000
namespace Mine
theorem X_sym {α : Type} (x : α) (V : List α) (f : List α → List α → Bool) (h : ∀ a b, f a b = f b a) : (X (splits (x :: V)) fun p => f p.1 p.2) = false := by
  rw [X_splits, X_splits_swap V (fun p => f p.1 (x :: p.2))]
  have : (X (splits V) fun p => f (x :: p.1) p.2) = X (splits V) fun p => f p.2 (x :: p.1) := X_congr fun p _ => h ..
  rw [this]; exact Bool.xor_self _
theorem splits_len {α : Type} : ∀ {V : List α} {p : List α × List α}, p ∈ splits V → p.1.length + p.2.length = V.length
  | [], p, h => by
    rw [show splits ([] : List α) = [([], [])] from rfl, List.mem_singleton] at h
    subst h; rfl
  | x :: V, p, h => by
    rw [show splits (x :: V) = (splits V).map (fun p => (x :: p.1, p.2)) ++ (splits V).map (fun p => (p.1, x :: p.2)) from rfl, List.mem_append, List.mem_map, List.mem_map] at h
    rcases h with ⟨q, hq, rfl⟩ | ⟨q, hq, rfl⟩
    · have := splits_len hq; simp only [List.length_cons]; omega
    · have := splits_len hq; simp only [List.length_cons]; omega
theorem fv_cons (Y : Nat → Nat → Bool) (V : List Nat) (h : V ≠ []) : fv Y V = X V fun a => F Y (V.erase a).length a (V.erase a) := by
  unfold fv
  have : V.isEmpty = false := by cases V with | nil => exact absurd rfl h | cons => rfl
  rw [this]
  exact X_congr fun a ha => by rw [List.length_erase_of_mem ha]
theorem berge (Y : Nat → Nat → Bool) : ∀ (k : Nat) (V : List Nat), V.length = k → V.Nodup → V ≠ [] → fv (inv Y) V = fv Y V := by
  intro k
  induction k using Nat.strongRecOn with
  | ind k ih =>
    intro V hk hn hne
    have s1 : fv (inv Y) V = X (splits V) fun p => (!p.1.isEmpty && fv Y p.1) && fv (inv Y) p.2 := by
      rw [fv_cons _ _ hne]
      have : (X V fun a => F (inv Y) (V.erase a).length a (V.erase a)) = X V fun a => X (splits (V.erase a)) fun p => F Y p.1.length a p.1 && fv (inv Y) p.2 :=
        X_congr fun a ha => berge_F Y _ (V.erase a) rfl (hn.erase a) a
      rw [this, X_reindex V hn fun a B R => F Y B.length a B && fv (inv Y) R]
      refine X_congr fun p _ => ?_
      have : (X p.1 fun a => F Y (p.1.erase a).length a (p.1.erase a) && fv (inv Y) p.2) = ((X p.1 fun a => F Y (p.1.erase a).length a (p.1.erase a)) && fv (inv Y) p.2) := by
        rw [Bool.and_comm, ← X_and]; exact X_congr fun b _ => Bool.and_comm ..
      rw [this]
      cases hp : p.1 with
      | nil => rfl
      | cons y r => rw [← hp, fv_cons Y p.1 (by rw [hp]; exact List.cons_ne_nil _ _)]; rw [show (!p.1.isEmpty) = true from by rw [hp]; rfl, Bool.true_and]
    have s2 : (X (splits V) fun p => (!p.1.isEmpty && fv Y p.1) && fv (inv Y) p.2) = xor (X (splits V) fun p => p.2.isEmpty && (!p.1.isEmpty && fv Y p.1)) (X (splits V) fun p => (!p.1.isEmpty && !p.2.isEmpty) && (fv Y p.1 && fv Y p.2)) := by
      rw [← X_xor]
      refine X_congr fun p hp => ?_
      cases h2 : p.2 with
      | nil =>
        show ((!p.1.isEmpty && fv Y p.1) && fv (inv Y) []) = _
        rw [show fv (inv Y) [] = true from rfl]
        cases p.1.isEmpty <;> cases fv Y p.1 <;> rfl
      | cons y r =>
        cases h1 : p.1 with
        | nil => rfl
        | cons y' r' =>
          have hl := splits_len hp
          have hl1 : 0 < p.1.length := by rw [h1]; exact Nat.succ_pos _
          have := ih p.2.length (by omega) p.2 rfl ((splits_sub hp).2.nodup hn) (by rw [h2]; exact List.cons_ne_nil _ _)
          rw [← h2, ← h1, this, show p.1.isEmpty = false from by rw [h1]; rfl, show p.2.isEmpty = false from by rw [h2]; rfl]
          cases fv Y p.1 <;> cases fv Y p.2 <;> rfl
    rw [s1, s2, X_splits_swap V (fun p => p.2.isEmpty && (!p.1.isEmpty && fv Y p.1))]
    rw [show (X (splits V) fun p => p.1.isEmpty && (!p.2.isEmpty && fv Y p.2)) = (!V.isEmpty && fv Y V) from X_splits_nil V fun l => !l.isEmpty && fv Y l]
    cases hV : V with
    | nil => exact absurd hV hne
    | cons x r =>
      rw [X_sym x r (fun a b => (!a.isEmpty && !b.isEmpty) && (fv Y a && fv Y b)) (fun a b => by cases a.isEmpty <;> cases b.isEmpty <;> cases fv Y a <;> cases fv Y b <;> rfl)]
      simp
end Mine
set_option maxRecDepth 100000
namespace Mine
theorem X_erase {U : List Nat} (hn : U.Nodup) (c : Nat) (f : Nat → Bool) : X (U.erase c) f = X U fun d => (d != c) && f d := by
  induction U with
  | nil => rfl
  | cons x U ih =>
    have hx := (List.nodup_cons.mp hn).1
    by_cases e : x = c
    · subst e
      rw [List.erase_cons_head, X_cons]
      rw [show ((x != x) && f x) = false from by simp, Bool.false_xor]
      exact X_congr fun d hd => by
        have : (d != x) = true := bne_iff_ne.mpr fun q => hx (q ▸ hd)
        rw [this, Bool.true_and]
    · rw [List.erase_cons_tail (by simpa using e), X_cons, X_cons, ih (List.nodup_cons.mp hn).2]
      rw [show (x != c) = true from bne_iff_ne.mpr e, Bool.true_and]
theorem X_pairs {U : List Nat} (hn : U.Nodup) (f : Nat → Nat → Bool) : (X U fun c => X (U.erase c) fun d => f c d) = X U fun d => X (U.erase d) fun c => f c d := by
  have e1 : (X U fun c => X (U.erase c) fun d => f c d) = X U fun c => X U fun d => (d != c) && f c d := X_congr fun c _ => X_erase hn c _
  have e2 : (X U fun d => X (U.erase d) fun c => f c d) = X U fun d => X U fun c => (c != d) && f c d := X_congr fun d _ => X_erase hn d _
  rw [e1, e2, X_swap]
  exact X_congr fun d _ => X_congr fun c _ => by rw [show (d != c) = (c != d) from bne_comm ..]
noncomputable def KL (Y : Nat → Nat → Bool) : Nat → Nat → Nat → List Nat → Bool
  | 0, a, b, _ => Y a b
  | k + 1, a, b, U => X U fun c => Y a c && KL Y k c b (U.erase c)
theorem KL_right (Y : Nat → Nat → Bool) : ∀ (k : Nat) (U : List Nat), U.Nodup → ∀ a b, KL Y (k + 1) a b U = X U fun c => KL Y k a c (U.erase c) && Y c b := by
  intro k
  induction k with
  | zero => intro U _ a b; rfl
  | succ k ih =>
    intro U hn a b
    have e1 : KL Y (k + 2) a b U = X U fun c => X (U.erase c) fun d => (Y a c && KL Y k c d ((U.erase c).erase d)) && Y d b := by
      show (X U fun c => Y a c && KL Y (k + 1) c b (U.erase c)) = _
      refine X_congr fun c _ => ?_
      rw [ih _ (hn.erase c), ← X_and]
      exact X_congr fun d _ => (Bool.and_assoc ..).symm
    have e2 : (X U fun d => KL Y (k + 1) a d (U.erase d) && Y d b) = X U fun d => X (U.erase d) fun c => (Y a c && KL Y k c d ((U.erase c).erase d)) && Y d b := by
      refine X_congr fun d _ => ?_
      rw [Bool.and_comm, show KL Y (k + 1) a d (U.erase d) = X (U.erase d) fun c => Y a c && KL Y k c d ((U.erase d).erase c) from rfl, ← X_and]
      exact X_congr fun c _ => by rw [List.erase_comm, Bool.and_comm]
    rw [e1, e2, X_pairs hn]
theorem F_end (Y : Nat → Nat → Bool) : ∀ (k : Nat) (U : List Nat), U.Nodup → ∀ a, F Y (k + 1) a U = X U fun b => KL Y k a b (U.erase b) := by
  intro k
  induction k with
  | zero => intro U _ a; exact X_congr fun b _ => by simp [F, KL]
  | succ k ih =>
    intro U hn a
    have e1 : F Y (k + 2) a U = X U fun c => X (U.erase c) fun b => Y a c && KL Y k c b ((U.erase c).erase b) := by
      show (X U fun c => Y a c && F Y (k + 1) c (U.erase c)) = _
      refine X_congr fun c _ => ?_
      rw [ih _ (hn.erase c), ← X_and]
    rw [e1, X_pairs hn]
    refine X_congr fun b _ => ?_
    show _ = X (U.erase b) fun c => Y a c && KL Y k c b ((U.erase b).erase c)
    exact X_congr fun c _ => by rw [List.erase_comm]
def tr (Y : Nat → Nat → Bool) : Nat → Nat → Bool := fun a b => Y b a
theorem KL_tr (Y : Nat → Nat → Bool) : ∀ (k : Nat) (U : List Nat), U.Nodup → ∀ a b, KL (tr Y) k a b U = KL Y k b a U := by
  intro k
  induction k with
  | zero => intro U _ a b; rfl
  | succ k ih =>
    intro U hn a b
    rw [KL_right Y k U hn]
    show (X U fun c => tr Y a c && KL (tr Y) k c b (U.erase c)) = _
    exact X_congr fun c _ => by rw [ih _ (hn.erase c), Bool.and_comm]; rfl
theorem fv_tr (Y : Nat → Nat → Bool) (V : List Nat) (hn : V.Nodup) : fv (tr Y) V = fv Y V := by
  by_cases h : V = []
  · subst h; rfl
  · have e : ∀ Z, fv Z V = X V fun a => F Z (V.length - 1) a (V.erase a) := fun Z => by
      rw [fv_cons Z V h]; exact X_congr fun a ha => by rw [List.length_erase_of_mem ha]
    rw [e, e]
    cases hk : V.length - 1 with
    | zero => rfl
    | succ k =>
      have e1 : ∀ Z, (X V fun a => F Z (k + 1) a (V.erase a)) = X V fun a => X (V.erase a) fun b => KL Z k a b ((V.erase a).erase b) := fun Z => X_congr fun a _ => F_end Z k _ (hn.erase a) a
      rw [e1, e1, X_pairs hn]
      refine X_congr fun d _ => X_congr fun c _ => ?_
      rw [KL_tr Y k _ ((hn.erase _).erase _), List.erase_comm]
end Mine
set_option maxRecDepth 100000
namespace Mine
theorem F_congr {Y Z : Nat → Nat → Bool} : ∀ (k a : Nat) (U : List Nat), (∀ p q, p = a ∨ p ∈ U → q ∈ U → p ≠ q → Y p q = Z p q) → a ∉ U → U.Nodup → F Y k a U = F Z k a U
  | 0, _, _, _, _, _ => rfl
  | k + 1, a, U, h, ha, hn => by
    show (X U fun b => Y a b && F Y k b (U.erase b)) = X U fun b => Z a b && F Z k b (U.erase b)
    refine X_congr fun b hb => ?_
    rw [h a b (.inl rfl) hb (fun e => ha (e ▸ hb)), F_congr k b (U.erase b) (fun p q hp hq hpq => h p q (.inr ?_) (List.mem_of_mem_erase hq) hpq) (fun hm => (List.Nodup.not_mem_erase hn) hm) (hn.erase b)]
    rcases hp with rfl | hp
    · exact hb
    · exact List.mem_of_mem_erase hp
/-- the entries (u, v) and (v, u) set -/
def setE (Y : Nat → Nat → Bool) (u v : Nat) (s t : Bool) : Nat → Nat → Bool := fun a b => if a = u ∧ b = v then s else if a = v ∧ b = u then t else Y a b
theorem second {Y : Nat → Nat → Bool} {u v : Nat} (huv : u ≠ v) : ∀ (k a : Nat) (U : List Nat), a ∉ U → U.Nodup →
    xor (xor (F (setE Y u v false false) k a U) (F (setE Y u v true false) k a U)) (xor (F (setE Y u v false true) k a U) (F (setE Y u v true true) k a U)) = false
  | 0, _, _, _, _ => rfl
  | k + 1, a, U, ha, hn => by
    show xor (xor (X U fun b => setE Y u v false false a b && F _ k b (U.erase b)) (X U fun b => setE Y u v true false a b && F _ k b (U.erase b))) (xor (X U fun b => setE Y u v false true a b && F _ k b (U.erase b)) (X U fun b => setE Y u v true true a b && F _ k b (U.erase b))) = false
    rw [← X_xor, ← X_xor, ← X_xor]
    refine Eq.trans (X_congr (g := fun _ => false) fun b hb => ?_) (X_false U)
    have hab : a ≠ b := fun e => ha (e ▸ hb)
    have ih := second (Y := Y) huv k b (U.erase b) (List.Nodup.not_mem_erase hn) (hn.erase b)
    have same : ∀ s t s' t', (u ∉ U.erase b ∧ u ≠ b) ∨ (v ∉ U.erase b ∧ v ≠ b) ∨ (a = u ∧ b = v) ∨ (a = v ∧ b = u) → F (setE Y u v s t) k b (U.erase b) = F (setE Y u v s' t') k b (U.erase b) := by
      intro s t s' t' hc
      refine F_congr k b _ (fun p q hp hq hpq => ?_) (List.Nodup.not_mem_erase hn) (hn.erase b)
      have hqb : q ≠ b := fun e => List.Nodup.not_mem_erase hn (e ▸ hq)
      have hqa : q ≠ a := fun e => ha (e ▸ List.mem_of_mem_erase hq)
      have hpa : p ≠ a := fun e => by
        rcases hp with rfl | hp
        · exact hab e.symm
        · exact ha (e ▸ List.mem_of_mem_erase hp)
      unfold setE
      by_cases c1 : p = u ∧ q = v
      · obtain ⟨rfl, rfl⟩ := c1
        exfalso
        rcases hc with ⟨x, y⟩ | ⟨x, y⟩ | ⟨x, y⟩ | ⟨x, y⟩
        · rcases hp with r | r
          · exact y r
          · exact x r
        · exact x hq
        · exact hpa x.symm
        · exact hqa x.symm
      · by_cases c2 : p = v ∧ q = u
        · obtain ⟨rfl, rfl⟩ := c2
          exfalso
          rcases hc with ⟨x, y⟩ | ⟨x, y⟩ | ⟨x, y⟩ | ⟨x, y⟩
          · exact x hq
          · rcases hp with r | r
            · exact y r
            · exact x r
          · exact hqa x.symm
          · exact hpa x.symm
        · rw [if_neg c1, if_neg c2, if_neg c1, if_neg c2]
    by_cases c1 : a = u ∧ b = v
    · obtain ⟨rfl, rfl⟩ := c1
      rw [same true true true false (.inr (.inr (.inl ⟨rfl, rfl⟩)))]
      simp [setE]
    · by_cases c2 : a = v ∧ b = u
      · obtain ⟨rfl, rfl⟩ := c2
        rw [same true true false true (.inr (.inr (.inr ⟨rfl, rfl⟩)))]
        simp [setE, huv, Ne.symm huv]
      · have e : ∀ s t, setE Y u v s t a b = Y a b := fun s t => by unfold setE; rw [if_neg c1, if_neg c2]
        simp only [e]
        cases Y a b
        · rfl
        · simpa using ih
end Mine
set_option maxRecDepth 100000
namespace Mine
theorem fv_congr {Y Z : Nat → Nat → Bool} {V : List Nat} (hn : V.Nodup) (h : ∀ p q, p ∈ V → q ∈ V → p ≠ q → Y p q = Z p q) : fv Y V = fv Z V := by
  by_cases hV : V = []
  · subst hV; rfl
  · rw [fv_cons Y V hV, fv_cons Z V hV]
    refine X_congr fun a ha => F_congr _ a _ (fun p q hp hq hpq => h p q ?_ (List.mem_of_mem_erase hq) hpq) (List.Nodup.not_mem_erase hn) (hn.erase a)
    rcases hp with rfl | hp
    · exact ha
    · exact List.mem_of_mem_erase hp
theorem fv_second {Y : Nat → Nat → Bool} {u v : Nat} (huv : u ≠ v) {V : List Nat} (hn : V.Nodup) :
    xor (xor (fv (setE Y u v false false) V) (fv (setE Y u v true false) V)) (xor (fv (setE Y u v false true) V) (fv (setE Y u v true true) V)) = false := by
  by_cases hV : V = []
  · subst hV; rfl
  · rw [fv_cons _ V hV, fv_cons _ V hV, fv_cons _ V hV, fv_cons _ V hV, ← X_xor, ← X_xor, ← X_xor]
    exact Eq.trans (X_congr (g := fun _ => false) fun a _ => second (Y := Y) huv _ a _ (List.Nodup.not_mem_erase hn) (hn.erase a)) (X_false V)
/-- of two, one beats the other -/
def Tour (Y : Nat → Nat → Bool) : Prop := ∀ a b, a ≠ b → Y a b = !Y b a
theorem flip {Y : Nat → Nat → Bool} (hY : Tour Y) {u v : Nat} (huv : u ≠ v) {V : List Nat} (hn : V.Nodup) : fv (setE Y u v true false) V = fv (setE Y u v false true) V := by
  by_cases hV : V = []
  · subst hV; rfl
  · have h2 := fv_second (Y := Y) huv hn
    have e : fv (setE Y u v false false) V = fv (setE Y u v true true) V := by
      rw [← berge _ _ V rfl hn hV, ← fv_tr (setE Y u v true true) V hn]
      refine fv_congr hn fun p q _ _ hpq => ?_
      unfold inv tr setE
      by_cases c1 : p = u ∧ q = v
      · obtain ⟨rfl, rfl⟩ := c1; simp [huv, Ne.symm huv]
      · by_cases c2 : p = v ∧ q = u
        · obtain ⟨rfl, rfl⟩ := c2; simp [huv, Ne.symm huv]
        · rw [if_neg c1, if_neg c2, if_neg (fun c => c2 ⟨c.2, c.1⟩), if_neg (fun c => c1 ⟨c.2, c.1⟩), hY q p (Ne.symm hpq)]
    rw [e] at h2
    revert h2
    cases fv (setE Y u v true true) V <;> cases fv (setE Y u v true false) V <;> cases fv (setE Y u v false true) V <;> simp
end Mine
set_option maxRecDepth 100000
namespace Mine
theorem Tour.set {Y : Nat → Nat → Bool} (hY : Tour Y) {u v : Nat} (huv : u ≠ v) (s : Bool) : Tour (setE Y u v s (!s)) := by
  intro a b hab
  unfold setE
  by_cases c1 : a = u ∧ b = v
  · obtain ⟨rfl, rfl⟩ := c1; simp [huv, Ne.symm huv]
  · by_cases c2 : a = v ∧ b = u
    · obtain ⟨rfl, rfl⟩ := c2; simp [huv, Ne.symm huv]
    · rw [if_neg c1, if_neg c2, if_neg (fun c => c2 ⟨c.2, c.1⟩), if_neg (fun c => c1 ⟨c.2, c.1⟩)]; exact hY a b hab
theorem one_win {Y : Nat → Nat → Bool} (hY : Tour Y) {u v : Nat} (huv : u ≠ v) {V : List Nat} (hn : V.Nodup) : fv Y V = fv (setE Y u v true false) V := by
  cases h : Y u v with
  | true =>
    refine fv_congr hn fun p q _ _ _ => ?_
    unfold setE
    by_cases c1 : p = u ∧ q = v
    · obtain ⟨rfl, rfl⟩ := c1; rw [if_pos ⟨rfl, rfl⟩, h]
    · by_cases c2 : p = v ∧ q = u
      · obtain ⟨rfl, rfl⟩ := c2; rw [if_neg c1, if_pos ⟨rfl, rfl⟩, hY _ _ (Ne.symm huv), h]; rfl
      · rw [if_neg c1, if_neg c2]
  | false =>
    rw [flip hY huv hn]
    refine fv_congr hn fun p q _ _ _ => ?_
    unfold setE
    by_cases c1 : p = u ∧ q = v
    · obtain ⟨rfl, rfl⟩ := c1; rw [if_pos ⟨rfl, rfl⟩, h]
    · by_cases c2 : p = v ∧ q = u
      · obtain ⟨rfl, rfl⟩ := c2; rw [if_neg c1, if_pos ⟨rfl, rfl⟩, hY _ _ (Ne.symm huv), h]; rfl
      · rw [if_neg c1, if_neg c2]
theorem all_win {v : Nat} {V : List Nat} (hn : V.Nodup) : ∀ (W : List Nat), v ∉ W → ∀ (Y : Nat → Nat → Bool), Tour Y → ∃ Z, Tour Z ∧ fv Y V = fv Z V ∧ ∀ w ∈ W, Z v w = true
  | [], _, Y, hY => ⟨Y, hY, rfl, fun _ h => nomatch h⟩
  | x :: W, hv, Y, hY => by
    obtain ⟨Z, hZ, e, hw⟩ := all_win hn W (fun h => hv (List.mem_cons_of_mem _ h)) Y hY
    have hvx : v ≠ x := fun q => hv (q ▸ List.mem_cons_self ..)
    refine ⟨setE Z v x true false, hZ.set hvx true, e.trans (one_win hZ hvx hn), fun w hm => ?_⟩
    unfold setE
    by_cases c : w = x
    · rw [if_pos ⟨rfl, c⟩]
    · rw [if_neg (fun q => c q.2), if_neg (fun q => hvx q.1)]
      rcases List.mem_cons.mp hm with q | q
      · exact absurd q c
      · exact hw w q
theorem F_into {Z : Nat → Nat → Bool} {v : Nat} : ∀ (k a : Nat) (U : List Nat), U.length = k → v ∈ U → U.Nodup → (∀ p, p = a ∨ p ∈ U → Z p v = false) → F Z k a U = false
  | 0, _, U, hl, hv, _, _ => by obtain rfl := List.length_eq_zero_iff.mp hl; cases hv
  | k + 1, a, U, hl, hv, hn, h => by
    show (X U fun b => Z a b && F Z k b (U.erase b)) = false
    refine Eq.trans (X_congr (g := fun _ => false) fun b hb => ?_) (X_false U)
    by_cases e : b = v
    · subst e; rw [h a (.inl rfl), Bool.false_and]
    · rw [F_into k b (U.erase b) (by rw [List.length_erase_of_mem hb, hl]; rfl) ((List.mem_erase_of_ne (Ne.symm e)).mpr hv) (hn.erase b) (fun p hp => h p (.inr ?_)), Bool.and_false]
      rcases hp with rfl | hp
      · exact hb
      · exact List.mem_of_mem_erase hp
/-- Redei -/
theorem redei : ∀ (V : List Nat), V.Nodup → ∀ (Y : Nat → Nat → Bool), Tour Y → (∀ a, Y a a = false) → fv Y V = true
  | [], _, _, _, _ => rfl
  | v :: V, hn, Y, hY, hd => by
    have hv := (List.nodup_cons.mp hn).1
    have hV := (List.nodup_cons.mp hn).2
    obtain ⟨Z, hZ, e, hw⟩ := all_win hn V hv Y hY
    rw [e]
    have hZ0 : ∃ Z', Tour Z' ∧ (∀ a, Z' a a = false) ∧ ∀ a b, a ≠ b → Z' a b = Z a b := ⟨fun a b => if a = b then false else Z a b, fun a b hab => by
      show (if a = b then false else Z a b) = !(if b = a then false else Z b a)
      rw [if_neg hab, if_neg (Ne.symm hab)]; exact hZ a b hab, fun a => if_pos rfl, fun a b hab => if_neg hab⟩
    obtain ⟨Z', hZ', hd', hag⟩ := hZ0
    rw [show fv Z (v :: V) = fv Z' (v :: V) from fv_congr hn fun p q _ _ hpq => (hag p q hpq).symm]
    have hw' : ∀ w ∈ V, Z' v w = true := fun w h => by rw [hag v w (fun q => hv (q ▸ h))]; exact hw w h
    have ih := redei V hV Z' hZ' hd'
    rw [fv_cons Z' _ (List.cons_ne_nil _ _), X_cons, List.erase_cons_head]
    have e2 : (X V fun a => F Z' ((v :: V).erase a).length a ((v :: V).erase a)) = false := by
      refine Eq.trans (X_congr (g := fun _ => false) fun a ha => ?_) (X_false V)
      have hav : v ≠ a := fun q => hv (q ▸ ha)
      refine F_into (v := v) _ a _ rfl ((List.mem_erase_of_ne hav).mpr (List.mem_cons_self ..)) (hn.erase a) fun p hp => ?_
      have hpv : p = v ∨ p ∈ V := by
        rcases hp with rfl | hp
        · exact .inr ha
        · exact List.mem_cons.mp (List.mem_of_mem_erase hp)
      rcases hpv with rfl | hpv
      · exact hd' p
      · rw [hZ' p v (fun q => hv (q ▸ hpv)), hw' p hpv]; rfl
    rw [e2, Bool.xor_false]
    cases hVc : V with
    | nil => rfl
    | cons x r =>
      rw [← hVc]
      have hl : V.length = r.length + 1 := by rw [hVc]; rfl
      rw [hl]
      show (X V fun b => Z' v b && F Z' r.length b (V.erase b)) = true
      rw [← ih, fv_cons Z' V (by rw [hVc]; exact List.cons_ne_nil _ _)]
      exact X_congr fun b hb => by rw [hw' b hb, Bool.true_and, List.length_erase_of_mem hb, hl]; rfl
end Mine
set_option maxRecDepth 100000
namespace Mine
/-- the odd ones -/
def par (z : Int) : Bool := decide (z % 2 = 1)
theorem par_add (x y : Int) : par (x + y) = xor (par x) (par y) := by
  unfold par
  rcases Int.emod_two_eq x with a | a <;> rcases Int.emod_two_eq y with b | b
  · rw [a, b, show (x + y) % 2 = 0 by omega]; rfl
  · rw [a, b, show (x + y) % 2 = 1 by omega]; rfl
  · rw [a, b, show (x + y) % 2 = 1 by omega]; rfl
  · rw [a, b, show (x + y) % 2 = 0 by omega]; rfl
/-- those not seen -/
def unseen (n seen : Nat) : List Nat := (List.range n).filter fun b => !seen.testBit b
theorem unseen_len (n seen : Nat) : (unseen n seen).length = cnt n seen := by
  unfold unseen cnt; rw [List.countP_eq_length_filter]
theorem unseen_nodup (n seen : Nat) : (unseen n seen).Nodup := List.filter_sublist.nodup List.nodup_range
theorem unseen_mem {n seen b : Nat} : b ∈ unseen n seen ↔ b < n ∧ seen.testBit b = false := by
  unfold unseen; rw [List.mem_filter, List.mem_range]; simp
theorem unseen_or (n seen b : Nat) : unseen n (seen ||| 2 ^ b) = (unseen n seen).erase b := by
  rw [(unseen_nodup n seen).erase_eq_filter]
  unfold unseen
  rw [List.filter_filter]
  refine List.filter_congr fun x _ => ?_
  rw [Nat.testBit_or, Nat.testBit_two_pow]
  by_cases e : x = b
  · subst e; simp
  · simp [e, Ne.symm e]
theorem unseen_full (n : Nat) : unseen n (2 ^ n - 1) = [] := by
  refine List.filter_eq_nil_iff.mpr fun x hx => ?_
  rw [Nat.testBit_two_pow_sub_one, decide_eq_true (List.mem_range.mp hx)]; decide
theorem X_filter {α : Type} (l : List α) (p : α → Bool) (f : α → Bool) : X (l.filter p) f = X l fun a => p a && f a := by
  induction l with
  | nil => rfl
  | cons a l ih =>
    cases h : p a with
    | true => rw [List.filter_cons_of_pos h, X_cons, X_cons, ih, h, Bool.true_and]
    | false => rw [List.filter_cons_of_neg (by rw [h]; decide), X_cons, ih, h, Bool.false_and, Bool.false_xor]
theorem wk_par (n : Nat) (bt : Nat → Nat → Bool) (first : Nat) : ∀ (f last seen : Nat), seen < 2 ^ n → cnt n seen ≤ f → par (wk n bt first f last seen).1 = F bt (cnt n seen) last (unseen n seen) := by
  intro f
  induction f with
  | zero =>
    intro last seen hs hc
    have e := full_of_cnt hs (by omega)
    rw [wk_full e, show cnt n seen = 0 by omega]; rfl
  | succ f ih =>
    intro last seen hs hc
    by_cases e : seen = 2 ^ n - 1
    · rw [wk_full e, ← unseen_len, e, unseen_full]; rfl
    · have hpos : cnt n seen ≠ 0 := fun q => e (full_of_cnt hs q)
      have part : ∀ k, k ≤ n → par (wkPart n bt first f last seen k).1 = X (List.range k) fun b => (!seen.testBit b) && (bt last b && F bt (cnt n seen - 1) b ((unseen n seen).erase b)) := by
        intro k
        induction k with
        | zero => intro _; rfl
        | succ k ihk =>
          intro hk
          rw [wkPart_succ, List.range_succ, X_append, X_cons, X_nil, ← ihk (by omega)]
          cases hb : seen.testBit k with
          | true => simp
          | false =>
            cases hl : bt last k with
            | false => simp
            | true =>
              have hlt := cnt_or (n := n) (seen := seen) (b := k) (by omega) hb
              have h1 := ih k (seen ||| 2 ^ k) (or_lt hs (by omega)) (by omega)
              have h2 : cnt n (seen ||| 2 ^ k) = cnt n seen - 1 := by
                rw [← unseen_len, unseen_or, List.length_erase_of_mem (unseen_mem.mpr ⟨by omega, hb⟩), unseen_len]
              rw [if_pos (by decide), par_add, h1, unseen_or, h2]
              simp
      rw [wk_succ e, part n (Nat.le_refl _)]
      obtain ⟨k, hk⟩ := Nat.exists_eq_succ_of_ne_zero hpos
      rw [hk]
      show _ = X (unseen n seen) fun b => bt last b && F bt k b ((unseen n seen).erase b)
      rw [show unseen n seen = (List.range n).filter fun b => !seen.testBit b from rfl, X_filter]
      rfl
theorem unseen_one {n a : Nat} : unseen n (2 ^ a) = (List.range n).erase a := by
  have := unseen_or n 0 a
  rw [Nat.zero_or] at this
  rw [this]; congr 1
  unfold unseen
  exact List.filter_eq_self.mpr fun x _ => by simp
theorem wsum_par (n : Nat) (bt : Nat → Nat → Bool) : ∀ k, k ≤ n → par (wsum n bt k) = X (List.range k) fun a => F bt (n - 1) a ((List.range n).erase a)
  | 0, _ => rfl
  | k + 1, h => by
    have e : cnt n (2 ^ k) = n - 1 := by rw [← unseen_len, unseen_one, List.length_erase_of_mem (List.mem_range.mpr (by omega)), List.length_range]
    show par (wsum n bt k + (wk n bt k n k (2 ^ k)).1) = _
    rw [par_add, wsum_par n bt k (by omega), wk_par n bt k n k (2 ^ k) (Nat.pow_lt_pow_right (by decide) (by omega)) (by omega), e, unseen_one, List.range_succ, X_append, X_cons, X_nil, Bool.xor_false]
/-- the number of ways is odd -/
theorem says_odd {n : Nat} {tb : Nat → Nat → Int} (T : Tourn n tb) (hn : 0 < n) : (wsum n (fun a b => decide (tb a b = 1)) n).fmod 2 = 1 := by
  have hne : List.range n ≠ [] := fun q => by have := congrArg List.length q; rw [List.length_range] at this; exact absurd this (by show ¬ n = 0; omega)
  have e : par (wsum n (fun a b => decide (tb a b = 1)) n) = fv (fun a b => decide (tb a b = 1)) (List.range n) := by
    rw [wsum_par n _ n (Nat.le_refl _), fv_cons _ _ hne]
    exact X_congr fun a ha => by rw [List.length_erase_of_mem ha, List.length_range]
  let Y : Nat → Nat → Bool := fun a b => if a < n ∧ b < n then decide (tb a b = 1) else decide (a < b)
  have hY : Tour Y := by
    intro a b hab
    show (if a < n ∧ b < n then decide (tb a b = 1) else decide (a < b)) = !(if b < n ∧ a < n then decide (tb b a = 1) else decide (b < a))
    by_cases c : a < n ∧ b < n
    · rw [if_pos c, if_pos ⟨c.2, c.1⟩]
      have h1 := T.sign a b c.1 c.2 hab
      have h2 := T.anti a b c.1 c.2
      rcases h1 with h | h <;> rw [h2, h] <;> decide
    · rw [if_neg c, if_neg (fun q => c ⟨q.2, q.1⟩)]
      rcases Nat.lt_or_gt_of_ne hab with h | h
      · rw [decide_eq_true h, decide_eq_false (by omega)]; rfl
      · rw [decide_eq_false (by omega), decide_eq_true h]; rfl
  have hd : ∀ a, Y a a = false := by
    intro a
    show (if a < n ∧ a < n then decide (tb a a = 1) else decide (a < a)) = false
    by_cases c : a < n
    · rw [if_pos ⟨c, c⟩, T.diag a c]; decide
    · rw [if_neg (fun q => c q.1)]; simp
  have r := redei (List.range n) List.nodup_range Y hY hd
  rw [fv_congr (Z := fun a b => decide (tb a b = 1)) List.nodup_range fun p q hp hq _ => if_pos ⟨List.mem_range.mp hp, List.mem_range.mp hq⟩, ← e] at r
  unfold par at r
  rw [Int.fmod_eq_emod_of_nonneg _ (by decide)]
  exact of_decide_eq_true r
end Mine
set_option maxRecDepth 100000
namespace Mine
/-- from a along the list, and back to first -/
noncomputable def Wk (E : Nat → Nat → Bool) (first : Nat) : Nat → List Nat → Prop
  | a, [] => E a first = true
  | a, b :: l => E a b = true ∧ Wk E first b l
theorem wk_nn (n : Nat) (bt : Nat → Nat → Bool) (first : Nat) : ∀ (f last seen : Nat), 0 ≤ (wk n bt first f last seen).2 := by
  intro f
  induction f with
  | zero =>
    intro last seen
    unfold wk
    by_cases e : seen = 2 ^ n - 1
    · rw [if_pos e]; cases bt last first <;> decide
    · rw [if_neg e]; decide
  | succ f ih =>
    intro last seen
    by_cases e : seen = 2 ^ n - 1
    · rw [wk_full e]; cases bt last first <;> decide
    · rw [wk_succ e]
      suffices h : ∀ k, 0 ≤ (wkPart n bt first f last seen k).2 from h n
      intro k
      induction k with
      | zero => exact Int.le_refl _
      | succ k ihk =>
        rw [wkPart_succ]
        cases (bt last k && !seen.testBit k) with
        | true => rw [if_pos rfl]; have := ih k (seen ||| 2 ^ k); show 0 ≤ _ + _; omega
        | false => rw [if_neg (by decide)]; exact ihk
theorem wk_pos (n : Nat) (bt : Nat → Nat → Bool) (first : Nat) : ∀ (f last seen : Nat), seen < 2 ^ n → cnt n seen ≤ f → (0 < (wk n bt first f last seen).2 ↔ ∃ l : List Nat, l.Perm (unseen n seen) ∧ Wk bt first last l) := by
  intro f
  induction f with
  | zero =>
    intro last seen hs hc
    have e := full_of_cnt hs (by omega)
    rw [wk_full e, e, unseen_full]
    constructor
    · intro h
      refine ⟨[], List.Perm.refl _, ?_⟩
      show bt last first = true
      cases q : bt last first with
      | true => rfl
      | false => rw [q] at h; exact absurd h (by decide)
    · rintro ⟨l, hp, hw⟩
      obtain rfl := hp.eq_nil
      have hw : bt last first = true := hw
      rw [hw]; decide
  | succ f ih =>
    intro last seen hs hc
    by_cases e : seen = 2 ^ n - 1
    · rw [wk_full e, e, unseen_full]
      constructor
      · intro h
        refine ⟨[], List.Perm.refl _, ?_⟩
        show bt last first = true
        cases q : bt last first with
        | true => rfl
        | false => rw [q] at h; exact absurd h (by decide)
      · rintro ⟨l, hp, hw⟩
        obtain rfl := hp.eq_nil
        have hw : bt last first = true := hw
        rw [hw]; decide
    · rw [wk_succ e]
      have part : ∀ k, k ≤ n → (0 < (wkPart n bt first f last seen k).2 ↔ ∃ b, b < k ∧ bt last b = true ∧ seen.testBit b = false ∧ 0 < (wk n bt first f b (seen ||| 2 ^ b)).2) ∧ 0 ≤ (wkPart n bt first f last seen k).2 := by
        intro k
        induction k with
        | zero => intro _; exact ⟨⟨fun h => absurd h (by show ¬ (0 : Int) < 0; decide), fun ⟨b, h, _⟩ => absurd h (Nat.not_lt_zero _)⟩, Int.le_refl _⟩
        | succ k ihk =>
          intro hk
          obtain ⟨i1, i2⟩ := ihk (by omega)
          have nn := wk_nn n bt first f k (seen ||| 2 ^ k)
          rw [wkPart_succ]
          cases hc : (bt last k && !seen.testBit k) with
          | true =>
            rw [Bool.and_eq_true, Bool.not_eq_true'] at hc
            rw [if_pos rfl]
            refine ⟨⟨fun h => ?_, ?_⟩, by show 0 ≤ _ + _; omega⟩
            · have h : 0 < (wkPart n bt first f last seen k).2 + (wk n bt first f k (seen ||| 2 ^ k)).2 := h
              by_cases q : 0 < (wkPart n bt first f last seen k).2
              · obtain ⟨b, h1, h2⟩ := i1.mp q; exact ⟨b, by omega, h2⟩
              · exact ⟨k, by omega, hc.1, hc.2, by omega⟩
            · rintro ⟨b, h1, h2, h3, h4⟩
              show 0 < (wkPart n bt first f last seen k).2 + (wk n bt first f k (seen ||| 2 ^ k)).2
              by_cases q : b = k
              · subst q; omega
              · have := i1.mpr ⟨b, by omega, h2, h3, h4⟩; omega
          | false =>
            rw [if_neg (by decide)]
            refine ⟨⟨fun h => ?_, ?_⟩, i2⟩
            · obtain ⟨b, h1, h2⟩ := i1.mp h; exact ⟨b, by omega, h2⟩
            · rintro ⟨b, h1, h2, h3, h4⟩
              refine i1.mpr ⟨b, ?_, h2, h3, h4⟩
              rcases Nat.lt_succ_iff_lt_or_eq.mp h1 with q | q
              · exact q
              · subst q; rw [h2, h3] at hc; exact absurd hc (by decide)
      rw [(part n (Nat.le_refl _)).1]
      constructor
      · rintro ⟨b, h1, h2, h3, h4⟩
        have hlt := cnt_or (n := n) h1 h3
        obtain ⟨l, hp, hw⟩ := (ih b (seen ||| 2 ^ b) (or_lt hs h1) (by omega)).mp h4
        rw [unseen_or] at hp
        exact ⟨b :: l, ((List.perm_cons b).mpr hp).trans (List.perm_cons_erase (unseen_mem.mpr ⟨h1, h3⟩)).symm, h2, hw⟩
      · rintro ⟨l, hp, hw⟩
        cases l with
        | nil => exact absurd (full_of_cnt hs (by rw [← unseen_len, ← hp.length_eq]; rfl)) e
        | cons b l =>
          obtain ⟨h2, hw⟩ := hw
          obtain ⟨h1, h3⟩ := unseen_mem.mp (hp.subset (List.mem_cons_self ..))
          have hlt := cnt_or (n := n) h1 h3
          refine ⟨b, h1, h2, h3, (ih b (seen ||| 2 ^ b) (or_lt hs h1) (by omega)).mpr ⟨l, ?_, hw⟩⟩
          rw [unseen_or]
          exact (List.perm_cons b).mp (hp.trans (List.perm_cons_erase (unseen_mem.mpr ⟨h1, h3⟩)))
/-- a way through all that comes back -/
theorem ring_iff {n : Nat} (hn : 0 < n) (bt : Nat → Nat → Bool) : 0 < (wk n bt 0 n 0 1).2 ↔ ∃ l : List Nat, (0 :: l).Perm (List.range n) ∧ Wk bt 0 0 l := by
  have h1 : (1 : Nat) < 2 ^ n := Nat.one_lt_two_pow (by omega)
  have h2 : cnt n 1 ≤ n := by
    have := List.countP_le_length (p := fun b => !Nat.testBit 1 b) (l := List.range n)
    rwa [List.length_range] at this
  rw [wk_pos n bt 0 n 0 1 h1 h2, show unseen n 1 = (List.range n).erase 0 from unseen_one (n := n) (a := 0)]
  have hm := List.perm_cons_erase (List.mem_range.mpr hn : 0 ∈ List.range n)
  exact ⟨fun ⟨l, hp, hw⟩ => ⟨l, ((List.perm_cons 0).mpr hp).trans hm.symm, hw⟩, fun ⟨l, hp, hw⟩ => ⟨l, (List.perm_cons 0).mp (hp.trans hm), hw⟩⟩
end Mine
set_option maxRecDepth 100000
namespace Mine
theorem ins1 {E : Nat → Nat → Bool} {first v : Nat} : ∀ (l : List Nat) (a : Nat), Wk E first a l → (∀ x ∈ l, E x v = true ∨ E v x = true) → E a v = true → (E v first = true ∨ ∃ c ∈ l, E c v = false) → ∃ l' : List Nat, l'.Perm (v :: l) ∧ Wk E first a l'
  | [], a, _, _, h1, h2 => by
    refine ⟨[v], List.Perm.refl _, h1, ?_⟩
    rcases h2 with h | ⟨c, h, _⟩
    · exact h
    · cases h
  | b :: l, a, hw, ho, h1, h2 => by
    obtain ⟨w1, w2⟩ := hw
    by_cases hb : E v b = true
    · exact ⟨v :: b :: l, List.Perm.refl _, h1, hb, w2⟩
    · have hbv : E b v = true := (ho b (List.mem_cons_self ..)).resolve_right hb
      obtain ⟨l', p, w⟩ := ins1 l b w2 (fun x hx => ho x (List.mem_cons_of_mem _ hx)) hbv (by
        rcases h2 with h | ⟨c, h, q⟩
        · exact .inl h
        · rcases List.mem_cons.mp h with rfl | h
          · rw [hbv] at q; cases q
          · exact .inr ⟨c, h, q⟩)
      exact ⟨b :: l', ((List.perm_cons b).mpr p).trans (List.Perm.swap v b l), w1, w⟩
theorem ins2 {E : Nat → Nat → Bool} {first v : Nat} : ∀ (l : List Nat) (a : Nat), Wk E first a l → (∀ x ∈ l, E x v = true ∨ E v x = true) → E v first = true → (∃ c ∈ l, E c v = true) → ∃ l' : List Nat, l'.Perm (v :: l) ∧ Wk E first a l'
  | [], _, _, _, _, ⟨c, h, _⟩ => by cases h
  | b :: l, a, hw, ho, h1, ⟨c, hc, h2⟩ => by
    obtain ⟨w1, w2⟩ := hw
    have ho' : ∀ x ∈ l, E x v = true ∨ E v x = true := fun x hx => ho x (List.mem_cons_of_mem _ hx)
    have : ∃ l' : List Nat, l'.Perm (v :: l) ∧ Wk E first b l' := by
      rcases List.mem_cons.mp hc with rfl | hc
      · exact ins1 l c w2 ho' h2 (.inl h1)
      · exact ins2 l b w2 ho' h1 ⟨c, hc, h2⟩
    obtain ⟨l', p, w⟩ := this
    exact ⟨b :: l', ((List.perm_cons b).mpr p).trans (List.Perm.swap v b l), w1, w⟩
/-- a list without doubles, and the rest -/
theorem rest_of {l : List Nat} : ∀ {m : List Nat}, l.Nodup → (∀ x ∈ l, x ∈ m) → ∃ r : List Nat, m.Perm (l ++ r) := by
  induction l with
  | nil => exact fun {m} _ _ => ⟨m, List.Perm.refl _⟩
  | cons x l ih =>
    intro m hn hs
    obtain ⟨hx, hl⟩ := List.nodup_cons.mp hn
    obtain ⟨r, hr⟩ := ih (m := m.erase x) hl fun y hy => (List.mem_erase_of_ne (fun (e : y = x) => hx (e ▸ hy))).mpr (hs y (List.mem_cons_of_mem _ hy))
    exact ⟨r, (List.perm_cons_erase (hs x (List.mem_cons_self ..))).trans ((List.perm_cons x).mpr hr)⟩
/-- each part of the players, not all and not none, has one who beats one outside -/
def Strong (n : Nat) (E : Nat → Nat → Bool) : Prop := ∀ S : Nat → Prop, (∃ a, a < n ∧ S a) → (∃ b, b < n ∧ ¬ S b) → ∃ a b, a < n ∧ b < n ∧ S a ∧ ¬ S b ∧ E a b = true
/-- a tournament's arcs -/
structure Arcs (n : Nat) (E : Nat → Nat → Bool) : Prop where
  self : ∀ a, a < n → E a a = false
  one : ∀ a b, a < n → b < n → a ≠ b → E a b = !E b a
theorem Arcs.flip {n : Nat} {E : Nat → Nat → Bool} (A : Arcs n E) {a b : Nat} (ha : a < n) (hb : b < n) (hab : a ≠ b) (h : E a b = false) : E b a = true := by
  rw [A.one b a hb ha (Ne.symm hab), h]; rfl
theorem Arcs.anti {n : Nat} {E : Nat → Nat → Bool} (A : Arcs n E) {a b : Nat} (ha : a < n) (hb : b < n) (h : E a b = true) : E b a = false := by
  by_cases e : a = b
  · subst e; exact A.self a ha
  · rw [A.one b a hb ha (Ne.symm e), h]; rfl
theorem grow {n : Nat} {E : Nat → Nat → Bool} (A : Arcs n E) (St : Strong n E) {l : List Nat} (hn : (0 :: l).Nodup) (hl : ∀ x ∈ 0 :: l, x < n) (hw : l = [] ∨ Wk E 0 0 l) (hs : l.length + 1 < n) :
    ∃ l' : List Nat, (0 :: l').Nodup ∧ (∀ x ∈ 0 :: l', x < n) ∧ Wk E 0 0 l' ∧ l.length < l'.length := by
  have h0 : 0 < n := by omega
  -- one outside
  have hout : ∃ v, v < n ∧ v ∉ 0 :: l := by
    refine Classical.byContradiction fun q => ?_
    obtain ⟨r, hr⟩ := rest_of (m := 0 :: l) (List.nodup_range (n := n)) fun x hx => Classical.byContradiction fun r => q ⟨x, List.mem_range.mp hx, r⟩
    have := hr.length_eq
    rw [List.length_append, List.length_range, List.length_cons] at this; omega
  by_cases mixed : ∃ v, v < n ∧ v ∉ 0 :: l ∧ (∃ c ∈ 0 :: l, E c v = true) ∧ (∃ c ∈ 0 :: l, E v c = true)
  · obtain ⟨v, hv, ho, ⟨c, hc, hcv⟩, ⟨c', hc', hvc⟩⟩ := mixed
    have two : ∀ x ∈ l, E x v = true ∨ E v x = true := fun x hx => by
      have hx' := List.mem_cons_of_mem 0 hx
      cases q : E x v with
      | true => exact .inl rfl
      | false => exact .inr (A.flip (hl x hx') hv (fun e => ho (e ▸ hx')) q)
    have hw' : Wk E 0 0 l := hw.resolve_left fun e => by
      subst e
      rw [List.mem_singleton] at hc hc'; subst hc; subst hc'
      rw [A.anti h0 hv hcv] at hvc; cases hvc
    have : ∃ l' : List Nat, l'.Perm (v :: l) ∧ Wk E 0 0 l' := by
      cases q : E 0 v with
      | true =>
        refine ins1 l 0 hw' two q (.inr ?_)
        have h0v := A.anti h0 hv q
        rcases List.mem_cons.mp hc' with rfl | r
        · rw [h0v] at hvc; cases hvc
        · exact ⟨c', r, A.anti hv (hl c' hc') hvc⟩
      | false =>
        refine ins2 l 0 hw' two (A.flip h0 hv (fun e => ho (e ▸ List.mem_cons_self ..)) q) ?_
        rcases List.mem_cons.mp hc with rfl | r
        · rw [q] at hcv; cases hcv
        · exact ⟨c, r, hcv⟩
    obtain ⟨l', p, w⟩ := this
    have p' : (0 :: l').Perm (v :: 0 :: l) := ((List.perm_cons 0).mpr p).trans (List.Perm.swap v 0 l)
    refine ⟨l', p'.nodup_iff.mpr (List.nodup_cons.mpr ⟨ho, hn⟩), fun x hx => ?_, w, by rw [p.length_eq, List.length_cons]; omega⟩
    rcases List.mem_cons.mp (p'.mem_iff.mp hx) with rfl | r
    · exact hv
    · exact hl x r
  · -- each outside is beaten by all of the ring or beats all
    have allB : ∀ v, v < n → v ∉ 0 :: l → E 0 v = true → ∀ c ∈ 0 :: l, E c v = true := fun v hv ho q c hc => by
      cases r : E c v with
      | true => rfl
      | false => exact absurd ⟨v, hv, ho, ⟨0, List.mem_cons_self .., q⟩, ⟨c, hc, A.flip (hl c hc) hv (fun e => ho (e ▸ hc)) r⟩⟩ mixed
    have allA : ∀ v, v < n → v ∉ 0 :: l → E 0 v = false → ∀ c ∈ 0 :: l, E v c = true := fun v hv ho q c hc => by
      cases r : E c v with
      | true => exact absurd ⟨v, hv, ho, ⟨c, hc, r⟩, ⟨0, List.mem_cons_self .., A.flip h0 hv (fun e => ho (e ▸ List.mem_cons_self ..)) q⟩⟩ mixed
      | false => exact A.flip (hl c hc) hv (fun e => ho (e ▸ hc)) r
    obtain ⟨v₀, hv₀, ho₀⟩ := hout
    obtain ⟨c, v, hc, hv, mc, mv, ecv⟩ := St (fun x => x ∈ 0 :: l) ⟨0, h0, List.mem_cons_self ..⟩ ⟨v₀, hv₀, ho₀⟩
    have bv : E 0 v = true := by
      cases q : E 0 v with
      | true => rfl
      | false => have := A.anti hv hc (allA v hv mv q c mc); rw [ecv] at this; cases this
    obtain ⟨y, x, hy, hx, ⟨my, by_⟩, nx, eyx⟩ := St (fun x => x ∉ 0 :: l ∧ E 0 x = true) ⟨v, hv, mv, bv⟩ ⟨0, h0, fun q => q.1 (List.mem_cons_self ..)⟩
    have mx : x ∉ 0 :: l := fun q => by
      have := A.anti hx hy (allB y hy my by_ x q)
      rw [eyx] at this; cases this
    have ax : E 0 x = false := by
      cases q : E 0 x with
      | true => exact absurd ⟨mx, q⟩ nx
      | false => rfl
    have hxy : y ≠ x := fun e => by subst e; rw [A.self y hy] at eyx; cases eyx
    have p' : (0 :: y :: x :: l).Perm (y :: x :: 0 :: l) := (List.Perm.swap y 0 (x :: l)).trans ((List.perm_cons y).mpr (List.Perm.swap x 0 l))
    refine ⟨y :: x :: l, p'.nodup_iff.mpr (List.nodup_cons.mpr ⟨fun q => ?_, List.nodup_cons.mpr ⟨mx, hn⟩⟩), fun z hz => ?_, ⟨by_, eyx, ?_⟩, by simp only [List.length_cons]; omega⟩
    · rcases List.mem_cons.mp q with r | r
      · exact hxy r
      · exact my r
    · rcases List.mem_cons.mp (p'.mem_iff.mp hz) with rfl | r
      · exact hy
      · rcases List.mem_cons.mp r with rfl | r
        · exact hx
        · exact hl z r
    · cases l with
      | nil => exact allA x hx mx ax 0 (List.mem_cons_self ..)
      | cons b l =>
        have hw' : Wk E 0 0 (b :: l) := hw.resolve_left (List.cons_ne_nil _ _)
        exact ⟨allA x hx mx ax b (List.mem_cons_of_mem _ (List.mem_cons_self ..)), hw'.2⟩
theorem camion {n : Nat} {E : Nat → Nat → Bool} (A : Arcs n E) (St : Strong n E) (h2 : 2 ≤ n) : ∀ (k : Nat) (l : List Nat), n - (l.length + 1) = k → (0 :: l).Nodup → (∀ x ∈ 0 :: l, x < n) → (l = [] ∨ Wk E 0 0 l) → ∃ l' : List Nat, (0 :: l').Perm (List.range n) ∧ Wk E 0 0 l' := by
  intro k
  induction k using Nat.strongRecOn with
  | ind k ih =>
    intro l hk hn hl hw
    by_cases hs : l.length + 1 < n
    · obtain ⟨l', n', l1, w', lt⟩ := grow A St hn hl hw hs
      exact ih (n - (l'.length + 1)) (by omega) l' rfl n' l1 (.inr w')
    · obtain ⟨r, hr⟩ := rest_of (m := List.range n) hn fun x hx => List.mem_range.mpr (hl x hx)
      have hlen := hr.length_eq
      rw [List.length_append, List.length_range, List.length_cons] at hlen
      obtain rfl : r = [] := List.length_eq_zero_iff.mp (by omega)
      rw [List.append_nil] at hr
      refine ⟨l, hr.symm, hw.resolve_left fun e => ?_⟩
      subst e
      have : ¬ (0 + 1 < n) := hs
      omega
theorem closed_walk {n : Nat} {E : Nat → Nat → Bool} {S : Nat → Prop} {first : Nat} (hf : first < n) (cl : ∀ a b, a < n → b < n → S a → E a b = true → S b) : ∀ (l : List Nat) (a : Nat), Wk E first a l → (∀ x ∈ a :: l, x < n) → S a → (∀ x ∈ l, S x) ∧ S first
  | [], a, hw, hl, hs => ⟨fun x h => (nomatch h), cl a first (hl a (List.mem_cons_self ..)) hf hs hw⟩
  | b :: l, a, hw, hl, hs => by
    have sb := cl a b (hl a (List.mem_cons_self ..)) (hl b (List.mem_cons_of_mem _ (List.mem_cons_self ..))) hs hw.1
    have := closed_walk hf cl l b hw.2 (fun x h => hl x (List.mem_cons_of_mem _ h)) sb
    exact ⟨fun x h => (List.mem_cons.mp h).elim (fun e => e ▸ sb) (this.1 x), this.2⟩
theorem closed_any {n : Nat} {E : Nat → Nat → Bool} {S : Nat → Prop} {first : Nat} (hf : first < n) (cl : ∀ a b, a < n → b < n → S a → E a b = true → S b) : ∀ (l : List Nat) (a : Nat), Wk E first a l → (∀ x ∈ a :: l, x < n) → (∃ x ∈ a :: l, S x) → S first
  | [], a, hw, hl, ⟨x, hx, hs⟩ => by
    rw [List.mem_singleton] at hx; subst hx
    exact (closed_walk hf cl [] x hw hl hs).2
  | b :: l, a, hw, hl, ⟨x, hx, hs⟩ => by
    rcases List.mem_cons.mp hx with rfl | hx
    · exact (closed_walk hf cl (b :: l) x hw hl hs).2
    · exact closed_any hf cl l b hw.2 (fun x h => hl x (List.mem_cons_of_mem _ h)) ⟨x, hx, hs⟩
theorem strong_of_ring {n : Nat} {E : Nat → Nat → Bool} {l : List Nat} (hp : (0 :: l).Perm (List.range n)) (hw : Wk E 0 0 l) : Strong n E := by
  rintro S ⟨a, ha, sa⟩ ⟨b, hb, sb⟩
  refine Classical.byContradiction fun q => sb ?_
  have h0 : 0 < n := by omega
  have cl : ∀ a b, a < n → b < n → S a → E a b = true → S b := fun a b ha hb s e => Classical.byContradiction fun r => q ⟨a, b, ha, hb, s, r, e⟩
  have hl : ∀ x ∈ 0 :: l, x < n := fun x h => List.mem_range.mp (hp.subset h)
  have s0 := closed_any h0 cl l 0 hw hl ⟨a, hp.symm.subset (List.mem_range.mpr ha), sa⟩
  have := closed_walk h0 cl l 0 hw hl s0
  rcases List.mem_cons.mp (hp.symm.subset (List.mem_range.mpr hb)) with rfl | r
  · exact s0
  · exact this.1 b r
/-- Camion -/
theorem ring_strong {n : Nat} {E : Nat → Nat → Bool} (A : Arcs n E) (h2 : 2 ≤ n) : (∃ l : List Nat, (0 :: l).Perm (List.range n) ∧ Wk E 0 0 l) ↔ Strong n E :=
  ⟨fun ⟨_, p, w⟩ => strong_of_ring p w, fun St => camion A St h2 _ [] rfl (List.nodup_cons.mpr ⟨fun h => (nomatch h), List.nodup_nil⟩) (fun x h => by rw [List.mem_singleton] at h; omega) (.inl rfl)⟩
end Mine
set_option maxRecDepth 100000
namespace Mine
theorem sum_perm {a b : List Int} (h : a.Perm b) : a.sum = b.sum := by
  induction h with
  | nil => rfl
  | cons x _ ih => rw [List.sum_cons, List.sum_cons, ih]
  | swap x y l => rw [List.sum_cons, List.sum_cons, List.sum_cons, List.sum_cons]; omega
  | trans _ _ i1 i2 => exact i1.trans i2
theorem sum_cat (a b : List Int) : (a ++ b).sum = a.sum + b.sum := by
  induction a with
  | nil => rw [List.nil_append, List.sum_nil, Int.zero_add]
  | cons x a ih => rw [List.cons_append, List.sum_cons, List.sum_cons, ih, Int.add_assoc]
theorem take_le : ∀ (ns t u : List Int), ns.Pairwise (· ≤ ·) → ns.Perm (t ++ u) → (ns.take t.length).sum ≤ t.sum
  | [], t, u, _, hp => by
    have := hp.length_eq
    rw [List.length_append, List.length_nil] at this
    obtain rfl : t = [] := List.length_eq_zero_iff.mp (by omega)
    exact Int.le_refl _
  | x :: ns, [], u, _, hp => Int.le_refl _
  | x :: ns, y :: t, u, ho, hp => by
    obtain ⟨ho1, ho2⟩ := List.pairwise_cons.mp ho
    rw [List.length_cons, List.take_succ_cons, List.sum_cons]
    by_cases hx : x ∈ y :: t
    · have p := List.perm_cons_erase hx
      rw [sum_perm p, List.sum_cons]
      have hp' : ns.Perm ((y :: t).erase x ++ u) := (List.perm_cons x).mp (hp.trans (List.Perm.append_right u p))
      have := take_le ns _ u ho2 hp'
      rw [List.length_erase_of_mem hx, List.length_cons, Nat.add_sub_cancel] at this
      omega
    · have hxu : x ∈ u := by
        rcases List.mem_append.mp (hp.subset (List.mem_cons_self ..)) with h | h
        · exact absurd h hx
        · exact h
      have p := List.perm_cons_erase hxu
      have hp' : ns.Perm (t ++ (y :: u.erase x)) := by
        have q : (x :: ns).Perm (x :: ((y :: t) ++ u.erase x)) := (hp.trans (List.Perm.append_left (y :: t) p)).trans List.perm_middle
        exact ((List.perm_cons x).mp q).trans List.perm_middle.symm
      have := take_le ns t _ ho2 hp'
      have hy : x ≤ y := by
        rcases List.mem_cons.mp (hp.symm.subset (List.mem_append_left u (List.mem_cons_self ..)) : y ∈ x :: ns) with e | h
        · omega
        · exact ho1 y h
      rw [List.sum_cons]; omega
theorem unmap {α β : Type} {f : α → β} : ∀ {m : List α} {l : List β}, l.Perm (m.map f) → ∃ m' : List α, m'.Perm m ∧ l = m'.map f
  | [], l, h => ⟨[], List.Perm.refl _, h.eq_nil⟩
  | x :: m, l, h => by
    obtain ⟨s, t, rfl⟩ := List.append_of_mem (h.symm.subset (List.mem_cons_self ..) : f x ∈ l)
    have h' : (s ++ t).Perm (m.map f) := (List.perm_cons (f x)).mp (List.perm_middle.symm.trans h)
    obtain ⟨m', p, e⟩ := unmap h'
    obtain ⟨s', t', rfl, rfl, rfl⟩ := List.map_eq_append_iff.mp e.symm
    exact ⟨s' ++ x :: t', List.perm_middle.trans ((List.perm_cons x).mpr p), by simp⟩
/-- the sum over a list of players -/
noncomputable def su (S : List Nat) (f : Nat → Nat) : Nat := match S with
  | [] => 0
  | x :: S => f x + su S f
theorem su_add (S : List Nat) (f g : Nat → Nat) : su S (fun a => f a + g a) = su S f + su S g := by
  induction S with
  | nil => rfl
  | cons x S ih => show f x + g x + su S _ = (f x + su S f) + (g x + su S g); rw [ih]; omega
theorem su_congr {S : List Nat} {f g : Nat → Nat} (h : ∀ a ∈ S, f a = g a) : su S f = su S g := by
  induction S with
  | nil => rfl
  | cons x S ih => show f x + su S f = g x + su S g; rw [h x (List.mem_cons_self ..), ih fun a ha => h a (List.mem_cons_of_mem _ ha)]
theorem su_count (S : List Nat) (p : Nat → Bool) : su S (fun a => if p a then 1 else 0) = S.countP p := by
  induction S with
  | nil => rfl
  | cons x S ih => show (if p x then 1 else 0) + su S _ = _; rw [ih, List.countP_cons, Nat.add_comm]
theorem su_pos {S : List Nat} {f : Nat → Nat} {a : Nat} (ha : a ∈ S) (hf : 0 < f a) : 0 < su S f := by
  induction S with
  | nil => cases ha
  | cons x S ih =>
    show 0 < f x + su S f
    rcases List.mem_cons.mp ha with rfl | h
    · omega
    · have := ih h; omega
theorem su_zero {S : List Nat} {f : Nat → Nat} (h : ∀ a ∈ S, f a = 0) : su S f = 0 := by
  induction S with
  | nil => rfl
  | cons x S ih => show f x + su S f = 0; rw [h x (List.mem_cons_self ..), ih fun a ha => h a (List.mem_cons_of_mem _ ha)]
theorem su_int (S : List Nat) (f : Nat → Nat) : (S.map fun a => (f a : Int)).sum = (su S f : Int) := by
  induction S with
  | nil => rfl
  | cons x S ih => rw [List.map_cons, List.sum_cons, ih]; show (f x : Int) + _ = ((f x + su S f : Nat) : Int); omega
theorem count_both (S : List Nat) (p q : Nat → Bool) (h : ∀ a ∈ S, q a = !p a) : S.countP p + S.countP q = S.length := by
  induction S with
  | nil => rfl
  | cons x S ih =>
    have := ih fun a ha => h a (List.mem_cons_of_mem _ ha)
    rw [List.countP_cons, List.countP_cons, List.length_cons, h x (List.mem_cons_self ..)]
    cases p x <;> simp <;> omega
/-- the games among some players -/
theorem inner {n : Nat} {E : Nat → Nat → Bool} (A : Arcs n E) : ∀ (S : List Nat), S.Nodup → (∀ x ∈ S, x < n) → 2 * su S (fun a => S.countP (E a)) + S.length = S.length * S.length
  | [], _, _ => rfl
  | x :: S, hn, hl => by
    obtain ⟨hx, hS⟩ := List.nodup_cons.mp hn
    have ih := inner A S hS fun y hy => hl y (List.mem_cons_of_mem _ hy)
    have xl := hl x (List.mem_cons_self ..)
    show 2 * ((x :: S).countP (E x) + su S (fun a => (x :: S).countP (E a))) + (x :: S).length = _
    have e1 : (x :: S).countP (E x) = S.countP (E x) := by rw [List.countP_cons, A.self x xl]; rfl
    have e2 : su S (fun a => (x :: S).countP (E a)) = su S (fun a => S.countP (E a)) + S.countP (fun a => E a x) := by
      rw [← su_count, ← su_add]
      exact su_congr fun a _ => List.countP_cons ..
    have e3 := count_both S (E x) (fun a => E a x) fun a ha => A.one a x (hl a (List.mem_cons_of_mem _ ha)) xl fun e => hx (e ▸ ha)
    have e4 : (S.length + 1) * (S.length + 1) = S.length * S.length + 2 * S.length + 1 := by rw [Nat.add_mul, Nat.mul_add]; omega
    rw [e1, e2, List.length_cons, e4]
    omega
/-- the wins of some players: those among them, and those over the others -/
theorem wins_of {n : Nat} {E : Nat → Nat → Bool} (A : Arcs n E) {S R : List Nat} (hp : (List.range n).Perm (S ++ R)) :
    2 * su S (fun a => (List.range n).countP (E a)) + S.length = S.length * S.length + 2 * su S (fun a => R.countP (E a)) := by
  have hn : (S ++ R).Nodup := hp.nodup_iff.mp List.nodup_range
  have hl : ∀ x ∈ S, x < n := fun x h => List.mem_range.mp (hp.symm.subset (List.mem_append_left _ h))
  have i := inner A S (List.nodup_append.mp hn).1 hl
  have e : su S (fun a => (List.range n).countP (E a)) = su S (fun a => S.countP (E a)) + su S (fun a => R.countP (E a)) := by
    rw [← su_add]
    exact su_congr fun a _ => by rw [hp.countP_eq, List.countP_append]
  rw [e]; omega
theorem Tourn.arcs {n : Nat} {tb : Nat → Nat → Int} (T : Tourn n tb) : Arcs n (fun a b => decide (tb a b = 1)) := by
  refine ⟨fun a ha => ?_, fun a b ha hb hab => ?_⟩
  · show decide (tb a a = 1) = false
    rw [T.diag a ha]; decide
  · show decide (tb a b = 1) = !decide (tb b a = 1)
    rw [T.anti a b ha hb]
    rcases T.sign a b ha hb hab with h | h <;> rw [h] <;> decide
theorem low_iff {S : List Nat} {v w : Nat} (h : 2 * v + S.length = S.length * S.length + 2 * w) : ((v : Int) ≤ (((S.length : Nat) : Int) * ((S.length : Int) - 1)).fdiv 2) ↔ w = 0 := by
  rw [Int.fdiv_eq_ediv_of_nonneg _ (by decide), Int.mul_sub, Int.mul_one]
  have e : ((S.length : Nat) : Int) * ((S.length : Nat) : Int) = ((S.length * S.length : Nat) : Int) := by rw [Int.natCast_mul]
  rw [e]
  omega
/-- Landau -/
theorem strong_whole {n : Nat} {tb : Nat → Nat → Int} (T : Tourn n tb) {ns : List Int} (hp : ns.Perm (scores n tb n)) (ho : ns.Pairwise (· ≤ ·)) :
    Strong n (fun a b => decide (tb a b = 1)) ↔ wholeTo ns (n - 1) = true := by
  have A := T.arcs
  constructor
  · intro St
    unfold wholeTo
    refine List.all_eq_true.mpr fun i hi => ?_
    have hi := List.mem_range.mp hi
    obtain ⟨r, pr, rfl⟩ := unmap hp
    have lr : r.length = n := by rw [pr.length_eq, List.length_range]
    have pr' : (List.range n).Perm (r.take (i + 1) ++ r.drop (i + 1)) := by rw [List.take_append_drop]; exact pr.symm
    have hn : (r.take (i + 1) ++ r.drop (i + 1)).Nodup := pr'.nodup_iff.mp List.nodup_range
    have hd := (List.nodup_append.mp hn).2.2
    have lS : (r.take (i + 1)).length = i + 1 := by rw [List.length_take]; omega
    have lR : (r.drop (i + 1)).length = n - (i + 1) := by rw [List.length_drop]; omega
    have w := wins_of A pr'
    have inS : ∀ x ∈ r.take (i + 1), x < n := fun x h => List.mem_range.mp (pr'.symm.subset (List.mem_append_left _ h))
    have inR : ∀ x ∈ r.drop (i + 1), x < n := fun x h => List.mem_range.mp (pr'.symm.subset (List.mem_append_right _ h))
    have some_ : ∃ a, a ∈ r.take (i + 1) := by
      cases h : r.take (i + 1) with
      | nil => rw [h] at lS; cases lS
      | cons a _ => exact ⟨a, List.mem_cons_self ..⟩
    have other : ∃ a, a ∈ r.drop (i + 1) := by
      cases h : r.drop (i + 1) with
      | nil => rw [h] at lR; have lR : 0 = n - (i + 1) := lR; omega
      | cons a _ => exact ⟨a, List.mem_cons_self ..⟩
    obtain ⟨a₀, h₀⟩ := some_
    obtain ⟨b₀, k₀⟩ := other
    obtain ⟨a, b, ha, hb, sa, sb, e⟩ := St (fun x => x ∈ r.take (i + 1)) ⟨a₀, inS _ h₀, h₀⟩ ⟨b₀, inR _ k₀, fun q => hd _ q _ k₀ rfl⟩
    have bR : b ∈ r.drop (i + 1) := (List.mem_append.mp (pr'.subset (List.mem_range.mpr hb))).resolve_left sb
    have pos : 0 < su (r.take (i + 1)) (fun a => (r.drop (i + 1)).countP fun b => decide (tb a b = 1)) := su_pos sa (List.countP_pos_iff.mpr ⟨b, bR, e⟩)
    have li := low_iff w
    have s : ((r.map fun a => (score n tb a : Int)).take (i + 1)).sum = (su (r.take (i + 1)) (fun a => (List.range n).countP fun b => decide (tb a b = 1)) : Int) := by
      rw [← List.map_take, su_int]; rfl
    have : lowAt (r.map fun a => (score n tb a : Int)) (i + 1) = false := by
      unfold lowAt
      refine decide_eq_false fun q => ?_
      rw [s] at q
      rw [lS] at li
      have := li.mp q
      omega
    rw [this]; rfl
  · intro hw S ⟨a, ha, sa⟩ ⟨b, hb, sb⟩
    refine Classical.byContradiction fun q => ?_
    have dec : ∀ x, Decidable (S x) := fun x => Classical.propDecidable _
    let L := (List.range n).filter fun x => @decide (S x) (dec x)
    have memL : ∀ x, x ∈ L ↔ x < n ∧ S x := fun x => by rw [List.mem_filter, List.mem_range]; exact and_congr_right fun _ => decide_eq_true_iff
    have nL : L.Nodup := List.filter_sublist.nodup List.nodup_range
    obtain ⟨R, hR⟩ := rest_of (m := List.range n) nL fun x hx => List.mem_range.mpr ((memL x).mp hx).1
    have hn : (L ++ R).Nodup := hR.nodup_iff.mp List.nodup_range
    have hd := (List.nodup_append.mp hn).2.2
    have w := wins_of A hR
    have z : su L (fun a => R.countP fun b => decide (tb a b = 1)) = 0 := su_zero fun x hx => List.countP_eq_zero.mpr fun y hy e => by
      have hyn := List.mem_range.mp (hR.symm.subset (List.mem_append_right _ hy))
      exact q ⟨x, y, ((memL x).mp hx).1, hyn, ((memL x).mp hx).2, fun sy => hd y ((memL y).mpr ⟨hyn, sy⟩) y hy rfl, e⟩
    have lpos : 0 < L.length := List.length_pos_of_mem ((memL a).mpr ⟨ha, sa⟩)
    have rpos : 0 < R.length := List.length_pos_of_mem ((List.mem_append.mp (hR.subset (List.mem_range.mpr hb))).resolve_left fun h => sb ((memL b).mp h).2)
    have lsum : L.length + R.length = n := by rw [← List.length_append, ← hR.length_eq, List.length_range]
    have hp' : ns.Perm ((L.map fun a => (score n tb a : Int)) ++ (R.map fun a => (score n tb a : Int))) := by
      rw [← List.map_append]
      exact hp.trans (hR.map _)
    have tl := take_le ns _ _ ho hp'
    rw [List.length_map, su_int] at tl
    have li := (low_iff w).mpr z
    have low : lowAt ns L.length = true := decide_eq_true (Int.le_trans tl li)
    unfold wholeTo at hw
    have := List.all_eq_true.mp hw (L.length - 1) (List.mem_range.mpr (by omega))
    rw [show L.length - 1 + 1 = L.length by omega, low] at this
    cases this
end Mine
set_option maxRecDepth 100000
namespace Mine
theorem says_king {n : Nat} {tb : Nat → Nat → Int} (T : Tourn n tb) : ∀ k, k < n → (∀ x, x < n → score n tb x ≤ score n tb k) → ∀ j, j < n → k ≠ j → tb k j ≠ 1 → 0 < mid n tb k j n := by
  intro k hk hmax j hj hkj h1
  refine Classical.byContradiction fun q => ?_
  have z : mid n tb k j n = 0 := by omega
  have no := List.countP_eq_zero.mp z
  have hjk : tb j k = 1 := by
    have := T.anti k j hk hj
    rcases T.sign k j hk hj hkj with h | h
    · exact absurd h h1
    · rw [this, h]; rfl
  have lt : score n tb k < score n tb j := by
    refine countP_lt (x := k) (fun c hc e => ?_) (List.mem_range.mpr hk) (decide_eq_true hjk) (decide_eq_false fun e => ?_)
    · have e := of_decide_eq_true e
      have hc := List.mem_range.mp hc
      have ncj : tb c j ≠ 1 := fun r => no c (List.mem_range.mpr hc) (by rw [decide_eq_true e, decide_eq_true r]; rfl)
      have hne : c ≠ j := fun r => h1 (r ▸ e)
      refine decide_eq_true ?_
      have := T.anti c j hc hj
      rcases T.sign c j hc hj hne with h | h
      · exact absurd h ncj
      · rw [this, h]; rfl
    · rw [T.diag k hk] at e; cases e
  have := hmax j hj
  omega
theorem says {n : Nat} {tb : Nat → Nat → Int} (T : Tourn n tb) (hn : 2 ≤ n) : Says n tb where
  odd := says_odd T (by omega)
  cyc := fun ns hp ho => by
    have h1 := ring_iff (n := n) (by omega) (fun a b => decide (tb a b = 1))
    have h2 := ring_strong T.arcs hn
    have h3 := strong_whole T hp ho
    have h := (h1.trans h2).trans h3
    cases hw : wholeTo ns (n - 1) with
    | true => exact decide_eq_true (h.mpr hw)
    | false => exact decide_eq_false fun q => by rw [h.mp q] at hw; cases hw
  king := says_king T
end Mine
open PySem PySem.W PySem.W.X PyProof.Rows
set_option Elab.async false
set_option maxRecDepth 100000
namespace Mine
theorem hz_keys (P : Params) : [0, 1, 2, 3, 4, 5, 6, 7, 8, 9, 10, 11, 12, 13, 14, 15, 16, 17, 18, 19, 20, 21, 22, 23, 24, 25, 26, 27, 28, 29, 30, 31, 32, 33, 34, 35, 36, 37, 38, 39, 40, 41, 42, 43, 44, 45, 46, 47, 48, 49, 50, 51, 52] = (hz.heap_91 P).map (·.1) := by kernel_rfl
theorem hz_tree (P : Params) : KT.of (hz.heap_91 P) = hz.ktop_143 P := by kernel_rfl
theorem in_up {K : Params → Frag} {w : World} {h h' : Heap} (x : InK K w h) (k : ∀ b o, h.get? b = some o → h'.get? b = some o) : (K w.params).In h' := Frag.In.keeps x k
theorem tree_up {K : Frag} {T : KT} {h h' : Heap} (e : KT.of K = T) (A : AllIn h K) (k : ∀ b o, h.get? b = some o → h'.get? b = some o) : KT.Holds h' 1 0 T := by
  subst e; exact KT.Holds.keeps k (holds_of A)
theorem ints_each : ∀ {vs : List Value} {ns : List Int}, IntsAre vs ns → ∀ v ∈ vs, ∃ i tk, v = Value.int i tk
  | _, _, .nil, _, hv => by cases hv
  | _, _, .cons i tk hi, v, hv => by
    rcases List.mem_cons.mp hv with rfl | hv
    · exact ⟨i, tk, rfl⟩
    · exact ints_each hi v hv
set_option maxHeartbeats 800000 in
theorem whole (M : ∀ (n : Nat) (tb : Nat → Nat → Int), Tourn n tb → 2 ≤ n → Says n tb) : PySem.Challenge.rw_ab6002_01.Holds := by
  refine hz ?_
  intro w s₀ s₁ mg mb G y fa o pm cd doc dV kV ho hd hcd hD hmg hg args vals as L hpre hlay hrd hwl hlo
  obtain ⟨ZA, ZI, ZN, ZT⟩ := z_facts hz_keys y
  have KX := in_up ZI L.keeps
  have ZH := tree_up (hz_tree w.params) ZA L.keeps
  refine Ground.open G ?_
  intro T B D TE TW
  wrow_args hpre hlay hrd hwl hlo
  obtain ⟨hat, hsz⟩ := script_at L
  rw [ZN] at hat hsz
  subst hat
  x_fa T KX hmg
  all_lens
  rename IntsAre _ _ => hi
  rename Heap.IsList _ _ _ => hL
  rename ¬ (_ < _) => h63
  clear ho hd hcd hD y ZA ZI hmg T B D TE TW G L
  obtain ⟨h, gs, d, t, os⟩ := s₁
  have hg : gs = #[] := hg
  subst hg
  have hlen := hi.length
  have hx := ints_each hi
  show wpAny (model PG w) callerA (call (.ref 52) [.ref 53]) _ _ _
  refine lawA hsz KX ZH hL hx (by omega) (fun tb T => M _ tb T (by omega)) fun h' t' K => ⟨.inl ⟨_, _, _, rfl, fun cls => ?_, .bool true, ?_, fun _ => ⟨List.nodup_nil, fun a h => nomatch h⟩⟩, K, rfl, .empty⟩
  · first | rfl | (show _ = _; wrow_none_raised) | wrow_none_raised
  · wrow_post
end Mine
theorem PySem.Challenge.cw_ab6002_01_holds : PySem.Challenge.rw_ab6002_01.Holds := by
  exact Mine.whole fun n tb T hn => Mine.says T hn
