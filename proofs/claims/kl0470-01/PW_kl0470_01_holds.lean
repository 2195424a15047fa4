import PyProof.Rows.All
import Wide.All
import OpenK.AllK
import Wide.FinOn
import PySem.Challenge.RW_kl0470_01
set_option Elab.async false
namespace Kl
section
open PySem PySem.W PySem.W.X PyProof.Rows PySem.W.ZRun PySem.Builtin.Re
set_option maxRecDepth 100000
/-- the i-th row of the text's top -/
noncomputable def row (i : Nat) : Stmt := (PySem.Challenge.pw_kl0470_01.main.body[i]?).getD (.Pass ⟨0, 0, 0, 0⟩)
noncomputable def bodyOf : Stmt → List Stmt
  | .FunctionDef _ _ b .. => b
  | _ => []
noncomputable def parsOf : Stmt → Arguments
  | .FunctionDef _ a .. => a
  | _ => { posonlyargs := [], args := [], vararg := none, kwonlyargs := [], kw_defaults := [], kwarg := none, defaults := [] }
noncomputable def scopeOf : Stmt → Scope
  | .FunctionDef _ _ _ _ _ _ s .. => s
  | _ => { kind := .function, names := [], isGenerator := false, isCoroutine := false, more := [] }
/-- the words of a pattern made at the top -/
noncomputable def natOf : Expr → Nat
  | .Constant (.int i) .. => i.toNat
  | _ => 0
noncomputable def codeOf : Stmt → Array Nat
  | .Assign _ (.Call _ (_ :: _ :: .List es _ :: _) _ _) _ => (es.map natOf).toArray
  | _ => #[]
noncomputable def escC : Array Nat := codeOf (row 7)
noncomputable def tokC : Array Nat := codeOf (row 6)
noncomputable def twC : Array Nat := codeOf (row 9)
noncomputable def tzC : Array Nat := codeOf (row 3)
/-- the exception's class and what it stands on -/
noncomputable def bmT : List Value := [.type "OSError", .type "Exception", .type "BaseException", .type "object"]
noncomputable def bmC : List Value := .ref 96 :: .ref 76 :: bmT
noncomputable abbrev cls115 : Obj := excClassObj (Str.ofString "SMTPSenderRefused") (Str.ofString "SMTPSenderRefused") 115 114 [.ref 96] bmC true [] [] false none none (some (.ref 99)) none (some (.str (Str.ofString "SMTPSenderRefused") 553)) (some (.str (Str.ofString "SMTPSenderRefused") 561)) (some (.bool true)) "OSError.__new__"
noncomputable abbrev cls96 : Obj := excClassObj (Str.ofString "SMTPResponseException") (Str.ofString "SMTPResponseException") 96 95 [.ref 76] (.ref 76 :: bmT) true [] [.ref 115] false none none (some (.ref 80)) none (some (.str (Str.ofString "SMTPResponseException") 525)) (some (.str (Str.ofString "SMTPResponseException") 533)) (some (.bool true)) "OSError.__new__"
noncomputable abbrev cls76 : Obj := excClassObj (Str.ofString "SMTPException") (Str.ofString "SMTPException") 76 75 [.type "OSError"] bmT true [] [.ref 96] false none none (some (.ref 67)) none (some (.str (Str.ofString "SMTPException") 505)) (some (.str (Str.ofString "SMTPException") 513)) (some (.bool true)) "OSError.__new__"
noncomputable def offN : List Str := [Str.ofString "args", Str.ofString "smtp_code", Str.ofString "smtp_error", Str.ofString "sender", Str.ofString "__setattr__", Str.ofString "__getattribute__", Str.ofString "__getattr__"]
noncomputable def classBody : Stmt → List Stmt
  | .ClassDef _ _ _ b .. => b
  | _ => []
/-- the exception's __init__ -/
noncomputable def initS : Stmt := ((classBody (row 13))[0]?).getD (.Pass ⟨0, 0, 0, 0⟩)
noncomputable def initQ : Str := Str.ofString "SMTPSenderRefused.__init__"
noncomputable def initFd (pm cd doc : Value) : FuncData := { Calls.docDef (Str.ofString "__init__") (parsOf initS) (bodyOf initS) (scopeOf initS) pm cd doc with qualname := initQ }
noncomputable def safeFd (pm cd doc : Value) : FuncData := { Calls.docDef (Str.ofString "_safe_string") (parsOf (row 16)) (bodyOf (row 16)) (scopeOf (row 16)) pm cd doc with defaults := .ref 125 }
/-- what lies where -/
noncomputable abbrev Lk := Nat → Option Obj
/-- a name of the top -/
noncomputable def gOf (t : Lk) (x : Str) : Option Value := match t 3 with
  | some o => (match o.data with | .dict es _ => nsFind es x | _ => none)
  | none => none
noncomputable def isDict : Option Obj → Bool
  | some o => (match o.data with | .dict _ _ => true | _ => false)
  | none => false
/-- the keys of a namespace are texts -/
noncomputable def keysStr (es : Array DictEntry) : Bool := es.toList.all fun e => match e.key with | .str _ _ => true | _ => false
noncomputable def offOk (m : Str → Option Value) : Bool := offN.all fun x => (m x).isNone
/-- a namespace that lies there -/
noncomputable def nsIn (t : Lk) (a : Nat) (P : (Str → Option Value) → Bool) : Bool := match t a with
  | some o => (match o.data with | .dict es _ => keysStr es && P (fun x => nsFind es x) | _ => false)
  | none => false
/-- a pattern's shape -/
noncomputable def patSh (t : Lk) (a : Nat) : Option (Value × Option Addr × List Value) := match t a with
  | some o => (match o.data with
    | .fields vs => (match vs.toList with
      | .str _ _ :: .int _ _ :: l => some (o.cls, o.dict, l)
      | _ => none)
    | _ => none)
  | none => none
/-- a code's words -/
noncomputable def wordsAt (t : Lk) (b : Nat) : Option (Array Nat) := match t b with
  | some o => (match o.data with | .seq vs _ => some ((vs.map reRawOf).map (·.toNat)) | _ => none)
  | none => none
/-- a code object's name -/
noncomputable def nameOf (t : Lk) (c : Nat) : Option Str := match t c with
  | some o => (match o.data with
    | .fields vs => (match vs[1]? with | some (Value.str q _) => some q | _ => none)
    | _ => none)
  | none => none
noncomputable def clsOf (t : Lk) (a : Nat) : Option Value := (t a).map (·.cls)
/-- the first zone's table -/
noncomputable def zonesObj (w : World) : Obj := { cls := .type "dict", data := .dict #[⟨PyData.keyHash w.params (Str.ofString "GMT"), .str (Str.ofString "GMT") 284, .none⟩, ⟨PyData.keyHash w.params (Str.ofString "UTC"), .str (Str.ofString "UTC") 285, .none⟩, ⟨PyData.keyHash w.params (Str.ofString "UT"), .str (Str.ofString "UT") 286, .none⟩, ⟨PyData.keyHash w.params (Str.ofString "Z"), .str (Str.ofString "Z") 287, .none⟩] 4 }
noncomputable abbrev Seen := Bool × List (Option Value) × List (Option (Value × Option Addr × List Value)) × List (Option (Array Nat)) × List (Option Str) × Option Value × List (Option Obj) × List Bool
noncomputable def topNames : List Str := ["len", "abs", "min", "max", "sum", "str", "int", "range", "UTC_ZONES", "TIMEZONE_RE", "offset_from_tz_string", "unmatched", "HEADER_TOKEN_RE", "HEADER_ESCAPE_RE", "_twin_re_1", "CRLF", "SMTPSenderRefused", "_fix_eols", "_safe_string", "_MOVE_COST", "_CASE_COST", "_substitution_cost", "_law_zone", "_law_row", "_law_pieces", "_law_reckon", "_law_ring", "law"].map Str.ofString
/-- what the head looks at -/
noncomputable def seenTop (t : Lk) : Seen := (isDict (t 3), topNames.map (gOf t), [37, 56, 61, 66].map (patSh t), [36, 55, 60, 65].map (wordsAt t), [111, 131].map (nameOf t), clsOf t 163, [115, 96, 76, 112, 132, 125, 32].map t,
  [nsIn t 114 (fun m => offOk m && decide (m (Str.ofString "__init__") = some (.ref 112))), nsIn t 95 offOk, nsIn t 75 offOk])
/-- and what it sees -/
noncomputable def goodTop (w : World) : Seen := (true, [none, none, none, none, none, none, none, none, some (.ref 32), some (.ref 37), some (.ref 44), some (.ref 51), some (.ref 56), some (.ref 61), some (.ref 66), some (.str ⟨#[13, 10]⟩ 503), some (.ref 115), some (.ref 124), some (.ref 132), some (.int 2 601), some (.int 1 603), some (.ref 139), some (.ref 146), some (.ref 151), some (.ref 156), some (.ref 163), some (.ref 168), some (.ref 173)],
  [some (.type "re.Pattern", none, [rawInt (3 : Nat), .none, .none, .ref 36, rawInt 0]), some (.type "re.Pattern", none, [rawInt (1 : Nat), .none, .none, .ref 55, rawInt 0]), some (.type "re.Pattern", none, [rawInt (1 : Nat), .none, .none, .ref 60, rawInt 0]), some (.type "re.Pattern", none, [rawInt (0 : Nat), .none, .none, .ref 65, rawInt 0])], [some tzC, some tokC, some escC, some twC], [some initQ, some (Str.ofString "_safe_string")], some (.type "function"),
  [some (cls115), some (cls96), some (cls76), some ({ cls := .type "function", data := .func (initFd (.str (Str.ofString "cpy313.smtplib") 459) (.ref 111) .none) }), some ({ cls := .type "function", data := .func (safeFd (.str (Str.ofString "cpy313.traceback") 590) (.ref 131) .none) }), some ({ cls := .type "tuple", data := .seq #[.type "str"] }), some (zonesObj w)], [true, true, true])
end
section
open PySem PySem.W PySem.W.X PyProof.Rows PySem.W.ZRun PySem.Builtin.Re
set_option maxRecDepth 100000
/-- the statements of the top that the head keeps in view -/
noncomputable def vw : Program := PySem.W.view PySem.Challenge.rw_kl0470_01.row.toRowW.prog [0, 2, 3, 4, 5, 6, 7, 9, 10, 11, 12, 13, 14, 17, 18, 19, 21, 22, 23, 24, 25, 26]
noncomputable def freeN : List PySem.Str := ["UTC_ZONES", "TIMEZONE_RE", "HEADER_TOKEN_RE", "HEADER_ESCAPE_RE", "_twin_re_1", "_safe_string"].map Str.ofString
noncomputable def xt (s : Shared) : Bool := xlAt vw [] s && recOk (RowW.records PySem.Challenge.rw_kl0470_01.row.toRowW) s
set_option maxHeartbeats 8000000 in
/-- the law is well said -/
theorem said : OpenLaw.wellSaid PySem.Challenge.rw_kl0470_01 = true := by kernel_rfl
/-- the head's one look, in a world -/
noncomputable def headOk (w : World) : Prop := (openEnds treeTable PySem.Challenge.rw_kl0470_01.row.toRowW.prog w 3196).map (fun s => (openSeen vw freeN (importedModules PySem.Challenge.rw_kl0470_01.row.toRowW.prog.main.body) xt true s, (s.heap.objs.size, seenTop s.heap.get?))) = some (openGood vw freeN, (174, goodTop w))
set_option maxHeartbeats 8000000 in
theorem head_f (w : World) : headOk (w.withFollow "special-get-raises" false) := by unfold headOk; kernel_rfl
set_option maxHeartbeats 8000000 in
theorem head_t (w : World) : headOk (w.withFollow "special-get-raises" true) := by unfold headOk; kernel_rfl
theorem left : LeftO PySem.Challenge.rw_kl0470_01.row.toRowW.prog vw freeN xt (fun s => (s.heap.objs.size, seenTop s.heap.get?)) (fun w => (174, goodTop w)) 3196 :=
  byRow2 "special-get-raises" (P := headOk) head_f head_t
end
section
open PySem PySem.W PyProof.Rows
/-- abstract values -/
inductive D where
  | none
  | bool (b : Bool)
  | int (i : Int)
  | str (s : Str)
  | tup (ds : List D)
  | lst (ds : List D)
  | mat (s : Str) (sp : List Int)
  | exc (c : Int) (x : Str) (p : Int) (raw : Option Addr)
  | cell (l : Addr)
  | fix (v : Value)

/-- old things stand, but for W -/
noncomputable def Stay (W : List Addr) (h h' : Heap) : Prop := ∀ b o, b ∉ W → h.get? b = some o → h'.get? b = some o
theorem Stay.refl {W : List Addr} {h : Heap} : Stay W h h := fun _ _ _ e => e
theorem Stay.trans {W : List Addr} {h₁ h₂ h₃ : Heap} (x : Stay W h₁ h₂) (y : Stay W h₂ h₃) : Stay W h₁ h₃ := fun b o n e => y b o n (x b o n e)
theorem Stay.of_keep {W : List Addr} {h h' : Heap} (x : ∀ b o, h.get? b = some o → h'.get? b = some o) : Stay W h h' := fun b o _ e => x b o e
theorem Stay.of_same {W : List Addr} {h h' : Heap} {a : Addr} (x : Heap.SameBut a h h') (ha : a ∈ W) : Stay W h h' := fun b o n e => x.extBut b o (fun e' => n (e' ▸ ha)) e
theorem Stay.sub {W W' : List Addr} {h h' : Heap} (x : Stay W h h') (hs : ∀ a ∈ W, a ∈ W') : Stay W' h h' := fun b o n e => x b o (fun m => n (hs b m)) e

/-- the exception's object: class C, its own dict -/
noncomputable def excFields : List Str := [Str.ofString "smtp_code", Str.ofString "smtp_error", Str.ofString "sender"]

mutual
inductive RV (h : Heap) (W : List Addr) : Value → D → Prop
  | none : RV h W .none .none
  | bool (b : Bool) : RV h W (.bool b) (.bool b)
  | int (i : Int) (t : Tok) : RV h W (.int i t) (.int i)
  | str (x : Str) (t : Tok) : RV h W (.str x t) (.str x)
  | tup {a : Addr} {vs : Array Value} {n : Nat} {ds : List D} : a ∉ W → h.get? a = some { cls := .type "tuple", data := .seq vs n } → RL h W vs.toList ds → RV h W (.ref a) (.tup ds)
  | lst {a : Addr} {vs : Array Value} {n : Nat} {ds : List D} : a ∉ W → h.get? a = some { cls := .type "list", data := .seq vs n } → RL h W vs.toList ds → RV h W (.ref a) (.lst ds)
  | mat {a b : Addr} {x : Str} {t : Tok} {p v₁ v₂ v₃ : Value} {n : Nat} {sp : List Int} : a ∉ W → b ∉ W →
      h.get? a = some { cls := .type "re.Match", data := .fields #[.str x t, p, v₁, v₂, v₃, .ref b] } →
      h.get? b = some { cls := .type "tuple", data := .seq (sp.map rawInt).toArray n } → RV h W (.ref a) (.mat x sp)
  | exc {a d : Addr} {o od : Obj} {es : Array DictEntry} {n : Nat} {c p : Int} {x : Str} {t₁ t₂ t₃ : Tok} {raw : Option Addr} : a ∉ W → d ∉ W → h.get? a = some o → o.cls = .ref 115 → o.dict = some d → (∃ fs : Array Value, o.data = .fields fs ∧ ∀ r, raw = some r → r = a ∧ fs[1]? = some .none) → h.get? d = some od → od.data = .dict es n → StrKeys es →
      nsFind es (Str.ofString "smtp_code") = some (.int c t₁) → nsFind es (Str.ofString "smtp_error") = some (.str x t₂) → nsFind es (Str.ofString "sender") = some (.int p t₃) → RV h W (.ref a) (.exc c x p raw)
  | cell (l : Addr) : RV h W (.ref l) (.cell l)
  | fix (v : Value) : RV h W v (.fix v)
inductive RL (h : Heap) (W : List Addr) : List Value → List D → Prop
  | nil : RL h W [] []
  | cons {v : Value} {vs : List Value} {d : D} {ds : List D} : RV h W v d → RL h W vs ds → RL h W (v :: vs) (d :: ds)
end
noncomputable def RV.Out (h : Heap) (W : List Addr) (v : Value) (d : D) : Prop :=
  D.casesOn (motive_1 := fun _ => Prop) d (v = .none) (fun b => v = .bool b) (fun i => ∃ t, v = .int i t) (fun x => ∃ t, v = .str x t)
    (fun ds => ∃ (a : Addr) (vs : Array Value) (n : Nat), a ∉ W ∧ h.get? a = some { cls := .type "tuple", data := .seq vs n } ∧ RL h W vs.toList ds ∧ v = .ref a)
    (fun ds => ∃ (a : Addr) (vs : Array Value) (n : Nat), a ∉ W ∧ h.get? a = some { cls := .type "list", data := .seq vs n } ∧ RL h W vs.toList ds ∧ v = .ref a)
    (fun x sp => ∃ (a b : Addr) (t : Tok) (p v₁ v₂ v₃ : Value) (n : Nat), a ∉ W ∧ b ∉ W ∧ h.get? a = some { cls := .type "re.Match", data := .fields #[.str x t, p, v₁, v₂, v₃, .ref b] } ∧
      h.get? b = some { cls := .type "tuple", data := .seq (sp.map rawInt).toArray n } ∧ v = .ref a)
    (fun c x p raw => ∃ (a d : Addr) (o od : Obj) (es : Array DictEntry) (n : Nat) (t₁ t₂ t₃ : Tok), a ∉ W ∧ d ∉ W ∧ h.get? a = some o ∧ o.cls = .ref 115 ∧ o.dict = some d ∧ (∃ fs : Array Value, o.data = .fields fs ∧ ∀ r, raw = some r → r = a ∧ fs[1]? = some .none) ∧ h.get? d = some od ∧ od.data = .dict es n ∧ StrKeys es ∧
      nsFind es (Str.ofString "smtp_code") = some (.int c t₁) ∧ nsFind es (Str.ofString "smtp_error") = some (.str x t₂) ∧ nsFind es (Str.ofString "sender") = some (.int p t₃) ∧ v = .ref a) (fun l => v = .ref l) (fun u => v = u)
theorem RV.out {h : Heap} {W : List Addr} {v : Value} {d : D} (r : RV h W v d) : RV.Out h W v d :=
  RV.casesOn (motive_1 := fun v d _ => RV.Out h W v d) r rfl (fun _ => rfl) (fun _ t => ⟨t, rfl⟩) (fun _ t => ⟨t, rfl⟩) (fun ha e r => ⟨_, _, _, ha, e, r, rfl⟩) (fun ha e r => ⟨_, _, _, ha, e, r, rfl⟩)
    (fun ha hb e f => ⟨_, _, _, _, _, _, _, _, ha, hb, e, f, rfl⟩) (fun na nd e c d f e' f' k x y z => ⟨_, _, _, _, _, _, _, _, _, na, nd, e, c, d, f, e', f', k, x, y, z, rfl⟩) (fun _ => rfl) (fun _ => rfl)
theorem RV.e_none {h : Heap} {W : List Addr} {motive : ∀ v, RV h W v .none → Prop} (none : motive .none .none) {v : Value} (r : RV h W v .none) : motive v r := by have e : v = .none := r.out; subst e; exact none
theorem RV.e_bool {h : Heap} {W : List Addr} {b : Bool} {motive : ∀ v, RV h W v (.bool b) → Prop} (bool : motive (.bool b) (.bool b)) {v : Value} (r : RV h W v (.bool b)) : motive v r := by have e : v = .bool b := r.out; subst e; exact bool
theorem RV.e_int {h : Heap} {W : List Addr} {i : Int} {motive : ∀ v, RV h W v (.int i) → Prop} (int : ∀ t, motive (.int i t) (.int i t)) {v : Value} (r : RV h W v (.int i)) : motive v r := r.out.elim fun t e => by subst e; exact int t
theorem RV.e_str {h : Heap} {W : List Addr} {x : Str} {motive : ∀ v, RV h W v (.str x) → Prop} (str : ∀ t, motive (.str x t) (.str x t)) {v : Value} (r : RV h W v (.str x)) : motive v r := r.out.elim fun t e => by subst e; exact str t
theorem RV.e_tup {h : Heap} {W : List Addr} {ds : List D} {motive : ∀ v, RV h W v (.tup ds) → Prop} (tup : ∀ {a : Addr} {vs : Array Value} {n : Nat} (ha : a ∉ W) (e : h.get? a = some { cls := .type "tuple", data := .seq vs n }) (r : RL h W vs.toList ds), motive (.ref a) (.tup ha e r)) {v : Value} (r : RV h W v (.tup ds)) : motive v r := by obtain ⟨_, _, _, ha, e, q, f⟩ := r.out; subst f; exact tup ha e q
theorem RV.e_lst {h : Heap} {W : List Addr} {ds : List D} {motive : ∀ v, RV h W v (.lst ds) → Prop} (lst : ∀ {a : Addr} {vs : Array Value} {n : Nat} (ha : a ∉ W) (e : h.get? a = some { cls := .type "list", data := .seq vs n }) (r : RL h W vs.toList ds), motive (.ref a) (.lst ha e r)) {v : Value} (r : RV h W v (.lst ds)) : motive v r := by obtain ⟨_, _, _, ha, e, q, f⟩ := r.out; subst f; exact lst ha e q
theorem RV.e_mat {h : Heap} {W : List Addr} {x : Str} {sp : List Int} {motive : ∀ v, RV h W v (.mat x sp) → Prop} (mat : ∀ {a b : Addr} {t : Tok} {p v₁ v₂ v₃ : Value} {n : Nat} (ha : a ∉ W) (hb : b ∉ W) (e : h.get? a = some { cls := .type "re.Match", data := .fields #[.str x t, p, v₁, v₂, v₃, .ref b] })
    (f : h.get? b = some { cls := .type "tuple", data := .seq (sp.map rawInt).toArray n }), motive (.ref a) (.mat ha hb e f)) {v : Value} (r : RV h W v (.mat x sp)) : motive v r := by obtain ⟨_, _, _, _, _, _, _, _, ha, hb, e, f, g⟩ := r.out; subst g; exact mat ha hb e f
theorem RV.e_fix {h : Heap} {W : List Addr} {u : Value} {motive : ∀ v, RV h W v (.fix u) → Prop} (fix : motive u (.fix u)) {v : Value} (r : RV h W v (.fix u)) : motive v r := by have e : v = u := r.out; subst e; exact fix
theorem RV.e_cell {h : Heap} {W : List Addr} {l : Addr} {motive : ∀ v, RV h W v (.cell l) → Prop} (cell : motive (.ref l) (.cell l)) {v : Value} (r : RV h W v (.cell l)) : motive v r := by have e : v = .ref l := r.out; subst e; exact cell
theorem RV.e_exc {h : Heap} {W : List Addr} {v : Value} {c p : Int} {x : Str} {raw : Option Addr} {P : Prop} (r : RV h W v (.exc c x p raw)) (K : ∀ (a d : Addr) (o od : Obj) (es : Array DictEntry) (n : Nat) (t₁ t₂ t₃ : Tok) (fs : Array Value), a ∉ W → d ∉ W → h.get? a = some o → o.cls = .ref 115 → o.dict = some d → o.data = .fields fs → (∀ r, raw = some r → r = a ∧ fs[1]? = some .none) → h.get? d = some od → od.data = .dict es n → StrKeys es →
    nsFind es (Str.ofString "smtp_code") = some (.int c t₁) → nsFind es (Str.ofString "smtp_error") = some (.str x t₂) → nsFind es (Str.ofString "sender") = some (.int p t₃) → v = .ref a → P) : P := by
  obtain ⟨a, d, o, od, es, n, t₁, t₂, t₃, n1, n2, e1, e2, e3, ⟨fs, f1, f2⟩, e5, e6, e7, e8, e9, e10, e⟩ := r.out
  exact K a d o od es n t₁ t₂ t₃ fs n1 n2 e1 e2 e3 f1 f2 e5 e6 e7 e8 e9 e10 e
noncomputable def RL.Out (h : Heap) (W : List Addr) (vs : List Value) (ds : List D) : Prop :=
  List.casesOn (motive := fun _ => Prop) ds (vs = []) (fun d ds => ∃ v ws, RV h W v d ∧ RL h W ws ds ∧ vs = v :: ws)
theorem RL.out {h : Heap} {W : List Addr} {vs : List Value} {ds : List D} (r : RL h W vs ds) : RL.Out h W vs ds :=
  RL.casesOn (motive_2 := fun vs ds _ => RL.Out h W vs ds) r rfl (fun a b => ⟨_, _, a, b, rfl⟩)
theorem RL.e_nil {h : Heap} {W : List Addr} {motive : ∀ vs, RL h W vs [] → Prop} (nil : motive [] .nil) {vs : List Value} (r : RL h W vs []) : motive vs r := by have e : vs = [] := r.out; subst e; exact nil
theorem RL.e_cons {h : Heap} {W : List Addr} {d : D} {ds : List D} {motive : ∀ vs, RL h W vs (d :: ds) → Prop} (cons : ∀ {v : Value} {vs : List Value} (a : RV h W v d) (b : RL h W vs ds), motive (v :: vs) (.cons a b)) {vs : List Value} (r : RL h W vs (d :: ds)) : motive vs r := by obtain ⟨_, _, a, b, e⟩ := r.out; subst e; exact cons a b
theorem RV.stay {h h' : Heap} {W : List Addr} (k : Stay W h h') {v : Value} {d : D} (r : RV h W v d) : RV h' W v d :=
  RV.rec (motive_1 := fun v d _ => RV h' W v d) (motive_2 := fun vs ds _ => RL h' W vs ds) .none .bool .int .str (fun ha e _ q => .tup ha (k _ _ ha e) q) (fun ha e _ q => .lst ha (k _ _ ha e) q) (fun ha hb e f => .mat ha hb (k _ _ ha e) (k _ _ hb f)) (fun ha hd e q f u e' f' sk x y z => .exc ha hd (k _ _ ha e) q f u (k _ _ hd e') f' sk x y z) .cell .fix .nil (fun _ _ a b => .cons a b) r
theorem RL.stay {h h' : Heap} {W : List Addr} (k : Stay W h h') {vs : List Value} {ds : List D} (r : RL h W vs ds) : RL h' W vs ds :=
  RL.rec (motive_1 := fun v d _ => RV h' W v d) (motive_2 := fun vs ds _ => RL h' W vs ds) .none .bool .int .str (fun ha e _ q => .tup ha (k _ _ ha e) q) (fun ha e _ q => .lst ha (k _ _ ha e) q) (fun ha hb e f => .mat ha hb (k _ _ ha e) (k _ _ hb f)) (fun ha hd e q f u e' f' sk x y z => .exc ha hd (k _ _ ha e) q f u (k _ _ hd e') f' sk x y z) .cell .fix .nil (fun _ _ a b => .cons a b) r
theorem RV.less {h : Heap} {W W' : List Addr} (k : ∀ a o, a ∈ W' → h.get? a = some o → a ∈ W) {v : Value} {d : D} (r : RV h W v d) : RV h W' v d :=
  RV.rec (motive_1 := fun v d _ => RV h W' v d) (motive_2 := fun vs ds _ => RL h W' vs ds) .none .bool .int .str (fun ha e _ q => .tup (fun m => ha (k _ _ m e)) e q) (fun ha e _ q => .lst (fun m => ha (k _ _ m e)) e q) (fun ha hb e f => .mat (fun m => ha (k _ _ m e)) (fun m => hb (k _ _ m f)) e f) (fun ha hd e q f u e' f' sk x y z => .exc (fun m => ha (k _ _ m e)) (fun m => hd (k _ _ m e')) e q f u e' f' sk x y z) .cell .fix .nil (fun _ _ a b => .cons a b) r
theorem RL.less {h : Heap} {W W' : List Addr} (k : ∀ a o, a ∈ W' → h.get? a = some o → a ∈ W) {vs : List Value} {ds : List D} (r : RL h W vs ds) : RL h W' vs ds :=
  RL.rec (motive_1 := fun v d _ => RV h W' v d) (motive_2 := fun vs ds _ => RL h W' vs ds) .none .bool .int .str (fun ha e _ q => .tup (fun m => ha (k _ _ m e)) e q) (fun ha e _ q => .lst (fun m => ha (k _ _ m e)) e q) (fun ha hb e f => .mat (fun m => ha (k _ _ m e)) (fun m => hb (k _ _ m f)) e f) (fun ha hd e q f u e' f' sk x y z => .exc (fun m => ha (k _ _ m e)) (fun m => hd (k _ _ m e')) e q f u e' f' sk x y z) .cell .fix .nil (fun _ _ a b => .cons a b) r
section
variable {h h' : Heap} {W : List Addr} {v : Value} {d : D} {vs ws : List Value} {ds es : List D}
theorem RV.keep (k : ∀ b o, h.get? b = some o → h'.get? b = some o) (r : RV h W v d) : RV h' W v d := r.stay (.of_keep k)
theorem RL.keep (k : ∀ b o, h.get? b = some o → h'.get? b = some o) (r : RL h W vs ds) : RL h' W vs ds := r.stay (.of_keep k)
theorem RL.length (r : RL h W vs ds) : vs.length = ds.length := by
  induction ds generalizing vs with
  | nil => cases r using RL.e_nil; rfl
  | cons d ds ih => cases r using RL.e_cons with | cons _ r => exact congrArg (· + 1) (ih r)
theorem RL.append (r : RL h W vs ds) (q : RL h W ws es) : RL h W (vs ++ ws) (ds ++ es) := by
  induction ds generalizing vs with
  | nil => cases r using RL.e_nil; exact q
  | cons d ds ih => cases r using RL.e_cons with | cons a r => exact .cons a (ih r)
theorem RL.get (r : RL h W vs ds) {k : Nat} {x : D} (hx : ds[k]? = some x) : ∃ v, vs[k]? = some v ∧ RV h W v x := by
  induction ds generalizing vs k with
  | nil => exact absurd (List.getElem?_nil.symm.trans hx) (Option.some_ne_none _).symm
  | cons d ds ih =>
    cases r using RL.e_cons with
    | cons a r =>
      cases k with
      | zero => exact ⟨_, rfl, Option.some.inj hx ▸ a⟩
      | succ k => exact ih r hx
theorem RL.take (r : RL h W vs ds) (k : Nat) : RL h W (vs.take k) (ds.take k) := by
  induction ds generalizing vs k with
  | nil => cases r using RL.e_nil; cases k <;> exact .nil
  | cons d ds ih =>
    cases r using RL.e_cons with
    | cons a r => cases k with
      | zero => exact .nil
      | succ k => exact .cons a (ih r k)
theorem RL.drop (r : RL h W vs ds) (k : Nat) : RL h W (vs.drop k) (ds.drop k) := by
  induction ds generalizing vs k with
  | nil => cases r using RL.e_nil; cases k <;> exact .nil
  | cons d ds ih =>
    cases r using RL.e_cons with
    | cons a r => cases k with
      | zero => exact .cons a r
      | succ k => exact ih r k
theorem RL.set (r : RL h W vs ds) (k : Nat) {v : Value} {d : D} (q : RV h W v d) : RL h W (vs.set k v) (ds.set k d) := by
  induction ds generalizing vs k with
  | nil => cases r using RL.e_nil; exact .nil
  | cons d ds ih =>
    cases r using RL.e_cons with
    | cons a r => cases k with
      | zero => exact .cons q r
      | succ k => exact .cons a (ih r k)
theorem RL.one (q : RV h W v d) : RL h W [v] [d] := .cons q .nil
end
end
section
open PySem PySem.W PyProof.Rows
/-- room around -/
structure Ok (n : Nat) (A : Around) : Prop where
  handled : A.handled = none
  depth : A.depth + n ≤ 900
  units : A.units + 100 * n ≤ 9000
theorem Ok.deeper {n : Nat} {A : Around} {env : Env} (x : Ok (n + 1) A) : Ok n (A.deeper env) := ⟨x.handled, by have := x.depth; show A.depth + 1 + n ≤ 900; omega, by have := x.units; show A.units + 3 + 100 * n ≤ 9000; omega⟩
theorem Ok.in1 {n : Nat} {A : Around} (x : Ok (n + 1) A) : Ok n A.in1 := ⟨x.handled, by have := x.depth; show A.depth + n ≤ 900; omega, by have := x.units; show A.units + 1 + 100 * n ≤ 9000; omega⟩
theorem Ok.less {n m : Nat} {A : Around} (x : Ok n A) (h : m ≤ n) : Ok m A := ⟨x.handled, by have := x.depth; omega, by have := x.units; omega⟩
theorem Ok.room {n : Nat} {A : Around} (x : Ok n A) : A.depth < recursionLimit := by have := x.depth; show A.depth < 1000; omega
theorem Ok.c {n : Nat} {A : Around} (x : Ok n A) : A.units + 64 < cLine := by have := x.units; show A.units + 64 < 9900; omega

noncomputable def NameIs (env : Env) (W : List Addr) (h : Heap) (x : Str) (d : D) : Prop :=
  (env.kindOf x = some .local ∧ ∃ m v, h.Ns env.locals m ∧ m x = some v ∧ RV h W v d) ∨
  ((env.kindOf x = some .cell ∨ env.kindOf x = some .free) ∧ ∃ c v, env.cells.lookup x = some c ∧ h.IsCell c (some v) ∧ RV h W v d)

/-- where an expression stands -/
structure Cx where
  prog : Program
  w : World
  A : Around
  g : Heap
  W : List Addr
  V : List Addr
  env : Env
/-- what a value's objects keep off -/
noncomputable def Cx.X (c : Cx) : List Addr := c.W ++ c.V

structure Sit (c : Cx) (L : List (Str × D)) (O : List (Addr × List D)) (h : Heap) : Prop where
  keep : ∀ b o, c.g.get? b = some o → h.get? b = some o
  kind : c.env.scope.kind = .function
  gl : c.env.globals = mainGlobals
  bl : c.env.builtins = builtinsNs
  ns : ∃ m, h.Ns c.env.locals m
  wf : ∀ a ∈ c.X, ∃ o, h.get? a = some o
  new : ∀ a ∈ c.W, c.g.get? a = none
  wl : c.env.locals ∈ c.W
  wc : ∀ x a, c.env.cells.lookup x = some a → a ∈ c.W ∧ ∃ v, h.IsCell a v
  inj : ∀ x y a, c.env.cells.lookup x = some a → c.env.cells.lookup y = some a → x = y
  names : ∀ x d, L.lookup x = some d → NameIs c.env c.X h x d
  nd : (O.map (·.1)).Nodup
  own : ∀ p ∈ O, p.1 ∈ c.W ∧ ∃ items n, h.get? p.1 = some { cls := .type "list", data := .seq items n } ∧ RL h c.X items.toList p.2

section
variable {c : Cx} {L : List (Str × D)} {O : List (Addr × List D)} {h h' : Heap} {W : List Addr} {env : Env}
theorem NameIs.keep {x : Str} {d : D} (k : ∀ b o, h.get? b = some o → h'.get? b = some o) (n : NameIs env W h x d) : NameIs env W h' x d := by
  rcases n with ⟨a, m, v, b, c, r⟩ | ⟨a, c, v, b, ⟨o, ho, hd⟩, r⟩
  · exact .inl ⟨a, m, v, b.keeps k, c, r.keep k⟩
  · exact .inr ⟨a, c, v, b, ⟨o, k _ _ ho, hd⟩, r.keep k⟩
theorem size_keep (k : ∀ b o, h.get? b = some o → h'.get? b = some o) {a : Addr} {o : Obj} (e : h.get? a = some o) : a < h'.objs.size := Heap.lt_size (k _ _ e)
theorem Sit.grow (S : Sit c L O h) (k : ∀ b o, h.get? b = some o → h'.get? b = some o) : Sit c L O h' :=
  { keep := fun b o e => k b o (S.keep b o e)
    kind := S.kind, gl := S.gl, bl := S.bl
    ns := let ⟨m, hm⟩ := S.ns; ⟨m, hm.keeps k⟩
    wf := fun a ha => let ⟨o, ho⟩ := S.wf a ha; ⟨o, k _ _ ho⟩
    new := S.new
    wl := S.wl
    nd := S.nd
    wc := fun x a e => let ⟨p, v, o, ho, hd⟩ := S.wc x a e; ⟨p, v, o, k _ _ ho, hd⟩
    inj := S.inj
    names := fun x d e => (S.names x d e).keep k
    own := fun p hp => let ⟨a, i, n, b, r⟩ := S.own p hp; ⟨a, i, n, k _ _ b, r.keep k⟩ }
theorem names_nil : ∀ x d, List.lookup x ([] : List (Str × D)) = some d → NameIs env W h x d := fun _ _ e => absurd e (Option.some_ne_none _).symm
theorem names_cons {y : Str} {e : D} (a : NameIs env W h y e) (b : ∀ x d, L.lookup x = some d → NameIs env W h x d) : ∀ x d, ((y, e) :: L).lookup x = some d → NameIs env W h x d := fun x d q => by
  rw [List.lookup_cons] at q
  split at q
  · rename_i z
    cases q
    exact (eq_of_beq z).symm ▸ a
  · exact b x d q
theorem Sit.own_at {P : Prop} {a : Addr} {ds : List D} (S : Sit c L O h) (m : (a, ds) ∈ O) (k : ∀ items n, a ∈ c.W → h.get? a = some { cls := .type "list", data := .seq items n } → RL h c.X items.toList ds → P) : P :=
  (S.own _ m).2.elim fun i z => z.elim fun n z => k i n (S.own _ m).1 z.1 z.2
theorem ns_at {P : Prop} {a : Addr} (x : ∃ m, h.Ns a m) (k : ∀ o es n, h.get? a = some o → o.data = .dict es n → P) : P :=
  x.elim fun _ z => z.elim fun o z => z.elim fun es z => z.elim fun n z => k o es n z.1 z.2.1
end

/-- new things alone, and no less room -/
noncomputable def Kp (s s' : Shared) : Prop := ∃ h' tk, s' = { s with heap := h', toks := tk } ∧ ∀ b o, s.heap.get? b = some o → h'.get? b = some o
section
variable {s s₁ s₂ s₃ : Shared}
theorem Kp.refl : Kp s s := ⟨_, _, rfl, fun _ _ e => e⟩
theorem Kp.toks {t : Nat} : Kp s { s with toks := t } := ⟨_, _, rfl, fun _ _ e => e⟩
theorem Kp.trans (x : Kp s₁ s₂) (y : Kp s₂ s₃) : Kp s₁ s₃ := by
  obtain ⟨h, t, rfl, k⟩ := x
  obtain ⟨h', t', rfl, k'⟩ := y
  exact ⟨h', t', rfl, fun b o e => k' b o (k b o e)⟩
theorem Kp.push {o : Obj} : Kp s { s with heap := s.heap.push o } := ⟨_, _, rfl, fun _ _ e => Heap.get?_push_of_some _ e⟩
theorem Kp.keep (x : Kp s₁ s₂) : ∀ b o, s₁.heap.get? b = some o → s₂.heap.get? b = some o := by obtain ⟨h, t, rfl, k⟩ := x; exact k
theorem Kp.of_keeps (x : Keeps s₁ s₂) : Kp s₁ s₂ := x
theorem Kp.sit {c : Cx} {L : List (Str × D)} {O : List (Addr × List D)} (x : Kp s₁ s₂) (S : Sit c L O s₁.heap) : Sit c L O s₂.heap := S.grow x.keep
theorem fresh_not {h : Heap} {W : List Addr} (wf : ∀ a ∈ W, ∃ o, h.get? a = some o) : h.objs.size ∉ W := fun m => let ⟨_, ho⟩ := wf _ m; Nat.lt_irrefl _ (Heap.lt_size ho)
theorem Kp.rv {W : List Addr} {v : Value} {d : D} (x : Kp s₁ s₂) (r : RV s₁.heap W v d) : RV s₂.heap W v d := r.keep x.keep
theorem Kp.rl {W : List Addr} {v : List Value} {d : List D} (x : Kp s₁ s₂) (r : RL s₁.heap W v d) : RL s₂.heap W v d := r.keep x.keep
end

section
variable {c : Cx} {L : List (Str × D)} {O : List (Addr × List D)} {prog : Program} {w : World} {A : Around} {g : Heap} {W : List Addr}

/-- the expression stands for d -/
structure Ev (c : Cx) (L : List (Str × D)) (O : List (Addr × List D)) (e : Expr) (d : D) : Prop where
  run : ∀ s E, Sit c L O s.heap → wpAny (model c.prog c.w) c.A (eval e c.env) (fun v s' => Kp s s' ∧ RV s'.heap c.X v d) E s

theorem Ev.name {x : Str} {d : D} {pos : Pos} (hl : L.lookup x = some d) (hd : (x == ("__debug__" : Str)) = false := by decide +kernel) (hc : (x == ("__classdict__" : Str)) = false := by decide +kernel) : Ev c L O (.Name x pos) d := by
  constructor; intro s E S
  rcases S.names x d hl with ⟨a, m, v, b, c, r⟩ | ⟨a | a, c, v, b, hcl, r⟩
  · exact wpAny_Name (wpAny_loadName_local S.kind a b c ⟨.refl, r⟩) hd
  · exact wpAny_Name (wpAny_loadName_cell S.kind a b hcl ⟨.refl, r⟩) hd
  · exact wpAny_Name (wpAny_loadName_free S.kind a b hcl ⟨.refl, r⟩ hc) hd

/-- a name of the top, or of the builtins -/
noncomputable def Gv (g : Heap) (x : Str) (v : Value) : Prop := (∃ mg, g.Ns mainGlobals mg ∧ mg x = some v) ∨ ∃ mg mb, g.Ns mainGlobals mg ∧ mg x = none ∧ g.Ns builtinsNs mb ∧ mb x = some v

theorem Ev.glob {x : Str} {v : Value} {pos : Pos} (hx : c.env.kindOf x = some .globalImplicit) (hv : Gv c.g x v) (hd : (x == ("__debug__" : Str)) = false := by decide +kernel) : Ev c L O (.Name x pos) (.fix v) := by
  constructor; intro s E S
  rcases hv with ⟨mg, hg, e⟩ | ⟨mg, mb, hg, e, hb, e'⟩
  · exact Calls.Name_function_global S.kind hx (Calls.loadGlobal_global (by rw [S.gl]; exact hg.keeps S.keep) e ⟨.refl, .fix v⟩) hd
  · exact Calls.Name_function_global S.kind hx (Calls.loadGlobal_builtin (by rw [S.gl]; exact hg.keeps S.keep) e (by rw [S.bl]; exact hb.keeps S.keep) e' ⟨.refl, .fix v⟩) hd

theorem Ev.int {i : Int} {k : Nat} {pos : Pos} : Ev c L O (.Constant (.int i) k pos) (.int i) := ⟨fun _ _ _ => wpAny_Constant_int ⟨.toks, .int _ _⟩⟩
theorem Ev.str {i : Str} {k : Nat} {pos : Pos} : Ev c L O (.Constant (.str i) k pos) (.str i) := ⟨fun _ _ _ => Calls.Constant_str ⟨.toks, .str _ _⟩⟩
theorem Ev.none {k : Nat} {pos : Pos} : Ev c L O (.Constant .none k pos) .none := ⟨fun _ _ _ => wpAny_Constant_none ⟨.refl, .none⟩⟩
theorem Ev.bool {b : Bool} {k : Nat} {pos : Pos} : Ev c L O (.Constant (.bool b) k pos) (.bool b) := ⟨fun _ _ _ => wpAny_Constant_bool ⟨.refl, .bool b⟩⟩

/-- two operands, an operation on their values -/
structure BinIs (c : Cx) (op : Operator) (a b d : D) : Prop where
  run : ∀ s E va vb, RV s.heap c.X va a → RV s.heap c.X vb b → (∀ x ∈ c.X, ∃ o, s.heap.get? x = some o) → wpAny (model c.prog c.w) c.A (binaryOp op va vb) (fun v s' => Kp s s' ∧ RV s'.heap c.X v d) E s
theorem Ev.bin {l r : Expr} {op : Operator} {pos : Pos} {a b d : D} (hl : Ev c L O l a) (hr : Ev c L O r b) (ho : BinIs c op a b d) : Ev c L O (.BinOp l op r pos) d := by
  constructor; intro s E S
  refine wpAny_BinOp (wpAny_mono (hl.run s E S) (fun va s₁ h₁ => ?_) fun _ _ e => e)
  refine wpAny_mono (hr.run s₁ E (h₁.1.sit S)) (fun vb s₂ h₂ => ?_) fun _ _ e => e
  exact wpAny_mono (ho.run s₂ E va vb (h₂.1.rv h₁.2) h₂.2 ((h₁.1.trans h₂.1).sit S).wf) (fun v s₃ h₃ => ⟨(h₁.1.trans h₂.1).trans h₃.1, h₃.2⟩) fun _ _ e => e

theorem Ev.un {x : Expr} {op : UnaryOp} {pos : Pos} {a d : D} (hx : Ev c L O x a)
    (ho : ∀ s E va, RV s.heap c.X va a → wpAny (model c.prog c.w) c.A (unaryOp op va) (fun v s' => Kp s s' ∧ RV s'.heap c.X v d) E s) : Ev c L O (.UnaryOp op x pos) d := by
  constructor; intro s E S
  refine wpAny_UnaryOp (wpAny_mono (hx.run s E S) (fun va s₁ h₁ => ?_) fun _ _ e => e)
  exact wpAny_mono (ho s₁ E va h₁.2) (fun v s₃ h₃ => ⟨h₁.1.trans h₃.1, h₃.2⟩) fun _ _ e => e

/-- the words of a call -/
structure EvL (c : Cx) (L : List (Str × D)) (O : List (Addr × List D)) (es : List (Bool × Sem Value)) (ds : List D) : Prop where
  run : ∀ s E, Sit c L O s.heap → wpAny (model c.prog c.w) c.A (spliced es) (fun vs s' => Kp s s' ∧ RL s'.heap c.X vs ds) E s
theorem EvL.nil : EvL c L O [] [] := ⟨fun _ _ _ => Calls.spliced_nil ⟨.refl, .nil⟩⟩
theorem EvL.cons {e : Expr} {es : List (Bool × Sem Value)} {d : D} {ds : List D} (he : Ev c L O e d) (hs : EvL c L O es ds) : EvL c L O ((false, eval e c.env) :: es) (d :: ds) := by
  constructor; intro s E S
  refine Calls.spliced_cons (wpAny_mono (he.run s E S) (fun v s₁ h₁ => ?_) fun _ _ e => e)
  exact wpAny_mono (hs.run s₁ E (h₁.1.sit S)) (fun vs s₂ h₂ => ⟨h₁.1.trans h₂.1, .cons (h₂.1.rv h₁.2) h₂.2⟩) fun _ _ e => e

/-- what a call of f does -/
structure Con (prog : Program) (w : World) (A : Around) (g : Heap) (W : List Addr) (f : Value) (ds : List D) (d : D) : Prop where
  run : ∀ s E vs, (∀ b o, g.get? b = some o → s.heap.get? b = some o) → (∀ a ∈ W, ∃ o, s.heap.get? a = some o) → RL s.heap W vs ds → wpAny (model prog w) A (call f vs []) (fun v s' => Kp s s' ∧ RV s'.heap W v d) E s

/-- what may be called -/
noncomputable def Fun (g : Heap) (f : Value) : Prop := (∃ id, f = .builtin id) ∨ (∃ T, f = .type T) ∨ ∃ a o fd, f = .ref a ∧ g.get? a = some o ∧ o.data = .func fd

theorem Ev.callv {f : Value} {x : Str} {p pos : Pos} {e : Expr} {es : List Expr} {d d₁ : D} {ds : List D} (hf : Ev c L O (.Name x p) (.fix f)) (hfun : Fun c.g f)
    (hse : backTo pos (starEach (e :: es) c.env) = (false, eval e c.env) :: backTo pos (starEach es c.env)) (ha : Ev c L O e d₁) (has : EvL c L O (backTo pos (starEach es c.env)) ds)
    (hplain : (backTo pos (starEach es c.env)).any (·.1) = false)
    (hc : Con c.prog c.w c.A c.g c.X f (d₁ :: ds) d) : Ev c L O (.Call (.Name x p) (e :: es) [] pos) d := by
  constructor; intro s E S
  refine wpAny_Call_NameR (wpAny_mono (hf.run s E S) (fun fv s₁ h₁ => ?_) fun _ _ e => e)
  obtain ⟨k₁, r₁⟩ := h₁
  have hfv : fv = f := by (first | cases r₁ using RV.e_fix | cases r₁ using RV.e_cell | cases r₁ using RV.e_none | cases r₁ using RV.e_int | cases r₁ using RV.e_str | cases r₁ using RV.e_lst | cases r₁ using RV.e_tup | cases r₁ using RV.e_mat | cases r₁ using RV.e_bool | cases r₁ using RL.e_nil); rfl
  subst hfv
  rw [hse]
  have key : ∀ (Q : Value → Shared → Prop), (∀ v s', Kp s s' → RV s'.heap c.X v d → Q v s') → wpAny (model c.prog c.w) c.A (evalArgs fv true ((false, eval e c.env) :: backTo pos (starEach es c.env)) [])
      (fun a s₂ => ((∀ b o, c.g.get? b = some o → s₂.heap.get? b = some o) ∧ wpAny (model c.prog c.w) c.A (call fv ([] ++ a.pos) a.kw) Q E s₂)) E s₁ := by
    intro Q hQ
    refine Calls.evalArgs_plain (wpAny_mono ((EvL.cons ha has).run s₁ E (k₁.sit S)) (fun vs s₂ h₂ => ?_) fun _ _ e => e)
    have S₂ := (k₁.trans h₂.1).sit S
    exact ⟨S₂.keep, wpAny_mono (hc.run s₂ E vs S₂.keep S₂.wf h₂.2) (fun v s₃ h₃ => hQ v s₃ ((k₁.trans h₂.1).trans h₃.1) h₃.2) fun _ _ e => e⟩
  have hany : (((false, eval e c.env) :: backTo pos (starEach es c.env)).any (·.1)) = false := by rw [List.any_cons, hplain]; rfl
  rcases hfun with ⟨id, rfl⟩ | ⟨T, rfl⟩ | ⟨a, o, fd, rfl, ho, hd⟩
  · exact Calls.callWith_builtin hany (wpAny_mono (key _ fun v s' k r => ⟨k, r⟩) (fun a s₂ h₂ => h₂.2) fun _ _ e => e)
  · exact PyProof.Rows.callWith_type hany (wpAny_mono (key _ fun v s' k r => ⟨k, r⟩) (fun a s₂ h₂ => h₂.2) fun _ _ e => e)
  · exact Calls.callWith_function (o := o) (fd := fd) (wpAny_mono (key _ fun v s' k r => ⟨k, r⟩) (fun a s₂ h₂ => ⟨⟨h₂.1 _ _ ho, hd⟩, h₂.2⟩) fun _ _ e => e)

/-- displays -/
theorem Ev.list {es : List Expr} {pos : Pos} {ds : List D} (h : EvL c L O (backTo pos (starEach es c.env)) ds) (hz : ds.length ≤ sizeLine := by decide) : Ev c L O (.List es pos) (.lst ds) := by
  constructor; intro s E S
  refine wpAny_List_spliced (wpAny_mono (h.run s E S) (fun vs s₁ h₁ => ⟨by rw [h₁.2.length]; exact hz, h₁.1.trans .push, ?_⟩) fun _ _ e => e)
  exact .lst (n := 0) (fresh_not (h₁.1.sit S).wf) (Heap.get?_push_size _ rfl) (by simpa using h₁.2.keep fun _ _ e => Heap.get?_push_of_some _ e)
theorem Ev.tuple {es : List Expr} {k : Nat} {pos : Pos} {ds : List D} (h : EvL c L O (backTo pos (starEach es c.env)) ds) (hz : ds.length ≤ sizeLine := by decide) : Ev c L O (.Tuple es k pos) (.tup ds) := by
  constructor; intro s E S
  refine wpAny_Tuple_spliced (wpAny_mono (h.run s E S) (fun vs s₁ h₁ => ⟨by rw [h₁.2.length]; exact hz, h₁.1.trans .push, ?_⟩) fun _ _ e => e)
  exact .tup (n := 0) (fresh_not (h₁.1.sit S).wf) (Heap.get?_push_size _ rfl) (by simpa using h₁.2.keep fun _ _ e => Heap.get?_push_of_some _ e)
end
end
section
open PySem PySem.W PyProof.Rows
theorem fmod_pos {a b : Int} (h : 0 < b) : Int.fmod a b = a % b := by
  rw [Int.fmod_eq_emod]; simp [Int.le_of_lt h]
theorem fdiv_pos {a b : Int} (h : 0 < b) : Int.fdiv a b = a / b := by
  rw [Int.fdiv_eq_ediv_of_nonneg _ (Int.le_of_lt h)]

noncomputable def pyIdx {α : Type} (ds : List α) (k : Int) : Option α := if 0 ≤ k then ds[k.toNat]? else if -(ds.length : Int) ≤ k then ds[(k + ds.length).toNat]? else none

section
variable {c : Cx} {L : List (Str × D)} {O : List (Addr × List D)} {prog : Program} {w : World} {A : Around} {W : List Addr} {l r : Expr} {pos : Pos} {a b : Int} {x y : Str}

theorem BinIs.addI : BinIs c .Add (.int a) (.int b) (.int (a + b)) := ⟨fun _ _ _ _ ra rb _ => by cases ra using RV.e_int; cases rb using RV.e_int; exact add_int ⟨.toks, .int _ _⟩⟩
theorem BinIs.subI : BinIs c .Sub (.int a) (.int b) (.int (a - b)) := ⟨fun _ _ _ _ ra rb _ => by cases ra using RV.e_int; cases rb using RV.e_int; exact sub_int ⟨.toks, .int _ _⟩⟩
theorem BinIs.mulI (h1 : -(2 ^ 64) < a := by omega) (h2 : a < 2 ^ 64 := by omega) : BinIs c .Mult (.int a) (.int b) (.int (a * b)) :=
  ⟨fun _ _ _ _ ra rb _ => by cases ra using RV.e_int; cases rb using RV.e_int; exact mul_int ⟨.toks, .int _ _⟩ (.of_left (intBits_le_64 h1 h2))⟩
theorem BinIs.divI (h1 : 0 < b := by omega) (h2 : b < 1073741824 := by omega) : BinIs c .FloorDiv (.int a) (.int b) (.int (a / b)) :=
  ⟨fun _ _ _ _ ra rb _ => by cases ra using RV.e_int; cases rb using RV.e_int; exact floordiv_int (by omega) (by rw [fdiv_pos h1]; exact ⟨.toks, .int _ _⟩) (.inl (PyProof.noPylong_small (by omega)))⟩
theorem BinIs.modI (h1 : 0 < b := by omega) : BinIs c .Mod (.int a) (.int b) (.int (a % b)) :=
  ⟨fun _ _ _ _ ra rb _ => by cases ra using RV.e_int; cases rb using RV.e_int; exact mod_int (by omega) (by rw [fmod_pos h1]; exact ⟨.toks, .int _ _⟩)⟩
theorem Ev.negI (hl : Ev c L O l (.int a)) : Ev c L O (.UnaryOp .USub l pos) (.int (-a)) :=
  .un hl fun _ _ _ ra => by cases ra using RV.e_int; exact neg_int ⟨.toks, .int _ _⟩
theorem BinIs.addS (hz : x.length + y.length ≤ sizeLine) : BinIs c .Add (.str x) (.str y) (.str (x ++ y)) := ⟨fun _ _ _ _ ra rb _ => by cases ra using RV.e_str; cases rb using RV.e_str; exact add_str (fun _ _ => ⟨.toks, .str _ _⟩) hz⟩
theorem RL.size {h : Heap} {vs : Array Value} {ds : List D} (r : RL h W vs.toList ds) : vs.size = ds.length := by have := r.length; simpa using this
theorem BinIs.addL {ds es : List D} (hz : ds.length + es.length ≤ sizeLine := by decide) : BinIs c .Add (.lst ds) (.lst es) (.lst (ds ++ es)) :=
  ⟨fun s _ _ _ ra rb wf => by
    cases ra using RV.e_lst with
    | lst na ea qa =>
      cases rb using RV.e_lst with
      | lst nb eb qb =>
        refine PySem.P.add_list ea eb ⟨.push, .lst (n := 0) (fresh_not wf) (Heap.get?_push_size _ rfl) ?_⟩ (by rw [qa.size, qb.size]; exact hz)
        simpa using (qa.append qb).keep fun _ _ e => Heap.get?_push_of_some _ e⟩

/-- a comparison -/
structure CmpIs (c : Cx) (op : CmpOp) (a b : D) (t : Bool) : Prop where
  run : ∀ s E va vb, RV s.heap c.X va a → RV s.heap c.X vb b → wpAny (model c.prog c.w) c.A (compareOp op va vb) (fun v s' => Kp s s' ∧ v = .bool t) E s
theorem CmpIs.eqI : CmpIs c .Eq (.int a) (.int b) (a == b) := ⟨fun _ _ _ _ ra rb => by cases ra using RV.e_int; cases rb using RV.e_int; exact eq_int ⟨.refl, rfl⟩⟩
theorem CmpIs.neI : CmpIs c .NotEq (.int a) (.int b) (a != b) := ⟨fun _ _ _ _ ra rb => by cases ra using RV.e_int; cases rb using RV.e_int; exact PyProof.Rows.ne_int ⟨.refl, rfl⟩⟩
theorem CmpIs.ltI : CmpIs c .Lt (.int a) (.int b) (decide (a < b)) := ⟨fun _ _ _ _ ra rb => by cases ra using RV.e_int; cases rb using RV.e_int; exact lt_int ⟨.refl, rfl⟩⟩
theorem CmpIs.gtI : CmpIs c .Gt (.int a) (.int b) (decide (b < a)) := ⟨fun _ _ _ _ ra rb => by cases ra using RV.e_int; cases rb using RV.e_int; exact gt_int ⟨.refl, rfl⟩⟩
theorem CmpIs.leI : CmpIs c .LtE (.int a) (.int b) (decide (a ≤ b)) := ⟨fun _ _ _ _ ra rb => by cases ra using RV.e_int; cases rb using RV.e_int; exact PyProof.Rows.le_int ⟨.refl, rfl⟩⟩
theorem CmpIs.eqS : CmpIs c .Eq (.str x) (.str y) (x == y) := ⟨fun _ _ _ _ ra rb => by cases ra using RV.e_str; cases rb using RV.e_str; exact PyProof.Rows.eq_str ⟨.refl, rfl⟩⟩
theorem CmpIs.neS : CmpIs c .NotEq (.str x) (.str y) (x != y) := ⟨fun _ _ _ _ ra rb => by cases ra using RV.e_str; cases rb using RV.e_str; exact PyProof.Rows.ne_str ⟨.refl, rfl⟩⟩
theorem CmpIs.isNN : CmpIs c .Is .none .none true := ⟨fun _ _ _ _ ra rb => by cases ra using RV.e_none; cases rb using RV.e_none; exact wpAny_is_plain rfl ⟨.refl, rfl⟩⟩
theorem CmpIs.isIN : CmpIs c .Is (.int a) .none false := ⟨fun _ _ _ _ ra rb => by cases ra using RV.e_int; cases rb using RV.e_none; exact wpAny_is_other rfl (by intro h; cases h) ⟨.refl, rfl⟩⟩
theorem CmpIs.notNN : CmpIs c .IsNot .none .none false := ⟨fun _ _ _ _ ra rb => by cases ra using RV.e_none; cases rb using RV.e_none; exact wpAny_isNot_plain rfl ⟨.refl, rfl⟩⟩
theorem CmpIs.notMN {sp : List Int} : CmpIs c .IsNot (.mat x sp) .none true := ⟨fun _ _ _ _ ra rb => by cases ra using RV.e_mat; cases rb using RV.e_none; exact wpAny_isNot_other rfl (by intro h; cases h) ⟨.refl, rfl⟩⟩

/-- a test comes out -/
structure Tst (c : Cx) (L : List (Str × D)) (O : List (Addr × List D)) (e : Expr) (t : Bool) : Prop where
  run : ∀ s E, Sit c L O s.heap → wpAny (model c.prog c.w) c.A (PySem.isTrue e c.env (eval e c.env)) (fun v s' => Kp s s' ∧ v = t) E s

theorem Tst.cmp {op : CmpOp} {d e : D} {t : Bool} (hl : Ev c L O l d) (hr : Ev c L O r e) (h : CmpIs c op d e t) (hm : behindInMarks op r = false := by with_unfolding_all rfl) : Tst c L O (.Compare l [op] [r] pos) t := by
  constructor; intro s E S
  refine wpAny_isTrue_Compare1 (wpAny_mono (hl.run s E S) (fun va s₁ h₁ => ?_) fun _ _ e => e) hm
  refine wpAny_mono (hr.run s₁ E (h₁.1.sit S)) (fun vb s₂ h₂ => ?_) fun _ _ e => e
  refine wpAny_mono (h.run s₂ E va vb (h₂.1.rv h₁.2) h₂.2) (fun v s₃ h₃ => ?_) fun _ _ e => e
  obtain ⟨k₃, rfl⟩ := h₃
  exact wpAny_truthy_bool ⟨(h₁.1.trans h₂.1).trans k₃, rfl⟩
theorem Ev.cmp {op : CmpOp} {d e : D} {t : Bool} (hl : Ev c L O l d) (hr : Ev c L O r e) (h : CmpIs c op d e t) (hm : behindInMarks op r = false := by with_unfolding_all rfl) : Ev c L O (.Compare l [op] [r] pos) (.bool t) := by
  constructor; intro s E S
  refine wpAny_Compare1 (wpAny_mono (hl.run s E S) (fun va s₁ h₁ => ?_) fun _ _ e => e) hm
  refine wpAny_mono (hr.run s₁ E (h₁.1.sit S)) (fun vb s₂ h₂ => ?_) fun _ _ e => e
  refine wpAny_mono (h.run s₂ E va vb (h₂.1.rv h₁.2) h₂.2) (fun v s₃ h₃ => ?_) fun _ _ e => e
  obtain ⟨k₃, rfl⟩ := h₃
  exact ⟨(h₁.1.trans h₂.1).trans k₃, .bool t⟩
theorem Tst.and {p q : Expr} {t d : Bool} (hp : Tst c L O p t) (hq : t = true → Tst c L O q d) : Tst c L O (.BoolOp .And [p, q] pos) (t && d) := by
  constructor; intro s E S
  refine wpAny_isTrue_BoolOp (wpAny_allTrue_And_cons (wpAny_mono (hp.run s E S) (fun v s₁ h₁ => ?_) fun _ _ e => e))
  obtain ⟨k₁, rfl⟩ := h₁
  cases v with
  | false => exact ⟨k₁, rfl⟩
  | true =>
    simp only [if_true]
    refine wpAny_allTrue_And_cons (wpAny_mono ((hq rfl).run s₁ E (k₁.sit S)) (fun v s₂ h₂ => ?_) fun _ _ e => e)
    obtain ⟨k₂, rfl⟩ := h₂
    cases v with
    | false => exact ⟨k₁.trans k₂, rfl⟩
    | true => simp only [if_true]; exact wpAny_allTrue_And_nil ⟨k₁.trans k₂, rfl⟩
theorem Ev.ifx {t p q : Expr} {b : Bool} {d : D} (ht : Tst c L O t b) (hp : b = true → Ev c L O p d) (hq : b = false → Ev c L O q d) : Ev c L O (.IfExp t p q pos) d := by
  constructor; intro s E S
  refine wpAny_IfExp (wpAny_mono (ht.run s E S) (fun v s₁ h₁ => ?_) fun _ _ e => e)
  obtain ⟨k₁, rfl⟩ := h₁
  cases v with
  | true => simp only [if_true]; exact wpAny_mono ((hp rfl).run s₁ E (k₁.sit S)) (fun v s₂ h₂ => ⟨k₁.trans h₂.1, h₂.2⟩) fun _ _ e => e
  | false => simp only [Bool.false_eq_true, if_false]; exact wpAny_mono ((hq rfl).run s₁ E (k₁.sit S)) (fun v s₂ h₂ => ⟨k₁.trans h₂.1, h₂.2⟩) fun _ _ e => e

/-- items -/
theorem getItem_lst {ds : List D} {d : D} {k : Int} {s : Shared} {E : Value → Shared → Prop} {v i : Value} (rv : RV s.heap W v (.lst ds)) (ri : RV s.heap W i (.int k)) (hk : pyIdx ds k = some d) (h1 : -(2 ^ 63) ≤ k) (h2 : k < 2 ^ 63) :
    wpAny (model prog w) A (getItem v i) (fun v s' => Kp s s' ∧ RV s'.heap W v d) E s := by
  cases ri using RV.e_int
  cases rv using RV.e_lst with
  | lst na ea qa =>
    unfold pyIdx at hk
    split at hk
    · rename_i h0
      obtain ⟨y, hy, ry⟩ := qa.get hk
      exact wpAny_getItem_list ⟨_, ea, rfl, _, rfl⟩ h0 h2 (by simpa using hy) ⟨.refl, ry⟩
    · rename_i h0
      split at hk
      · rename_i hn
        obtain ⟨y, hy, ry⟩ := qa.get hk
        have z := qa.size
        exact wpAny_getItem_list_neg ⟨_, ea, rfl, _, rfl⟩ (by omega) (by rw [z]; exact hn) h1 (by rw [z]; simpa using hy) ⟨.refl, ry⟩
      · cases hk
theorem getItem_tup {ds : List D} {d : D} {k : Int} {s : Shared} {E : Value → Shared → Prop} {v i : Value} (rv : RV s.heap W v (.tup ds)) (ri : RV s.heap W i (.int k)) (hk : pyIdx ds k = some d) (h1 : -(2 ^ 63) ≤ k) (h2 : k < 2 ^ 63) :
    wpAny (model prog w) A (getItem v i) (fun v s' => Kp s s' ∧ RV s'.heap W v d) E s := by
  cases ri using RV.e_int
  cases rv using RV.e_tup with
  | tup na ea qa =>
    have z := qa.size
    unfold pyIdx at hk
    split at hk
    · rename_i h0
      obtain ⟨y, hy, ry⟩ := qa.get hk
      have hlt : k.toNat < ds.length := by
        apply Nat.lt_of_not_le; intro q; rw [List.getElem?_eq_none q] at hk; cases hk
      refine PyProof.Rows.getItem_tuple ⟨_, ea, rfl, _, rfl⟩ h1 h2 (j := k.toNat) ?_ (by simpa using hy) ⟨.refl, ry⟩
      rw [z]; unfold seqIndex?
      have e1 : ¬ k < 0 := by omega
      have e2 : (decide (0 ≤ k) && decide (k < (ds.length : Int))) = true := by simp; omega
      simp only [e1, if_false, e2, if_true]
    · rename_i h0
      split at hk
      · rename_i hn
        obtain ⟨y, hy, ry⟩ := qa.get hk
        refine PyProof.Rows.getItem_tuple ⟨_, ea, rfl, _, rfl⟩ h1 h2 (j := (k + ds.length).toNat) ?_ (by simpa using hy) ⟨.refl, ry⟩
        rw [z]; unfold seqIndex?
        have e1 : k < 0 := by omega
        have e2 : (decide (0 ≤ k + (ds.length : Int)) && decide (k + (ds.length : Int) < (ds.length : Int))) = true := by simp; omega
        simp only [e1, if_true, e2]
      · cases hk
/-- an item of d at e -/
noncomputable def ItIs (c : Cx) (d e r : D) : Prop := ∃ T id, typeLookup (.type T) ("__getitem__" : Str) = pure (some (.builtin id)) ∧ ∀ (s : Shared) (E : Value → Shared → Prop) (v i : Value), RV s.heap c.X v d → RV s.heap c.X i e → s.TypeIs v T ∧ wpAny (model c.prog c.w) c.A (getItem v i) (fun v s' => Kp s s' ∧ RV s'.heap c.X v r) E s
theorem ItIs.lst {ds : List D} {d : D} {k : Int} (hk : pyIdx ds k = some d) (h1 : -(2 ^ 63) ≤ k := by omega) (h2 : k < 2 ^ 63 := by omega) : ItIs c (.lst ds) (.int k) d :=
  ⟨"list", _, PySem.F.slot_list_getitem.lookup, fun s E v i rv ri => ⟨by cases rv using RV.e_lst with | lst _ ea _ => exact ⟨_, ea, rfl⟩, getItem_lst rv ri hk h1 h2⟩⟩
theorem ItIs.tup {ds : List D} {d : D} {k : Int} (hk : pyIdx ds k = some d) (h1 : -(2 ^ 63) ≤ k := by omega) (h2 : k < 2 ^ 63 := by omega) : ItIs c (.tup ds) (.int k) d :=
  ⟨"tuple", _, PySem.F.slot_tuple_getitem.lookup, fun s E v i rv ri => ⟨by cases rv using RV.e_tup with | tup _ ea _ => exact ⟨_, ea, rfl⟩, getItem_tup rv ri hk h1 h2⟩⟩
theorem Ev.sub {d e q : D} (hl : Ev c L O l d) (hr : Ev c L O r e) (hi : ItIs c d e q) (hs : ∀ o i, subscripted r false o i = operate [o, i] (getItem o i) := by intros; rfl) : Ev c L O (.Subscript l r pos) q := by
  constructor; intro s E S
  obtain ⟨T, id, hT, h⟩ := hi
  refine Subscript_ (wpAny_mono (hl.run s E S) (fun va s₁ h₁ => ?_) fun _ _ e => e)
  refine wpAny_mono (hr.run s₁ E (h₁.1.sit S)) (fun vb s₂ h₂ => ?_) fun _ _ e => e
  have ra := h₂.1.rv h₁.2
  obtain ⟨t, g⟩ := h s₂ E va vb ra h₂.2
  exact tail_any (T := T) (ops := [va, vb]) t hT (wpAny_mono g (fun v s₃ h₃ => ⟨(h₁.1.trans h₂.1).trans h₃.1, h₃.2⟩) fun _ _ e => e) (hs _ _)
end
end
section
open PySem PySem.W PyProof.Rows
/-- only heap and tokens turn -/
noncomputable def From (s₀ s : Shared) : Prop := ∃ h tk, s = { s₀ with heap := h, toks := tk }
theorem From.refl {s : Shared} : From s s := ⟨_, _, rfl⟩
theorem From.trans {a b c : Shared} (x : From a b) (y : From b c) : From a c := by
  obtain ⟨h, t, rfl⟩ := x; obtain ⟨h', t', rfl⟩ := y; exact ⟨h', t', rfl⟩
theorem Kp.from {a b : Shared} (x : Kp a b) : From a b := let ⟨h, t, e, _⟩ := x; ⟨h, t, e⟩

section
variable {c : Cx} {L : List (Str × D)} {O : List (Addr × List D)} {s : Shared} {E : Value → Shared → Prop} {x : Str} {v : Value} {d : D} {h h' : Heap}

/-- one mutable thing turned: what stands -/
theorem NameIs.same {a : Addr} {y : Str} {e : D} {W : List Addr} {env : Env} (n : NameIs env W h y e) (hs : Heap.SameBut a h h') (ha : a ∈ W) (h1 : env.kindOf y = some .local → a ≠ env.locals)
    (h2 : ∀ c, env.cells.lookup y = some c → a ≠ c) : NameIs env W h' y e := by
  rcases n with ⟨k, m, v, n, e, r⟩ | ⟨k, q, v, b, ⟨o, ho, hd⟩, r⟩
  · exact .inl ⟨k, m, v, n.sameBut hs (Ne.symm (h1 k)), e, r.stay (.of_same hs ha)⟩
  · exact .inr ⟨k, q, v, b, ⟨o, (hs.2 q (Ne.symm (h2 q b))).trans ho, hd⟩, r.stay (.of_same hs ha)⟩
theorem alive_same {a b : Addr} (hs : Heap.SameBut a h h') (ha : ∃ o, h'.get? a = some o) (hb : ∃ o, h.get? b = some o) : ∃ o, h'.get? b = some o := by
  by_cases e : b = a
  · subst e; exact ha
  · obtain ⟨o, ho⟩ := hb; exact ⟨o, (hs.2 b e).trans ho⟩
theorem own_same {a : Addr} {W X : List Addr} {p : Addr × List D} (hs : Heap.SameBut a h h') (ha : a ∈ X) (hne : p.1 ≠ a) (q : p.1 ∈ W ∧ ∃ items n, h.get? p.1 = some { cls := .type "list", data := .seq items n } ∧ RL h X items.toList p.2) :
    p.1 ∈ W ∧ ∃ items n, h'.get? p.1 = some { cls := .type "list", data := .seq items n } ∧ RL h' X items.toList p.2 :=
  let ⟨z, i, n, e, r⟩ := q; ⟨z, i, n, (hs.2 _ hne).trans e, r.stay (.of_same hs ha)⟩

theorem Sit.x_of (S : Sit c L O h) {a : Addr} (ha : a ∈ c.W) : a ∈ c.X := List.mem_append_left _ ha
theorem Sit.xl (S : Sit c L O h) : c.env.locals ∈ c.X := S.x_of S.wl
theorem lookup_cons_ne {α : Type} {x y : Str} {d : α} {l : List (Str × α)} (h : y ≠ x) : ((x, d) :: l).lookup y = l.lookup y := by
  rw [List.lookup_cons]; have : (y == x) = false := by simpa using h
  rw [this]
theorem lookup_cons_eq {α : Type} {x : Str} {d : α} {l : List (Str × α)} : ((x, d) :: l).lookup x = some d := by
  rw [List.lookup_cons]; simp

theorem Sit.storeLocal (S : Sit c L O h) (hk : c.env.kindOf x = some .local) (r : RV h c.X v d) {m : Str → Option Value} (hm : h.Ns c.env.locals m) (hn : h'.Ns c.env.locals fun y => if y = x then some v else m y) (hs : Heap.SameBut c.env.locals h h') :
    Sit c ((x, d) :: L) O h' := by
  have hL : ∃ o, h'.get? c.env.locals = some o := let ⟨o, _, _, ho, _⟩ := hn; ⟨o, ho⟩
  have nocell : ∀ y q, c.env.cells.lookup y = some q → c.env.locals ≠ q := fun y q e => by
    rintro rfl
    obtain ⟨_, v, o, ho, hd⟩ := S.wc y _ e
    obtain ⟨o', es, ep, ho', hd', _⟩ := hm
    rw [ho] at ho'; cases ho'; rw [hd] at hd'; cases hd'
  exact { keep := fun b o e => (hs.2 b (fun e' => by subst e'; have := S.new _ S.wl; rw [show c.g.get? _ = some o from e] at this; cases this)).trans (S.keep b o e)
          kind := S.kind, gl := S.gl, bl := S.bl, ns := ⟨_, hn⟩
          wf := fun a ha => alive_same hs hL (S.wf a ha)
          new := S.new, wl := S.wl, nd := S.nd, inj := S.inj
          wc := fun y q e => ⟨(S.wc y q e).1, let ⟨v, o, ho, hd⟩ := (S.wc y q e).2; ⟨v, o, (hs.2 q (Ne.symm (nocell y q e))).trans ho, hd⟩⟩
          names := fun y e hy => by
            by_cases hyx : y = x
            · subst hyx
              rw [lookup_cons_eq] at hy
              cases hy
              exact .inl ⟨hk, _, v, hn, if_pos rfl, r.stay (.of_same hs S.xl)⟩
            · rw [lookup_cons_ne hyx] at hy
              rcases S.names y e hy with ⟨k, m', u, n, eq, ru⟩ | z
              · refine .inl ⟨k, _, u, hn, ?_, ru.stay (.of_same hs S.xl)⟩
                show (if y = x then some v else m y) = some u
                rw [if_neg hyx]
                obtain ⟨o, es, ep, ho, hd, _, hf⟩ := hm
                obtain ⟨o', es', ep', ho', hd', _, hf'⟩ := n
                rw [ho] at ho'; cases ho'; rw [hd] at hd'; cases hd'
                rw [← hf, hf', eq]
              · obtain ⟨k, q, u, b, ⟨o, ho, hd⟩, ru⟩ := z
                exact .inr ⟨k, q, u, b, ⟨o, (hs.2 q (Ne.symm (nocell y q b))).trans ho, hd⟩, ru.stay (.of_same hs S.xl)⟩
          own := fun p hp => own_same hs S.xl (fun e => by
            obtain ⟨_, i, n, ho, _⟩ := S.own p hp
            obtain ⟨o', es, ep, ho', hd', _⟩ := hm
            rw [e, ho'] at ho; cases ho; cases hd') (S.own p hp) }

theorem Sit.storeCell {q : Addr} (S : Sit c L O h) (hk : c.env.kindOf x = some .cell) (hq : c.env.cells.lookup x = some q) (r : RV h c.X v d) (hn : h'.IsCell q (some v)) (hs : Heap.SameBut q h h') :
    Sit c ((x, d) :: L) O h' := by
  have hqW := (S.wc x q hq).1
  have hqX := S.x_of hqW
  have hL : ∃ o, h'.get? q = some o := let ⟨o, ho, _⟩ := hn; ⟨o, ho⟩
  obtain ⟨m, hm⟩ := S.ns
  have noL : q ≠ c.env.locals := by
    rintro rfl
    obtain ⟨_, v, o, ho, hd⟩ := S.wc x _ hq
    obtain ⟨o', es, ep, ho', hd', _⟩ := hm
    rw [ho] at ho'; cases ho'; rw [hd] at hd'; cases hd'
  exact { keep := fun b o e => (hs.2 b (fun e' => by subst e'; have := S.new _ hqW; rw [show c.g.get? _ = some o from e] at this; cases this)).trans (S.keep b o e)
          kind := S.kind, gl := S.gl, bl := S.bl, ns := ⟨m, hm.sameBut hs (Ne.symm noL)⟩
          wf := fun a ha => alive_same hs hL (S.wf a ha)
          new := S.new, wl := S.wl, nd := S.nd, inj := S.inj
          wc := fun y b e => ⟨(S.wc y b e).1, by
            by_cases hb : b = q
            · subst hb; exact ⟨_, hn⟩
            · obtain ⟨v, o, ho, hd⟩ := (S.wc y b e).2; exact ⟨v, o, (hs.2 b hb).trans ho, hd⟩⟩
          names := fun y e hy => by
            by_cases hyx : y = x
            · subst hyx
              rw [lookup_cons_eq] at hy
              cases hy
              exact .inr ⟨.inl hk, q, v, hq, hn, r.stay (.of_same hs hqX)⟩
            · rw [lookup_cons_ne hyx] at hy
              exact (S.names y e hy).same hs hqX (fun _ => noL) fun b hb e' => hyx (S.inj _ _ _ hb (e' ▸ hq))
          own := fun p hp => own_same hs hqX (fun e => by
            obtain ⟨_, i, n, ho, _⟩ := S.own p hp
            obtain ⟨_, v, o, ho', hd⟩ := S.wc x q hq
            rw [e, ho'] at ho; cases ho; cases hd) (S.own p hp) }

/-- a name may be stored -/
noncomputable def Room (c : Cx) (x : Str) : Prop := c.env.kindOf x = some .local ∨ (c.env.kindOf x = some .cell ∧ ∃ q, c.env.cells.lookup x = some q)

theorem store (S : Sit c L O s.heap) (hx : Room c x) (r : RV s.heap c.X v d) {Q : Unit → Shared → Prop} (hQ : ∀ s', From s s' → Sit c ((x, d) :: L) O s'.heap → Stay c.W s.heap s'.heap → Q () s') : wpAny (model c.prog c.w) c.A (storeName c.env x v) Q E s := by
  rcases hx with hk | ⟨hk, q, hq⟩
  · obtain ⟨m, hm⟩ := S.ns
    refine wpAny_storeName_local hk hm (fun h' hn hs => hQ _ ⟨_, _, rfl⟩ (S.storeLocal hk r hm hn hs) (.of_same hs S.wl)) ?_
    rw [S.kind]; rfl
  · obtain ⟨hqW, v₀, hc⟩ := S.wc x q hq
    exact wpAny_storeName_cell S.kind hk hq hc fun h' hn hs => hQ _ ⟨_, _, rfl⟩ (S.storeCell hk hq r hn hs) (.of_same hs hqW)

/-- statements -/
structure Ex (s₀ : Shared) (c : Cx) (L : List (Str × D)) (O : List (Addr × List D)) (sts : List Stmt) (Q : Flow → Shared → Prop) (E : Value → Shared → Prop) : Prop where
  run : ∀ s, From s₀ s → Sit c L O s.heap → wpAny (model c.prog c.w) c.A (execs sts c.env) Q E s

variable {s₀ : Shared} {rest : List Stmt} {Q : Flow → Shared → Prop} {pos px : Pos} {e : Expr}

theorem Ex.nil (h : ∀ s, From s₀ s → Sit c L O s.heap → Q .next s) : Ex s₀ c L O [] Q E := ⟨fun s f S => wpAny_execs_nil (h s f S)⟩
theorem Ex.ret (he : Ev c L O e d) (h : ∀ v s, From s₀ s → Sit c L O s.heap → RV s.heap c.X v d → Q (.ret v) s) : Ex s₀ c L O (.Return (some e) pos :: rest) Q E := by
  constructor; intro s f S
  refine wpAny_execs_cons (wpAny_Return_some (wpAny_mono (he.run s E S) (fun v s₁ h₁ => ?_) fun _ _ e => e))
  exact h v s₁ (f.trans h₁.1.from) (h₁.1.sit S) h₁.2
theorem Ex.assign (he : Ev c L O e d) (hx : Room c x) (h : Ex s₀ c ((x, d) :: L) O rest Q E) (hs : swapsWith e (some (.Name x px)) pos.line c.env = pure false := by rfl) : Ex s₀ c L O (.Assign [.Name x px] e pos :: rest) Q E := by
  constructor; intro s f S
  refine wpAny_execs_cons (wpAny_Assign_Name (wpAny_mono (he.run s E S) (fun v s₁ h₁ => ?_) fun _ _ e => e) hs)
  exact store (h₁.1.sit S) hx h₁.2 fun s' f' S' _ => h.run s' ((f.trans h₁.1.from).trans f') S'

/-- what follows a branch -/
noncomputable def Nx (c : Cx) (rest : List Stmt) (Q : Flow → Shared → Prop) (E : Value → Shared → Prop) : Flow → Shared → Prop := fun f s => match f with | .next => wpAny (model c.prog c.w) c.A (execs rest c.env) Q E s | f => Q f s
theorem Ex.ite {t : Expr} {b : Bool} {body orelse : List Stmt} (ht : Tst c L O t b) (hp : b = true → Ex s₀ c L O body (Nx c rest Q E) E) (hq : b = false → Ex s₀ c L O orelse (Nx c rest Q E) E) : Ex s₀ c L O (.If t body orelse pos :: rest) Q E := by
  constructor; intro s f S
  refine wpAny_execs_cons (wpAny_If (wpAny_mono (ht.run s E S) (fun v s₁ h₁ => ?_) fun _ _ e => e))
  obtain ⟨k, rfl⟩ := h₁
  have done : ∀ body, Ex s₀ c L O body (Nx c rest Q E) E → wpAny (model c.prog c.w) c.A (execs body c.env) (fun f s' => match f with | .next => wpAny (model c.prog c.w) c.A (execs rest c.env) Q E s' | f => Q f s') E s₁ := fun body hb => by
    refine wpAny_mono (hb.run s₁ (f.trans k.from) (k.sit S)) (fun f s' z => ?_) fun _ _ e => e
    cases f <;> exact z
  cases v with
  | true => simp only [if_true]; exact done _ (hp rfl)
  | false => simp only [Bool.false_eq_true, if_false]; exact done _ (hq rfl)
theorem Ex.done {c₁ : Cx} (h : Ex s₀ c₁ L O rest Q E) (hc : c₁.prog = c.prog ∧ c₁.w = c.w ∧ c₁.A = c.A ∧ c₁.env = c.env := by exact ⟨rfl, rfl, rfl, rfl⟩) : Ex s₀ c₁ L O [] (Nx c rest Q E) E := by
  obtain ⟨a1, a2, a3, a4⟩ := hc
  refine Ex.nil fun s f S => ?_
  show wpAny _ _ _ _ _ _
  rw [← a1, ← a2, ← a3, ← a4]
  exact h.run s f S

/-- fewer names -/
theorem Sit.weak {L' : List (Str × D)} (S : Sit c L O h) (hl : ∀ x d, L'.lookup x = some d → L.lookup x = some d) : Sit c L' O h :=
  { S with names := fun x d e => S.names x d (hl x d e) }
theorem Ex.weak {L' : List (Str × D)} (hl : ∀ x d, L'.lookup x = some d → L.lookup x = some d) (h : Ex s₀ c L' O rest Q E) : Ex s₀ c L O rest Q E := ⟨fun s f S => h.run s f (S.weak hl)⟩
theorem sub_loc {l l' : List (Str × D)} (h : ∀ p ∈ l, l'.lookup p.1 = some p.2) : ∀ x d, l.lookup x = some d → l'.lookup x = some d := by
  intro x d e
  have : (x, d) ∈ l := by
    induction l with
    | nil => simp at e
    | cons p l ih =>
      rw [List.lookup_cons] at e
      split at e
      · rename_i q; cases e; rw [show x = p.1 from by simpa using q]; exact .head _
      · exact .tail _ (ih (fun p hp => h p (.tail _ hp)) e)
  exact h _ this
end
end
section
open PySem PySem.W PyProof.Rows
section
variable {c : Cx} {L : List (Str × D)} {O : List (Addr × List D)} {l r value : Expr} {lower upper : Option Expr} {lo hi : Option Int} {p pos : Pos} {x : Str} {a b : Int}
/-- a part of a slice -/
structure EvP (c : Cx) (L : List (Str × D)) (O : List (Addr × List D)) (o : Option Expr) (lo : Option Int) : Prop where
  run : ∀ s E, Sit c L O s.heap → wpAny (model c.prog c.w) c.A (evalPart o c.env) (fun v s' => Kp s s' ∧ ∃ q : Option (Int × Tok), v = partValue q ∧ q.map (·.1) = lo) E s
theorem EvP.none : EvP c L O Option.none Option.none := ⟨fun _ _ _ => wpAny_evalPart_none ⟨.refl, Option.none, rfl, rfl⟩⟩
theorem EvP.some {e : Expr} (he : Ev c L O e (.int a)) : EvP c L O (some e) (some a) := by
  constructor; intro s E S
  refine wpAny_evalPart_some (wpAny_mono (he.run s E S) (fun v s₁ h₁ => ⟨h₁.1, ?_⟩) fun _ _ e => e)
  obtain ⟨k, r⟩ := h₁
  cases r using RV.e_int with | int t => exact ⟨Option.some (a, t), rfl, rfl⟩
theorem evalSlice (hl : EvP c L O lower lo) (hu : EvP c L O upper hi) : ∀ s E, Sit c L O s.heap → wpAny (model c.prog c.w) c.A (eval (.Slice lower upper Option.none p) c.env)
    (fun v s' => Kp s s' ∧ ∃ (a : Addr) (q q' : Option (Int × Tok)), v = .ref a ∧ s'.heap.IsSlice a q q' Option.none ∧ q.map (·.1) = lo ∧ q'.map (·.1) = hi ∧ s'.heap.get? a = Option.some { cls := .type "slice", data := .fields #[partValue q, partValue q', .none] }) E s := fun s E S => by
  refine wpAny_Slice (wpAny_mono (hl.run s E S) (fun v s₁ h₁ => ?_) fun _ _ e => e)
  refine wpAny_mono (hu.run s₁ E (h₁.1.sit S)) (fun v' s₂ h₂ => ?_) fun _ _ e => e
  refine wpAny_evalPart_none ?_
  obtain ⟨k₁, q, rfl, e⟩ := h₁
  obtain ⟨k₂, q', rfl, e'⟩ := h₂
  exact ⟨(k₁.trans k₂).trans .push, _, q, q', rfl, ⟨_, Heap.get?_push_size _ rfl, rfl, rfl⟩, e, e', Heap.get?_push_size _ rfl⟩
theorem Ev.sliceS (hv : Ev c L O value (.str x)) (hl : EvP c L O lower lo) (hu : EvP c L O upper hi) (hz : x.length ≤ sizeLine) : Ev c L O (.Subscript value (.Slice lower upper Option.none p) pos) (.str (Txt.slice x lo hi)) := by
  constructor; intro s E S
  refine Subscript_ (wpAny_mono (hv.run s E S) (fun va s₁ h₁ => ?_) fun _ _ e => e)
  refine wpAny_mono (evalSlice hl hu s₁ E (h₁.1.sit S)) (fun vb s₂ h₂ => ?_) fun _ _ e => e
  obtain ⟨k₁, r₁⟩ := h₁
  obtain ⟨k₂, a, q, q', rfl, hs, rfl, rfl, _⟩ := h₂
  cases r₁ using RV.e_str with
  | str t =>
    refine tail_any (T := "str") (ops := [.ref a, .str x t]) rfl PySem.F.slot_str_getitem.lookup (wpAny_getItem_str_slice hs rfl ?_) rfl
    have e : (Txt.slice x (q.map (·.1)) (q'.map (·.1))).length ≤ sizeLine := Nat.le_trans (Txt.slice_le _ _ _) hz
    unfold Txt.slice at e ⊢
    unfold sliceMade slicePicked
    simp only [Option.map_none, Option.getD_none] at e ⊢
    split
    · exact ⟨k₁.trans k₂, .str x t⟩
    · rename_i h
      rw [if_neg h] at e
      exact ⟨e, (k₁.trans k₂).trans .toks, .str _ _⟩

/-- a list's slice by D -/
theorem RL.pick {h : Heap} {W : List Addr} {vs : Array Value} {ds : List D} (r : RL h W vs.toList ds) (is : List Nat) : RL h W (is.filterMap (vs[·]?)) (is.filterMap (ds[·]?)) := by
  induction is with
  | nil => exact .nil
  | cons i is ih =>
    rw [List.filterMap_cons, List.filterMap_cons]
    have z := r.size
    cases e : ds[i]? with
    | none =>
      have : vs[i]? = none := by rw [Array.getElem?_eq_none_iff]; rw [List.getElem?_eq_none_iff] at e; omega
      rw [this]; exact ih
    | some d =>
      obtain ⟨v, hv, q⟩ := r.get e
      have : vs[i]? = some v := by simpa using hv
      rw [this]; exact .cons q ih
noncomputable def sliceL {α : Type} (ds : List α) (lo hi : Option Int) : List α := (sliceRange (sliceBounds lo hi Option.none ds.length).1 (sliceBounds lo hi Option.none ds.length).2.1 (sliceBounds lo hi Option.none ds.length).2.2).filterMap (ds[·]?)
theorem Ev.sliceL {ds : List D} (hv : Ev c L O value (.lst ds)) (hl : EvP c L O lower lo) (hu : EvP c L O upper hi) (hz : ds.length ≤ sizeLine := by decide) : Ev c L O (.Subscript value (.Slice lower upper Option.none p) pos) (.lst (sliceL ds lo hi)) := by
  constructor; intro s E S
  refine Subscript_ (wpAny_mono (hv.run s E S) (fun va s₁ h₁ => ?_) fun _ _ e => e)
  refine wpAny_mono (evalSlice hl hu s₁ E (h₁.1.sit S)) (fun vb s₂ h₂ => ?_) fun _ _ e => e
  obtain ⟨k₁, r₁⟩ := h₁
  obtain ⟨k₂, a, q, q', rfl, hs, rfl, rfl, hso⟩ := h₂
  have r₂ := k₂.rv r₁
  have wf := ((k₁.trans k₂).sit S).wf
  cases r₂ using RV.e_lst with
  | lst na ea qa =>
    rename_i al vs n
    have part : ∀ q : Option (Int × Tok), IsPart (partValue q) (q.map (·.1)) := fun q => by cases q <;> first | exact .inl ⟨rfl, rfl⟩ | exact .inr ⟨_, _, rfl, rfl⟩ | constructor
    refine tail_any (T := "list") (ops := [.ref a, .ref al]) ⟨_, ea, rfl⟩ PySem.F.slot_list_getitem.lookup (wpAny_getItem_list_slice ⟨_, ea, rfl, _, rfl⟩ (lo := q.map (·.1)) (hi := q'.map (·.1)) (st := Option.none) (vs := .none) ⟨_, hso, rfl, rfl⟩ (part q) (part q') (part Option.none) (by intro h; cases h) ?_ (by rw [qa.size]; exact hz)) rfl
    refine ⟨(k₁.trans k₂).trans .push, .lst (n := 0) (fresh_not wf) (Heap.get?_push_size _ rfl) ?_⟩
    have := (qa.pick (sliceRange (sliceBounds (q.map (·.1)) (q'.map (·.1)) Option.none ds.length).1 (sliceBounds (q.map (·.1)) (q'.map (·.1)) Option.none ds.length).2.1 (sliceBounds (q.map (·.1)) (q'.map (·.1)) Option.none ds.length).2.2)).keep (h' := s₂.heap.push { cls := .type "list", data := .seq (slicePick vs (q.map (·.1)) (q'.map (·.1)) Option.none) }) fun _ _ e => Heap.get?_push_of_some _ e
    unfold slicePick Kl.sliceL
    rw [qa.size]
    unfold slicePick at this
    rw [qa.size] at this
    exact this
end
end
section
open PySem PySem.W PyProof.Rows
theorem Gv.keep {g g' : Heap} {x : Str} {v : Value} (k : ∀ b o, g.get? b = some o → g'.get? b = some o) (h : Gv g x v) : Gv g' x v := by
  exact h.imp (Exists.imp (fun _ => And.imp (·.keeps k) id)) (Exists.imp (fun _ => Exists.imp (fun _ => And.imp (·.keeps k) (And.imp id (And.imp (·.keeps k) id)))))
theorem Fun.keep {g g' : Heap} {v : Value} (k : ∀ b o, g.get? b = some o → g'.get? b = some o) (h : Fun g v) : Fun g' v := by
  exact h.imp id (Or.imp id (Exists.imp (fun _ => Exists.imp (fun _ => Exists.imp (fun _ => And.imp id (And.imp (k _ _) id))))))
/-- a def of the top stands at a -/
noncomputable def FnAt (g : Heap) (a : Addr) (name : Str) (params : Arguments) (body : List Stmt) (scope : Scope) : Prop :=
  ∃ o pm cd doc, g.get? a = some o ∧ o.data = .func (Calls.docDef name params body scope pm cd doc) ∧ g.CodeRec cd name
theorem FnAt.keep {g g' : Heap} {a : Addr} {name : Str} {params : Arguments} {body : List Stmt} {scope : Scope} (k : ∀ b o, g.get? b = some o → g'.get? b = some o) (h : FnAt g a name params body scope) : FnAt g' a name params body scope :=
  (Exists.imp (fun _ => Exists.imp (fun _ => Exists.imp (fun _ => Exists.imp (fun _ => And.imp (k _ _) (And.imp id (·.keeps k))))))) h
theorem FnAt.fun {g : Heap} {a : Addr} {name : Str} {params : Arguments} {body : List Stmt} {scope : Scope} (h : FnAt g a name params body scope) : Fun g (.ref a) :=
  .inr (.inr (h.elim fun o h => h.elim fun _ h => h.elim fun _ h => h.elim fun _ h => ⟨a, o, _, rfl, h.1, h.2.1⟩))

theorem RL.zip {h : Heap} {X : List Addr} : ∀ {nm : List Str} {vs : List Value} {ds : List D}, RL h X vs ds → nm.Nodup → ∀ {x : Str} {d : D}, (nm.zip ds).lookup x = some d → x ∈ nm ∧ ∃ v, (nm.zip vs).lookup x = some v ∧ RV h X v d
  | [], _, _, _, _, _, _, e => by simp at e
  | n :: nm, [], ds, r, _, x, d, e => by cases r; simp at e
  | n :: nm, v :: vs, ds, r, hn, x, d, e => by
    cases r with
    | cons a r =>
      rw [List.nodup_cons] at hn
      rw [List.zip_cons_cons, List.lookup_cons] at e
      rw [List.zip_cons_cons, List.lookup_cons]
      split at e
      · rename_i q
        cases e
        exact ⟨by rw [show x = n from by simpa using q]; exact .head _, v, rfl, a⟩
      · obtain ⟨m, u, hu, ru⟩ := RL.zip r hn.2 e
        exact ⟨.tail _ m, u, hu, ru⟩
theorem lookup_append {α : Type} {x : Str} : ∀ {l l' : List (Str × α)}, (l ++ l').lookup x = (l.lookup x).or (l'.lookup x)
  | [], _ => by simp
  | (k, v) :: l, l' => by
    rw [List.cons_append, List.lookup_cons, List.lookup_cons]
    cases x == k with
    | true => rfl
    | false => exact lookup_append
theorem lookup_reverse {α : Type} {x : Str} : ∀ {l : List (Str × α)}, (l.map (·.1)).Nodup → l.reverse.lookup x = l.lookup x
  | [], _ => rfl
  | (k, v) :: l, hn => by
    rw [List.map_cons, List.nodup_cons] at hn
    rw [List.reverse_cons, lookup_append, lookup_reverse hn.2, List.lookup_cons, List.lookup_cons]
    cases hx : x == k with
    | true =>
      have : x = k := by simpa using hx
      subst this
      have : l.lookup x = none := by
        rw [List.lookup_eq_none_iff]
        intro p hp
        have : p.1 ≠ x := fun e => hn.1 (List.mem_map.mpr ⟨p, hp, e⟩)
        simpa using fun e => this e.symm
      rw [this]; rfl
    | false => simp

/-- the frame of a def without cells -/
@[reducible] noncomputable def fcx (prog : Program) (w : World) (A : Around) (h : Heap) (V : List Addr) (name : Str) (scope : Scope) (a : Addr) (cd : Value) : Cx :=
  { prog, w, A := A.deeper (envOf name scope h.objs.size a cd), g := h, W := [h.objs.size], V, env := envOf name scope h.objs.size a cd }

/-- what a def hands back -/
noncomputable def Ret (s₀ : Shared) (V : List Addr) (d : D) : Flow → Shared → Prop := fun f s => ∃ v, f = .ret v ∧ Kp s₀ s ∧ RV s.heap V v d
theorem Ex.retv {s₀ : Shared} {c : Cx} {L : List (Str × D)} {O : List (Addr × List D)} {e : Expr} {d : D} {pos : Pos} {rest : List Stmt} {E : Value → Shared → Prop} {V : List Addr} (he : Ev c L O e d) (hg : c.g = s₀.heap := by rfl) (hV : c.V = V := by rfl) : Ex s₀ c L O (.Return (some e) pos :: rest) (Ret s₀ V d) E := by
  subst hV
  refine Ex.ret he fun v s f S r => ⟨v, rfl, ?_, r.less fun a o ha _ => List.mem_append_right _ ha⟩
  obtain ⟨h, t, rfl⟩ := f
  exact ⟨h, t, rfl, by rw [← hg]; exact S.keep⟩
theorem Nx.ret {c : Cx} {L : List (Str × D)} {O : List (Addr × List D)} {rest : List Stmt} {s₀ : Shared} {V : List Addr} {d : D} {E E' : Value → Shared → Prop} {sts : List Stmt} {c₁ : Cx} (h : Ex s₀ c₁ L O sts (Ret s₀ V d) E) : Ex s₀ c₁ L O sts (Nx c rest (Ret s₀ V d) E') E := ⟨fun s f S =>
  wpAny_mono (h.run s f S) (fun f s' z => by obtain ⟨v, rfl, z⟩ := z; exact ⟨v, rfl, z⟩) fun _ _ e => e⟩
theorem Con.fnO {prog : Program} {w : World} {A : Around} {g : Heap} {V : List Addr} {fa : Addr} {name : Str} {params : Arguments} {body : List Stmt} {scope : Scope} {ds : List D} {d : D} {n : Nat} (nm : List Str) (loc : List (Str × D)) (hzip : nm.zip ds = loc)
    (F : FnAt g fa name params body scope) (nl : g.NoLimit) (ok : Ok (n + 1) A) (hnm : nm.length = ds.length) (hnd : nm.Nodup)
    (hb : ∀ pm cd doc vs, vs.length = nm.length → bindArgs (Calls.docDef name params body scope pm cd doc) ⟨vs, []⟩ = pure (nm.zip vs))
    (hloc : ∀ x ∈ nm, scope.names.lookup x = some .local)
    (h : ∀ (s₀ : Shared) (cd : Value), (∀ b o, g.get? b = some o → s₀.heap.get? b = some o) → (∀ b ∈ [s₀.heap.objs.size], b ∉ V) →
      Ex s₀ (fcx prog w A s₀.heap V name scope fa cd) loc [] body (Ret s₀ V d) (fun _ _ => False))
    (hco : scope.isCoroutine = false := by rfl) (hgen : scope.isGenerator = false := by rfl) (hk : scope.kind = .function := by rfl)
    (hcell : ∀ x ∈ scope.names, x.2 ≠ .cell := by decide +kernel) :
    Con prog w A g V (.ref fa) ds d := by
  subst hzip
  constructor; intro s E vs hg wf hr
  obtain ⟨o, pm, cd, doc, ho, hd, hrec⟩ := F
  have hlen : vs.length = nm.length := by rw [hr.length, hnm]
  have hmap : (nm.zip vs).map (·.1) = nm := by rw [List.map_fst_zip]; omega
  refine wpAny_call (call_plain ok.room (hg _ _ ho) hd (nl.keeps hg) (hrec.keeps hg) (hb pm cd doc vs hlen) (fun x hx => hloc _ (by rw [← hmap]; exact List.mem_map.mpr ⟨x, hx, rfl⟩)) ?_ hco hgen hk hcell)
  intro h₁ F₁
  have S : Sit (fcx prog w A s.heap V name scope fa cd) (nm.zip ds) [] h₁ := {
    keep := F₁.keep
    kind := hk, gl := rfl, bl := rfl
    ns := ⟨_, F₁.ns⟩
    wf := fun a ha => by
      rcases List.mem_append.mp ha with ha | ha
      · rcases List.mem_cons.mp ha with rfl | ha
        · obtain ⟨o, _, _, e, _⟩ := F₁.ns; exact ⟨o, e⟩
        · cases ha
      · obtain ⟨o, e⟩ := wf a ha; exact ⟨o, F₁.keep _ _ e⟩
    new := fun a ha => by
      rcases List.mem_cons.mp ha with rfl | ha
      · exact Heap.get?_none_of_le (Nat.le_refl _)
      · cases ha
    wl := .head _
    wc := fun x a e => by cases e
    inj := fun x y a e => by cases e
    nd := List.nodup_nil
    own := fun p hp => by cases hp
    names := fun x d e => by
      obtain ⟨hx, v, hv, r⟩ := RL.zip hr hnd e
      refine .inl ⟨hloc x hx, _, v, F₁.ns, ?_, ?_⟩
      · show (nm.zip vs).reverse.lookup x = some v
        rw [lookup_reverse (by rw [hmap]; exact hnd)]; exact hv
      · refine (r.less (W' := s.heap.objs.size :: V) fun a o ha hao => ?_).keep F₁.keep
        rcases List.mem_cons.mp ha with rfl | ha
        · exact absurd (Heap.lt_size hao) (Nat.lt_irrefl _)
        · exact ha }
  refine wpAny_mono ((h s cd hg fun b hb hv => by
    obtain ⟨o, e⟩ := wf b hv
    rcases List.mem_cons.mp hb with rfl | hb
    · exact absurd (Heap.lt_size e) (Nat.lt_irrefl _)
    · cases hb).run { s with heap := h₁, toks := s.toks + (nm.zip vs).length } ⟨_, _, rfl⟩ S) (fun f s' z => ?_) fun _ _ e => e.elim
  obtain ⟨v, rfl, k, r⟩ := z
  exact ⟨k, r⟩
theorem Con.fn {prog : Program} {w : World} {A : Around} {g : Heap} {V : List Addr} {fa : Addr} {name : Str} {params : Arguments} {body : List Stmt} {scope : Scope} {ds : List D} {d : D} {n : Nat} (nm : List Str) (loc : List (Str × D)) (hzip : nm.zip ds = loc)
    (F : FnAt g fa name params body scope) (nl : g.NoLimit) (ok : Ok (n + 1) A) (hnm : nm.length = ds.length) (hnd : nm.Nodup)
    (hb : ∀ pm cd doc vs, vs.length = nm.length → bindArgs (Calls.docDef name params body scope pm cd doc) ⟨vs, []⟩ = pure (nm.zip vs))
    (hloc : ∀ x ∈ nm, scope.names.lookup x = some .local)
    (h : ∀ (s₀ : Shared) (cd : Value), (∀ b o, g.get? b = some o → s₀.heap.get? b = some o) →
      Ex s₀ (fcx prog w A s₀.heap V name scope fa cd) loc [] body (Ret s₀ V d) (fun _ _ => False))
    (hco : scope.isCoroutine = false := by rfl) (hgen : scope.isGenerator = false := by rfl) (hk : scope.kind = .function := by rfl)
    (hcell : ∀ x ∈ scope.names, x.2 ≠ .cell := by decide +kernel) :
    Con prog w A g V (.ref fa) ds d :=
  Con.fnO nm loc hzip F nl ok hnm hnd hb hloc (fun s₀ cd hg _ => h s₀ cd hg) hco hgen hk hcell
end
section
open PySem PySem.W PyProof.Rows

section
variable {prog : Program} {w : World} {A : Around} {g : Heap} {X : List Addr} {a : Int} {x : Str} {ds : List D}
theorem Con.strI (h : a.natAbs.log2 < 1920) : Con prog w A g X (.type "str") [.int a] (.str (Str.ofString (toString a))) := by
  constructor; intro s E vs _ _ r
  cases r using RL.e_cons with | cons q r => cases r using RL.e_nil; cases q using RV.e_int with | int t => exact PySem.P.str_of_int h ⟨.toks, .str _ _⟩
theorem Con.absI : Con prog w A g X (.builtin "abs") [.int a] (.int a.natAbs) := by
  constructor; intro s E vs _ _ r
  cases r using RL.e_cons with
  | cons q r =>
    cases r using RL.e_nil
    cases q using RV.e_int with
    | int t =>
      refine call_abs_int fun u tk => ⟨.toks, ?_⟩
      have : (if a < 0 then -a else a) = (a.natAbs : Int) := by split <;> omega
      rw [this]; exact .int _ _
theorem Con.lenL (h : ds.length < 2 ^ 63 := by decide) : Con prog w A g X (.builtin "len") [.lst ds] (.int ds.length) := by
  constructor; intro s E vs _ _ r
  cases r using RL.e_cons with
  | cons q r =>
    cases r using RL.e_nil
    cases q using RV.e_lst with
    | lst na ea qa =>
      refine PyProof.Rows.len_list ⟨_, ea, rfl, _, rfl⟩ (by rw [qa.size]; omega) ⟨.trans .toks .toks, ?_⟩
      rw [qa.size]; exact .int _ _
theorem Con.lenS (h : x.length < 2 ^ 63 := by omega) : Con prog w A g X (.builtin "len") [.str x] (.int x.length) := by
  constructor; intro s E vs _ _ r
  cases r using RL.e_cons with
  | cons q r =>
    cases r using RL.e_nil
    cases q using RV.e_str with
    | str t => exact PyProof.Rows.len_str (by omega) ⟨.trans .toks .toks, .int _ _⟩
end
theorem evalArgsL {M : Model} {A : Around} {E : Value → Shared → Prop} {s : Shared} {f : Value} {es : List (Bool × Sem Value)} {Q : Args → Shared → Prop} (hplain : es.any (·.1) = false)
    (h : wpAny M A (spliced es) (fun vs s' => Q ⟨vs, []⟩ s') E s) : wpAny M A (evalArgs f true es []) Q E s := by
  cases es with
  | nil =>
    unfold evalArgs
    show wpAny M A (spliced [] >>= _) Q E s
    refine wpAny_bind (wpAny_mono h (fun vs s' h' => ?_) fun _ _ x => x)
    refine wpAny_holding ?_
    exact wpAny_bind (wpAny_pure (wpAny_bind (wpAny_pure (wpAny_pure h'))))
  | cons p es =>
    obtain ⟨b, x⟩ := p
    cases b with
    | true => simp at hplain
    | false => exact Calls.evalArgs_plain h

/-- what v is -/
noncomputable def TyIs (c : Cx) (d : D) (T : String) : Prop := ∀ (s : Shared) (v : Value), (∀ b o, c.g.get? b = some o → s.heap.get? b = some o) → RV s.heap c.X v d → s.TypeIs v T ∧ ∀ a, v = Value.ref a → ∃ ob : Obj, s.heap.get? a = some ob ∧ ob.dict = Option.none
theorem TyIs.str {c : Cx} {x : Str} : TyIs c (.str x) "str" := fun s v _ r => by cases r using RV.e_str with | str t => exact ⟨rfl, fun a e => by cases e⟩
theorem TyIs.mat {c : Cx} {x : Str} {sp : List Int} : TyIs c (.mat x sp) "re.Match" := fun s v _ r => by cases r using RV.e_mat with | mat _ _ e _ => exact ⟨⟨_, e, rfl⟩, fun a q => by cases q; exact ⟨_, e, rfl⟩⟩
theorem TyIs.lst {c : Cx} {ds : List D} : TyIs c (.lst ds) "list" := fun s v _ r => by cases r using RV.e_lst with | lst _ e _ => exact ⟨⟨_, e, rfl⟩, fun a q => by cases q; exact ⟨_, e, rfl⟩⟩
theorem TyIs.at {c : Cx} {p : Addr} {T : String} {o : Obj} (h : c.g.get? p = some o) (hc : o.cls = .type T) (hd : o.dict = Option.none) : TyIs c (.fix (.ref p)) T := fun s v k r => by cases r using RV.e_fix; exact ⟨⟨o, k _ _ h, hc⟩, fun a q => by cases q; exact ⟨o, k _ _ h, hd⟩⟩

/-- a method of a type of the interpreter -/
theorem Ev.meth {c : Cx} {L : List (Str × D)} {O : List (Addr × List D)} {o : Expr} {name : Str} {apos pos : Pos} {args : List Expr} {T id : String} {d r : D} {ds : List D} (ho : Ev c L O o d) (hT : TyIs c d T)
    (ha : EvL c L O (backTo pos (starEach args c.env)) ds) (hc : Con c.prog c.w c.A c.g c.X (.builtin id) (d :: ds) r) (pa : PlainAttrs T) (sl : Slot T name id) (ty : typeOf (.builtin id) = pure (.type "method_descriptor"))
    (hb : attributeBase o name c.env (eval o c.env) = eval o c.env := by rfl)
    (hform : (((backTo pos (starEach args c.env)).all (fun x => !x.1) && (backToKw pos (keywordEach [] c.env)).all (fun x => x.1.isSome)) && decide ((args.length + ([] : List Keyword).length + if ([] : List Keyword).isEmpty = true then 0 else 1) < 30)) = true := by rfl)
    (hline : (apos.endLine == pos.line) = true := by rfl) (hplain : (backTo pos (starEach args c.env)).any (·.1) = false := by rfl) : Ev c L O (.Call (.Attribute o name apos) args [] pos) r := by
  constructor; intro s E S
  refine wpAny_Call_method hb hform hline pa sl ty (wpAny_mono (ho.run s E S) (fun v s₁ h₁ => ?_) fun _ _ e => e)
  obtain ⟨k₁, r₁⟩ := h₁
  obtain ⟨t1, t2⟩ := hT s₁ v (k₁.sit S).keep r₁
  refine ⟨t1, t2, Calls.callWith_builtin hplain (evalArgsL hplain (wpAny_mono (ha.run s₁ E (k₁.sit S)) (fun vs s₂ h₂ => ?_) fun _ _ e => e))⟩
  obtain ⟨k₂, r₂⟩ := h₂
  have S₂ := (k₁.trans k₂).sit S
  exact wpAny_mono (hc.run s₂ E (v :: vs) S₂.keep S₂.wf (.cons (k₂.rv r₁) r₂)) (fun u s₃ h₃ => ⟨(k₁.trans k₂).trans h₃.1, h₃.2⟩) fun _ _ e => e

theorem Con.upper {prog : Program} {w : World} {A : Around} {g : Heap} {X : List Addr} {x : Str} (h : x.length ≤ 5592405) : Con prog w A g X (.builtin "str.upper") [.str x] (.str (Txt.upper x)) := by
  constructor; intro s E vs _ _ r
  cases r using RL.e_cons with | cons q r => cases r using RL.e_nil; cases q using RV.e_str with | str t => exact SCL.upper h fun _ => ⟨.toks, .str _ _⟩
theorem Con.lower {prog : Program} {w : World} {A : Around} {g : Heap} {X : List Addr} {x : Str} (h : x.length ≤ 5592405) : Con prog w A g X (.builtin "str.lower") [.str x] (.str (Txt.lower x)) := by
  constructor; intro s E vs _ _ r
  cases r using RL.e_cons with | cons q r => cases r using RL.e_nil; cases q using RV.e_str with | str t => exact SCL.lower h fun _ => ⟨.toks, .str _ _⟩

/-- a name not found here is sought behind -/
theorem look_here {α : Type} {x : Str} {d : α} {l : List (Str × α)} : ((x, d) :: l).lookup x = some d := lookup_cons_eq
theorem look_there {α : Type} {x y : Str} {d e : α} {l : List (Str × α)} (h : (x == y) = false) (hl : l.lookup x = some d) : ((y, e) :: l).lookup x = some d := by
  rw [List.lookup_cons, h]; exact hl
end
section
open PySem PySem.W PyProof.Rows
theorem Ev.eq {c : Cx} {L : List (Str × D)} {O : List (Addr × List D)} {e : Expr} {d d' : D} (h : Ev c L O e d) (q : d = d') : Ev c L O e d' := q ▸ h
section
variable {c : Cx} {k : Int} {a b d e : Str} {i j : Int}
theorem ItIs.two (h0 : 0 ≤ k) (h1 : k < 2) : ItIs c (.lst [.str a, .str b]) (.int k) (.str (if k = 0 then a else b)) := by
  rcases (by omega : k = 0 ∨ k = 1) with rfl | rfl <;> exact ItIs.lst rfl
theorem ItIs.three (h0 : 0 ≤ k) (h1 : k < 3) : ItIs c (.lst [.str a, .str b, .str d]) (.int k) (.str (if k = 0 then a else if k = 1 then b else d)) := by
  rcases (by omega : k = 0 ∨ k = 1 ∨ k = 2) with rfl | rfl | rfl <;> exact ItIs.lst rfl
theorem ItIs.four (h0 : 0 ≤ k) (h1 : k < 4) : ItIs c (.lst [.str a, .str b, .str d, .str e]) (.int k) (.str (if k = 0 then a else if k = 1 then b else if k = 2 then d else e)) := by
  rcases (by omega : k = 0 ∨ k = 1 ∨ k = 2 ∨ k = 3) with rfl | rfl | rfl | rfl <;> exact ItIs.lst rfl
theorem ItIs.twoI (h0 : 0 ≤ k) (h1 : k < 2) : ItIs c (.lst [.int i, .int j]) (.int k) (.int (if k = 0 then i else j)) := by
  rcases (by omega : k = 0 ∨ k = 1) with rfl | rfl <;> exact ItIs.lst rfl
end
/-- figures -/
noncomputable def dig2 (n : Nat) : Str := ⟨#[48 + n / 10, 48 + n % 10]⟩
noncomputable def dig1 (n : Nat) : Str := if n < 10 then ⟨#[48 + n]⟩ else dig2 n
theorem dig2_is : ∀ n : Nat, n < 100 → Txt.slice (Str.ofString (toString (100 + (n : Int)))) (some 1) none = dig2 n := by decide +kernel
theorem dig1_is : ∀ n : Nat, n < 24 → Str.ofString (toString (n : Int)) = dig1 n := by decide +kernel
theorem len3 : ∀ n : Nat, n < 100 → (Str.ofString (toString (100 + (n : Int)))).length = 3 := by decide +kernel
theorem dig2_len (n : Nat) : (dig2 n).length = 2 := rfl
theorem dig1_len (n : Nat) : (dig1 n).length ≤ 2 := by unfold dig1; split <;> (show _ ≤ 2; first | exact Nat.le_refl 2 | exact Nat.le_succ 1)
theorem len_add (x y : Str) : (x ++ y).length = x.length + y.length := strLen_append x y

noncomputable def zFig (y : Int) : Str := if y / 288 % 4 = 2 then dig1 (y % 24).toNat else dig2 (y % 24).toNat ++ (if y / 288 % 4 = 0 then Str.ofString ":" else Str.ofString "") ++ dig2 (15 * (y / 24 % 4)).toNat
noncomputable def zSign (y : Int) : Str := if y / 96 % 3 = 0 then Str.ofString "" else if y / 96 % 3 = 1 then Str.ofString "+" else Str.ofString "-"
noncomputable def zSec (y : Int) : Int := 3600 * (y % 24) + 900 * (if y / 288 % 4 = 2 then 0 else y / 24 % 4)
noncomputable def zName (y : Int) : Str := if y / 24 % 4 = 0 then Str.ofString "GMT" else if y / 24 % 4 = 1 then Str.ofString "UTC" else if y / 24 % 4 = 2 then Str.ofString "UT" else Str.ofString "Z"
noncomputable def zW (y : Int) : Str := if y / 288 % 4 = 3 then zName y else zSign y ++ zFig y
noncomputable def zS (y : Int) : Int := if y / 288 % 4 = 3 then 0 else if y / 96 % 3 = 2 then -zSec y else zSec y
end
section
open PySem PySem.W PyProof.Rows
/-- ints one behind the other -/
noncomputable def rangeD (b : Int) (n : Nat) : List D := (List.range n).map fun i => .int (b + (i : Nat))
theorem rangeD_get {b : Int} {n k : Nat} (h : k < n) : (rangeD b n)[k]? = some (.int (b + (k : Nat))) := by simp [rangeD, h]
theorem rangeD_len {b : Int} {n : Nat} : (rangeD b n).length = n := by simp [rangeD]

section
variable {c : Cx} {L : List (Str × D)} {O : List (Addr × List D)} {h h' : Heap} {ds : List D} {s : Shared} {E : Value → Shared → Prop} {I : Addr} {k : Nat}
/-- one more address that the values keep off -/
noncomputable def Cx.off (c : Cx) (I : Addr) : Cx := { c with V := I :: c.V }
theorem mem_off {c : Cx} {I a : Addr} : a ∈ (c.off I).X ↔ a = I ∨ a ∈ c.X := by
  show a ∈ c.W ++ (I :: c.V) ↔ a = I ∨ a ∈ c.W ++ c.V
  simp only [List.mem_append, List.mem_cons]
  constructor
  · rintro (h | h | h) <;> simp [h]
  · rintro (h | h | h) <;> simp [h]
/-- values made ahead of I keep off I -/
theorem Sit.off (S : Sit c L O h) (hI : h.get? I = none) (k : ∀ b o, h.get? b = some o → h'.get? b = some o) (ha : ∃ o, h'.get? I = some o) : Sit (c.off I) L O h' :=
  have hl : ∀ {v d}, RV h c.X v d → RV h' (c.off I).X v d := fun r => (r.less fun a o m e => by
    rcases mem_off.mp m with rfl | m
    · rw [hI] at e; cases e
    · exact m).keep k
  { keep := fun b o e => k b o (S.keep b o e)
    kind := S.kind, gl := S.gl, bl := S.bl
    ns := let ⟨m, hm⟩ := S.ns; ⟨m, hm.keeps k⟩
    wf := fun a ha' => by
      rcases mem_off.mp ha' with rfl | m
      · exact ha
      · let ⟨o, ho⟩ := S.wf a m; exact ⟨o, k _ _ ho⟩
    new := S.new, wl := S.wl, nd := S.nd, inj := S.inj
    wc := fun x a e => let ⟨p, v, o, ho, hd⟩ := S.wc x a e; ⟨p, v, o, k _ _ ho, hd⟩
    names := fun x d e => by
      rcases S.names x d e with ⟨a, m, v, b, q, r⟩ | ⟨a, q, v, b, ⟨o, ho, hd⟩, r⟩
      · exact .inl ⟨a, m, v, b.keeps k, q, hl r⟩
      · exact .inr ⟨a, q, v, b, ⟨o, k _ _ ho, hd⟩, hl r⟩
    own := fun p hp => by
      obtain ⟨a, i, n, b, r⟩ := S.own p hp
      exact ⟨a, i, n, k _ _ b, (r.less fun a o m e => by
        rcases mem_off.mp m with rfl | m
        · rw [hI] at e; cases e
        · exact m).keep k⟩ }
/-- and the other way round -/
theorem Sit.on (S : Sit (c.off I) L O h) : Sit c L O h :=
  have hs : ∀ a, a ∈ c.X → a ∈ (c.off I).X := fun a m => mem_off.mpr (.inr m)
  { keep := S.keep, kind := S.kind, gl := S.gl, bl := S.bl, ns := S.ns, wf := fun a m => S.wf a (hs a m), new := S.new, wl := S.wl, nd := S.nd, inj := S.inj, wc := S.wc
    names := fun x d e => by
      rcases S.names x d e with ⟨a, m, v, b, q, r⟩ | ⟨a, q, v, b, z, r⟩
      · exact .inl ⟨a, m, v, b, q, r.less fun a o m _ => hs a m⟩
      · exact .inr ⟨a, q, v, b, z, r.less fun a o m _ => hs a m⟩
    own := fun p hp => let ⟨a, i, n, b, r⟩ := S.own p hp; ⟨a, i, n, b, r.less fun a o m _ => hs a m⟩ }
/-- only an outer thing turned -/
theorem Sit.outer (S : Sit c L O h) (hI : I ∈ c.V) (hW : I ∉ c.W) (hg : c.g.get? I = none) (hs : Heap.SameBut I h h') (ha : ∃ o, h'.get? I = some o) : Sit c L O h' := by
  have hX : I ∈ c.X := List.mem_append_right _ hI
  have ne : ∀ a, a ∈ c.W → a ≠ I := fun a m e => hW (e ▸ m)
  obtain ⟨m, hm⟩ := S.ns
  exact { keep := fun b o e => (hs.2 b (fun e' => by subst e'; rw [hg] at e; cases e)).trans (S.keep b o e)
          kind := S.kind, gl := S.gl, bl := S.bl, ns := ⟨m, hm.sameBut hs (ne _ S.wl)⟩
          wf := fun a m => alive_same hs ha (S.wf a m)
          new := S.new, wl := S.wl, nd := S.nd, inj := S.inj
          wc := fun x a e => let ⟨p, v, o, ho, hd⟩ := S.wc x a e; ⟨p, v, o, (hs.2 a (ne a p)).trans ho, hd⟩
          names := fun x d e => (S.names x d e).same hs hX (fun _ e' => ne _ S.wl e'.symm) fun b hb e' => ne b (S.wc x b hb).1 e'.symm
          own := fun p hp => own_same hs hX (ne _ (S.own p hp).1) (S.own p hp) }

/-- an iterator over ds, k of them taken -/
noncomputable def ItAt (X : List Addr) (O : List (Addr × List D)) (h : Heap) (I : Addr) (ds : List D) (k : Nat) : Prop :=
  (∃ l vs n, h.IsListIter I l k ∧ l ∉ X ∧ l ≠ I ∧ h.get? l = some { cls := .type "list", data := .seq vs n } ∧ RL h X vs.toList ds) ∨
  (∃ b : Int, IsRangeIter h I (b + (k : Nat)) ((ds.length : Nat) - (k : Nat) : Int) 1 ∧ ds = rangeD b ds.length) ∨
  (∃ l, h.IsListIter I l k ∧ l ≠ I ∧ (l, ds) ∈ O)
theorem ItAt.keep {X : List Addr} (x : ItAt X O h I ds k) (kp : ∀ b o, h.get? b = some o → h'.get? b = some o) : ItAt X O h' I ds k := by
  rcases x with ⟨l, vs, n, a, b, c, d, e⟩ | ⟨b, a, e⟩ | ⟨l, a, b, c⟩
  · exact .inl ⟨l, vs, n, a.at fun o e => kp _ _ e, b, c, kp _ _ d, e.keep kp⟩
  · exact .inr (.inl ⟨b, kp _ _ a, e⟩)
  · exact .inr (.inr ⟨l, a.at fun o e => kp _ _ e, b, c⟩)
/-- the frame's things turned, the iterator did not -/
theorem ItAt.stay {X : List Addr} {O' : List (Addr × List D)} (x : ItAt X O h I ds k) (st : ∀ b o, b ∉ X → h.get? b = some o → h'.get? b = some o) (hI : ∀ o, h.get? I = some o → h'.get? I = some o) (hO : ∀ l, (l, ds) ∈ O → (l, ds) ∈ O') : ItAt X O' h' I ds k := by
  rcases x with ⟨l, vs, n, a, b, c, d, e⟩ | ⟨b, a, e⟩ | ⟨l, a, b, c⟩
  · exact .inl ⟨l, vs, n, a.at hI, b, c, st _ _ b d, e.stay st⟩
  · exact .inr (.inl ⟨b, hI _ a, e⟩)
  · exact .inr (.inr ⟨l, a.at hI, b, hO l c⟩)
theorem ItAt.next {M : Program} {w : World} {A : Around} {d : D} {Q : Option Value → Shared → Prop} (S : Sit c L O s.heap) (x : ItAt c.X O s.heap I ds k) (hIV : I ∈ c.V) (hIW : I ∉ c.W) (hd : ds[k]? = some d) (hg : c.g.get? I = none)
    (hQ : ∀ v h' tk, RV h' c.X v d → ItAt c.X O h' I ds (k + 1) → Sit c L O h' → Heap.SameBut I s.heap h' → Q (some v) { s with heap := h', toks := tk }) : wpAny (model M w) A (pyNext (.ref I)) Q E s := by
  have hIX : I ∈ c.X := List.mem_append_right _ hIV
  have alive : ∀ {h' : Heap} {l i}, h'.IsListIter I l i → ∃ o, h'.get? I = some o := fun ⟨o, ho, _⟩ => ⟨o, ho⟩
  rcases x with ⟨l, vs, n, a, b, q, e, r⟩ | ⟨b, a, e⟩ | ⟨l, a, b, m⟩
  · obtain ⟨v, hv, rv⟩ := r.get hd
    refine wpAny_pyNext_list_item a ⟨_, e, rfl, _, rfl⟩ (x := v) (by simpa using hv) fun h' ha' hs => ?_
    exact hQ v h' s.toks (rv.stay (.of_same hs hIX)) (.inl ⟨l, vs, n, ha', b, q, (hs.2 _ q).trans e, r.stay (.of_same hs hIX)⟩) (S.outer hIV hIW hg hs (alive ha')) hs
  · have hk : k < ds.length := by
      apply Nat.lt_of_not_le; intro z; rw [List.getElem?_eq_none z] at hd; cases hd
    have hd' := hd
    rw [e, rangeD_get hk] at hd'
    cases hd'
    refine wpAny_pyNext_range_item a (by omega) fun h' ha' hs => ?_
    refine hQ _ h' (s.toks + 1) (.int _ _) (.inr (.inl ⟨b, ?_, e⟩)) (S.outer hIV hIW hg hs ⟨_, ha'⟩) hs
    rw [show b + ((k + 1 : Nat) : Int) = b + (k : Nat) + 1 by omega, show ((ds.length : Nat) : Int) - ((k + 1 : Nat) : Int) = (ds.length : Nat) - (k : Nat) - 1 by omega]
    exact ha'
  · obtain ⟨p, vs, n, e, r⟩ := S.own _ m
    obtain ⟨v, hv, rv⟩ := r.get hd
    refine wpAny_pyNext_list_item a ⟨_, e, rfl, _, rfl⟩ (x := v) (by simpa using hv) fun h' ha' hs => ?_
    exact hQ v h' s.toks (rv.stay (.of_same hs hIX)) (.inr (.inr ⟨l, ha', b, m⟩)) (S.outer hIV hIW hg hs (alive ha')) hs
theorem ItAt.item {M : Program} {w : World} {A : Around} {d : D} {Q : Option Value → Shared → Prop} (S : Sit (c.off I) L O s.heap) (x : ItAt (c.off I).X O s.heap I ds k) (hI : I ∉ c.X) (hd : ds[k]? = some d) (hg : c.g.get? I = none)
    (hQ : ∀ v h' tk, RV h' (c.off I).X v d → ItAt (c.off I).X O h' I ds (k + 1) → Sit (c.off I) L O h' → Heap.SameBut I s.heap h' → Q (some v) { s with heap := h', toks := tk }) : wpAny (model M w) A (pyNext (.ref I)) Q E s :=
  ItAt.next S x (.head _) (fun m => hI (List.mem_append_left _ m)) hd hg hQ
theorem ItAt.over {M : Program} {w : World} {A : Around} {Q : Option Value → Shared → Prop} (S : Sit c L O s.heap) (x : ItAt c.X O s.heap I ds k) (hk : k = ds.length) (hh : A.handled = none)
    (hQ : ∀ h', Heap.ExtBut I s.heap h' → Q none { s with heap := h' }) : wpAny (model M w) A (pyNext (.ref I)) Q E s := by
  rcases x with ⟨l, vs, n, a, b, q, e, r⟩ | ⟨b, a, e⟩ | ⟨l, a, b, m⟩
  · refine wpAny_pyNext_list_end hh a ⟨_, e, rfl, _, rfl⟩ ?_ hQ
    have := r.length
    rw [Array.getElem?_eq_none_iff]; simp at this; omega
  · exact wpAny_pyNext_range_end hh a (by omega) hQ
  · obtain ⟨p, vs, n, e, r⟩ := S.own _ m
    refine wpAny_pyNext_list_end hh a ⟨_, e, rfl, _, rfl⟩ ?_ hQ
    have := r.length
    rw [Array.getElem?_eq_none_iff]; simp at this; omega
/-- the iterator handed to iter() again -/
theorem ItAt.self {M : Program} {w : World} {A : Around} {Q : Value → Shared → Prop} {X : List Addr} (x : ItAt X O s.heap I ds k) (hQ : Q (.ref I) s) : wpAny (model M w) A (pyIter (.ref I)) Q E s := by
  rcases x with ⟨l, vs, n, a, _⟩ | ⟨b, a, e⟩ | ⟨l, a, _⟩
  · exact wpAny_pyIter_listiter a hQ
  · exact wpAny_pyIter_rangeiter a hQ
  · exact wpAny_pyIter_listiter a hQ
end
end
section
open PySem PySem.W PyProof.Rows
section
variable {c : Cx} {L : List (Str × D)} {O : List (Addr × List D)} {h h' : Heap} {ds : List D} {s : Shared} {E : Value → Shared → Prop} {I : Addr} {k : Nat}
/-- the iterator is done with -/
theorem Sit.drop (S : Sit (c.off I) L O h) (hI : I ∉ c.X) (hg : c.g.get? I = none) (kp : ∀ b o, b ≠ I → h.get? b = some o → h'.get? b = some o) : Sit c L O h' := by
  have ne : ∀ a, a ∈ c.W → a ≠ I := fun a m e => hI (e ▸ List.mem_append_left _ m)
  have rv : ∀ {v d}, RV h (c.off I).X v d → RV h' c.X v d := fun r => (r.stay (h' := h') (fun b o m e => kp b o (fun q => m (mem_off.mpr (.inl q))) e)).less fun a o m _ => mem_off.mpr (.inr m)
  have rl : ∀ {v d}, RL h (c.off I).X v d → RL h' c.X v d := fun r => (r.stay (h' := h') (fun b o m e => kp b o (fun q => m (mem_off.mpr (.inl q))) e)).less fun a o m _ => mem_off.mpr (.inr m)
  exact { keep := fun b o e => kp b o (fun q => by rw [q, hg] at e; cases e) (S.keep b o e)
          kind := S.kind, gl := S.gl, bl := S.bl
          ns := let ⟨m, hm⟩ := S.ns; ⟨m, hm.at' fun o e => kp _ o (ne _ S.wl) e⟩
          wf := fun a m => let ⟨o, ho⟩ := S.wf a (mem_off.mpr (.inr m)); ⟨o, kp _ _ (fun q => hI (q ▸ m)) ho⟩
          new := S.new, wl := S.wl, nd := S.nd, inj := S.inj
          wc := fun x a e => let ⟨p, v, o, ho, hd⟩ := S.wc x a e; ⟨p, v, o, kp _ _ (ne _ p) ho, hd⟩
          names := fun x d e => by
            rcases S.names x d e with ⟨a, m, v, b, q, r⟩ | ⟨a, q, v, b, ⟨o, ho, hd⟩, r⟩
            · exact .inl ⟨a, m, v, b.at' fun o e => kp _ o (ne _ S.wl) e, q, rv r⟩
            · exact .inr ⟨a, q, v, b, ⟨o, kp _ _ (ne _ (S.wc x q b).1) ho, hd⟩, rv r⟩
          own := fun p hp => let ⟨a, i, n, b, r⟩ := S.own p hp; ⟨a, i, n, kp _ _ (ne _ a) b, rl r⟩ }

/-- a call of a name, whatever comes of it -/
theorem callv_gen {f : Value} {x : Str} {p pos : Pos} {e : Expr} {es : List Expr} {d₁ : D} {ds : List D} {Q : Value → Shared → Prop} (S : Sit c L O s.heap) (hf : Ev c L O (.Name x p) (.fix f)) (hfun : Fun c.g f)
    (hse : backTo pos (starEach (e :: es) c.env) = (false, eval e c.env) :: backTo pos (starEach es c.env)) (ha : Ev c L O e d₁) (has : EvL c L O (backTo pos (starEach es c.env)) ds)
    (hplain : (backTo pos (starEach es c.env)).any (·.1) = false)
    (hc : ∀ s₂ vs, Kp s s₂ → Sit c L O s₂.heap → RL s₂.heap c.X vs (d₁ :: ds) → wpAny (model c.prog c.w) c.A (call f vs []) Q E s₂) : wpAny (model c.prog c.w) c.A (eval (.Call (.Name x p) (e :: es) [] pos) c.env) Q E s := by
  refine wpAny_Call_NameR (wpAny_mono (hf.run s E S) (fun fv s₁ h₁ => ?_) fun _ _ e => e)
  obtain ⟨k₁, r₁⟩ := h₁
  have hfv : fv = f := by (first | cases r₁ using RV.e_fix | cases r₁ using RV.e_cell | cases r₁ using RV.e_none | cases r₁ using RV.e_int | cases r₁ using RV.e_str | cases r₁ using RV.e_lst | cases r₁ using RV.e_tup | cases r₁ using RV.e_mat | cases r₁ using RV.e_bool | cases r₁ using RL.e_nil); rfl
  subst hfv
  rw [hse]
  have key : wpAny (model c.prog c.w) c.A (evalArgs fv true ((false, eval e c.env) :: backTo pos (starEach es c.env)) [])
      (fun a s₂ => ((∀ b o, c.g.get? b = some o → s₂.heap.get? b = some o) ∧ wpAny (model c.prog c.w) c.A (call fv ([] ++ a.pos) a.kw) Q E s₂)) E s₁ := by
    refine Calls.evalArgs_plain (wpAny_mono ((EvL.cons ha has).run s₁ E (k₁.sit S)) (fun vs s₂ h₂ => ?_) fun _ _ e => e)
    have S₂ := (k₁.trans h₂.1).sit S
    exact ⟨S₂.keep, hc s₂ vs (k₁.trans h₂.1) S₂ h₂.2⟩
  have hany : (((false, eval e c.env) :: backTo pos (starEach es c.env)).any (·.1)) = false := by rw [List.any_cons, hplain]; rfl
  rcases hfun with ⟨id, rfl⟩ | ⟨T, rfl⟩ | ⟨a, o, fd, rfl, ho, hd⟩
  · exact Calls.callWith_builtin hany (wpAny_mono key (fun a s₂ h₂ => h₂.2) fun _ _ e => e)
  · exact PyProof.Rows.callWith_type hany (wpAny_mono key (fun a s₂ h₂ => h₂.2) fun _ _ e => e)
  · exact Calls.callWith_function (o := o) (fd := fd) (wpAny_mono key (fun a s₂ h₂ => ⟨⟨h₂.1 _ _ ho, hd⟩, h₂.2⟩) fun _ _ e => e)

/-- what is gone through -/
structure EvI (c : Cx) (L : List (Str × D)) (O : List (Addr × List D)) (iter : Expr) (ds : List D) : Prop where
  run : ∀ s E, Sit c L O s.heap → wpAny (model c.prog c.w) c.A (eval iter c.env) (fun xv s₁ => wpAny (model c.prog c.w) c.A (pyIter xv) (fun it s₂ => ∃ I, it = .ref I ∧ Kp s s₂ ∧ s.heap.get? I = none ∧ (∃ o, s₂.heap.get? I = some o) ∧ ItAt (c.off I).X O s₂.heap I ds 0) E s₁) E s
theorem fresh_none {h : Heap} : h.get? h.objs.size = none := Heap.get?_none_of_le (Nat.le_refl _)
theorem Kp.none {s s' : Shared} (k : Kp s s') {a : Addr} (e : s'.heap.get? a = none) : s.heap.get? a = none := by
  cases q : s.heap.get? a with
  | none => rfl
  | some o => rw [k.keep _ _ q] at e; cases e
theorem EvI.lst {e : Expr} (he : Ev c L O e (.lst ds)) : EvI c L O e ds := by
  constructor; intro s E S
  refine wpAny_mono (he.run s E S) (fun v s₁ h₁ => ?_) fun _ _ e => e
  obtain ⟨k₁, r⟩ := h₁
  have S₁ := k₁.sit S
  cases r using RV.e_lst with
  | lst na ea qa =>
    rename_i l vs n
    refine wpAny_pyIter_list ⟨_, ea, rfl, _, rfl⟩ ⟨s₁.heap.objs.size, rfl, k₁.trans .push, k₁.none fresh_none, ⟨_, Heap.get?_push_size _ rfl⟩, .inl ⟨l, vs, n, ⟨_, Heap.get?_push_size _ rfl, rfl, rfl⟩, ?_, ?_, Heap.get?_push_of_some _ ea, ?_⟩⟩
    · intro m
      rcases mem_off.mp m with rfl | m
      · exact absurd (Heap.lt_size ea) (Nat.lt_irrefl _)
      · exact na m
    · rintro rfl; exact absurd (Heap.lt_size ea) (Nat.lt_irrefl _)
    · refine (qa.less fun a o m e => ?_).keep fun _ _ e => Heap.get?_push_of_some _ e
      rcases mem_off.mp m with rfl | m
      · exact absurd (Heap.lt_size e) (Nat.lt_irrefl _)
      · exact m
theorem EvI.own {e : Expr} {l : Addr} (he : Ev c L O e (.cell l)) (hl : (l, ds) ∈ O) : EvI c L O e ds := by
  constructor; intro s E S
  refine wpAny_mono (he.run s E S) (fun v s₁ h₁ => ?_) fun _ _ e => e
  obtain ⟨k₁, r⟩ := h₁
  have S₁ := k₁.sit S
  obtain ⟨_, vs, n, ea, _⟩ := S₁.own _ hl
  (first | cases r using RV.e_fix | cases r using RV.e_cell | cases r using RV.e_none | cases r using RV.e_int | cases r using RV.e_str | cases r using RV.e_lst | cases r using RV.e_tup | cases r using RV.e_mat | cases r using RV.e_bool | cases r using RL.e_nil)
  refine wpAny_pyIter_list ⟨_, ea, rfl, _, rfl⟩ ⟨s₁.heap.objs.size, rfl, k₁.trans .push, k₁.none fresh_none, ⟨_, Heap.get?_push_size _ rfl⟩, .inr (.inr ⟨l, ⟨_, Heap.get?_push_size _ rfl, rfl, rfl⟩, ?_, hl⟩)⟩
  rintro rfl; exact absurd (Heap.lt_size ea) (Nat.lt_irrefl _)
theorem EvI.rng1 {x : Str} {p pos : Pos} {e : Expr} {n : Nat} (hf : Ev c L O (.Name x p) (.fix (.type "range"))) (hse : backTo pos (starEach [e] c.env) = [(false, eval e c.env)] := by rfl) (he : Ev c L O e (.int (n : Nat))) (hn : n < 1000000) : EvI c L O (.Call (.Name x p) [e] [] pos) (rangeD 0 n) := by
  constructor; intro s E S
  refine callv_gen S hf (.inr (.inl ⟨_, rfl⟩)) hse he EvL.nil rfl fun s₂ vs k S₂ r => ?_
  cases r using RL.e_cons with
  | cons q r =>
    cases r using RL.e_nil
    cases q using RV.e_int with
    | int t =>
      refine call_range_1 ?_
      refine wpAny_pyIter_range (Heap.get?_push_size _ rfl) (small_one (by decide) (by decide) (by omega) (by omega)) ⟨_, rfl, k.trans ⟨_, _, rfl, fun _ _ e => Heap.get?_push_of_some _ (Heap.get?_push_of_some _ e)⟩, ?_, ⟨_, Heap.get?_push_size _ rfl⟩, .inr (.inl ⟨0, ?_, by rw [rangeD_len]⟩)⟩
      · refine k.none (Heap.get?_none_of_le ?_)
        simp only [Heap.size_push]; exact Nat.le_succ _
      · refine (Heap.get?_push_size _ rfl).trans ?_
        rw [rangeD_len]
        have : Builtin.Range.rangeSize 0 (n : Int) 1 = (n : Nat) := by simp [Builtin.Range.rangeSize]; try omega
        rw [this]; simp
end
end
section
open PySem PySem.W PyProof.Rows
section
variable {c : Cx} {L : List (Str × D)} {O : List (Addr × List D)} {h h' : Heap} {ds : List D} {s s₀ : Shared} {E : Value → Shared → Prop} {I : Addr} {k : Nat} {Q : Flow → Shared → Prop} {rest body : List Stmt} {x : Str} {px pos : Pos} {iter : Expr} {g' : Heap}
theorem EvI.rng2 {x : Str} {p pos : Pos} {e₁ e₂ : Expr} {a : Int} {n : Nat} (hf : Ev c L O (.Name x p) (.fix (.type "range"))) (hse : backTo pos (starEach [e₁, e₂] c.env) = (false, eval e₁ c.env) :: backTo pos (starEach [e₂] c.env) := by rfl) (hse' : backTo pos (starEach [e₂] c.env) = [(false, eval e₂ c.env)] := by rfl)
    (h1 : Ev c L O e₁ (.int a)) (h2 : Ev c L O e₂ (.int (a + (n : Nat)))) (hn : n < 1000000) (ha : -1000000 < a ∧ a < 1000000) : EvI c L O (.Call (.Name x p) [e₁, e₂] [] pos) (rangeD a n) := by
  constructor; intro s E S
  refine callv_gen (ds := [.int (a + (n : Nat))]) S hf (.inr (.inl ⟨_, rfl⟩)) hse h1 (by rw [hse']; exact EvL.cons h2 EvL.nil) (by rw [hse']; rfl) fun s₂ vs k S₂ r => ?_
  cases r using RL.e_cons with
  | cons q r =>
    cases r using RL.e_cons with
    | cons q' r =>
    cases r using RL.e_nil
    cases q using RV.e_int with
    | int t =>
    cases q' using RV.e_int with
    | int t' =>
      refine call_range_2 ?_
      refine wpAny_pyIter_range (Heap.get?_push_size _ rfl) (small_one (by omega) (by omega) (by omega) (by omega)) ⟨_, rfl, k.trans ⟨_, _, rfl, fun _ _ e => Heap.get?_push_of_some _ (Heap.get?_push_of_some _ e)⟩, ?_, ⟨_, Heap.get?_push_size _ rfl⟩, .inr (.inl ⟨a, ?_, by rw [rangeD_len]⟩)⟩
      · refine k.none (Heap.get?_none_of_le ?_)
        simp only [Heap.size_push]; exact Nat.le_succ _
      · refine (Heap.get?_push_size _ rfl).trans ?_
        rw [rangeD_len]
        have : Builtin.Range.rangeSize a (a + (n : Nat)) 1 = (n : Nat) := by unfold Builtin.Range.rangeSize; simp; try omega
        rw [this]; simp
/-- the frame seen from a later heap -/
theorem Sit.since (S : Sit c L O h) : Sit { c with g := hideAll h c.W } L O h :=
  { keep := fun b o e => of_hideAll _ e, kind := S.kind, gl := S.gl, bl := S.bl, ns := S.ns, wf := S.wf, new := fun a m => hideAll_none _ m, wl := S.wl, wc := S.wc, inj := S.inj, names := S.names, nd := S.nd, own := S.own }
theorem Sit.before (S : Sit { c with g := g' } L O h) (hk : ∀ b o, c.g.get? b = some o → g'.get? b = some o) : Sit c L O h :=
  { keep := fun b o e => S.keep b o (hk b o e), kind := S.kind, gl := S.gl, bl := S.bl, ns := S.ns, wf := S.wf
    new := fun a m => by
      cases q : c.g.get? a with
      | none => rfl
      | some o => have := S.new a m; rw [show ({ c with g := g' } : Cx).g.get? a = some o from hk _ _ q] at this; cases this
    wl := S.wl, wc := S.wc, inj := S.inj, names := S.names, nd := S.nd, own := S.own }
theorem since_keeps (S : Sit c L O h) : ∀ b o, c.g.get? b = some o → (hideAll h c.W).get? b = some o := fun b o e => hideAll_get _ (S.keep b o e) fun m => by rw [S.new b m] at e; cases e
/-- a turn of a loop is done -/
noncomputable def Turn (s₀ : Shared) (c : Cx) (L : List (Str × D)) (O : List (Addr × List D)) : Flow → Shared → Prop := fun f s => f = .next ∧ From s₀ s ∧ Sit c L O s.heap
theorem Ex.turn {L' : List (Str × D)} (hl : ∀ x d, L'.lookup x = some d → L.lookup x = some d) : Ex s₀ c L O [] (Turn s₀ c L' O) E := Ex.nil fun s f S => ⟨rfl, f, S.weak hl⟩
theorem Nx.turn {c₁ c₂ : Cx} {L₁ L₂ : List (Str × D)} {O₁ O₂ : List (Addr × List D)} (h : Ex s₀ c₁ L₁ O₁ body (Turn s₀ c₂ L₂ O₂) E) : Ex s₀ c₁ L₁ O₁ body (Turn s₀ c₂ L₂ O₂) E := h
theorem Ex.forI (n : Nat) (Lk : Nat → List (Str × D)) (Ok' : Nat → List (Addr × List D)) (hn : ds.length = n) (hi : EvI c L O iter ds) (h0 : ∀ y d, (Lk 0).lookup y = some d → L.lookup y = some d) (hO : Ok' 0 = O) (hx : Room c x) (hh : c.A.handled = none)
    (hb : ∀ k d, ds[k]? = some d → ∀ (I : Addr) (g' : Heap), (∀ b o, c.g.get? b = some o → g'.get? b = some o) →
      Ex s₀ { c.off I with g := g' } ((x, d) :: Lk k) (Ok' k) body (Turn s₀ { c.off I with g := g' } (Lk (k + 1)) (Ok' (k + 1))) (fun _ _ => False))
    (hr : Ex s₀ c (Lk n) (Ok' n) rest Q E) (hown : ∀ l k, k < ds.length → (l, ds) ∈ Ok' k → (l, ds) ∈ Ok' (k + 1) := by intros; assumption) (hfold : ∀ x, foldedSetIterable iter c.env x = pure x := by intro _; rfl) :
    Ex s₀ c L O (.For (.Name x px) iter body [] pos :: rest) Q E := by
  subst hn hO
  constructor; intro s f S
  refine wpAny_execs_cons (wpAny_For (wpAny_mono (hi.run s E S) (fun xv s₁ h₁ => wpAny_mono h₁ (fun it s₂ h₂ => ?_) fun _ _ e => e) fun _ _ e => e) hfold)
  obtain ⟨I, rfl, k₂, hI, haI, it⟩ := h₂
  have hIX : I ∉ c.X := fun m => by obtain ⟨o, ho⟩ := S.wf I m; rw [hI] at ho; cases ho
  have hIg : c.g.get? I = none := by
    cases q : c.g.get? I with
    | none => rfl
    | some o => rw [S.keep _ _ q] at hI; cases hI
  have hIW : I ∉ c.W := fun m => hIX (List.mem_append_left _ m)
  refine codeAny_forLoop (fun m s' => ∃ k, m = ds.length - k ∧ k ≤ ds.length ∧ From s₀ s' ∧ Sit (c.off I) (Lk k) (Ok' k) s'.heap ∧ ItAt (c.off I).X (Ok' k) s'.heap I ds k) ?_ ds.length
    ⟨0, rfl, Nat.zero_le _, f.trans k₂.from, (S.off hI k₂.keep haI).weak h0, it⟩
  rintro m s' ⟨k, rfl, hk, f', S', it'⟩
  by_cases hlt : k < ds.length
  · obtain ⟨d, hd⟩ : ∃ d, ds[k]? = some d := ⟨ds[k], by simp [hlt]⟩
    refine ItAt.item S' it' hIX hd hIg fun v h' tk rv it₂ S₂ hs₂ => ?_
    refine wpAny_assign_Name ?_
    have S₃ := S₂.since
    have gk := since_keeps S₂
    refine store (c := { c.off I with g := hideAll h' c.W }) (s := { s' with heap := h', toks := tk }) S₃ hx rv fun s₄ f₄ S₄ _ => ?_
    have run := (hb k d hd I (hideAll h' c.W) gk).run s₄ ((f'.trans ⟨_, _, rfl⟩).trans f₄) S₄
    refine wpAny_mono run (fun fl s₅ h₅ => ?_) fun _ _ e => e.elim
    obtain ⟨rfl, f₅, S₅⟩ := h₅
    refine ⟨ds.length - (k + 1), by omega, k + 1, rfl, hlt, f₅, S₅.before gk, it₂.stay (fun b o hb e => ?_) (fun o e => ?_) (fun l => hown l k hlt)⟩
    · exact S₅.keep b o (hideAll_get _ e fun m => hb (mem_off.mpr (.inr (List.mem_append_left _ m))))
    · exact S₅.keep I o (hideAll_get _ e hIW)
  · have hke : k = ds.length := by omega
    refine ItAt.over S' it' hke hh fun h' hx' => ?_
    refine wpAny_execs_nil ?_
    subst hke
    exact hr.run _ (f'.trans ⟨_, _, rfl⟩) (S'.drop hIX hIg hx')
end
end
section
open PySem PySem.W PyProof.Rows
section
variable {c : Cx} {L : List (Str × D)} {O : List (Addr × List D)} {h h' : Heap} {ds ds' : List D} {d : D} {s s₀ : Shared} {E : Value → Shared → Prop} {a : Addr} {i k : Nat} {Q : Flow → Shared → Prop} {rest body : List Stmt} {x : Str} {px pos apos npos : Pos} {e : Expr}
/-- one more thing of the frame's own -/
@[reducible] noncomputable def Cx.with (c : Cx) (a : Addr) : Cx := { c with W := a :: c.W }
theorem mem_with {c : Cx} {a b : Addr} : b ∈ (c.with a).X ↔ b = a ∨ b ∈ c.X := by
  show b ∈ (a :: c.W) ++ c.V ↔ b = a ∨ b ∈ c.W ++ c.V
  simp
theorem off_with {c : Cx} {a b : Addr} : b ∈ (c.with a).X ↔ b ∈ (c.off a).X := by rw [mem_with, mem_off]
/-- a list made here -/
structure EvN (c : Cx) (L : List (Str × D)) (O : List (Addr × List D)) (e : Expr) (ds : List D) : Prop where
  run : ∀ s E, Sit c L O s.heap → wpAny (model c.prog c.w) c.A (eval e c.env) (fun v s' => Kp s s' ∧ ∃ a vs n, v = .ref a ∧ s.heap.get? a = none ∧ s'.heap.get? a = some { cls := .type "list", data := .seq vs n } ∧ RL s'.heap (c.off a).X vs.toList ds) E s
theorem EvN.ev (h : EvN c L O e ds) : Ev c L O e (.lst ds) := by
  constructor; intro s E S
  refine wpAny_mono (h.run s E S) (fun v s' h => ?_) fun _ _ e => e
  obtain ⟨k, a, vs, n, rfl, hn, ha, r⟩ := h
  refine ⟨k, .lst (fun m => ?_) ha (r.less fun b o m _ => mem_off.mpr (.inr m))⟩
  obtain ⟨o, ho⟩ := S.wf a m
  rw [hn] at ho; cases ho
theorem EvN.list {es : List Expr} (h : EvL c L O (backTo pos (starEach es c.env)) ds) (hz : ds.length ≤ sizeLine := by decide) : EvN c L O (.List es pos) ds := by
  constructor; intro s E S
  refine wpAny_List_spliced (wpAny_mono (h.run s E S) (fun vs s₁ h₁ => ⟨by rw [h₁.2.length]; exact hz, h₁.1.trans .push, _, _, _, rfl, h₁.1.none fresh_none, Heap.get?_push_size _ rfl, ?_⟩) fun _ _ e => e)
  have := (h₁.2.less (W' := (c.off s₁.heap.objs.size).X) fun b o m e => by
    rcases mem_off.mp m with rfl | m
    · exact absurd (Heap.lt_size e) (Nat.lt_irrefl _)
    · exact m).keep fun _ _ e => Heap.get?_push_of_some { cls := .type "list", data := .seq vs.toArray } e
  simpa using this
/-- a new list becomes the frame's own -/
theorem Sit.adopt (S : Sit c L O h) (hn : h.get? a = none) (k : ∀ b o, h.get? b = some o → h'.get? b = some o) {vs : Array Value} {n : Nat} (ha : h'.get? a = some { cls := .type "list", data := .seq vs n }) (r : RL h' (c.off a).X vs.toList ds) :
    Sit (c.with a) L ((a, ds) :: O) h' := by
  have hl : ∀ {v d}, RV h c.X v d → RV h' (c.with a).X v d := fun r => (r.less fun b o m e => by
    rcases mem_with.mp m with rfl | m
    · rw [hn] at e; cases e
    · exact m).keep k
  exact { keep := fun b o e => k b o (S.keep b o e)
          kind := S.kind, gl := S.gl, bl := S.bl, ns := let ⟨m, hm⟩ := S.ns; ⟨m, hm.keeps k⟩
          wf := fun b m => by
            rcases mem_with.mp m with rfl | m
            · exact ⟨_, ha⟩
            · obtain ⟨o, ho⟩ := S.wf b m; exact ⟨o, k _ _ ho⟩
          new := fun b m => by
            rcases List.mem_cons.mp m with rfl | m
            · cases q : c.g.get? b with
              | none => rfl
              | some o => rw [S.keep _ _ q] at hn; cases hn
            · exact S.new b m
          wl := .tail _ S.wl
          wc := fun x b e => let ⟨p, v, o, ho, hd⟩ := S.wc x b e; ⟨.tail _ p, v, o, k _ _ ho, hd⟩
          inj := S.inj
          names := fun x d e => by
            rcases S.names x d e with ⟨p, m, v, b, q, r⟩ | ⟨p, q, v, b, ⟨o, ho, hd⟩, r⟩
            · exact .inl ⟨p, m, v, b.keeps k, q, hl r⟩
            · exact .inr ⟨p, q, v, b, ⟨o, k _ _ ho, hd⟩, hl r⟩
          nd := by
            rw [List.map_cons, List.nodup_cons]
            refine ⟨fun m => ?_, S.nd⟩
            obtain ⟨p, hp, e⟩ := List.mem_map.mp m
            obtain ⟨_, _, _, ho, _⟩ := S.own p hp
            rw [e, hn] at ho; cases ho
          own := fun p hp => by
            rcases List.mem_cons.mp hp with rfl | hp
            · exact ⟨.head _, vs, n, ha, r.less fun b o m _ => off_with.mp m⟩
            · obtain ⟨p1, i, m, b, q⟩ := S.own p hp
              exact ⟨.tail _ p1, i, m, k _ _ b, (q.less fun b o m e => by
                rcases mem_with.mp m with rfl | m
                · rw [hn] at e; cases e
                · exact m).keep k⟩ }
theorem Ex.own (he : EvN c L O e ds) (hx : Room c x) (h : ∀ a, a ∉ c.X → Ex s₀ (c.with a) ((x, .cell a) :: L) ((a, ds) :: O) rest Q E) (hs : swapsWith e (some (.Name x px)) pos.line c.env = pure false := by rfl) : Ex s₀ c L O (.Assign [.Name x px] e pos :: rest) Q E := by
  constructor; intro s f S
  refine wpAny_execs_cons (wpAny_Assign_Name (wpAny_mono (he.run s E S) (fun v s₁ h₁ => ?_) fun _ _ e => e) hs)
  obtain ⟨k, a, vs, n, rfl, hn, ha, r⟩ := h₁
  exact store (c := c.with a) (S.adopt hn k.keep ha r) hx (.cell a) fun s' f' S' _ => (h a fun m => by obtain ⟨o, e⟩ := S.wf a m; rw [hn] at e; cases e).run s' ((f.trans k.from).trans f') S'
/-- an own list turns -/
theorem Sit.write (S : Sit c L O h) (hO : O[i]? = some (a, ds)) (hs : Heap.SameBut a h h') {vs : Array Value} {n : Nat} (ha : h'.get? a = some { cls := .type "list", data := .seq vs n }) (r : RL h c.X vs.toList ds') : Sit c L (O.set i (a, ds')) h' := by
  have hm : (a, ds) ∈ O := List.mem_of_getElem? hO
  obtain ⟨hW, vs₀, n₀, hold, _⟩ := S.own _ hm
  have hX := S.x_of hW
  obtain ⟨m, hns⟩ := S.ns
  have noL : a ≠ c.env.locals := by
    rintro rfl
    obtain ⟨o', es, ep, ho', hd', _⟩ := hns
    rw [hold] at ho'; cases ho'; cases hd'
  have noC : ∀ x b, c.env.cells.lookup x = some b → a ≠ b := fun x b e q => by
    subst q
    obtain ⟨_, v, o, ho, hd⟩ := S.wc x _ e
    rw [hold] at ho; cases ho; cases hd
  have set1 : (O.set i (a, ds')).map (·.1) = O.map (·.1) := by
    rw [List.map_set]
    apply List.ext_getElem?
    intro j
    rw [List.getElem?_set]
    by_cases hj : i = j
    · subst hj
      have : i < O.length := by apply Nat.lt_of_not_le; intro z; rw [List.getElem?_eq_none z] at hO; cases hO
      simp [this, hO]
      have := List.getElem?_eq_getElem this ▸ hO
      simp at this; simp [this]
    · simp [hj]
  exact { keep := fun b o e => (hs.2 b (fun e' => by subst e'; have := S.new _ hW; rw [show c.g.get? _ = some o from e] at this; cases this)).trans (S.keep b o e)
          kind := S.kind, gl := S.gl, bl := S.bl, ns := ⟨m, hns.sameBut hs (Ne.symm noL)⟩
          wf := fun b m => alive_same hs ⟨_, ha⟩ (S.wf b m)
          new := S.new, wl := S.wl, inj := S.inj
          wc := fun x b e => let ⟨p, v, o, ho, hd⟩ := S.wc x b e; ⟨p, v, o, (hs.2 b (Ne.symm (noC x b e))).trans ho, hd⟩
          names := fun x d e => (S.names x d e).same hs hX (fun _ => noL) fun b hb => noC x b hb
          nd := by rw [set1]; exact S.nd
          own := fun p hp => by
            obtain ⟨j, hj⟩ := List.getElem?_of_mem hp
            rw [List.getElem?_set] at hj
            by_cases hij : i = j
            · rw [if_pos hij] at hj
              split at hj
              · cases hj; exact ⟨hW, vs, n, ha, r.stay (.of_same hs hX)⟩
              · cases hj
            · rw [if_neg hij] at hj
              have hp' : p ∈ O := List.mem_of_getElem? hj
              refine own_same hs hX (fun q => ?_) (S.own p hp')
              have h1 : (O.map (·.1))[i]? = some a := by simp [hO]
              have h2 : (O.map (·.1))[j]? = some a := by simp [hj, q]
              have li : i < (O.map (·.1)).length := by apply Nat.lt_of_not_le; intro z; rw [List.getElem?_eq_none z] at h1; cases h1
              exact hij ((List.getElem?_inj li S.nd).mp (h1.trans h2.symm)) }
end
end
section
open PySem PySem.W PyProof.Rows
set_option maxRecDepth 100000
section
variable {c : Cx} {L : List (Str × D)} {O : List (Addr × List D)} {h h' : Heap} {ds ds' as : List D} {d : D} {s s₀ : Shared} {E : Value → Shared → Prop} {a : Addr} {i k : Nat} {Q : Flow → Shared → Prop} {rest body : List Stmt} {x : Str} {px pos apos npos : Pos} {e o : Expr}
/-- a method of an own list, whatever comes of it -/
theorem meth_gen {name : Str} {id : String} {args : List Expr} {Q : Value → Shared → Prop} (S : Sit c L O s.heap) (ho : Ev c L O o (.cell a)) (hO : (a, ds) ∈ O) (ha : EvL c L O (backTo pos (starEach args c.env)) as)
    (sl : Slot "list" name id) (ty : typeOf (.builtin id) = pure (.type "method_descriptor"))
    (hc : ∀ s₂ vs, Kp s s₂ → Sit c L O s₂.heap → RL s₂.heap c.X vs as → wpAny (model c.prog c.w) c.A (call (.builtin id) (.ref a :: vs) []) Q E s₂)
    (hb : attributeBase o name c.env (eval o c.env) = eval o c.env := by rfl)
    (hform : (((backTo pos (starEach args c.env)).all (fun x => !x.1) && (backToKw pos (keywordEach [] c.env)).all (fun x => x.1.isSome)) && decide ((args.length + ([] : List Keyword).length + if ([] : List Keyword).isEmpty = true then 0 else 1) < 30)) = true := by rfl)
    (hline : (apos.endLine == pos.line) = true := by rfl) (hplain : (backTo pos (starEach args c.env)).any (·.1) = false := by rfl) : wpAny (model c.prog c.w) c.A (eval (.Call (.Attribute o name apos) args [] pos) c.env) Q E s := by
  refine wpAny_Call_method hb hform hline F.plainAttrs_list sl ty (wpAny_mono (ho.run s E S) (fun v s₁ h₁ => ?_) fun _ _ e => e)
  obtain ⟨k₁, r₁⟩ := h₁
  have S₁ := k₁.sit S
  obtain ⟨_, vs, n, ea, _⟩ := S₁.own _ hO
  (first | cases r₁ using RV.e_fix | cases r₁ using RV.e_cell | cases r₁ using RV.e_none | cases r₁ using RV.e_int | cases r₁ using RV.e_str | cases r₁ using RV.e_lst | cases r₁ using RV.e_tup | cases r₁ using RV.e_mat | cases r₁ using RV.e_bool | cases r₁ using RL.e_nil)
  refine ⟨⟨_, ea, rfl⟩, fun b q => by cases q; exact ⟨_, ea, rfl⟩, Calls.callWith_builtin hplain (evalArgsL hplain (wpAny_mono (ha.run s₁ E S₁) (fun vs s₂ h₂ => ?_) fun _ _ e => e))⟩
  exact hc s₂ vs (k₁.trans h₂.1) (h₂.1.sit S₁) h₂.2
theorem upd_self {h : Heap} {a : Addr} {vs : Array Value} {n : Nat} {f : Array Value → Array Value} (ha : h.get? a = some { cls := .type "list", data := .seq vs n }) : ∃ n', (h.update a (Obj.mapSeq f)).get? a = some { cls := .type "list", data := .seq (f vs) n' } :=
  ⟨_, Heap.get?_update_self _ ha rfl⟩
theorem RL.array {h : Heap} {X : List Addr} {vs : Array Value} {ds : List D} (r : RL h X vs.toList ds) : vs.size = ds.length := by have := r.length; simpa using this
/-- list.append -/
theorem Ex.append (hO : O[i]? = some (a, ds)) (ho : Ev c L O o (.cell a)) (he : EvL c L O (backTo pos (starEach [e] c.env)) [d]) (h : Ex s₀ c L (O.set i (a, ds ++ [d])) rest Q E) (hz : ds.length ≤ 1000000 := by decide)
    (hb : attributeBase o (Str.ofString "append") c.env (eval o c.env) = eval o c.env := by rfl)
    (hform : (((backTo pos (starEach [e] c.env)).all (fun x => !x.1) && (backToKw pos (keywordEach [] c.env)).all (fun x => x.1.isSome)) && decide (([e].length + ([] : List Keyword).length + if ([] : List Keyword).isEmpty = true then 0 else 1) < 30)) = true := by rfl)
    (hline : (apos.endLine == pos.line) = true := by rfl) (hplain : (backTo pos (starEach [e] c.env)).any (·.1) = false := by rfl)
    (hi : interactive c.env = false := by rfl) (hs : swapsWith (.Call (.Attribute o (Str.ofString "append") apos) [e] [] pos) none npos.line c.env = pure false := by rfl) :
    Ex s₀ c L O (.Expr (.Call (.Attribute o (Str.ofString "append") apos) [e] [] pos) npos :: rest) Q E := by
  constructor; intro s f S
  refine wpAny_execs_cons (wpAny_Expr (meth_gen S ho (List.mem_of_getElem? hO) he F.slot_list_append F.type_list_append (fun s₂ vs k S₂ r => ?_) hb hform hline hplain) hi hs)
  obtain ⟨_, ws, n, ea, q⟩ := S₂.own _ (List.mem_of_getElem? hO)
  have hsz : ws.size ≤ sizeLine := by rw [q.array]; exact Nat.le_trans hz (by decide)
  cases r using RL.e_cons with
  | cons rv r =>
    cases r using RL.e_nil
    refine wpAny_list_append_plain (hsz := hsz) ⟨n, ea⟩ fun h' hl hs => ?_
    obtain ⟨n', ha'⟩ := hl
    exact h.run _ ((f.trans k.from).trans ⟨_, _, rfl⟩) (S₂.write hO hs ha' (by simpa using q.append (.one rv)))
/-- list.pop, bound to a name -/
theorem Ex.pop (hO : O[i]? = some (a, ds ++ [d])) (ho : Ev c L O o (.cell a)) (hx : Room c x) (h : Ex s₀ c ((x, d) :: L) (O.set i (a, ds)) rest Q E) (hz : ds.length ≤ 1000000)
    (hb : attributeBase o (Str.ofString "pop") c.env (eval o c.env) = eval o c.env := by rfl)
    (hform : (((backTo pos (starEach [] c.env)).all (fun x => !x.1) && (backToKw pos (keywordEach [] c.env)).all (fun x => x.1.isSome)) && decide ((([] : List Expr).length + ([] : List Keyword).length + if ([] : List Keyword).isEmpty = true then 0 else 1) < 30)) = true := by rfl)
    (hline : (apos.endLine == pos.line) = true := by rfl) (hplain : (backTo pos (starEach [] c.env)).any (·.1) = false := by rfl) (hnil : backTo pos (starEach [] c.env) = [] := by rfl)
    (hs : swapsWith (.Call (.Attribute o (Str.ofString "pop") apos) [] [] pos) (some (.Name x px)) npos.line c.env = pure false := by rfl) :
    Ex s₀ c L O (.Assign [.Name x px] (.Call (.Attribute o (Str.ofString "pop") apos) [] [] pos) npos :: rest) Q E := by
  constructor; intro s f S
  refine wpAny_execs_cons (wpAny_Assign_Name (wpAny_Call_method hb hform hline F.plainAttrs_list F.slot_list_pop F.type_list_pop (wpAny_mono (ho.run s E S) (fun v s₂ h₂ => ?_) fun _ _ e => e)) hs)
  obtain ⟨k, r₁⟩ := h₂
  have S₂ := k.sit S
  obtain ⟨_, ws, n, ea, q⟩ := S₂.own _ (List.mem_of_getElem? hO)
  (first | cases r₁ using RV.e_fix | cases r₁ using RV.e_cell | cases r₁ using RV.e_none | cases r₁ using RV.e_int | cases r₁ using RV.e_str | cases r₁ using RV.e_lst | cases r₁ using RV.e_tup | cases r₁ using RV.e_mat | cases r₁ using RV.e_bool | cases r₁ using RL.e_nil)
  refine ⟨⟨_, ea, rfl⟩, fun b q => by cases q; exact ⟨_, ea, rfl⟩, ?_⟩
  have wsz : ws.size = ds.length + 1 := by rw [q.array]; simp
  have hsz : ws.size ≤ sizeLine := by rw [wsz]; exact Nat.le_trans (Nat.succ_le_succ hz) (by decide)
  obtain ⟨v, hv, rv⟩ := q.get (k := ds.length) (x := d) (by simp)
  have hv' : ws[ws.size - 1]? = some v := by rw [wsz]; simpa using hv
  rw [hnil]
  refine PySem.P.pop_list ea hv' ?_ hsz
  obtain ⟨n', ha'⟩ := upd_self (f := (·.eraseIdxIfInBounds (ws.size - 1))) ea
  have rl : RL s₂.heap c.X (ws.eraseIdxIfInBounds (ws.size - 1)).toList ds := by
    have := q.take ds.length
    rw [List.take_left] at this
    have e : (ws.eraseIdxIfInBounds (ws.size - 1)).toList = ws.toList.take ds.length := by
      rw [Array.toList_eraseIdxIfInBounds, wsz, Nat.add_sub_cancel]
      apply List.ext_getElem?
      intro j
      rw [List.getElem?_eraseIdx, List.getElem?_take]
      have l1 : ws.toList.length = ds.length + 1 := by simpa using wsz
      split
      · rfl
      · rw [List.getElem?_eq_none (by omega)]
    rw [e]; exact this
  have hs' := Heap.SameBut.update s₂.heap a (Obj.mapSeq (·.eraseIdxIfInBounds (ws.size - 1)))
  have S₃ := S₂.write hO hs' ha' rl
  refine store (s := { s₂ with heap := s₂.heap.update a (Obj.mapSeq (·.eraseIdxIfInBounds (ws.size - 1))) }) S₃ hx (rv.stay (.of_same hs' (S₂.x_of (S₂.own _ (List.mem_of_getElem? hO)).1))) fun s' f' S' _ => ?_
  exact h.run s' (((f.trans k.from).trans ⟨_, _, rfl⟩).trans f') S'
theorem call_insert {prog : Program} {w : World} {A : Around} {Q : Value → Shared → Prop} {ws : Array Value} {n : Nat} {x : Int} {u : Tok} {y : Value} (ea : s.heap.get? a = some { cls := .type "list", data := .seq ws n }) (hf : Builtin.List.listFitsIndex x = true) (hsz : ws.size ≤ sizeLine)
    (h : Q .none { s with heap := s.heap.update a (Obj.mapSeq fun xs => have k := if x < 0 then Int.toNat (x + ↑(Array.size xs)) else min (Int.toNat x) (Array.size xs); Array.push (Array.extract xs 0 k) y ++ Array.extract xs k) }) :
    wpAny (model prog w) A (call (.builtin "list.insert") [.ref a, .int x u, y]) Q E s :=
  call_meets F.slot_list_insert ⟨_, ea, rfl⟩ F.entry_list_insert (F.args_list_insert_3 _ _ _) (AutoSeq1.list_insert_list_int_val_1 a ws n x u y (by simp [hf]) hsz) ⟨ea, h⟩
/-- list.insert -/
theorem Ex.insert {e₁ e₂ : Expr} {p : Nat} (hO : O[i]? = some (a, ds)) (ho : Ev c L O o (.cell a)) (he : EvL c L O (backTo pos (starEach [e₁, e₂] c.env)) [.int (p : Nat), d]) (hp : p ≤ ds.length) (h : Ex s₀ c L (O.set i (a, ds.take p ++ d :: ds.drop p)) rest Q E) (hz : ds.length ≤ 1000000)
    (hb : attributeBase o (Str.ofString "insert") c.env (eval o c.env) = eval o c.env := by rfl)
    (hform : (((backTo pos (starEach [e₁, e₂] c.env)).all (fun x => !x.1) && (backToKw pos (keywordEach [] c.env)).all (fun x => x.1.isSome)) && decide (([e₁, e₂].length + ([] : List Keyword).length + if ([] : List Keyword).isEmpty = true then 0 else 1) < 30)) = true := by rfl)
    (hline : (apos.endLine == pos.line) = true := by rfl) (hplain : (backTo pos (starEach [e₁, e₂] c.env)).any (·.1) = false := by rfl)
    (hi : interactive c.env = false := by rfl) (hs : swapsWith (.Call (.Attribute o (Str.ofString "insert") apos) [e₁, e₂] [] pos) none npos.line c.env = pure false := by rfl) :
    Ex s₀ c L O (.Expr (.Call (.Attribute o (Str.ofString "insert") apos) [e₁, e₂] [] pos) npos :: rest) Q E := by
  constructor; intro s f S
  refine wpAny_execs_cons (wpAny_Expr (meth_gen S ho (List.mem_of_getElem? hO) he F.slot_list_insert F.type_list_insert (fun s₂ vs k S₂ r => ?_) hb hform hline hplain) hi hs)
  obtain ⟨_, ws, n, ea, q₀⟩ := S₂.own _ (List.mem_of_getElem? hO)
  have q : RL s₂.heap c.X ws.toList ds := q₀
  have hsz : ws.size ≤ sizeLine := by rw [q.array]; exact Nat.le_trans hz (by decide)
  cases r using RL.e_cons with
  | cons r1 r =>
    cases r using RL.e_cons with
    | cons rv r =>
      cases r using RL.e_nil
      cases r1 using RV.e_int with
      | int t =>
        rename_i v
        have fits : Builtin.List.listFitsIndex (p : Int) = true := by
          unfold Builtin.List.listFitsIndex; simp; omega
        refine call_insert ea fits hsz ?_
        have hk : (if (p : Int) < 0 then Int.toNat (p + ↑(Array.size ws)) else min (Int.toNat p) (Array.size ws)) = p := by
          rw [if_neg (by omega), q.array, Int.toNat_natCast]; omega
        generalize hF : (fun xs : Array Value => have k := if (p : Int) < 0 then Int.toNat (p + ↑(Array.size xs)) else min (Int.toNat p) (Array.size xs); Array.push (Array.extract xs 0 k) v ++ Array.extract xs k) = F
        have hFw : F ws = Array.push (Array.extract ws 0 p) v ++ Array.extract ws p := by
          rw [← hF]
          show Array.push (Array.extract ws 0 (if (p : Int) < 0 then Int.toNat (p + ↑(Array.size ws)) else min (Int.toNat p) (Array.size ws))) v ++ Array.extract ws (if (p : Int) < 0 then Int.toNat (p + ↑(Array.size ws)) else min (Int.toNat p) (Array.size ws)) = _
          rw [hk]
        obtain ⟨n', ha'⟩ := upd_self (f := F) ea
        have rl : RL s₂.heap c.X (F ws).toList (ds.take p ++ d :: ds.drop p) := by
          have e1 : (F ws).toList = ws.toList.take p ++ v :: ws.toList.drop p := by
            rw [hFw]; simp
            exact List.take_of_length_le (by simp)
          rw [e1]
          exact (q.take p).append (.cons rv (q.drop p))
        exact h.run _ ((f.trans k.from).trans ⟨_, _, rfl⟩) (S₂.write hO (Heap.SameBut.update ..) ha' rl)
end
end
section
open PySem PySem.W PyProof.Rows
set_option maxRecDepth 10000
section
variable {c : Cx} {L : List (Str × D)} {O : List (Addr × List D)} {h h' : Heap} {ds ds' as : List D} {d : D} {s s₀ : Shared} {E : Value → Shared → Prop} {a : Addr} {i k : Nat} {Q : Flow → Shared → Prop} {rest body : List Stmt} {x : Str} {px pos apos npos : Pos} {e o : Expr}
theorem set_list {prog : Program} {w : World} {A : Around} {Q : Unit → Shared → Prop} {ws : Array Value} {n : Nat} {k : Int} {t : Tok} {v : Value} (ea : s.heap.get? a = some { cls := .type "list", data := .seq ws n }) (h0 : 0 ≤ k) (hj : k < ws.size) (hz : ws.size ≤ 1000000)
    (hQ : ∀ n', (s.heap.update a (Obj.mapSeq (·.setIfInBounds k.toNat v))).get? a = some { cls := .type "list", data := .seq (ws.setIfInBounds k.toNat v) n' } → Q () { s with heap := s.heap.update a (Obj.mapSeq (·.setIfInBounds k.toNat v)) }) :
    wpAny (model prog w) A (setItem (.ref a) (.int k t) v) Q E s := by
  have hl : s.heap.IsList a ws := ⟨_, ea, rfl, _, rfl⟩
  have hfit : k < 2 ^ 63 := by omega
  unfold setItem
  try with_reducible refine wpAny_holding ?_
  first | refine wpAny_bind (wpAny_pure ?_) | skip
  refine wpAny_bind (wpAny_sequenceKey hl.typeIs (by decide) ?_)
  refine wpAny_bind (wpAny_callSpecial?_slot (name := Str.ofString "__setitem__") hl.typeIs slot_list_setitem (wpAny_call_entry slot_list_setitem hl.typeIs entry_list_setitem ?_ (args_list_setitem _ _ _)))
  show wpAny _ _ (Builtin.List.listSubscript? (.int k t) >>= _) _ _ s
  refine wpAny_bind (wpAny_listSubscript_int (fitsIndex_of h0 hfit) ?_)
  clear hfit
  obtain ⟨j, rfl⟩ := Int.eq_ofNat_of_zero_le h0
  have hj' : j < ws.size := by omega
  show wpAny _ _ ((seqItemAt a j >>= fun r => pure (r.map (j, ·))) >>= _) _ _ s
  refine wpAny_bind (wpAny_bind (wpAny_seqItemAt ea rfl (wpAny_pure ?_)))
  rw [show ws[j]? = some ws[j] from Array.getElem?_eq_getElem hj']
  show wpAny _ _ (setSeqItemAt a j v >>= _) _ _ s
  obtain ⟨n', ha'⟩ := upd_self (f := (·.setIfInBounds j v)) ea
  refine wpAny_bind (wpAny_setSeqItemAt ea rfl ?_)
  exact wpAny_pure ⟨.none, rfl, wpAny_pure (hQ n' ha')⟩
/-- an item of an own list is set -/
theorem Ex.setItem {oe ie ve : Expr} {sp : Pos} {p : Nat} (hO : O[i]? = some (a, ds)) (hv : Ev c L O ve d) (ho : Ev c L O oe (.cell a)) (hi : Ev c L O ie (.int (p : Nat))) (hp : p < ds.length) (h : Ex s₀ c L (O.set i (a, ds.set p d)) rest Q E) (hz : ds.length ≤ 1000000)
    (hs : swapsWith ve (some (.Subscript oe ie sp)) pos.line c.env = pure false := by rfl) : Ex s₀ c L O (.Assign [.Subscript oe ie sp] ve pos :: rest) Q E := by
  constructor; intro s f S
  refine wpAny_execs_cons (wpAny_Assign_Subscript (wpAny_mono (hv.run s E S) (fun v s₁ h₁ => ?_) fun _ _ e => e) hs)
  have S₁ := h₁.1.sit S
  refine wpAny_mono (ho.run s₁ E S₁) (fun ov s₂ h₂ => ?_) fun _ _ e => e
  have S₂ := h₂.1.sit S₁
  refine wpAny_mono (hi.run s₂ E S₂) (fun iv s₃ h₃ => ?_) fun _ _ e => e
  have S₃ := h₃.1.sit S₂
  obtain ⟨k₂, r₂⟩ := h₂
  obtain ⟨k₃, r₃⟩ := h₃
  have rv := k₃.rv (k₂.rv h₁.2)
  (first | cases r₂ using RV.e_fix | cases r₂ using RV.e_cell | cases r₂ using RV.e_none | cases r₂ using RV.e_int | cases r₂ using RV.e_str | cases r₂ using RV.e_lst | cases r₂ using RV.e_tup | cases r₂ using RV.e_mat | cases r₂ using RV.e_bool | cases r₂ using RL.e_nil)
  cases r₃ using RV.e_int with
  | int t =>
    obtain ⟨_, ws, n, ea, q₀⟩ := S₃.own _ (List.mem_of_getElem? hO)
    have q : RL s₃.heap c.X ws.toList ds := q₀
    refine set_list ea (by omega) (by rw [q.array]; omega) (by rw [q.array]; exact hz) fun n' ha' => ?_
    rw [Int.toNat_natCast] at ha' ⊢
    exact h.run _ (((f.trans h₁.1.from).trans k₂.from).trans (k₃.from.trans ⟨_, _, rfl⟩)) (S₃.write hO (Heap.SameBut.update ..) ha' (by simpa using q.set p rv))
/-- reads of an own list -/
theorem ItIs.own (hO : (a, ds) ∈ O) {k : Int} (hk : pyIdx ds k = some d) (h1 : -(2 ^ 63) ≤ k := by omega) (h2 : k < 2 ^ 63 := by omega) :
    ∀ (s : Shared) (E : Value → Shared → Prop) (v i : Value), Sit c L O s.heap → RV s.heap c.X v (.cell a) → RV s.heap c.X i (.int k) → s.TypeIs v "list" ∧ wpAny (model c.prog c.w) c.A (getItem v i) (fun v s' => Kp s s' ∧ RV s'.heap c.X v d) E s := by
  intro s E v i S rv ri
  (first | cases rv using RV.e_fix | cases rv using RV.e_cell | cases rv using RV.e_none | cases rv using RV.e_int | cases rv using RV.e_str | cases rv using RV.e_lst | cases rv using RV.e_tup | cases rv using RV.e_mat | cases rv using RV.e_bool | cases rv using RL.e_nil)
  obtain ⟨hW, ws, n, ea, q₀⟩ := S.own _ hO
  have qa : RL s.heap c.X ws.toList ds := q₀
  refine ⟨⟨_, ea, rfl⟩, ?_⟩
  (first | cases ri using RV.e_fix | cases ri using RV.e_cell | cases ri using RV.e_none | cases ri using RV.e_int | cases ri using RV.e_str | cases ri using RV.e_lst | cases ri using RV.e_tup | cases ri using RV.e_mat | cases ri using RV.e_bool | cases ri using RL.e_nil)
  have z := qa.array
  unfold pyIdx at hk
  split at hk
  · rename_i h0
    obtain ⟨y, hy, ry⟩ := qa.get hk
    exact wpAny_getItem_list ⟨_, ea, rfl, _, rfl⟩ h0 h2 (by simpa using hy) ⟨.refl, ry⟩
  · rename_i h0
    split at hk
    · rename_i hn
      obtain ⟨y, hy, ry⟩ := qa.get hk
      exact wpAny_getItem_list_neg ⟨_, ea, rfl, _, rfl⟩ (by omega) (by rw [z]; exact hn) h1 (by rw [z]; simpa using hy) ⟨.refl, ry⟩
    · cases hk
theorem Ev.subOwn {l r : Expr} {k : Int} (hl : Ev c L O l (.cell a)) (hO : (a, ds) ∈ O) (hr : Ev c L O r (.int k)) (hk : pyIdx ds k = some d) (h1 : -(2 ^ 63) ≤ k := by omega) (h2 : k < 2 ^ 63 := by omega)
    (hs : ∀ o i, subscripted r false o i = operate [o, i] (getItem o i) := by intros; rfl) : Ev c L O (.Subscript l r pos) d := by
  constructor; intro s E S
  refine Subscript_ (wpAny_mono (hl.run s E S) (fun va s₁ h₁ => ?_) fun _ _ e => e)
  refine wpAny_mono (hr.run s₁ E (h₁.1.sit S)) (fun vb s₂ h₂ => ?_) fun _ _ e => e
  have ra := h₂.1.rv h₁.2
  obtain ⟨t, g⟩ := ItIs.own (c := c) (L := L) hO hk h1 h2 s₂ E va vb ((h₁.1.trans h₂.1).sit S) ra h₂.2
  exact tail_any (T := "list") (ops := [va, vb]) t PySem.F.slot_list_getitem.lookup (wpAny_mono g (fun v s₃ h₃ => ⟨(h₁.1.trans h₂.1).trans h₃.1, h₃.2⟩) fun _ _ e => e) (hs _ _)
theorem Ev.lenOwn {f : Str} {p : Pos} (hf : Ev c L O (.Name f p) (.fix (.builtin "len"))) (he : Ev c L O e (.cell a)) (hO : (a, ds) ∈ O) (hz : ds.length ≤ 1000000)
    (hse : backTo pos (starEach [e] c.env) = [(false, eval e c.env)] := by rfl) : Ev c L O (.Call (.Name f p) [e] [] pos) (.int ds.length) := by
  constructor; intro s E S
  refine callv_gen S hf (.inl ⟨_, rfl⟩) hse he EvL.nil rfl fun s₂ vs k S₂ r => ?_
  cases r using RL.e_cons with
  | cons q r =>
    cases r using RL.e_nil
    (first | cases q using RV.e_fix | cases q using RV.e_cell | cases q using RV.e_none | cases q using RV.e_int | cases q using RV.e_str | cases q using RV.e_lst | cases q using RV.e_tup | cases q using RV.e_mat | cases q using RV.e_bool | cases q using RL.e_nil)
    obtain ⟨_, ws, n, ea, q₀⟩ := S₂.own _ hO
    have qa : RL s₂.heap c.X ws.toList ds := q₀
    refine PyProof.Rows.len_list ⟨_, ea, rfl, _, rfl⟩ (by rw [qa.array]; omega) ⟨k.trans (.trans .toks .toks), ?_⟩
    rw [qa.array]; exact .int _ _
theorem Ev.sliceOwn {value : Expr} {lower upper : Option Expr} {lo hi : Option Int} {p : Pos} (hv : Ev c L O value (.cell a)) (hO : (a, ds) ∈ O) (hl : EvP c L O lower lo) (hu : EvP c L O upper hi) (hz : ds.length ≤ sizeLine) : Ev c L O (.Subscript value (.Slice lower upper Option.none p) pos) (.lst (Kl.sliceL ds lo hi)) := by
  constructor; intro s E S
  refine Subscript_ (wpAny_mono (hv.run s E S) (fun va s₁ h₁ => ?_) fun _ _ e => e)
  refine wpAny_mono (evalSlice hl hu s₁ E (h₁.1.sit S)) (fun vb s₂ h₂ => ?_) fun _ _ e => e
  obtain ⟨k₁, r₁⟩ := h₁
  obtain ⟨k₂, b, q, q', rfl, hs, rfl, rfl, hso⟩ := h₂
  have S₂ := (k₁.trans k₂).sit S
  have wf := S₂.wf
  (first | cases r₁ using RV.e_fix | cases r₁ using RV.e_cell | cases r₁ using RV.e_none | cases r₁ using RV.e_int | cases r₁ using RV.e_str | cases r₁ using RV.e_lst | cases r₁ using RV.e_tup | cases r₁ using RV.e_mat | cases r₁ using RV.e_bool | cases r₁ using RL.e_nil)
  obtain ⟨_, vs, n, ea, q₀⟩ := S₂.own _ hO
  have qa : RL s₂.heap c.X vs.toList ds := q₀
  have part : ∀ q : Option (Int × Tok), IsPart (partValue q) (q.map (·.1)) := fun q => by cases q <;> first | exact .inl ⟨rfl, rfl⟩ | exact .inr ⟨_, _, rfl, rfl⟩ | constructor
  refine tail_any (T := "list") (ops := [.ref b, .ref a]) ⟨_, ea, rfl⟩ PySem.F.slot_list_getitem.lookup (wpAny_getItem_list_slice ⟨_, ea, rfl, _, rfl⟩ (lo := q.map (·.1)) (hi := q'.map (·.1)) (st := Option.none) (vs := .none) ⟨_, hso, rfl, rfl⟩ (part q) (part q') (part Option.none) (by intro h; cases h) ?_ (by rw [qa.size]; exact hz)) rfl
  refine ⟨(k₁.trans k₂).trans .push, .lst (n := 0) (fresh_not wf) (Heap.get?_push_size _ rfl) ?_⟩
  have := (qa.pick (sliceRange (sliceBounds (q.map (·.1)) (q'.map (·.1)) Option.none ds.length).1 (sliceBounds (q.map (·.1)) (q'.map (·.1)) Option.none ds.length).2.1 (sliceBounds (q.map (·.1)) (q'.map (·.1)) Option.none ds.length).2.2)).keep (h' := s₂.heap.push { cls := .type "list", data := .seq (slicePick vs (q.map (·.1)) (q'.map (·.1)) Option.none) }) fun _ _ e => Heap.get?_push_of_some _ e
  unfold slicePick Kl.sliceL
  rw [qa.size]
  unfold slicePick at this
  rw [qa.size] at this
  exact this
/-- names bound to a tuple's items -/
theorem Ex.unpack2 {x y : Str} {py pt : Pos} {kk : Nat} {d₁ d₂ : D} (he : Ev c L O e (.tup [d₁, d₂])) (hx : Room c x) (hy : Room c y) (hh : c.A.handled = none) (h : Ex s₀ c ((y, d₂) :: (x, d₁) :: L) O rest Q E)
    (hs : swapsWithSole [.Tuple [.Name x px, .Name y py] kk pt] e pos.line c.env = pure false := by rfl) (hw : swappedStores [.Tuple [.Name x px, .Name y py] kk pt] e c.env = pure none := by rfl) :
    Ex s₀ c L O (.Assign [.Tuple [.Name x px, .Name y py] kk pt] e pos :: rest) Q E := by
  constructor; intro s f S
  refine wpAny_execs_cons (wpAny_Assign_stores (wpAny_mono (he.run s E S) (fun v s₁ h₁ => ?_) fun _ _ e => e) hs hw)
  obtain ⟨k, r⟩ := h₁
  have S₁ := k.sit S
  cases r using RV.e_tup with
  | tup na ea qa =>
    rename_i b vs n
    have two : ∃ v₁ v₂, vs = #[v₁, v₂] ∧ RV s₁.heap c.X v₁ d₁ ∧ RV s₁.heap c.X v₂ d₂ := by
      obtain ⟨l⟩ := vs
      cases qa using RL.e_cons with
      | cons r₁ q => cases q using RL.e_cons with
        | cons r₂ q => cases q using RL.e_nil; exact ⟨_, _, rfl, r₁, r₂⟩
    obtain ⟨v₁, v₂, rfl, r₁, r₂⟩ := two
    show wpAny _ _ (assignAll _ [PySem.assign (.Tuple [.Name x px, .Name y py] kk pt) c.env]) _ _ _
    unfold assignAll
    refine wpAny_assign_Tuple hh ⟨_, ea, rfl, _, rfl⟩ rfl rfl fun h' hx' => ?_
    have kp : ∀ b o, s₁.heap.get? b = some o → h'.get? b = some o := fun b o e => hx' b o (fun q => by rw [q] at e; exact absurd (Heap.lt_size e) (Nat.lt_irrefl _)) e
    show wpAny _ _ (assignInOrder [PySem.assign (.Name x px) c.env, PySem.assign (.Name y py) c.env] [v₁, v₂]) _ _ _
    unfold assignInOrder
    refine wpAny_bind (wpAny_holding (wpAny_assign_Name ?_))
    refine store (s := { s₁ with heap := h' }) (S₁.grow kp) hx (r₁.keep kp) fun s₂ f₂ S₂ st₂ => ?_
    unfold assignInOrder
    refine wpAny_bind (wpAny_holding (wpAny_assign_Name ?_))
    have r₂' : RV s₂.heap c.X v₂ d₂ := (r₂.keep kp).stay (st₂.sub fun a m => List.mem_append_left _ m)
    refine store S₂ hy r₂' fun s₃ f₃ S₃ _ => ?_
    unfold assignInOrder
    exact wpAny_pure (h.run s₃ ((((f.trans k.from).trans ⟨_, _, rfl⟩).trans f₂).trans f₃) S₃)
end
end
section
open PySem PySem.W PyProof.Rows
set_option maxRecDepth 10000
/-- where a comprehension's parts stand -/
@[reducible] noncomputable def ccx (c : Cx) (scope : Scope) (cl : List (Str × Addr)) (C D I : Addr) : Cx := { c with W := C :: c.W, V := D :: I :: c.V, env := compEnvC scope cl C c.env }
section
variable {c : Cx} {L Lf : List (Str × D)} {O : List (Addr × List D)} {h h' : Heap} {ds : List D} {d : D} {s s₀ : Shared} {E : Value → Shared → Prop} {a I C Dl : Addr} {k : Nat} {Q : Flow → Shared → Prop} {rest : List Stmt} {x y : Str} {px py pos spos : Pos} {elt iter : Expr} {ifs : List Expr} {scope : Scope} {cl : List (Str × Addr)}
theorem mem_ccx {b : Addr} : b ∈ (ccx c scope cl C Dl I).X ↔ b = C ∨ b = Dl ∨ b = I ∨ b ∈ c.X := by
  show b ∈ (C :: c.W) ++ (Dl :: I :: c.V) ↔ b = C ∨ b = Dl ∨ b = I ∨ b ∈ c.W ++ c.V
  simp only [List.mem_append, List.mem_cons, List.cons_append]
  constructor
  · rintro (h | h | h | h | h) <;> simp [h]
  · rintro (h | h | h | h | h) <;> simp [h]
/-- the tests of a comprehension -/
structure Ifs (c : Cx) (L : List (Str × D)) (O : List (Addr × List D)) (ifs : List Expr) (b : Bool) : Prop where
  run : ∀ s E, Sit c L O s.heap → wpAny (model c.prog c.w) c.A (forIn ifs true fun t r => if r = true then do let ok ← PySem.isTrue t c.env (eval t c.env); pure (ForInStep.yield ok) else pure (ForInStep.yield r)) (fun ok s' => ok = b ∧ Kp s s') E s
theorem Ifs.nil : Ifs c L O [] true := ⟨fun _ _ _ => wpAny_pure ⟨rfl, .refl⟩⟩
theorem Ifs.one {t : Expr} {b : Bool} (h : Tst c L O t b) : Ifs c L O [t] b := by
  constructor; intro s E S
  refine wpAny_forIn_list _ (fun l r s' => (l = [t] ∧ r = true ∧ s' = s) ∨ (l = [] ∧ r = b ∧ Kp s s')) _ ?_ ?_ [t] true (.inl ⟨rfl, rfl, rfl⟩)
  · rintro x rest r s' (⟨e, rfl, rfl⟩ | ⟨e, _⟩)
    · cases e
      rw [if_pos rfl]
      refine wpAny_bind (wpAny_mono (h.run s' E S) (fun ok s₁ h₁ => ?_) fun _ _ e => e)
      exact wpAny_pure (.inr ⟨rfl, h₁.2, h₁.1⟩)
    · cases e
  · rintro r s' (⟨e, _⟩ | ⟨_, rfl, k⟩)
    · cases e
    · exact ⟨rfl, k⟩
/-- the free names of a comprehension stand for what they stand for outside -/
noncomputable def FreeIs (c : Cx) (scope : Scope) (cl : List (Str × Addr)) (L Lf : List (Str × D)) : Prop :=
  ∀ y d, Lf.lookup y = some d → L.lookup y = some d ∧ (c.env.kindOf y = some .cell ∨ c.env.kindOf y = some .free) ∧ ((relabel scope c.env).names.lookup y = some .cell ∨ (relabel scope c.env).names.lookup y = some .free) ∧ cl.lookup y = c.env.cells.lookup y
theorem FreeIs.nil : FreeIs c scope cl L [] := fun y d e => by cases e
theorem FreeIs.cons {l : List (Str × D)} (hl : L.lookup y = some d) (h1 : c.env.kindOf y = some .cell ∨ c.env.kindOf y = some .free) (h2 : (relabel scope c.env).names.lookup y = some .cell ∨ (relabel scope c.env).names.lookup y = some .free) (h3 : cl.lookup y = c.env.cells.lookup y) (h : FreeIs c scope cl L l) : FreeIs c scope cl L ((y, d) :: l) := by
  intro z e hz
  rw [List.lookup_cons] at hz
  split at hz
  · rename_i q
    have : z = y := by simpa using q
    subst this; cases hz
    exact ⟨hl, h1, h2, h3⟩
  · exact h z e hz
theorem not_none {P : Prop} {h : Heap} {b : Addr} {o : Obj} (n : h.get? b = none) (e : h.get? b = some o) : P := absurd (n.symm.trans e) (Option.some_ne_none _).symm
/-- the state of a comprehension's frame -/
theorem Sit.comp (S : Sit c L O h) (hf : FreeIs c scope cl L Lf) (hcl : ∀ x b, cl.lookup x = some b → c.env.cells.lookup x = some b) (hk : scope.kind = .function)
    (nC : h.get? C = none) (nD : h.get? Dl = none) (nI : h.get? I = none) (kp : ∀ b o, h.get? b = some o → h'.get? b = some o) {m : Str → Option Value} (aC : h'.Ns C m) (aD : ∃ o, h'.get? Dl = some o) (aI : ∃ o, h'.get? I = some o) : Sit (ccx c scope cl C Dl I) Lf O h' := by
  have hm : ∀ b o, b ∈ (ccx c scope cl C Dl I).X → h.get? b = some o → b ∈ c.X := fun b o m e =>
    (mem_ccx.mp m).elim (fun q => not_none (q ▸ nC) e) fun m => m.elim (fun q => not_none (q ▸ nD) e) fun m => m.elim (fun q => not_none (q ▸ nI) e) id
  have fresh : ∀ {b}, h.get? b = none → c.g.get? b = none := fun {b} e => by
    cases q : c.g.get? b with
    | none => rfl
    | some o => rw [S.keep _ _ q] at e; cases e
  exact { keep := fun b o e => kp b o (S.keep b o e)
          kind := hk, gl := S.gl, bl := S.bl, ns := ⟨m, aC⟩
          wf := fun b m => by
            rcases mem_ccx.mp m with rfl | rfl | rfl | m
            · obtain ⟨o, _, _, e, _⟩ := aC; exact ⟨o, e⟩
            · exact aD
            · exact aI
            · obtain ⟨o, e⟩ := S.wf b m; exact ⟨o, kp _ _ e⟩
          new := fun b m => by
            rcases List.mem_cons.mp m with rfl | m
            · exact fresh nC
            · exact S.new b m
          wl := .head _
          wc := fun x b e => let ⟨p, v, o, ho, hd⟩ := S.wc x b (hcl x b e); ⟨.tail _ p, v, o, kp _ _ ho, hd⟩
          inj := fun x y b e e' => S.inj x y b (hcl _ _ e) (hcl _ _ e')
          names := fun y d e => by
            obtain ⟨hL, k1, k2, k3⟩ := hf y d e
            rcases S.names y d hL with ⟨p, _⟩ | ⟨p, q, v, b, ⟨o, ho, hd⟩, r⟩
            · exact k1.elim (fun k => absurd (k.symm.trans p) (by decide)) fun k => absurd (k.symm.trans p) (by decide)
            · exact .inr ⟨k2, q, v, k3.trans b, ⟨o, kp _ _ ho, hd⟩, (r.less hm).keep kp⟩
          nd := S.nd
          own := fun p hp => by
            obtain ⟨p1, i, n, b, q⟩ := S.own p hp
            exact ⟨.tail _ p1, i, n, kp _ _ b, (q.less hm).keep kp⟩ }
/-- what is gathered from the first ones -/
noncomputable def gath (t : D → Bool) (f : D → D) (ds : List D) (k : Nat) : List D := ((ds.take k).filter t).map f
theorem gath_all {t : D → Bool} {f : D → D} : gath t f ds ds.length = (ds.filter t).map f := by simp [gath]
theorem gath_succ {t : D → Bool} {f : D → D} (hd : ds[k]? = some d) : gath t f ds (k + 1) = gath t f ds k ++ (if t d then [f d] else []) := by
  unfold gath
  rw [List.take_add_one, hd]
  simp only [Option.toList_some, List.filter_append, List.map_append]
  cases h : t d <;> simp [h]
/-- a comprehension is gone through -/
structure Done (c : Cx) (s₂ : Shared) (C Dl I : Addr) (rs : List D) (s' : Shared) : Prop where
  from_ : From s₂ s'
  C_new : s₂.heap.get? C = none
  D_new : s₂.heap.get? Dl = none
  CD : C ≠ Dl
  C_at : ∃ m, s'.heap.Ns C m
  D_at : ∃ ys n, s'.heap.get? Dl = some { cls := .type "list", data := .seq ys n } ∧ RL s'.heap (C :: Dl :: I :: c.X) ys.toList rs
  keeps : ∀ b o, b ≠ I → s₂.heap.get? b = some o → s'.heap.get? b = some o
theorem ex3 {α β γ : Type} {P : Prop} {p : α → β → γ → Prop} (h : ∃ x y z, p x y z) (k : ∀ x y z, p x y z → P) : P := h.elim fun x h => h.elim fun y h => h.elim fun z h => k x y z h
theorem comp_core {t : D → Bool} {f : D → D} {s₂ : Shared} {RR : Value → Addr → Result → Shared → Prop} (S : Sit c L O s.heap) (hI : s.heap.get? I = none) (k₂ : Kp s s₂) (haI : ∃ o, s₂.heap.get? I = some o) (it : ItAt (c.off I).X O s₂.heap I ds 0)
    (hf : FreeIs c scope cl L Lf) (hcl : ∀ x b, cl.lookup x = some b → c.env.cells.lookup x = some b) (hk : scope.kind = .function) (hcell : ∀ y ∈ scope.names, y.2 ≠ .cell) (hx : scope.names.lookup x = some .local) (hh : c.A.handled = none) (hz : ds.length ≤ 1000000)
    (ht : ∀ d ∈ ds, ∀ C Dl I, Ifs (ccx c scope cl C Dl I) ((x, d) :: Lf) O ifs (t d)) (he : ∀ d ∈ ds, t d = true → ∀ C Dl I, Ev (ccx c scope cl C Dl I) ((x, d) :: Lf) O elt (f d))
    (hR : ∀ C Dl s', Done c s₂ C Dl I ((ds.filter t).map f) s' → RR (.ref Dl) C (.ok .next) s') :
    wpAny (model c.prog c.w) c.A (newList []) (fun acc s₃ => wpAny (model c.prog c.w) c.A (newFunctionEnv scope c.env.globals cl [] c.env.qual none .none (some c.env)) (fun cenv s₄ =>
      codeAny (model c.prog c.w) c.A (.compStart (.ListComp elt [⟨.Name x px, iter, ifs, 0⟩] scope pos) 0 (.ref I) acc { cenv with scope := relabel scope c.env }) (RR acc cenv.locals) s₄) E s₃) E s₂ := by
  refine wpAny_newObj_type (wpAny_newFunctionEnv hcell (by intro y hy; simp at hy) (fun h₁ hns₁ hsb₁ => ?_) hk)
  dsimp only at hns₁ hsb₁ ⊢
  generalize hH2 : s₂.heap.push { cls := .type "list", dict := none, data := .seq ([] : List Value).toArray } = H2 at hns₁ hsb₁ ⊢
  have hC : H2.objs.size = s₂.heap.objs.size + 1 := by rw [← hH2, Heap.size_push]
  generalize hCe : H2.objs.size = C at hns₁ hsb₁ hC ⊢
  generalize hDe : s₂.heap.objs.size = Dl at hC ⊢
  have nC₂ : s₂.heap.get? C = none := Heap.get?_none_of_le (by rw [hC, ← hDe]; exact Nat.le_succ _)
  have nD₂ : s₂.heap.get? Dl = none := Heap.get?_none_of_le (by rw [hDe]; exact Nat.le_refl _)
  have hCD : C ≠ Dl := by rw [hC]; exact Nat.succ_ne_self _
  have old : ∀ b o, s₂.heap.get? b = some o → h₁.get? b = some o := fun b o e => by
    refine (hsb₁.2 b fun q => by rw [q, nC₂] at e; cases e).trans (Heap.get?_push_of_some _ ?_)
    rw [← hH2]; exact Heap.get?_push_of_some _ e
  have aD : h₁.get? Dl = some { cls := .type "list", data := .seq #[] } := by
    refine (hsb₁.2 Dl (Ne.symm hCD)).trans (Heap.get?_push_of_some _ ?_)
    rw [← hH2, ← hDe]; exact Heap.get?_push_size _ rfl
  have nC : s.heap.get? C = none := k₂.none nC₂
  have nD : s.heap.get? Dl = none := k₂.none nD₂
  have hDI : Dl ≠ I := fun q => by obtain ⟨o, e⟩ := haI; rw [← q, nD₂] at e; cases e
  have hCI : C ≠ I := fun q => by obtain ⟨o, e⟩ := haI; rw [← q, nC₂] at e; cases e
  have S₁ : Sit (ccx c scope cl C Dl I) Lf O h₁ := S.comp hf hcl hk nC nD hI (fun b o e => old b o (k₂.keep b o e)) hns₁ ⟨_, aD⟩ (let ⟨o, e⟩ := haI; ⟨o, old _ _ e⟩)
  have fresh : ∀ {b}, s.heap.get? b = none → c.g.get? b = none := fun {b} e => by
    cases q : c.g.get? b with
    | none => rfl
    | some o => rw [S.keep _ _ q] at e; cases e
  have hW : ∀ {b}, s.heap.get? b = none → b ∉ c.W := fun {b} e m => by obtain ⟨o, ho⟩ := S.wf b (List.mem_append_left _ m); rw [e] at ho; cases ho
  have hIW : I ∉ (ccx c scope cl C Dl I).W := fun m => by rcases List.mem_cons.mp m with q | m; exact hCI q.symm; exact hW hI m
  have hDW : Dl ∉ (ccx c scope cl C Dl I).W := fun m => by rcases List.mem_cons.mp m with q | m; exact hCD q.symm; exact hW nD m
  have it₁ : ItAt (ccx c scope cl C Dl I).X O h₁ I ds 0 := by
    have hm : ∀ b o, b ∈ (ccx c scope cl C Dl I).X → s₂.heap.get? b = some o → b ∈ (c.off I).X := fun b o m e =>
      (mem_ccx.mp m).elim (fun q => not_none (q ▸ nC₂) e) fun m => m.elim (fun q => not_none (q ▸ nD₂) e) mem_off.mpr
    rcases it with ⟨l, vs, n, p, b, q, e, r⟩ | ⟨b, p, e⟩ | ⟨l, p, b, m⟩
    · exact .inl ⟨l, vs, n, p.at fun o e => old _ _ e, fun m => b (hm _ _ m e), q, old _ _ e, (r.less hm).keep old⟩
    · exact .inr (.inl ⟨b, old _ _ p, e⟩)
    · exact .inr (.inr ⟨l, p.at fun o e => old _ _ e, b, m⟩)
  have room : Room (ccx c scope cl C Dl I) x := .inl (lookup_relabel_local hx)
  have wk : ∀ d z e, Lf.lookup z = some e → ((x, d) :: Lf).lookup z = some e := fun d z e hz => by
    rw [List.lookup_cons, beq_false_of_ne fun q => (hf z e hz).2.2.1.elim (fun k => absurd ((q ▸ lookup_relabel_local hx :).symm.trans k) (by decide)) fun k => absurd ((q ▸ lookup_relabel_local hx :).symm.trans k) (by decide)]
    exact hz
  have loop : ∀ s₃ : Shared, s₃ = { s₂ with heap := h₁, toks := s₂.toks + ([] : List (Str × Value)).length } →
      codeAny (model c.prog c.w) c.A (.compLoop (.ListComp elt [⟨.Name x px, iter, ifs, 0⟩] scope pos) 0 (.ref I) (.ref Dl) (compEnvC scope cl C c.env)) (RR (.ref Dl) C) s₃ := by
    rintro s₃ rfl
    refine codeAny_compLoop_tests (fun n s' => ∃ k ys m, n = ds.length - k ∧ k ≤ ds.length ∧ From s₂ s' ∧ Sit (ccx c scope cl C Dl I) Lf O s'.heap ∧ ItAt (ccx c scope cl C Dl I).X O s'.heap I ds k ∧
      s'.heap.get? Dl = some { cls := .type "list", data := .seq ys m } ∧ RL s'.heap (ccx c scope cl C Dl I).X ys.toList (gath t f ds k) ∧ (∀ b o, b ≠ I → s₂.heap.get? b = some o → s'.heap.get? b = some o)) ?_ ds.length
      ⟨0, #[], 0, rfl, Nat.zero_le _, ⟨_, _, rfl⟩, S₁, it₁, aD, by simpa [gath] using RL.nil, fun b o _ e => old b o e⟩
    refine fun n s' iv => ex3 iv fun k ys m iv => ?_
    have hn := iv.1; have hkl := iv.2.1; have f' := iv.2.2.1; have S' := iv.2.2.2.1; have it' := iv.2.2.2.2.1; have aD' := iv.2.2.2.2.2.1; have rl' := iv.2.2.2.2.2.2.1; have old' := iv.2.2.2.2.2.2.2
    by_cases hlt : k < ds.length
    · obtain ⟨d, hd⟩ : ∃ d, ds[k]? = some d := ⟨ds[k], by simp [hlt]⟩
      have hmem : d ∈ ds := List.mem_of_getElem? hd
      refine ItAt.next S' it' (.tail _ (.head _)) hIW hd (fresh hI) fun v h₂ tk rv it₂ S₂ hs₂ => ?_
      refine wpAny_assign_Name ?_
      obtain ⟨mC, hmC⟩ := S₂.ns
      have kx : (ccx c scope cl C Dl I).env.kindOf x = some .local := lookup_relabel_local hx
      refine wpAny_storeName_local (env := (ccx c scope cl C Dl I).env) kx hmC (fun h₄ hn₄ hs₄ => ?_) (by simp [compEnvC, relabel, hk])
      have S₄ := S₂.storeLocal kx rv hmC hn₄ hs₄
      replace hs₄ : Heap.SameBut C h₂ h₄ := hs₄
      have nCI : ∀ b o, b ≠ I → s₂.heap.get? b = some o → h₄.get? b = some o := fun b o hb e => (hs₄.2 b fun q => by rw [q, nC₂] at e; cases e).trans ((hs₂.2 b hb).trans (old' b o hb e))
      have aD₄ : h₄.get? Dl = some { cls := .type "list", data := .seq ys m } := (hs₄.2 Dl (Ne.symm hCD)).trans ((hs₂.2 Dl hDI).trans aD')
      have hIX : I ∈ (ccx c scope cl C Dl I).X := mem_ccx.mpr (.inr (.inr (.inl rfl)))
      have hCX : C ∈ (ccx c scope cl C Dl I).X := mem_ccx.mpr (.inl rfl)
      have hDX : Dl ∈ (ccx c scope cl C Dl I).X := mem_ccx.mpr (.inr (.inl rfl))
      have rl₄ : RL h₄ (ccx c scope cl C Dl I).X ys.toList (gath t f ds k) := (rl'.stay (.of_same hs₂ hIX)).stay (.of_same hs₄ hCX)
      have it₄ : ItAt (ccx c scope cl C Dl I).X O h₄ I ds (k + 1) := it₂.stay (fun b o m e => (hs₄.2 b fun q => m (q ▸ hCX)).trans e) (fun o e => (hs₄.2 I (Ne.symm hCI)).trans e) fun l m => m
      refine wpAny_mono ((ht d hmem C Dl I).run _ _ S₄) (fun ok s₅ h₅ => ?_) fun _ _ e => e
      obtain ⟨rfl, k₅⟩ := h₅
      have f₅ : From s₂ s₅ := (f'.trans ⟨_, _, rfl⟩).trans k₅.from
      by_cases htd : t d = true
      · rw [if_pos htd]
        have S₅ := k₅.sit S₄
        refine wpAny_mono ((he d hmem htd C Dl I).run s₅ _ S₅) (fun y s₆ h₆ => ?_) fun _ _ e => e
        obtain ⟨k₆, ry⟩ := h₆
        have S₆ := (k₆.sit S₅).weak (L' := Lf) (wk d)
        have aD₆ : s₆.heap.get? Dl = some { cls := .type "list", data := .seq ys m } := k₆.keep _ _ (k₅.keep _ _ aD₄)
        have rl₆ := k₆.rl (k₅.rl rl₄)
        have len : ys.size ≤ sizeLine := by
          have := rl₆.length
          have l2 : (gath t f ds k).length ≤ ds.length := by
            unfold gath
            rw [List.length_map]
            exact Nat.le_trans (List.length_filter_le _ _) (by rw [List.length_take]; exact Nat.min_le_right _ _)
          have l3 : (1000000 : Nat) ≤ sizeLine := by decide
          simp at this; omega
        refine wpAny_list_append_plain (hsz := len) ⟨m, aD₆⟩ fun h₇ hl₇ hs₇ => ?_
        obtain ⟨m', aD₇⟩ := hl₇
        refine ⟨ds.length - (k + 1), by omega, k + 1, ys.push y, m', rfl, hlt, (f₅.trans k₆.from).trans ⟨_, _, rfl⟩, S₆.outer (.head _) hDW (fresh nD) hs₇ ⟨_, aD₇⟩, ?_, aD₇, ?_, ?_⟩
        · refine (it₄.keep fun b o e => k₆.keep _ _ (k₅.keep _ _ e)).stay (fun b o m e => (hs₇.2 b fun q => m (q ▸ hDX)).trans e) (fun o e => (hs₇.2 I (Ne.symm hDI)).trans e) fun l m => m
        · rw [gath_succ hd, if_pos htd]
          simpa using (rl₆.append (.one ry)).stay (.of_same hs₇ hDX)
        · exact fun b o hb e => (hs₇.2 b fun q => by rw [q, nD₂] at e; cases e).trans (k₆.keep _ _ (k₅.keep _ _ (nCI b o hb e)))
      · rw [if_neg htd]
        have S₅ := (k₅.sit S₄).weak (L' := Lf) (wk d)
        refine ⟨ds.length - (k + 1), by omega, k + 1, ys, m, rfl, hlt, f₅, S₅, it₄.keep k₅.keep, k₅.keep _ _ aD₄, ?_, fun b o hb e => k₅.keep _ _ (nCI b o hb e)⟩
        rw [gath_succ hd, if_neg htd, List.append_nil]
        exact k₅.rl rl₄
    · have hke : k = ds.length := by omega
      refine ItAt.over S' it' hke hh fun h' hx' => ?_
      subst hke
      rw [gath_all] at rl'
      refine hR C Dl _ ⟨f'.trans ⟨_, _, rfl⟩, nC₂, nD₂, hCD, ?_, ⟨ys, m, hx' _ _ hDI aD', ?_⟩, fun b o hb e => hx' b o hb (old' b o hb e)⟩
      · obtain ⟨m, hm⟩ := S'.ns
        exact ⟨m, hm.at' fun o e => hx' _ _ hCI e⟩
      · exact (rl'.stay (h' := h') fun b o m e => hx' b o (fun q => m (mem_ccx.mpr (.inr (.inr (.inl q))))) e).less fun b o m _ => mem_ccx.mpr ((List.mem_cons.mp m).imp id fun m => (List.mem_cons.mp m).imp id List.mem_cons.mp)
  exact codeAny_compStart_list (loop _ rfl) (it₁.self (loop _ rfl))
end
end
section
open PySem PySem.W PyProof.Rows
set_option maxRecDepth 10000
section
variable {c : Cx} {L Lf : List (Str × D)} {O : List (Addr × List D)} {h h' : Heap} {ds : List D} {d : D} {s s₀ : Shared} {E : Value → Shared → Prop} {a I C Dl : Addr} {k : Nat} {Q : Flow → Shared → Prop} {rest body : List Stmt} {x y : Str} {px py pos spos : Pos} {elt iter test : Expr} {ifs : List Expr} {scope : Scope} {cl : List (Str × Addr)}
/-- several new addresses that the values keep off -/
theorem Sit.offs {l : List Addr} (S : Sit c L O h) (hl : ∀ a ∈ l, h.get? a = none) (k : ∀ b o, h.get? b = some o → h'.get? b = some o) (ha : ∀ a ∈ l, ∃ o, h'.get? a = some o) : Sit { c with V := l ++ c.V } L O h' :=
  have mem : ∀ {a o}, a ∈ ({ c with V := l ++ c.V } : Cx).X → h.get? a = some o → a ∈ c.X := fun {a o} m e => by
    rcases List.mem_append.mp m with m | m
    · exact List.mem_append_left _ m
    · rcases List.mem_append.mp m with m | m
      · rw [hl a m] at e; cases e
      · exact List.mem_append_right _ m
  { keep := fun b o e => k b o (S.keep b o e)
    kind := S.kind, gl := S.gl, bl := S.bl
    ns := let ⟨m, hm⟩ := S.ns; ⟨m, hm.keeps k⟩
    wf := fun a m => by
      rcases List.mem_append.mp m with m | m
      · obtain ⟨o, e⟩ := S.wf a (List.mem_append_left _ m); exact ⟨o, k _ _ e⟩
      · rcases List.mem_append.mp m with m | m
        · exact ha a m
        · obtain ⟨o, e⟩ := S.wf a (List.mem_append_right _ m); exact ⟨o, k _ _ e⟩
    new := S.new, wl := S.wl, nd := S.nd, inj := S.inj
    wc := fun x a e => let ⟨p, v, o, ho, hd⟩ := S.wc x a e; ⟨p, v, o, k _ _ ho, hd⟩
    names := fun x d e => by
      rcases S.names x d e with ⟨a, m, v, b, q, r⟩ | ⟨a, q, v, b, ⟨o, ho, hd⟩, r⟩
      · exact .inl ⟨a, m, v, b.keeps k, q, (r.less fun a o m e => mem m e).keep k⟩
      · exact .inr ⟨a, q, v, b, ⟨o, k _ _ ho, hd⟩, (r.less fun a o m e => mem m e).keep k⟩
    own := fun p hp => let ⟨a, i, n, b, r⟩ := S.own p hp; ⟨a, i, n, k _ _ b, (r.less fun a o m e => mem m e).keep k⟩ }
/-- what the values keep off becomes the frame's own -/
theorem Sit.take (S : Sit (c.off a) L O h) (hW : a ∉ c.W) (hg : c.g.get? a = none) {vs : Array Value} {n : Nat} (ha : h.get? a = some { cls := .type "list", data := .seq vs n }) (r : RL h (c.off a).X vs.toList ds) : Sit (c.with a) L ((a, ds) :: O) h :=
  have mm : ∀ {b}, b ∈ (c.with a).X → b ∈ (c.off a).X := fun m => off_with.mp m
  { keep := S.keep, kind := S.kind, gl := S.gl, bl := S.bl, ns := S.ns
    wf := fun b m => S.wf b (mm m)
    new := fun b m => by
      rcases List.mem_cons.mp m with rfl | m
      · exact hg
      · exact S.new b m
    wl := .tail _ S.wl
    wc := fun x b e => let ⟨p, v⟩ := S.wc x b e; ⟨.tail _ p, v⟩
    inj := S.inj
    names := fun x d e => by
      rcases S.names x d e with ⟨p, m, v, b, q, r⟩ | ⟨p, q, v, b, z, r⟩
      · exact .inl ⟨p, m, v, b, q, r.less fun b o m _ => mm m⟩
      · exact .inr ⟨p, q, v, b, z, r.less fun b o m _ => mm m⟩
    nd := by
      rw [List.map_cons, List.nodup_cons]
      refine ⟨fun m => ?_, S.nd⟩
      obtain ⟨p, hp, e⟩ := List.mem_map.mp m
      have e' : p.1 = a := e
      exact hW (e' ▸ (S.own p hp).1)
    own := fun p hp => by
      rcases List.mem_cons.mp hp with rfl | hp
      · exact ⟨.head _, vs, n, ha, r.less fun b o m _ => mm m⟩
      · obtain ⟨p1, i, m, b, q⟩ := S.own p hp
        exact ⟨.tail _ p1, i, m, b, q.less fun b o m _ => mm m⟩ }
theorem Done.kp {rs : List D} {s₂ s' : Shared} (dn : Done c s₂ C Dl I rs s') (k₂ : Kp s s₂) (hI : s.heap.get? I = none) {h'' : Heap} (hs : Heap.SameBut C s'.heap h'') : Kp s { s' with heap := h'' } := by
  have f := k₂.from.trans dn.from_
  obtain ⟨h, t, rfl⟩ := f
  refine ⟨h'', t, rfl, fun b o e => ?_⟩
  have e₂ := k₂.keep _ _ e
  exact (hs.2 b fun q => by rw [q, dn.C_new] at e₂; cases e₂).trans (dn.keeps b o (fun q => by rw [q, hI] at e; cases e) e₂)
theorem EvN.comp {t : D → Bool} {f : D → D} (hi : EvI c L O iter ds) (hclos : closureFor scope c.env = pure cl) (hf : FreeIs c scope cl L Lf) (hcl : ∀ x b, cl.lookup x = some b → c.env.cells.lookup x = some b) (hk : scope.kind = .function) (hcell : ∀ y ∈ scope.names, y.2 ≠ .cell)
    (hnames : ∀ y ∈ scope.names, y.2 = .local → scope.names.lookup y.1 = some .local) (hx : scope.names.lookup x = some .local) (hh : c.A.handled = none) (hz : ds.length ≤ 1000000)
    (ht : ∀ d ∈ ds, ∀ C Dl I, Ifs (ccx c scope cl C Dl I) ((x, d) :: Lf) O ifs (t d)) (he : ∀ d ∈ ds, t d = true → ∀ C Dl I, Ev (ccx c scope cl C Dl I) ((x, d) :: Lf) O elt (f d))
    (hs : ∀ x, foldedSetIterable iter c.env x = pure x := by intro _; rfl) : EvN c L O (.ListComp elt [⟨.Name x px, iter, ifs, 0⟩] scope pos) ((ds.filter t).map f) := by
  constructor; intro s E S
  rw [eval_ListComp]
  refine wpAny_comprehension_free (use := none) rfl hs hclos hk hnames (wpAny_mono (hi.run s E S) (fun xv s₁ h₁ => wpAny_mono h₁ (fun it s₂ h₂ => ?_) fun _ _ e => e) fun _ _ e => e)
  obtain ⟨I, rfl, k₂, hI, haI, it⟩ := h₂
  refine comp_core (RR := fun acc C => compPost (model c.prog c.w) c.A E none _ acc C) S hI k₂ haI it hf hcl hk hcell hx hh hz ht he fun C Dl s' dn => ?_
  obtain ⟨m, hm⟩ := dn.C_at
  refine ⟨m, hm, fun h'' hs'' => ?_⟩
  obtain ⟨ys, n, aD, rl⟩ := dn.D_at
  refine ⟨dn.kp k₂ hI hs'', Dl, ys, n, rfl, k₂.none dn.D_new, (hs''.2 Dl (Ne.symm dn.CD)).trans aD, ?_⟩
  refine (rl.stay (.of_same hs'' (.head _))).less fun b o m _ => ?_
  rcases mem_off.mp m with rfl | m
  · exact .tail _ (.head _)
  · exact .tail _ (.tail _ (.tail _ m))
/-- a comprehension bound to a name: the list is the frame's own -/
theorem Ex.compOwn {t : D → Bool} {f : D → D} (hsw : swapsWith (.ListComp elt [⟨.Name x px, iter, ifs, 0⟩] scope pos) (some (.Name y py)) spos.line c.env = pure true) (hi : EvI c L O iter ds) (hclos : closureFor scope c.env = pure cl) (hf : FreeIs c scope cl L Lf)
    (hcl : ∀ x b, cl.lookup x = some b → c.env.cells.lookup x = some b) (hk : scope.kind = .function) (hcell : ∀ y ∈ scope.names, y.2 ≠ .cell)
    (hnames : ∀ y ∈ scope.names, y.2 = .local → scope.names.lookup y.1 = some .local) (hx : scope.names.lookup x = some .local) (hy : Room c y) (hh : c.A.handled = none) (hz : ds.length ≤ 1000000)
    (ht : ∀ d ∈ ds, ∀ C Dl I, Ifs (ccx c scope cl C Dl I) ((x, d) :: Lf) O ifs (t d)) (he : ∀ d ∈ ds, t d = true → ∀ C Dl I, Ev (ccx c scope cl C Dl I) ((x, d) :: Lf) O elt (f d))
    (h : ∀ a, a ∉ c.X → Ex s₀ (c.with a) ((y, .cell a) :: L) ((a, (ds.filter t).map f) :: O) rest Q E) (hs : ∀ x, foldedSetIterable iter c.env x = pure x := by intro _; rfl) :
    Ex s₀ c L O (.Assign [.Name y py] (.ListComp elt [⟨.Name x px, iter, ifs, 0⟩] scope pos) spos :: rest) Q E := by
  constructor; intro s fr S
  refine wpAny_execs_cons ?_
  rw [exec_Assign_Name_used _ _ _ _ hsw]
  refine wpAny_bind (wpAny_standAt (wpAny_bind ?_))
  show wpAny _ c.A (do let _ ← comprehension (.ListComp elt [⟨.Name x px, iter, ifs, 0⟩] scope pos) scope c.env _ (newList []) false (eval iter c.env) (some (PySem.assign (.Name y py) c.env))) _ _ s
  refine wpAny_bind (wpAny_mono (wpAny_comprehension_free (use := some (PySem.assign (.Name y py) c.env)) (Q := fun _ s' => wpAny (model c.prog c.w) c.A (execs rest c.env) Q E s') rfl hs hclos hk hnames
    (wpAny_mono (hi.run s E S) (fun xv s₁ h₁ => wpAny_mono h₁ (fun it s₂ h₂ => ?_) fun _ _ e => e) fun _ _ e => e)) (fun _ s' hq => wpAny_pure (wpAny_pure hq)) fun _ _ e => e)
  obtain ⟨I, rfl, k₂, hI, haI, it⟩ := h₂
  refine comp_core (RR := fun acc C => compPost (model c.prog c.w) c.A E (some (PySem.assign (.Name y py) c.env)) _ acc C) S hI k₂ haI it hf hcl hk hcell hx hh hz ht he fun C Dl s' dn => ?_
  obtain ⟨m, hm⟩ := dn.C_at
  obtain ⟨ys, n, aD, rl⟩ := dn.D_at
  have kp := dn.kp k₂ hI (h'' := s'.heap) ⟨rfl, fun _ _ => rfl⟩
  have nD := k₂.none dn.D_new
  have nC := k₂.none dn.C_new
  have fresh : ∀ {b}, s.heap.get? b = none → c.g.get? b = none := fun {b} e => by
    cases q : c.g.get? b with
    | none => rfl
    | some o => rw [S.keep _ _ q] at e; cases e
  have hX : ∀ {b}, s.heap.get? b = none → b ∉ c.X := fun {b} e m => by obtain ⟨o, ho⟩ := S.wf b m; rw [e] at ho; cases ho
  have aC : ∃ o, s'.heap.get? C = some o := let ⟨o, _, _, e, _⟩ := hm; ⟨o, e⟩
  have S₁ : Sit ((c.off C).off Dl) L O s'.heap := S.offs (l := [Dl, C]) (fun b hb => by
    rcases List.mem_cons.mp hb with rfl | hb
    · exact nD
    · rcases List.mem_cons.mp hb with rfl | hb
      · exact nC
      · cases hb) kp.keep (fun b hb => by
    rcases List.mem_cons.mp hb with rfl | hb
    · exact ⟨_, aD⟩
    · rcases List.mem_cons.mp hb with rfl | hb
      · exact aC
      · cases hb)
  have S₂ : Sit ((c.with Dl).off C) L ((Dl, (ds.filter t).map f) :: O) s'.heap := S₁.take (c := c.off C) (fun m => hX nD (List.mem_append_left _ m)) (fresh nD) aD (rl.less fun b o m _ => by
    rcases mem_off.mp m with rfl | m
    · exact .tail _ (.head _)
    · rcases mem_off.mp m with rfl | m
      · exact .head _
      · exact .tail _ (.tail _ (.tail _ m)))
  have hCX : C ∉ (c.with Dl).X := fun m => by
    rcases mem_with.mp m with q | m
    · exact dn.CD q
    · exact hX nC m
  show wpAny _ c.A (PySem.assign (.Name y py) c.env (.ref Dl)) _ _ _
  refine wpAny_assign_Name ?_
  refine store (c := (c.with Dl).off C) S₂ hy (.cell Dl) fun s'' f'' S'' st => ?_
  refine ⟨m, hm.at' fun o e => st _ _ (fun m => hCX (List.mem_append_left _ m)) e, fun h₃ hs₃ => ?_⟩
  exact (h Dl (hX nD)).run _ (((fr.trans k₂.from).trans dn.from_).trans (f''.trans ⟨_, _, rfl⟩)) (S''.drop hCX (fresh nC) fun b o hb e => (hs₃.2 b hb).trans e)
end
end
section
open PySem PySem.W PyProof.Rows
set_option maxRecDepth 10000
section
variable {c c₁ : Cx} {L L' Lf : List (Str × D)} {O O' : List (Addr × List D)} {h h' : Heap} {ds : List D} {d : D} {s s₀ : Shared} {E : Value → Shared → Prop} {a I C Dl : Addr} {k : Nat} {Q : Flow → Shared → Prop} {rest body : List Stmt} {x y : Str} {px py pos spos : Pos} {test : Expr}
/-- an own thing is forgotten -/
theorem Sit.forget (S : Sit (c.with a) L ((a, ds) :: O) h) (hl : c.env.locals ∈ c.W) (hc : ∀ x b, c.env.cells.lookup x = some b → b ∈ c.W) (hO : ∀ p ∈ O, p.1 ∈ c.W) : Sit c L O h :=
  have mm : ∀ {b}, b ∈ c.X → b ∈ (c.with a).X := fun m => mem_with.mpr (.inr m)
  { keep := S.keep, kind := S.kind, gl := S.gl, bl := S.bl, ns := S.ns
    wf := fun b m => S.wf b (mm m), new := fun b m => S.new b (.tail _ m), wl := hl
    wc := fun x b e => ⟨hc x b e, (S.wc x b e).2⟩, inj := S.inj
    names := fun x d e => by
      rcases S.names x d e with ⟨p, m, v, b, q, r⟩ | ⟨p, q, v, b, z, r⟩
      · exact .inl ⟨p, m, v, b, q, r.less fun b o m _ => mm m⟩
      · exact .inr ⟨p, q, v, b, z, r.less fun b o m _ => mm m⟩
    nd := (List.nodup_cons.mp S.nd).2
    own := fun p hp => let ⟨_, i, n, b, r⟩ := S.own p (.tail _ hp); ⟨hO p hp, i, n, b, r.less fun b o m _ => mm m⟩ }
theorem Ex.forget (h : Ex s₀ c L O [] Q E) (hl : c.env.locals ∈ c.W) (hc : ∀ x b, c.env.cells.lookup x = some b → b ∈ c.W) (hO : ∀ p ∈ O, p.1 ∈ c.W) : Ex s₀ (c.with a) L ((a, ds) :: O) [] Q E :=
  ⟨fun s f S => h.run s f (S.forget hl hc hO)⟩
/-- while -/
theorem Ex.whileI {σ : Type} {E' : Value → Shared → Prop} (μ : σ → Nat) (Inv : σ → Prop) (b : σ → Bool) (Ls : σ → List (Str × D)) (Os : σ → List (Addr × List D)) (st : σ) (h0 : ∀ y d, (Ls st).lookup y = some d → L.lookup y = some d) (hO : Os st = O) (hi : Inv st)
    (ht : ∀ st, Inv st → Tst c (Ls st) (Os st) test (b st))
    (hb : ∀ st, Inv st → b st = true → Ex s₀ c (Ls st) (Os st) body (fun f s => f = .next ∧ ∃ st', μ st' < μ st ∧ Inv st' ∧ From s₀ s ∧ Sit c (Ls st') (Os st') s.heap) E')
    (hr : ∀ st, Inv st → b st = false → Ex s₀ c (Ls st) (Os st) rest Q E) (hE : ∀ e s, E' e s → notedBy (model c.prog c.w) c.A c.env (fun e s' => cameBackBy (model c.prog c.w) c.A c.env E e s') e s) :
    Ex s₀ c L O (.While test body [] pos :: rest) Q E := by
  subst hO
  constructor; intro s f S
  refine wpAny_execs_cons (wpAny_While ?_)
  refine codeAny_whileLoop (fun n s' => ∃ st, n = μ st ∧ Inv st ∧ From s₀ s' ∧ Sit c (Ls st) (Os st) s'.heap) ?_ (μ st) ⟨st, rfl, hi, f, S.weak h0⟩
  rintro n s' ⟨st, rfl, hi, f', S'⟩
  refine wpAny_mono ((ht st hi).run s' _ S') (fun v s₂ h₂ => ?_) fun _ _ e => e
  obtain ⟨k₂, rfl⟩ := h₂
  cases hv : b st with
  | true =>
    rw [if_pos rfl]
    refine wpAny_mono ((hb st hi hv).run s₂ (f'.trans k₂.from) (k₂.sit S')) (fun fl s₃ h₃ => ?_) hE
    obtain ⟨rfl, st', hlt, hi', f₃, S₃⟩ := h₃
    exact ⟨μ st', hlt, st', rfl, hi', f₃, S₃⟩
  | false =>
    rw [if_neg (by decide)]
    exact wpAny_execs_nil ((hr st hi hv).run s₂ (f'.trans k₂.from) (k₂.sit S'))
/-- an own list handed out -/
inductive Thaw (O : List (Addr × List D)) : D → D → Prop
  | same (d : D) : Thaw O d d
  | lst {a : Addr} {ds : List D} : (a, ds) ∈ O → Thaw O (.cell a) (.lst ds)
  | tup2 {a b a' b' : D} : Thaw O a a' → Thaw O b b' → Thaw O (.tup [a, b]) (.tup [a', b'])
theorem Thaw.rv {d' : D} (t : Thaw O d d') (S : Sit c L O h) (hW : ∀ b ∈ c.W, b ∉ c.V) : ∀ {v : Value}, RV h c.X v d → RV h c.V v d' := by
  have less : ∀ {v d}, RV h c.X v d → RV h c.V v d := fun r => r.less fun b o m _ => List.mem_append_right _ m
  induction t with
  | same d => exact less
  | lst hm =>
    intro v r
    (first | cases r using RV.e_fix | cases r using RV.e_cell | cases r using RV.e_none | cases r using RV.e_int | cases r using RV.e_str | cases r using RV.e_lst | cases r using RV.e_tup | cases r using RV.e_mat | cases r using RV.e_bool | cases r using RL.e_nil)
    obtain ⟨p, vs, n, e, q⟩ := S.own _ hm
    exact .lst (hW _ p) e (q.less fun b o m _ => List.mem_append_right _ m)
  | tup2 _ _ i₁ i₂ =>
    intro v r
    cases r using RV.e_tup with
    | tup na ea qa =>
      refine .tup (fun m => na (List.mem_append_right _ m)) ea ?_
      rename_i b vs n
      obtain ⟨l⟩ := vs
      cases qa using RL.e_cons with
      | cons r₁ q => cases q using RL.e_cons with
        | cons r₂ q => cases q using RL.e_nil; exact .cons (i₁ r₁) (.cons (i₂ r₂) .nil)
theorem Ex.retT {e : Expr} {d' : D} {V : List Addr} (he : Ev c L O e d) (ht : Thaw O d d') (hW : ∀ b ∈ c.W, b ∉ V) (hg : c.g = s₀.heap := by rfl) (hV : c.V = V := by rfl) : Ex s₀ c L O (.Return (some e) pos :: rest) (Ret s₀ V d') E := by
  subst hV
  refine Ex.ret he fun v s f S r => ⟨v, rfl, ?_, ht.rv S hW r⟩
  obtain ⟨h, t, rfl⟩ := f
  exact ⟨h, t, rfl, by rw [← hg]; exact S.keep⟩
end

/-- the frame of a def with cells -/
@[reducible] noncomputable def envC (name : Str) (scope : Scope) (L a : Addr) (cd : Value) : Env := newEnv scope L mainGlobals (cellsFrom (L + 1) scope.names []) (name ++ ".<locals>.") (some a) cd none builtinsNs
theorem lookup_mem {α : Type} {x : Str} {v : α} {l : List (Str × α)} (h : l.lookup x = some v) : (x, v) ∈ l := by
  induction l with
  | nil => simp at h
  | cons p l ih =>
    rw [List.lookup_cons] at h
    split at h
    · rename_i q; cases h; rw [show x = p.1 from by simpa using q]; exact .head _
    · exact .tail _ (ih h)
/-- the cells' places -/
noncomputable def cellW (L : Addr) (scope : Scope) : List Addr := ((cellsFrom (L + 1) scope.names []).filter fun p => (cellsFrom (L + 1) scope.names []).lookup p.1 == some p.2).map (·.2)
theorem cellW_mem {L : Addr} {scope : Scope} {b : Addr} (h : b ∈ cellW L scope) : ∃ n, (cellsFrom (L + 1) scope.names []).lookup n = some b := by
  obtain ⟨p, hp, rfl⟩ := List.mem_map.mp h
  have := (List.mem_filter.mp hp).2
  exact ⟨p.1, by simpa using this⟩
theorem cellW_of {L : Addr} {scope : Scope} {n : Str} {b : Addr} (h : (cellsFrom (L + 1) scope.names []).lookup n = some b) : b ∈ cellW L scope :=
  List.mem_map.mpr ⟨(n, b), List.mem_filter.mpr ⟨lookup_mem h, by simp [h]⟩, rfl⟩
@[reducible] noncomputable def fcxC (prog : Program) (w : World) (A : Around) (h : Heap) (V : List Addr) (name : Str) (scope : Scope) (a : Addr) (cd : Value) : Cx :=
  { prog, w, A := A.deeper (envC name scope h.objs.size a cd), g := h, W := h.objs.size :: cellW h.objs.size scope, V, env := envC name scope h.objs.size a cd }
theorem bindL_local {kindOf : Str → Option NameKind} : ∀ {bs : List (Str × Value)} {m : Str → Option Value} {x : Str}, (∀ p ∈ bs, kindOf p.1 = some .local) → bindL kindOf bs m x = (bs.reverse.lookup x).or (m x)
  | [], m, x, _ => by simp [bindL]
  | (n, v) :: r, m, x, h => by
    unfold bindL
    rw [if_pos (h (n, v) (.head _)), bindL_local fun p hp => h p (.tail _ hp)]
    rw [List.reverse_cons, lookup_append]
    cases hr : r.reverse.lookup x with
    | some v => simp
    | none =>
      simp only [Option.none_or, List.lookup_cons, List.lookup_nil]
      by_cases hx : x = n
      · subst hx; simp
      · rw [if_neg hx, show (x == n) = false from by simpa using hx]; simp
theorem pair_inj {l : List (Str × Addr)} (hp : l.Pairwise fun x y => x.2 ≠ y.2) : ∀ {x y : Str} {a : Addr}, (x, a) ∈ l → (y, a) ∈ l → x = y := by
  induction l with
  | nil => intro x y a h; cases h
  | cons p l ih =>
    intro x y a h1 h2
    rw [List.pairwise_cons] at hp
    rcases List.mem_cons.mp h1 with e1 | h1
    · rcases List.mem_cons.mp h2 with e2 | h2
      · rw [← e1] at e2; cases e2; rfl
      · exact absurd (by rw [← e1]) (hp.1 _ h2)
    · rcases List.mem_cons.mp h2 with e2 | h2
      · exact absurd (by rw [← e2]) (hp.1 _ h1)
      · exact ih hp.2 h1 h2
theorem Con.fnC {prog : Program} {w : World} {A : Around} {g : Heap} {V : List Addr} {fa : Addr} {name : Str} {params : Arguments} {body : List Stmt} {scope : Scope} {ds : List D} {d : D} {n : Nat} (nm : List Str) (loc : List (Str × D)) (hzip : nm.zip ds = loc)
    (F : FnAt g fa name params body scope) (nl : g.NoLimit) (ok : Ok (n + 1) A) (hnm : nm.length = ds.length) (hnd : nm.Nodup)
    (hb : ∀ pm cd doc vs, vs.length = nm.length → bindArgs (Calls.docDef name params body scope pm cd doc) ⟨vs, []⟩ = pure (nm.zip vs))
    (hloc : ∀ x ∈ nm, scope.names.lookup x = some .local)
    (h : ∀ (s₀ : Shared) (cd : Value), (∀ b o, g.get? b = some o → s₀.heap.get? b = some o) → (∀ b ∈ (fcxC prog w A s₀.heap V name scope fa cd).W, b ∉ V) →
      Ex s₀ (fcxC prog w A s₀.heap V name scope fa cd) loc [] body (Ret s₀ V d) (fun _ _ => False))
    (hco : scope.isCoroutine = false := by rfl) (hgen : scope.isGenerator = false := by rfl) (hk : scope.kind = .function := by rfl) :
    Con prog w A g V (.ref fa) ds d := by
  subst hzip
  constructor; intro s E vs hg wf hr
  obtain ⟨o, pm, cd, doc, ho, hd, hrec⟩ := F
  have hlen : vs.length = nm.length := by rw [hr.length, hnm]
  have hmap : (nm.zip vs).map (·.1) = nm := by rw [List.map_fst_zip]; omega
  have hbl : ∀ p ∈ nm.zip vs, scope.names.lookup p.1 = some .local := fun p hp => hloc _ (by rw [← hmap]; exact List.mem_map.mpr ⟨p, hp, rfl⟩)
  refine wpAny_call (codeAny_call_cells ok.room (hg _ _ ho) hd (nl.keeps hg) (hrec.keeps hg) rfl (hb pm cd doc vs hlen) rfl (fun p hp => .inl (hbl p hp)) ?_ hco hgen hk)
  intro s₁ F₁
  have hns : s₁.heap.Ns s.heap.objs.size (bindL (fun x => scope.names.lookup x) (nm.zip vs) fun _ => none) := F₁.toInCall.ns
  have hcell : ∀ n c, (cellsFrom (s.heap.objs.size + 1) scope.names []).lookup n = some c → ∃ v, s₁.heap.IsCell c v := fun n c e => ⟨_, F₁.cell n c e⟩
  have memW : ∀ b, b ∈ cellW s.heap.objs.size scope → s.heap.objs.size < b := fun b m => by
    obtain ⟨n, hn⟩ := cellW_mem m
    exact F₁.above n b (lookup_mem hn)
  have hWV : ∀ b ∈ (fcxC prog w A s.heap V name scope fa cd).W, b ∉ V := fun b hb hv => by
    obtain ⟨o, e⟩ := wf b hv
    rcases List.mem_cons.mp hb with rfl | hb
    · exact absurd (Heap.lt_size e) (Nat.lt_irrefl _)
    · exact absurd (Heap.lt_size e) (Nat.not_lt.mpr (Nat.le_of_lt (memW b hb)))
  have S : Sit (fcxC prog w A s.heap V name scope fa cd) (nm.zip ds) [] s₁.heap := {
    keep := F₁.toInCall.keep
    kind := hk, gl := rfl, bl := rfl
    ns := ⟨_, hns⟩
    wf := fun b hb => by
      rcases List.mem_append.mp hb with hb | hb
      · rcases List.mem_cons.mp hb with rfl | hb
        · obtain ⟨o, _, _, e, _⟩ := hns; exact ⟨o, e⟩
        · obtain ⟨n, hn⟩ := cellW_mem hb
          obtain ⟨v, o, e, _⟩ := hcell n b hn
          exact ⟨o, e⟩
      · obtain ⟨o, e⟩ := wf b hb; exact ⟨o, F₁.toInCall.keep _ _ e⟩
    new := fun b hb => by
      rcases List.mem_cons.mp hb with rfl | hb
      · exact Heap.get?_none_of_le (Nat.le_refl _)
      · exact Heap.get?_none_of_le (Nat.le_of_lt (memW b hb))
    wl := .head _
    wc := fun x b e => ⟨.tail _ (cellW_of e), hcell x b e⟩
    inj := fun x y b e e' => pair_inj F₁.apart (lookup_mem e) (lookup_mem e')
    nd := List.nodup_nil
    own := fun p hp => by cases hp
    names := fun x d e => by
      obtain ⟨hx, v, hv, r⟩ := RL.zip hr hnd e
      refine .inl ⟨hloc x hx, _, v, hns, ?_, ?_⟩
      · rw [bindL_local hbl, lookup_reverse (by rw [hmap]; exact hnd), hv]; rfl
      · refine (r.less (W' := (fcxC prog w A s.heap V name scope fa cd).X) fun b o hb hbo => ?_).keep F₁.toInCall.keep
        rcases List.mem_append.mp hb with hb | hb
        · rcases List.mem_cons.mp hb with rfl | hb
          · exact absurd (Heap.lt_size hbo) (Nat.lt_irrefl _)
          · exact absurd (Heap.lt_size hbo) (Nat.not_lt.mpr (Nat.le_of_lt (memW b hb)))
        · exact hb }
  refine wpAny_mono ((h s cd hg hWV).run s₁ F₁.toInCall.same S) (fun f s' z => ?_) fun _ _ e => e.elim
  obtain ⟨v, rfl, k, r⟩ := z
  exact ⟨k, r⟩
end
section
open PySem PySem.W PyProof.Rows
set_option maxRecDepth 10000
section
variable {c : Cx} {L Lf : List (Str × D)} {O : List (Addr × List D)} {h h' : Heap} {ds : List D} {d : D} {s s₀ : Shared} {E : Value → Shared → Prop} {a I C Dl : Addr} {k : Nat} {Q : Flow → Shared → Prop} {rest body : List Stmt} {x y : Str} {px py pos spos : Pos} {elt iter test : Expr} {ifs : List Expr} {scope : Scope} {cl : List (Str × Addr)}
/-- a comprehension bound to a name: a list that stays as it is -/
theorem Ex.compLst {t : D → Bool} {f : D → D} (hsw : swapsWith (.ListComp elt [⟨.Name x px, iter, ifs, 0⟩] scope pos) (some (.Name y py)) spos.line c.env = pure true) (hi : EvI c L O iter ds) (hclos : closureFor scope c.env = pure cl) (hf : FreeIs c scope cl L Lf)
    (hcl : ∀ x b, cl.lookup x = some b → c.env.cells.lookup x = some b) (hk : scope.kind = .function) (hcell : ∀ y ∈ scope.names, y.2 ≠ .cell)
    (hnames : ∀ y ∈ scope.names, y.2 = .local → scope.names.lookup y.1 = some .local) (hx : scope.names.lookup x = some .local) (hy : Room c y) (hh : c.A.handled = none) (hz : ds.length ≤ 1000000)
    (ht : ∀ d ∈ ds, ∀ C Dl I, Ifs (ccx c scope cl C Dl I) ((x, d) :: Lf) O ifs (t d)) (he : ∀ d ∈ ds, t d = true → ∀ C Dl I, Ev (ccx c scope cl C Dl I) ((x, d) :: Lf) O elt (f d))
    (h : Ex s₀ c ((y, .lst ((ds.filter t).map f)) :: L) O rest Q E) (hs : ∀ x, foldedSetIterable iter c.env x = pure x := by intro _; rfl) :
    Ex s₀ c L O (.Assign [.Name y py] (.ListComp elt [⟨.Name x px, iter, ifs, 0⟩] scope pos) spos :: rest) Q E := by
  constructor; intro s fr S
  refine wpAny_execs_cons ?_
  rw [exec_Assign_Name_used _ _ _ _ hsw]
  refine wpAny_bind (wpAny_standAt (wpAny_bind ?_))
  show wpAny _ c.A (do let _ ← comprehension (.ListComp elt [⟨.Name x px, iter, ifs, 0⟩] scope pos) scope c.env _ (newList []) false (eval iter c.env) (some (PySem.assign (.Name y py) c.env))) _ _ s
  refine wpAny_bind (wpAny_mono (wpAny_comprehension_free (use := some (PySem.assign (.Name y py) c.env)) (Q := fun _ s' => wpAny (model c.prog c.w) c.A (execs rest c.env) Q E s') rfl hs hclos hk hnames
    (wpAny_mono (hi.run s E S) (fun xv s₁ h₁ => wpAny_mono h₁ (fun it s₂ h₂ => ?_) fun _ _ e => e) fun _ _ e => e)) (fun _ s' hq => wpAny_pure (wpAny_pure hq)) fun _ _ e => e)
  obtain ⟨I, rfl, k₂, hI, haI, it⟩ := h₂
  refine comp_core (RR := fun acc C => compPost (model c.prog c.w) c.A E (some (PySem.assign (.Name y py) c.env)) _ acc C) S hI k₂ haI it hf hcl hk hcell hx hh hz ht he fun C Dl s' dn => ?_
  obtain ⟨m, hm⟩ := dn.C_at
  obtain ⟨ys, n, aD, rl⟩ := dn.D_at
  have kp := dn.kp k₂ hI (h'' := s'.heap) ⟨rfl, fun _ _ => rfl⟩
  have nD := k₂.none dn.D_new
  have nC := k₂.none dn.C_new
  have fresh : ∀ {b}, s.heap.get? b = none → c.g.get? b = none := fun {b} e => by
    cases q : c.g.get? b with
    | none => rfl
    | some o => rw [S.keep _ _ q] at e; cases e
  have hX : ∀ {b}, s.heap.get? b = none → b ∉ c.X := fun {b} e m => by obtain ⟨o, ho⟩ := S.wf b m; rw [e] at ho; cases ho
  have aC : ∃ o, s'.heap.get? C = some o := let ⟨o, _, _, e, _⟩ := hm; ⟨o, e⟩
  have S₁ : Sit (c.off C) L O s'.heap := S.off nC kp.keep aC
  have hDC : Dl ∉ (c.off C).X := fun m => by
    rcases mem_off.mp m with q | m
    · exact dn.CD q.symm
    · exact hX nD m
  have rv : RV s'.heap (c.off C).X (.ref Dl) (.lst ((ds.filter t).map f)) := .lst hDC aD (rl.less fun b o m _ => by
    rcases mem_off.mp m with rfl | m
    · exact .head _
    · exact .tail _ (.tail _ (.tail _ m)))
  show wpAny _ c.A (PySem.assign (.Name y py) c.env (.ref Dl)) _ _ _
  refine wpAny_assign_Name ?_
  refine store (c := c.off C) S₁ hy rv fun s'' f'' S'' st => ?_
  refine ⟨m, hm.at' fun o e => st _ _ (fun m => hX nC (List.mem_append_left _ m)) e, fun h₃ hs₃ => ?_⟩
  exact h.run _ (((fr.trans k₂.from).trans dn.from_).trans (f''.trans ⟨_, _, rfl⟩)) (S''.drop (hX nC) (fresh nC) fun b o hb e => (hs₃.2 b hb).trans e)
end
end
section
open PySem PySem.W PyProof.Rows PySem.Sre
/-- n steps lead from m to r -/
noncomputable def Runs (n : Nat) (m r : Sre.M) : Prop := m.runFor n = r
theorem Runs.zero {m : Sre.M} : Runs 0 m m := rfl
theorem Runs.step {n : Nat} {m m₁ r : Sre.M} (ho : m.outcome = none) (h : m.step = m₁) (q : Runs n m₁ r) : Runs (n + 1) m r := by
  show (if m.outcome.isSome then m else Sre.M.runFor n m.step) = r
  rw [ho, h]; exact q
theorem Runs.trans {n k : Nat} {m m₁ r : Sre.M} (p : Runs n m m₁) (q : Runs k m₁ r) : Runs (n + k) m r := by
  induction n generalizing m with
  | zero => rw [Nat.zero_add, show m = m₁ from p]; exact q
  | succ n ih =>
    rw [Nat.add_right_comm]
    show (if m.outcome.isSome then m else Sre.M.runFor (n + k) m.step) = r
    have p' : (if m.outcome.isSome then m else Sre.M.runFor n m.step) = m₁ := p
    by_cases h : m.outcome.isSome = true
    · rw [if_pos h] at p' ⊢
      subst p'
      have stay : ∀ k, Sre.M.runFor k m = m := fun k => by cases k with | zero => rfl | succ k => show (if m.outcome.isSome then m else _) = m; rw [if_pos h]
      rw [← show Sre.M.runFor k m = r from q, stay]
    · rw [if_neg h] at p' ⊢
      exact ih p'
theorem Runs.stay {k : Nat} {m : Sre.M} (h : m.outcome.isSome = true) : m.runFor k = m := by
  cases k with | zero => rfl | succ k => show (if m.outcome.isSome then m else _) = m; rw [if_pos h]

section
variable {m : Sre.M} (ho : m.outcome = none) (ha : m.answer = none) (hp : m.pc < m.code.size)
include ho ha hp
theorem step_exec : m.step = m.exec := by
  unfold Sre.M.step
  rw [ho, ha]; simp only [Option.isSome_none, Bool.false_eq_true, if_false]
  rw [if_pos hp]
theorem step_at {k q : Nat} (w0 : m.code.getD m.pc 0 = 6) (w1 : m.code.getD (m.pc + 1) 0 = k) (w2 : m.pc + 2 = q) (h : m.isAt k = .ok true) : m.step = { m with seen := (m.seen.add 6).add (43 + k), pc := q } := by
  subst w2
  rw [step_exec ho ha hp]
  unfold Sre.M.exec Sre.M.word
  subst w1
  rw [Nat.add_zero, w0]
  simp only [show ops[6]? = some .AT from rfl]
  rw [show Sre.M.isAt { m with seen := m.seen.add 6 } _ = .ok true from h]
  rfl
theorem step_atNo {k : Nat} (w0 : m.code.getD m.pc 0 = 6) (w1 : m.code.getD (m.pc + 1) 0 = k) (h : m.isAt k = .ok false) : m.step = { m with seen := (m.seen.add 6).add (43 + k), answer := some false } := by
  rw [step_exec ho ha hp]
  unfold Sre.M.exec Sre.M.word
  subst w1
  rw [Nat.add_zero, w0]
  simp only [show ops[6]? = some .AT from rfl]
  rw [show Sre.M.isAt { m with seen := m.seen.add 6 } _ = .ok false from h]
  rfl
theorem step_mark {i : Nat} (w0 : m.code.getD m.pc 0 = 17) (w1 : m.code.getD (m.pc + 1) 0 = i) : m.step = { m with seen := m.seen.add 17 }.mark i := by
  rw [step_exec ho ha hp]
  unfold Sre.M.exec Sre.M.word
  subst w1
  rw [Nat.add_zero, w0]
  simp only [show ops[17]? = some .MARK from rfl]
theorem step_jump {q : Nat} (w0 : m.code.getD m.pc 0 = 15) (w1 : m.pc + 1 + m.code.getD (m.pc + 1) 0 = q) : m.step = { m with seen := m.seen.add 15, pc := q } := by
  subst w1
  rw [step_exec ho ha hp]
  unfold Sre.M.exec Sre.M.word
  rw [Nat.add_zero, w0]
  simp only [show ops[15]? = some .JUMP from rfl]
theorem step_lit {c q : Nat} (w0 : m.code.getD m.pc 0 = 16) (w1 : m.code.getD (m.pc + 1) 0 = c) (w2 : m.pc + 2 = q) (hl : m.pos < m.lim) (hc : m.text.getD m.pos 0 = c) : m.step = { m with seen := m.seen.add 16, pc := q, pos := m.pos + 1 } := by
  subst w2
  rw [step_exec ho ha hp]
  unfold Sre.M.exec Sre.M.word
  rw [Nat.add_zero, w0]
  simp only [show ops[16]? = some .LITERAL from rfl]
  rw [if_neg (Nat.not_le.mpr hl)]
  unfold accepts itemWidth
  simp only [w0, w1, show ops[16]? = some .LITERAL from rfl, hc, beq_self_eq_true]
theorem step_litNo {c : Nat} (w0 : m.code.getD m.pc 0 = 16) (w1 : m.code.getD (m.pc + 1) 0 = c) (hc : m.pos < m.lim → m.text.getD m.pos 0 ≠ c) : m.step = { m with seen := m.seen.add 16, answer := some false } := by
  rw [step_exec ho ha hp]
  unfold Sre.M.exec Sre.M.word
  rw [Nat.add_zero, w0]
  simp only [show ops[16]? = some .LITERAL from rfl]
  by_cases hl : m.pos < m.lim
  · rw [if_neg (Nat.not_le.mpr hl)]
    unfold accepts
    simp only [w0, w1, show ops[16]? = some .LITERAL from rfl, beq_false_of_ne (hc hl)]
    rfl
  · rw [if_pos (Nat.le_of_not_lt hl)]; rfl
theorem step_any {q : Nat} (w0 : m.code.getD m.pc 0 = 2) (w2 : m.pc + 1 = q) (hl : m.pos < m.lim) (hc : m.text.getD m.pos 0 ≠ 10) : m.step = { m with seen := m.seen.add 2, pc := q, pos := m.pos + 1 } := by
  subst w2
  rw [step_exec ho ha hp]
  unfold Sre.M.exec Sre.M.word
  rw [Nat.add_zero, w0]
  simp only [show ops[2]? = some .ANY from rfl]
  rw [if_neg (Nat.not_le.mpr hl)]
  unfold accepts itemWidth
  have : (m.text.getD m.pos 0 != 10) = true := by simpa using hc
  simp only [w0, show ops[2]? = some .ANY from rfl, this]
theorem step_in {sn : Sre.Seen} {q : Nat} (w0 : m.code.getD m.pc 0 = 13) (w1 : m.pc + (1 + m.code.getD (m.pc + 1) 0) = q) (hl : m.pos < m.lim) (hc : accepts m.code m.pc (m.text.getD m.pos 0) (m.seen.add 13) = .ok (true, sn)) :
    m.step = { m with seen := sn, pc := q, pos := m.pos + 1 } := by
  subst w1
  rw [step_exec ho ha hp]
  unfold Sre.M.exec Sre.M.word
  rw [Nat.add_zero, w0]
  simp only [show ops[13]? = some .IN from rfl]
  rw [if_neg (Nat.not_le.mpr hl)]
  simp only [hc]
  unfold itemWidth
  simp only [w0, show ops[13]? = some .IN from rfl]
theorem step_inNo {sn : Sre.Seen} (w0 : m.code.getD m.pc 0 = 13) (hl : m.pos < m.lim) (hc : accepts m.code m.pc (m.text.getD m.pos 0) (m.seen.add 13) = .ok (false, sn)) :
    m.step = { m with seen := sn, answer := some false } := by
  rw [step_exec ho ha hp]
  unfold Sre.M.exec Sre.M.word
  rw [Nat.add_zero, w0]
  simp only [show ops[13]? = some .IN from rfl]
  rw [if_neg (Nat.not_le.mpr hl)]
  simp only [hc]
  rfl
theorem step_inEnd (w0 : m.code.getD m.pc 0 = 13) (hl : m.lim ≤ m.pos) : m.step = { m with seen := m.seen.add 13, answer := some false } := by
  rw [step_exec ho ha hp]
  unfold Sre.M.exec Sre.M.word
  rw [Nat.add_zero, w0]
  simp only [show ops[13]? = some .IN from rfl]
  rw [if_pos hl]; rfl
theorem step_success (w0 : m.code.getD m.pc 0 = 1) (h1 : m.wholeText = false) (h2 : m.mustAdvance = false) : m.step = { m with seen := m.seen.add 1, handed := m.pos, answer := some true } := by
  rw [step_exec ho ha hp]
  unfold Sre.M.exec Sre.M.word
  rw [Nat.add_zero, w0]
  simp only [show ops[1]? = some .SUCCESS from rfl, h1, h2, Bool.false_and, Bool.or_false, Bool.and_false, Bool.false_eq_true, if_false]
  rfl
theorem attempt_ok' {m : Sre.M} {f : Sre.Frame} {t p : Nat} {o : Bool} (h : m.weight + 1 + f.kept.marks.size ≤ 16777216) :
    m.attempt f t p o = { m with frames := f :: m.frames, weight := m.weight + 1 + f.kept.marks.size, pc := t, pos := p, handed := p, outermost := o } := by
  unfold Sre.M.attempt
  rw [if_neg (by omega)]
/-- a run of one kind of sign -/
theorem step_rep {n lo hi op q : Nat} {sn : Sre.Seen} {kp : Sre.Kept} (w0 : m.code.getD m.pc 0 = 24) (w1 : m.pc + 1 + m.code.getD (m.pc + 1) 0 = q) (w2 : m.code.getD (m.pc + 2) 0 = lo) (w3 : m.code.getD (m.pc + 3) 0 = hi) (w4 : m.code.getD (m.pc + 4) 0 = op)
    (hk : ({ m with seen := sn, pos := m.pos + n } : Sre.M).keep m.inner.isSome = kp) (hw : m.weight + 1 + kp.marks.size ≤ 16777216) (hr : lo + m.pos ≤ m.lim)
    (hc : Sre.run m.code m.text (m.pc + 4) (min hi (m.lim - m.pos)) m.pos 0 ((m.seen.add 24).add op) = .ok (n, sn)) (hn : lo ≤ n) :
    m.step = { m with seen := sn, frames := { wait := .giveBack, pc := m.pc, pos := m.pos + n, outermost := m.outermost, count := n, kept := kp } :: m.frames, weight := m.weight + 1 + kp.marks.size, pc := q, pos := m.pos + n, handed := m.pos + n } := by
  rw [step_exec ho ha hp]
  unfold Sre.M.exec Sre.M.word
  subst w2 w3 w4
  rw [Nat.add_zero, w0]
  simp only [show ops[24]? = some .REPEAT_ONE from rfl]
  rw [if_neg (by omega)]
  have e : ((m.lim : Int) - m.pos).toNat = m.lim - m.pos := by omega
  simp only [Bool.false_eq_true, if_false, e, hc]
  rw [if_neg (by omega)]
  subst kp
  unfold Sre.M.afterRun
  rw [attempt_ok' ho ha hp (by exact hw)]
  subst w1
  rfl
theorem step_branch (w0 : m.code.getD m.pc 0 = 7) : m.step = ({ m with seen := m.seen.add 7 } : Sre.M).alternative (m.pc + 1) (({ m with seen := m.seen.add 7 } : Sre.M).keep m.inner.isSome) := by
  rw [step_exec ho ha hp]
  unfold Sre.M.exec Sre.M.word
  rw [Nat.add_zero, w0]
  simp only [show ops[7]? = some .BRANCH from rfl]
theorem step_repeat (w0 : m.code.getD m.pc 0 = 23) : m.step = ({ m with seen := m.seen.add 23, loops := m.loops.push { pc := m.pc, outer := m.inner }, inner := some m.loops.size } : Sre.M).attempt
    { (({ m with seen := m.seen.add 23, loops := m.loops.push { pc := m.pc, outer := m.inner }, inner := some m.loops.size } : Sre.M).frame .closeLoop) with loop := m.loops.size } (m.pc + 1 + m.code.getD (m.pc + 1) 0) m.pos m.outermost := by
  rw [step_exec ho ha hp]
  unfold Sre.M.exec Sre.M.word
  rw [Nat.add_zero, w0]
  simp only [show ops[23]? = some .REPEAT from rfl]
theorem step_until (w0 : m.code.getD m.pc 0 = 18) : m.step = ({ m with seen := m.seen.add 18, pc := m.pc + 1 } : Sre.M).until_ true := by
  rw [step_exec ho ha hp]
  unfold Sre.M.exec Sre.M.word
  rw [Nat.add_zero, w0]
  simp only [show ops[18]? = some .MAX_UNTIL from rfl]
theorem step_assertNot {b : Nat} (w0 : m.code.getD m.pc 0 = 5) (w2 : m.code.getD (m.pc + 2) 0 = b) (h : b ≤ m.pos) : m.step = ({ m with seen := m.seen.add 5 } : Sre.M).attempt
    { (({ m with seen := m.seen.add 5 } : Sre.M).frame .lookNot) with kept := ({ m with seen := m.seen.add 5 } : Sre.M).keep m.inner.isSome } (m.pc + 3) (m.pos - b) false := by
  subst w2
  rw [step_exec ho ha hp]
  unfold Sre.M.exec Sre.M.word
  rw [Nat.add_zero, w0]
  simp only [show ops[5]? = some .ASSERT_NOT from rfl]
  rw [if_neg (Nat.not_lt.mpr h)]
  rfl
end
section
variable {m : Sre.M}
theorem step_resume {b : Bool} {f : Sre.Frame} {rest : List Sre.Frame} (ho : m.outcome = none) (ha : m.answer = some b) (hf : m.frames = f :: rest) :
    m.step = ({ m with answer := none, frames := rest, weight := m.weight - (1 + f.kept.marks.size), pc := f.pc, pos := f.pos, outermost := f.outermost } : Sre.M).resume f b := by
  unfold Sre.M.step
  rw [ho, ha, hf]; rfl
theorem step_end {b : Bool} (ho : m.outcome = none) (ha : m.answer = some b) (hf : m.frames = []) : m.step = { m with outcome := some (if b then .matched else .failed) } := by
  unfold Sre.M.step
  rw [ho, ha, hf]; rfl
theorem attempt_ok {f : Sre.Frame} {t p : Nat} {o : Bool} (h : m.weight + 1 + f.kept.marks.size ≤ 16777216) :
    m.attempt f t p o = { m with frames := f :: m.frames, weight := m.weight + 1 + f.kept.marks.size, pc := t, pos := p, handed := p, outermost := o } := by
  unfold Sre.M.attempt
  rw [if_neg (by omega)]
end
end
local macro_rules | `(tactic| tm_at "kl n") => `(tactic| first | kernel_rfl | exact Nat.le_of_ble_eq_true (by kernel_rfl))
section
open PySem PySem.W PyProof.Rows PySem.Sre
/-- an attempt begun at s -/
@[reducible] noncomputable def atS (C T : Array Nat) (L ls s : Nat) (mk : Array (Option Nat)) (pc : Nat) (first : Bool) (sn : Sre.Seen) : Sre.M :=
  { code := C, text := T, lim := L, start := s, lastStart := ls, pc, pos := s, handed := s, outermost := first, marks := mk, frames := [{ wait := .nextStart, pc, pos := s, outermost := first }], weight := 1, seen := sn }
theorem nope {a b : Nat} (h : a ≤ b) (k : Nat) (h2 : k ≤ b - a) : ¬ ((decide (a > b) || decide (b - a < k)) = true) := by simp; omega
theorem esc_begin {T : Array Nat} {L : Nat} (h : 2 ≤ L) : forSearch escC T 1 0 L false = atS escC T L L 0 #[none, none] 9 true (({} : Sre.Seen).add 14) :=
  (if_neg (nope (Nat.zero_le L) 2 h)).trans (by rfl)
section
variable {T : Array Nat} {L s : Nat} {first : Bool} {sn : Sre.Seen} {mk : Array (Option Nat)}
theorem esc_next (hs : s < L) (hc : T.getD s 0 ≠ 92) : Runs 2 (atS escC T L L s mk 9 first sn) (atS escC T L L (s + 1) mk 9 false (sn.add 16)) := by
  refine Runs.step rfl (step_litNo (c := 92) rfl rfl (by tm_at "kl n") (by tm_at "kl n") (by tm_at "kl n") fun _ => hc) ?_
  refine Runs.step rfl (step_resume rfl rfl rfl) ?_
  show (if s < L then _ else _) = _
  rw [if_pos hs]; rfl
theorem esc_hit (hs : s + 2 ≤ L) (h1 : T.getD s 0 = 92) (h2 : T.getD (s + 1) 0 ≠ 10) : ∃ r, Runs 7 (atS escC T L L s #[none, none] 9 first sn) r ∧ (∃ q, r.outcome = some q ∧ q matches .matched) ∧ r.start = s ∧ r.handed = s + 2 ∧ r.lastmark = 1 ∧ r.marks = #[some (s + 1), some (s + 2)] := by
  refine ⟨?_, Runs.step rfl (step_lit (c := 92) (q := 11) rfl rfl (by tm_at "kl n") (by tm_at "kl n") (by tm_at "kl n") rfl ?_ h1) ?_, ?_⟩
  rotate_left
  · show s < L; omega
  refine Runs.step rfl (step_mark (i := 0) rfl rfl (by tm_at "kl n") (by tm_at "kl n") (by tm_at "kl n")) ?_
  refine Runs.step rfl (step_any (q := 14) rfl rfl (by tm_at "kl n") (by tm_at "kl n") rfl ?_ h2) ?_
  · show s + 1 < L; omega
  refine Runs.step rfl (step_mark (i := 1) rfl rfl (by tm_at "kl n") (by tm_at "kl n") (by tm_at "kl n")) ?_
  refine Runs.step rfl (step_success rfl rfl (by tm_at "kl n") (by tm_at "kl n") rfl rfl) ?_
  refine Runs.step rfl (step_resume rfl rfl rfl) ?_
  refine Runs.step rfl (step_end rfl rfl rfl) ?_
  exact Runs.zero
  exact ⟨⟨_, rfl, rfl⟩, rfl, rfl, rfl, rfl⟩
end
end
section
open PySem PySem.W PyProof.Rows PySem.Sre
/-- a search has hit -/
structure Hit (r : Sre.M) (a b : Nat) (lm : Int) (mk : Array (Option Nat)) : Prop where
  yes : ∃ q, r.outcome = some q ∧ (q matches .matched) = true
  start : r.start = a
  handed : r.handed = b
  lastmark : r.lastmark = lm
  marks : r.marks = mk
theorem run_take {C T : Array Nat} {i k n p f : Nat} {sn : Sre.Seen} (hk : k ≤ n) (hy : ∀ j sn, j < k → ∃ sn', accepts C i (T.getD (p + j) 0) sn = .ok (true, sn')) (hn : k < n → ∀ sn, ∃ sn', accepts C i (T.getD (p + k) 0) sn = .ok (false, sn')) :
    ∃ sn', Sre.run C T i n p f sn = .ok (f + k, sn') := by
  induction n generalizing k p f sn with
  | zero =>
    have : k = 0 := by omega
    subst this; exact ⟨sn, rfl⟩
  | succ n ih =>
    cases k with
    | zero =>
      obtain ⟨sn', h⟩ := hn (by omega) sn
      refine ⟨sn', ?_⟩
      unfold Sre.run
      rw [Nat.add_zero] at h
      rw [h]; rfl
    | succ k =>
      obtain ⟨sn', h⟩ := hy 0 sn (by omega)
      obtain ⟨sn₂, h₂⟩ := ih (k := k) (p := p + 1) (f := f + 1) (sn := sn') (by omega) (fun j sn hj => by rw [Nat.add_right_comm]; exact hy (j + 1) sn (by omega)) (fun hk sn => by rw [Nat.add_right_comm]; exact hn (by omega) sn)
      refine ⟨sn₂, ?_⟩
      unfold Sre.run
      rw [Nat.add_zero] at h
      rw [h]
      show Sre.run C T i n (p + 1) (f + 1) sn' = _
      rw [h₂, Nat.add_right_comm]; rfl
theorem esc_all {T : Array Nat} {i : Nat} (h0 : ∀ j, j < i → T.getD j 0 ≠ 92) (h1 : T.getD i 0 = 92) (h2 : T.getD (i + 1) 0 ≠ 10) (hL : i + 2 ≤ T.size) :
    ∃ r, Runs (2 * i + 7) (forSearch escC T 1 0 T.size false) r ∧ Hit r i (i + 2) 1 #[some (i + 1), some (i + 2)] := by
  rw [esc_begin (by omega)]
  have go : ∀ k, k ≤ i → ∃ first sn, Runs (2 * k) (atS escC T T.size T.size 0 #[none, none] 9 true (({} : Sre.Seen).add 14)) (atS escC T T.size T.size k #[none, none] 9 first sn) := by
    intro k
    induction k with
    | zero => intro _; exact ⟨_, _, Runs.zero⟩
    | succ k ih =>
      intro hk
      obtain ⟨first, sn, R⟩ := ih (by omega)
      exact ⟨_, _, R.trans (esc_next (by omega) (h0 k (by omega)))⟩
  obtain ⟨first, sn, R⟩ := go i (Nat.le_refl i)
  obtain ⟨r, R', q, a, b, c, d⟩ := esc_hit (first := first) (sn := sn) hL h1 h2
  exact ⟨r, R.trans R', q, a, b, c, d⟩
/-- signs of a word -/
noncomputable def wch (c : Nat) : Bool := c == 43 || c == 45 || c == 58 || (48 ≤ c && c ≤ 57) || (65 ≤ c && c ≤ 90) || (97 ≤ c && c ≤ 122)
theorem wch_lt {c : Nat} (h : wch c = true) : c < 128 := by unfold wch at h; simp at h; omega
theorem wch_facts : ∀ c < 128, wch c = true → ((c < 256 && (tokC.getD (26 + (1 + c / 32)) 0).testBit (c % 32)) = false ∧ Unicode.isSpace c = false ∧ c ≠ 10 ∧ c ≠ 13 ∧ c ≠ 92) := by decide +kernel
theorem cat_space {c : Nat} {b : Bool} (h : Unicode.isSpace c = b) : category 12 c = .ok b := by
  unfold category
  simp only [show 12 / 2 = 6 from rfl, h]
  cases b <;> rfl
theorem tok_space {c : Nat} {b : Bool} {sn : Sre.Seen} (h : Unicode.isSpace c = b) : ∃ sn', accepts tokC 11 c sn = .ok (b, sn') := by
  have e := cat_space h
  cases b with
  | true => exact ⟨_, show ((category 12 c) >>= fun b => if b = true then pure (true, _) else _) = _ by rw [e]; rfl⟩
  | false => exact ⟨_, show ((category 12 c) >>= fun b => if b = true then _ else _) = _ by rw [e]; rfl⟩
theorem tok_word {c : Nat} {sn : Sre.Seen} (h1 : (c < 256 && (tokC.getD (26 + (1 + c / 32)) 0).testBit (c % 32)) = false) (h2 : Unicode.isSpace c = false) : ∃ sn', accepts tokC 23 c sn = .ok (true, sn') := by
  refine ⟨?w, ?h⟩
  case h =>
    show (if (c < 256 && (tokC.getD (26 + (1 + c / 32)) 0).testBit (c % 32)) = true then _ else ((category 12 c) >>= fun b => if b = true then _ else _)) = _
    rw [if_neg (by rw [h1]; decide)]
    unfold category
    simp only [show 12 / 2 = 6 from rfl, h2]
    rfl
theorem tok_stop' {sn : Sre.Seen} : accepts tokC 23 13 sn = .ok (false, ((((sn.add 21).add 9).add 8).add 67)) := by kernel_rfl
theorem tok_stop {sn : Sre.Seen} : ∃ sn', accepts tokC 23 13 sn = .ok (false, sn') := by
  refine ⟨?w, ?h⟩
  case h =>
    exact tok_stop' (sn := sn)
theorem tok_begin {T : Array Nat} (h : 1 ≤ T.size) : forSearch tokC T 1 0 T.size false = atS tokC T T.size T.size 0 #[none, none] 5 true (({} : Sre.Seen).add 14) :=
  (if_neg (nope (Nat.zero_le _) 1 h)).trans (by rfl)
theorem tok_hit {T : Array Nat} {k n : Nat} (hk : ∀ j, j < k → Unicode.isSpace (T.getD j 0) = true) (hw : ∀ j, j < n → wch (T.getD (k + j) 0) = true) (hn : 0 < n) (hs : T.getD (k + n) 0 = 13) (hL : k + n < T.size) (hz : T.size ≤ 4294967295) :
    ∃ r, Runs 10 (forSearch tokC T 1 0 T.size false) r ∧ Hit r 0 (k + n) 1 #[some k, some (k + n)] := by
  rw [tok_begin (by omega)]
  have hw' : ∀ j, j < n → ((T.getD (k + j) 0 < 256 && (tokC.getD (26 + (1 + T.getD (k + j) 0 / 32)) 0).testBit (T.getD (k + j) 0 % 32)) = false ∧ Unicode.isSpace (T.getD (k + j) 0) = false) := fun j hj => by
    have := wch_facts _ (wch_lt (hw j hj)) (hw j hj); exact ⟨this.1, this.2.1⟩
  have z1 : ∀ j sn, j < k → ∃ sn', accepts tokC 11 (T.getD (0 + j) 0) sn = .ok (true, sn') := fun j sn hj => by rw [Nat.zero_add]; exact tok_space (hk j hj)
  have z2 : ∀ sn, ∃ sn', accepts tokC 11 (T.getD (0 + k) 0) sn = .ok (false, sn') := fun sn => by rw [Nat.zero_add]; exact tok_space (hw' 0 hn).2
  have z3 : ∀ j sn, j < n → ∃ sn', accepts tokC 23 (T.getD (k + j) 0) sn = .ok (true, sn') := fun j sn hj => tok_word (hw' j hj).1 (hw' j hj).2
  have z4 : ∀ sn, ∃ sn', accepts tokC 23 (T.getD (k + n) 0) sn = .ok (false, sn') := fun sn => by rw [hs]; exact tok_stop
  have b1 : k ≤ min 4294967295 (T.size - 0) := by omega
  have b2 : n ≤ min 4294967295 (T.size - k) := by omega
  obtain ⟨s1, r1⟩ := run_take (f := 0) (sn := (((((({} : Sre.Seen).add 14).add 6).add (43 + 0)).add 24).add 13)) b1 z1 fun _ => z2
  obtain ⟨s2, r2⟩ := run_take (f := 0) (sn := ((s1.add 17).add 24).add 13) b2 z3 fun _ => z4
  rw [Nat.zero_add] at r1 r2
  refine ⟨?r, Runs.step rfl (step_at (k := 0) (q := 7) rfl rfl (by tm_at "kl n") (by tm_at "kl n") (by tm_at "kl n") rfl rfl) ?R, ?H⟩
  case R =>
    refine Runs.step rfl (step_rep (n := k) (sn := s1) (lo := 0) (hi := 4294967295) (op := 13) (q := 17) rfl rfl (by tm_at "kl n") (by tm_at "kl n") (by tm_at "kl n") (by tm_at "kl n") (by tm_at "kl n") (by tm_at "kl n") rfl (by tm_at "kl n") ?_ r1 (Nat.zero_le _)) ?_
    · show 0 + 0 ≤ T.size; omega
    rw [Nat.zero_add]
    refine Runs.step rfl (step_mark (i := 0) rfl rfl (by tm_at "kl n") (by tm_at "kl n") (by tm_at "kl n")) ?_
    refine Runs.step rfl (step_rep (n := n) (sn := s2) (lo := 1) (hi := 4294967295) (op := 13) (q := 39) rfl rfl (by tm_at "kl n") (by tm_at "kl n") (by tm_at "kl n") (by tm_at "kl n") (by tm_at "kl n") (by tm_at "kl n") rfl (by tm_at "kl n") ?_ r2 hn) ?_
    · show 1 + k ≤ T.size; omega
    refine Runs.step rfl (step_mark (i := 1) rfl rfl (by tm_at "kl n") (by tm_at "kl n") (by tm_at "kl n")) ?_
    refine Runs.step rfl (step_success rfl rfl (by tm_at "kl n") (by tm_at "kl n") rfl rfl) ?_
    refine Runs.step rfl (step_resume rfl rfl rfl) ?_
    refine Runs.step rfl (step_resume rfl rfl rfl) ?_
    refine Runs.step rfl (step_resume rfl rfl rfl) ?_
    refine Runs.step rfl (step_end rfl rfl rfl) ?_
    exact Runs.zero
  case H => exact ⟨⟨_, rfl, rfl⟩, rfl, rfl, rfl, rfl⟩
theorem tok_none : ∃ n r, n ≤ 100 ∧ Runs n (forSearch tokC #[13, 10] 1 0 2 false) r ∧ (∃ q, r.outcome = some q ∧ (q matches .failed) = true) := by
  refine ⟨100, _, Nat.le_refl _, rfl, ?_⟩
  generalize hq : (Sre.M.runFor 100 (forSearch tokC #[13, 10] 1 0 2 false)).outcome = q
  have : (match (Sre.M.runFor 100 (forSearch tokC #[13, 10] 1 0 2 false)).outcome with | some .failed => true | _ => false) = true := by decide +kernel
  rw [hq] at this
  cases q with
  | none => cases this
  | some q => cases q with | failed => exact ⟨_, rfl, rfl⟩ | _ => cases this
end
section
open PySem PySem.W PyProof.Rows PySem.Sre
theorem alt_ok {m : Sre.M} {alt : Nat} {kept : Sre.Kept} (h : (m.code.getD alt 0 == 0) = false) (hw : m.weight + 1 + kept.marks.size ≤ 16777216) :
    m.alternative alt kept = { m with frames := { wait := .nextBranch, pc := alt, pos := m.pos, outermost := m.outermost, kept } :: m.frames, weight := m.weight + 1 + kept.marks.size, pc := alt + 1, pos := m.pos, handed := m.pos, outermost := m.outermost } := by
  unfold Sre.M.alternative
  rw [if_neg (by rw [h]; decide)]
  exact attempt_ok hw
theorem step_nextBranch {m : Sre.M} {p p' po : Nat} {o : Bool} {kept : Sre.Kept} {rest : List Sre.Frame} (ho : m.outcome = none) (ha : m.answer = some false) (hf : m.frames = { wait := .nextBranch, pc := p, pos := po, outermost := o, kept } :: rest)
    (hp : p + m.code.getD p 0 = p') :
    m.step = (({ m with answer := none, frames := rest, weight := m.weight - (1 + kept.marks.size), pc := p, pos := po, outermost := o } : Sre.M).putBack kept).alternative p' kept := by
  rw [step_resume ho ha hf]
  subst hp
  rfl
/-- the first sign let in -/
theorem tw_admit {m : Sre.M} {i : Nat} (hc : m.code = twC) (hi : i < m.lim) (hit : m.text.getD i 0 = 10 ∨ m.text.getD i 0 = 13) :
    ∀ n s sn, s ≤ i → i - s < n → (∀ j, s ≤ j → j < i → m.text.getD j 0 ≠ 10 ∧ m.text.getD j 0 ≠ 13) → ∃ sn', m.admitted n s sn = .ok (some i, sn') := by
  intro n
  induction n with
  | zero => intro s sn _ h; omega
  | succ n ih =>
    intro s sn hs hn hno
    unfold Sre.M.admitted
    rw [if_neg (by omega), hc]
    have sz : twC.size = 36 := by kernel_rfl
    by_cases e : s = i
    · subst e
      rcases hit with h | h
      · refine ⟨(sn.add 16), ?_⟩
        rw [h, show inSet twC 10 twC.size 5 true sn = .ok (true, sn.add 16) from by kernel_rfl]
      · refine ⟨((sn.add 16).add 16), ?_⟩
        rw [h, show inSet twC 13 twC.size 5 true sn = .ok (true, ((sn.add 16).add 16)) from by kernel_rfl]
    · obtain ⟨h1, h2⟩ := hno s (Nat.le_refl s) (by omega)
      have e1 : (m.text.getD s 0 == twC.getD (5 + 1) 0) = false := by rw [show twC.getD (5 + 1) 0 = 10 from by kernel_rfl]; simpa using h1
      have e2 : (m.text.getD s 0 == twC.getD (5 + 2 + 1) 0) = false := by rw [show twC.getD (5 + 2 + 1) 0 = 13 from by kernel_rfl]; simpa using h2
      have : inSet twC (m.text.getD s 0) twC.size 5 true sn = .ok (false, ((sn.add 16).add 16).add 0) := by
        rw [sz]
        have w1 : ops[twC.getD (5 + 0) 0]? = some .LITERAL := by kernel_rfl
        have w2 : ops[twC.getD (5 + 2 + 0) 0]? = some .LITERAL := by kernel_rfl
        have w3 : ops[twC.getD (5 + 2 + 2 + 0) 0]? = some .FAILURE := by kernel_rfl
        have v1 : twC.getD (5 + 0) 0 = 16 := by kernel_rfl
        have v2 : twC.getD (5 + 2 + 0) 0 = 16 := by kernel_rfl
        have v3 : twC.getD (5 + 2 + 2 + 0) 0 = 0 := by kernel_rfl
        unfold inSet
        simp only [w1, e1, Bool.false_eq_true, if_false]
        unfold inSet
        simp only [w2, e2, Bool.false_eq_true, if_false]
        unfold inSet
        simp only [w3, v1, v2, v3]
        rfl
      rw [this]
      exact ih (s + 1) _ (by omega) (by omega) fun j hj => hno j (by omega)
theorem tw_begin {T : Array Nat} {L p i : Nat} (hp : p ≤ i) (hi : i < L) (hit : T.getD i 0 = 10 ∨ T.getD i 0 = 13) (hno : ∀ j, p ≤ j → j < i → T.getD j 0 ≠ 10 ∧ T.getD j 0 ≠ 13) :
    ∃ sn, forSearch twC T 0 p L false = atS twC T L L i #[] 10 true sn := by
  have e : forSearch twC T 0 p L false = Sre.M.attemptFrom { code := twC, text := T, lim := L, start := p, pc := 10, pos := p, handed := p, marks := #[], lastStart := L, seen := (({} : Sre.Seen).add 14) } p true :=
    (if_neg (nope (by omega) 1 (by omega))).trans (by kernel_rfl)
  rw [e]
  obtain ⟨sn, h⟩ := tw_admit (m := { code := twC, text := T, lim := L, start := p, pc := 10, pos := p, handed := p, marks := #[], lastStart := L, seen := (({} : Sre.Seen).add 14) }) rfl hi hit (L + 1 - p) p (({} : Sre.Seen).add 14) hp (by omega) hno
  refine ⟨sn, ?_⟩
  unfold Sre.M.attemptFrom
  rw [if_neg (by rw [show Sre.M.hasFirstSet _ = true from by kernel_rfl]; decide)]
  simp only [h]
  rfl
section
variable {T : Array Nat} {L s : Nat} {sn : Sre.Seen}
theorem tw_nl (hs : s < L) (h1 : T.getD s 0 = 10) : ∃ r, Runs 9 (atS twC T L L s #[] 10 true sn) r ∧ Hit r s (s + 1) (-1) #[] := by
  refine ⟨?r, Runs.step rfl ((step_branch rfl rfl (by tm_at "kl n") (by tm_at "kl n")).trans (alt_ok (by tm_at "kl n") (by tm_at "kl n"))) ?R, ?H⟩
  case R =>
    refine Runs.step rfl (step_litNo (c := 13) rfl rfl (by tm_at "kl n") (by tm_at "kl n") (by tm_at "kl n") fun _ => ?_) ?_
    · show T.getD s 0 ≠ 13; rw [h1]; decide
    refine Runs.step rfl ((step_nextBranch (p' := 18) rfl rfl rfl (by tm_at "kl n")).trans (alt_ok (by tm_at "kl n") (by tm_at "kl n"))) ?_
    refine Runs.step rfl (step_lit (c := 10) (q := 21) rfl rfl (by tm_at "kl n") (by tm_at "kl n") (by tm_at "kl n") rfl hs h1) ?_
    refine Runs.step rfl (step_jump (q := 35) rfl rfl (by tm_at "kl n") (by tm_at "kl n") (by tm_at "kl n")) ?_
    refine Runs.step rfl (step_success rfl rfl (by tm_at "kl n") (by tm_at "kl n") rfl rfl) ?_
    refine Runs.step rfl (step_resume rfl rfl rfl) ?_
    refine Runs.step rfl (step_resume rfl rfl rfl) ?_
    refine Runs.step rfl (step_end rfl rfl rfl) ?_
    exact Runs.zero
  case H => exact ⟨⟨_, rfl, rfl⟩, rfl, rfl, rfl, rfl⟩
theorem tw_rn (hs : s + 1 < L) (h1 : T.getD s 0 = 13) (h2 : T.getD (s + 1) 0 = 10) : ∃ r, Runs 8 (atS twC T L L s #[] 10 true sn) r ∧ Hit r s (s + 2) (-1) #[] := by
  refine ⟨?r, Runs.step rfl ((step_branch rfl rfl (by tm_at "kl n") (by tm_at "kl n")).trans (alt_ok (by tm_at "kl n") (by tm_at "kl n"))) ?R, ?H⟩
  case R =>
    refine Runs.step rfl (step_lit (c := 13) (q := 14) rfl rfl (by tm_at "kl n") (by tm_at "kl n") (by tm_at "kl n") rfl ?_ h1) ?_
    · show s < L; omega
    refine Runs.step rfl (step_lit (c := 10) (q := 16) rfl rfl (by tm_at "kl n") (by tm_at "kl n") (by tm_at "kl n") rfl hs h2) ?_
    refine Runs.step rfl (step_jump (q := 35) rfl rfl (by tm_at "kl n") (by tm_at "kl n") (by tm_at "kl n")) ?_
    refine Runs.step rfl (step_success rfl rfl (by tm_at "kl n") (by tm_at "kl n") rfl rfl) ?_
    refine Runs.step rfl (step_resume rfl rfl rfl) ?_
    refine Runs.step rfl (step_resume rfl rfl rfl) ?_
    refine Runs.step rfl (step_end rfl rfl rfl) ?_
    exact Runs.zero
  case H => exact ⟨⟨_, rfl, rfl⟩, rfl, rfl, rfl, rfl⟩
theorem tw_r (hs : s < L) (h1 : T.getD s 0 = 13) (h2 : s + 1 < L → T.getD (s + 1) 0 ≠ 10) : ∃ r, Runs 15 (atS twC T L L s #[] 10 true sn) r ∧ Hit r s (s + 1) (-1) #[] := by
  refine ⟨?r, Runs.step rfl ((step_branch rfl rfl (by tm_at "kl n") (by tm_at "kl n")).trans (alt_ok (by tm_at "kl n") (by tm_at "kl n"))) ?R, ?H⟩
  case R =>
    refine Runs.step rfl (step_lit (c := 13) (q := 14) rfl rfl (by tm_at "kl n") (by tm_at "kl n") (by tm_at "kl n") rfl hs h1) ?_
    refine Runs.step rfl (step_litNo (c := 10) rfl rfl (by tm_at "kl n") (by tm_at "kl n") (by tm_at "kl n") h2) ?_
    refine Runs.step rfl ((step_nextBranch (p' := 18) rfl rfl rfl (by tm_at "kl n")).trans (alt_ok (by tm_at "kl n") (by tm_at "kl n"))) ?_
    refine Runs.step rfl (step_litNo (c := 10) rfl rfl (by tm_at "kl n") (by tm_at "kl n") (by tm_at "kl n") fun _ => ?_) ?_
    · show T.getD s 0 ≠ 10; rw [h1]; decide
    refine Runs.step rfl ((step_nextBranch (p' := 23) rfl rfl rfl (by tm_at "kl n")).trans (alt_ok (by tm_at "kl n") (by tm_at "kl n"))) ?_
    refine Runs.step rfl (step_lit (c := 13) (q := 26) rfl rfl (by tm_at "kl n") (by tm_at "kl n") (by tm_at "kl n") rfl hs h1) ?_
    refine Runs.step rfl ((step_assertNot (b := 0) rfl rfl (by tm_at "kl n") (by tm_at "kl n") (by tm_at "kl n") (Nat.zero_le _)).trans (attempt_ok (by tm_at "kl n"))) ?_
    refine Runs.step rfl (step_litNo (c := 10) rfl rfl (by tm_at "kl n") (by tm_at "kl n") (by tm_at "kl n") h2) ?_
    refine Runs.step rfl (step_resume rfl rfl rfl) ?_
    refine Runs.step rfl (step_jump (q := 35) rfl rfl (by tm_at "kl n") (by tm_at "kl n") (by tm_at "kl n")) ?_
    refine Runs.step rfl (step_success rfl rfl (by tm_at "kl n") (by tm_at "kl n") rfl rfl) ?_
    refine Runs.step rfl (step_resume rfl rfl rfl) ?_
    refine Runs.step rfl (step_resume rfl rfl rfl) ?_
    refine Runs.step rfl (step_end rfl rfl rfl) ?_
    exact Runs.zero
  case H => exact ⟨⟨_, rfl, rfl⟩, rfl, rfl, rfl, rfl⟩
end
theorem tw_over {T : Array Nat} {L : Nat} : ∃ r, Runs 1 (forSearch twC T 0 L L false) r ∧ (∃ q, r.outcome = some q ∧ (q matches .failed) = true) := by
  have : forSearch twC T 0 L L false = { code := twC, text := T, lim := L, start := L, pc := 10, pos := L, handed := L, marks := #[], answer := some false, seen := (({} : Sre.Seen).add 14) } :=
    (if_pos (by rw [show (header twC).fst = 1 from by kernel_rfl]; simp)).trans (by kernel_rfl)
  rw [this]
  exact ⟨_, Runs.step rfl (step_end rfl rfl rfl) Runs.zero, ⟨_, rfl, rfl⟩⟩
end
section
open PySem PySem.W PyProof.Rows PySem.Sre
theorem step_rep2 {m : Sre.M} {q i : Nat} (ho : m.outcome = none) (ha : m.answer = none) (hp : m.pc < m.code.size) (w0 : m.code.getD m.pc 0 = 23) (w1 : m.pc + 1 + m.code.getD (m.pc + 1) 0 = q) (hi : m.loops.size = i) (hw : m.weight + 1 + 0 ≤ 16777216) :
    m.step = { m with seen := m.seen.add 23, loops := m.loops.push { pc := m.pc, outer := m.inner }, inner := some i, frames := { wait := .closeLoop, pc := m.pc, pos := m.pos, outermost := m.outermost, loop := i } :: m.frames, weight := m.weight + 1 + 0, pc := q, handed := m.pos } := by
  rw [step_repeat ho ha hp w0, attempt_ok (by exact hw)]
  subst hi; subst w1; rfl
theorem until_more {m : Sre.M} {i q lo hi : Nat} {l : Sre.Loop} {c : Int} {kp : Sre.Kept} (h0 : m.inner = some i) (hl : m.loopAt i = l) (hc : l.count + 1 = c) (h1 : m.code.getD (l.pc + 2) 0 = lo) (h2 : m.code.getD (l.pc + 3) 0 = hi)
    (hlo : ¬ c < lo) (hhi : ((decide (c < hi) || hi == maxRepeat) && l.began != some m.pos) = true) (hk : m.keep true = kp) (hq : l.pc + 4 = q) (hw : m.weight + 1 + kp.marks.size ≤ 16777216) :
    m.until_ true = { m with loops := m.loops.modify i (fun l => { l with count := c, began := some m.pos }), frames := { wait := .maxMore, pc := m.pc, pos := m.pos, outermost := m.outermost, loop := i, count := c, kept := kp, began := l.began } :: m.frames, weight := m.weight + 1 + kp.marks.size, pc := q, pos := m.pos, handed := m.pos } := by
  subst hl hc h1 h2 hk hq
  unfold Sre.M.until_
  rw [h0]
  simp only
  rw [if_neg hlo, if_neg (by decide), if_pos hhi]
  unfold Sre.M.round
  simp only [if_true]
  rw [attempt_ok (by exact hw)]
  unfold Sre.M.setLoop Sre.M.frame
  simp only [h0]
theorem until_tail {m : Sre.M} {i lo hi : Nat} {l : Sre.Loop} {c : Int} (h0 : m.inner = some i) (hl : m.loopAt i = l) (hc : l.count + 1 = c) (h1 : m.code.getD (l.pc + 2) 0 = lo) (h2 : m.code.getD (l.pc + 3) 0 = hi)
    (hlo : ¬ c < lo) (hhi : ((decide (c < hi) || hi == maxRepeat) && l.began != some m.pos) = false) (hw : m.weight + 1 + 0 ≤ 16777216) :
    m.until_ true = { m with inner := l.outer, frames := { wait := .maxTail, pc := m.pc, pos := m.pos, outermost := m.outermost, loop := i, count := c, kept := { lastmark := m.lastmark, lastindex := m.lastindex } } :: m.frames, weight := m.weight + 1 + 0, pos := m.pos, handed := m.pos } := by
  subst hl hc h1 h2
  unfold Sre.M.until_
  rw [h0]
  simp only
  rw [if_neg hlo, if_neg (by decide), if_neg (by rw [hhi]; decide)]
  unfold Sre.M.afterLoop
  simp only
  rw [attempt_ok (by exact hw)]
  rfl
theorem step_maxMoreNo {m : Sre.M} {i p po : Nat} {c : Int} {o : Bool} {kp : Sre.Kept} {b : Option Nat} {rest : List Sre.Frame} (ho : m.outcome = none) (ha : m.answer = some false)
    (hf : m.frames = { wait := .maxMore, pc := p, pos := po, outermost := o, loop := i, count := c, kept := kp, began := b } :: rest) (hwh : kp.whole = true) (hw : m.weight - (1 + kp.marks.size) + 1 + 0 ≤ 16777216) :
    m.step = { m with answer := none, pc := p, pos := po, handed := po, outermost := o, lastmark := kp.lastmark, lastindex := kp.lastindex, marks := kp.marks ++ m.marks.extract kp.marks.size m.marks.size, loops := (m.loops.modify i fun l => { l with began := b }).modify i fun l => { l with count := c - 1 }, inner := (((m.loops.modify i fun l => { l with began := b }).modify i fun l => { l with count := c - 1 }).getD i { pc := 0, outer := none }).outer, frames := { wait := .maxTail, pc := p, pos := po, outermost := o, loop := i, count := c, kept := { lastmark := kp.lastmark, lastindex := kp.lastindex } } :: rest, weight := m.weight - (1 + kp.marks.size) + 1 + 0 } := by
  rw [step_resume ho ha hf]
  show (Sre.M.afterLoop _ .maxTail i c fun _ => false) = _
  unfold Sre.M.afterLoop
  simp only
  rw [attempt_ok (by exact hw)]
  unfold Sre.M.putBack Sre.M.setLoop
  simp only [hwh]
  rfl
theorem tz_digit {p c : Nat} {sn : Sre.Seen} {b : Bool} (hp : p = 25 ∨ p = 34 ∨ p = 55 ∨ p = 60) (h : isDigit c = b) : ∃ sn', accepts tzC p c sn = .ok (b, sn') := by
  have e : category 0 c = .ok b := by
    unfold category
    simp only [show 0 / 2 = 0 from rfl, h]
    cases b <;> rfl
  have key : ∀ p, tzC.getD p 0 = 13 → tzC.getD (p + 2) 0 = 8 → tzC.getD (p + 2 + 1) 0 = 0 → tzC.getD (p + 2 + 2) 0 = 0 → ∃ sn', accepts tzC p c sn = .ok (b, sn') := by
    intro p h0 h1 h2 h3
    unfold accepts
    simp only [h0, show ops[13]? = some .IN from rfl]
    rw [show tzC.size = 71 from by kernel_rfl]
    unfold inSet
    simp only [Nat.add_zero, h1, show ops[8]? = some .CATEGORY from rfl, h2, e]
    cases b with
    | true => exact ⟨_, rfl⟩
    | false =>
      simp only [bind, Except.bind, Bool.false_eq_true, if_false]
      unfold inSet
      simp only [Nat.add_zero, h3, show ops[0]? = some .FAILURE from rfl]
      exact ⟨_, rfl⟩
  rcases hp with rfl | rfl | rfl | rfl <;> exact key _ (by kernel_rfl) (by kernel_rfl) (by kernel_rfl) (by kernel_rfl)
theorem tz_sign {c : Nat} {sn : Sre.Seen} (h : c = 43 ∨ c = 45) : ∃ sn', accepts tzC 13 c sn = .ok (true, sn') := by
  rcases h with rfl | rfl
  · exact ⟨_, show accepts tzC 13 43 sn = .ok (true, (sn.add 16).add 16) by kernel_rfl⟩
  · exact ⟨_, show accepts tzC 13 45 sn = .ok (true, (sn.add 16)) by kernel_rfl⟩
theorem tz_nosign {c : Nat} {sn : Sre.Seen} (h1 : c ≠ 43) (h2 : c ≠ 45) : ∃ sn', accepts tzC 13 c sn = .ok (false, sn') := by
  unfold accepts
  simp only [show tzC.getD 13 0 = 13 from by kernel_rfl, show ops[13]? = some .IN from rfl]
  rw [show tzC.size = 71 from by kernel_rfl]
  have e1 : (c == 45) = false := by simpa using h2
  have e2 : (c == 43) = false := by simpa using h1
  unfold inSet
  simp only [show tzC.getD (13 + 2 + 0) 0 = 16 from by kernel_rfl, show tzC.getD (13 + 2 + 1) 0 = 45 from by kernel_rfl, show ops[16]? = some .LITERAL from rfl, e1, Bool.false_eq_true, if_false]
  unfold inSet
  simp only [show tzC.getD (13 + 2 + 2 + 0) 0 = 16 from by kernel_rfl, show tzC.getD (13 + 2 + 2 + 1) 0 = 43 from by kernel_rfl, show ops[16]? = some .LITERAL from rfl, e2, Bool.false_eq_true, if_false]
  unfold inSet
  simp only [show tzC.getD (13 + 2 + 2 + 2 + 0) 0 = 0 from by kernel_rfl, show ops[0]? = some .FAILURE from rfl]
  exact ⟨_, rfl⟩
theorem tz_colon {c : Nat} {sn : Sre.Seen} : ∃ sn', accepts tzC 46 c sn = .ok (c == 58, sn') := by
  unfold accepts
  simp only [show tzC.getD 46 0 = 16 from by kernel_rfl, show tzC.getD (46 + 1) 0 = 58 from by kernel_rfl, show ops[16]? = some .LITERAL from rfl]
  exact ⟨_, rfl⟩
theorem dig_facts {c : Nat} (h : isDigit c = true) : c ≠ 43 ∧ c ≠ 45 ∧ (c == 58) = false := by
  unfold isDigit at h; simp at h; refine ⟨by omega, by omega, ?_⟩; simp; omega
end
section
open PySem PySem.W PyProof.Rows PySem.Sre
local macro_rules | `(tactic| tm_at "k") => `(tactic| first | kernel_rfl | exact Nat.le_of_ble_eq_true (by kernel_rfl))
/-- at most k steps lead to P -/
noncomputable def Leads (k : Nat) (m : Sre.M) (P : Sre.M → Prop) : Prop := ∃ n r, n ≤ k ∧ Runs n m r ∧ P r
theorem Leads.zero {k : Nat} {m : Sre.M} {P : Sre.M → Prop} (h : P m) : Leads k m P := ⟨0, m, Nat.zero_le _, Runs.zero, h⟩
theorem Leads.step {k : Nat} {m m₁ : Sre.M} {P : Sre.M → Prop} (ho : m.outcome = none) (h : m.step = m₁) (q : Leads k m₁ P) : Leads (k + 1) m P :=
  let ⟨n, r, a, b, c⟩ := q; ⟨n + 1, r, Nat.succ_le_succ a, Runs.step ho h b, c⟩
theorem Leads.inn {k : Nat} {m : Sre.M} {P : Sre.M → Prop} (q : Nat) (ho : m.outcome = none) (ha : m.answer = none) (hp : m.pc < m.code.size) (w0 : m.code.getD m.pc 0 = 13) (w1 : m.pc + (1 + m.code.getD (m.pc + 1) 0) = q) (hl : m.pos < m.lim)
    (hc : ∃ sn, accepts m.code m.pc (m.text.getD m.pos 0) (m.seen.add 13) = .ok (true, sn)) (h : ∀ sn, Leads k { m with seen := sn, pc := q, pos := m.pos + 1 } P) : Leads (k + 1) m P :=
  let ⟨sn, hs⟩ := hc; Leads.step ho (step_in ho ha hp w0 w1 hl hs) (h sn)
theorem Leads.innNo {k : Nat} {m : Sre.M} {P : Sre.M → Prop} (ho : m.outcome = none) (ha : m.answer = none) (hp : m.pc < m.code.size) (w0 : m.code.getD m.pc 0 = 13) (hl : m.pos < m.lim)
    (hc : ∃ sn, accepts m.code m.pc (m.text.getD m.pos 0) (m.seen.add 13) = .ok (false, sn)) (h : ∀ sn, Leads k { m with seen := sn, answer := some false } P) : Leads (k + 1) m P :=
  let ⟨sn, hs⟩ := hc; Leads.step ho (step_inNo ho ha hp w0 hl hs) (h sn)
theorem Leads.rep {k lo hi op q : Nat} {m : Sre.M} {P : Sre.M → Prop} (n : Nat) (ho : m.outcome = none) (ha : m.answer = none) (hp : m.pc < m.code.size) (w0 : m.code.getD m.pc 0 = 24) (w1 : m.pc + 1 + m.code.getD (m.pc + 1) 0 = q) (w2 : m.code.getD (m.pc + 2) 0 = lo) (w3 : m.code.getD (m.pc + 3) 0 = hi) (w4 : m.code.getD (m.pc + 4) 0 = op)
    (hi' : m.inner = none) (hw : m.weight + 1 + 0 ≤ 16777216) (hr : lo + m.pos ≤ m.lim)
    (hc : ∀ sn, ∃ sn', Sre.run m.code m.text (m.pc + 4) (min hi (m.lim - m.pos)) m.pos 0 sn = .ok (0 + n, sn')) (hn : lo ≤ n)
    (h : ∀ sn, Leads k { m with seen := sn, frames := { wait := .giveBack, pc := m.pc, pos := m.pos + n, outermost := m.outermost, count := n, kept := { lastmark := m.lastmark, lastindex := m.lastindex } } :: m.frames, weight := m.weight + 1 + 0, pc := q, pos := m.pos + n, handed := m.pos + n } P) : Leads (k + 1) m P := by
  obtain ⟨sn, hs⟩ := hc ((m.seen.add 24).add op)
  rw [Nat.zero_add] at hs
  exact Leads.step ho (step_rep (kp := { lastmark := m.lastmark, lastindex := m.lastindex }) ho ha hp w0 w1 w2 w3 w4 (by rw [hi']; rfl) hw hr hs hn) (h sn)
theorem tz_begin {T : Array Nat} {L : Nat} (h : 1 ≤ L) : forSearch tzC T 3 0 L false = atS tzC T L L 0 #[none, none, none, none, none, none] 5 true (({} : Sre.Seen).add 14) :=
  (if_neg (nope (Nat.zero_le L) 1 h)).trans (by kernel_rfl)
/-- the spans that a match keeps -/
noncomputable def spansOf (m : Sre.M) (groups : Nat) : List Int := (m.start : Int) :: (m.handed : Int) :: (List.range groups).flatMap fun g =>
    match if ((2 * g + 1 : Nat) : Int) ≤ m.lastmark then (m.marks.getD (2 * g) none, m.marks.getD (2 * g + 1) none) else (none, none) with
    | (some b, some e) => [(b : Int), (e : Int)]
    | _ => [-1, -1]
/-- found, with these spans -/
noncomputable def Found (g : Nat) (sp : List Int) (m : Sre.M) : Prop := (∃ q, m.outcome = some q ∧ (q matches .matched) = true) ∧ spansOf m g = sp ∧ (List.range g).all (fun g => match m.marks.getD (2 * g) none, m.marks.getD (2 * g + 1) none with | some b, some e => !(decide (((2 * g + 1 : Nat) : Int) ≤ m.lastmark) && decide (e < b)) | _, _ => true) = true
theorem Leads.eq {k : Nat} {m m₁ : Sre.M} {P : Sre.M → Prop} (h : m = m₁) (q : Leads k m₁ P) : Leads k m P := h ▸ q
/-- a state -/
@[reducible] noncomputable def st (T : Array Nat) (L pc pos handed : Nat) (marks : Array (Option Nat)) (lastmark lastindex : Int) (loops : Array Sre.Loop) (inner : Option Nat) (frames : List Sre.Frame) (weight : Nat) (answer : Option Bool) (outcome : Option Sre.Outcome) (seen : Sre.Seen) : Sre.M :=
  { code := tzC, text := T, lim := L, start := 0, lastStart := L, pc, pos, handed, marks, lastmark, lastindex, loops, inner, frames, weight, answer, seen, outcome }
/-- a frame -/
@[reducible] noncomputable def fr (wait : Sre.Wait) (pc pos : Nat) : Sre.Frame := { wait, pc, pos, outermost := true }
theorem tz_pc {a b c d : Nat} (ha : isDigit a = true) (hb : isDigit b = true) (hc : isDigit c = true) (hd : isDigit d = true) : Leads 100 (forSearch tzC #[a, b, 58, c, d] 3 0 5 false) (Found 3 [0, 5, -1, -1, 0, 2, 3, 5]) := by
  refine Leads.eq (m₁ := (st #[a, b, 58, c, d] 5 5 0 0 #[none, none, none, none, none, none] (-1) (-1) #[] none [fr .nextStart 5 0] 1 none none (({} : Sre.Seen).add 14))) (tz_begin (by decide)) ?_
  refine Leads.step (m₁ := (st #[a, b, 58, c, d] 5 7 0 0 #[none, none, none, none, none, none] (-1) (-1) #[] none [fr .nextStart 5 0] 1 none none (((({} : Sre.Seen).add 14).add 6).add 43))) rfl ((step_at (k := 0) (q := 7) rfl rfl (by tm_at "k") (by tm_at "k") (by tm_at "k") rfl (by kernel_rfl)).trans (by kernel_rfl)) ?_
  refine Leads.step (m₁ := (st #[a, b, 58, c, d] 5 22 0 0 #[none, none, none, none, none, none] (-1) (-1) #[⟨7, (-1), none, none⟩] (some 0) [fr .closeLoop 7 0, fr .nextStart 5 0] 2 none none ((((({} : Sre.Seen).add 14).add 6).add 43).add 23))) rfl ((step_rep2 (q := 22) (i := 0) rfl rfl (by tm_at "k") (by tm_at "k") (by tm_at "k") rfl (by tm_at "k")).trans (by kernel_rfl)) ?_
  refine Leads.step (m₁ := (st #[a, b, 58, c, d] 5 11 0 0 #[none, none, none, none, none, none] (-1) (-1) #[⟨7, 0, (some 0), none⟩] (some 0) [{ fr .maxMore 23 0 with kept := { whole := true } }, fr .closeLoop 7 0, fr .nextStart 5 0] 3 none none (((((({} : Sre.Seen).add 14).add 6).add 43).add 23).add 18))) rfl (((step_until rfl rfl (by tm_at "k") (by tm_at "k")).trans (until_more (i := 0) (l := ⟨7, (-1), none, none⟩) (c := 0) (lo := 0) (hi := 1) (q := 11) (kp := { whole := true }) rfl (by kernel_rfl) (by kernel_rfl) (by tm_at "k") (by tm_at "k") (by decide) (by kernel_rfl) (by kernel_rfl) rfl (by tm_at "k"))).trans (by kernel_rfl)) ?_
  refine Leads.step (m₁ := (st #[a, b, 58, c, d] 5 13 0 0 #[(some 0), none, none, none, none, none] 0 (-1) #[⟨7, 0, (some 0), none⟩] (some 0) [{ fr .maxMore 23 0 with kept := { whole := true } }, fr .closeLoop 7 0, fr .nextStart 5 0] 3 none none ((((((({} : Sre.Seen).add 14).add 6).add 43).add 23).add 18).add 17))) rfl ((step_mark (i := 0) rfl rfl (by tm_at "k") (by tm_at "k") (by tm_at "k")).trans (by kernel_rfl)) ?_
  refine Leads.innNo rfl rfl (by tm_at "k") (by tm_at "k") (by tm_at "k") (tz_nosign (c := a) (dig_facts ha).1 (dig_facts ha).2.1) fun s1 => Leads.eq (m₁ := (st #[a, b, 58, c, d] 5 13 0 0 #[(some 0), none, none, none, none, none] 0 (-1) #[⟨7, 0, (some 0), none⟩] (some 0) [{ fr .maxMore 23 0 with kept := { whole := true } }, fr .closeLoop 7 0, fr .nextStart 5 0] 3 (some false) none s1)) (by kernel_rfl) ?_
  refine Leads.step (m₁ := (st #[a, b, 58, c, d] 5 23 0 0 #[(some 0), none, none, none, none, none] (-1) (-1) #[⟨7, (-1), none, none⟩] none [fr .maxTail 23 0, fr .closeLoop 7 0, fr .nextStart 5 0] 3 none none s1)) rfl ((step_maxMoreNo rfl rfl rfl rfl (by tm_at "k")).trans (by kernel_rfl)) ?_
  refine Leads.step (m₁ := (st #[a, b, 58, c, d] 5 25 0 0 #[none, none, (some 0), none, none, none] 2 (-1) #[⟨7, (-1), none, none⟩] none [fr .maxTail 23 0, fr .closeLoop 7 0, fr .nextStart 5 0] 3 none none (s1.add 17))) rfl ((step_mark (i := 2) rfl rfl (by tm_at "k") (by tm_at "k") (by tm_at "k")).trans (by kernel_rfl)) ?_
  refine Leads.inn 30 rfl rfl (by tm_at "k") (by tm_at "k") (by tm_at "k") (by tm_at "k") (tz_digit (p := 25) (c := a) (by decide) ha) fun s2 => Leads.eq (m₁ := (st #[a, b, 58, c, d] 5 30 1 0 #[none, none, (some 0), none, none, none] 2 (-1) #[⟨7, (-1), none, none⟩] none [fr .maxTail 23 0, fr .closeLoop 7 0, fr .nextStart 5 0] 3 none none s2)) (by kernel_rfl) ?_
  refine Leads.rep 1 (lo := 0) (hi := 1) (op := 13) (q := 40) rfl rfl (by tm_at "k") (by tm_at "k") (by tm_at "k") (by tm_at "k") (by tm_at "k") (by tm_at "k") rfl (by tm_at "k") (by tm_at "k") (fun sn => run_take (k := 1) (by tm_at "k") (fun j sn hj => by cases Nat.lt_one_iff.mp hj; exact tz_digit (p := 34) (c := b) (by decide) hb) (fun h => absurd h (Nat.not_lt.mpr (by tm_at "k")))) (by tm_at "k") fun s3 => Leads.eq (m₁ := (st #[a, b, 58, c, d] 5 40 2 2 #[none, none, (some 0), none, none, none] 2 (-1) #[⟨7, (-1), none, none⟩] none [{ fr .giveBack 30 2 with count := 1, kept := { lastmark := 2 } }, fr .maxTail 23 0, fr .closeLoop 7 0, fr .nextStart 5 0] 4 none none s3)) (by kernel_rfl) ?_
  refine Leads.step (m₁ := (st #[a, b, 58, c, d] 5 42 2 2 #[none, none, (some 0), (some 2), none, none] 3 2 #[⟨7, (-1), none, none⟩] none [{ fr .giveBack 30 2 with count := 1, kept := { lastmark := 2 } }, fr .maxTail 23 0, fr .closeLoop 7 0, fr .nextStart 5 0] 4 none none (s3.add 17))) rfl ((step_mark (i := 3) rfl rfl (by tm_at "k") (by tm_at "k") (by tm_at "k")).trans (by kernel_rfl)) ?_
  refine Leads.rep 1 (lo := 0) (hi := 1) (op := 16) (q := 49) rfl rfl (by tm_at "k") (by tm_at "k") (by tm_at "k") (by tm_at "k") (by tm_at "k") (by tm_at "k") rfl (by tm_at "k") (by tm_at "k") (fun sn => run_take (k := 1) (by tm_at "k") (fun j sn hj => by cases Nat.lt_one_iff.mp hj; exact tz_colon (c := 58)) (fun h => absurd h (Nat.not_lt.mpr (by tm_at "k")))) (by tm_at "k") fun s4 => Leads.eq (m₁ := (st #[a, b, 58, c, d] 5 49 3 3 #[none, none, (some 0), (some 2), none, none] 3 2 #[⟨7, (-1), none, none⟩] none [{ fr .giveBack 42 3 with count := 1, kept := { lastmark := 3, lastindex := 2 } }, { fr .giveBack 30 2 with count := 1, kept := { lastmark := 2 } }, fr .maxTail 23 0, fr .closeLoop 7 0, fr .nextStart 5 0] 5 none none s4)) (by kernel_rfl) ?_
  refine Leads.step (m₁ := (st #[a, b, 58, c, d] 5 67 3 3 #[none, none, (some 0), (some 2), none, none] 3 2 #[⟨7, (-1), none, none⟩, ⟨49, (-1), none, none⟩] (some 1) [{ fr .closeLoop 49 3 with loop := 1 }, { fr .giveBack 42 3 with count := 1, kept := { lastmark := 3, lastindex := 2 } }, { fr .giveBack 30 2 with count := 1, kept := { lastmark := 2 } }, fr .maxTail 23 0, fr .closeLoop 7 0, fr .nextStart 5 0] 6 none none (s4.add 23))) rfl ((step_rep2 (q := 67) (i := 1) rfl rfl (by tm_at "k") (by tm_at "k") (by tm_at "k") rfl (by tm_at "k")).trans (by kernel_rfl)) ?_
  refine Leads.step (m₁ := (st #[a, b, 58, c, d] 5 53 3 3 #[none, none, (some 0), (some 2), none, none] 3 2 #[⟨7, (-1), none, none⟩, ⟨49, 0, (some 3), none⟩] (some 1) [{ fr .maxMore 68 3 with kept := { lastmark := 3, lastindex := 2, whole := true, marks := #[none, none, (some 0), (some 2)] }, loop := 1 }, { fr .closeLoop 49 3 with loop := 1 }, { fr .giveBack 42 3 with count := 1, kept := { lastmark := 3, lastindex := 2 } }, { fr .giveBack 30 2 with count := 1, kept := { lastmark := 2 } }, fr .maxTail 23 0, fr .closeLoop 7 0, fr .nextStart 5 0] 11 none none ((s4.add 23).add 18))) rfl (((step_until rfl rfl (by tm_at "k") (by tm_at "k")).trans (until_more (i := 1) (l := ⟨49, (-1), none, none⟩) (c := 0) (lo := 0) (hi := 1) (q := 53) (kp := { lastmark := 3, lastindex := 2, whole := true, marks := #[none, none, (some 0), (some 2)] }) rfl (by kernel_rfl) (by kernel_rfl) (by tm_at "k") (by tm_at "k") (by decide) (by kernel_rfl) (by kernel_rfl) rfl (by tm_at "k"))).trans (by kernel_rfl)) ?_
  refine Leads.step (m₁ := (st #[a, b, 58, c, d] 5 55 3 3 #[none, none, (some 0), (some 2), (some 3), none] 4 2 #[⟨7, (-1), none, none⟩, ⟨49, 0, (some 3), none⟩] (some 1) [{ fr .maxMore 68 3 with kept := { lastmark := 3, lastindex := 2, whole := true, marks := #[none, none, (some 0), (some 2)] }, loop := 1 }, { fr .closeLoop 49 3 with loop := 1 }, { fr .giveBack 42 3 with count := 1, kept := { lastmark := 3, lastindex := 2 } }, { fr .giveBack 30 2 with count := 1, kept := { lastmark := 2 } }, fr .maxTail 23 0, fr .closeLoop 7 0, fr .nextStart 5 0] 11 none none (((s4.add 23).add 18).add 17))) rfl ((step_mark (i := 4) rfl rfl (by tm_at "k") (by tm_at "k") (by tm_at "k")).trans (by kernel_rfl)) ?_
  refine Leads.inn 60 rfl rfl (by tm_at "k") (by tm_at "k") (by tm_at "k") (by tm_at "k") (tz_digit (p := 55) (c := c) (by decide) hc) fun s5 => Leads.eq (m₁ := (st #[a, b, 58, c, d] 5 60 4 3 #[none, none, (some 0), (some 2), (some 3), none] 4 2 #[⟨7, (-1), none, none⟩, ⟨49, 0, (some 3), none⟩] (some 1) [{ fr .maxMore 68 3 with kept := { lastmark := 3, lastindex := 2, whole := true, marks := #[none, none, (some 0), (some 2)] }, loop := 1 }, { fr .closeLoop 49 3 with loop := 1 }, { fr .giveBack 42 3 with count := 1, kept := { lastmark := 3, lastindex := 2 } }, { fr .giveBack 30 2 with count := 1, kept := { lastmark := 2 } }, fr .maxTail 23 0, fr .closeLoop 7 0, fr .nextStart 5 0] 11 none none s5)) (by kernel_rfl) ?_
  refine Leads.inn 65 rfl rfl (by tm_at "k") (by tm_at "k") (by tm_at "k") (by tm_at "k") (tz_digit (p := 60) (c := d) (by decide) hd) fun s6 => Leads.eq (m₁ := (st #[a, b, 58, c, d] 5 65 5 3 #[none, none, (some 0), (some 2), (some 3), none] 4 2 #[⟨7, (-1), none, none⟩, ⟨49, 0, (some 3), none⟩] (some 1) [{ fr .maxMore 68 3 with kept := { lastmark := 3, lastindex := 2, whole := true, marks := #[none, none, (some 0), (some 2)] }, loop := 1 }, { fr .closeLoop 49 3 with loop := 1 }, { fr .giveBack 42 3 with count := 1, kept := { lastmark := 3, lastindex := 2 } }, { fr .giveBack 30 2 with count := 1, kept := { lastmark := 2 } }, fr .maxTail 23 0, fr .closeLoop 7 0, fr .nextStart 5 0] 11 none none s6)) (by kernel_rfl) ?_
  refine Leads.step (m₁ := (st #[a, b, 58, c, d] 5 67 5 3 #[none, none, (some 0), (some 2), (some 3), (some 5)] 5 3 #[⟨7, (-1), none, none⟩, ⟨49, 0, (some 3), none⟩] (some 1) [{ fr .maxMore 68 3 with kept := { lastmark := 3, lastindex := 2, whole := true, marks := #[none, none, (some 0), (some 2)] }, loop := 1 }, { fr .closeLoop 49 3 with loop := 1 }, { fr .giveBack 42 3 with count := 1, kept := { lastmark := 3, lastindex := 2 } }, { fr .giveBack 30 2 with count := 1, kept := { lastmark := 2 } }, fr .maxTail 23 0, fr .closeLoop 7 0, fr .nextStart 5 0] 11 none none (s6.add 17))) rfl ((step_mark (i := 5) rfl rfl (by tm_at "k") (by tm_at "k") (by tm_at "k")).trans (by kernel_rfl)) ?_
  refine Leads.step (m₁ := (st #[a, b, 58, c, d] 5 68 5 5 #[none, none, (some 0), (some 2), (some 3), (some 5)] 5 3 #[⟨7, (-1), none, none⟩, ⟨49, 0, (some 3), none⟩] none [{ fr .maxTail 68 5 with count := 1, kept := { lastmark := 5, lastindex := 3 }, loop := 1 }, { fr .maxMore 68 3 with kept := { lastmark := 3, lastindex := 2, whole := true, marks := #[none, none, (some 0), (some 2)] }, loop := 1 }, { fr .closeLoop 49 3 with loop := 1 }, { fr .giveBack 42 3 with count := 1, kept := { lastmark := 3, lastindex := 2 } }, { fr .giveBack 30 2 with count := 1, kept := { lastmark := 2 } }, fr .maxTail 23 0, fr .closeLoop 7 0, fr .nextStart 5 0] 12 none none ((s6.add 17).add 18))) rfl (((step_until rfl rfl (by tm_at "k") (by tm_at "k")).trans (until_tail (i := 1) (l := ⟨49, 0, (some 3), none⟩) (c := 1) (lo := 0) (hi := 1) rfl (by kernel_rfl) (by kernel_rfl) (by tm_at "k") (by tm_at "k") (by decide) (by kernel_rfl) (by tm_at "k"))).trans (by kernel_rfl)) ?_
  refine Leads.step (m₁ := (st #[a, b, 58, c, d] 5 70 5 5 #[none, none, (some 0), (some 2), (some 3), (some 5)] 5 3 #[⟨7, (-1), none, none⟩, ⟨49, 0, (some 3), none⟩] none [{ fr .maxTail 68 5 with count := 1, kept := { lastmark := 5, lastindex := 3 }, loop := 1 }, { fr .maxMore 68 3 with kept := { lastmark := 3, lastindex := 2, whole := true, marks := #[none, none, (some 0), (some 2)] }, loop := 1 }, { fr .closeLoop 49 3 with loop := 1 }, { fr .giveBack 42 3 with count := 1, kept := { lastmark := 3, lastindex := 2 } }, { fr .giveBack 30 2 with count := 1, kept := { lastmark := 2 } }, fr .maxTail 23 0, fr .closeLoop 7 0, fr .nextStart 5 0] 12 none none ((((s6.add 17).add 18).add 6).add 48))) rfl ((step_at (k := 5) (q := 70) rfl rfl (by tm_at "k") (by tm_at "k") (by tm_at "k") rfl (by kernel_rfl)).trans (by kernel_rfl)) ?_
  refine Leads.step (m₁ := (st #[a, b, 58, c, d] 5 70 5 5 #[none, none, (some 0), (some 2), (some 3), (some 5)] 5 3 #[⟨7, (-1), none, none⟩, ⟨49, 0, (some 3), none⟩] none [{ fr .maxTail 68 5 with count := 1, kept := { lastmark := 5, lastindex := 3 }, loop := 1 }, { fr .maxMore 68 3 with kept := { lastmark := 3, lastindex := 2, whole := true, marks := #[none, none, (some 0), (some 2)] }, loop := 1 }, { fr .closeLoop 49 3 with loop := 1 }, { fr .giveBack 42 3 with count := 1, kept := { lastmark := 3, lastindex := 2 } }, { fr .giveBack 30 2 with count := 1, kept := { lastmark := 2 } }, fr .maxTail 23 0, fr .closeLoop 7 0, fr .nextStart 5 0] 12 (some true) none (((((s6.add 17).add 18).add 6).add 48).add 1))) rfl ((step_success rfl rfl (by tm_at "k") (by tm_at "k") rfl rfl).trans (by kernel_rfl)) ?_
  refine Leads.step (m₁ := (st #[a, b, 58, c, d] 5 68 5 5 #[none, none, (some 0), (some 2), (some 3), (some 5)] 5 3 #[⟨7, (-1), none, none⟩, ⟨49, 0, (some 3), none⟩] (some 1) [{ fr .maxMore 68 3 with kept := { lastmark := 3, lastindex := 2, whole := true, marks := #[none, none, (some 0), (some 2)] }, loop := 1 }, { fr .closeLoop 49 3 with loop := 1 }, { fr .giveBack 42 3 with count := 1, kept := { lastmark := 3, lastindex := 2 } }, { fr .giveBack 30 2 with count := 1, kept := { lastmark := 2 } }, fr .maxTail 23 0, fr .closeLoop 7 0, fr .nextStart 5 0] 11 (some true) none (((((s6.add 17).add 18).add 6).add 48).add 1))) rfl ((step_resume rfl rfl rfl).trans (by kernel_rfl)) ?_
  refine Leads.step (m₁ := (st #[a, b, 58, c, d] 5 68 3 5 #[none, none, (some 0), (some 2), (some 3), (some 5)] 5 3 #[⟨7, (-1), none, none⟩, ⟨49, 0, none, none⟩] (some 1) [{ fr .closeLoop 49 3 with loop := 1 }, { fr .giveBack 42 3 with count := 1, kept := { lastmark := 3, lastindex := 2 } }, { fr .giveBack 30 2 with count := 1, kept := { lastmark := 2 } }, fr .maxTail 23 0, fr .closeLoop 7 0, fr .nextStart 5 0] 6 (some true) none (((((s6.add 17).add 18).add 6).add 48).add 1))) rfl ((step_resume rfl rfl rfl).trans (by kernel_rfl)) ?_
  refine Leads.step (m₁ := (st #[a, b, 58, c, d] 5 49 3 5 #[none, none, (some 0), (some 2), (some 3), (some 5)] 5 3 #[⟨7, (-1), none, none⟩] none [{ fr .giveBack 42 3 with count := 1, kept := { lastmark := 3, lastindex := 2 } }, { fr .giveBack 30 2 with count := 1, kept := { lastmark := 2 } }, fr .maxTail 23 0, fr .closeLoop 7 0, fr .nextStart 5 0] 5 (some true) none (((((s6.add 17).add 18).add 6).add 48).add 1))) rfl ((step_resume rfl rfl rfl).trans (by kernel_rfl)) ?_
  refine Leads.step (m₁ := (st #[a, b, 58, c, d] 5 42 3 5 #[none, none, (some 0), (some 2), (some 3), (some 5)] 5 3 #[⟨7, (-1), none, none⟩] none [{ fr .giveBack 30 2 with count := 1, kept := { lastmark := 2 } }, fr .maxTail 23 0, fr .closeLoop 7 0, fr .nextStart 5 0] 4 (some true) none (((((s6.add 17).add 18).add 6).add 48).add 1))) rfl ((step_resume rfl rfl rfl).trans (by kernel_rfl)) ?_
  refine Leads.step (m₁ := (st #[a, b, 58, c, d] 5 30 2 5 #[none, none, (some 0), (some 2), (some 3), (some 5)] 5 3 #[⟨7, (-1), none, none⟩] none [fr .maxTail 23 0, fr .closeLoop 7 0, fr .nextStart 5 0] 3 (some true) none (((((s6.add 17).add 18).add 6).add 48).add 1))) rfl ((step_resume rfl rfl rfl).trans (by kernel_rfl)) ?_
  refine Leads.step (m₁ := (st #[a, b, 58, c, d] 5 23 0 5 #[none, none, (some 0), (some 2), (some 3), (some 5)] 5 3 #[⟨7, (-1), none, none⟩] (some 0) [fr .closeLoop 7 0, fr .nextStart 5 0] 2 (some true) none (((((s6.add 17).add 18).add 6).add 48).add 1))) rfl ((step_resume rfl rfl rfl).trans (by kernel_rfl)) ?_
  refine Leads.step (m₁ := (st #[a, b, 58, c, d] 5 7 0 5 #[none, none, (some 0), (some 2), (some 3), (some 5)] 5 3 #[] none [fr .nextStart 5 0] 1 (some true) none (((((s6.add 17).add 18).add 6).add 48).add 1))) rfl ((step_resume rfl rfl rfl).trans (by kernel_rfl)) ?_
  refine Leads.step (m₁ := (st #[a, b, 58, c, d] 5 5 0 5 #[none, none, (some 0), (some 2), (some 3), (some 5)] 5 3 #[] none [] 0 (some true) none (((((s6.add 17).add 18).add 6).add 48).add 1))) rfl ((step_resume rfl rfl rfl).trans (by kernel_rfl)) ?_
  refine Leads.step (m₁ := (st #[a, b, 58, c, d] 5 5 0 5 #[none, none, (some 0), (some 2), (some 3), (some 5)] 5 3 #[] none [] 0 (some true) (some .matched) (((((s6.add 17).add 18).add 6).add 48).add 1))) rfl ((step_end rfl rfl rfl).trans (by kernel_rfl)) ?_
  exact Leads.zero ⟨⟨_, rfl, rfl⟩, by kernel_rfl, by kernel_rfl⟩
theorem tz_pn {a b c d : Nat} (ha : isDigit a = true) (hb : isDigit b = true) (hc : isDigit c = true) (hd : isDigit d = true) : Leads 100 (forSearch tzC #[a, b, c, d] 3 0 4 false) (Found 3 [0, 4, -1, -1, 0, 2, 2, 4]) := by
  refine Leads.eq (m₁ := (st #[a, b, c, d] 4 5 0 0 #[none, none, none, none, none, none] (-1) (-1) #[] none [fr .nextStart 5 0] 1 none none (({} : Sre.Seen).add 14))) (tz_begin (by decide)) ?_
  refine Leads.step (m₁ := (st #[a, b, c, d] 4 7 0 0 #[none, none, none, none, none, none] (-1) (-1) #[] none [fr .nextStart 5 0] 1 none none (((({} : Sre.Seen).add 14).add 6).add 43))) rfl ((step_at (k := 0) (q := 7) rfl rfl (by tm_at "k") (by tm_at "k") (by tm_at "k") rfl (by kernel_rfl)).trans (by kernel_rfl)) ?_
  refine Leads.step (m₁ := (st #[a, b, c, d] 4 22 0 0 #[none, none, none, none, none, none] (-1) (-1) #[⟨7, (-1), none, none⟩] (some 0) [fr .closeLoop 7 0, fr .nextStart 5 0] 2 none none ((((({} : Sre.Seen).add 14).add 6).add 43).add 23))) rfl ((step_rep2 (q := 22) (i := 0) rfl rfl (by tm_at "k") (by tm_at "k") (by tm_at "k") rfl (by tm_at "k")).trans (by kernel_rfl)) ?_
  refine Leads.step (m₁ := (st #[a, b, c, d] 4 11 0 0 #[none, none, none, none, none, none] (-1) (-1) #[⟨7, 0, (some 0), none⟩] (some 0) [{ fr .maxMore 23 0 with kept := { whole := true } }, fr .closeLoop 7 0, fr .nextStart 5 0] 3 none none (((((({} : Sre.Seen).add 14).add 6).add 43).add 23).add 18))) rfl (((step_until rfl rfl (by tm_at "k") (by tm_at "k")).trans (until_more (i := 0) (l := ⟨7, (-1), none, none⟩) (c := 0) (lo := 0) (hi := 1) (q := 11) (kp := { whole := true }) rfl (by kernel_rfl) (by kernel_rfl) (by tm_at "k") (by tm_at "k") (by decide) (by kernel_rfl) (by kernel_rfl) rfl (by tm_at "k"))).trans (by kernel_rfl)) ?_
  refine Leads.step (m₁ := (st #[a, b, c, d] 4 13 0 0 #[(some 0), none, none, none, none, none] 0 (-1) #[⟨7, 0, (some 0), none⟩] (some 0) [{ fr .maxMore 23 0 with kept := { whole := true } }, fr .closeLoop 7 0, fr .nextStart 5 0] 3 none none ((((((({} : Sre.Seen).add 14).add 6).add 43).add 23).add 18).add 17))) rfl ((step_mark (i := 0) rfl rfl (by tm_at "k") (by tm_at "k") (by tm_at "k")).trans (by kernel_rfl)) ?_
  refine Leads.innNo rfl rfl (by tm_at "k") (by tm_at "k") (by tm_at "k") (tz_nosign (c := a) (dig_facts ha).1 (dig_facts ha).2.1) fun s1 => Leads.eq (m₁ := (st #[a, b, c, d] 4 13 0 0 #[(some 0), none, none, none, none, none] 0 (-1) #[⟨7, 0, (some 0), none⟩] (some 0) [{ fr .maxMore 23 0 with kept := { whole := true } }, fr .closeLoop 7 0, fr .nextStart 5 0] 3 (some false) none s1)) (by kernel_rfl) ?_
  refine Leads.step (m₁ := (st #[a, b, c, d] 4 23 0 0 #[(some 0), none, none, none, none, none] (-1) (-1) #[⟨7, (-1), none, none⟩] none [fr .maxTail 23 0, fr .closeLoop 7 0, fr .nextStart 5 0] 3 none none s1)) rfl ((step_maxMoreNo rfl rfl rfl rfl (by tm_at "k")).trans (by kernel_rfl)) ?_
  refine Leads.step (m₁ := (st #[a, b, c, d] 4 25 0 0 #[none, none, (some 0), none, none, none] 2 (-1) #[⟨7, (-1), none, none⟩] none [fr .maxTail 23 0, fr .closeLoop 7 0, fr .nextStart 5 0] 3 none none (s1.add 17))) rfl ((step_mark (i := 2) rfl rfl (by tm_at "k") (by tm_at "k") (by tm_at "k")).trans (by kernel_rfl)) ?_
  refine Leads.inn 30 rfl rfl (by tm_at "k") (by tm_at "k") (by tm_at "k") (by tm_at "k") (tz_digit (p := 25) (c := a) (by decide) ha) fun s2 => Leads.eq (m₁ := (st #[a, b, c, d] 4 30 1 0 #[none, none, (some 0), none, none, none] 2 (-1) #[⟨7, (-1), none, none⟩] none [fr .maxTail 23 0, fr .closeLoop 7 0, fr .nextStart 5 0] 3 none none s2)) (by kernel_rfl) ?_
  refine Leads.rep 1 (lo := 0) (hi := 1) (op := 13) (q := 40) rfl rfl (by tm_at "k") (by tm_at "k") (by tm_at "k") (by tm_at "k") (by tm_at "k") (by tm_at "k") rfl (by tm_at "k") (by tm_at "k") (fun sn => run_take (k := 1) (by tm_at "k") (fun j sn hj => by cases Nat.lt_one_iff.mp hj; exact tz_digit (p := 34) (c := b) (by decide) hb) (fun h => absurd h (Nat.not_lt.mpr (by tm_at "k")))) (by tm_at "k") fun s3 => Leads.eq (m₁ := (st #[a, b, c, d] 4 40 2 2 #[none, none, (some 0), none, none, none] 2 (-1) #[⟨7, (-1), none, none⟩] none [{ fr .giveBack 30 2 with count := 1, kept := { lastmark := 2 } }, fr .maxTail 23 0, fr .closeLoop 7 0, fr .nextStart 5 0] 4 none none s3)) (by kernel_rfl) ?_
  refine Leads.step (m₁ := (st #[a, b, c, d] 4 42 2 2 #[none, none, (some 0), (some 2), none, none] 3 2 #[⟨7, (-1), none, none⟩] none [{ fr .giveBack 30 2 with count := 1, kept := { lastmark := 2 } }, fr .maxTail 23 0, fr .closeLoop 7 0, fr .nextStart 5 0] 4 none none (s3.add 17))) rfl ((step_mark (i := 3) rfl rfl (by tm_at "k") (by tm_at "k") (by tm_at "k")).trans (by kernel_rfl)) ?_
  refine Leads.rep 0 (lo := 0) (hi := 1) (op := 16) (q := 49) rfl rfl (by tm_at "k") (by tm_at "k") (by tm_at "k") (by tm_at "k") (by tm_at "k") (by tm_at "k") rfl (by tm_at "k") (by tm_at "k") (fun sn => run_take (k := 0) (Nat.zero_le _) (fun j sn hj => absurd hj (Nat.not_lt_zero _)) (fun h sn => (by have := tz_colon (c := c) (sn := sn); rw [(dig_facts hc).2.2] at this; exact this))) (by tm_at "k") fun s4 => Leads.eq (m₁ := (st #[a, b, c, d] 4 49 2 2 #[none, none, (some 0), (some 2), none, none] 3 2 #[⟨7, (-1), none, none⟩] none [{ fr .giveBack 42 2 with kept := { lastmark := 3, lastindex := 2 } }, { fr .giveBack 30 2 with count := 1, kept := { lastmark := 2 } }, fr .maxTail 23 0, fr .closeLoop 7 0, fr .nextStart 5 0] 5 none none s4)) (by kernel_rfl) ?_
  refine Leads.step (m₁ := (st #[a, b, c, d] 4 67 2 2 #[none, none, (some 0), (some 2), none, none] 3 2 #[⟨7, (-1), none, none⟩, ⟨49, (-1), none, none⟩] (some 1) [{ fr .closeLoop 49 2 with loop := 1 }, { fr .giveBack 42 2 with kept := { lastmark := 3, lastindex := 2 } }, { fr .giveBack 30 2 with count := 1, kept := { lastmark := 2 } }, fr .maxTail 23 0, fr .closeLoop 7 0, fr .nextStart 5 0] 6 none none (s4.add 23))) rfl ((step_rep2 (q := 67) (i := 1) rfl rfl (by tm_at "k") (by tm_at "k") (by tm_at "k") rfl (by tm_at "k")).trans (by kernel_rfl)) ?_
  refine Leads.step (m₁ := (st #[a, b, c, d] 4 53 2 2 #[none, none, (some 0), (some 2), none, none] 3 2 #[⟨7, (-1), none, none⟩, ⟨49, 0, (some 2), none⟩] (some 1) [{ fr .maxMore 68 2 with kept := { lastmark := 3, lastindex := 2, whole := true, marks := #[none, none, (some 0), (some 2)] }, loop := 1 }, { fr .closeLoop 49 2 with loop := 1 }, { fr .giveBack 42 2 with kept := { lastmark := 3, lastindex := 2 } }, { fr .giveBack 30 2 with count := 1, kept := { lastmark := 2 } }, fr .maxTail 23 0, fr .closeLoop 7 0, fr .nextStart 5 0] 11 none none ((s4.add 23).add 18))) rfl (((step_until rfl rfl (by tm_at "k") (by tm_at "k")).trans (until_more (i := 1) (l := ⟨49, (-1), none, none⟩) (c := 0) (lo := 0) (hi := 1) (q := 53) (kp := { lastmark := 3, lastindex := 2, whole := true, marks := #[none, none, (some 0), (some 2)] }) rfl (by kernel_rfl) (by kernel_rfl) (by tm_at "k") (by tm_at "k") (by decide) (by kernel_rfl) (by kernel_rfl) rfl (by tm_at "k"))).trans (by kernel_rfl)) ?_
  refine Leads.step (m₁ := (st #[a, b, c, d] 4 55 2 2 #[none, none, (some 0), (some 2), (some 2), none] 4 2 #[⟨7, (-1), none, none⟩, ⟨49, 0, (some 2), none⟩] (some 1) [{ fr .maxMore 68 2 with kept := { lastmark := 3, lastindex := 2, whole := true, marks := #[none, none, (some 0), (some 2)] }, loop := 1 }, { fr .closeLoop 49 2 with loop := 1 }, { fr .giveBack 42 2 with kept := { lastmark := 3, lastindex := 2 } }, { fr .giveBack 30 2 with count := 1, kept := { lastmark := 2 } }, fr .maxTail 23 0, fr .closeLoop 7 0, fr .nextStart 5 0] 11 none none (((s4.add 23).add 18).add 17))) rfl ((step_mark (i := 4) rfl rfl (by tm_at "k") (by tm_at "k") (by tm_at "k")).trans (by kernel_rfl)) ?_
  refine Leads.inn 60 rfl rfl (by tm_at "k") (by tm_at "k") (by tm_at "k") (by tm_at "k") (tz_digit (p := 55) (c := c) (by decide) hc) fun s5 => Leads.eq (m₁ := (st #[a, b, c, d] 4 60 3 2 #[none, none, (some 0), (some 2), (some 2), none] 4 2 #[⟨7, (-1), none, none⟩, ⟨49, 0, (some 2), none⟩] (some 1) [{ fr .maxMore 68 2 with kept := { lastmark := 3, lastindex := 2, whole := true, marks := #[none, none, (some 0), (some 2)] }, loop := 1 }, { fr .closeLoop 49 2 with loop := 1 }, { fr .giveBack 42 2 with kept := { lastmark := 3, lastindex := 2 } }, { fr .giveBack 30 2 with count := 1, kept := { lastmark := 2 } }, fr .maxTail 23 0, fr .closeLoop 7 0, fr .nextStart 5 0] 11 none none s5)) (by kernel_rfl) ?_
  refine Leads.inn 65 rfl rfl (by tm_at "k") (by tm_at "k") (by tm_at "k") (by tm_at "k") (tz_digit (p := 60) (c := d) (by decide) hd) fun s6 => Leads.eq (m₁ := (st #[a, b, c, d] 4 65 4 2 #[none, none, (some 0), (some 2), (some 2), none] 4 2 #[⟨7, (-1), none, none⟩, ⟨49, 0, (some 2), none⟩] (some 1) [{ fr .maxMore 68 2 with kept := { lastmark := 3, lastindex := 2, whole := true, marks := #[none, none, (some 0), (some 2)] }, loop := 1 }, { fr .closeLoop 49 2 with loop := 1 }, { fr .giveBack 42 2 with kept := { lastmark := 3, lastindex := 2 } }, { fr .giveBack 30 2 with count := 1, kept := { lastmark := 2 } }, fr .maxTail 23 0, fr .closeLoop 7 0, fr .nextStart 5 0] 11 none none s6)) (by kernel_rfl) ?_
  refine Leads.step (m₁ := (st #[a, b, c, d] 4 67 4 2 #[none, none, (some 0), (some 2), (some 2), (some 4)] 5 3 #[⟨7, (-1), none, none⟩, ⟨49, 0, (some 2), none⟩] (some 1) [{ fr .maxMore 68 2 with kept := { lastmark := 3, lastindex := 2, whole := true, marks := #[none, none, (some 0), (some 2)] }, loop := 1 }, { fr .closeLoop 49 2 with loop := 1 }, { fr .giveBack 42 2 with kept := { lastmark := 3, lastindex := 2 } }, { fr .giveBack 30 2 with count := 1, kept := { lastmark := 2 } }, fr .maxTail 23 0, fr .closeLoop 7 0, fr .nextStart 5 0] 11 none none (s6.add 17))) rfl ((step_mark (i := 5) rfl rfl (by tm_at "k") (by tm_at "k") (by tm_at "k")).trans (by kernel_rfl)) ?_
  refine Leads.step (m₁ := (st #[a, b, c, d] 4 68 4 4 #[none, none, (some 0), (some 2), (some 2), (some 4)] 5 3 #[⟨7, (-1), none, none⟩, ⟨49, 0, (some 2), none⟩] none [{ fr .maxTail 68 4 with count := 1, kept := { lastmark := 5, lastindex := 3 }, loop := 1 }, { fr .maxMore 68 2 with kept := { lastmark := 3, lastindex := 2, whole := true, marks := #[none, none, (some 0), (some 2)] }, loop := 1 }, { fr .closeLoop 49 2 with loop := 1 }, { fr .giveBack 42 2 with kept := { lastmark := 3, lastindex := 2 } }, { fr .giveBack 30 2 with count := 1, kept := { lastmark := 2 } }, fr .maxTail 23 0, fr .closeLoop 7 0, fr .nextStart 5 0] 12 none none ((s6.add 17).add 18))) rfl (((step_until rfl rfl (by tm_at "k") (by tm_at "k")).trans (until_tail (i := 1) (l := ⟨49, 0, (some 2), none⟩) (c := 1) (lo := 0) (hi := 1) rfl (by kernel_rfl) (by kernel_rfl) (by tm_at "k") (by tm_at "k") (by decide) (by kernel_rfl) (by tm_at "k"))).trans (by kernel_rfl)) ?_
  refine Leads.step (m₁ := (st #[a, b, c, d] 4 70 4 4 #[none, none, (some 0), (some 2), (some 2), (some 4)] 5 3 #[⟨7, (-1), none, none⟩, ⟨49, 0, (some 2), none⟩] none [{ fr .maxTail 68 4 with count := 1, kept := { lastmark := 5, lastindex := 3 }, loop := 1 }, { fr .maxMore 68 2 with kept := { lastmark := 3, lastindex := 2, whole := true, marks := #[none, none, (some 0), (some 2)] }, loop := 1 }, { fr .closeLoop 49 2 with loop := 1 }, { fr .giveBack 42 2 with kept := { lastmark := 3, lastindex := 2 } }, { fr .giveBack 30 2 with count := 1, kept := { lastmark := 2 } }, fr .maxTail 23 0, fr .closeLoop 7 0, fr .nextStart 5 0] 12 none none ((((s6.add 17).add 18).add 6).add 48))) rfl ((step_at (k := 5) (q := 70) rfl rfl (by tm_at "k") (by tm_at "k") (by tm_at "k") rfl (by kernel_rfl)).trans (by kernel_rfl)) ?_
  refine Leads.step (m₁ := (st #[a, b, c, d] 4 70 4 4 #[none, none, (some 0), (some 2), (some 2), (some 4)] 5 3 #[⟨7, (-1), none, none⟩, ⟨49, 0, (some 2), none⟩] none [{ fr .maxTail 68 4 with count := 1, kept := { lastmark := 5, lastindex := 3 }, loop := 1 }, { fr .maxMore 68 2 with kept := { lastmark := 3, lastindex := 2, whole := true, marks := #[none, none, (some 0), (some 2)] }, loop := 1 }, { fr .closeLoop 49 2 with loop := 1 }, { fr .giveBack 42 2 with kept := { lastmark := 3, lastindex := 2 } }, { fr .giveBack 30 2 with count := 1, kept := { lastmark := 2 } }, fr .maxTail 23 0, fr .closeLoop 7 0, fr .nextStart 5 0] 12 (some true) none (((((s6.add 17).add 18).add 6).add 48).add 1))) rfl ((step_success rfl rfl (by tm_at "k") (by tm_at "k") rfl rfl).trans (by kernel_rfl)) ?_
  refine Leads.step (m₁ := (st #[a, b, c, d] 4 68 4 4 #[none, none, (some 0), (some 2), (some 2), (some 4)] 5 3 #[⟨7, (-1), none, none⟩, ⟨49, 0, (some 2), none⟩] (some 1) [{ fr .maxMore 68 2 with kept := { lastmark := 3, lastindex := 2, whole := true, marks := #[none, none, (some 0), (some 2)] }, loop := 1 }, { fr .closeLoop 49 2 with loop := 1 }, { fr .giveBack 42 2 with kept := { lastmark := 3, lastindex := 2 } }, { fr .giveBack 30 2 with count := 1, kept := { lastmark := 2 } }, fr .maxTail 23 0, fr .closeLoop 7 0, fr .nextStart 5 0] 11 (some true) none (((((s6.add 17).add 18).add 6).add 48).add 1))) rfl ((step_resume rfl rfl rfl).trans (by kernel_rfl)) ?_
  refine Leads.step (m₁ := (st #[a, b, c, d] 4 68 2 4 #[none, none, (some 0), (some 2), (some 2), (some 4)] 5 3 #[⟨7, (-1), none, none⟩, ⟨49, 0, none, none⟩] (some 1) [{ fr .closeLoop 49 2 with loop := 1 }, { fr .giveBack 42 2 with kept := { lastmark := 3, lastindex := 2 } }, { fr .giveBack 30 2 with count := 1, kept := { lastmark := 2 } }, fr .maxTail 23 0, fr .closeLoop 7 0, fr .nextStart 5 0] 6 (some true) none (((((s6.add 17).add 18).add 6).add 48).add 1))) rfl ((step_resume rfl rfl rfl).trans (by kernel_rfl)) ?_
  refine Leads.step (m₁ := (st #[a, b, c, d] 4 49 2 4 #[none, none, (some 0), (some 2), (some 2), (some 4)] 5 3 #[⟨7, (-1), none, none⟩] none [{ fr .giveBack 42 2 with kept := { lastmark := 3, lastindex := 2 } }, { fr .giveBack 30 2 with count := 1, kept := { lastmark := 2 } }, fr .maxTail 23 0, fr .closeLoop 7 0, fr .nextStart 5 0] 5 (some true) none (((((s6.add 17).add 18).add 6).add 48).add 1))) rfl ((step_resume rfl rfl rfl).trans (by kernel_rfl)) ?_
  refine Leads.step (m₁ := (st #[a, b, c, d] 4 42 2 4 #[none, none, (some 0), (some 2), (some 2), (some 4)] 5 3 #[⟨7, (-1), none, none⟩] none [{ fr .giveBack 30 2 with count := 1, kept := { lastmark := 2 } }, fr .maxTail 23 0, fr .closeLoop 7 0, fr .nextStart 5 0] 4 (some true) none (((((s6.add 17).add 18).add 6).add 48).add 1))) rfl ((step_resume rfl rfl rfl).trans (by kernel_rfl)) ?_
  refine Leads.step (m₁ := (st #[a, b, c, d] 4 30 2 4 #[none, none, (some 0), (some 2), (some 2), (some 4)] 5 3 #[⟨7, (-1), none, none⟩] none [fr .maxTail 23 0, fr .closeLoop 7 0, fr .nextStart 5 0] 3 (some true) none (((((s6.add 17).add 18).add 6).add 48).add 1))) rfl ((step_resume rfl rfl rfl).trans (by kernel_rfl)) ?_
  refine Leads.step (m₁ := (st #[a, b, c, d] 4 23 0 4 #[none, none, (some 0), (some 2), (some 2), (some 4)] 5 3 #[⟨7, (-1), none, none⟩] (some 0) [fr .closeLoop 7 0, fr .nextStart 5 0] 2 (some true) none (((((s6.add 17).add 18).add 6).add 48).add 1))) rfl ((step_resume rfl rfl rfl).trans (by kernel_rfl)) ?_
  refine Leads.step (m₁ := (st #[a, b, c, d] 4 7 0 4 #[none, none, (some 0), (some 2), (some 2), (some 4)] 5 3 #[] none [fr .nextStart 5 0] 1 (some true) none (((((s6.add 17).add 18).add 6).add 48).add 1))) rfl ((step_resume rfl rfl rfl).trans (by kernel_rfl)) ?_
  refine Leads.step (m₁ := (st #[a, b, c, d] 4 5 0 4 #[none, none, (some 0), (some 2), (some 2), (some 4)] 5 3 #[] none [] 0 (some true) none (((((s6.add 17).add 18).add 6).add 48).add 1))) rfl ((step_resume rfl rfl rfl).trans (by kernel_rfl)) ?_
  refine Leads.step (m₁ := (st #[a, b, c, d] 4 5 0 4 #[none, none, (some 0), (some 2), (some 2), (some 4)] 5 3 #[] none [] 0 (some true) (some .matched) (((((s6.add 17).add 18).add 6).add 48).add 1))) rfl ((step_end rfl rfl rfl).trans (by kernel_rfl)) ?_
  exact Leads.zero ⟨⟨_, rfl, rfl⟩, by kernel_rfl, by kernel_rfl⟩
theorem tz_ph {a : Nat} (ha : isDigit a = true) : Leads 100 (forSearch tzC #[a] 3 0 1 false) (Found 3 [0, 1, -1, -1, 0, 1, -1, -1]) := by
  refine Leads.eq (m₁ := (st #[a] 1 5 0 0 #[none, none, none, none, none, none] (-1) (-1) #[] none [fr .nextStart 5 0] 1 none none (({} : Sre.Seen).add 14))) (tz_begin (by decide)) ?_
  refine Leads.step (m₁ := (st #[a] 1 7 0 0 #[none, none, none, none, none, none] (-1) (-1) #[] none [fr .nextStart 5 0] 1 none none (((({} : Sre.Seen).add 14).add 6).add 43))) rfl ((step_at (k := 0) (q := 7) rfl rfl (by tm_at "k") (by tm_at "k") (by tm_at "k") rfl (by kernel_rfl)).trans (by kernel_rfl)) ?_
  refine Leads.step (m₁ := (st #[a] 1 22 0 0 #[none, none, none, none, none, none] (-1) (-1) #[⟨7, (-1), none, none⟩] (some 0) [fr .closeLoop 7 0, fr .nextStart 5 0] 2 none none ((((({} : Sre.Seen).add 14).add 6).add 43).add 23))) rfl ((step_rep2 (q := 22) (i := 0) rfl rfl (by tm_at "k") (by tm_at "k") (by tm_at "k") rfl (by tm_at "k")).trans (by kernel_rfl)) ?_
  refine Leads.step (m₁ := (st #[a] 1 11 0 0 #[none, none, none, none, none, none] (-1) (-1) #[⟨7, 0, (some 0), none⟩] (some 0) [{ fr .maxMore 23 0 with kept := { whole := true } }, fr .closeLoop 7 0, fr .nextStart 5 0] 3 none none (((((({} : Sre.Seen).add 14).add 6).add 43).add 23).add 18))) rfl (((step_until rfl rfl (by tm_at "k") (by tm_at "k")).trans (until_more (i := 0) (l := ⟨7, (-1), none, none⟩) (c := 0) (lo := 0) (hi := 1) (q := 11) (kp := { whole := true }) rfl (by kernel_rfl) (by kernel_rfl) (by tm_at "k") (by tm_at "k") (by decide) (by kernel_rfl) (by kernel_rfl) rfl (by tm_at "k"))).trans (by kernel_rfl)) ?_
  refine Leads.step (m₁ := (st #[a] 1 13 0 0 #[(some 0), none, none, none, none, none] 0 (-1) #[⟨7, 0, (some 0), none⟩] (some 0) [{ fr .maxMore 23 0 with kept := { whole := true } }, fr .closeLoop 7 0, fr .nextStart 5 0] 3 none none ((((((({} : Sre.Seen).add 14).add 6).add 43).add 23).add 18).add 17))) rfl ((step_mark (i := 0) rfl rfl (by tm_at "k") (by tm_at "k") (by tm_at "k")).trans (by kernel_rfl)) ?_
  refine Leads.innNo rfl rfl (by tm_at "k") (by tm_at "k") (by tm_at "k") (tz_nosign (c := a) (dig_facts ha).1 (dig_facts ha).2.1) fun s1 => Leads.eq (m₁ := (st #[a] 1 13 0 0 #[(some 0), none, none, none, none, none] 0 (-1) #[⟨7, 0, (some 0), none⟩] (some 0) [{ fr .maxMore 23 0 with kept := { whole := true } }, fr .closeLoop 7 0, fr .nextStart 5 0] 3 (some false) none s1)) (by kernel_rfl) ?_
  refine Leads.step (m₁ := (st #[a] 1 23 0 0 #[(some 0), none, none, none, none, none] (-1) (-1) #[⟨7, (-1), none, none⟩] none [fr .maxTail 23 0, fr .closeLoop 7 0, fr .nextStart 5 0] 3 none none s1)) rfl ((step_maxMoreNo rfl rfl rfl rfl (by tm_at "k")).trans (by kernel_rfl)) ?_
  refine Leads.step (m₁ := (st #[a] 1 25 0 0 #[none, none, (some 0), none, none, none] 2 (-1) #[⟨7, (-1), none, none⟩] none [fr .maxTail 23 0, fr .closeLoop 7 0, fr .nextStart 5 0] 3 none none (s1.add 17))) rfl ((step_mark (i := 2) rfl rfl (by tm_at "k") (by tm_at "k") (by tm_at "k")).trans (by kernel_rfl)) ?_
  refine Leads.inn 30 rfl rfl (by tm_at "k") (by tm_at "k") (by tm_at "k") (by tm_at "k") (tz_digit (p := 25) (c := a) (by decide) ha) fun s2 => Leads.eq (m₁ := (st #[a] 1 30 1 0 #[none, none, (some 0), none, none, none] 2 (-1) #[⟨7, (-1), none, none⟩] none [fr .maxTail 23 0, fr .closeLoop 7 0, fr .nextStart 5 0] 3 none none s2)) (by kernel_rfl) ?_
  refine Leads.rep 0 (lo := 0) (hi := 1) (op := 13) (q := 40) rfl rfl (by tm_at "k") (by tm_at "k") (by tm_at "k") (by tm_at "k") (by tm_at "k") (by tm_at "k") rfl (by tm_at "k") (by tm_at "k") (fun sn => run_take (k := 0) (Nat.zero_le _) (fun j sn hj => absurd hj (Nat.not_lt_zero _)) (fun h sn => absurd h (Nat.not_lt.mpr (by tm_at "k")))) (by tm_at "k") fun s3 => Leads.eq (m₁ := (st #[a] 1 40 1 1 #[none, none, (some 0), none, none, none] 2 (-1) #[⟨7, (-1), none, none⟩] none [{ fr .giveBack 30 1 with kept := { lastmark := 2 } }, fr .maxTail 23 0, fr .closeLoop 7 0, fr .nextStart 5 0] 4 none none s3)) (by kernel_rfl) ?_
  refine Leads.step (m₁ := (st #[a] 1 42 1 1 #[none, none, (some 0), (some 1), none, none] 3 2 #[⟨7, (-1), none, none⟩] none [{ fr .giveBack 30 1 with kept := { lastmark := 2 } }, fr .maxTail 23 0, fr .closeLoop 7 0, fr .nextStart 5 0] 4 none none (s3.add 17))) rfl ((step_mark (i := 3) rfl rfl (by tm_at "k") (by tm_at "k") (by tm_at "k")).trans (by kernel_rfl)) ?_
  refine Leads.rep 0 (lo := 0) (hi := 1) (op := 16) (q := 49) rfl rfl (by tm_at "k") (by tm_at "k") (by tm_at "k") (by tm_at "k") (by tm_at "k") (by tm_at "k") rfl (by tm_at "k") (by tm_at "k") (fun sn => run_take (k := 0) (Nat.zero_le _) (fun j sn hj => absurd hj (Nat.not_lt_zero _)) (fun h sn => absurd h (Nat.not_lt.mpr (by tm_at "k")))) (by tm_at "k") fun s4 => Leads.eq (m₁ := (st #[a] 1 49 1 1 #[none, none, (some 0), (some 1), none, none] 3 2 #[⟨7, (-1), none, none⟩] none [{ fr .giveBack 42 1 with kept := { lastmark := 3, lastindex := 2 } }, { fr .giveBack 30 1 with kept := { lastmark := 2 } }, fr .maxTail 23 0, fr .closeLoop 7 0, fr .nextStart 5 0] 5 none none s4)) (by kernel_rfl) ?_
  refine Leads.step (m₁ := (st #[a] 1 67 1 1 #[none, none, (some 0), (some 1), none, none] 3 2 #[⟨7, (-1), none, none⟩, ⟨49, (-1), none, none⟩] (some 1) [{ fr .closeLoop 49 1 with loop := 1 }, { fr .giveBack 42 1 with kept := { lastmark := 3, lastindex := 2 } }, { fr .giveBack 30 1 with kept := { lastmark := 2 } }, fr .maxTail 23 0, fr .closeLoop 7 0, fr .nextStart 5 0] 6 none none (s4.add 23))) rfl ((step_rep2 (q := 67) (i := 1) rfl rfl (by tm_at "k") (by tm_at "k") (by tm_at "k") rfl (by tm_at "k")).trans (by kernel_rfl)) ?_
  refine Leads.step (m₁ := (st #[a] 1 53 1 1 #[none, none, (some 0), (some 1), none, none] 3 2 #[⟨7, (-1), none, none⟩, ⟨49, 0, (some 1), none⟩] (some 1) [{ fr .maxMore 68 1 with kept := { lastmark := 3, lastindex := 2, whole := true, marks := #[none, none, (some 0), (some 1)] }, loop := 1 }, { fr .closeLoop 49 1 with loop := 1 }, { fr .giveBack 42 1 with kept := { lastmark := 3, lastindex := 2 } }, { fr .giveBack 30 1 with kept := { lastmark := 2 } }, fr .maxTail 23 0, fr .closeLoop 7 0, fr .nextStart 5 0] 11 none none ((s4.add 23).add 18))) rfl (((step_until rfl rfl (by tm_at "k") (by tm_at "k")).trans (until_more (i := 1) (l := ⟨49, (-1), none, none⟩) (c := 0) (lo := 0) (hi := 1) (q := 53) (kp := { lastmark := 3, lastindex := 2, whole := true, marks := #[none, none, (some 0), (some 1)] }) rfl (by kernel_rfl) (by kernel_rfl) (by tm_at "k") (by tm_at "k") (by decide) (by kernel_rfl) (by kernel_rfl) rfl (by tm_at "k"))).trans (by kernel_rfl)) ?_
  refine Leads.step (m₁ := (st #[a] 1 55 1 1 #[none, none, (some 0), (some 1), (some 1), none] 4 2 #[⟨7, (-1), none, none⟩, ⟨49, 0, (some 1), none⟩] (some 1) [{ fr .maxMore 68 1 with kept := { lastmark := 3, lastindex := 2, whole := true, marks := #[none, none, (some 0), (some 1)] }, loop := 1 }, { fr .closeLoop 49 1 with loop := 1 }, { fr .giveBack 42 1 with kept := { lastmark := 3, lastindex := 2 } }, { fr .giveBack 30 1 with kept := { lastmark := 2 } }, fr .maxTail 23 0, fr .closeLoop 7 0, fr .nextStart 5 0] 11 none none (((s4.add 23).add 18).add 17))) rfl ((step_mark (i := 4) rfl rfl (by tm_at "k") (by tm_at "k") (by tm_at "k")).trans (by kernel_rfl)) ?_
  refine Leads.step (m₁ := (st #[a] 1 55 1 1 #[none, none, (some 0), (some 1), (some 1), none] 4 2 #[⟨7, (-1), none, none⟩, ⟨49, 0, (some 1), none⟩] (some 1) [{ fr .maxMore 68 1 with kept := { lastmark := 3, lastindex := 2, whole := true, marks := #[none, none, (some 0), (some 1)] }, loop := 1 }, { fr .closeLoop 49 1 with loop := 1 }, { fr .giveBack 42 1 with kept := { lastmark := 3, lastindex := 2 } }, { fr .giveBack 30 1 with kept := { lastmark := 2 } }, fr .maxTail 23 0, fr .closeLoop 7 0, fr .nextStart 5 0] 11 (some false) none ((((s4.add 23).add 18).add 17).add 13))) rfl ((step_inEnd rfl rfl (by tm_at "k") (by tm_at "k") (by tm_at "k")).trans (by kernel_rfl)) ?_
  refine Leads.step (m₁ := (st #[a] 1 68 1 1 #[none, none, (some 0), (some 1), (some 1), none] 3 2 #[⟨7, (-1), none, none⟩, ⟨49, (-1), none, none⟩] none [{ fr .maxTail 68 1 with kept := { lastmark := 3, lastindex := 2 }, loop := 1 }, { fr .closeLoop 49 1 with loop := 1 }, { fr .giveBack 42 1 with kept := { lastmark := 3, lastindex := 2 } }, { fr .giveBack 30 1 with kept := { lastmark := 2 } }, fr .maxTail 23 0, fr .closeLoop 7 0, fr .nextStart 5 0] 7 none none ((((s4.add 23).add 18).add 17).add 13))) rfl ((step_maxMoreNo rfl rfl rfl rfl (by tm_at "k")).trans (by kernel_rfl)) ?_
  refine Leads.step (m₁ := (st #[a] 1 70 1 1 #[none, none, (some 0), (some 1), (some 1), none] 3 2 #[⟨7, (-1), none, none⟩, ⟨49, (-1), none, none⟩] none [{ fr .maxTail 68 1 with kept := { lastmark := 3, lastindex := 2 }, loop := 1 }, { fr .closeLoop 49 1 with loop := 1 }, { fr .giveBack 42 1 with kept := { lastmark := 3, lastindex := 2 } }, { fr .giveBack 30 1 with kept := { lastmark := 2 } }, fr .maxTail 23 0, fr .closeLoop 7 0, fr .nextStart 5 0] 7 none none ((((((s4.add 23).add 18).add 17).add 13).add 6).add 48))) rfl ((step_at (k := 5) (q := 70) rfl rfl (by tm_at "k") (by tm_at "k") (by tm_at "k") rfl (by kernel_rfl)).trans (by kernel_rfl)) ?_
  refine Leads.step (m₁ := (st #[a] 1 70 1 1 #[none, none, (some 0), (some 1), (some 1), none] 3 2 #[⟨7, (-1), none, none⟩, ⟨49, (-1), none, none⟩] none [{ fr .maxTail 68 1 with kept := { lastmark := 3, lastindex := 2 }, loop := 1 }, { fr .closeLoop 49 1 with loop := 1 }, { fr .giveBack 42 1 with kept := { lastmark := 3, lastindex := 2 } }, { fr .giveBack 30 1 with kept := { lastmark := 2 } }, fr .maxTail 23 0, fr .closeLoop 7 0, fr .nextStart 5 0] 7 (some true) none (((((((s4.add 23).add 18).add 17).add 13).add 6).add 48).add 1))) rfl ((step_success rfl rfl (by tm_at "k") (by tm_at "k") rfl rfl).trans (by kernel_rfl)) ?_
  refine Leads.step (m₁ := (st #[a] 1 68 1 1 #[none, none, (some 0), (some 1), (some 1), none] 3 2 #[⟨7, (-1), none, none⟩, ⟨49, (-1), none, none⟩] (some 1) [{ fr .closeLoop 49 1 with loop := 1 }, { fr .giveBack 42 1 with kept := { lastmark := 3, lastindex := 2 } }, { fr .giveBack 30 1 with kept := { lastmark := 2 } }, fr .maxTail 23 0, fr .closeLoop 7 0, fr .nextStart 5 0] 6 (some true) none (((((((s4.add 23).add 18).add 17).add 13).add 6).add 48).add 1))) rfl ((step_resume rfl rfl rfl).trans (by kernel_rfl)) ?_
  refine Leads.step (m₁ := (st #[a] 1 49 1 1 #[none, none, (some 0), (some 1), (some 1), none] 3 2 #[⟨7, (-1), none, none⟩] none [{ fr .giveBack 42 1 with kept := { lastmark := 3, lastindex := 2 } }, { fr .giveBack 30 1 with kept := { lastmark := 2 } }, fr .maxTail 23 0, fr .closeLoop 7 0, fr .nextStart 5 0] 5 (some true) none (((((((s4.add 23).add 18).add 17).add 13).add 6).add 48).add 1))) rfl ((step_resume rfl rfl rfl).trans (by kernel_rfl)) ?_
  refine Leads.step (m₁ := (st #[a] 1 42 1 1 #[none, none, (some 0), (some 1), (some 1), none] 3 2 #[⟨7, (-1), none, none⟩] none [{ fr .giveBack 30 1 with kept := { lastmark := 2 } }, fr .maxTail 23 0, fr .closeLoop 7 0, fr .nextStart 5 0] 4 (some true) none (((((((s4.add 23).add 18).add 17).add 13).add 6).add 48).add 1))) rfl ((step_resume rfl rfl rfl).trans (by kernel_rfl)) ?_
  refine Leads.step (m₁ := (st #[a] 1 30 1 1 #[none, none, (some 0), (some 1), (some 1), none] 3 2 #[⟨7, (-1), none, none⟩] none [fr .maxTail 23 0, fr .closeLoop 7 0, fr .nextStart 5 0] 3 (some true) none (((((((s4.add 23).add 18).add 17).add 13).add 6).add 48).add 1))) rfl ((step_resume rfl rfl rfl).trans (by kernel_rfl)) ?_
  refine Leads.step (m₁ := (st #[a] 1 23 0 1 #[none, none, (some 0), (some 1), (some 1), none] 3 2 #[⟨7, (-1), none, none⟩] (some 0) [fr .closeLoop 7 0, fr .nextStart 5 0] 2 (some true) none (((((((s4.add 23).add 18).add 17).add 13).add 6).add 48).add 1))) rfl ((step_resume rfl rfl rfl).trans (by kernel_rfl)) ?_
  refine Leads.step (m₁ := (st #[a] 1 7 0 1 #[none, none, (some 0), (some 1), (some 1), none] 3 2 #[] none [fr .nextStart 5 0] 1 (some true) none (((((((s4.add 23).add 18).add 17).add 13).add 6).add 48).add 1))) rfl ((step_resume rfl rfl rfl).trans (by kernel_rfl)) ?_
  refine Leads.step (m₁ := (st #[a] 1 5 0 1 #[none, none, (some 0), (some 1), (some 1), none] 3 2 #[] none [] 0 (some true) none (((((((s4.add 23).add 18).add 17).add 13).add 6).add 48).add 1))) rfl ((step_resume rfl rfl rfl).trans (by kernel_rfl)) ?_
  refine Leads.step (m₁ := (st #[a] 1 5 0 1 #[none, none, (some 0), (some 1), (some 1), none] 3 2 #[] none [] 0 (some true) (some .matched) (((((((s4.add 23).add 18).add 17).add 13).add 6).add 48).add 1))) rfl ((step_end rfl rfl rfl).trans (by kernel_rfl)) ?_
  exact Leads.zero ⟨⟨_, rfl, rfl⟩, by kernel_rfl, by kernel_rfl⟩
theorem tz_phh {a b : Nat} (ha : isDigit a = true) (hb : isDigit b = true) : Leads 100 (forSearch tzC #[a, b] 3 0 2 false) (Found 3 [0, 2, -1, -1, 0, 2, -1, -1]) := by
  refine Leads.eq (m₁ := (st #[a, b] 2 5 0 0 #[none, none, none, none, none, none] (-1) (-1) #[] none [fr .nextStart 5 0] 1 none none (({} : Sre.Seen).add 14))) (tz_begin (by decide)) ?_
  refine Leads.step (m₁ := (st #[a, b] 2 7 0 0 #[none, none, none, none, none, none] (-1) (-1) #[] none [fr .nextStart 5 0] 1 none none (((({} : Sre.Seen).add 14).add 6).add 43))) rfl ((step_at (k := 0) (q := 7) rfl rfl (by tm_at "k") (by tm_at "k") (by tm_at "k") rfl (by kernel_rfl)).trans (by kernel_rfl)) ?_
  refine Leads.step (m₁ := (st #[a, b] 2 22 0 0 #[none, none, none, none, none, none] (-1) (-1) #[⟨7, (-1), none, none⟩] (some 0) [fr .closeLoop 7 0, fr .nextStart 5 0] 2 none none ((((({} : Sre.Seen).add 14).add 6).add 43).add 23))) rfl ((step_rep2 (q := 22) (i := 0) rfl rfl (by tm_at "k") (by tm_at "k") (by tm_at "k") rfl (by tm_at "k")).trans (by kernel_rfl)) ?_
  refine Leads.step (m₁ := (st #[a, b] 2 11 0 0 #[none, none, none, none, none, none] (-1) (-1) #[⟨7, 0, (some 0), none⟩] (some 0) [{ fr .maxMore 23 0 with kept := { whole := true } }, fr .closeLoop 7 0, fr .nextStart 5 0] 3 none none (((((({} : Sre.Seen).add 14).add 6).add 43).add 23).add 18))) rfl (((step_until rfl rfl (by tm_at "k") (by tm_at "k")).trans (until_more (i := 0) (l := ⟨7, (-1), none, none⟩) (c := 0) (lo := 0) (hi := 1) (q := 11) (kp := { whole := true }) rfl (by kernel_rfl) (by kernel_rfl) (by tm_at "k") (by tm_at "k") (by decide) (by kernel_rfl) (by kernel_rfl) rfl (by tm_at "k"))).trans (by kernel_rfl)) ?_
  refine Leads.step (m₁ := (st #[a, b] 2 13 0 0 #[(some 0), none, none, none, none, none] 0 (-1) #[⟨7, 0, (some 0), none⟩] (some 0) [{ fr .maxMore 23 0 with kept := { whole := true } }, fr .closeLoop 7 0, fr .nextStart 5 0] 3 none none ((((((({} : Sre.Seen).add 14).add 6).add 43).add 23).add 18).add 17))) rfl ((step_mark (i := 0) rfl rfl (by tm_at "k") (by tm_at "k") (by tm_at "k")).trans (by kernel_rfl)) ?_
  refine Leads.innNo rfl rfl (by tm_at "k") (by tm_at "k") (by tm_at "k") (tz_nosign (c := a) (dig_facts ha).1 (dig_facts ha).2.1) fun s1 => Leads.eq (m₁ := (st #[a, b] 2 13 0 0 #[(some 0), none, none, none, none, none] 0 (-1) #[⟨7, 0, (some 0), none⟩] (some 0) [{ fr .maxMore 23 0 with kept := { whole := true } }, fr .closeLoop 7 0, fr .nextStart 5 0] 3 (some false) none s1)) (by kernel_rfl) ?_
  refine Leads.step (m₁ := (st #[a, b] 2 23 0 0 #[(some 0), none, none, none, none, none] (-1) (-1) #[⟨7, (-1), none, none⟩] none [fr .maxTail 23 0, fr .closeLoop 7 0, fr .nextStart 5 0] 3 none none s1)) rfl ((step_maxMoreNo rfl rfl rfl rfl (by tm_at "k")).trans (by kernel_rfl)) ?_
  refine Leads.step (m₁ := (st #[a, b] 2 25 0 0 #[none, none, (some 0), none, none, none] 2 (-1) #[⟨7, (-1), none, none⟩] none [fr .maxTail 23 0, fr .closeLoop 7 0, fr .nextStart 5 0] 3 none none (s1.add 17))) rfl ((step_mark (i := 2) rfl rfl (by tm_at "k") (by tm_at "k") (by tm_at "k")).trans (by kernel_rfl)) ?_
  refine Leads.inn 30 rfl rfl (by tm_at "k") (by tm_at "k") (by tm_at "k") (by tm_at "k") (tz_digit (p := 25) (c := a) (by decide) ha) fun s2 => Leads.eq (m₁ := (st #[a, b] 2 30 1 0 #[none, none, (some 0), none, none, none] 2 (-1) #[⟨7, (-1), none, none⟩] none [fr .maxTail 23 0, fr .closeLoop 7 0, fr .nextStart 5 0] 3 none none s2)) (by kernel_rfl) ?_
  refine Leads.rep 1 (lo := 0) (hi := 1) (op := 13) (q := 40) rfl rfl (by tm_at "k") (by tm_at "k") (by tm_at "k") (by tm_at "k") (by tm_at "k") (by tm_at "k") rfl (by tm_at "k") (by tm_at "k") (fun sn => run_take (k := 1) (by tm_at "k") (fun j sn hj => by cases Nat.lt_one_iff.mp hj; exact tz_digit (p := 34) (c := b) (by decide) hb) (fun h => absurd h (Nat.not_lt.mpr (by tm_at "k")))) (by tm_at "k") fun s3 => Leads.eq (m₁ := (st #[a, b] 2 40 2 2 #[none, none, (some 0), none, none, none] 2 (-1) #[⟨7, (-1), none, none⟩] none [{ fr .giveBack 30 2 with count := 1, kept := { lastmark := 2 } }, fr .maxTail 23 0, fr .closeLoop 7 0, fr .nextStart 5 0] 4 none none s3)) (by kernel_rfl) ?_
  refine Leads.step (m₁ := (st #[a, b] 2 42 2 2 #[none, none, (some 0), (some 2), none, none] 3 2 #[⟨7, (-1), none, none⟩] none [{ fr .giveBack 30 2 with count := 1, kept := { lastmark := 2 } }, fr .maxTail 23 0, fr .closeLoop 7 0, fr .nextStart 5 0] 4 none none (s3.add 17))) rfl ((step_mark (i := 3) rfl rfl (by tm_at "k") (by tm_at "k") (by tm_at "k")).trans (by kernel_rfl)) ?_
  refine Leads.rep 0 (lo := 0) (hi := 1) (op := 16) (q := 49) rfl rfl (by tm_at "k") (by tm_at "k") (by tm_at "k") (by tm_at "k") (by tm_at "k") (by tm_at "k") rfl (by tm_at "k") (by tm_at "k") (fun sn => run_take (k := 0) (Nat.zero_le _) (fun j sn hj => absurd hj (Nat.not_lt_zero _)) (fun h sn => absurd h (Nat.not_lt.mpr (by tm_at "k")))) (by tm_at "k") fun s4 => Leads.eq (m₁ := (st #[a, b] 2 49 2 2 #[none, none, (some 0), (some 2), none, none] 3 2 #[⟨7, (-1), none, none⟩] none [{ fr .giveBack 42 2 with kept := { lastmark := 3, lastindex := 2 } }, { fr .giveBack 30 2 with count := 1, kept := { lastmark := 2 } }, fr .maxTail 23 0, fr .closeLoop 7 0, fr .nextStart 5 0] 5 none none s4)) (by kernel_rfl) ?_
  refine Leads.step (m₁ := (st #[a, b] 2 67 2 2 #[none, none, (some 0), (some 2), none, none] 3 2 #[⟨7, (-1), none, none⟩, ⟨49, (-1), none, none⟩] (some 1) [{ fr .closeLoop 49 2 with loop := 1 }, { fr .giveBack 42 2 with kept := { lastmark := 3, lastindex := 2 } }, { fr .giveBack 30 2 with count := 1, kept := { lastmark := 2 } }, fr .maxTail 23 0, fr .closeLoop 7 0, fr .nextStart 5 0] 6 none none (s4.add 23))) rfl ((step_rep2 (q := 67) (i := 1) rfl rfl (by tm_at "k") (by tm_at "k") (by tm_at "k") rfl (by tm_at "k")).trans (by kernel_rfl)) ?_
  refine Leads.step (m₁ := (st #[a, b] 2 53 2 2 #[none, none, (some 0), (some 2), none, none] 3 2 #[⟨7, (-1), none, none⟩, ⟨49, 0, (some 2), none⟩] (some 1) [{ fr .maxMore 68 2 with kept := { lastmark := 3, lastindex := 2, whole := true, marks := #[none, none, (some 0), (some 2)] }, loop := 1 }, { fr .closeLoop 49 2 with loop := 1 }, { fr .giveBack 42 2 with kept := { lastmark := 3, lastindex := 2 } }, { fr .giveBack 30 2 with count := 1, kept := { lastmark := 2 } }, fr .maxTail 23 0, fr .closeLoop 7 0, fr .nextStart 5 0] 11 none none ((s4.add 23).add 18))) rfl (((step_until rfl rfl (by tm_at "k") (by tm_at "k")).trans (until_more (i := 1) (l := ⟨49, (-1), none, none⟩) (c := 0) (lo := 0) (hi := 1) (q := 53) (kp := { lastmark := 3, lastindex := 2, whole := true, marks := #[none, none, (some 0), (some 2)] }) rfl (by kernel_rfl) (by kernel_rfl) (by tm_at "k") (by tm_at "k") (by decide) (by kernel_rfl) (by kernel_rfl) rfl (by tm_at "k"))).trans (by kernel_rfl)) ?_
  refine Leads.step (m₁ := (st #[a, b] 2 55 2 2 #[none, none, (some 0), (some 2), (some 2), none] 4 2 #[⟨7, (-1), none, none⟩, ⟨49, 0, (some 2), none⟩] (some 1) [{ fr .maxMore 68 2 with kept := { lastmark := 3, lastindex := 2, whole := true, marks := #[none, none, (some 0), (some 2)] }, loop := 1 }, { fr .closeLoop 49 2 with loop := 1 }, { fr .giveBack 42 2 with kept := { lastmark := 3, lastindex := 2 } }, { fr .giveBack 30 2 with count := 1, kept := { lastmark := 2 } }, fr .maxTail 23 0, fr .closeLoop 7 0, fr .nextStart 5 0] 11 none none (((s4.add 23).add 18).add 17))) rfl ((step_mark (i := 4) rfl rfl (by tm_at "k") (by tm_at "k") (by tm_at "k")).trans (by kernel_rfl)) ?_
  refine Leads.step (m₁ := (st #[a, b] 2 55 2 2 #[none, none, (some 0), (some 2), (some 2), none] 4 2 #[⟨7, (-1), none, none⟩, ⟨49, 0, (some 2), none⟩] (some 1) [{ fr .maxMore 68 2 with kept := { lastmark := 3, lastindex := 2, whole := true, marks := #[none, none, (some 0), (some 2)] }, loop := 1 }, { fr .closeLoop 49 2 with loop := 1 }, { fr .giveBack 42 2 with kept := { lastmark := 3, lastindex := 2 } }, { fr .giveBack 30 2 with count := 1, kept := { lastmark := 2 } }, fr .maxTail 23 0, fr .closeLoop 7 0, fr .nextStart 5 0] 11 (some false) none ((((s4.add 23).add 18).add 17).add 13))) rfl ((step_inEnd rfl rfl (by tm_at "k") (by tm_at "k") (by tm_at "k")).trans (by kernel_rfl)) ?_
  refine Leads.step (m₁ := (st #[a, b] 2 68 2 2 #[none, none, (some 0), (some 2), (some 2), none] 3 2 #[⟨7, (-1), none, none⟩, ⟨49, (-1), none, none⟩] none [{ fr .maxTail 68 2 with kept := { lastmark := 3, lastindex := 2 }, loop := 1 }, { fr .closeLoop 49 2 with loop := 1 }, { fr .giveBack 42 2 with kept := { lastmark := 3, lastindex := 2 } }, { fr .giveBack 30 2 with count := 1, kept := { lastmark := 2 } }, fr .maxTail 23 0, fr .closeLoop 7 0, fr .nextStart 5 0] 7 none none ((((s4.add 23).add 18).add 17).add 13))) rfl ((step_maxMoreNo rfl rfl rfl rfl (by tm_at "k")).trans (by kernel_rfl)) ?_
  refine Leads.step (m₁ := (st #[a, b] 2 70 2 2 #[none, none, (some 0), (some 2), (some 2), none] 3 2 #[⟨7, (-1), none, none⟩, ⟨49, (-1), none, none⟩] none [{ fr .maxTail 68 2 with kept := { lastmark := 3, lastindex := 2 }, loop := 1 }, { fr .closeLoop 49 2 with loop := 1 }, { fr .giveBack 42 2 with kept := { lastmark := 3, lastindex := 2 } }, { fr .giveBack 30 2 with count := 1, kept := { lastmark := 2 } }, fr .maxTail 23 0, fr .closeLoop 7 0, fr .nextStart 5 0] 7 none none ((((((s4.add 23).add 18).add 17).add 13).add 6).add 48))) rfl ((step_at (k := 5) (q := 70) rfl rfl (by tm_at "k") (by tm_at "k") (by tm_at "k") rfl (by kernel_rfl)).trans (by kernel_rfl)) ?_
  refine Leads.step (m₁ := (st #[a, b] 2 70 2 2 #[none, none, (some 0), (some 2), (some 2), none] 3 2 #[⟨7, (-1), none, none⟩, ⟨49, (-1), none, none⟩] none [{ fr .maxTail 68 2 with kept := { lastmark := 3, lastindex := 2 }, loop := 1 }, { fr .closeLoop 49 2 with loop := 1 }, { fr .giveBack 42 2 with kept := { lastmark := 3, lastindex := 2 } }, { fr .giveBack 30 2 with count := 1, kept := { lastmark := 2 } }, fr .maxTail 23 0, fr .closeLoop 7 0, fr .nextStart 5 0] 7 (some true) none (((((((s4.add 23).add 18).add 17).add 13).add 6).add 48).add 1))) rfl ((step_success rfl rfl (by tm_at "k") (by tm_at "k") rfl rfl).trans (by kernel_rfl)) ?_
  refine Leads.step (m₁ := (st #[a, b] 2 68 2 2 #[none, none, (some 0), (some 2), (some 2), none] 3 2 #[⟨7, (-1), none, none⟩, ⟨49, (-1), none, none⟩] (some 1) [{ fr .closeLoop 49 2 with loop := 1 }, { fr .giveBack 42 2 with kept := { lastmark := 3, lastindex := 2 } }, { fr .giveBack 30 2 with count := 1, kept := { lastmark := 2 } }, fr .maxTail 23 0, fr .closeLoop 7 0, fr .nextStart 5 0] 6 (some true) none (((((((s4.add 23).add 18).add 17).add 13).add 6).add 48).add 1))) rfl ((step_resume rfl rfl rfl).trans (by kernel_rfl)) ?_
  refine Leads.step (m₁ := (st #[a, b] 2 49 2 2 #[none, none, (some 0), (some 2), (some 2), none] 3 2 #[⟨7, (-1), none, none⟩] none [{ fr .giveBack 42 2 with kept := { lastmark := 3, lastindex := 2 } }, { fr .giveBack 30 2 with count := 1, kept := { lastmark := 2 } }, fr .maxTail 23 0, fr .closeLoop 7 0, fr .nextStart 5 0] 5 (some true) none (((((((s4.add 23).add 18).add 17).add 13).add 6).add 48).add 1))) rfl ((step_resume rfl rfl rfl).trans (by kernel_rfl)) ?_
  refine Leads.step (m₁ := (st #[a, b] 2 42 2 2 #[none, none, (some 0), (some 2), (some 2), none] 3 2 #[⟨7, (-1), none, none⟩] none [{ fr .giveBack 30 2 with count := 1, kept := { lastmark := 2 } }, fr .maxTail 23 0, fr .closeLoop 7 0, fr .nextStart 5 0] 4 (some true) none (((((((s4.add 23).add 18).add 17).add 13).add 6).add 48).add 1))) rfl ((step_resume rfl rfl rfl).trans (by kernel_rfl)) ?_
  refine Leads.step (m₁ := (st #[a, b] 2 30 2 2 #[none, none, (some 0), (some 2), (some 2), none] 3 2 #[⟨7, (-1), none, none⟩] none [fr .maxTail 23 0, fr .closeLoop 7 0, fr .nextStart 5 0] 3 (some true) none (((((((s4.add 23).add 18).add 17).add 13).add 6).add 48).add 1))) rfl ((step_resume rfl rfl rfl).trans (by kernel_rfl)) ?_
  refine Leads.step (m₁ := (st #[a, b] 2 23 0 2 #[none, none, (some 0), (some 2), (some 2), none] 3 2 #[⟨7, (-1), none, none⟩] (some 0) [fr .closeLoop 7 0, fr .nextStart 5 0] 2 (some true) none (((((((s4.add 23).add 18).add 17).add 13).add 6).add 48).add 1))) rfl ((step_resume rfl rfl rfl).trans (by kernel_rfl)) ?_
  refine Leads.step (m₁ := (st #[a, b] 2 7 0 2 #[none, none, (some 0), (some 2), (some 2), none] 3 2 #[] none [fr .nextStart 5 0] 1 (some true) none (((((((s4.add 23).add 18).add 17).add 13).add 6).add 48).add 1))) rfl ((step_resume rfl rfl rfl).trans (by kernel_rfl)) ?_
  refine Leads.step (m₁ := (st #[a, b] 2 5 0 2 #[none, none, (some 0), (some 2), (some 2), none] 3 2 #[] none [] 0 (some true) none (((((((s4.add 23).add 18).add 17).add 13).add 6).add 48).add 1))) rfl ((step_resume rfl rfl rfl).trans (by kernel_rfl)) ?_
  refine Leads.step (m₁ := (st #[a, b] 2 5 0 2 #[none, none, (some 0), (some 2), (some 2), none] 3 2 #[] none [] 0 (some true) (some .matched) (((((((s4.add 23).add 18).add 17).add 13).add 6).add 48).add 1))) rfl ((step_end rfl rfl rfl).trans (by kernel_rfl)) ?_
  exact Leads.zero ⟨⟨_, rfl, rfl⟩, by kernel_rfl, by kernel_rfl⟩
theorem tz_sc {sg a b c d : Nat} (hs : sg = 43 ∨ sg = 45) (ha : isDigit a = true) (hb : isDigit b = true) (hc : isDigit c = true) (hd : isDigit d = true) : Leads 100 (forSearch tzC #[sg, a, b, 58, c, d] 3 0 6 false) (Found 3 [0, 6, 0, 1, 1, 3, 4, 6]) := by
  refine Leads.eq (m₁ := (st #[sg, a, b, 58, c, d] 6 5 0 0 #[none, none, none, none, none, none] (-1) (-1) #[] none [fr .nextStart 5 0] 1 none none (({} : Sre.Seen).add 14))) (tz_begin (by decide)) ?_
  refine Leads.step (m₁ := (st #[sg, a, b, 58, c, d] 6 7 0 0 #[none, none, none, none, none, none] (-1) (-1) #[] none [fr .nextStart 5 0] 1 none none (((({} : Sre.Seen).add 14).add 6).add 43))) rfl ((step_at (k := 0) (q := 7) rfl rfl (by tm_at "k") (by tm_at "k") (by tm_at "k") rfl (by kernel_rfl)).trans (by kernel_rfl)) ?_
  refine Leads.step (m₁ := (st #[sg, a, b, 58, c, d] 6 22 0 0 #[none, none, none, none, none, none] (-1) (-1) #[⟨7, (-1), none, none⟩] (some 0) [fr .closeLoop 7 0, fr .nextStart 5 0] 2 none none ((((({} : Sre.Seen).add 14).add 6).add 43).add 23))) rfl ((step_rep2 (q := 22) (i := 0) rfl rfl (by tm_at "k") (by tm_at "k") (by tm_at "k") rfl (by tm_at "k")).trans (by kernel_rfl)) ?_
  refine Leads.step (m₁ := (st #[sg, a, b, 58, c, d] 6 11 0 0 #[none, none, none, none, none, none] (-1) (-1) #[⟨7, 0, (some 0), none⟩] (some 0) [{ fr .maxMore 23 0 with kept := { whole := true } }, fr .closeLoop 7 0, fr .nextStart 5 0] 3 none none (((((({} : Sre.Seen).add 14).add 6).add 43).add 23).add 18))) rfl (((step_until rfl rfl (by tm_at "k") (by tm_at "k")).trans (until_more (i := 0) (l := ⟨7, (-1), none, none⟩) (c := 0) (lo := 0) (hi := 1) (q := 11) (kp := { whole := true }) rfl (by kernel_rfl) (by kernel_rfl) (by tm_at "k") (by tm_at "k") (by decide) (by kernel_rfl) (by kernel_rfl) rfl (by tm_at "k"))).trans (by kernel_rfl)) ?_
  refine Leads.step (m₁ := (st #[sg, a, b, 58, c, d] 6 13 0 0 #[(some 0), none, none, none, none, none] 0 (-1) #[⟨7, 0, (some 0), none⟩] (some 0) [{ fr .maxMore 23 0 with kept := { whole := true } }, fr .closeLoop 7 0, fr .nextStart 5 0] 3 none none ((((((({} : Sre.Seen).add 14).add 6).add 43).add 23).add 18).add 17))) rfl ((step_mark (i := 0) rfl rfl (by tm_at "k") (by tm_at "k") (by tm_at "k")).trans (by kernel_rfl)) ?_
  refine Leads.inn 20 rfl rfl (by tm_at "k") (by tm_at "k") (by tm_at "k") (by tm_at "k") (tz_sign (c := sg) hs) fun s1 => Leads.eq (m₁ := (st #[sg, a, b, 58, c, d] 6 20 1 0 #[(some 0), none, none, none, none, none] 0 (-1) #[⟨7, 0, (some 0), none⟩] (some 0) [{ fr .maxMore 23 0 with kept := { whole := true } }, fr .closeLoop 7 0, fr .nextStart 5 0] 3 none none s1)) (by kernel_rfl) ?_
  refine Leads.step (m₁ := (st #[sg, a, b, 58, c, d] 6 22 1 0 #[(some 0), (some 1), none, none, none, none] 1 1 #[⟨7, 0, (some 0), none⟩] (some 0) [{ fr .maxMore 23 0 with kept := { whole := true } }, fr .closeLoop 7 0, fr .nextStart 5 0] 3 none none (s1.add 17))) rfl ((step_mark (i := 1) rfl rfl (by tm_at "k") (by tm_at "k") (by tm_at "k")).trans (by kernel_rfl)) ?_
  refine Leads.step (m₁ := (st #[sg, a, b, 58, c, d] 6 23 1 1 #[(some 0), (some 1), none, none, none, none] 1 1 #[⟨7, 0, (some 0), none⟩] none [{ fr .maxTail 23 1 with count := 1, kept := { lastmark := 1, lastindex := 1 } }, { fr .maxMore 23 0 with kept := { whole := true } }, fr .closeLoop 7 0, fr .nextStart 5 0] 4 none none ((s1.add 17).add 18))) rfl (((step_until rfl rfl (by tm_at "k") (by tm_at "k")).trans (until_tail (i := 0) (l := ⟨7, 0, (some 0), none⟩) (c := 1) (lo := 0) (hi := 1) rfl (by kernel_rfl) (by kernel_rfl) (by tm_at "k") (by tm_at "k") (by decide) (by kernel_rfl) (by tm_at "k"))).trans (by kernel_rfl)) ?_
  refine Leads.step (m₁ := (st #[sg, a, b, 58, c, d] 6 25 1 1 #[(some 0), (some 1), (some 1), none, none, none] 2 1 #[⟨7, 0, (some 0), none⟩] none [{ fr .maxTail 23 1 with count := 1, kept := { lastmark := 1, lastindex := 1 } }, { fr .maxMore 23 0 with kept := { whole := true } }, fr .closeLoop 7 0, fr .nextStart 5 0] 4 none none (((s1.add 17).add 18).add 17))) rfl ((step_mark (i := 2) rfl rfl (by tm_at "k") (by tm_at "k") (by tm_at "k")).trans (by kernel_rfl)) ?_
  refine Leads.inn 30 rfl rfl (by tm_at "k") (by tm_at "k") (by tm_at "k") (by tm_at "k") (tz_digit (p := 25) (c := a) (by decide) ha) fun s2 => Leads.eq (m₁ := (st #[sg, a, b, 58, c, d] 6 30 2 1 #[(some 0), (some 1), (some 1), none, none, none] 2 1 #[⟨7, 0, (some 0), none⟩] none [{ fr .maxTail 23 1 with count := 1, kept := { lastmark := 1, lastindex := 1 } }, { fr .maxMore 23 0 with kept := { whole := true } }, fr .closeLoop 7 0, fr .nextStart 5 0] 4 none none s2)) (by kernel_rfl) ?_
  refine Leads.rep 1 (lo := 0) (hi := 1) (op := 13) (q := 40) rfl rfl (by tm_at "k") (by tm_at "k") (by tm_at "k") (by tm_at "k") (by tm_at "k") (by tm_at "k") rfl (by tm_at "k") (by tm_at "k") (fun sn => run_take (k := 1) (by tm_at "k") (fun j sn hj => by cases Nat.lt_one_iff.mp hj; exact tz_digit (p := 34) (c := b) (by decide) hb) (fun h => absurd h (Nat.not_lt.mpr (by tm_at "k")))) (by tm_at "k") fun s3 => Leads.eq (m₁ := (st #[sg, a, b, 58, c, d] 6 40 3 3 #[(some 0), (some 1), (some 1), none, none, none] 2 1 #[⟨7, 0, (some 0), none⟩] none [{ fr .giveBack 30 3 with count := 1, kept := { lastmark := 2, lastindex := 1 } }, { fr .maxTail 23 1 with count := 1, kept := { lastmark := 1, lastindex := 1 } }, { fr .maxMore 23 0 with kept := { whole := true } }, fr .closeLoop 7 0, fr .nextStart 5 0] 5 none none s3)) (by kernel_rfl) ?_
  refine Leads.step (m₁ := (st #[sg, a, b, 58, c, d] 6 42 3 3 #[(some 0), (some 1), (some 1), (some 3), none, none] 3 2 #[⟨7, 0, (some 0), none⟩] none [{ fr .giveBack 30 3 with count := 1, kept := { lastmark := 2, lastindex := 1 } }, { fr .maxTail 23 1 with count := 1, kept := { lastmark := 1, lastindex := 1 } }, { fr .maxMore 23 0 with kept := { whole := true } }, fr .closeLoop 7 0, fr .nextStart 5 0] 5 none none (s3.add 17))) rfl ((step_mark (i := 3) rfl rfl (by tm_at "k") (by tm_at "k") (by tm_at "k")).trans (by kernel_rfl)) ?_
  refine Leads.rep 1 (lo := 0) (hi := 1) (op := 16) (q := 49) rfl rfl (by tm_at "k") (by tm_at "k") (by tm_at "k") (by tm_at "k") (by tm_at "k") (by tm_at "k") rfl (by tm_at "k") (by tm_at "k") (fun sn => run_take (k := 1) (by tm_at "k") (fun j sn hj => by cases Nat.lt_one_iff.mp hj; exact tz_colon (c := 58)) (fun h => absurd h (Nat.not_lt.mpr (by tm_at "k")))) (by tm_at "k") fun s4 => Leads.eq (m₁ := (st #[sg, a, b, 58, c, d] 6 49 4 4 #[(some 0), (some 1), (some 1), (some 3), none, none] 3 2 #[⟨7, 0, (some 0), none⟩] none [{ fr .giveBack 42 4 with count := 1, kept := { lastmark := 3, lastindex := 2 } }, { fr .giveBack 30 3 with count := 1, kept := { lastmark := 2, lastindex := 1 } }, { fr .maxTail 23 1 with count := 1, kept := { lastmark := 1, lastindex := 1 } }, { fr .maxMore 23 0 with kept := { whole := true } }, fr .closeLoop 7 0, fr .nextStart 5 0] 6 none none s4)) (by kernel_rfl) ?_
  refine Leads.step (m₁ := (st #[sg, a, b, 58, c, d] 6 67 4 4 #[(some 0), (some 1), (some 1), (some 3), none, none] 3 2 #[⟨7, 0, (some 0), none⟩, ⟨49, (-1), none, none⟩] (some 1) [{ fr .closeLoop 49 4 with loop := 1 }, { fr .giveBack 42 4 with count := 1, kept := { lastmark := 3, lastindex := 2 } }, { fr .giveBack 30 3 with count := 1, kept := { lastmark := 2, lastindex := 1 } }, { fr .maxTail 23 1 with count := 1, kept := { lastmark := 1, lastindex := 1 } }, { fr .maxMore 23 0 with kept := { whole := true } }, fr .closeLoop 7 0, fr .nextStart 5 0] 7 none none (s4.add 23))) rfl ((step_rep2 (q := 67) (i := 1) rfl rfl (by tm_at "k") (by tm_at "k") (by tm_at "k") rfl (by tm_at "k")).trans (by kernel_rfl)) ?_
  refine Leads.step (m₁ := (st #[sg, a, b, 58, c, d] 6 53 4 4 #[(some 0), (some 1), (some 1), (some 3), none, none] 3 2 #[⟨7, 0, (some 0), none⟩, ⟨49, 0, (some 4), none⟩] (some 1) [{ fr .maxMore 68 4 with kept := { lastmark := 3, lastindex := 2, whole := true, marks := #[(some 0), (some 1), (some 1), (some 3)] }, loop := 1 }, { fr .closeLoop 49 4 with loop := 1 }, { fr .giveBack 42 4 with count := 1, kept := { lastmark := 3, lastindex := 2 } }, { fr .giveBack 30 3 with count := 1, kept := { lastmark := 2, lastindex := 1 } }, { fr .maxTail 23 1 with count := 1, kept := { lastmark := 1, lastindex := 1 } }, { fr .maxMore 23 0 with kept := { whole := true } }, fr .closeLoop 7 0, fr .nextStart 5 0] 12 none none ((s4.add 23).add 18))) rfl (((step_until rfl rfl (by tm_at "k") (by tm_at "k")).trans (until_more (i := 1) (l := ⟨49, (-1), none, none⟩) (c := 0) (lo := 0) (hi := 1) (q := 53) (kp := { lastmark := 3, lastindex := 2, whole := true, marks := #[(some 0), (some 1), (some 1), (some 3)] }) rfl (by kernel_rfl) (by kernel_rfl) (by tm_at "k") (by tm_at "k") (by decide) (by kernel_rfl) (by kernel_rfl) rfl (by tm_at "k"))).trans (by kernel_rfl)) ?_
  refine Leads.step (m₁ := (st #[sg, a, b, 58, c, d] 6 55 4 4 #[(some 0), (some 1), (some 1), (some 3), (some 4), none] 4 2 #[⟨7, 0, (some 0), none⟩, ⟨49, 0, (some 4), none⟩] (some 1) [{ fr .maxMore 68 4 with kept := { lastmark := 3, lastindex := 2, whole := true, marks := #[(some 0), (some 1), (some 1), (some 3)] }, loop := 1 }, { fr .closeLoop 49 4 with loop := 1 }, { fr .giveBack 42 4 with count := 1, kept := { lastmark := 3, lastindex := 2 } }, { fr .giveBack 30 3 with count := 1, kept := { lastmark := 2, lastindex := 1 } }, { fr .maxTail 23 1 with count := 1, kept := { lastmark := 1, lastindex := 1 } }, { fr .maxMore 23 0 with kept := { whole := true } }, fr .closeLoop 7 0, fr .nextStart 5 0] 12 none none (((s4.add 23).add 18).add 17))) rfl ((step_mark (i := 4) rfl rfl (by tm_at "k") (by tm_at "k") (by tm_at "k")).trans (by kernel_rfl)) ?_
  refine Leads.inn 60 rfl rfl (by tm_at "k") (by tm_at "k") (by tm_at "k") (by tm_at "k") (tz_digit (p := 55) (c := c) (by decide) hc) fun s5 => Leads.eq (m₁ := (st #[sg, a, b, 58, c, d] 6 60 5 4 #[(some 0), (some 1), (some 1), (some 3), (some 4), none] 4 2 #[⟨7, 0, (some 0), none⟩, ⟨49, 0, (some 4), none⟩] (some 1) [{ fr .maxMore 68 4 with kept := { lastmark := 3, lastindex := 2, whole := true, marks := #[(some 0), (some 1), (some 1), (some 3)] }, loop := 1 }, { fr .closeLoop 49 4 with loop := 1 }, { fr .giveBack 42 4 with count := 1, kept := { lastmark := 3, lastindex := 2 } }, { fr .giveBack 30 3 with count := 1, kept := { lastmark := 2, lastindex := 1 } }, { fr .maxTail 23 1 with count := 1, kept := { lastmark := 1, lastindex := 1 } }, { fr .maxMore 23 0 with kept := { whole := true } }, fr .closeLoop 7 0, fr .nextStart 5 0] 12 none none s5)) (by kernel_rfl) ?_
  refine Leads.inn 65 rfl rfl (by tm_at "k") (by tm_at "k") (by tm_at "k") (by tm_at "k") (tz_digit (p := 60) (c := d) (by decide) hd) fun s6 => Leads.eq (m₁ := (st #[sg, a, b, 58, c, d] 6 65 6 4 #[(some 0), (some 1), (some 1), (some 3), (some 4), none] 4 2 #[⟨7, 0, (some 0), none⟩, ⟨49, 0, (some 4), none⟩] (some 1) [{ fr .maxMore 68 4 with kept := { lastmark := 3, lastindex := 2, whole := true, marks := #[(some 0), (some 1), (some 1), (some 3)] }, loop := 1 }, { fr .closeLoop 49 4 with loop := 1 }, { fr .giveBack 42 4 with count := 1, kept := { lastmark := 3, lastindex := 2 } }, { fr .giveBack 30 3 with count := 1, kept := { lastmark := 2, lastindex := 1 } }, { fr .maxTail 23 1 with count := 1, kept := { lastmark := 1, lastindex := 1 } }, { fr .maxMore 23 0 with kept := { whole := true } }, fr .closeLoop 7 0, fr .nextStart 5 0] 12 none none s6)) (by kernel_rfl) ?_
  refine Leads.step (m₁ := (st #[sg, a, b, 58, c, d] 6 67 6 4 #[(some 0), (some 1), (some 1), (some 3), (some 4), (some 6)] 5 3 #[⟨7, 0, (some 0), none⟩, ⟨49, 0, (some 4), none⟩] (some 1) [{ fr .maxMore 68 4 with kept := { lastmark := 3, lastindex := 2, whole := true, marks := #[(some 0), (some 1), (some 1), (some 3)] }, loop := 1 }, { fr .closeLoop 49 4 with loop := 1 }, { fr .giveBack 42 4 with count := 1, kept := { lastmark := 3, lastindex := 2 } }, { fr .giveBack 30 3 with count := 1, kept := { lastmark := 2, lastindex := 1 } }, { fr .maxTail 23 1 with count := 1, kept := { lastmark := 1, lastindex := 1 } }, { fr .maxMore 23 0 with kept := { whole := true } }, fr .closeLoop 7 0, fr .nextStart 5 0] 12 none none (s6.add 17))) rfl ((step_mark (i := 5) rfl rfl (by tm_at "k") (by tm_at "k") (by tm_at "k")).trans (by kernel_rfl)) ?_
  refine Leads.step (m₁ := (st #[sg, a, b, 58, c, d] 6 68 6 6 #[(some 0), (some 1), (some 1), (some 3), (some 4), (some 6)] 5 3 #[⟨7, 0, (some 0), none⟩, ⟨49, 0, (some 4), none⟩] none [{ fr .maxTail 68 6 with count := 1, kept := { lastmark := 5, lastindex := 3 }, loop := 1 }, { fr .maxMore 68 4 with kept := { lastmark := 3, lastindex := 2, whole := true, marks := #[(some 0), (some 1), (some 1), (some 3)] }, loop := 1 }, { fr .closeLoop 49 4 with loop := 1 }, { fr .giveBack 42 4 with count := 1, kept := { lastmark := 3, lastindex := 2 } }, { fr .giveBack 30 3 with count := 1, kept := { lastmark := 2, lastindex := 1 } }, { fr .maxTail 23 1 with count := 1, kept := { lastmark := 1, lastindex := 1 } }, { fr .maxMore 23 0 with kept := { whole := true } }, fr .closeLoop 7 0, fr .nextStart 5 0] 13 none none ((s6.add 17).add 18))) rfl (((step_until rfl rfl (by tm_at "k") (by tm_at "k")).trans (until_tail (i := 1) (l := ⟨49, 0, (some 4), none⟩) (c := 1) (lo := 0) (hi := 1) rfl (by kernel_rfl) (by kernel_rfl) (by tm_at "k") (by tm_at "k") (by decide) (by kernel_rfl) (by tm_at "k"))).trans (by kernel_rfl)) ?_
  refine Leads.step (m₁ := (st #[sg, a, b, 58, c, d] 6 70 6 6 #[(some 0), (some 1), (some 1), (some 3), (some 4), (some 6)] 5 3 #[⟨7, 0, (some 0), none⟩, ⟨49, 0, (some 4), none⟩] none [{ fr .maxTail 68 6 with count := 1, kept := { lastmark := 5, lastindex := 3 }, loop := 1 }, { fr .maxMore 68 4 with kept := { lastmark := 3, lastindex := 2, whole := true, marks := #[(some 0), (some 1), (some 1), (some 3)] }, loop := 1 }, { fr .closeLoop 49 4 with loop := 1 }, { fr .giveBack 42 4 with count := 1, kept := { lastmark := 3, lastindex := 2 } }, { fr .giveBack 30 3 with count := 1, kept := { lastmark := 2, lastindex := 1 } }, { fr .maxTail 23 1 with count := 1, kept := { lastmark := 1, lastindex := 1 } }, { fr .maxMore 23 0 with kept := { whole := true } }, fr .closeLoop 7 0, fr .nextStart 5 0] 13 none none ((((s6.add 17).add 18).add 6).add 48))) rfl ((step_at (k := 5) (q := 70) rfl rfl (by tm_at "k") (by tm_at "k") (by tm_at "k") rfl (by kernel_rfl)).trans (by kernel_rfl)) ?_
  refine Leads.step (m₁ := (st #[sg, a, b, 58, c, d] 6 70 6 6 #[(some 0), (some 1), (some 1), (some 3), (some 4), (some 6)] 5 3 #[⟨7, 0, (some 0), none⟩, ⟨49, 0, (some 4), none⟩] none [{ fr .maxTail 68 6 with count := 1, kept := { lastmark := 5, lastindex := 3 }, loop := 1 }, { fr .maxMore 68 4 with kept := { lastmark := 3, lastindex := 2, whole := true, marks := #[(some 0), (some 1), (some 1), (some 3)] }, loop := 1 }, { fr .closeLoop 49 4 with loop := 1 }, { fr .giveBack 42 4 with count := 1, kept := { lastmark := 3, lastindex := 2 } }, { fr .giveBack 30 3 with count := 1, kept := { lastmark := 2, lastindex := 1 } }, { fr .maxTail 23 1 with count := 1, kept := { lastmark := 1, lastindex := 1 } }, { fr .maxMore 23 0 with kept := { whole := true } }, fr .closeLoop 7 0, fr .nextStart 5 0] 13 (some true) none (((((s6.add 17).add 18).add 6).add 48).add 1))) rfl ((step_success rfl rfl (by tm_at "k") (by tm_at "k") rfl rfl).trans (by kernel_rfl)) ?_
  refine Leads.step (m₁ := (st #[sg, a, b, 58, c, d] 6 68 6 6 #[(some 0), (some 1), (some 1), (some 3), (some 4), (some 6)] 5 3 #[⟨7, 0, (some 0), none⟩, ⟨49, 0, (some 4), none⟩] (some 1) [{ fr .maxMore 68 4 with kept := { lastmark := 3, lastindex := 2, whole := true, marks := #[(some 0), (some 1), (some 1), (some 3)] }, loop := 1 }, { fr .closeLoop 49 4 with loop := 1 }, { fr .giveBack 42 4 with count := 1, kept := { lastmark := 3, lastindex := 2 } }, { fr .giveBack 30 3 with count := 1, kept := { lastmark := 2, lastindex := 1 } }, { fr .maxTail 23 1 with count := 1, kept := { lastmark := 1, lastindex := 1 } }, { fr .maxMore 23 0 with kept := { whole := true } }, fr .closeLoop 7 0, fr .nextStart 5 0] 12 (some true) none (((((s6.add 17).add 18).add 6).add 48).add 1))) rfl ((step_resume rfl rfl rfl).trans (by kernel_rfl)) ?_
  refine Leads.step (m₁ := (st #[sg, a, b, 58, c, d] 6 68 4 6 #[(some 0), (some 1), (some 1), (some 3), (some 4), (some 6)] 5 3 #[⟨7, 0, (some 0), none⟩, ⟨49, 0, none, none⟩] (some 1) [{ fr .closeLoop 49 4 with loop := 1 }, { fr .giveBack 42 4 with count := 1, kept := { lastmark := 3, lastindex := 2 } }, { fr .giveBack 30 3 with count := 1, kept := { lastmark := 2, lastindex := 1 } }, { fr .maxTail 23 1 with count := 1, kept := { lastmark := 1, lastindex := 1 } }, { fr .maxMore 23 0 with kept := { whole := true } }, fr .closeLoop 7 0, fr .nextStart 5 0] 7 (some true) none (((((s6.add 17).add 18).add 6).add 48).add 1))) rfl ((step_resume rfl rfl rfl).trans (by kernel_rfl)) ?_
  refine Leads.step (m₁ := (st #[sg, a, b, 58, c, d] 6 49 4 6 #[(some 0), (some 1), (some 1), (some 3), (some 4), (some 6)] 5 3 #[⟨7, 0, (some 0), none⟩] none [{ fr .giveBack 42 4 with count := 1, kept := { lastmark := 3, lastindex := 2 } }, { fr .giveBack 30 3 with count := 1, kept := { lastmark := 2, lastindex := 1 } }, { fr .maxTail 23 1 with count := 1, kept := { lastmark := 1, lastindex := 1 } }, { fr .maxMore 23 0 with kept := { whole := true } }, fr .closeLoop 7 0, fr .nextStart 5 0] 6 (some true) none (((((s6.add 17).add 18).add 6).add 48).add 1))) rfl ((step_resume rfl rfl rfl).trans (by kernel_rfl)) ?_
  refine Leads.step (m₁ := (st #[sg, a, b, 58, c, d] 6 42 4 6 #[(some 0), (some 1), (some 1), (some 3), (some 4), (some 6)] 5 3 #[⟨7, 0, (some 0), none⟩] none [{ fr .giveBack 30 3 with count := 1, kept := { lastmark := 2, lastindex := 1 } }, { fr .maxTail 23 1 with count := 1, kept := { lastmark := 1, lastindex := 1 } }, { fr .maxMore 23 0 with kept := { whole := true } }, fr .closeLoop 7 0, fr .nextStart 5 0] 5 (some true) none (((((s6.add 17).add 18).add 6).add 48).add 1))) rfl ((step_resume rfl rfl rfl).trans (by kernel_rfl)) ?_
  refine Leads.step (m₁ := (st #[sg, a, b, 58, c, d] 6 30 3 6 #[(some 0), (some 1), (some 1), (some 3), (some 4), (some 6)] 5 3 #[⟨7, 0, (some 0), none⟩] none [{ fr .maxTail 23 1 with count := 1, kept := { lastmark := 1, lastindex := 1 } }, { fr .maxMore 23 0 with kept := { whole := true } }, fr .closeLoop 7 0, fr .nextStart 5 0] 4 (some true) none (((((s6.add 17).add 18).add 6).add 48).add 1))) rfl ((step_resume rfl rfl rfl).trans (by kernel_rfl)) ?_
  refine Leads.step (m₁ := (st #[sg, a, b, 58, c, d] 6 23 1 6 #[(some 0), (some 1), (some 1), (some 3), (some 4), (some 6)] 5 3 #[⟨7, 0, (some 0), none⟩] (some 0) [{ fr .maxMore 23 0 with kept := { whole := true } }, fr .closeLoop 7 0, fr .nextStart 5 0] 3 (some true) none (((((s6.add 17).add 18).add 6).add 48).add 1))) rfl ((step_resume rfl rfl rfl).trans (by kernel_rfl)) ?_
  refine Leads.step (m₁ := (st #[sg, a, b, 58, c, d] 6 23 0 6 #[(some 0), (some 1), (some 1), (some 3), (some 4), (some 6)] 5 3 #[⟨7, 0, none, none⟩] (some 0) [fr .closeLoop 7 0, fr .nextStart 5 0] 2 (some true) none (((((s6.add 17).add 18).add 6).add 48).add 1))) rfl ((step_resume rfl rfl rfl).trans (by kernel_rfl)) ?_
  refine Leads.step (m₁ := (st #[sg, a, b, 58, c, d] 6 7 0 6 #[(some 0), (some 1), (some 1), (some 3), (some 4), (some 6)] 5 3 #[] none [fr .nextStart 5 0] 1 (some true) none (((((s6.add 17).add 18).add 6).add 48).add 1))) rfl ((step_resume rfl rfl rfl).trans (by kernel_rfl)) ?_
  refine Leads.step (m₁ := (st #[sg, a, b, 58, c, d] 6 5 0 6 #[(some 0), (some 1), (some 1), (some 3), (some 4), (some 6)] 5 3 #[] none [] 0 (some true) none (((((s6.add 17).add 18).add 6).add 48).add 1))) rfl ((step_resume rfl rfl rfl).trans (by kernel_rfl)) ?_
  refine Leads.step (m₁ := (st #[sg, a, b, 58, c, d] 6 5 0 6 #[(some 0), (some 1), (some 1), (some 3), (some 4), (some 6)] 5 3 #[] none [] 0 (some true) (some .matched) (((((s6.add 17).add 18).add 6).add 48).add 1))) rfl ((step_end rfl rfl rfl).trans (by kernel_rfl)) ?_
  exact Leads.zero ⟨⟨_, rfl, rfl⟩, by kernel_rfl, by kernel_rfl⟩
theorem tz_sn {sg a b c d : Nat} (hs : sg = 43 ∨ sg = 45) (ha : isDigit a = true) (hb : isDigit b = true) (hc : isDigit c = true) (hd : isDigit d = true) : Leads 100 (forSearch tzC #[sg, a, b, c, d] 3 0 5 false) (Found 3 [0, 5, 0, 1, 1, 3, 3, 5]) := by
  refine Leads.eq (m₁ := (st #[sg, a, b, c, d] 5 5 0 0 #[none, none, none, none, none, none] (-1) (-1) #[] none [fr .nextStart 5 0] 1 none none (({} : Sre.Seen).add 14))) (tz_begin (by decide)) ?_
  refine Leads.step (m₁ := (st #[sg, a, b, c, d] 5 7 0 0 #[none, none, none, none, none, none] (-1) (-1) #[] none [fr .nextStart 5 0] 1 none none (((({} : Sre.Seen).add 14).add 6).add 43))) rfl ((step_at (k := 0) (q := 7) rfl rfl (by tm_at "k") (by tm_at "k") (by tm_at "k") rfl (by kernel_rfl)).trans (by kernel_rfl)) ?_
  refine Leads.step (m₁ := (st #[sg, a, b, c, d] 5 22 0 0 #[none, none, none, none, none, none] (-1) (-1) #[⟨7, (-1), none, none⟩] (some 0) [fr .closeLoop 7 0, fr .nextStart 5 0] 2 none none ((((({} : Sre.Seen).add 14).add 6).add 43).add 23))) rfl ((step_rep2 (q := 22) (i := 0) rfl rfl (by tm_at "k") (by tm_at "k") (by tm_at "k") rfl (by tm_at "k")).trans (by kernel_rfl)) ?_
  refine Leads.step (m₁ := (st #[sg, a, b, c, d] 5 11 0 0 #[none, none, none, none, none, none] (-1) (-1) #[⟨7, 0, (some 0), none⟩] (some 0) [{ fr .maxMore 23 0 with kept := { whole := true } }, fr .closeLoop 7 0, fr .nextStart 5 0] 3 none none (((((({} : Sre.Seen).add 14).add 6).add 43).add 23).add 18))) rfl (((step_until rfl rfl (by tm_at "k") (by tm_at "k")).trans (until_more (i := 0) (l := ⟨7, (-1), none, none⟩) (c := 0) (lo := 0) (hi := 1) (q := 11) (kp := { whole := true }) rfl (by kernel_rfl) (by kernel_rfl) (by tm_at "k") (by tm_at "k") (by decide) (by kernel_rfl) (by kernel_rfl) rfl (by tm_at "k"))).trans (by kernel_rfl)) ?_
  refine Leads.step (m₁ := (st #[sg, a, b, c, d] 5 13 0 0 #[(some 0), none, none, none, none, none] 0 (-1) #[⟨7, 0, (some 0), none⟩] (some 0) [{ fr .maxMore 23 0 with kept := { whole := true } }, fr .closeLoop 7 0, fr .nextStart 5 0] 3 none none ((((((({} : Sre.Seen).add 14).add 6).add 43).add 23).add 18).add 17))) rfl ((step_mark (i := 0) rfl rfl (by tm_at "k") (by tm_at "k") (by tm_at "k")).trans (by kernel_rfl)) ?_
  refine Leads.inn 20 rfl rfl (by tm_at "k") (by tm_at "k") (by tm_at "k") (by tm_at "k") (tz_sign (c := sg) hs) fun s1 => Leads.eq (m₁ := (st #[sg, a, b, c, d] 5 20 1 0 #[(some 0), none, none, none, none, none] 0 (-1) #[⟨7, 0, (some 0), none⟩] (some 0) [{ fr .maxMore 23 0 with kept := { whole := true } }, fr .closeLoop 7 0, fr .nextStart 5 0] 3 none none s1)) (by kernel_rfl) ?_
  refine Leads.step (m₁ := (st #[sg, a, b, c, d] 5 22 1 0 #[(some 0), (some 1), none, none, none, none] 1 1 #[⟨7, 0, (some 0), none⟩] (some 0) [{ fr .maxMore 23 0 with kept := { whole := true } }, fr .closeLoop 7 0, fr .nextStart 5 0] 3 none none (s1.add 17))) rfl ((step_mark (i := 1) rfl rfl (by tm_at "k") (by tm_at "k") (by tm_at "k")).trans (by kernel_rfl)) ?_
  refine Leads.step (m₁ := (st #[sg, a, b, c, d] 5 23 1 1 #[(some 0), (some 1), none, none, none, none] 1 1 #[⟨7, 0, (some 0), none⟩] none [{ fr .maxTail 23 1 with count := 1, kept := { lastmark := 1, lastindex := 1 } }, { fr .maxMore 23 0 with kept := { whole := true } }, fr .closeLoop 7 0, fr .nextStart 5 0] 4 none none ((s1.add 17).add 18))) rfl (((step_until rfl rfl (by tm_at "k") (by tm_at "k")).trans (until_tail (i := 0) (l := ⟨7, 0, (some 0), none⟩) (c := 1) (lo := 0) (hi := 1) rfl (by kernel_rfl) (by kernel_rfl) (by tm_at "k") (by tm_at "k") (by decide) (by kernel_rfl) (by tm_at "k"))).trans (by kernel_rfl)) ?_
  refine Leads.step (m₁ := (st #[sg, a, b, c, d] 5 25 1 1 #[(some 0), (some 1), (some 1), none, none, none] 2 1 #[⟨7, 0, (some 0), none⟩] none [{ fr .maxTail 23 1 with count := 1, kept := { lastmark := 1, lastindex := 1 } }, { fr .maxMore 23 0 with kept := { whole := true } }, fr .closeLoop 7 0, fr .nextStart 5 0] 4 none none (((s1.add 17).add 18).add 17))) rfl ((step_mark (i := 2) rfl rfl (by tm_at "k") (by tm_at "k") (by tm_at "k")).trans (by kernel_rfl)) ?_
  refine Leads.inn 30 rfl rfl (by tm_at "k") (by tm_at "k") (by tm_at "k") (by tm_at "k") (tz_digit (p := 25) (c := a) (by decide) ha) fun s2 => Leads.eq (m₁ := (st #[sg, a, b, c, d] 5 30 2 1 #[(some 0), (some 1), (some 1), none, none, none] 2 1 #[⟨7, 0, (some 0), none⟩] none [{ fr .maxTail 23 1 with count := 1, kept := { lastmark := 1, lastindex := 1 } }, { fr .maxMore 23 0 with kept := { whole := true } }, fr .closeLoop 7 0, fr .nextStart 5 0] 4 none none s2)) (by kernel_rfl) ?_
  refine Leads.rep 1 (lo := 0) (hi := 1) (op := 13) (q := 40) rfl rfl (by tm_at "k") (by tm_at "k") (by tm_at "k") (by tm_at "k") (by tm_at "k") (by tm_at "k") rfl (by tm_at "k") (by tm_at "k") (fun sn => run_take (k := 1) (by tm_at "k") (fun j sn hj => by cases Nat.lt_one_iff.mp hj; exact tz_digit (p := 34) (c := b) (by decide) hb) (fun h => absurd h (Nat.not_lt.mpr (by tm_at "k")))) (by tm_at "k") fun s3 => Leads.eq (m₁ := (st #[sg, a, b, c, d] 5 40 3 3 #[(some 0), (some 1), (some 1), none, none, none] 2 1 #[⟨7, 0, (some 0), none⟩] none [{ fr .giveBack 30 3 with count := 1, kept := { lastmark := 2, lastindex := 1 } }, { fr .maxTail 23 1 with count := 1, kept := { lastmark := 1, lastindex := 1 } }, { fr .maxMore 23 0 with kept := { whole := true } }, fr .closeLoop 7 0, fr .nextStart 5 0] 5 none none s3)) (by kernel_rfl) ?_
  refine Leads.step (m₁ := (st #[sg, a, b, c, d] 5 42 3 3 #[(some 0), (some 1), (some 1), (some 3), none, none] 3 2 #[⟨7, 0, (some 0), none⟩] none [{ fr .giveBack 30 3 with count := 1, kept := { lastmark := 2, lastindex := 1 } }, { fr .maxTail 23 1 with count := 1, kept := { lastmark := 1, lastindex := 1 } }, { fr .maxMore 23 0 with kept := { whole := true } }, fr .closeLoop 7 0, fr .nextStart 5 0] 5 none none (s3.add 17))) rfl ((step_mark (i := 3) rfl rfl (by tm_at "k") (by tm_at "k") (by tm_at "k")).trans (by kernel_rfl)) ?_
  refine Leads.rep 0 (lo := 0) (hi := 1) (op := 16) (q := 49) rfl rfl (by tm_at "k") (by tm_at "k") (by tm_at "k") (by tm_at "k") (by tm_at "k") (by tm_at "k") rfl (by tm_at "k") (by tm_at "k") (fun sn => run_take (k := 0) (Nat.zero_le _) (fun j sn hj => absurd hj (Nat.not_lt_zero _)) (fun h sn => (by have := tz_colon (c := c) (sn := sn); rw [(dig_facts hc).2.2] at this; exact this))) (by tm_at "k") fun s4 => Leads.eq (m₁ := (st #[sg, a, b, c, d] 5 49 3 3 #[(some 0), (some 1), (some 1), (some 3), none, none] 3 2 #[⟨7, 0, (some 0), none⟩] none [{ fr .giveBack 42 3 with kept := { lastmark := 3, lastindex := 2 } }, { fr .giveBack 30 3 with count := 1, kept := { lastmark := 2, lastindex := 1 } }, { fr .maxTail 23 1 with count := 1, kept := { lastmark := 1, lastindex := 1 } }, { fr .maxMore 23 0 with kept := { whole := true } }, fr .closeLoop 7 0, fr .nextStart 5 0] 6 none none s4)) (by kernel_rfl) ?_
  refine Leads.step (m₁ := (st #[sg, a, b, c, d] 5 67 3 3 #[(some 0), (some 1), (some 1), (some 3), none, none] 3 2 #[⟨7, 0, (some 0), none⟩, ⟨49, (-1), none, none⟩] (some 1) [{ fr .closeLoop 49 3 with loop := 1 }, { fr .giveBack 42 3 with kept := { lastmark := 3, lastindex := 2 } }, { fr .giveBack 30 3 with count := 1, kept := { lastmark := 2, lastindex := 1 } }, { fr .maxTail 23 1 with count := 1, kept := { lastmark := 1, lastindex := 1 } }, { fr .maxMore 23 0 with kept := { whole := true } }, fr .closeLoop 7 0, fr .nextStart 5 0] 7 none none (s4.add 23))) rfl ((step_rep2 (q := 67) (i := 1) rfl rfl (by tm_at "k") (by tm_at "k") (by tm_at "k") rfl (by tm_at "k")).trans (by kernel_rfl)) ?_
  refine Leads.step (m₁ := (st #[sg, a, b, c, d] 5 53 3 3 #[(some 0), (some 1), (some 1), (some 3), none, none] 3 2 #[⟨7, 0, (some 0), none⟩, ⟨49, 0, (some 3), none⟩] (some 1) [{ fr .maxMore 68 3 with kept := { lastmark := 3, lastindex := 2, whole := true, marks := #[(some 0), (some 1), (some 1), (some 3)] }, loop := 1 }, { fr .closeLoop 49 3 with loop := 1 }, { fr .giveBack 42 3 with kept := { lastmark := 3, lastindex := 2 } }, { fr .giveBack 30 3 with count := 1, kept := { lastmark := 2, lastindex := 1 } }, { fr .maxTail 23 1 with count := 1, kept := { lastmark := 1, lastindex := 1 } }, { fr .maxMore 23 0 with kept := { whole := true } }, fr .closeLoop 7 0, fr .nextStart 5 0] 12 none none ((s4.add 23).add 18))) rfl (((step_until rfl rfl (by tm_at "k") (by tm_at "k")).trans (until_more (i := 1) (l := ⟨49, (-1), none, none⟩) (c := 0) (lo := 0) (hi := 1) (q := 53) (kp := { lastmark := 3, lastindex := 2, whole := true, marks := #[(some 0), (some 1), (some 1), (some 3)] }) rfl (by kernel_rfl) (by kernel_rfl) (by tm_at "k") (by tm_at "k") (by decide) (by kernel_rfl) (by kernel_rfl) rfl (by tm_at "k"))).trans (by kernel_rfl)) ?_
  refine Leads.step (m₁ := (st #[sg, a, b, c, d] 5 55 3 3 #[(some 0), (some 1), (some 1), (some 3), (some 3), none] 4 2 #[⟨7, 0, (some 0), none⟩, ⟨49, 0, (some 3), none⟩] (some 1) [{ fr .maxMore 68 3 with kept := { lastmark := 3, lastindex := 2, whole := true, marks := #[(some 0), (some 1), (some 1), (some 3)] }, loop := 1 }, { fr .closeLoop 49 3 with loop := 1 }, { fr .giveBack 42 3 with kept := { lastmark := 3, lastindex := 2 } }, { fr .giveBack 30 3 with count := 1, kept := { lastmark := 2, lastindex := 1 } }, { fr .maxTail 23 1 with count := 1, kept := { lastmark := 1, lastindex := 1 } }, { fr .maxMore 23 0 with kept := { whole := true } }, fr .closeLoop 7 0, fr .nextStart 5 0] 12 none none (((s4.add 23).add 18).add 17))) rfl ((step_mark (i := 4) rfl rfl (by tm_at "k") (by tm_at "k") (by tm_at "k")).trans (by kernel_rfl)) ?_
  refine Leads.inn 60 rfl rfl (by tm_at "k") (by tm_at "k") (by tm_at "k") (by tm_at "k") (tz_digit (p := 55) (c := c) (by decide) hc) fun s5 => Leads.eq (m₁ := (st #[sg, a, b, c, d] 5 60 4 3 #[(some 0), (some 1), (some 1), (some 3), (some 3), none] 4 2 #[⟨7, 0, (some 0), none⟩, ⟨49, 0, (some 3), none⟩] (some 1) [{ fr .maxMore 68 3 with kept := { lastmark := 3, lastindex := 2, whole := true, marks := #[(some 0), (some 1), (some 1), (some 3)] }, loop := 1 }, { fr .closeLoop 49 3 with loop := 1 }, { fr .giveBack 42 3 with kept := { lastmark := 3, lastindex := 2 } }, { fr .giveBack 30 3 with count := 1, kept := { lastmark := 2, lastindex := 1 } }, { fr .maxTail 23 1 with count := 1, kept := { lastmark := 1, lastindex := 1 } }, { fr .maxMore 23 0 with kept := { whole := true } }, fr .closeLoop 7 0, fr .nextStart 5 0] 12 none none s5)) (by kernel_rfl) ?_
  refine Leads.inn 65 rfl rfl (by tm_at "k") (by tm_at "k") (by tm_at "k") (by tm_at "k") (tz_digit (p := 60) (c := d) (by decide) hd) fun s6 => Leads.eq (m₁ := (st #[sg, a, b, c, d] 5 65 5 3 #[(some 0), (some 1), (some 1), (some 3), (some 3), none] 4 2 #[⟨7, 0, (some 0), none⟩, ⟨49, 0, (some 3), none⟩] (some 1) [{ fr .maxMore 68 3 with kept := { lastmark := 3, lastindex := 2, whole := true, marks := #[(some 0), (some 1), (some 1), (some 3)] }, loop := 1 }, { fr .closeLoop 49 3 with loop := 1 }, { fr .giveBack 42 3 with kept := { lastmark := 3, lastindex := 2 } }, { fr .giveBack 30 3 with count := 1, kept := { lastmark := 2, lastindex := 1 } }, { fr .maxTail 23 1 with count := 1, kept := { lastmark := 1, lastindex := 1 } }, { fr .maxMore 23 0 with kept := { whole := true } }, fr .closeLoop 7 0, fr .nextStart 5 0] 12 none none s6)) (by kernel_rfl) ?_
  refine Leads.step (m₁ := (st #[sg, a, b, c, d] 5 67 5 3 #[(some 0), (some 1), (some 1), (some 3), (some 3), (some 5)] 5 3 #[⟨7, 0, (some 0), none⟩, ⟨49, 0, (some 3), none⟩] (some 1) [{ fr .maxMore 68 3 with kept := { lastmark := 3, lastindex := 2, whole := true, marks := #[(some 0), (some 1), (some 1), (some 3)] }, loop := 1 }, { fr .closeLoop 49 3 with loop := 1 }, { fr .giveBack 42 3 with kept := { lastmark := 3, lastindex := 2 } }, { fr .giveBack 30 3 with count := 1, kept := { lastmark := 2, lastindex := 1 } }, { fr .maxTail 23 1 with count := 1, kept := { lastmark := 1, lastindex := 1 } }, { fr .maxMore 23 0 with kept := { whole := true } }, fr .closeLoop 7 0, fr .nextStart 5 0] 12 none none (s6.add 17))) rfl ((step_mark (i := 5) rfl rfl (by tm_at "k") (by tm_at "k") (by tm_at "k")).trans (by kernel_rfl)) ?_
  refine Leads.step (m₁ := (st #[sg, a, b, c, d] 5 68 5 5 #[(some 0), (some 1), (some 1), (some 3), (some 3), (some 5)] 5 3 #[⟨7, 0, (some 0), none⟩, ⟨49, 0, (some 3), none⟩] none [{ fr .maxTail 68 5 with count := 1, kept := { lastmark := 5, lastindex := 3 }, loop := 1 }, { fr .maxMore 68 3 with kept := { lastmark := 3, lastindex := 2, whole := true, marks := #[(some 0), (some 1), (some 1), (some 3)] }, loop := 1 }, { fr .closeLoop 49 3 with loop := 1 }, { fr .giveBack 42 3 with kept := { lastmark := 3, lastindex := 2 } }, { fr .giveBack 30 3 with count := 1, kept := { lastmark := 2, lastindex := 1 } }, { fr .maxTail 23 1 with count := 1, kept := { lastmark := 1, lastindex := 1 } }, { fr .maxMore 23 0 with kept := { whole := true } }, fr .closeLoop 7 0, fr .nextStart 5 0] 13 none none ((s6.add 17).add 18))) rfl (((step_until rfl rfl (by tm_at "k") (by tm_at "k")).trans (until_tail (i := 1) (l := ⟨49, 0, (some 3), none⟩) (c := 1) (lo := 0) (hi := 1) rfl (by kernel_rfl) (by kernel_rfl) (by tm_at "k") (by tm_at "k") (by decide) (by kernel_rfl) (by tm_at "k"))).trans (by kernel_rfl)) ?_
  refine Leads.step (m₁ := (st #[sg, a, b, c, d] 5 70 5 5 #[(some 0), (some 1), (some 1), (some 3), (some 3), (some 5)] 5 3 #[⟨7, 0, (some 0), none⟩, ⟨49, 0, (some 3), none⟩] none [{ fr .maxTail 68 5 with count := 1, kept := { lastmark := 5, lastindex := 3 }, loop := 1 }, { fr .maxMore 68 3 with kept := { lastmark := 3, lastindex := 2, whole := true, marks := #[(some 0), (some 1), (some 1), (some 3)] }, loop := 1 }, { fr .closeLoop 49 3 with loop := 1 }, { fr .giveBack 42 3 with kept := { lastmark := 3, lastindex := 2 } }, { fr .giveBack 30 3 with count := 1, kept := { lastmark := 2, lastindex := 1 } }, { fr .maxTail 23 1 with count := 1, kept := { lastmark := 1, lastindex := 1 } }, { fr .maxMore 23 0 with kept := { whole := true } }, fr .closeLoop 7 0, fr .nextStart 5 0] 13 none none ((((s6.add 17).add 18).add 6).add 48))) rfl ((step_at (k := 5) (q := 70) rfl rfl (by tm_at "k") (by tm_at "k") (by tm_at "k") rfl (by kernel_rfl)).trans (by kernel_rfl)) ?_
  refine Leads.step (m₁ := (st #[sg, a, b, c, d] 5 70 5 5 #[(some 0), (some 1), (some 1), (some 3), (some 3), (some 5)] 5 3 #[⟨7, 0, (some 0), none⟩, ⟨49, 0, (some 3), none⟩] none [{ fr .maxTail 68 5 with count := 1, kept := { lastmark := 5, lastindex := 3 }, loop := 1 }, { fr .maxMore 68 3 with kept := { lastmark := 3, lastindex := 2, whole := true, marks := #[(some 0), (some 1), (some 1), (some 3)] }, loop := 1 }, { fr .closeLoop 49 3 with loop := 1 }, { fr .giveBack 42 3 with kept := { lastmark := 3, lastindex := 2 } }, { fr .giveBack 30 3 with count := 1, kept := { lastmark := 2, lastindex := 1 } }, { fr .maxTail 23 1 with count := 1, kept := { lastmark := 1, lastindex := 1 } }, { fr .maxMore 23 0 with kept := { whole := true } }, fr .closeLoop 7 0, fr .nextStart 5 0] 13 (some true) none (((((s6.add 17).add 18).add 6).add 48).add 1))) rfl ((step_success rfl rfl (by tm_at "k") (by tm_at "k") rfl rfl).trans (by kernel_rfl)) ?_
  refine Leads.step (m₁ := (st #[sg, a, b, c, d] 5 68 5 5 #[(some 0), (some 1), (some 1), (some 3), (some 3), (some 5)] 5 3 #[⟨7, 0, (some 0), none⟩, ⟨49, 0, (some 3), none⟩] (some 1) [{ fr .maxMore 68 3 with kept := { lastmark := 3, lastindex := 2, whole := true, marks := #[(some 0), (some 1), (some 1), (some 3)] }, loop := 1 }, { fr .closeLoop 49 3 with loop := 1 }, { fr .giveBack 42 3 with kept := { lastmark := 3, lastindex := 2 } }, { fr .giveBack 30 3 with count := 1, kept := { lastmark := 2, lastindex := 1 } }, { fr .maxTail 23 1 with count := 1, kept := { lastmark := 1, lastindex := 1 } }, { fr .maxMore 23 0 with kept := { whole := true } }, fr .closeLoop 7 0, fr .nextStart 5 0] 12 (some true) none (((((s6.add 17).add 18).add 6).add 48).add 1))) rfl ((step_resume rfl rfl rfl).trans (by kernel_rfl)) ?_
  refine Leads.step (m₁ := (st #[sg, a, b, c, d] 5 68 3 5 #[(some 0), (some 1), (some 1), (some 3), (some 3), (some 5)] 5 3 #[⟨7, 0, (some 0), none⟩, ⟨49, 0, none, none⟩] (some 1) [{ fr .closeLoop 49 3 with loop := 1 }, { fr .giveBack 42 3 with kept := { lastmark := 3, lastindex := 2 } }, { fr .giveBack 30 3 with count := 1, kept := { lastmark := 2, lastindex := 1 } }, { fr .maxTail 23 1 with count := 1, kept := { lastmark := 1, lastindex := 1 } }, { fr .maxMore 23 0 with kept := { whole := true } }, fr .closeLoop 7 0, fr .nextStart 5 0] 7 (some true) none (((((s6.add 17).add 18).add 6).add 48).add 1))) rfl ((step_resume rfl rfl rfl).trans (by kernel_rfl)) ?_
  refine Leads.step (m₁ := (st #[sg, a, b, c, d] 5 49 3 5 #[(some 0), (some 1), (some 1), (some 3), (some 3), (some 5)] 5 3 #[⟨7, 0, (some 0), none⟩] none [{ fr .giveBack 42 3 with kept := { lastmark := 3, lastindex := 2 } }, { fr .giveBack 30 3 with count := 1, kept := { lastmark := 2, lastindex := 1 } }, { fr .maxTail 23 1 with count := 1, kept := { lastmark := 1, lastindex := 1 } }, { fr .maxMore 23 0 with kept := { whole := true } }, fr .closeLoop 7 0, fr .nextStart 5 0] 6 (some true) none (((((s6.add 17).add 18).add 6).add 48).add 1))) rfl ((step_resume rfl rfl rfl).trans (by kernel_rfl)) ?_
  refine Leads.step (m₁ := (st #[sg, a, b, c, d] 5 42 3 5 #[(some 0), (some 1), (some 1), (some 3), (some 3), (some 5)] 5 3 #[⟨7, 0, (some 0), none⟩] none [{ fr .giveBack 30 3 with count := 1, kept := { lastmark := 2, lastindex := 1 } }, { fr .maxTail 23 1 with count := 1, kept := { lastmark := 1, lastindex := 1 } }, { fr .maxMore 23 0 with kept := { whole := true } }, fr .closeLoop 7 0, fr .nextStart 5 0] 5 (some true) none (((((s6.add 17).add 18).add 6).add 48).add 1))) rfl ((step_resume rfl rfl rfl).trans (by kernel_rfl)) ?_
  refine Leads.step (m₁ := (st #[sg, a, b, c, d] 5 30 3 5 #[(some 0), (some 1), (some 1), (some 3), (some 3), (some 5)] 5 3 #[⟨7, 0, (some 0), none⟩] none [{ fr .maxTail 23 1 with count := 1, kept := { lastmark := 1, lastindex := 1 } }, { fr .maxMore 23 0 with kept := { whole := true } }, fr .closeLoop 7 0, fr .nextStart 5 0] 4 (some true) none (((((s6.add 17).add 18).add 6).add 48).add 1))) rfl ((step_resume rfl rfl rfl).trans (by kernel_rfl)) ?_
  refine Leads.step (m₁ := (st #[sg, a, b, c, d] 5 23 1 5 #[(some 0), (some 1), (some 1), (some 3), (some 3), (some 5)] 5 3 #[⟨7, 0, (some 0), none⟩] (some 0) [{ fr .maxMore 23 0 with kept := { whole := true } }, fr .closeLoop 7 0, fr .nextStart 5 0] 3 (some true) none (((((s6.add 17).add 18).add 6).add 48).add 1))) rfl ((step_resume rfl rfl rfl).trans (by kernel_rfl)) ?_
  refine Leads.step (m₁ := (st #[sg, a, b, c, d] 5 23 0 5 #[(some 0), (some 1), (some 1), (some 3), (some 3), (some 5)] 5 3 #[⟨7, 0, none, none⟩] (some 0) [fr .closeLoop 7 0, fr .nextStart 5 0] 2 (some true) none (((((s6.add 17).add 18).add 6).add 48).add 1))) rfl ((step_resume rfl rfl rfl).trans (by kernel_rfl)) ?_
  refine Leads.step (m₁ := (st #[sg, a, b, c, d] 5 7 0 5 #[(some 0), (some 1), (some 1), (some 3), (some 3), (some 5)] 5 3 #[] none [fr .nextStart 5 0] 1 (some true) none (((((s6.add 17).add 18).add 6).add 48).add 1))) rfl ((step_resume rfl rfl rfl).trans (by kernel_rfl)) ?_
  refine Leads.step (m₁ := (st #[sg, a, b, c, d] 5 5 0 5 #[(some 0), (some 1), (some 1), (some 3), (some 3), (some 5)] 5 3 #[] none [] 0 (some true) none (((((s6.add 17).add 18).add 6).add 48).add 1))) rfl ((step_resume rfl rfl rfl).trans (by kernel_rfl)) ?_
  refine Leads.step (m₁ := (st #[sg, a, b, c, d] 5 5 0 5 #[(some 0), (some 1), (some 1), (some 3), (some 3), (some 5)] 5 3 #[] none [] 0 (some true) (some .matched) (((((s6.add 17).add 18).add 6).add 48).add 1))) rfl ((step_end rfl rfl rfl).trans (by kernel_rfl)) ?_
  exact Leads.zero ⟨⟨_, rfl, rfl⟩, by kernel_rfl, by kernel_rfl⟩
theorem tz_sh {sg a : Nat} (hs : sg = 43 ∨ sg = 45) (ha : isDigit a = true) : Leads 100 (forSearch tzC #[sg, a] 3 0 2 false) (Found 3 [0, 2, 0, 1, 1, 2, -1, -1]) := by
  refine Leads.eq (m₁ := (st #[sg, a] 2 5 0 0 #[none, none, none, none, none, none] (-1) (-1) #[] none [fr .nextStart 5 0] 1 none none (({} : Sre.Seen).add 14))) (tz_begin (by decide)) ?_
  refine Leads.step (m₁ := (st #[sg, a] 2 7 0 0 #[none, none, none, none, none, none] (-1) (-1) #[] none [fr .nextStart 5 0] 1 none none (((({} : Sre.Seen).add 14).add 6).add 43))) rfl ((step_at (k := 0) (q := 7) rfl rfl (by tm_at "k") (by tm_at "k") (by tm_at "k") rfl (by kernel_rfl)).trans (by kernel_rfl)) ?_
  refine Leads.step (m₁ := (st #[sg, a] 2 22 0 0 #[none, none, none, none, none, none] (-1) (-1) #[⟨7, (-1), none, none⟩] (some 0) [fr .closeLoop 7 0, fr .nextStart 5 0] 2 none none ((((({} : Sre.Seen).add 14).add 6).add 43).add 23))) rfl ((step_rep2 (q := 22) (i := 0) rfl rfl (by tm_at "k") (by tm_at "k") (by tm_at "k") rfl (by tm_at "k")).trans (by kernel_rfl)) ?_
  refine Leads.step (m₁ := (st #[sg, a] 2 11 0 0 #[none, none, none, none, none, none] (-1) (-1) #[⟨7, 0, (some 0), none⟩] (some 0) [{ fr .maxMore 23 0 with kept := { whole := true } }, fr .closeLoop 7 0, fr .nextStart 5 0] 3 none none (((((({} : Sre.Seen).add 14).add 6).add 43).add 23).add 18))) rfl (((step_until rfl rfl (by tm_at "k") (by tm_at "k")).trans (until_more (i := 0) (l := ⟨7, (-1), none, none⟩) (c := 0) (lo := 0) (hi := 1) (q := 11) (kp := { whole := true }) rfl (by kernel_rfl) (by kernel_rfl) (by tm_at "k") (by tm_at "k") (by decide) (by kernel_rfl) (by kernel_rfl) rfl (by tm_at "k"))).trans (by kernel_rfl)) ?_
  refine Leads.step (m₁ := (st #[sg, a] 2 13 0 0 #[(some 0), none, none, none, none, none] 0 (-1) #[⟨7, 0, (some 0), none⟩] (some 0) [{ fr .maxMore 23 0 with kept := { whole := true } }, fr .closeLoop 7 0, fr .nextStart 5 0] 3 none none ((((((({} : Sre.Seen).add 14).add 6).add 43).add 23).add 18).add 17))) rfl ((step_mark (i := 0) rfl rfl (by tm_at "k") (by tm_at "k") (by tm_at "k")).trans (by kernel_rfl)) ?_
  refine Leads.inn 20 rfl rfl (by tm_at "k") (by tm_at "k") (by tm_at "k") (by tm_at "k") (tz_sign (c := sg) hs) fun s1 => Leads.eq (m₁ := (st #[sg, a] 2 20 1 0 #[(some 0), none, none, none, none, none] 0 (-1) #[⟨7, 0, (some 0), none⟩] (some 0) [{ fr .maxMore 23 0 with kept := { whole := true } }, fr .closeLoop 7 0, fr .nextStart 5 0] 3 none none s1)) (by kernel_rfl) ?_
  refine Leads.step (m₁ := (st #[sg, a] 2 22 1 0 #[(some 0), (some 1), none, none, none, none] 1 1 #[⟨7, 0, (some 0), none⟩] (some 0) [{ fr .maxMore 23 0 with kept := { whole := true } }, fr .closeLoop 7 0, fr .nextStart 5 0] 3 none none (s1.add 17))) rfl ((step_mark (i := 1) rfl rfl (by tm_at "k") (by tm_at "k") (by tm_at "k")).trans (by kernel_rfl)) ?_
  refine Leads.step (m₁ := (st #[sg, a] 2 23 1 1 #[(some 0), (some 1), none, none, none, none] 1 1 #[⟨7, 0, (some 0), none⟩] none [{ fr .maxTail 23 1 with count := 1, kept := { lastmark := 1, lastindex := 1 } }, { fr .maxMore 23 0 with kept := { whole := true } }, fr .closeLoop 7 0, fr .nextStart 5 0] 4 none none ((s1.add 17).add 18))) rfl (((step_until rfl rfl (by tm_at "k") (by tm_at "k")).trans (until_tail (i := 0) (l := ⟨7, 0, (some 0), none⟩) (c := 1) (lo := 0) (hi := 1) rfl (by kernel_rfl) (by kernel_rfl) (by tm_at "k") (by tm_at "k") (by decide) (by kernel_rfl) (by tm_at "k"))).trans (by kernel_rfl)) ?_
  refine Leads.step (m₁ := (st #[sg, a] 2 25 1 1 #[(some 0), (some 1), (some 1), none, none, none] 2 1 #[⟨7, 0, (some 0), none⟩] none [{ fr .maxTail 23 1 with count := 1, kept := { lastmark := 1, lastindex := 1 } }, { fr .maxMore 23 0 with kept := { whole := true } }, fr .closeLoop 7 0, fr .nextStart 5 0] 4 none none (((s1.add 17).add 18).add 17))) rfl ((step_mark (i := 2) rfl rfl (by tm_at "k") (by tm_at "k") (by tm_at "k")).trans (by kernel_rfl)) ?_
  refine Leads.inn 30 rfl rfl (by tm_at "k") (by tm_at "k") (by tm_at "k") (by tm_at "k") (tz_digit (p := 25) (c := a) (by decide) ha) fun s2 => Leads.eq (m₁ := (st #[sg, a] 2 30 2 1 #[(some 0), (some 1), (some 1), none, none, none] 2 1 #[⟨7, 0, (some 0), none⟩] none [{ fr .maxTail 23 1 with count := 1, kept := { lastmark := 1, lastindex := 1 } }, { fr .maxMore 23 0 with kept := { whole := true } }, fr .closeLoop 7 0, fr .nextStart 5 0] 4 none none s2)) (by kernel_rfl) ?_
  refine Leads.rep 0 (lo := 0) (hi := 1) (op := 13) (q := 40) rfl rfl (by tm_at "k") (by tm_at "k") (by tm_at "k") (by tm_at "k") (by tm_at "k") (by tm_at "k") rfl (by tm_at "k") (by tm_at "k") (fun sn => run_take (k := 0) (Nat.zero_le _) (fun j sn hj => absurd hj (Nat.not_lt_zero _)) (fun h sn => absurd h (Nat.not_lt.mpr (by tm_at "k")))) (by tm_at "k") fun s3 => Leads.eq (m₁ := (st #[sg, a] 2 40 2 2 #[(some 0), (some 1), (some 1), none, none, none] 2 1 #[⟨7, 0, (some 0), none⟩] none [{ fr .giveBack 30 2 with kept := { lastmark := 2, lastindex := 1 } }, { fr .maxTail 23 1 with count := 1, kept := { lastmark := 1, lastindex := 1 } }, { fr .maxMore 23 0 with kept := { whole := true } }, fr .closeLoop 7 0, fr .nextStart 5 0] 5 none none s3)) (by kernel_rfl) ?_
  refine Leads.step (m₁ := (st #[sg, a] 2 42 2 2 #[(some 0), (some 1), (some 1), (some 2), none, none] 3 2 #[⟨7, 0, (some 0), none⟩] none [{ fr .giveBack 30 2 with kept := { lastmark := 2, lastindex := 1 } }, { fr .maxTail 23 1 with count := 1, kept := { lastmark := 1, lastindex := 1 } }, { fr .maxMore 23 0 with kept := { whole := true } }, fr .closeLoop 7 0, fr .nextStart 5 0] 5 none none (s3.add 17))) rfl ((step_mark (i := 3) rfl rfl (by tm_at "k") (by tm_at "k") (by tm_at "k")).trans (by kernel_rfl)) ?_
  refine Leads.rep 0 (lo := 0) (hi := 1) (op := 16) (q := 49) rfl rfl (by tm_at "k") (by tm_at "k") (by tm_at "k") (by tm_at "k") (by tm_at "k") (by tm_at "k") rfl (by tm_at "k") (by tm_at "k") (fun sn => run_take (k := 0) (Nat.zero_le _) (fun j sn hj => absurd hj (Nat.not_lt_zero _)) (fun h sn => absurd h (Nat.not_lt.mpr (by tm_at "k")))) (by tm_at "k") fun s4 => Leads.eq (m₁ := (st #[sg, a] 2 49 2 2 #[(some 0), (some 1), (some 1), (some 2), none, none] 3 2 #[⟨7, 0, (some 0), none⟩] none [{ fr .giveBack 42 2 with kept := { lastmark := 3, lastindex := 2 } }, { fr .giveBack 30 2 with kept := { lastmark := 2, lastindex := 1 } }, { fr .maxTail 23 1 with count := 1, kept := { lastmark := 1, lastindex := 1 } }, { fr .maxMore 23 0 with kept := { whole := true } }, fr .closeLoop 7 0, fr .nextStart 5 0] 6 none none s4)) (by kernel_rfl) ?_
  refine Leads.step (m₁ := (st #[sg, a] 2 67 2 2 #[(some 0), (some 1), (some 1), (some 2), none, none] 3 2 #[⟨7, 0, (some 0), none⟩, ⟨49, (-1), none, none⟩] (some 1) [{ fr .closeLoop 49 2 with loop := 1 }, { fr .giveBack 42 2 with kept := { lastmark := 3, lastindex := 2 } }, { fr .giveBack 30 2 with kept := { lastmark := 2, lastindex := 1 } }, { fr .maxTail 23 1 with count := 1, kept := { lastmark := 1, lastindex := 1 } }, { fr .maxMore 23 0 with kept := { whole := true } }, fr .closeLoop 7 0, fr .nextStart 5 0] 7 none none (s4.add 23))) rfl ((step_rep2 (q := 67) (i := 1) rfl rfl (by tm_at "k") (by tm_at "k") (by tm_at "k") rfl (by tm_at "k")).trans (by kernel_rfl)) ?_
  refine Leads.step (m₁ := (st #[sg, a] 2 53 2 2 #[(some 0), (some 1), (some 1), (some 2), none, none] 3 2 #[⟨7, 0, (some 0), none⟩, ⟨49, 0, (some 2), none⟩] (some 1) [{ fr .maxMore 68 2 with kept := { lastmark := 3, lastindex := 2, whole := true, marks := #[(some 0), (some 1), (some 1), (some 2)] }, loop := 1 }, { fr .closeLoop 49 2 with loop := 1 }, { fr .giveBack 42 2 with kept := { lastmark := 3, lastindex := 2 } }, { fr .giveBack 30 2 with kept := { lastmark := 2, lastindex := 1 } }, { fr .maxTail 23 1 with count := 1, kept := { lastmark := 1, lastindex := 1 } }, { fr .maxMore 23 0 with kept := { whole := true } }, fr .closeLoop 7 0, fr .nextStart 5 0] 12 none none ((s4.add 23).add 18))) rfl (((step_until rfl rfl (by tm_at "k") (by tm_at "k")).trans (until_more (i := 1) (l := ⟨49, (-1), none, none⟩) (c := 0) (lo := 0) (hi := 1) (q := 53) (kp := { lastmark := 3, lastindex := 2, whole := true, marks := #[(some 0), (some 1), (some 1), (some 2)] }) rfl (by kernel_rfl) (by kernel_rfl) (by tm_at "k") (by tm_at "k") (by decide) (by kernel_rfl) (by kernel_rfl) rfl (by tm_at "k"))).trans (by kernel_rfl)) ?_
  refine Leads.step (m₁ := (st #[sg, a] 2 55 2 2 #[(some 0), (some 1), (some 1), (some 2), (some 2), none] 4 2 #[⟨7, 0, (some 0), none⟩, ⟨49, 0, (some 2), none⟩] (some 1) [{ fr .maxMore 68 2 with kept := { lastmark := 3, lastindex := 2, whole := true, marks := #[(some 0), (some 1), (some 1), (some 2)] }, loop := 1 }, { fr .closeLoop 49 2 with loop := 1 }, { fr .giveBack 42 2 with kept := { lastmark := 3, lastindex := 2 } }, { fr .giveBack 30 2 with kept := { lastmark := 2, lastindex := 1 } }, { fr .maxTail 23 1 with count := 1, kept := { lastmark := 1, lastindex := 1 } }, { fr .maxMore 23 0 with kept := { whole := true } }, fr .closeLoop 7 0, fr .nextStart 5 0] 12 none none (((s4.add 23).add 18).add 17))) rfl ((step_mark (i := 4) rfl rfl (by tm_at "k") (by tm_at "k") (by tm_at "k")).trans (by kernel_rfl)) ?_
  refine Leads.step (m₁ := (st #[sg, a] 2 55 2 2 #[(some 0), (some 1), (some 1), (some 2), (some 2), none] 4 2 #[⟨7, 0, (some 0), none⟩, ⟨49, 0, (some 2), none⟩] (some 1) [{ fr .maxMore 68 2 with kept := { lastmark := 3, lastindex := 2, whole := true, marks := #[(some 0), (some 1), (some 1), (some 2)] }, loop := 1 }, { fr .closeLoop 49 2 with loop := 1 }, { fr .giveBack 42 2 with kept := { lastmark := 3, lastindex := 2 } }, { fr .giveBack 30 2 with kept := { lastmark := 2, lastindex := 1 } }, { fr .maxTail 23 1 with count := 1, kept := { lastmark := 1, lastindex := 1 } }, { fr .maxMore 23 0 with kept := { whole := true } }, fr .closeLoop 7 0, fr .nextStart 5 0] 12 (some false) none ((((s4.add 23).add 18).add 17).add 13))) rfl ((step_inEnd rfl rfl (by tm_at "k") (by tm_at "k") (by tm_at "k")).trans (by kernel_rfl)) ?_
  refine Leads.step (m₁ := (st #[sg, a] 2 68 2 2 #[(some 0), (some 1), (some 1), (some 2), (some 2), none] 3 2 #[⟨7, 0, (some 0), none⟩, ⟨49, (-1), none, none⟩] none [{ fr .maxTail 68 2 with kept := { lastmark := 3, lastindex := 2 }, loop := 1 }, { fr .closeLoop 49 2 with loop := 1 }, { fr .giveBack 42 2 with kept := { lastmark := 3, lastindex := 2 } }, { fr .giveBack 30 2 with kept := { lastmark := 2, lastindex := 1 } }, { fr .maxTail 23 1 with count := 1, kept := { lastmark := 1, lastindex := 1 } }, { fr .maxMore 23 0 with kept := { whole := true } }, fr .closeLoop 7 0, fr .nextStart 5 0] 8 none none ((((s4.add 23).add 18).add 17).add 13))) rfl ((step_maxMoreNo rfl rfl rfl rfl (by tm_at "k")).trans (by kernel_rfl)) ?_
  refine Leads.step (m₁ := (st #[sg, a] 2 70 2 2 #[(some 0), (some 1), (some 1), (some 2), (some 2), none] 3 2 #[⟨7, 0, (some 0), none⟩, ⟨49, (-1), none, none⟩] none [{ fr .maxTail 68 2 with kept := { lastmark := 3, lastindex := 2 }, loop := 1 }, { fr .closeLoop 49 2 with loop := 1 }, { fr .giveBack 42 2 with kept := { lastmark := 3, lastindex := 2 } }, { fr .giveBack 30 2 with kept := { lastmark := 2, lastindex := 1 } }, { fr .maxTail 23 1 with count := 1, kept := { lastmark := 1, lastindex := 1 } }, { fr .maxMore 23 0 with kept := { whole := true } }, fr .closeLoop 7 0, fr .nextStart 5 0] 8 none none ((((((s4.add 23).add 18).add 17).add 13).add 6).add 48))) rfl ((step_at (k := 5) (q := 70) rfl rfl (by tm_at "k") (by tm_at "k") (by tm_at "k") rfl (by kernel_rfl)).trans (by kernel_rfl)) ?_
  refine Leads.step (m₁ := (st #[sg, a] 2 70 2 2 #[(some 0), (some 1), (some 1), (some 2), (some 2), none] 3 2 #[⟨7, 0, (some 0), none⟩, ⟨49, (-1), none, none⟩] none [{ fr .maxTail 68 2 with kept := { lastmark := 3, lastindex := 2 }, loop := 1 }, { fr .closeLoop 49 2 with loop := 1 }, { fr .giveBack 42 2 with kept := { lastmark := 3, lastindex := 2 } }, { fr .giveBack 30 2 with kept := { lastmark := 2, lastindex := 1 } }, { fr .maxTail 23 1 with count := 1, kept := { lastmark := 1, lastindex := 1 } }, { fr .maxMore 23 0 with kept := { whole := true } }, fr .closeLoop 7 0, fr .nextStart 5 0] 8 (some true) none (((((((s4.add 23).add 18).add 17).add 13).add 6).add 48).add 1))) rfl ((step_success rfl rfl (by tm_at "k") (by tm_at "k") rfl rfl).trans (by kernel_rfl)) ?_
  refine Leads.step (m₁ := (st #[sg, a] 2 68 2 2 #[(some 0), (some 1), (some 1), (some 2), (some 2), none] 3 2 #[⟨7, 0, (some 0), none⟩, ⟨49, (-1), none, none⟩] (some 1) [{ fr .closeLoop 49 2 with loop := 1 }, { fr .giveBack 42 2 with kept := { lastmark := 3, lastindex := 2 } }, { fr .giveBack 30 2 with kept := { lastmark := 2, lastindex := 1 } }, { fr .maxTail 23 1 with count := 1, kept := { lastmark := 1, lastindex := 1 } }, { fr .maxMore 23 0 with kept := { whole := true } }, fr .closeLoop 7 0, fr .nextStart 5 0] 7 (some true) none (((((((s4.add 23).add 18).add 17).add 13).add 6).add 48).add 1))) rfl ((step_resume rfl rfl rfl).trans (by kernel_rfl)) ?_
  refine Leads.step (m₁ := (st #[sg, a] 2 49 2 2 #[(some 0), (some 1), (some 1), (some 2), (some 2), none] 3 2 #[⟨7, 0, (some 0), none⟩] none [{ fr .giveBack 42 2 with kept := { lastmark := 3, lastindex := 2 } }, { fr .giveBack 30 2 with kept := { lastmark := 2, lastindex := 1 } }, { fr .maxTail 23 1 with count := 1, kept := { lastmark := 1, lastindex := 1 } }, { fr .maxMore 23 0 with kept := { whole := true } }, fr .closeLoop 7 0, fr .nextStart 5 0] 6 (some true) none (((((((s4.add 23).add 18).add 17).add 13).add 6).add 48).add 1))) rfl ((step_resume rfl rfl rfl).trans (by kernel_rfl)) ?_
  refine Leads.step (m₁ := (st #[sg, a] 2 42 2 2 #[(some 0), (some 1), (some 1), (some 2), (some 2), none] 3 2 #[⟨7, 0, (some 0), none⟩] none [{ fr .giveBack 30 2 with kept := { lastmark := 2, lastindex := 1 } }, { fr .maxTail 23 1 with count := 1, kept := { lastmark := 1, lastindex := 1 } }, { fr .maxMore 23 0 with kept := { whole := true } }, fr .closeLoop 7 0, fr .nextStart 5 0] 5 (some true) none (((((((s4.add 23).add 18).add 17).add 13).add 6).add 48).add 1))) rfl ((step_resume rfl rfl rfl).trans (by kernel_rfl)) ?_
  refine Leads.step (m₁ := (st #[sg, a] 2 30 2 2 #[(some 0), (some 1), (some 1), (some 2), (some 2), none] 3 2 #[⟨7, 0, (some 0), none⟩] none [{ fr .maxTail 23 1 with count := 1, kept := { lastmark := 1, lastindex := 1 } }, { fr .maxMore 23 0 with kept := { whole := true } }, fr .closeLoop 7 0, fr .nextStart 5 0] 4 (some true) none (((((((s4.add 23).add 18).add 17).add 13).add 6).add 48).add 1))) rfl ((step_resume rfl rfl rfl).trans (by kernel_rfl)) ?_
  refine Leads.step (m₁ := (st #[sg, a] 2 23 1 2 #[(some 0), (some 1), (some 1), (some 2), (some 2), none] 3 2 #[⟨7, 0, (some 0), none⟩] (some 0) [{ fr .maxMore 23 0 with kept := { whole := true } }, fr .closeLoop 7 0, fr .nextStart 5 0] 3 (some true) none (((((((s4.add 23).add 18).add 17).add 13).add 6).add 48).add 1))) rfl ((step_resume rfl rfl rfl).trans (by kernel_rfl)) ?_
  refine Leads.step (m₁ := (st #[sg, a] 2 23 0 2 #[(some 0), (some 1), (some 1), (some 2), (some 2), none] 3 2 #[⟨7, 0, none, none⟩] (some 0) [fr .closeLoop 7 0, fr .nextStart 5 0] 2 (some true) none (((((((s4.add 23).add 18).add 17).add 13).add 6).add 48).add 1))) rfl ((step_resume rfl rfl rfl).trans (by kernel_rfl)) ?_
  refine Leads.step (m₁ := (st #[sg, a] 2 7 0 2 #[(some 0), (some 1), (some 1), (some 2), (some 2), none] 3 2 #[] none [fr .nextStart 5 0] 1 (some true) none (((((((s4.add 23).add 18).add 17).add 13).add 6).add 48).add 1))) rfl ((step_resume rfl rfl rfl).trans (by kernel_rfl)) ?_
  refine Leads.step (m₁ := (st #[sg, a] 2 5 0 2 #[(some 0), (some 1), (some 1), (some 2), (some 2), none] 3 2 #[] none [] 0 (some true) none (((((((s4.add 23).add 18).add 17).add 13).add 6).add 48).add 1))) rfl ((step_resume rfl rfl rfl).trans (by kernel_rfl)) ?_
  refine Leads.step (m₁ := (st #[sg, a] 2 5 0 2 #[(some 0), (some 1), (some 1), (some 2), (some 2), none] 3 2 #[] none [] 0 (some true) (some .matched) (((((((s4.add 23).add 18).add 17).add 13).add 6).add 48).add 1))) rfl ((step_end rfl rfl rfl).trans (by kernel_rfl)) ?_
  exact Leads.zero ⟨⟨_, rfl, rfl⟩, by kernel_rfl, by kernel_rfl⟩
theorem tz_shh {sg a b : Nat} (hs : sg = 43 ∨ sg = 45) (ha : isDigit a = true) (hb : isDigit b = true) : Leads 100 (forSearch tzC #[sg, a, b] 3 0 3 false) (Found 3 [0, 3, 0, 1, 1, 3, -1, -1]) := by
  refine Leads.eq (m₁ := (st #[sg, a, b] 3 5 0 0 #[none, none, none, none, none, none] (-1) (-1) #[] none [fr .nextStart 5 0] 1 none none (({} : Sre.Seen).add 14))) (tz_begin (by decide)) ?_
  refine Leads.step (m₁ := (st #[sg, a, b] 3 7 0 0 #[none, none, none, none, none, none] (-1) (-1) #[] none [fr .nextStart 5 0] 1 none none (((({} : Sre.Seen).add 14).add 6).add 43))) rfl ((step_at (k := 0) (q := 7) rfl rfl (by tm_at "k") (by tm_at "k") (by tm_at "k") rfl (by kernel_rfl)).trans (by kernel_rfl)) ?_
  refine Leads.step (m₁ := (st #[sg, a, b] 3 22 0 0 #[none, none, none, none, none, none] (-1) (-1) #[⟨7, (-1), none, none⟩] (some 0) [fr .closeLoop 7 0, fr .nextStart 5 0] 2 none none ((((({} : Sre.Seen).add 14).add 6).add 43).add 23))) rfl ((step_rep2 (q := 22) (i := 0) rfl rfl (by tm_at "k") (by tm_at "k") (by tm_at "k") rfl (by tm_at "k")).trans (by kernel_rfl)) ?_
  refine Leads.step (m₁ := (st #[sg, a, b] 3 11 0 0 #[none, none, none, none, none, none] (-1) (-1) #[⟨7, 0, (some 0), none⟩] (some 0) [{ fr .maxMore 23 0 with kept := { whole := true } }, fr .closeLoop 7 0, fr .nextStart 5 0] 3 none none (((((({} : Sre.Seen).add 14).add 6).add 43).add 23).add 18))) rfl (((step_until rfl rfl (by tm_at "k") (by tm_at "k")).trans (until_more (i := 0) (l := ⟨7, (-1), none, none⟩) (c := 0) (lo := 0) (hi := 1) (q := 11) (kp := { whole := true }) rfl (by kernel_rfl) (by kernel_rfl) (by tm_at "k") (by tm_at "k") (by decide) (by kernel_rfl) (by kernel_rfl) rfl (by tm_at "k"))).trans (by kernel_rfl)) ?_
  refine Leads.step (m₁ := (st #[sg, a, b] 3 13 0 0 #[(some 0), none, none, none, none, none] 0 (-1) #[⟨7, 0, (some 0), none⟩] (some 0) [{ fr .maxMore 23 0 with kept := { whole := true } }, fr .closeLoop 7 0, fr .nextStart 5 0] 3 none none ((((((({} : Sre.Seen).add 14).add 6).add 43).add 23).add 18).add 17))) rfl ((step_mark (i := 0) rfl rfl (by tm_at "k") (by tm_at "k") (by tm_at "k")).trans (by kernel_rfl)) ?_
  refine Leads.inn 20 rfl rfl (by tm_at "k") (by tm_at "k") (by tm_at "k") (by tm_at "k") (tz_sign (c := sg) hs) fun s1 => Leads.eq (m₁ := (st #[sg, a, b] 3 20 1 0 #[(some 0), none, none, none, none, none] 0 (-1) #[⟨7, 0, (some 0), none⟩] (some 0) [{ fr .maxMore 23 0 with kept := { whole := true } }, fr .closeLoop 7 0, fr .nextStart 5 0] 3 none none s1)) (by kernel_rfl) ?_
  refine Leads.step (m₁ := (st #[sg, a, b] 3 22 1 0 #[(some 0), (some 1), none, none, none, none] 1 1 #[⟨7, 0, (some 0), none⟩] (some 0) [{ fr .maxMore 23 0 with kept := { whole := true } }, fr .closeLoop 7 0, fr .nextStart 5 0] 3 none none (s1.add 17))) rfl ((step_mark (i := 1) rfl rfl (by tm_at "k") (by tm_at "k") (by tm_at "k")).trans (by kernel_rfl)) ?_
  refine Leads.step (m₁ := (st #[sg, a, b] 3 23 1 1 #[(some 0), (some 1), none, none, none, none] 1 1 #[⟨7, 0, (some 0), none⟩] none [{ fr .maxTail 23 1 with count := 1, kept := { lastmark := 1, lastindex := 1 } }, { fr .maxMore 23 0 with kept := { whole := true } }, fr .closeLoop 7 0, fr .nextStart 5 0] 4 none none ((s1.add 17).add 18))) rfl (((step_until rfl rfl (by tm_at "k") (by tm_at "k")).trans (until_tail (i := 0) (l := ⟨7, 0, (some 0), none⟩) (c := 1) (lo := 0) (hi := 1) rfl (by kernel_rfl) (by kernel_rfl) (by tm_at "k") (by tm_at "k") (by decide) (by kernel_rfl) (by tm_at "k"))).trans (by kernel_rfl)) ?_
  refine Leads.step (m₁ := (st #[sg, a, b] 3 25 1 1 #[(some 0), (some 1), (some 1), none, none, none] 2 1 #[⟨7, 0, (some 0), none⟩] none [{ fr .maxTail 23 1 with count := 1, kept := { lastmark := 1, lastindex := 1 } }, { fr .maxMore 23 0 with kept := { whole := true } }, fr .closeLoop 7 0, fr .nextStart 5 0] 4 none none (((s1.add 17).add 18).add 17))) rfl ((step_mark (i := 2) rfl rfl (by tm_at "k") (by tm_at "k") (by tm_at "k")).trans (by kernel_rfl)) ?_
  refine Leads.inn 30 rfl rfl (by tm_at "k") (by tm_at "k") (by tm_at "k") (by tm_at "k") (tz_digit (p := 25) (c := a) (by decide) ha) fun s2 => Leads.eq (m₁ := (st #[sg, a, b] 3 30 2 1 #[(some 0), (some 1), (some 1), none, none, none] 2 1 #[⟨7, 0, (some 0), none⟩] none [{ fr .maxTail 23 1 with count := 1, kept := { lastmark := 1, lastindex := 1 } }, { fr .maxMore 23 0 with kept := { whole := true } }, fr .closeLoop 7 0, fr .nextStart 5 0] 4 none none s2)) (by kernel_rfl) ?_
  refine Leads.rep 1 (lo := 0) (hi := 1) (op := 13) (q := 40) rfl rfl (by tm_at "k") (by tm_at "k") (by tm_at "k") (by tm_at "k") (by tm_at "k") (by tm_at "k") rfl (by tm_at "k") (by tm_at "k") (fun sn => run_take (k := 1) (by tm_at "k") (fun j sn hj => by cases Nat.lt_one_iff.mp hj; exact tz_digit (p := 34) (c := b) (by decide) hb) (fun h => absurd h (Nat.not_lt.mpr (by tm_at "k")))) (by tm_at "k") fun s3 => Leads.eq (m₁ := (st #[sg, a, b] 3 40 3 3 #[(some 0), (some 1), (some 1), none, none, none] 2 1 #[⟨7, 0, (some 0), none⟩] none [{ fr .giveBack 30 3 with count := 1, kept := { lastmark := 2, lastindex := 1 } }, { fr .maxTail 23 1 with count := 1, kept := { lastmark := 1, lastindex := 1 } }, { fr .maxMore 23 0 with kept := { whole := true } }, fr .closeLoop 7 0, fr .nextStart 5 0] 5 none none s3)) (by kernel_rfl) ?_
  refine Leads.step (m₁ := (st #[sg, a, b] 3 42 3 3 #[(some 0), (some 1), (some 1), (some 3), none, none] 3 2 #[⟨7, 0, (some 0), none⟩] none [{ fr .giveBack 30 3 with count := 1, kept := { lastmark := 2, lastindex := 1 } }, { fr .maxTail 23 1 with count := 1, kept := { lastmark := 1, lastindex := 1 } }, { fr .maxMore 23 0 with kept := { whole := true } }, fr .closeLoop 7 0, fr .nextStart 5 0] 5 none none (s3.add 17))) rfl ((step_mark (i := 3) rfl rfl (by tm_at "k") (by tm_at "k") (by tm_at "k")).trans (by kernel_rfl)) ?_
  refine Leads.rep 0 (lo := 0) (hi := 1) (op := 16) (q := 49) rfl rfl (by tm_at "k") (by tm_at "k") (by tm_at "k") (by tm_at "k") (by tm_at "k") (by tm_at "k") rfl (by tm_at "k") (by tm_at "k") (fun sn => run_take (k := 0) (Nat.zero_le _) (fun j sn hj => absurd hj (Nat.not_lt_zero _)) (fun h sn => absurd h (Nat.not_lt.mpr (by tm_at "k")))) (by tm_at "k") fun s4 => Leads.eq (m₁ := (st #[sg, a, b] 3 49 3 3 #[(some 0), (some 1), (some 1), (some 3), none, none] 3 2 #[⟨7, 0, (some 0), none⟩] none [{ fr .giveBack 42 3 with kept := { lastmark := 3, lastindex := 2 } }, { fr .giveBack 30 3 with count := 1, kept := { lastmark := 2, lastindex := 1 } }, { fr .maxTail 23 1 with count := 1, kept := { lastmark := 1, lastindex := 1 } }, { fr .maxMore 23 0 with kept := { whole := true } }, fr .closeLoop 7 0, fr .nextStart 5 0] 6 none none s4)) (by kernel_rfl) ?_
  refine Leads.step (m₁ := (st #[sg, a, b] 3 67 3 3 #[(some 0), (some 1), (some 1), (some 3), none, none] 3 2 #[⟨7, 0, (some 0), none⟩, ⟨49, (-1), none, none⟩] (some 1) [{ fr .closeLoop 49 3 with loop := 1 }, { fr .giveBack 42 3 with kept := { lastmark := 3, lastindex := 2 } }, { fr .giveBack 30 3 with count := 1, kept := { lastmark := 2, lastindex := 1 } }, { fr .maxTail 23 1 with count := 1, kept := { lastmark := 1, lastindex := 1 } }, { fr .maxMore 23 0 with kept := { whole := true } }, fr .closeLoop 7 0, fr .nextStart 5 0] 7 none none (s4.add 23))) rfl ((step_rep2 (q := 67) (i := 1) rfl rfl (by tm_at "k") (by tm_at "k") (by tm_at "k") rfl (by tm_at "k")).trans (by kernel_rfl)) ?_
  refine Leads.step (m₁ := (st #[sg, a, b] 3 53 3 3 #[(some 0), (some 1), (some 1), (some 3), none, none] 3 2 #[⟨7, 0, (some 0), none⟩, ⟨49, 0, (some 3), none⟩] (some 1) [{ fr .maxMore 68 3 with kept := { lastmark := 3, lastindex := 2, whole := true, marks := #[(some 0), (some 1), (some 1), (some 3)] }, loop := 1 }, { fr .closeLoop 49 3 with loop := 1 }, { fr .giveBack 42 3 with kept := { lastmark := 3, lastindex := 2 } }, { fr .giveBack 30 3 with count := 1, kept := { lastmark := 2, lastindex := 1 } }, { fr .maxTail 23 1 with count := 1, kept := { lastmark := 1, lastindex := 1 } }, { fr .maxMore 23 0 with kept := { whole := true } }, fr .closeLoop 7 0, fr .nextStart 5 0] 12 none none ((s4.add 23).add 18))) rfl (((step_until rfl rfl (by tm_at "k") (by tm_at "k")).trans (until_more (i := 1) (l := ⟨49, (-1), none, none⟩) (c := 0) (lo := 0) (hi := 1) (q := 53) (kp := { lastmark := 3, lastindex := 2, whole := true, marks := #[(some 0), (some 1), (some 1), (some 3)] }) rfl (by kernel_rfl) (by kernel_rfl) (by tm_at "k") (by tm_at "k") (by decide) (by kernel_rfl) (by kernel_rfl) rfl (by tm_at "k"))).trans (by kernel_rfl)) ?_
  refine Leads.step (m₁ := (st #[sg, a, b] 3 55 3 3 #[(some 0), (some 1), (some 1), (some 3), (some 3), none] 4 2 #[⟨7, 0, (some 0), none⟩, ⟨49, 0, (some 3), none⟩] (some 1) [{ fr .maxMore 68 3 with kept := { lastmark := 3, lastindex := 2, whole := true, marks := #[(some 0), (some 1), (some 1), (some 3)] }, loop := 1 }, { fr .closeLoop 49 3 with loop := 1 }, { fr .giveBack 42 3 with kept := { lastmark := 3, lastindex := 2 } }, { fr .giveBack 30 3 with count := 1, kept := { lastmark := 2, lastindex := 1 } }, { fr .maxTail 23 1 with count := 1, kept := { lastmark := 1, lastindex := 1 } }, { fr .maxMore 23 0 with kept := { whole := true } }, fr .closeLoop 7 0, fr .nextStart 5 0] 12 none none (((s4.add 23).add 18).add 17))) rfl ((step_mark (i := 4) rfl rfl (by tm_at "k") (by tm_at "k") (by tm_at "k")).trans (by kernel_rfl)) ?_
  refine Leads.step (m₁ := (st #[sg, a, b] 3 55 3 3 #[(some 0), (some 1), (some 1), (some 3), (some 3), none] 4 2 #[⟨7, 0, (some 0), none⟩, ⟨49, 0, (some 3), none⟩] (some 1) [{ fr .maxMore 68 3 with kept := { lastmark := 3, lastindex := 2, whole := true, marks := #[(some 0), (some 1), (some 1), (some 3)] }, loop := 1 }, { fr .closeLoop 49 3 with loop := 1 }, { fr .giveBack 42 3 with kept := { lastmark := 3, lastindex := 2 } }, { fr .giveBack 30 3 with count := 1, kept := { lastmark := 2, lastindex := 1 } }, { fr .maxTail 23 1 with count := 1, kept := { lastmark := 1, lastindex := 1 } }, { fr .maxMore 23 0 with kept := { whole := true } }, fr .closeLoop 7 0, fr .nextStart 5 0] 12 (some false) none ((((s4.add 23).add 18).add 17).add 13))) rfl ((step_inEnd rfl rfl (by tm_at "k") (by tm_at "k") (by tm_at "k")).trans (by kernel_rfl)) ?_
  refine Leads.step (m₁ := (st #[sg, a, b] 3 68 3 3 #[(some 0), (some 1), (some 1), (some 3), (some 3), none] 3 2 #[⟨7, 0, (some 0), none⟩, ⟨49, (-1), none, none⟩] none [{ fr .maxTail 68 3 with kept := { lastmark := 3, lastindex := 2 }, loop := 1 }, { fr .closeLoop 49 3 with loop := 1 }, { fr .giveBack 42 3 with kept := { lastmark := 3, lastindex := 2 } }, { fr .giveBack 30 3 with count := 1, kept := { lastmark := 2, lastindex := 1 } }, { fr .maxTail 23 1 with count := 1, kept := { lastmark := 1, lastindex := 1 } }, { fr .maxMore 23 0 with kept := { whole := true } }, fr .closeLoop 7 0, fr .nextStart 5 0] 8 none none ((((s4.add 23).add 18).add 17).add 13))) rfl ((step_maxMoreNo rfl rfl rfl rfl (by tm_at "k")).trans (by kernel_rfl)) ?_
  refine Leads.step (m₁ := (st #[sg, a, b] 3 70 3 3 #[(some 0), (some 1), (some 1), (some 3), (some 3), none] 3 2 #[⟨7, 0, (some 0), none⟩, ⟨49, (-1), none, none⟩] none [{ fr .maxTail 68 3 with kept := { lastmark := 3, lastindex := 2 }, loop := 1 }, { fr .closeLoop 49 3 with loop := 1 }, { fr .giveBack 42 3 with kept := { lastmark := 3, lastindex := 2 } }, { fr .giveBack 30 3 with count := 1, kept := { lastmark := 2, lastindex := 1 } }, { fr .maxTail 23 1 with count := 1, kept := { lastmark := 1, lastindex := 1 } }, { fr .maxMore 23 0 with kept := { whole := true } }, fr .closeLoop 7 0, fr .nextStart 5 0] 8 none none ((((((s4.add 23).add 18).add 17).add 13).add 6).add 48))) rfl ((step_at (k := 5) (q := 70) rfl rfl (by tm_at "k") (by tm_at "k") (by tm_at "k") rfl (by kernel_rfl)).trans (by kernel_rfl)) ?_
  refine Leads.step (m₁ := (st #[sg, a, b] 3 70 3 3 #[(some 0), (some 1), (some 1), (some 3), (some 3), none] 3 2 #[⟨7, 0, (some 0), none⟩, ⟨49, (-1), none, none⟩] none [{ fr .maxTail 68 3 with kept := { lastmark := 3, lastindex := 2 }, loop := 1 }, { fr .closeLoop 49 3 with loop := 1 }, { fr .giveBack 42 3 with kept := { lastmark := 3, lastindex := 2 } }, { fr .giveBack 30 3 with count := 1, kept := { lastmark := 2, lastindex := 1 } }, { fr .maxTail 23 1 with count := 1, kept := { lastmark := 1, lastindex := 1 } }, { fr .maxMore 23 0 with kept := { whole := true } }, fr .closeLoop 7 0, fr .nextStart 5 0] 8 (some true) none (((((((s4.add 23).add 18).add 17).add 13).add 6).add 48).add 1))) rfl ((step_success rfl rfl (by tm_at "k") (by tm_at "k") rfl rfl).trans (by kernel_rfl)) ?_
  refine Leads.step (m₁ := (st #[sg, a, b] 3 68 3 3 #[(some 0), (some 1), (some 1), (some 3), (some 3), none] 3 2 #[⟨7, 0, (some 0), none⟩, ⟨49, (-1), none, none⟩] (some 1) [{ fr .closeLoop 49 3 with loop := 1 }, { fr .giveBack 42 3 with kept := { lastmark := 3, lastindex := 2 } }, { fr .giveBack 30 3 with count := 1, kept := { lastmark := 2, lastindex := 1 } }, { fr .maxTail 23 1 with count := 1, kept := { lastmark := 1, lastindex := 1 } }, { fr .maxMore 23 0 with kept := { whole := true } }, fr .closeLoop 7 0, fr .nextStart 5 0] 7 (some true) none (((((((s4.add 23).add 18).add 17).add 13).add 6).add 48).add 1))) rfl ((step_resume rfl rfl rfl).trans (by kernel_rfl)) ?_
  refine Leads.step (m₁ := (st #[sg, a, b] 3 49 3 3 #[(some 0), (some 1), (some 1), (some 3), (some 3), none] 3 2 #[⟨7, 0, (some 0), none⟩] none [{ fr .giveBack 42 3 with kept := { lastmark := 3, lastindex := 2 } }, { fr .giveBack 30 3 with count := 1, kept := { lastmark := 2, lastindex := 1 } }, { fr .maxTail 23 1 with count := 1, kept := { lastmark := 1, lastindex := 1 } }, { fr .maxMore 23 0 with kept := { whole := true } }, fr .closeLoop 7 0, fr .nextStart 5 0] 6 (some true) none (((((((s4.add 23).add 18).add 17).add 13).add 6).add 48).add 1))) rfl ((step_resume rfl rfl rfl).trans (by kernel_rfl)) ?_
  refine Leads.step (m₁ := (st #[sg, a, b] 3 42 3 3 #[(some 0), (some 1), (some 1), (some 3), (some 3), none] 3 2 #[⟨7, 0, (some 0), none⟩] none [{ fr .giveBack 30 3 with count := 1, kept := { lastmark := 2, lastindex := 1 } }, { fr .maxTail 23 1 with count := 1, kept := { lastmark := 1, lastindex := 1 } }, { fr .maxMore 23 0 with kept := { whole := true } }, fr .closeLoop 7 0, fr .nextStart 5 0] 5 (some true) none (((((((s4.add 23).add 18).add 17).add 13).add 6).add 48).add 1))) rfl ((step_resume rfl rfl rfl).trans (by kernel_rfl)) ?_
  refine Leads.step (m₁ := (st #[sg, a, b] 3 30 3 3 #[(some 0), (some 1), (some 1), (some 3), (some 3), none] 3 2 #[⟨7, 0, (some 0), none⟩] none [{ fr .maxTail 23 1 with count := 1, kept := { lastmark := 1, lastindex := 1 } }, { fr .maxMore 23 0 with kept := { whole := true } }, fr .closeLoop 7 0, fr .nextStart 5 0] 4 (some true) none (((((((s4.add 23).add 18).add 17).add 13).add 6).add 48).add 1))) rfl ((step_resume rfl rfl rfl).trans (by kernel_rfl)) ?_
  refine Leads.step (m₁ := (st #[sg, a, b] 3 23 1 3 #[(some 0), (some 1), (some 1), (some 3), (some 3), none] 3 2 #[⟨7, 0, (some 0), none⟩] (some 0) [{ fr .maxMore 23 0 with kept := { whole := true } }, fr .closeLoop 7 0, fr .nextStart 5 0] 3 (some true) none (((((((s4.add 23).add 18).add 17).add 13).add 6).add 48).add 1))) rfl ((step_resume rfl rfl rfl).trans (by kernel_rfl)) ?_
  refine Leads.step (m₁ := (st #[sg, a, b] 3 23 0 3 #[(some 0), (some 1), (some 1), (some 3), (some 3), none] 3 2 #[⟨7, 0, none, none⟩] (some 0) [fr .closeLoop 7 0, fr .nextStart 5 0] 2 (some true) none (((((((s4.add 23).add 18).add 17).add 13).add 6).add 48).add 1))) rfl ((step_resume rfl rfl rfl).trans (by kernel_rfl)) ?_
  refine Leads.step (m₁ := (st #[sg, a, b] 3 7 0 3 #[(some 0), (some 1), (some 1), (some 3), (some 3), none] 3 2 #[] none [fr .nextStart 5 0] 1 (some true) none (((((((s4.add 23).add 18).add 17).add 13).add 6).add 48).add 1))) rfl ((step_resume rfl rfl rfl).trans (by kernel_rfl)) ?_
  refine Leads.step (m₁ := (st #[sg, a, b] 3 5 0 3 #[(some 0), (some 1), (some 1), (some 3), (some 3), none] 3 2 #[] none [] 0 (some true) none (((((((s4.add 23).add 18).add 17).add 13).add 6).add 48).add 1))) rfl ((step_resume rfl rfl rfl).trans (by kernel_rfl)) ?_
  refine Leads.step (m₁ := (st #[sg, a, b] 3 5 0 3 #[(some 0), (some 1), (some 1), (some 3), (some 3), none] 3 2 #[] none [] 0 (some true) (some .matched) (((((((s4.add 23).add 18).add 17).add 13).add 6).add 48).add 1))) rfl ((step_end rfl rfl rfl).trans (by kernel_rfl)) ?_
  exact Leads.zero ⟨⟨_, rfl, rfl⟩, by kernel_rfl, by kernel_rfl⟩
end
section
open PySem PySem.W PyProof.Rows PySem.Sre PySem.Builtin.Re
set_option maxRecDepth 100000
section
variable {M : Model} {A : Around} {E : Value → Shared → Prop} {s : Shared}
theorem drive {Q : Sre.M → Shared → Prop} : ∀ {t n : Nat} {m r : Sre.M}, n < 4 * t → Runs n m r → r.outcome.isSome = true → Q r s → wpAny M A (reDrive t m) Q E s := by
  intro t
  induction t with
  | zero => intro n m r h; omega
  | succ t ih =>
    intro n m r hn hr hs hQ
    unfold reDrive
    simp only
    by_cases h : (m.runFor reTurnSteps).outcome.isSome = true
    · rw [if_pos h]
      have : m.runFor reTurnSteps = r := by
        rcases Nat.le_total n 4 with hle | hle
        · have e := hr.trans (k := 4 - n) (m₁ := r) (r := r) (Runs.stay hs)
          rw [show n + (4 - n) = 4 by omega] at e
          exact e
        · have e : Runs (n - 4) (m.runFor 4) (m.runFor 4) := Runs.stay h
          have f : Runs 4 m (m.runFor 4) := rfl
          have g := f.trans e
          rw [show 4 + (n - 4) = n by omega] at g
          exact g.symm.trans hr
      rw [this]; exact wpAny_pure hQ
    · rw [if_neg h]
      refine wpAny_bind (wpAny_rule ?_)
      have hlt : 4 < n := by
        apply Nat.lt_of_not_le; intro hle
        have e := hr.trans (k := 4 - n) (m₁ := r) (r := r) (Runs.stay hs)
        rw [show n + (4 - n) = 4 by omega] at e
        exact h (by rw [show m.runFor reTurnSteps = r from e]; exact hs)
      refine ih (n := n - 4) (m := m.runFor reTurnSteps) (r := r) (by omega) ?_ hs hQ
      have key : ∀ (a b : Nat) (m : Sre.M), (m.runFor a).runFor b = m.runFor (a + b) := fun a b m => (Runs.trans (n := a) (k := b) (m := m) rfl rfl).symm
      show (m.runFor 4).runFor (n - 4) = r
      rw [key, show 4 + (n - 4) = n by omega]; exact hr
theorem run_hit {Q : Option Sre.M → Shared → Prop} {n : Nat} {m r : Sre.M} (hn : n ≤ 1000000000) (hr : Runs n m r) (ho : ∃ q, r.outcome = some q ∧ (q matches .matched) = true) (h : Q (some r) s) : wpAny M A (reRunToEnd m) Q E s := by
  obtain ⟨q, hq, hm⟩ := ho
  have e : r.outcome = some .matched := by rw [hq]; cases q <;> simp at hm ⊢
  unfold reRunToEnd
  refine wpAny_bind (drive (n := n) (r := r) (by omega) hr (by rw [e]; rfl) ?_)
  refine wpAny_bind (wpAny_forIn_list _ (fun _ _ s' => s' = s) _ ?_ ?_ _ _ rfl)
  · rintro x rest b s' rfl
    by_cases hx : r.seen.has x = true
    · simp only [hx, if_true]; exact wpAny_bind (wpAny_rule (wpAny_pure rfl))
    · simp only [hx, Bool.false_eq_true, if_false]; exact wpAny_pure rfl
  · rintro b s' rfl
    rw [e]; exact wpAny_pure h
theorem run_miss {Q : Option Sre.M → Shared → Prop} {n : Nat} {m r : Sre.M} (hn : n ≤ 1000000000) (hr : Runs n m r) (ho : ∃ q, r.outcome = some q ∧ (q matches .failed) = true) (h : Q none s) : wpAny M A (reRunToEnd m) Q E s := by
  obtain ⟨q, hq, hm⟩ := ho
  have e : r.outcome = some .failed := by rw [hq]; cases q <;> simp at hm ⊢
  unfold reRunToEnd
  refine wpAny_bind (drive (n := n) (r := r) (by omega) hr (by rw [e]; rfl) ?_)
  refine wpAny_bind (wpAny_forIn_list _ (fun _ _ s' => s' = s) _ ?_ ?_ _ _ rfl)
  · rintro x rest b s' rfl
    by_cases hx : r.seen.has x = true
    · simp only [hx, if_true]; exact wpAny_bind (wpAny_rule (wpAny_pure rfl))
    · simp only [hx, Bool.false_eq_true, if_false]; exact wpAny_pure rfl
  · rintro b s' rfl
    rw [e]; exact wpAny_pure h
end
/-- a pattern lies at a -/
structure PatAt (h : Heap) (a : Addr) (code : Array Nat) (groups : Nat) : Prop where
  there : ∃ x t y t₂ b o o' vs n, h.get? a = some o ∧ o.cls = .type "re.Pattern" ∧ o.dict = none ∧ o.data = .fields #[.str x t, .int y t₂, rawInt groups, .none, .none, .ref b, rawInt 0] ∧ h.get? b = some o' ∧ o'.data = .seq vs n ∧ (vs.map reRawOf).map (·.toNat) = code
theorem PatAt.keep {h h' : Heap} {a : Addr} {code : Array Nat} {g : Nat} (k : ∀ b o, h.get? b = some o → h'.get? b = some o) (x : PatAt h a code g) : PatAt h' a code g :=
  ⟨(Exists.imp (fun _ => Exists.imp (fun _ => Exists.imp (fun _ => Exists.imp (fun _ => Exists.imp (fun _ => Exists.imp (fun _ => Exists.imp (fun _ => Exists.imp (fun _ => Exists.imp (fun _ => And.imp (k _ _) (And.imp id (And.imp id (And.imp id (And.imp (k _ _) id)))))))))))))) x.there⟩
theorem PatAt.elim {P : Prop} {h : Heap} {a : Addr} {code : Array Nat} {g : Nat} (x : PatAt h a code g) (K : ∀ (z : Str) (t : Tok) (y : Int) (t₂ : Tok) (b : Addr) (o o' : Obj) (vs : Array Value) (n : Nat), h.get? a = some o → o.cls = .type "re.Pattern" → o.dict = none → o.data = .fields #[.str z t, .int y t₂, rawInt g, .none, .none, .ref b, rawInt 0] → h.get? b = some o' → o'.data = .seq vs n → (vs.map reRawOf).map (·.toNat) = code → P) : P := by
  obtain ⟨z, t, y, t₂, b, o, o', vs, n, e, f, i, j, e', f', r⟩ := x.there
  exact K z t y t₂ b o o' vs n e f i j e' f' r
theorem wp_if {M : Model} {A : Around} {E : Value → Shared → Prop} {s : Shared} {c : Prop} [Decidable c] {α : Type} {x y : Sem α} {Q : α → Shared → Prop} (h : c) (k : wpAny M A x Q E s) : wpAny M A (if c then x else y) Q E s := by rw [if_pos h]; exact k
theorem wp_else {M : Model} {A : Around} {E : Value → Shared → Prop} {s : Shared} {c : Prop} [Decidable c] {α : Type} {x y : Sem α} {Q : α → Shared → Prop} (h : ¬ c) (k : wpAny M A y Q E s) : wpAny M A (if c then x else y) Q E s := by rw [if_neg h]; exact k
theorem wp_eq {M : Model} {A : Around} {E : Value → Shared → Prop} {s : Shared} {α : Type} {x y : Sem α} {Q : α → Shared → Prop} (e : x = y) (k : wpAny M A y Q E s) : wpAny M A x Q E s := e ▸ k
theorem slot_search : Slot "re.Pattern" "search" "re.Pattern.search" :=
  .of (owner := "re.Pattern") (n := "search") (by rw [typeLookup_type, builtinLookup_eq_fast]; kernel_rfl) (by decide +kernel) (by decide +kernel) (by decide +kernel)
    (by first | exact .inl (by decide +kernel) | exact .inr (by decide +kernel)) (by rw [isSubtype_type]; kernel_rfl)
theorem type_search : typeOf (.builtin "re.Pattern.search") = pure (.type "method_descriptor") := by show builtinType _ = _; rw [builtinType_eq_fast]; kernel_rfl
theorem entry_search : entryFor table "re.Pattern.search" = some Builtin.«re.Pattern.search» := entryFor_of_tree (by kernel_rfl)
theorem plain_pat : PlainAttrs "re.Pattern" :=
  ⟨⟨"object.__getattribute__", by rw [typeLookup_type, builtinLookup_eq_fast]; kernel_rfl, by decide +kernel⟩, by rw [typeLookup_type, builtinLookup_eq_fast]; kernel_rfl⟩
end
section
open PySem PySem.W PyProof.Rows PySem.Sre PySem.Builtin.Re
set_option maxRecDepth 100000
theorem owner_pat : Manifest.owners.lookup (String.ofList ['n', 'r', 'e', 't', 't', 'a', 'P', '.', 'e', 'r'].reverse) = some Manifest.sig_re_Pattern := by kernel_rfl
theorem args_search (a b : Value) : argsOk "re.Pattern.search" ⟨[a, b], []⟩ := by
  unfold argsOk; rw [signature?_of (id := "re.Pattern.search") (n := ['h', 'c', 'r', 'a', 'e', 's']) (o := ['n', 'r', 'e', 't', 't', 'a', 'P', '.', 'e', 'r']) (by kernel_rfl) owner_pat]; kernel_rfl
theorem text_str (x : Str) (t : Tok) : reTextOf (.str x t) = pure (x.cps, 0) := rfl
theorem named_search (v : Value) : reNamed "re.Pattern.search" "search" ["string", "pos", "endpos"] 1 [v] [] = pure [some v, none, none] := by rfl
section
variable {prog : Program} {w : World} {A : Around} {E : Value → Shared → Prop} {s : Shared} {Q : Value → Shared → Prop} {p : Addr} {x : Str} {t : Tok} {code : Array Nat} {g : Nat}
theorem t_eq {R : ReTarget → Shared → Prop} {pat str : Value} {c c' txt : Array Nat} {k n n' a a' b b' : Nat} (e1 : c = c') (e2 : n = n') (e3 : a = a') (e4 : b = b') (h : R { pattern := pat, string := str, code := c', text := txt, kind := k, groups := n', pos := a', lim := b' } s) : R { pattern := pat, string := str, code := c, text := txt, kind := k, groups := n, pos := a, lim := b } s := by subst e1 e2 e3 e4; exact h
theorem call_search (hz : x.cps.size ≤ 4294967295) (P : PatAt s.heap p code g) (h : wpAny (model prog w) A.in1 (reAnswer { pattern := .ref p, string := .str x t, code, text := x.cps, kind := 0, groups := g, pos := 0, lim := x.cps.size } (forSearch code x.cps g 0 x.cps.size false)) (fun fin s' => ∃ v, fin = .done (.ret v) ∧ Q v s') E s) :
    wpAny (model prog w) A (call (.builtin "re.Pattern.search") [.ref p, .str x t]) Q E s := by
  refine P.elim fun px pt y t₂ b o o' vs n ho hc hod hd ho' hd' hcode => ?_
  refine call_meetsIn (S := fun A R s => s.heap.get? p = some o ∧ s.heap.get? b = some o' ∧ wpAny (model prog w) A.in1 (reAnswer { pattern := .ref p, string := .str x t, code := code, text := x.cps, kind := 0, groups := g, pos := 0, lim := x.cps.size } (forSearch (code) x.cps g 0 x.cps.size false)) (fun fin s' => ∃ v, fin = .done (.ret v) ∧ R (.ok (.ret v)) s') (fun e s' => R (.error e) s') s) slot_search ⟨o, ho, hc⟩ entry_search (args_search _ _) ?_ ⟨ho, ho', h⟩
  refine MeetsIn.of_wp fun A R s hs => ?_
  obtain ⟨ho, ho', h⟩ := hs
  refine wpAny_bind (m := reTarget "re.Pattern.search" "search" ⟨[.ref p, .str x t], []⟩) ?_
  refine wpAny_bind (m := reNamed "re.Pattern.search" "search" ["string", "pos", "endpos"] 1 [.str x t] []) (wp_eq (named_search _) (wpAny_pure ?_))
  refine wpAny_bind (m := pure (0 : Int)) (wpAny_pure ?_)
  refine wpAny_bind (m := pure (2 ^ 63 - 1 : Int)) (wpAny_pure ?_)
  refine wpAny_bind (m := fieldsOf (.ref p)) (wpAny_fieldsOf ho hd ?_)
  refine wpAny_bind (m := pure (x.cps, 0)) (wpAny_pure ?_)
  refine wp_else (by exact Bool.false_ne_true) (wp_else (by exact Bool.false_ne_true) ?_)
  refine wpAny_bind (m := pure ()) (wpAny_pure ?_)
  refine wpAny_bind (m := reRawItems (.ref b)) (wpAny_bind (wpAny_seqItems ho' hd' (wpAny_pure ?_)))
  exact wpAny_pure (t_eq (R := fun tg s => wpAny (model prog w) A.in1 (reAnswer tg (forSearch tg.code tg.text tg.groups tg.pos tg.lim false)) _ _ s) hcode (Int.toNat_natCast g) (Nat.zero_min _) (Nat.min_eq_right (Nat.le_trans hz (by decide : 4294967295 ≤ (2 ^ 63 - 1 : Int).toNat))) h)
end
end
section
open PySem PySem.W PyProof.Rows PySem.Sre PySem.Builtin.Re
set_option maxRecDepth 100000
section
variable {M : Model} {A : Around} {E : Value → Shared → Prop} {s : Shared} {Q : Value → Shared → Prop}
theorem spans_raw (m : Sre.M) (g : Nat) : (rawInt m.start :: rawInt m.handed :: (List.range g).flatMap fun g =>
    match if ((2 * g + 1 : Nat) : Int) ≤ m.lastmark then (m.marks.getD (2 * g) none, m.marks.getD (2 * g + 1) none) else (none, none) with
    | (some b, some e) => [rawInt b, rawInt e]
    | _ => [rawInt (-1), rawInt (-1)]) = (spansOf m g).map rawInt := by
  unfold spansOf
  rw [List.map_cons, List.map_cons, List.map_flatMap]
  congr 2
  congr 1
  funext g
  generalize (if ((2 * g + 1 : Nat) : Int) ≤ m.lastmark then (m.marks.getD (2 * g) none, m.marks.getD (2 * g + 1) none) else (none, none)) = z
  rcases z with ⟨_ | b, _ | e⟩ <;> rfl
theorem newTuple_eq {items items' : List Value} (e : items = items') (h : Q (.ref s.heap.objs.size) { s with heap := s.heap.push { cls := .type "tuple", data := .seq items'.toArray } }) (hsz : items'.length ≤ sizeLine) : wpAny M A (newTuple items) Q E s := by
  subst e; exact wpAny_newTuple h hsz
theorem newMatch {g pos lim : Nat} {m : Sre.M} {sp : List Int} {pv : Value} {x : Str} {t : Tok} (hf : Found g sp m) (hs : sp.length ≤ sizeLine)
    (h : ∀ h' a b, h' = (s.heap.push { cls := .type "tuple", data := .seq (sp.map rawInt).toArray }).push { cls := .type "re.Match", data := .fields #[.str x t, pv, rawInt pos, rawInt lim, rawInt m.lastindex, .ref b] } → b = s.heap.objs.size → a = s.heap.objs.size + 1 → Q (.ref a) { s with heap := h' }) :
    wpAny M A (reNewMatch pv (.str x t) g pos lim m) Q E s := by
  obtain ⟨_, hsp, hall⟩ := hf
  unfold reNewMatch
  simp only
  rw [if_neg (by
    rw [List.any_eq_true]
    rintro ⟨k, hk, hh⟩
    rw [List.all_eq_true] at hall
    have := hall k hk
    split at hh
    · rename_i b e h1 h2
      rw [h1, h2] at this
      simp only at this
      simp only [Bool.not_eq_true', hh] at this
      cases this
    · cases hh)]
  refine wpAny_bind ?_
  refine newTuple_eq (items' := sp.map rawInt) ((spans_raw m g).trans (by rw [hsp])) ?_ (by rw [List.length_map]; exact hs)
  unfold newFields
  refine wpAny_newObj_type ?_
  exact h _ _ _ rfl rfl (by rw [Heap.size_push])
end
/-- a search that hits -/
theorem Con.search {prog : Program} {w : World} {A : Around} {g : Heap} {X : List Addr} {p : Addr} {x : Str} {code : Array Nat} {n gr : Nat} {sp : List Int} (hz : x.cps.size ≤ 4294967295) (P : PatAt g p code gr) (hn : n ≤ 1000000000)
    (hl : Leads n (forSearch code x.cps gr 0 x.cps.size false) (Found gr sp)) (hs : sp.length ≤ sizeLine) : Con prog w A g X (.builtin "re.Pattern.search") [.fix (.ref p), .str x] (.mat x sp) := by
  constructor; intro s E vs hg wf r
  cases r using RL.e_cons with
  | cons q r =>
    (first | cases q using RV.e_fix | cases q using RV.e_cell | cases q using RV.e_none | cases q using RV.e_int | cases q using RV.e_str | cases q using RV.e_lst | cases q using RV.e_tup | cases q using RV.e_mat | cases q using RV.e_bool | cases q using RL.e_nil)
    cases r using RL.e_cons with
    | cons q r =>
      cases r using RL.e_nil
      cases q using RV.e_str with
      | str t =>
        obtain ⟨k, m, hk, hr, hf⟩ := hl
        refine call_search hz (P.keep hg) ?_
        unfold reAnswer
        refine wpAny_bind (run_hit (Nat.le_trans hk hn) hr hf.1 ?_)
        refine wpAny_bind (newMatch hf hs ?_)
        rintro h' a b rfl rfl rfl
        refine wpAny_pure ⟨_, rfl, Kp.trans (s₂ := { s with heap := s.heap.push { cls := .type "tuple", data := .seq (sp.map rawInt).toArray } }) .push .push, ?_⟩
        have n1 : s.heap.objs.size ∉ X := fresh_not wf
        have n2 : s.heap.objs.size + 1 ∉ X := fun hm => by obtain ⟨o, ho⟩ := wf _ hm; exact absurd (Heap.lt_size ho) (Nat.not_lt.mpr (Nat.le_succ _))
        exact RV.mat (b := s.heap.objs.size) n2 n1 (Heap.get?_push_at (by rw [Heap.size_push]) rfl) (Heap.get?_push_of_some _ (Heap.get?_push_size _ rfl))
/-- a search that finds nothing -/
theorem Con.searchNo {prog : Program} {w : World} {A : Around} {g : Heap} {X : List Addr} {p : Addr} {x : Str} {code : Array Nat} {n gr : Nat} (hz : x.cps.size ≤ 4294967295) (P : PatAt g p code gr) (hn : n ≤ 1000000000)
    (hl : Leads n (forSearch code x.cps gr 0 x.cps.size false) (fun r => ∃ q, r.outcome = some q ∧ (q matches .failed) = true)) : Con prog w A g X (.builtin "re.Pattern.search") [.fix (.ref p), .str x] .none := by
  constructor; intro s E vs hg wf r
  cases r using RL.e_cons with
  | cons q r =>
    (first | cases q using RV.e_fix | cases q using RV.e_cell | cases q using RV.e_none | cases q using RV.e_int | cases q using RV.e_str | cases q using RV.e_lst | cases q using RV.e_tup | cases q using RV.e_mat | cases q using RV.e_bool | cases q using RL.e_nil)
    cases r using RL.e_cons with
    | cons q r =>
      cases r using RL.e_nil
      cases q using RV.e_str with
      | str t =>
        obtain ⟨k, m, hk, hr, hf⟩ := hl
        refine call_search hz (P.keep hg) ?_
        unfold reAnswer
        exact wpAny_bind (run_miss (Nat.le_trans hk hn) hr hf (wpAny_pure ⟨_, rfl, .refl, .none⟩))
end
section
open PySem PySem.W PyProof.Rows PySem.Sre PySem.Builtin.Re
set_option maxRecDepth 100000
theorem owner_mat : Manifest.owners.lookup (String.ofList ['h', 'c', 't', 'a', 'M', '.', 'e', 'r'].reverse) = some Manifest.sig_re_Match := by kernel_rfl
theorem plain_mat : PlainAttrs "re.Match" :=
  ⟨⟨"object.__getattribute__", by rw [typeLookup_type, builtinLookup_eq_fast]; kernel_rfl, by decide +kernel⟩, by rw [typeLookup_type, builtinLookup_eq_fast]; kernel_rfl⟩
theorem slot_group : Slot "re.Match" "group" "re.Match.group" :=
  .of (owner := "re.Match") (n := "group") (by rw [typeLookup_type, builtinLookup_eq_fast]; kernel_rfl) (by decide +kernel) (by decide +kernel) (by decide +kernel)
    (by first | exact .inl (by decide +kernel) | exact .inr (by decide +kernel)) (by rw [isSubtype_type]; kernel_rfl)
theorem type_group : typeOf (.builtin "re.Match.group") = pure (.type "method_descriptor") := by show builtinType _ = _; rw [builtinType_eq_fast]; kernel_rfl
theorem entry_group : entryFor table "re.Match.group" = some Builtin.«re.Match.group» := entryFor_of_tree (by kernel_rfl)
theorem args_group (a b : Value) : argsOk "re.Match.group" ⟨[a, b], []⟩ := by
  unfold argsOk; rw [signature?_of (id := "re.Match.group") (n := ['p', 'u', 'o', 'r', 'g']) (o := ['h', 'c', 't', 'a', 'M', '.', 'e', 'r']) (by kernel_rfl) owner_mat]; kernel_rfl
theorem slot_span : Slot "re.Match" "span" "re.Match.span" :=
  .of (owner := "re.Match") (n := "span") (by rw [typeLookup_type, builtinLookup_eq_fast]; kernel_rfl) (by decide +kernel) (by decide +kernel) (by decide +kernel)
    (by first | exact .inl (by decide +kernel) | exact .inr (by decide +kernel)) (by rw [isSubtype_type]; kernel_rfl)
theorem type_span : typeOf (.builtin "re.Match.span") = pure (.type "method_descriptor") := by show builtinType _ = _; rw [builtinType_eq_fast]; kernel_rfl
theorem entry_span : entryFor table "re.Match.span" = some Builtin.«re.Match.span» := entryFor_of_tree (by kernel_rfl)
theorem args_span (a b : Value) : argsOk "re.Match.span" ⟨[a, b], []⟩ := by
  unfold argsOk; rw [signature?_of (id := "re.Match.span") (n := ['n', 'a', 'p', 's']) (o := ['h', 'c', 't', 'a', 'M', '.', 'e', 'r']) (by kernel_rfl) owner_mat]; kernel_rfl
section
variable {prog : Program} {w : World} {A : Around} {E : Value → Shared → Prop} {s : Shared} {W : List Addr} {v : Value} {x : Str} {sp : List Int}
theorem raws (sp : List Int) : ((sp.map rawInt).toArray.map reRawOf) = sp.toArray := by
  simp [reRawOf, rawInt, Function.comp_def]
theorem found_mat {Q : ReFound → Shared → Prop} {M : Model} {a b : Addr} {o : Obj} {vs : Array Value} {n : Nat} (e : s.heap.get? a = some o) (hd : o.data = .fields vs) (hb : vs.getD 5 .none = .ref b) (f : s.heap.get? b = some { cls := .type "tuple", data := .seq (sp.map rawInt).toArray n })
    (h : Q ⟨vs, sp.toArray⟩ s) : wpAny M A (reFound (.ref a)) Q E s := by
  unfold reFound
  refine wpAny_bind (wpAny_fieldsOf e hd ?_)
  refine wpAny_bind ?_
  rw [hb]
  unfold reRawItems
  refine wpAny_bind (wpAny_seqItems f rfl (wpAny_pure ?_))
  simp only [Option.getD_some]
  rw [raws]
  exact wpAny_pure h
theorem group_no {Q : Nat → Shared → Prop} {M : Model} {X : ReFound} {k : Nat} {t : Tok} (hk : 2 * k < X.spans.size) (h : Q k s) : wpAny M A (reGroupNumber X (.int k t)) Q E s := by
  unfold reGroupNumber
  refine wpAny_bind (show wpAny _ _ (pure (some (k : Int))) _ _ _ from wpAny_pure ?_)
  simp only [Option.isSome_some, if_true]
  refine wpAny_bind (show wpAny _ _ (pure (k : Int)) _ _ _ from wpAny_pure ?_)
  rw [if_neg (by simp; omega)]
  exact wpAny_pure (by rw [Int.toNat_natCast]; exact h)
theorem group_text {Q : Value → Shared → Prop} {M : Model} {X : ReFound} {k : Nat} {b e : Nat} {t : Tok} {dflt : Value} (h0 : X.fields.getD 0 .none = .str x t) (hb : X.spans.getD (2 * k) (-1) = (b : Int)) (he : X.spans.getD (2 * k + 1) (-1) = (e : Int))
    (hz : x.length ≤ sizeLine) (h : Q (.str ⟨x.cps.extract b e⟩ s.toks) { s with toks := s.toks + 1 }) : wpAny M A (reGroupText X k dflt) Q E s := by
  unfold reGroupText
  simp only [hb, he]
  rw [if_neg (by simp)]
  refine wpAny_bind ?_
  rw [h0, text_str]
  refine wpAny_pure ?_
  unfold reSlice
  refine wpAny_mkStr ?_ ?_
  · rw [Int.toNat_natCast, Int.toNat_natCast]; exact h
  · refine Nat.le_trans ?_ hz
    show (x.cps.extract _ _).size ≤ x.cps.size
    rw [Array.size_extract]; omega
theorem group_gone {Q : Value → Shared → Prop} {M : Model} {X : ReFound} {k : Nat} {dflt : Value} (hb : X.spans.getD (2 * k) (-1) = -1) (h : Q dflt s) : wpAny M A (reGroupText X k dflt) Q E s := by
  unfold reGroupText
  simp only [hb]
  rw [if_pos (by simp)]
  exact wpAny_pure h
end
/-- the part that a group holds -/
noncomputable def cutS (x : Str) (b e : Nat) : Str := ⟨x.cps.extract b e⟩
theorem getD_some {sp : List Int} {i : Nat} {y : Int} (h : sp[i]? = some y) : sp.toArray.getD i (-1) = y := by
  rw [Array.getD_eq_getD_getElem?]; simp [h]
section
variable {prog : Program} {w : World} {A : Around} {g : Heap} {X : List Addr} {x : Str} {sp : List Int} {k b e : Nat}
theorem Con.group (hb : sp[2 * k]? = some (b : Int)) (he : sp[2 * k + 1]? = some (e : Int)) (hz : x.length ≤ sizeLine) : Con prog w A g X (.builtin "re.Match.group") [.mat x sp, .int k] (.str (cutS x b e)) := by
  constructor; intro s E vs hg wf r
  cases r using RL.e_cons with
  | cons q r =>
    cases r using RL.e_cons with
    | cons q' r =>
      cases r using RL.e_nil
      cases q' using RV.e_int with
      | int t =>
        cases q using RV.e_mat with
        | mat na nb ea eb =>
          rename_i a' b' t' p v1 v2 v3 n
          refine call_meetsIn (S := fun A R s => s.heap.get? a' = some { cls := .type "re.Match", data := .fields #[.str x t', p, v1, v2, v3, .ref b'] } ∧ s.heap.get? b' = some { cls := .type "tuple", data := .seq (sp.map rawInt).toArray n } ∧ R (.ok (.ret (.str (cutS x b e) s.toks))) { s with toks := s.toks + 1 }) slot_group ⟨_, ea, rfl⟩ entry_group (args_group _ _) ?_ ⟨ea, eb, .toks, .str _ _⟩
          refine MeetsIn.of_wp fun A R s hs => ?_
          obtain ⟨ea, eb, h⟩ := hs
          unfold Builtin.«re.Match.group»
          refine wpAny_bind (wpAny_pure ?_)
          refine wpAny_bind (found_mat ea rfl rfl eb ?_)
          have hsz : 2 * k < sp.length := by
            apply Nat.lt_of_not_le; intro q; rw [List.getElem?_eq_none q] at hb; cases hb
          refine wpAny_bind (group_no (by simpa using hsz) ?_)
          refine wpAny_bind (group_text (b := b) (e := e) (x := x) (t := t') rfl (getD_some hb) (getD_some he) hz ?_)
          exact wpAny_pure ⟨_, rfl, h⟩
theorem Con.groupNo (hb : sp[2 * k]? = some (-1)) : Con prog w A g X (.builtin "re.Match.group") [.mat x sp, .int k] .none := by
  constructor; intro s E vs hg wf r
  cases r using RL.e_cons with
  | cons q r =>
    cases r using RL.e_cons with
    | cons q' r =>
      cases r using RL.e_nil
      cases q' using RV.e_int with
      | int t =>
        cases q using RV.e_mat with
        | mat na nb ea eb =>
          rename_i a' b' t' p v1 v2 v3 n
          refine call_meetsIn (S := fun A R s => s.heap.get? a' = some { cls := .type "re.Match", data := .fields #[.str x t', p, v1, v2, v3, .ref b'] } ∧ s.heap.get? b' = some { cls := .type "tuple", data := .seq (sp.map rawInt).toArray n } ∧ R (.ok (.ret .none)) s) slot_group ⟨_, ea, rfl⟩ entry_group (args_group _ _) ?_ ⟨ea, eb, .refl, .none⟩
          refine MeetsIn.of_wp fun A R s hs => ?_
          obtain ⟨ea, eb, h⟩ := hs
          unfold Builtin.«re.Match.group»
          refine wpAny_bind (wpAny_pure ?_)
          refine wpAny_bind (found_mat ea rfl rfl eb ?_)
          have hsz : 2 * k < sp.length := by
            apply Nat.lt_of_not_le; intro q; rw [List.getElem?_eq_none q] at hb; cases hb
          refine wpAny_bind (group_no (by simpa using hsz) ?_)
          refine wpAny_bind (group_gone (getD_some hb) ?_)
          exact wpAny_pure ⟨_, rfl, h⟩
theorem Con.span {b e : Int} (hb : sp[0]? = some b) (he : sp[1]? = some e) : Con prog w A g X (.builtin "re.Match.span") [.mat x sp, .int 0] (.tup [.int b, .int e]) := by
  constructor; intro s E vs hg wf r
  cases r using RL.e_cons with
  | cons q r =>
    cases r using RL.e_cons with
    | cons q' r =>
      cases r using RL.e_nil
      cases q' using RV.e_int with
      | int t =>
        cases q using RV.e_mat with
        | mat na nb ea eb =>
          rename_i a' b' t' p v1 v2 v3 n
          refine call_meetsIn (S := fun A R s => s.heap.get? a' = some { cls := .type "re.Match", data := .fields #[.str x t', p, v1, v2, v3, .ref b'] } ∧ s.heap.get? b' = some { cls := .type "tuple", data := .seq (sp.map rawInt).toArray n } ∧ R (.ok (.ret (.ref s.heap.objs.size))) { s with heap := s.heap.push { cls := .type "tuple", data := .seq #[.int b s.toks, .int e (s.toks + 1)] }, toks := s.toks + 1 + 1 }) slot_span ⟨_, ea, rfl⟩ entry_span (args_span _ _) ?_ ⟨ea, eb, ⟨_, _, rfl, fun _ _ z => Heap.get?_push_of_some _ z⟩, .tup (n := 0) (fresh_not wf) (Heap.get?_push_size _ rfl) (.cons (.int _ _) (.cons (.int _ _) .nil))⟩
          refine MeetsIn.of_wp fun A R s hs => ?_
          obtain ⟨ea, eb, h⟩ := hs
          have hsz : 0 < sp.length := by
            apply Nat.lt_of_not_le; intro q; rw [List.getElem?_eq_none q] at hb; cases hb
          unfold Builtin.«re.Match.span» reOneGroup
          refine wpAny_bind ?_
          refine wpAny_bind ?_
          unfold selfAndSome
          refine wpAny_bind (wpAny_pure ?_)
          refine wpAny_bind ?_
          show wpAny _ _ (pure ()) _ _ _
          refine wpAny_pure (wpAny_pure ?_)
          refine wpAny_bind (found_mat ea rfl rfl eb ?_)
          refine wpAny_bind (group_no (k := 0) (by simpa using hsz) ?_)
          refine wpAny_pure ?_
          simp only [Nat.mul_zero, Nat.zero_add, getD_some hb, getD_some he]
          refine wpAny_bind (wpAny_mkInt ?_)
          refine wpAny_bind (wpAny_mkInt ?_)
          refine wpAny_bind (wpAny_newTuple ?_)
          exact wpAny_pure ⟨_, rfl, h⟩
end
end
section
open PySem PySem.W PyProof.Rows PySem.Sre PySem.Builtin.Re
set_option maxRecDepth 100000
theorem ga_mat : Slot "re.Match" "__getattribute__" "object.__getattribute__" :=
  .of (owner := "object") (n := "__getattribute__") (by rw [typeLookup_type, builtinLookup_eq_fast]; kernel_rfl) (by decide +kernel) (by decide +kernel) (by decide +kernel)
    (by first | exact .inl (by decide +kernel) | exact .inr (by decide +kernel)) (by rw [isSubtype_type]; kernel_rfl)
theorem look_string : typeLookup (.type "re.Match") "string" = pure (some (.builtin "re.Match.string")) := by rw [typeLookup_type, builtinLookup_eq_fast]; kernel_rfl
theorem sub_mat : isSubtype (.type "re.Match") (.type "re.Match") = pure true := by rw [isSubtype_type]; kernel_rfl
theorem type_string : typeOf (.builtin "re.Match.string") = pure (.type "member_descriptor") := by show builtinType _ = _; rw [builtinType_eq_fast]; kernel_rfl
theorem entry_string : entryFor table "re.Match.string" = some Builtin.«re.Match.string» := entryFor_of_tree (by kernel_rfl)
theorem entry_ga : entryFor table "object.__getattribute__" = some Builtin.«object.__getattribute__» := entryFor_of_tree (by kernel_rfl)
theorem args_ga (a b : Value) : argsOk "object.__getattribute__" ⟨[a, b], []⟩ := by unfold argsOk; kernel_rfl
theorem owner_string : (".".intercalate ("re.Match.string".cutAt '.').dropLast) = "re.Match" := by
  have e0 : "re.Match.string".cutAt '.' = ["re", "Match", "string"] := by first | rfl | decide +kernel
  rw [e0]; decide +kernel
section
variable {prog : Program} {w : World} {A : Around} {E : Value → Shared → Prop} {h : Heap} {g : Array GenState} {d : Drawn} {t : Nat} {os : OsState} {a : Addr} {o : Obj} {vs : Array Value} {x : Str} {xt : Tok}
theorem string_get {R : Result → Shared → Prop} (hx : h.get? a = some o) (hc : o.cls = .type "re.Match") (hd : o.data = .fields vs) (h0 : vs[0]? = some (.str x xt)) (hq : R (.ok (.ret (.str x xt))) ⟨h, g, d, t, os⟩) :
    codeAny (model prog w) A (.call (.builtin "member_descriptor.__get__") ⟨[.builtin "re.Match.string", .ref a, .type "re.Match"], []⟩) R ⟨h, g, d, t, os⟩ := by
  have hT : (⟨h, g, d, t, os⟩ : Shared).TypeIs (.ref a) "re.Match" := ⟨_, hx, hc⟩
  have hT5 : (⟨h, g, d, t, os⟩ : Shared).TypeIs (.builtin "re.Match.string") "member_descriptor" := type_string
  have f8 : isSubtype (.type "re.Match") (.type (".".intercalate ("re.Match.string".cutAt '.').dropLast)) = pure true := by rw [owner_string]; exact sub_mat
  have hnd : (Value.str x xt == doubtfulMember) = false := by simp [doubtfulMember, rawInt]
  refine codeAny_call_builtin KF.slot_mem.plain KF.entry_mem (KF.slot_mem.check _ _ _ _ _ _ _ _ hT5 (KF.args_mem _ _ _) ?_)
  repeat (any_goals (first | assumption | wp_step))
  refine ⟨Code.quiet_builtin _ (by decide +kernel), codeAny_builtin entry_string ?_⟩
  unfold Builtin.«re.Match.string»
  refine wpAny_bind (wpAny_field (a := a) hx hd h0 ?_)
  repeat (any_goals (first | assumption | wp_step))
theorem string_entry {tk : Tok} {Q : Fin → Shared → Prop} (hx : h.get? a = some o) (hc : o.cls = .type "re.Match") (hd : o.data = .fields vs) (h0 : vs[0]? = some (.str x xt)) (hq : Q (.done (.ret (.str x xt))) ⟨h, g, d, t, os⟩) :
    wpAny (model prog w) A (Builtin.«object.__getattribute__» ⟨[.ref a, .str "string" tk], []⟩) Q E ⟨h, g, d, t, os⟩ := by
  have hT : (⟨h, g, d, t, os⟩ : Shared).TypeIs (.ref a) "re.Match" := ⟨_, hx, hc⟩
  have hT5 : (⟨h, g, d, t, os⟩ : Shared).TypeIs (.builtin "re.Match.string") "member_descriptor" := type_string
  have f4 := look_string
  have f5 := type_string
  have f6 := KF.slot_mem.lookup
  have f7 := KF.slot_mset.lookup
  repeat (any_goals (first | assumption | wp_step))
  refine string_get hx hc hd h0 ?_
  repeat (any_goals (first | assumption | wp_step))
theorem string_call {tk : Tok} {R : Result → Shared → Prop} (hx : h.get? a = some o) (hc : o.cls = .type "re.Match") (hd : o.data = .fields vs) (h0 : vs[0]? = some (.str x xt)) (hq : R (.ok (.ret (.str x xt))) ⟨h, g, d, t, os⟩) :
    codeAny (model prog w) A (.call (.builtin "object.__getattribute__") ⟨[.ref a, .str "string" tk], []⟩) R ⟨h, g, d, t, os⟩ :=
  codeAny_call_builtin ga_mat.plain entry_ga (ga_mat.check _ _ _ _ _ _ _ _ (show (⟨h, g, d, t, os⟩ : Shared).TypeIs (.ref a) "re.Match" from ⟨_, hx, hc⟩) (args_ga _ _) (string_entry hx hc hd h0 hq))
theorem string_by {tk : Tok} {fill expr : Bool} {Q : Value → Shared → Prop} (hx : h.get? a = some o) (hc : o.cls = .type "re.Match") (hd : o.data = .fields vs) (h0 : vs[0]? = some (.str x xt))
    (hq : Q (.str x xt) ⟨h, g, d, t, os⟩) : wpAny (model prog w) A (getAttrBy (.ref a) (.str "string" tk) fill expr) Q E ⟨h, g, d, t, os⟩ := by
  have hT : (⟨h, g, d, t, os⟩ : Shared).TypeIs (.ref a) "re.Match" := ⟨_, hx, hc⟩
  have f2 := ga_mat.lookup
  have f3 := ga_mat.bind (.ref a)
  have hx0 : (expr && onTheHeap (Value.builtin "object.__getattribute__")) = false := by cases expr <;> rfl
  repeat (any_goals (first | assumption | wp_step))
  refine string_call hx hc hd h0 ?_
  repeat (any_goals (first | assumption | wp_step))
theorem string_attr {expr : Bool} {Q : Value → Shared → Prop} (hx : h.get? a = some o) (hc : o.cls = .type "re.Match") (hd : o.data = .fields vs) (h0 : vs[0]? = some (.str x xt))
    (hq : Q (.str x xt) ⟨h, g, d, t + 1, os⟩) : wpAny (model prog w) A (getAttr (.ref a) "string" expr) Q E ⟨h, g, d, t, os⟩ := by
  unfold getAttr
  repeat (any_goals (first | assumption | with_reducible apply string_by hx hc hd h0 | wp_step))
end
theorem Ev.string {c : Cx} {L : List (Str × D)} {O : List (Addr × List D)} {e : Expr} {x : Str} {sp : List Int} {pos : Pos} (he : Ev c L O e (.mat x sp))
    (hb : eval (.Attribute e "string" pos) c.env = (do
      let o ← eval e c.env
      standAt pos.atName
      let r ← holding [o] (getAttr o "string" true)
      letTemporaryGo e o r
      pure r) := by with_unfolding_all rfl) : Ev c L O (.Attribute e "string" pos) (.str x) := by
  constructor; intro s E S
  refine Attribute_any_ (wpAny_mono (he.run s E S) (fun v s₁ h₁ => ?_) fun _ _ e => e) hb
  obtain ⟨k, r⟩ := h₁
  cases r using RV.e_mat with
  | mat na nb ea eb =>
    obtain ⟨hp, g, d, t, os⟩ := s₁
    exact string_attr ea rfl rfl rfl ⟨k.trans .toks, .str _ _⟩
end
section
open PySem PySem.W PyProof.Rows PySem.Sre PySem.Builtin.Re PySem.Builtin.Str
set_option maxRecDepth 100000
/-- one behind the other -/
noncomputable def cats (l : List Str) : Str := ⟨(l.flatMap (·.cps.toList)).toArray⟩
theorem cats_cons (x : Str) (l : List Str) : cats (x :: l) = x ++ cats l := by
  apply Str.ext'
  show _ = x.cps ++ (cats l).cps
  simp [cats]
theorem cats_len (l : List Str) : (cats l).length = (l.map (·.length)).sum := by
  induction l with
  | nil => rfl
  | cons x l ih => rw [cats_cons, len_add, ih]; rfl
theorem glued_nil (sep : Str) (hs : sep.cps = #[]) : ∀ l : List Str, glued sep l = cats l := by
  intro l
  cases l with
  | nil => rfl
  | cons x l =>
    have key : ∀ (l : List Str) (acc : Array Nat), l.foldl (fun acc p => acc ++ sep.cps ++ p.cps) acc = acc ++ (cats l).cps := by
      intro l
      induction l with
      | nil => intro acc; simp [cats]
      | cons y l ih =>
        intro acc
        rw [List.foldl_cons, ih, hs, cats_cons]
        show _ = acc ++ (y.cps ++ (cats l).cps)
        simp
    unfold glued
    rw [cats_cons]
    apply Str.ext'
    show (l.foldl _ x.cps) = x.cps ++ (cats l).cps
    exact key l x.cps
noncomputable def strD (l : List Str) : List D := l.map .str
theorem RL.strs {h : Heap} {X : List Addr} {vs : List Value} {l : List Str} (r : RL h X vs (strD l)) : ∃ q : List (Str × Tok), vs = strValues q ∧ q.map (·.1) = l := by
  induction l generalizing vs with
  | nil => cases r; exact ⟨[], rfl, rfl⟩
  | cons x l ih =>
    cases r using RL.e_cons with
    | cons a r =>
      cases a using RV.e_str with
      | str t =>
        obtain ⟨q, rfl, e⟩ := ih r
        exact ⟨(x, t) :: q, rfl, by simp [e]⟩
section
variable {prog : Program} {w : World} {A : Around} {E : Value → Shared → Prop} {s : Shared} {Q : Value → Shared → Prop}
theorem call_join {sep : Str} {t : Tok} {a : Addr} {q : List (Str × Tok)} (hs : sep.cps = #[]) (hl : s.heap.IsList a (strValues q).toArray) (hz : (cats (q.map (·.1))).length ≤ sizeLine)
    (h : ∀ t s', Kp s s' → Q (.str (cats (q.map (·.1))) t) s') : wpAny (model prog w) A (call (.builtin "str.join") [.str sep t, .ref a]) Q E s := by
  refine call_meets F.slot_str_join rfl F.entry_str_join (F.args_str_join_2 _ _) (meets_str_join_list sep t a q ?_) ⟨hl, ?_⟩
  · rw [StrLaws.joinTotal, show sep.length = 0 from by show sep.cps.size = 0; rw [hs]; rfl, Nat.mul_zero, Nat.add_zero, ← cats_len]
    unfold tooLong
    exact decide_eq_false (Nat.not_lt.mpr hz)
  · unfold joinMade
    split
    · rename_i p
      show Q _ _
      have : cats ([p].map (·.1)) = p.1 := by rw [List.map_cons, List.map_nil, cats_cons]; exact Str.append_empty p.1
      rw [this] at h
      exact h _ _ .refl
    · rw [glued_nil sep hs]
      exact ⟨hz, h _ _ .toks⟩
theorem Con.join {g : Heap} {X : List Addr} {sep : Str} {l : List Str} (hs : sep.cps = #[]) (hz : (cats l).length ≤ sizeLine) : Con prog w A g X (.builtin "str.join") [.str sep, .lst (strD l)] (.str (cats l)) := by
  constructor; intro s E vs hg wf r
  cases r using RL.e_cons with
  | cons q r =>
    cases r using RL.e_cons with
    | cons q' r =>
      cases r using RL.e_nil
      cases q using RV.e_str with
      | str t =>
        cases q' using RV.e_lst with
        | lst na ea qa =>
          obtain ⟨q, hq, e⟩ := qa.strs
          subst e
          refine call_join (q := q) hs ⟨_, ea, rfl, _, by rw [← hq]⟩ hz fun t s' k => ⟨k, .str _ _⟩
end
end
section
open PySem PySem.W PyProof.Rows PySem.Sre PySem.Builtin.Re PySem.Builtin.Str
set_option maxRecDepth 100000
theorem arr_getD (l : List Nat) (i : Nat) : l.toArray.getD i 0 = l.getD i 0 := by simp [Array.getD_eq_getD_getElem?, List.getD_eq_getElem?_getD]
/-- a line end -/
noncomputable def eol (k : Nat) : List Nat := if k = 0 then [10] else if k = 1 then [13] else [13, 10]
/-- lines with their ends -/
noncomputable def lines : List (List Nat × Nat) → List Nat
  | [] => []
  | (c, k) :: r => c ++ (eol k ++ lines r)
/-- lines with both signs -/
noncomputable def evened : List (List Nat × Nat) → List Nat
  | [] => []
  | (c, _) :: r => c ++ ([13, 10] ++ evened r)
structure LineOk (p : List Nat × Nat) : Prop where
  some : p.1 ≠ []
  clean : ∀ c ∈ p.1, c ≠ 10 ∧ c ≠ 13
theorem getD_right {a b : List Nat} {i : Nat} : (a ++ b).getD (a.length + i) 0 = b.getD i 0 := by
  rw [List.getD_eq_getElem?_getD, List.getD_eq_getElem?_getD, List.getElem?_append_right (by omega), Nat.add_sub_cancel_left]
theorem getD_left {a b : List Nat} {i : Nat} (h : i < a.length) : (a ++ b).getD i 0 = a.getD i 0 := by
  rw [List.getD_eq_getElem?_getD, List.getD_eq_getElem?_getD, List.getElem?_append_left h]
theorem getD_mem {a : List Nat} {i : Nat} (h : i < a.length) : a.getD i 0 ∈ a := by
  rw [List.getD_eq_getElem?_getD, List.getElem?_eq_getElem h]; exact List.getElem_mem h
/-- the next line end is found -/
theorem tw_line {pre c rest : List Nat} {k : Nat} (hk : k < 3) (hc : ∀ x ∈ c, x ≠ 10 ∧ x ≠ 13) (hr : k = 1 → rest.getD 0 0 ≠ 10) :
    ∃ n r, n ≤ 15 ∧ Runs n (forSearch twC (pre ++ (c ++ (eol k ++ rest))).toArray 0 pre.length (pre ++ (c ++ (eol k ++ rest))).toArray.size false) r ∧ Hit r (pre.length + c.length) (pre.length + c.length + (eol k).length) (-1) #[] := by
  have g0 : ∀ i, (pre ++ (c ++ (eol k ++ rest))).toArray.getD (pre.length + (c.length + i)) 0 = (eol k ++ rest).getD i 0 := fun i => by rw [arr_getD, getD_right, getD_right]
  have sz : (pre ++ (c ++ (eol k ++ rest))).toArray.size = pre.length + (c.length + ((eol k).length + rest.length)) := by simp
  have hno : ∀ j, pre.length ≤ j → j < pre.length + c.length → (pre ++ (c ++ (eol k ++ rest))).toArray.getD j 0 ≠ 10 ∧ (pre ++ (c ++ (eol k ++ rest))).toArray.getD j 0 ≠ 13 := fun j h1 h2 => by
    obtain ⟨i, rfl⟩ : ∃ i, j = pre.length + i := ⟨j - pre.length, by omega⟩
    rw [arr_getD, getD_right, getD_left (by omega)]
    exact hc _ (getD_mem (by omega))
  have a0 := g0 0
  have a1 := g0 1
  rw [Nat.add_zero] at a0
  rcases (by omega : k = 0 ∨ k = 1 ∨ k = 2) with rfl | rfl | rfl
  · have e0 : (pre ++ (c ++ (eol 0 ++ rest))).toArray.getD (pre.length + c.length) 0 = 10 := a0
    obtain ⟨sn, hb⟩ := tw_begin (T := (pre ++ (c ++ (eol 0 ++ rest))).toArray) (L := (pre ++ (c ++ (eol 0 ++ rest))).toArray.size) (p := pre.length) (i := pre.length + c.length) (by omega) (by rw [sz]; show _ < pre.length + (c.length + (1 + rest.length)); omega) (.inl e0) hno
    rw [hb]
    obtain ⟨r, R, H⟩ := tw_nl (sn := sn) (T := (pre ++ (c ++ (eol 0 ++ rest))).toArray) (L := (pre ++ (c ++ (eol 0 ++ rest))).toArray.size) (s := pre.length + c.length) (by rw [sz]; show _ < pre.length + (c.length + (1 + rest.length)); omega) e0
    exact ⟨9, r, by decide, R, H⟩
  · have e0 : (pre ++ (c ++ (eol 1 ++ rest))).toArray.getD (pre.length + c.length) 0 = 13 := a0
    obtain ⟨sn, hb⟩ := tw_begin (T := (pre ++ (c ++ (eol 1 ++ rest))).toArray) (L := (pre ++ (c ++ (eol 1 ++ rest))).toArray.size) (p := pre.length) (i := pre.length + c.length) (by omega) (by rw [sz]; show _ < pre.length + (c.length + (1 + rest.length)); omega) (.inr e0) hno
    rw [hb]
    obtain ⟨r, R, H⟩ := tw_r (sn := sn) (T := (pre ++ (c ++ (eol 1 ++ rest))).toArray) (L := (pre ++ (c ++ (eol 1 ++ rest))).toArray.size) (s := pre.length + c.length) (by rw [sz]; show _ < pre.length + (c.length + (1 + rest.length)); omega) e0 fun _ => by
      rw [Nat.add_assoc, a1]; exact hr rfl
    exact ⟨15, r, by decide, R, H⟩
  · have e0 : (pre ++ (c ++ (eol 2 ++ rest))).toArray.getD (pre.length + c.length) 0 = 13 := a0
    obtain ⟨sn, hb⟩ := tw_begin (T := (pre ++ (c ++ (eol 2 ++ rest))).toArray) (L := (pre ++ (c ++ (eol 2 ++ rest))).toArray.size) (p := pre.length) (i := pre.length + c.length) (by omega) (by rw [sz]; show _ < pre.length + (c.length + (2 + rest.length)); omega) (.inr e0) hno
    rw [hb]
    obtain ⟨r, R, H⟩ := tw_rn (sn := sn) (T := (pre ++ (c ++ (eol 2 ++ rest))).toArray) (L := (pre ++ (c ++ (eol 2 ++ rest))).toArray.size) (s := pre.length + c.length) (by rw [sz]; show _ < pre.length + (c.length + (2 + rest.length)); omega) e0 (by rw [Nat.add_assoc, a1]; rfl)
    exact ⟨8, r, by decide, R, H⟩
end
section
open PySem PySem.W PyProof.Rows PySem.Sre PySem.Builtin.Re PySem.Builtin.Str
set_option maxRecDepth 100000
theorem entry_loop : entryFor table "re.Pattern.sub.loop" = some Builtin.«re.Pattern.sub.loop» := entryFor_of_tree (by kernel_rfl)
section
variable {prog : Program} {w : World} {A : Around} {E : Value → Shared → Prop} {s : Shared} {p : Addr} {x : Str} {t : Tok} {code : Array Nat} {g : Nat} {M : Model}
theorem whole_target {Q : ReTarget → Shared → Prop} (P : PatAt s.heap p code g) (h : Q { pattern := .ref p, string := .str x t, code, text := x.cps, kind := 0, groups := g, pos := 0, lim := x.cps.size } s) : wpAny M A (reWholeTarget (.ref p) (.str x t)) Q E s := by
  refine P.elim fun px pt y t₂ b o o' vs n ho hc hod hd ho' hd' hcode => ?_
  refine wpAny_bind (m := fieldsOf (.ref p)) (wpAny_fieldsOf ho hd ?_)
  refine wpAny_bind (m := pure (x.cps, 0)) (wpAny_pure ?_)
  refine wp_else (by exact Bool.false_ne_true) (wp_else (by exact Bool.false_ne_true) ?_)
  refine wpAny_bind (m := pure ()) (wpAny_pure ?_)
  refine wpAny_bind (m := reRawItems (.ref b)) (wpAny_bind (wpAny_seqItems ho' hd' (wpAny_pure ?_)))
  exact wpAny_pure (t_eq (R := Q) hcode (Int.toNat_natCast g) rfl rfl h)
theorem literal_ok {Q : Unit → Shared → Prop} (h : Q () s) : wpAny M A (reLiteralCannotBeTurned (.str x t)) Q E s := by
  unfold reLiteralCannotBeTurned
  refine wpAny_bind (show wpAny _ _ (pure (some x)) _ _ _ from wpAny_pure ?_)
  exact wpAny_pure h
theorem push_list {Q : Unit → Shared → Prop} {L : Addr} {vs : List Value} {n : Nat} {v : Value} (hL : s.heap.get? L = some { cls := .type "list", data := .seq vs.toArray n }) (hz : vs.length ≤ 1000)
    (h : ∀ h', h'.get? L = some { cls := .type "list", data := .seq (vs ++ [v]).toArray (n + 1) } → (∀ b o, b ≠ L → s.heap.get? b = some o → h'.get? b = some o) → Q () { s with heap := h' }) : wpAny M A (updateSeq L (·.push v)) Q E s := by
  refine wpAny_updateSeq hL rfl (h _ ?_ ?_) (by simp; exact Nat.le_trans hz (by decide)) (by simp; exact Nat.le_trans hz (by decide))
  · rw [Heap.get?_update_self _ hL rfl]
    simp [Obj.mapSeq]
  · intro b o hb e
    rw [Heap.get?_update_other _ _ (Ne.symm hb)]; exact e
theorem evened_cats (acc : List Str) (c : List Nat) : (cats (acc ++ [⟨c.toArray⟩])).cps.toList = (cats acc).cps.toList ++ c := by simp [cats]
theorem lines_clean : ∀ {cs : List (List Nat × Nat)}, (∀ q ∈ cs, LineOk q) → (lines cs).getD 0 0 ≠ 10
  | [], _ => by decide
  | ([], _) :: _, h => absurd rfl (h _ (.head _)).some
  | (y :: _, _) :: _, h => ((h _ (.head _)).clean y (.head _)).1
theorem mkStr_eq {y z : Str} {Q : Value → Shared → Prop} (e : y = z) (k : wpAny M A (mkStr z) Q E s) : wpAny M A (mkStr y) Q E s := e ▸ k
theorem sub_loop {R : Result → Shared → Prop} {rt : Tok} {L : Addr} {g : Heap} (hz : x.cps.size ≤ 4000000) (P : PatAt g p twC 0) (hL0 : g.get? L = none) : ∀ (cs : List (List Nat × Nat)) (pre : List Nat) (s : Shared) (acc : List (Str × Tok)) (n : Nat) (k : Int),
    x.cps = (pre ++ lines cs).toArray → (∀ q ∈ cs, LineOk q ∧ q.2 < 3) → s.heap.get? L = some { cls := .type "list", data := .seq (strValues acc).toArray n } → (∀ b o, g.get? b = some o → s.heap.get? b = some o) → acc.length + 2 * cs.length ≤ 900 →
    (cats (acc.map (·.1))).length + 2 * (lines cs).length ≤ 16000000 → acc ≠ [] ∨ cs ≠ [] →
    (∀ t s', From s s' → (∀ b o, b ≠ L → s.heap.get? b = some o → s'.heap.get? b = some o) → R (.ok (.ret (.str ⟨((cats (acc.map (·.1))).cps.toList ++ evened cs).toArray⟩ t))) s') →
    codeAny (model prog w) A (.builtin "re.Pattern.sub.loop" ⟨[.ref p, .str x t, .str ⟨#[13, 10]⟩ rt, rawInt 0, rawInt 0, rawInt k, rawInt pre.length, rawInt pre.length, .bool false, .ref L, .bool false], []⟩) R s := by
  intro cs
  induction cs with
  | nil =>
    intro pre s acc n k hx hcs hL hg hz1 hz2 hne hR
    refine codeAny_builtin entry_loop ?_
    refine wpAny_bind (m := reWholeTarget (.ref p) (.str x t)) (whole_target (P.keep hg) ?_)
    refine wpAny_bind (m := reLiteralCannotBeTurned (.str ⟨#[13, 10]⟩ rt)) (literal_ok ?_)
    refine wpAny_bind (m := reNextFound { pattern := .ref p, string := .str x t, code := twC, text := x.cps, kind := 0, groups := 0, pos := 0, lim := x.cps.size } (pre.length : Int).toNat false) ?_
    have hsz : x.cps.size = pre.length := by rw [hx]; simp [lines]
    have hn : (↑pre.length : Int).toNat = pre.length := Int.toNat_natCast _
    obtain ⟨r, hr, ho⟩ := tw_over (T := x.cps) (L := pre.length)
    unfold reNextFound
    refine (run_miss (n := 1) (r := r) (by decide) (by rw [hn, hsz]; exact hr) ho ?_)
    refine wp_else (show ¬ pre.length < x.cps.size from by rw [hsz]; exact Nat.lt_irrefl _) ?_
    have hne : acc ≠ [] := by rcases hne with h | h; exact h; exact absurd rfl h
    unfold reSlice
    refine wpAny_bind (wpAny_mkStr ?_ (by show (x.cps.extract 0 0).size ≤ _; simp))
    refine wpAny_bind (wpAny_seqItems hL rfl ?_)
    rw [if_neg (by
      cases acc with
      | nil => exact absurd rfl hne
      | cons a b => simp [strValues])]
    refine wpAny_bind (call_join (q := acc) (by simp) ⟨_, hL, rfl, _, rfl⟩ (Nat.le_trans (by omega) (by decide : 16000000 ≤ sizeLine)) fun t' s' k => ?_)
    refine wpAny_pure ?_
    have := hR t' s' (From.trans (b := { s with toks := s.toks + 1 }) ⟨_, _, rfl⟩ k.from) (fun b o _ e => k.keep b o e)
    simp only [evened, List.append_nil] at this
    exact this
  | cons c cs ih =>
    intro pre s acc n k hx hcs hL hg hz1 hz2 hne hR
    refine codeAny_builtin entry_loop ?_
    refine wpAny_bind (m := reWholeTarget (.ref p) (.str x t)) (whole_target (P.keep hg) ?_)
    refine wpAny_bind (m := reLiteralCannotBeTurned (.str ⟨#[13, 10]⟩ rt)) (literal_ok ?_)
    refine wpAny_bind (m := reNextFound { pattern := .ref p, string := .str x t, code := twC, text := x.cps, kind := 0, groups := 0, pos := 0, lim := x.cps.size } (pre.length : Int).toNat false) ?_
    have hn : (↑pre.length : Int).toNat = pre.length := Int.toNat_natCast _
    obtain ⟨c, e⟩ := c
    obtain ⟨hok, he⟩ := hcs (c, e) (.head _)
    have hc1 : c ≠ [] := hok.some
    have hr : e = 1 → (lines cs).getD 0 0 ≠ 10 := fun _ => lines_clean fun q hq => (hcs q (.tail _ hq)).1
    obtain ⟨m, r, hm, hrun, H⟩ := tw_line (pre := pre) (c := c) (rest := lines cs) he hok.clean hr
    have hx' : x.cps = (pre ++ (c ++ (eol e ++ lines cs))).toArray := hx
    unfold reNextFound
    refine (run_hit (n := m) (r := r) (by omega) (by rw [hn, hx']; exact hrun) H.yes ?_)
    have hlt : pre.length < r.start := by rw [H.start]; have := List.length_pos_iff.mpr hc1; omega
    refine wp_if hlt ?_
    have ex : (⟨x.cps.extract pre.length r.start⟩ : Str) = ⟨c.toArray⟩ := by
      rw [H.start, hx']
      congr 1
      apply Array.toList_inj.mp
      simp
    have lc : c.length ≤ x.cps.size := by rw [hx']; simp; omega
    have zline : x.cps.size ≤ sizeLine := Nat.le_trans hz (by decide)
    refine wpAny_bind (m := mkStr ⟨x.cps.extract pre.length r.start⟩) (mkStr_eq ex (wpAny_mkStr ?_ (by show c.toArray.size ≤ _; simp; omega)))
    have lacc : (strValues acc).length = acc.length := by simp [strValues]
    refine wpAny_bind (push_list (vs := strValues acc) (n := n) (by exact hL) (by rw [lacc]; omega) fun h₁ hL₁ k₁ => ?_)
    refine wpAny_bind (m := pure (Value.str ⟨#[13, 10]⟩ rt)) (wpAny_pure ?_)
    refine wp_if rfl ?_
    refine wpAny_bind (push_list (vs := strValues acc ++ [Value.str ⟨c.toArray⟩ s.toks]) (n := n + 1) (by exact hL₁) (by rw [List.length_append, lacc]; simp; omega) fun h₂ hL₂ k₂ => ?_)
    refine wpAny_pure ⟨Code.quiet_builtin _ (by decide +kernel), ?_⟩
    have hm' : r.handed = (pre ++ (c ++ eol e)).length := by rw [H.handed]; simp; omega
    have hb : (r.handed == r.start) = false := by
      have h1 : r.handed = pre.length + c.length + (eol e).length := H.handed
      have h2 : r.start = pre.length + c.length := H.start
      have h3 : 0 < (eol e).length := by unfold eol; split <;> (try split) <;> decide
      exact beq_false_of_ne (by omega)
    rw [hb, hm']
    have hne' : ∀ b o, g.get? b = some o → b ≠ L := fun b o hbo q => by rw [q, hL0] at hbo; cases hbo
    refine ih (pre ++ (c ++ eol e)) { s with heap := h₂, toks := s.toks + 1 } (acc ++ [(⟨c.toArray⟩, s.toks), (⟨#[13, 10]⟩, rt)]) (n + 1 + 1) (k + 1) ?_ ?_ ?_ ?_ ?_ ?_ ?_ ?_
    · rw [hx']; simp
    · exact fun q hq => hcs q (.tail _ hq)
    · rw [hL₂]; simp [strValues]
    · exact fun b o hbo => k₂ b o (hne' b o hbo) (k₁ b o (hne' b o hbo) (hg b o hbo))
    · simp at hz1 ⊢; omega
    · have e1 : (cats ((acc ++ [((⟨c.toArray⟩ : Str), s.toks), ((⟨#[13, 10]⟩ : Str), rt)]).map (·.1))).length = (cats (acc.map (·.1))).length + (c.length + 2) := by
        rw [cats_len, cats_len]
        simp [Str.length]
      have e2 : (lines ((c, e) :: cs)).length = c.length + ((eol e).length + (lines cs).length) := by simp [lines]
      have : 0 < (eol e).length := by unfold eol; split <;> (try split) <;> decide
      rw [e1]; rw [e2] at hz2; omega
    · exact .inl (by simp)
    · intro t' s' f kk
      have := hR t' s' (From.trans (b := { s with heap := h₂, toks := s.toks + 1 }) ⟨_, _, rfl⟩ f) fun b o hbL hbo => kk b o hbL (k₂ b o hbL (k₁ b o hbL hbo))
      have e1 : ((cats ((acc ++ [((⟨c.toArray⟩ : Str), s.toks), ((⟨#[13, 10]⟩ : Str), rt)]).map (·.1))).cps.toList ++ evened cs) = (cats (acc.map (·.1))).cps.toList ++ evened ((c, e) :: cs) := by simp [cats, evened]
      rw [e1]; exact this
end
end
section
open PySem PySem.W PyProof.Rows PySem.Sre PySem.Builtin.Re PySem.Builtin.Str
set_option maxRecDepth 100000
theorem slot_sub : Slot "re.Pattern" "sub" "re.Pattern.sub" :=
  .of (owner := "re.Pattern") (n := "sub") (by rw [typeLookup_type, builtinLookup_eq_fast]; kernel_rfl) (by decide +kernel) (by decide +kernel) (by decide +kernel)
    (by first | exact .inl (by decide +kernel) | exact .inr (by decide +kernel)) (by rw [isSubtype_type]; kernel_rfl)
theorem type_sub : typeOf (.builtin "re.Pattern.sub") = pure (.type "method_descriptor") := by show builtinType _ = _; rw [builtinType_eq_fast]; kernel_rfl
theorem entry_sub : entryFor table "re.Pattern.sub" = some Builtin.«re.Pattern.sub» := entryFor_of_tree (by kernel_rfl)
theorem args_sub (a b c : Value) : argsOk "re.Pattern.sub" ⟨[a, b, c], []⟩ := by
  unfold argsOk; rw [signature?_of (id := "re.Pattern.sub") (n := ['b', 'u', 's']) (o := ['n', 'r', 'e', 't', 't', 'a', 'P', '.', 'e', 'r']) (by kernel_rfl) owner_pat]; kernel_rfl
theorem named_sub (a b : Value) : reNamed "re.Pattern.sub" "sub" ["repl", "string", "count"] 2 [a, b] [] = pure [some a, some b, none] := by rfl
theorem str_nocall : typeLookup (.type "str") "__call__" = pure none := by rw [typeLookup_type, builtinLookup_eq_fast]; kernel_rfl
theorem Con.sub {prog : Program} {w : World} {A : Around} {g : Heap} {X : List Addr} {p : Addr} {x : Str} {cs : List (List Nat × Nat)} (P : PatAt g p twC 0) (hx : x.cps = (lines cs).toArray) (hcs : ∀ q ∈ cs, LineOk q ∧ q.2 < 3) (hne : cs ≠ []) (hn : cs.length ≤ 400) (hz : x.cps.size ≤ 4000000) :
    Con prog w A g X (.builtin "re.Pattern.sub") [.fix (.ref p), .str ⟨#[13, 10]⟩, .str x] (.str ⟨(evened cs).toArray⟩) := by
  constructor; intro s E vs hg wf r
  cases r using RL.e_cons with
  | cons q r =>
    (first | cases q using RV.e_fix | cases q using RV.e_cell | cases q using RV.e_none | cases q using RV.e_int | cases q using RV.e_str | cases q using RV.e_lst | cases q using RV.e_tup | cases q using RV.e_mat | cases q using RV.e_bool | cases q using RL.e_nil)
    cases r using RL.e_cons with
    | cons q r =>
      cases q using RV.e_str with
      | str rt =>
        cases r using RL.e_cons with
        | cons q r =>
          cases r using RL.e_nil
          cases q using RV.e_str with
          | str t =>
            have P' := P.keep hg
            have hT : s.TypeIs (.ref p) "re.Pattern" := P'.elim fun _ _ _ _ _ o _ _ _ ho hc _ _ _ _ _ => ⟨o, ho, hc⟩
            refine call_meetsIn (S := fun A R s => (∀ b o, g.get? b = some o → s.heap.get? b = some o) ∧ ∀ t s', Kp s s' → R (.ok (.ret (.str ⟨(evened cs).toArray⟩ t))) s') slot_sub hT entry_sub (args_sub _ _ _) ?_ ⟨hg, fun t s' k => ⟨k, .str _ _⟩⟩
            intro A R s hs
            obtain ⟨hg, hR⟩ := hs
            refine wpAny_bind (m := reNamed "re.Pattern.sub" "sub" ["repl", "string", "count"] 2 [.str ⟨#[13, 10]⟩ rt, .str x t] []) (wp_eq (named_sub _ _) (wpAny_pure ?_))
            refine wpAny_bind (m := pure (0 : Int)) (wpAny_pure ?_)
            refine wpAny_bind (wpAny_specialOf (T := "str") (r := none) rfl str_nocall ?_)
            refine wp_else (by exact Bool.false_ne_true) ?_
            refine wpAny_bind (m := pure (some (⟨#[13, 10]⟩ : Str))) (wpAny_pure ?_)
            refine wpAny_bind (m := pure (!(⟨#[13, 10]⟩ : Str).cps.contains 92)) (wpAny_pure ?_)
            refine wp_else (by exact Bool.false_ne_true) ?_
            refine wp_if (by decide +kernel) ?_
            refine wpAny_bind (m := pure (Value.str ⟨#[13, 10]⟩ rt, (0 : Int))) (wpAny_pure ?_)
            refine wpAny_bind (wpAny_holding (whole_target (P.keep hg) ?_))
            refine wp_else (by exact Bool.false_ne_true) ?_
            refine wpAny_bind (wpAny_newList ?_)
            refine wpAny_pure ⟨Code.quiet_builtin _ (by decide +kernel), ?_⟩
            have hL0 : g.get? s.heap.objs.size = none := by
              cases q : g.get? s.heap.objs.size with
              | none => rfl
              | some o => exact absurd (Heap.lt_size (hg _ _ q)) (Nat.lt_irrefl _)
            have hls : (lines cs).length = x.cps.size := by rw [hx]; simp
            refine sub_loop (L := s.heap.objs.size) (g := g) hz P hL0 cs [] { s with heap := s.heap.push { cls := .type "list", data := .seq #[] } } [] 0 0 (by rw [hx]; rfl) hcs (Heap.get?_push_size _ rfl) (fun b o e => Heap.get?_push_of_some _ (hg b o e)) (by simp; omega) ?_ (.inr hne) ?_
            · show 0 + 2 * (lines cs).length ≤ _
              rw [hls]; omega
            · intro t' s' f kk
              refine hR t' s' ?_
              obtain ⟨h', tk, rfl⟩ := f
              exact ⟨h', tk, rfl, fun b o e => kk b o (fun q => by rw [q] at e; exact absurd (Heap.lt_size e) (Nat.lt_irrefl _)) (Heap.get?_push_of_some _ e)⟩
end
section
open PySem PySem.W PyProof.Rows
set_option maxRecDepth 10000
/-- the names of the first zone -/
noncomputable def zoneK : List (Str × Value) := [(Str.ofString "GMT", .none), (Str.ofString "UTC", .none), (Str.ofString "UT", .none), (Str.ofString "Z", .none)]
/-- what the walks need to know of the top -/
structure Base (prog : Program) (w : World) (g : Heap) : Prop where
  nl : g.NoLimit
  g_len : Gv g (Str.ofString "len") (.builtin "len")
  g_abs : Gv g (Str.ofString "abs") (.builtin "abs")
  g_min : Gv g (Str.ofString "min") (.builtin "min")
  g_max : Gv g (Str.ofString "max") (.builtin "max")
  g_sum : Gv g (Str.ofString "sum") (.builtin "sum")
  g_str : Gv g (Str.ofString "str") (.type "str")
  g_int : Gv g (Str.ofString "int") (.type "int")
  g_range : Gv g (Str.ofString "range") (.type "range")
  g_UTC_ZONES : Gv g (Str.ofString "UTC_ZONES") (.ref 32)
  g_TIMEZONE_RE : Gv g (Str.ofString "TIMEZONE_RE") (.ref 37)
  g_offset_from_tz_string : Gv g (Str.ofString "offset_from_tz_string") (.ref 44)
  g_unmatched : Gv g (Str.ofString "unmatched") (.ref 51)
  g_HEADER_TOKEN_RE : Gv g (Str.ofString "HEADER_TOKEN_RE") (.ref 56)
  g_HEADER_ESCAPE_RE : Gv g (Str.ofString "HEADER_ESCAPE_RE") (.ref 61)
  g_twin_re_1 : Gv g (Str.ofString "_twin_re_1") (.ref 66)
  g_CRLF : Gv g (Str.ofString "CRLF") (.str ⟨#[13, 10]⟩ 503)
  g_SMTPSenderRefused : Gv g (Str.ofString "SMTPSenderRefused") (.ref 115)
  g_fix_eols : Gv g (Str.ofString "_fix_eols") (.ref 124)
  g_safe_string : Gv g (Str.ofString "_safe_string") (.ref 132)
  g_MOVE_COST : Gv g (Str.ofString "_MOVE_COST") (.int 2 601)
  g_CASE_COST : Gv g (Str.ofString "_CASE_COST") (.int 1 603)
  g_substitution_cost : Gv g (Str.ofString "_substitution_cost") (.ref 139)
  g_law_zone : Gv g (Str.ofString "_law_zone") (.ref 146)
  g_law_row : Gv g (Str.ofString "_law_row") (.ref 151)
  g_law_pieces : Gv g (Str.ofString "_law_pieces") (.ref 156)
  g_law_reckon : Gv g (Str.ofString "_law_reckon") (.ref 163)
  g_law_ring : Gv g (Str.ofString "_law_ring") (.ref 168)
  f_offset_from_tz_string : FnAt g 44 (Str.ofString "offset_from_tz_string") (parsOf (row 4)) (bodyOf (row 4)) (scopeOf (row 4))
  f_unmatched : FnAt g 51 (Str.ofString "unmatched") (parsOf (row 5)) (bodyOf (row 5)) (scopeOf (row 5))
  f_fix_eols : FnAt g 124 (Str.ofString "_fix_eols") (parsOf (row 14)) (bodyOf (row 14)) (scopeOf (row 14))
  f_substitution_cost : FnAt g 139 (Str.ofString "_substitution_cost") (parsOf (row 19)) (bodyOf (row 19)) (scopeOf (row 19))
  f_law_zone : FnAt g 146 (Str.ofString "_law_zone") (parsOf (row 21)) (bodyOf (row 21)) (scopeOf (row 21))
  f_law_row : FnAt g 151 (Str.ofString "_law_row") (parsOf (row 22)) (bodyOf (row 22)) (scopeOf (row 22))
  f_law_pieces : FnAt g 156 (Str.ofString "_law_pieces") (parsOf (row 23)) (bodyOf (row 23)) (scopeOf (row 23))
  f_law_reckon : FnAt g 163 (Str.ofString "_law_reckon") (parsOf (row 24)) (bodyOf (row 24)) (scopeOf (row 24))
  f_law_ring : FnAt g 168 (Str.ofString "_law_ring") (parsOf (row 25)) (bodyOf (row 25)) (scopeOf (row 25))
  p_37 : PatAt g 37 tzC 3
  p_56 : PatAt g 56 tokC 1
  p_61 : PatAt g 61 escC 1
  p_66 : PatAt g 66 twC 0
  zones : g.DictOf (PySem.strKind prog w) 32 zoneK
theorem Base.keep {prog : Program} {w : World} {g g' : Heap} (k : ∀ b o, g.get? b = some o → g'.get? b = some o) (B : Base prog w g) : Base prog w g' where
  nl := B.nl.keeps k
  g_len := B.g_len.keep k
  g_abs := B.g_abs.keep k
  g_min := B.g_min.keep k
  g_max := B.g_max.keep k
  g_sum := B.g_sum.keep k
  g_str := B.g_str.keep k
  g_int := B.g_int.keep k
  g_range := B.g_range.keep k
  g_UTC_ZONES := B.g_UTC_ZONES.keep k
  g_TIMEZONE_RE := B.g_TIMEZONE_RE.keep k
  g_offset_from_tz_string := B.g_offset_from_tz_string.keep k
  g_unmatched := B.g_unmatched.keep k
  g_HEADER_TOKEN_RE := B.g_HEADER_TOKEN_RE.keep k
  g_HEADER_ESCAPE_RE := B.g_HEADER_ESCAPE_RE.keep k
  g_twin_re_1 := B.g_twin_re_1.keep k
  g_CRLF := B.g_CRLF.keep k
  g_SMTPSenderRefused := B.g_SMTPSenderRefused.keep k
  g_fix_eols := B.g_fix_eols.keep k
  g_safe_string := B.g_safe_string.keep k
  g_MOVE_COST := B.g_MOVE_COST.keep k
  g_CASE_COST := B.g_CASE_COST.keep k
  g_substitution_cost := B.g_substitution_cost.keep k
  g_law_zone := B.g_law_zone.keep k
  g_law_row := B.g_law_row.keep k
  g_law_pieces := B.g_law_pieces.keep k
  g_law_reckon := B.g_law_reckon.keep k
  g_law_ring := B.g_law_ring.keep k
  f_offset_from_tz_string := B.f_offset_from_tz_string.keep k
  f_unmatched := B.f_unmatched.keep k
  f_fix_eols := B.f_fix_eols.keep k
  f_substitution_cost := B.f_substitution_cost.keep k
  f_law_zone := B.f_law_zone.keep k
  f_law_row := B.f_law_row.keep k
  f_law_pieces := B.f_law_pieces.keep k
  f_law_reckon := B.f_law_reckon.keep k
  f_law_ring := B.f_law_ring.keep k
  p_37 := B.p_37.keep k
  p_56 := B.p_56.keep k
  p_61 := B.p_61.keep k
  p_66 := B.p_66.keep k
  zones := B.zones.keep k
end
section
open PySem PySem.W PyProof.Rows
set_option maxRecDepth 10000
section
variable {c : Cx} {L : List (Str × D)} {O : List (Addr × List D)} {ds : List D} {d : D} {e l r : Expr} {x y : Str} {pos : Pos} {prog : Program} {w : World} {A : Around} {g : Heap} {X : List Addr} {s : Shared} {E : Value → Shared → Prop} {h : Heap}
theorem Ev.globV {v : Value} (hx : c.env.kindOf x = some .globalImplicit) (hv : Gv c.g x v) (hr : ∀ h, RV h c.X v d) (hd : (x == ("__debug__" : Str)) = false := by decide +kernel) : Ev c L O (.Name x pos) d := by
  constructor; intro s E S
  refine wpAny_mono ((Ev.glob (L := L) (O := O) (pos := pos) hx hv hd).run s E S) (fun u s' hu => ?_) fun _ _ e => e
  obtain ⟨k, q⟩ := hu
  (first | cases q using RV.e_fix | cases q using RV.e_cell | cases q using RV.e_none | cases q using RV.e_int | cases q using RV.e_str | cases q using RV.e_lst | cases q using RV.e_tup | cases q using RV.e_mat | cases q using RV.e_bool | cases q using RL.e_nil)
  exact ⟨k, hr _⟩
theorem Tst.value {t : Bool} (he : Ev c L O e d) (hd : ∀ s E v, RV s.heap c.X v d → wpAny (model c.prog c.w) c.A (truthy v) (fun b s' => Kp s s' ∧ b = t) E s)
    (hi : PySem.isTrue e c.env (eval e c.env) = (do let v ← eval e c.env; standAt e.pos; holding [v] (truthy v)) := by rfl) : Tst c L O e t := by
  constructor; intro s E S
  refine wpAny_isTrue_value (wpAny_mono (he.run s E S) (fun v s₁ h₁ => ?_) fun _ _ e => e) hi
  exact wpAny_mono (hd s₁ E v h₁.2) (fun b s₂ h₂ => ⟨h₁.1.trans h₂.1, h₂.2⟩) fun _ _ e => e
theorem truthy_none {Q : Bool → Shared → Prop} {M : Model} (h : Q false s) : wpAny M A (truthy .none) Q E s := wpAny_pure h
theorem no_bool_mat : typeLookup (.type "re.Match") "__bool__" = pure none := by rw [typeLookup_type, builtinLookup_eq_fast]; kernel_rfl
theorem no_len_mat : typeLookup (.type "re.Match") "__len__" = pure none := by rw [typeLookup_type, builtinLookup_eq_fast]; kernel_rfl
theorem Tst.mat {sp : List Int} (he : Ev c L O e (.mat x sp)) (hi : PySem.isTrue e c.env (eval e c.env) = (do let v ← eval e c.env; standAt e.pos; holding [v] (truthy v)) := by rfl) : Tst c L O e true :=
  Tst.value he (fun s E v r => by
    cases r using RV.e_mat with
    | mat na nb ea eb =>
      have hT : s.TypeIs (.ref _) "re.Match" := ⟨_, ea, rfl⟩
      unfold truthy
      refine wpAny_bind (wpAny_callSpecial?_none hT no_bool_mat ?_)
      refine wpAny_bind (wpAny_specialOf hT no_len_mat ?_)
      exact wpAny_pure ⟨.refl, rfl⟩) hi
theorem Tst.none (he : Ev c L O e .none) (hi : PySem.isTrue e c.env (eval e c.env) = (do let v ← eval e c.env; standAt e.pos; holding [v] (truthy v)) := by rfl) : Tst c L O e false :=
  Tst.value he (fun s E v r => by cases r using RV.e_none; exact wpAny_pure ⟨.refl, rfl⟩) hi
theorem Tst.str (he : Ev c L O e (.str x)) (hz : x.length < 1000000000) (hi : PySem.isTrue e c.env (eval e c.env) = (do let v ← eval e c.env; standAt e.pos; holding [v] (truthy v)) := by rfl) : Tst c L O e ((x.length : Int) != 0) :=
  Tst.value he (fun s E v r => by cases r using RV.e_str with | str t => exact PySem.P.truthy_str (by omega) ⟨.trans .toks .toks, rfl⟩) hi
mutual
/-- a value as plain data -/
noncomputable def D.py : D → PyData
  | .none => .none
  | .bool b => .bool b
  | .int i => .int i
  | .str x => .str x
  | .tup ds => .tuple (D.pys ds)
  | .lst ds => .list (D.pys ds)
  | _ => .none
noncomputable def D.pys : List D → List PyData
  | [] => []
  | d :: ds => D.py d :: D.pys ds
end
mutual
noncomputable def D.pure : D → Bool
  | .none | .bool _ | .int _ | .str _ => true
  | .tup ds => D.pures ds
  | .lst ds => D.pures ds
  | _ => false
noncomputable def D.pures : List D → Bool
  | [] => true
  | d :: ds => D.pure d && D.pures ds
end
theorem RV.reads {v : Value} {d : D} (r : RV h X v d) : d.pure = true → ∃ as, Reads h v d.py as :=
  RV.rec (motive_1 := fun v d _ => d.pure = true → ∃ as, Reads h v d.py as) (motive_2 := fun vs ds _ => D.pures ds = true → ∃ as, ReadsAll h vs (D.pys ds) as)
    (fun _ => ⟨_, .none⟩) (fun b _ => ⟨_, .bool b⟩) (fun i t _ => ⟨_, .int i t⟩) (fun x t _ => ⟨_, .str x t⟩)
    (fun _ e _ q hp => let ⟨_, q⟩ := q hp; ⟨_, .tuple e rfl rfl q⟩) (fun _ e _ q hp => let ⟨_, q⟩ := q hp; ⟨_, .list e rfl rfl q⟩)
    (fun _ _ _ _ hp => (Bool.false_ne_true hp).elim) (fun _ _ _ _ _ _ _ _ _ _ _ _ hp => (Bool.false_ne_true hp).elim) (fun _ hp => (Bool.false_ne_true hp).elim) (fun _ hp => (Bool.false_ne_true hp).elim)
    (fun _ => ⟨_, .nil⟩) (fun _ _ a b hp => let ⟨p1, p2⟩ := Bool.and_eq_true_iff.mp hp; let ⟨_, p⟩ := a p1; let ⟨_, q⟩ := b p2; ⟨_, .cons p q⟩) r
theorem CmpIs.eqP {a b : D} (ha : a.pure = true := by rfl) (hb : b.pure = true := by rfl) (h1 : SeqAt.shaped a.py = true := by rfl) (h2 : SeqAt.shaped b.py = true := by rfl) (hu : c.A.units + 64 < cLine) : CmpIs c .Eq a b (PyData.eqv a.py b.py) :=
  ⟨fun s E va vb ra rb => by
    obtain ⟨_, p⟩ := ra.reads ha
    obtain ⟨_, q⟩ := rb.reads hb
    exact eq_dataH p q h1 h2 hu ⟨.refl, rfl⟩⟩
theorem CmpIs.neP {a b : D} (ha : a.pure = true := by rfl) (hb : b.pure = true := by rfl) (h1 : SeqAt.shaped a.py = true := by rfl) (h2 : SeqAt.shaped b.py = true := by rfl) (hu : c.A.units + 64 < cLine) : CmpIs c .NotEq a b (!PyData.eqv a.py b.py) :=
  ⟨fun s E va vb ra rb => by
    obtain ⟨_, p⟩ := ra.reads ha
    obtain ⟨_, q⟩ := rb.reads hb
    exact ne_dataH p q h1 h2 hu ⟨.refl, rfl⟩⟩
theorem Tst.inD {a : Addr} {kvs : List (Str × Value)} (hl : Ev c L O l (.str x)) (hr : Ev c L O r (.fix (.ref a))) (hd : c.g.DictOf (PySem.strKind c.prog c.w) a kvs) (ha : (a == sysModules) = false) (hm : behindInMarks .In r = false := by with_unfolding_all rfl) :
    Tst c L O (.Compare l [.In] [r] pos) (valueAt kvs x).isSome := by
  constructor; intro s E S
  refine wpAny_isTrue_Compare1 (wpAny_mono (hl.run s E S) (fun va s₁ h₁ => ?_) fun _ _ e => e) hm
  refine wpAny_mono (hr.run s₁ E (h₁.1.sit S)) (fun vb s₂ h₂ => ?_) fun _ _ e => e
  obtain ⟨k₁, r₁⟩ := h₁
  obtain ⟨k₂, r₂⟩ := h₂
  cases r₁ using RV.e_str with
  | str t =>
    (first | cases r₂ using RV.e_fix | cases r₂ using RV.e_cell | cases r₂ using RV.e_none | cases r₂ using RV.e_int | cases r₂ using RV.e_str | cases r₂ using RV.e_lst | cases r₂ using RV.e_tup | cases r₂ using RV.e_mat | cases r₂ using RV.e_bool | cases r₂ using RL.e_nil)
    have S₂ := (k₁.trans k₂).sit S
    exact wpAny_in_of (PySem.strKind_is _ _ x t) ha (hd.keep S₂.keep).mapOf (wpAny_truthy_bool ⟨(k₁.trans k₂).trans .toks, rfl⟩)
theorem RL.ints {vs : List Value} {ns : List Int} (r : RL h X vs (ns.map .int)) : ∃ xs : Array (Int × Tok), vs.toArray = intItems xs ∧ xs.toList.map (·.1) = ns := by
  induction ns generalizing vs with
  | nil => cases r; exact ⟨#[], by simp [intItems], rfl⟩
  | cons n ns ih =>
    cases r using RL.e_cons with
    | cons a r =>
      cases a using RV.e_int with
      | int t =>
        obtain ⟨xs, e, f⟩ := ih r
        refine ⟨((n, t) :: xs.toList).toArray, ?_, by simp [f]⟩
        apply Array.toList_inj.mp
        have := congrArg Array.toList e
        simp [intItems] at this ⊢
        exact this
theorem numAt_of {xs : Array (Int × Tok)} {ns : List Int} (h : xs.toList.map (·.1) = ns) (i : Nat) : numAt xs i = ns.getD i 0 := by
  subst h
  unfold numAt
  rw [List.getD_eq_getElem?_getD]
  simp
theorem preSum_of {xs : Array (Int × Tok)} {ns : List Int} (h : xs.toList.map (·.1) = ns) : ∀ k, k ≤ ns.length → preSum (numAt xs) k = (ns.take k).sum := by
  intro k
  induction k with
  | zero => intro _; rfl
  | succ k ih =>
    intro hk
    show preSum (numAt xs) k + numAt xs k = _
    rw [ih (by omega), numAt_of h, List.take_add_one, List.sum_append]
    have hk' : k < ns.length := by omega
    rw [List.getD_eq_getElem?_getD, List.getElem?_eq_getElem hk']
    simp
theorem Con.sumL {ns : List Int} (hh : A.handled = none) : Con prog w A g X (.builtin "sum") [.lst (ns.map .int)] (.int ns.sum) := by
  constructor; intro s E vs hg wf r
  cases r using RL.e_cons with
  | cons q r =>
    cases r using RL.e_nil
    cases q using RV.e_lst with
    | lst na ea qa =>
      rename_i l ws n
      obtain ⟨xs, e, f⟩ := qa.ints
      have ew : ws = intItems xs := by rw [← e]
      subst ew
      refine call_sum_walkG (iter_intList ⟨_, ea, rfl, _, rfl⟩ fun s₂ e₂ st hfp hlI => ?_)
      subst e₂
      refine ⟨_, _, _, _, _, _, numAt xs, rfl, Walks.list (A := A.in1) hh _ l hlI (intItems xs), st, hfp, (fun _ _ => intItems_at), fun h' tk t' hk => ?_⟩
      have sz : (intItems xs).size = ns.length := by rw [← f]; simp [intItems]
      rw [sz, preSum_of f _ (Nat.le_refl _), List.take_length]
      exact ⟨⟨h', tk, rfl, old_kept hk⟩, .int _ _⟩
theorem Con.maxL {ns : List Int} {M : Int} (hh : A.handled = none) (hM : M ∈ ns) (hmax : ∀ a ∈ ns, a ≤ M) : Con prog w A g X (.builtin "max") [.lst (ns.map .int)] (.int M) := by
  constructor; intro s E vs hg wf r
  cases r using RL.e_cons with
  | cons q r =>
    cases r using RL.e_nil
    cases q using RV.e_lst with
    | lst na ea qa =>
      rename_i l ws n
      obtain ⟨xs, e, f⟩ := qa.ints
      have ew : ws = intItems xs := by rw [← e]
      subst ew
      have sz : xs.size = ns.length := by rw [← f]; simp
      have pos : 0 < ns.length := List.length_pos_of_mem hM
      refine max_intList hh ⟨_, ea, rfl, _, rfl⟩ (by omega) fun v h' tk hv hk => ⟨⟨h', tk, rfl, hk⟩, ?_⟩
      obtain ⟨t, rfl⟩ := intItems_at hv
      have A1 := argBest_gt (numAt xs) (xs.size - 1)
      generalize argBest (fun i j => decide (numAt xs i > numAt xs j)) (xs.size - 1) = b at A1 hv ⊢
      have hb : b < ns.length := by omega
      have m1 : numAt xs b ≤ M := by
        rw [numAt_of f, List.getD_eq_getElem?_getD, List.getElem?_eq_getElem hb]
        exact hmax _ (List.getElem_mem hb)
      obtain ⟨j, hj, ej⟩ := List.getElem_of_mem hM
      have m2 := A1.2 j (by omega)
      have ej' : numAt xs j = M := by rw [numAt_of f, List.getD_eq_getElem?_getD, List.getElem?_eq_getElem hj]; simpa using ej
      have : numAt xs b = M := by omega
      rw [this]; exact .int _ _
theorem Con.minL {ns : List Int} {M : Int} (hh : A.handled = none) (hM : M ∈ ns) (hmin : ∀ a ∈ ns, M ≤ a) : Con prog w A g X (.builtin "min") [.lst (ns.map .int)] (.int M) := by
  constructor; intro s E vs hg wf r
  cases r using RL.e_cons with
  | cons q r =>
    cases r using RL.e_nil
    cases q using RV.e_lst with
    | lst na ea qa =>
      rename_i l ws n
      obtain ⟨xs, e, f⟩ := qa.ints
      have ew : ws = intItems xs := by rw [← e]
      subst ew
      have sz : xs.size = ns.length := by rw [← f]; simp
      have pos : 0 < ns.length := List.length_pos_of_mem hM
      refine min_intList hh ⟨_, ea, rfl, _, rfl⟩ (by omega) fun v h' tk hv hk => ⟨⟨h', tk, rfl, hk⟩, ?_⟩
      obtain ⟨t, rfl⟩ := intItems_at hv
      have A1 := argBest_lt (numAt xs) (xs.size - 1)
      generalize argBest (fun i j => decide (numAt xs i < numAt xs j)) (xs.size - 1) = b at A1 hv ⊢
      have hb : b < ns.length := by omega
      have m1 : M ≤ numAt xs b := by
        rw [numAt_of f, List.getD_eq_getElem?_getD, List.getElem?_eq_getElem hb]
        exact hmin _ (List.getElem_mem hb)
      obtain ⟨j, hj, ej⟩ := List.getElem_of_mem hM
      have m2 := A1.2 j (by omega)
      have ej' : numAt xs j = M := by rw [numAt_of f, List.getD_eq_getElem?_getD, List.getElem?_eq_getElem hj]; simpa using ej
      have : numAt xs b = M := by omega
      rw [this]; exact .int _ _
theorem Con.max2 {a b : Int} (hh : A.handled = none) : Con prog w A g X (.builtin "max") [.int a, .int b] (.int (max a b)) := by
  constructor; intro s E vs hg wf r
  cases r using RL.e_cons with
  | cons q r => cases r using RL.e_cons with
    | cons q' r =>
      cases r using RL.e_nil
      cases q using RV.e_int with
      | int t => cases q' using RV.e_int with
        | int u =>
          refine max_two_ints hh fun h' tk hk => ⟨⟨h', tk, rfl, hk⟩, ?_⟩
          split
          · rw [show max a b = b by omega]; exact .int _ _
          · rw [show max a b = a by omega]; exact .int _ _
theorem Con.min2 {a b : Int} (hh : A.handled = none) : Con prog w A g X (.builtin "min") [.int a, .int b] (.int (min a b)) := by
  constructor; intro s E vs hg wf r
  cases r using RL.e_cons with
  | cons q r => cases r using RL.e_cons with
    | cons q' r =>
      cases r using RL.e_nil
      cases q using RV.e_int with
      | int t => cases q' using RV.e_int with
        | int u =>
          refine min_two_ints hh fun h' tk hk => ⟨⟨h', tk, rfl, hk⟩, ?_⟩
          split
          · rw [show min a b = b by omega]; exact .int _ _
          · rw [show min a b = a by omega]; exact .int _ _
theorem Con.intT {n : Int} (hn : PySem.intText? x = some n) (hl : x.length ≤ 640) : Con prog w A g X (.type "int") [.str x] (.int n) := by
  constructor; intro s E vs hg wf r
  cases r using RL.e_cons with
  | cons q r =>
    cases r using RL.e_nil
    cases q using RV.e_str with
    | str t => exact KIN.call_text hn hl ⟨.toks, .int _ _⟩
end
end
section
open PySem PySem.W PyProof.Rows
set_option maxRecDepth 10000
section
variable {c : Cx} {L : List (Str × D)} {O : List (Addr × List D)} {ds : List D} {d : D} {o e : Expr} {x y : Str} {apos pos : Pos}
theorem Ev.lower (ho : Ev c L O o (.str x)) (hz : x.length ≤ 5592405)
    (hb : attributeBase o (Str.ofString "lower") c.env (eval o c.env) = eval o c.env := by rfl)
    (hform : (((backTo pos (starEach [] c.env)).all (fun x => !x.1) && (backToKw pos (keywordEach [] c.env)).all (fun x => x.1.isSome)) && decide ((([] : List Expr).length + ([] : List Keyword).length + if ([] : List Keyword).isEmpty = true then 0 else 1) < 30)) = true := by rfl)
    (hline : (apos.endLine == pos.line) = true := by rfl) : Ev c L O (.Call (.Attribute o (Str.ofString "lower") apos) [] [] pos) (.str (Txt.lower x)) :=
  Ev.meth (ds := []) ho TyIs.str EvL.nil (Con.lower hz) PySem.F.plainAttrs_str PySem.F.slot_str_lower PySem.F.type_str_lower hb hform hline rfl
theorem Ev.upper (ho : Ev c L O o (.str x)) (hz : x.length ≤ 5592405)
    (hb : attributeBase o (Str.ofString "upper") c.env (eval o c.env) = eval o c.env := by rfl)
    (hform : (((backTo pos (starEach [] c.env)).all (fun x => !x.1) && (backToKw pos (keywordEach [] c.env)).all (fun x => x.1.isSome)) && decide ((([] : List Expr).length + ([] : List Keyword).length + if ([] : List Keyword).isEmpty = true then 0 else 1) < 30)) = true := by rfl)
    (hline : (apos.endLine == pos.line) = true := by rfl) : Ev c L O (.Call (.Attribute o (Str.ofString "upper") apos) [] [] pos) (.str (Txt.upper x)) :=
  Ev.meth (ds := []) ho TyIs.str EvL.nil (Con.upper hz) PySem.F.plainAttrs_str PySem.F.slot_str_upper PySem.F.type_str_upper hb hform hline rfl
theorem Ev.globI {i : Int} {t : Tok} (hx : c.env.kindOf x = some .globalImplicit) (hv : Gv c.g x (.int i t)) (hd : (x == ("__debug__" : Str)) = false := by decide +kernel) : Ev c L O (.Name x pos) (.int i) := Ev.globV hx hv (fun _ => .int _ _) hd
theorem Ev.globS {y : Str} {t : Tok} (hx : c.env.kindOf x = some .globalImplicit) (hv : Gv c.g x (.str y t)) (hd : (x == ("__debug__" : Str)) = false := by decide +kernel) : Ev c L O (.Name x pos) (.str y) := Ev.globV hx hv (fun _ => .str _ _) hd
/-- a method with one word -/
theorem Ev.meth1 {name : Str} {T id : String} {d d₁ r : D} (ho : Ev c L O o d) (hT : TyIs c d T) (he : Ev c L O e d₁) (hc : Con c.prog c.w c.A c.g c.X (.builtin id) [d, d₁] r) (pa : PlainAttrs T) (sl : Slot T name id) (ty : typeOf (.builtin id) = pure (.type "method_descriptor"))
    (hse : backTo pos (starEach [e] c.env) = [(false, eval e c.env)] := by rfl)
    (hb : attributeBase o name c.env (eval o c.env) = eval o c.env := by rfl)
    (hform : (((backTo pos (starEach [e] c.env)).all (fun x => !x.1) && (backToKw pos (keywordEach [] c.env)).all (fun x => x.1.isSome)) && decide (([e].length + ([] : List Keyword).length + if ([] : List Keyword).isEmpty = true then 0 else 1) < 30)) = true := by rfl)
    (hline : (apos.endLine == pos.line) = true := by rfl) (hplain : (backTo pos (starEach [e] c.env)).any (·.1) = false := by rfl) : Ev c L O (.Call (.Attribute o name apos) [e] [] pos) r :=
  Ev.meth (ds := [d₁]) ho hT (by rw [hse]; exact EvL.cons he EvL.nil) hc pa sl ty hb hform hline hplain
theorem PatAt.ty {p : Addr} {code : Array Nat} {g : Nat} (P : PatAt c.g p code g) : TyIs c (.fix (.ref p)) "re.Pattern" := by
  refine P.elim fun px pt y t₂ b o o' vs n ho hc hod _ _ _ _ => ?_
  exact TyIs.at ho hc hod
end
end
open PySem PySem.W PyProof.Rows
local macro_rules | `(tactic| tm_at "kl look") => `(tactic| first | with_reducible exact look_here | (refine look_there ?hn ?hl; (case hn => kernel_rfl); (case hl => tm_at "kl look")))
local macro_rules | `(tactic| tm_at "kl fact") => `(tactic| first | with_reducible assumption | decide | omega)
local macro_rules | `(tactic| tm_at "kl size") => `(tactic| first | with_reducible assumption | ((show _ ≤ 16777216); (try simp only [len_add, dig2_len]); omega))
local macro_rules | `(tactic| tm_at "kl size2") => `(tactic| first | with_reducible assumption | omega | decide)
local macro_rules | `(tactic| tm_at "kl bin") => `(tactic| first
  | with_reducible exact BinIs.addI | with_reducible exact BinIs.subI
  | ((with_reducible refine BinIs.modI ?hz); (case hz => tm_at "kl fact"))
  | ((with_reducible refine BinIs.divI ?hz ?hy); (case hz => tm_at "kl fact"); (case hy => tm_at "kl fact"))
  | ((with_reducible refine BinIs.mulI ?hz ?hy); (case hz => tm_at "kl fact"); (case hy => tm_at "kl fact"))
  | ((with_reducible refine BinIs.addS ?hz); (case hz => tm_at "kl size")) | ((with_reducible refine BinIs.addL ?hz); (case hz => tm_at "kl size")))
local macro_rules | `(tactic| tm_at "kl cmp") => `(tactic| with_reducible first | exact CmpIs.eqI | exact CmpIs.ltI | exact CmpIs.gtI | exact CmpIs.leI | exact CmpIs.eqS | exact CmpIs.neS | exact CmpIs.isNN | exact CmpIs.isIN | exact CmpIs.notNN | exact CmpIs.notMN)
local macro_rules | `(tactic| tm_at "kl item") => `(tactic| first
  | ((with_reducible refine ItIs.lst ?hk ?h1 ?h2); (case hk => rfl); (case h1 => tm_at "kl fact"); (case h2 => tm_at "kl fact"))
  | ((with_reducible refine ItIs.tup ?hk ?h1 ?h2); (case hk => rfl); (case h1 => tm_at "kl fact"); (case h2 => tm_at "kl fact"))
  | ((with_reducible refine ItIs.two ?h0 ?h1); (case h0 => tm_at "kl fact"); (case h1 => tm_at "kl fact"))
  | ((with_reducible refine ItIs.three ?h0 ?h1); (case h0 => tm_at "kl fact"); (case h1 => tm_at "kl fact"))
  | ((with_reducible refine ItIs.four ?h0 ?h1); (case h0 => tm_at "kl fact"); (case h1 => tm_at "kl fact"))
  | ((with_reducible refine ItIs.twoI ?h0 ?h1); (case h0 => tm_at "kl fact"); (case h1 => tm_at "kl fact")))
local macro_rules | `(tactic| tm_at "kl evs") => `(tactic| first
  | exact EvL.nil
  | (refine EvL.cons (d := ?d) (ds := ?ds) ?h1 ?h2; (case h1 => tm_at "kl ev"); (case h2 => tm_at "kl evs")))
local macro_rules | `(tactic| tm_at "kl part") => `(tactic| first | with_reducible exact EvP.none | (refine EvP.some (a := ?a) ?h1; (case h1 => tm_at "kl ev")))
local macro_rules | `(tactic| tm_at "kl ev") => `(tactic| first
  | with_reducible exact Ev.int | with_reducible exact Ev.str | with_reducible exact Ev.none | with_reducible exact Ev.bool
  | ((with_reducible refine Ev.name ?h0); tm_at "kl look")
  | ((with_reducible refine Ev.bin (a := ?a) (b := ?b) ?h1 ?h2 ?h3); (case h1 => tm_at "kl ev"); (case h2 => tm_at "kl ev"); (case h3 => tm_at "kl bin"))
  | ((with_reducible refine Ev.negI (a := ?a) ?h1); (case h1 => tm_at "kl ev"))
  | ((with_reducible refine Ev.list (ds := ?ds) ?h1 ?h2); (case h1 => tm_at "kl evs"); (case h2 => exact Nat.le_of_ble_eq_true rfl))
  | ((with_reducible refine Ev.tuple (ds := ?ds) ?h1 ?h2); (case h1 => tm_at "kl evs"); (case h2 => exact Nat.le_of_ble_eq_true rfl))
  | ((with_reducible refine Ev.sliceS (x := ?x) (lo := ?lo) (hi := ?hi) ?h1 ?h2 ?h3 ?h4); (case h1 => tm_at "kl ev"); (case h2 => tm_at "kl part"); (case h3 => tm_at "kl part"); (case h4 => tm_at "kl size"))
  | ((with_reducible refine Ev.sliceL (ds := ?ds) (lo := ?lo) (hi := ?hi) ?h1 ?h2 ?h3 ?h4); (case h1 => tm_at "kl ev"); (case h2 => tm_at "kl part"); (case h3 => tm_at "kl part"); (case h4 => tm_at "kl size"))
  | ((with_reducible refine Ev.sub (d := ?d) (e := ?e) ?h1 ?h2 ?h3 ?hs); (case hs => (intros; rfl)); (case h1 => tm_at "kl ev"); (case h2 => tm_at "kl ev"); (case h3 => tm_at "kl item"))
  | ((with_reducible refine Ev.callv (f := ?f) (d₁ := ?d1) (ds := ?ds) (Ev.glob (by kernel_rfl) ?hg (by kernel_rfl)) ?hfun ?hs ?h1 ?h2 ?hp ?hc); (case hs => rfl); (case hp => rfl); (case hg => tm_at "kl glob"); (case hfun => tm_at "kl fun"); (case h1 => tm_at "kl ev"); (case h2 => tm_at "kl evs"); (case hc => tm_at "kl con"))
  | ((with_reducible refine Ev.string (sp := ?sp) ?h1 ?hb); (case hb => with_unfolding_all rfl); (case h1 => tm_at "kl ev"))
  | ((with_reducible refine Ev.lower (x := ?x) ?h1 ?hz ?hb ?hf ?hl); (case hb => rfl); (case hf => rfl); (case hl => rfl); (case h1 => tm_at "kl ev"); (case hz => tm_at "kl size2"))
  | ((with_reducible refine Ev.upper (x := ?x) ?h1 ?hz ?hb ?hf ?hl); (case hb => rfl); (case hf => rfl); (case hl => rfl); (case h1 => tm_at "kl ev"); (case hz => tm_at "kl size2"))
  | ((with_reducible refine Ev.globI (i := ?i) (t := ?t) (by kernel_rfl) ?hg (by kernel_rfl)); (case hg => tm_at "kl glob"))
  | ((with_reducible refine Ev.globS (y := ?y) (t := ?t) (by kernel_rfl) ?hg (by kernel_rfl)); (case hg => tm_at "kl glob"))
  | ((with_reducible refine Ev.ifx (b := ?b) ?h1 ?h2 ?h3); (case h1 => tm_at "kl tst"); (case h2 => (intro hif; tm_at "kl ev")); (case h3 => (intro hif; tm_at "kl ev"))))
local macro_rules | `(tactic| tm_at "kl fun") => `(tactic| first | exact .inl ⟨_, rfl⟩ | exact .inr (.inl ⟨_, rfl⟩) | with_reducible assumption | (refine FnAt.fun ?_; first | exact Base.f_offset_from_tz_string ‹_› | exact Base.f_unmatched ‹_› | exact Base.f_fix_eols ‹_› | exact Base.f_substitution_cost ‹_› | exact Base.f_law_zone ‹_› | exact Base.f_law_row ‹_› | exact Base.f_law_pieces ‹_› | exact Base.f_law_ring ‹_›))
local macro_rules | `(tactic| tm_at "kl tst") => `(tactic| first
  | (refine Tst.cmp (d := ?d) (e := ?e) ?h1 ?h2 ?h3 (by with_unfolding_all rfl); (case h1 => tm_at "kl ev"); (case h2 => tm_at "kl ev"); (case h3 => tm_at "kl cmp"))
  | (refine Tst.and (t := ?t) (d := ?d) ?h1 ?h2; (case h1 => tm_at "kl tst"); (case h2 => (intro hif; tm_at "kl tst"))))
local macro_rules | `(tactic| tm_at "kl asg") => `(tactic| ((refine Ex.assign (d := ?d) ?he (.inl (by kernel_rfl)) ?h (by rfl)); (case he => tm_at "kl ev")))
local macro_rules | `(tactic| tm_at "kl if") => `(tactic| ((refine Ex.ite (b := ?b) ?ht ?hp ?hq); (case ht => tm_at "kl tst")))
local macro_rules | `(tactic| tm_at "kl ret") => `(tactic| (refine Ex.retv (Ev.eq (d := ?d) ?he ?hd); (case he => tm_at "kl ev")))
local macro_rules | `(tactic| tm_at "kl nret") => `(tactic| (refine Nx.ret (Ex.retv (Ev.eq (d := ?d) ?he ?hd)); (case he => tm_at "kl ev")))
local macro_rules | `(tactic| tm_at "kl done") => `(tactic| refine Ex.done ?_)
local macro_rules | `(tactic| tm_at "kl evto") => `(tactic| (refine Ev.eq (d := ?d) ?he ?hd; (case he => tm_at "kl ev"); (case hd => rfl)))
local macro_rules | `(tactic| tm_at "kl glob") => `(tactic| first | exact Base.g_len ‹_› | exact Base.g_abs ‹_› | exact Base.g_min ‹_› | exact Base.g_max ‹_› | exact Base.g_sum ‹_› | exact Base.g_str ‹_› | exact Base.g_int ‹_› | exact Base.g_range ‹_› | exact Base.g_UTC_ZONES ‹_› | exact Base.g_TIMEZONE_RE ‹_› | exact Base.g_offset_from_tz_string ‹_› | exact Base.g_unmatched ‹_› | exact Base.g_HEADER_TOKEN_RE ‹_› | exact Base.g_HEADER_ESCAPE_RE ‹_› | exact Base.g_twin_re_1 ‹_› | exact Base.g_CRLF ‹_› | exact Base.g_SMTPSenderRefused ‹_› | exact Base.g_fix_eols ‹_› | exact Base.g_safe_string ‹_› | exact Base.g_MOVE_COST ‹_› | exact Base.g_CASE_COST ‹_› | exact Base.g_substitution_cost ‹_› | exact Base.g_law_zone ‹_› | exact Base.g_law_row ‹_› | exact Base.g_law_pieces ‹_› | exact Base.g_law_reckon ‹_› | exact Base.g_law_ring ‹_›)
section
open PySem PySem.W PyProof.Rows
theorem small_log {a : Int} (h : a.natAbs < 1000000) : a.natAbs.log2 < 1920 := by
  rcases Nat.eq_zero_or_pos a.natAbs with h0 | hp
  · rw [h0]; decide
  · exact Nat.lt_trans ((Nat.log2_lt (k := 20) (Nat.ne_of_gt hp)).mpr (by omega)) (by decide)
theorem Con.dig1 {prog : Program} {w : World} {A : Around} {g : Heap} {X : List Addr} {a : Int} (h0 : 0 ≤ a) (h1 : a < 24) : Con prog w A g X (.type "str") [.int a] (.str (dig1 a.toNat)) := by
  have := dig1_is a.toNat (by omega)
  rw [Int.toNat_of_nonneg h0] at this
  rw [← this]
  exact Con.strI (small_log (by omega))
theorem zSign_len (y : Int) : (zSign y).length ≤ 1 := by unfold zSign; split <;> (try split) <;> decide
theorem Con.str2 {prog : Program} {w : World} {A : Around} {g : Heap} {X : List Addr} {a : Int} (h0 : 0 ≤ a) (h1 : a < 100) : Con prog w A g X (.type "str") [.int (100 + a)] (.str (Str.ofString (toString (100 + a)))) := Con.strI (small_log (by omega))
theorem len3' {a : Int} (h0 : 0 ≤ a) (h1 : a < 100) : (Str.ofString (toString (100 + a))).length ≤ 3 := by
  have := len3 a.toNat (by omega)
  rw [Int.toNat_of_nonneg h0] at this; omega
theorem dig2_is' {a : Int} (h0 : 0 ≤ a) (h1 : a < 100) : Txt.slice (Str.ofString (toString (100 + a))) (some 1) none = dig2 a.toNat := by
  have := dig2_is a.toNat (by omega)
  rwa [Int.toNat_of_nonneg h0] at this
theorem zSign_minus {y : Int} : (zSign y == Str.ofString "-") = decide (y / 96 % 3 = 2) := by
  have n0 : 0 ≤ y / 96 % 3 := by omega
  have n1 : y / 96 % 3 < 3 := by omega
  unfold zSign
  by_cases h0 : y / 96 % 3 = 0
  · rw [if_pos h0, h0]; decide
  · by_cases h1 : y / 96 % 3 = 1
    · rw [if_neg h0, if_pos h1, h1]; decide
    · have : y / 96 % 3 = 2 := by omega
      rw [if_neg h0, if_neg h1, this]; decide
local macro_rules | `(tactic| tm_at "kl con") => `(tactic| first | (refine Con.str2 ?h1 ?h2; (case h1 => with_reducible assumption); (case h2 => with_reducible assumption)) | (refine Con.dig1 ?h1 ?h2; (case h1 => with_reducible assumption); (case h2 => with_reducible assumption)))
set_option maxRecDepth 10000
theorem zone_c {prog : Program} {w : World} {A : Around} {g : Heap} {V : List Addr} {y : Int} (B : Base prog w g) (ok : Ok 2 A) :
    Con prog w A g V (.ref 146) [.int y] (.tup [.str (zW y), .int (zS y)]) := by
  refine Con.fn (n := 1) [Str.ofString "y"] [(Str.ofString "y", .int y)] rfl B.f_law_zone B.nl ok rfl (by decide +kernel) ?_ ?_ ?_ (by kernel_rfl) (by kernel_rfl) (by kernel_rfl) (by decide +kernel)
  · intro pm cd doc vs hvs
    match vs, hvs with
    | [v], _ => rfl
  · intro x hx
    rcases List.mem_cons.mp hx with rfl | hx
    · rfl
    · cases hx
  · intro s₀ cd hg
    have B' := B.keep hg
    have q0 : 0 ≤ y / 24 % 4 := by omega
    have q1 : y / 24 % 4 < 4 := by omega
    have p0 : 0 ≤ y % 24 := by omega
    have p1 : y % 24 < 24 := by omega
    have d0 : 0 ≤ y / 288 % 4 := by omega
    have d1 : y / 288 % 4 < 4 := by omega
    have n0 : 0 ≤ y / 96 % 3 := by omega
    have n1 : y / 96 % 3 < 3 := by omega
    tm_at "kl asg"
    tm_at "kl asg"
    tm_at "kl asg"
    tm_at "kl if"
    case hp =>
      intro hb
      have hb' : y / 288 % 4 = 3 := by simpa using hb
      tm_at "kl nret"
      simp only [zW, zS, zName, if_pos hb']
    case hq =>
      intro hb
      have hb' : y / 288 % 4 ≠ 3 := by simpa using hb
      tm_at "kl done"
      tm_at "kl if"
      case hp =>
        intro hc
        have hc' : y / 288 % 4 = 2 := by simpa using hc
        tm_at "kl asg"
        tm_at "kl asg"
        tm_at "kl done"
        tm_at "kl asg"
        refine Ex.assign (d := .str (zSign y)) ?_ (.inl (by kernel_rfl)) ?_ (by rfl)
        · tm_at "kl evto"
        have l1 := zSign_len y
        have l2 := dig1_len (y % 24).toNat
        tm_at "kl if"
        case hp =>
          intro hd
          tm_at "kl asg"
          tm_at "kl done"
          tm_at "kl ret"
          rw [zSign_minus] at hd
          have hd' : y / 96 % 3 = 2 := by simpa using hd
          simp only [zW, zS, zFig, zSec, if_neg hb', if_pos hc', if_pos hd']
        case hq =>
          intro hd
          tm_at "kl done"
          tm_at "kl ret"
          rw [zSign_minus] at hd
          have hd' : y / 96 % 3 ≠ 2 := by simpa using hd
          simp only [zW, zS, zFig, zSec, if_neg hb', if_pos hc', if_neg hd']
      case hq =>
        intro hc
        have hc' : y / 288 % 4 ≠ 2 := by simpa using hc
        have r0 : 0 ≤ 15 * (y / 24 % 4) := by omega
        have r1 : 15 * (y / 24 % 4) < 100 := by omega
        have p2 : y % 24 < 100 := by omega
        have l3 := len3' p0 p2
        have l4 := len3' r0 r1
        have e0 : y / 288 % 4 < 2 := by omega
        have l5 : (Txt.slice (Str.ofString (toString (100 + y % 24))) (some 1) none).length = 2 := by rw [dig2_is' p0 p2]; rfl
        have l6 : (Txt.slice (Str.ofString (toString (100 + 15 * (y / 24 % 4)))) (some 1) none).length = 2 := by rw [dig2_is' r0 r1]; rfl
        have l7 : (if y / 288 % 4 = 0 then Str.ofString ":" else Str.ofString "").length ≤ 1 := by split <;> decide
        tm_at "kl asg"
        tm_at "kl done"
        tm_at "kl asg"
        refine Ex.assign (d := .str (zSign y)) ?_ (.inl (by kernel_rfl)) ?_ (by rfl)
        · tm_at "kl evto"
        have l1 := zSign_len y
        tm_at "kl if"
        case hp =>
          intro hd
          tm_at "kl asg"
          tm_at "kl done"
          tm_at "kl ret"
          rw [zSign_minus] at hd
          have hd' : y / 96 % 3 = 2 := by simpa using hd
          simp only [zW, zS, zFig, zSec, if_neg hb', if_neg hc', if_pos hd', dig2_is' p0 p2, dig2_is' r0 r1]
        case hq =>
          intro hd
          tm_at "kl done"
          tm_at "kl ret"
          rw [zSign_minus] at hd
          have hd' : y / 96 % 3 ≠ 2 := by simpa using hd
          simp only [zW, zS, zFig, zSec, if_neg hb', if_neg hc', if_neg hd', dig2_is' p0 p2, dig2_is' r0 r1]
end
section
open PySem PySem.W PyProof.Rows
set_option maxRecDepth 10000
local macro_rules | `(tactic| tm_at "kl con") => `(tactic| fail "no con")
section
variable {prog : Program} {w : World} {A : Around} {g : Heap} {V : List Addr}
theorem one_local {nm : Str} {scope : Scope} (h : scope.names.lookup nm = some .local) : ∀ x ∈ [nm], scope.names.lookup x = some .local := by
  intro x hx
  rcases List.mem_cons.mp hx with rfl | hx
  · exact h
  · cases hx
theorem two_local {n m : Str} {scope : Scope} (h : scope.names.lookup n = some .local) (h' : scope.names.lookup m = some .local) : ∀ x ∈ [n, m], scope.names.lookup x = some .local := by
  intro x hx
  rcases List.mem_cons.mp hx with rfl | hx
  · exact h
  · exact one_local h' x hx
/-- what the cost of a change is -/
noncomputable def cost (a b : Str) : Int := if a = b then 0 else if Txt.lower a = Txt.lower b then 1 else 2
theorem cost_c {a b : Str} (B : Base prog w g) (ok : Ok 2 A) (ha : a.length ≤ 1000) (hb : b.length ≤ 1000) : Con prog w A g V (.ref 139) [.str a, .str b] (.int (cost a b)) := by
  have ha' : a.length ≤ 5592405 := by omega
  have hb' : b.length ≤ 5592405 := by omega
  refine Con.fn (n := 1) [Str.ofString "ch_a", Str.ofString "ch_b"] [(Str.ofString "ch_a", .str a), (Str.ofString "ch_b", .str b)] rfl B.f_substitution_cost B.nl ok rfl (by decide +kernel) ?_ (two_local (by kernel_rfl) (by kernel_rfl)) ?_ (by kernel_rfl) (by kernel_rfl) (by kernel_rfl) (by decide +kernel)
  · intro pm cd doc vs hvs
    match vs, hvs with
    | [v, u], _ => rfl
  · intro s₀ cd hg
    have B' := B.keep hg
    tm_at "kl if"
    case hp =>
      intro h
      have h' : a = b := by simpa using h
      tm_at "kl nret"
      rw [cost, if_pos h']
    case hq =>
      intro h
      have h' : a ≠ b := by simpa using h
      tm_at "kl done"
      tm_at "kl if"
      case hp =>
        intro h2
        have h2' : Txt.lower a = Txt.lower b := by simpa using h2
        tm_at "kl nret"
        rw [cost, if_neg h', if_pos h2']
      case hq =>
        intro h2
        have h2' : Txt.lower a ≠ Txt.lower b := by simpa using h2
        tm_at "kl done"
        tm_at "kl ret"
        rw [cost, if_neg h', if_neg h2']
theorem unmatched_c {x : Str} {sp : List Int} {b e : Int} (B : Base prog w g) (ok : Ok 2 A) (hb : sp[0]? = some b) (he : sp[1]? = some e) (hz : x.length ≤ 4000000) : Con prog w A g V (.ref 51) [.mat x sp] (.str (Txt.slice x none (some b) ++ Txt.slice x (some e) none)) := by
  have hz' : x.length ≤ sizeLine := Nat.le_trans hz (by decide)
  refine Con.fn (n := 1) [Str.ofString "match"] [(Str.ofString "match", .mat x sp)] rfl B.f_unmatched B.nl ok rfl (by decide +kernel) ?_ (one_local (by kernel_rfl)) ?_ (by kernel_rfl) (by kernel_rfl) (by kernel_rfl) (by decide +kernel)
  · intro pm cd doc vs hvs
    match vs, hvs with
    | [v], _ => rfl
  · intro s₀ cd hg
    have B' := B.keep hg
    have z1 := Txt.slice_le x none (some b)
    have z2 := Txt.slice_le x (some e) none
    have z3 : (Txt.slice x none (some b)).length + (Txt.slice x (some e) none).length ≤ sizeLine := by
      have : (16777216 : Nat) ≤ sizeLine := by decide
      omega
    refine Ex.unpack2 (d₁ := .int b) (d₂ := .int e) ?_ (.inl (by kernel_rfl)) (.inl (by kernel_rfl)) ok.handled ?_ (by rfl) (by rfl)
    · refine Ev.meth1 (d := .mat x sp) (d₁ := .int 0) ?_ TyIs.mat Ev.int (Con.span hb he) plain_mat slot_span type_span (by rfl) (by rfl) (by rfl) (by rfl) (by rfl)
      tm_at "kl ev"
    · tm_at "kl ret"
      rfl
theorem fix_eols_c {x : Str} {cs : List (List Nat × Nat)} (B : Base prog w g) (ok : Ok 2 A) (hx : x.cps = (lines cs).toArray) (hcs : ∀ q ∈ cs, LineOk q ∧ q.2 < 3) (hne : cs ≠ []) (hn : cs.length ≤ 400) (hz : x.cps.size ≤ 4000000) :
    Con prog w A g V (.ref 124) [.str x] (.str ⟨(evened cs).toArray⟩) := by
  refine Con.fn (n := 1) [Str.ofString "data"] [(Str.ofString "data", .str x)] rfl B.f_fix_eols B.nl ok rfl (by decide +kernel) ?_ (one_local (by kernel_rfl)) ?_ (by kernel_rfl) (by kernel_rfl) (by kernel_rfl) (by decide +kernel)
  · intro pm cd doc vs hvs
    match vs, hvs with
    | [v], _ => rfl
  · intro s₀ cd hg
    have B' := B.keep hg
    refine Ex.retv ?_
    refine Ev.meth (d := .fix (.ref 66)) (ds := [.str ⟨#[13, 10]⟩, .str x]) (Ev.glob (by kernel_rfl) B'.g_twin_re_1 (by kernel_rfl)) B'.p_66.ty ?_ (Con.sub B'.p_66 hx hcs hne hn hz) plain_pat slot_sub type_sub (by rfl) (by rfl) (by rfl) (by rfl)
    tm_at "kl evs"
end
end
section
open PySem PySem.W PyProof.Rows
set_option maxRecDepth 10000
local macro_rules | `(tactic| tm_at "kl con") => `(tactic| fail "no con")
/-- a text or nothing -/
noncomputable def optD : Option Str → D
  | none => .none
  | some x => .str x
/-- a text that is not empty -/
noncomputable def optT : Option Str → Bool
  | none => false
  | some x => (x.length : Int) != 0
/-- what a group holds -/
noncomputable def grp (x : Str) (sp : List Int) (k : Nat) : Option Str := match sp[2 * k]?, sp[2 * k + 1]? with
  | some (.ofNat b), some (.ofNat e) => some (cutS x b e)
  | _, _ => none
structure GrpOk (x : Str) (sp : List Int) (k : Nat) (o : Option Str) : Prop where
  is : (∃ b e : Nat, sp[2 * k]? = some (b : Int) ∧ sp[2 * k + 1]? = some (e : Int) ∧ o = some (cutS x b e)) ∨ (sp[2 * k]? = some (-1) ∧ o = none)
section
variable {prog : Program} {w : World} {A : Around} {g : Heap} {V X : List Addr} {x y : Str} {sp : List Int} {k : Nat} {o : Option Str} {c : Cx} {L : List (Str × D)} {O : List (Addr × List D)} {e : Expr}
theorem Con.groupO (h : GrpOk x sp k o) (hz : x.length ≤ sizeLine) : Con prog w A g X (.builtin "re.Match.group") [.mat x sp, .int k] (optD o) := by
  rcases h.is with ⟨b, e, h1, h2, rfl⟩ | ⟨h1, rfl⟩
  · exact Con.group h1 h2 hz
  · exact Con.groupNo h1
theorem Tst.opt (he : Ev c L O e (optD o)) (hz : ∀ x, o = some x → x.length < 1000000000) (hi : PySem.isTrue e c.env (eval e c.env) = (do let v ← eval e c.env; standAt e.pos; holding [v] (truthy v)) := by rfl) : Tst c L O e (optT o) := by
  cases o with
  | none => exact Tst.none he hi
  | some x => exact Tst.str he (hz x rfl) hi
theorem CmpIs.opt (hy : SeqAt.shaped (.str y) = true) (hu : c.A.units + 64 < cLine) : CmpIs c .Eq (optD o) (.str y) (o == some y) := by
  cases o with
  | none => exact CmpIs.eqP (by simp [optD, D.pure]) (by simp [D.pure]) (by simp [optD, D.py]; rfl) (by simp [D.py]; exact hy) hu
  | some x =>
    have := CmpIs.eqS (c := c) (x := x) (y := y)
    have e : (some x == some y) = (x == y) := by simp
    rw [e]; exact this
end
section
variable {prog : Program} {w : World} {A : Around} {g : Heap} {V : List Addr} {x : Str} {sp : List Int}
theorem offset_in (B : Base prog w g) (ok : Ok 2 A) (hin : (valueAt zoneK x).isSome = true) : Con prog w A g V (.ref 44) [.str x] (.int 0) := by
  refine Con.fn (n := 1) [Str.ofString "tz"] [(Str.ofString "tz", .str x)] rfl B.f_offset_from_tz_string B.nl ok rfl (by decide +kernel) ?_ (one_local (by kernel_rfl)) ?_ (by kernel_rfl) (by kernel_rfl) (by kernel_rfl) (by decide +kernel)
  · intro pm cd doc vs hvs
    match vs, hvs with
    | [v], _ => rfl
  · intro s₀ cd hg
    have B' := B.keep hg
    tm_at "kl asg"
    refine Ex.ite (b := true) ?_ (fun _ => ?_) (fun h => by cases h)
    · rw [← hin]
      refine Tst.inD (x := x) ?_ (Ev.glob (by kernel_rfl) B'.g_UTC_ZONES (by kernel_rfl)) B'.zones (by decide +kernel) (by with_unfolding_all rfl)
      tm_at "kl ev"
    · tm_at "kl asg"
      tm_at "kl done"
      tm_at "kl ret"
      rfl
theorem offset_no (B : Base prog w g) (ok : Ok 2 A) (hin : (valueAt zoneK x).isSome = false) (hz : x.cps.size ≤ 4294967295) (hl : Leads 1000 (Sre.forSearch tzC x.cps 3 0 x.cps.size false) (fun r => ∃ q, r.outcome = some q ∧ (q matches .failed) = true)) : Con prog w A g V (.ref 44) [.str x] .none := by
  refine Con.fn (n := 1) [Str.ofString "tz"] [(Str.ofString "tz", .str x)] rfl B.f_offset_from_tz_string B.nl ok rfl (by decide +kernel) ?_ (one_local (by kernel_rfl)) ?_ (by kernel_rfl) (by kernel_rfl) (by kernel_rfl) (by decide +kernel)
  · intro pm cd doc vs hvs
    match vs, hvs with
    | [v], _ => rfl
  · intro s₀ cd hg
    have B' := B.keep hg
    tm_at "kl asg"
    refine Ex.ite (b := false) ?_ (fun h => by cases h) (fun _ => ?_)
    · rw [← hin]
      refine Tst.inD (x := x) ?_ (Ev.glob (by kernel_rfl) B'.g_UTC_ZONES (by kernel_rfl)) B'.zones (by decide +kernel) (by with_unfolding_all rfl)
      tm_at "kl ev"
    · refine Ex.assign (d := .none) ?_ (.inl (by kernel_rfl)) ?_ (by rfl)
      · refine Ev.meth1 (d := .fix (.ref 37)) (d₁ := .str x) (Ev.glob (by kernel_rfl) B'.g_TIMEZONE_RE (by kernel_rfl)) B'.p_37.ty ?_ (Con.searchNo hz B'.p_37 (by decide) hl) plain_pat slot_search type_search (by rfl) (by rfl) (by rfl) (by rfl) (by rfl)
        tm_at "kl ev"
      · refine Ex.ite (b := false) (Tst.none ?_ (by rfl)) (fun h => by cases h) (fun _ => ?_)
        · tm_at "kl ev"
        · refine Ex.done ?_
          refine Ex.done ?_
          tm_at "kl ret"
          rfl
end
end
section
open PySem PySem.W PyProof.Rows
set_option maxRecDepth 10000
local macro_rules | `(tactic| tm_at "kl con") => `(tactic| (refine Con.intT ?h1 ?h2; (case h1 => with_reducible assumption); (case h2 => with_reducible assumption)))
section
variable {prog : Program} {w : World} {A : Around} {g : Heap} {V : List Addr} {x : Str} {sp : List Int} {o1 o3 : Option Str} {h : Str} {hn mn : Int}
/-- the seconds that a zone's groups tell -/
noncomputable def told (o1 o3 : Option Str) (hn mn : Int) : Int := let v := if o3.isSome then 3600 * hn + 60 * mn else 3600 * hn; if o1 = some (Str.ofString "-") then -v else v
theorem offset_yes (B : Base prog w g) (ok : Ok 2 A) (hin : (valueAt zoneK x).isSome = false) (hz : x.cps.size ≤ 1000) (hl : Leads 1000 (Sre.forSearch tzC x.cps 3 0 x.cps.size false) (Found 3 sp)) (hsp : sp.length ≤ 1000)
    (g1 : GrpOk x sp 1 o1) (g2 : GrpOk x sp 2 (some h)) (g3 : GrpOk x sp 3 o3) (hh : PySem.intText? h = some hn) (hlen : h.length ≤ 640) (hm : ∀ m, o3 = some m → PySem.intText? m = some mn ∧ 0 < m.length ∧ m.length ≤ 640) :
    Con prog w A g V (.ref 44) [.str x] (.int (told o1 o3 hn mn)) := by
  have hz' : x.length ≤ sizeLine := Nat.le_trans hz (by decide)
  have hz'' : x.cps.size ≤ 4294967295 := Nat.le_trans hz (by decide)
  have hsp' : sp.length ≤ sizeLine := Nat.le_trans hsp (by decide)
  refine Con.fn (n := 1) [Str.ofString "tz"] [(Str.ofString "tz", .str x)] rfl B.f_offset_from_tz_string B.nl ok rfl (by decide +kernel) ?_ (one_local (by kernel_rfl)) ?_ (by kernel_rfl) (by kernel_rfl) (by kernel_rfl) (by decide +kernel)
  · intro pm cd doc vs hvs
    match vs, hvs with
    | [v], _ => rfl
  · intro s₀ cd hg
    have B' := B.keep hg
    tm_at "kl asg"
    refine Ex.ite (b := false) ?_ (fun h => by cases h) (fun _ => ?_)
    · rw [← hin]
      refine Tst.inD (x := x) ?_ (Ev.glob (by kernel_rfl) B'.g_UTC_ZONES (by kernel_rfl)) B'.zones (by decide +kernel) (by with_unfolding_all rfl)
      tm_at "kl ev"
    · refine Ex.assign (d := .mat x sp) ?_ (.inl (by kernel_rfl)) ?_ (by rfl)
      · refine Ev.meth1 (d := .fix (.ref 37)) (d₁ := .str x) (Ev.glob (by kernel_rfl) B'.g_TIMEZONE_RE (by kernel_rfl)) B'.p_37.ty ?_ (Con.search hz'' B'.p_37 (by decide) hl hsp') plain_pat slot_search type_search (by rfl) (by rfl) (by rfl) (by rfl) (by rfl)
        tm_at "kl ev"
      · refine Ex.ite (b := true) (Tst.mat (x := x) (sp := sp) ?_ (by rfl)) (fun _ => ?_) (fun h => by cases h)
        · tm_at "kl ev"
        · refine Ex.assign (d := .int (3600 * hn)) ?_ (.inl (by kernel_rfl)) ?_ (by rfl)
          · refine Ev.bin (a := .int 3600) (b := .int hn) Ev.int ?_ (BinIs.mulI (by decide) (by decide))
            refine Ev.callv (d₁ := .str h) (ds := []) (Ev.glob (by kernel_rfl) B'.g_int (by kernel_rfl)) (.inr (.inl ⟨_, rfl⟩)) (by rfl) ?_ EvL.nil (by rfl) (Con.intT hh hlen)
            refine Ev.meth1 (d := .mat x sp) (d₁ := .int (2 : Nat)) ?_ TyIs.mat Ev.int (Con.groupO g2 hz') plain_mat slot_group type_group (by rfl) (by rfl) (by rfl) (by rfl) (by rfl)
            tm_at "kl ev"
          · refine Ex.ite (b := o3.isSome) ?_ (fun h3 => ?_) (fun h3 => ?_)
            · have e : o3.isSome = optT o3 := by
                cases o3 with
                | none => rfl
                | some m =>
                  have := (hm m rfl).2.1
                  simp [optT]; omega
              rw [e]
              refine Tst.opt (o := o3) ?_ (fun m hm' => by have := (hm m hm').2.2; omega) (by rfl)
              refine Ev.meth1 (d := .mat x sp) (d₁ := .int (3 : Nat)) ?_ TyIs.mat Ev.int (Con.groupO g3 hz') plain_mat slot_group type_group (by rfl) (by rfl) (by rfl) (by rfl) (by rfl)
              tm_at "kl ev"
            · cases o3 with
              | none => cases h3
              | some m =>
                obtain ⟨m1, m2, m3⟩ := hm m rfl
                refine Ex.assign (d := .int (3600 * hn + 60 * mn)) ?_ (.inl (by kernel_rfl)) ?_ (by rfl)
                · refine Ev.bin (a := .int (3600 * hn)) (b := .int (60 * mn)) ?_ ?_ BinIs.addI
                  · tm_at "kl ev"
                  · refine Ev.bin (a := .int 60) (b := .int mn) Ev.int ?_ (BinIs.mulI (by decide) (by decide))
                    refine Ev.callv (d₁ := .str m) (ds := []) (Ev.glob (by kernel_rfl) B'.g_int (by kernel_rfl)) (.inr (.inl ⟨_, rfl⟩)) (by rfl) ?_ EvL.nil (by rfl) (Con.intT m1 m3)
                    refine Ev.meth1 (d := .mat x sp) (d₁ := .int (3 : Nat)) ?_ TyIs.mat Ev.int (Con.groupO g3 hz') plain_mat slot_group type_group (by rfl) (by rfl) (by rfl) (by rfl) (by rfl)
                    tm_at "kl ev"
                · refine Ex.done ?_
                  refine Ex.ite (b := (o1 == some (Str.ofString "-"))) ?_ (fun h1 => ?_) (fun h1 => ?_)
                  · refine Tst.cmp (d := optD o1) (e := .str (Str.ofString "-")) ?_ Ev.str (CmpIs.opt (by decide +kernel) (Ok.deeper (n := 1) ok).c) (by with_unfolding_all rfl)
                    refine Ev.meth1 (d := .mat x sp) (d₁ := .int (1 : Nat)) ?_ TyIs.mat Ev.int (Con.groupO g1 hz') plain_mat slot_group type_group (by rfl) (by rfl) (by rfl) (by rfl) (by rfl)
                    tm_at "kl ev"
                  · tm_at "kl asg"
                    refine Ex.done ?_
                    refine Ex.done ?_
                    refine Ex.done ?_
                    tm_at "kl ret"
                    have e1 : o1 = some (Str.ofString "-") := by simpa using h1
                    simp [told, e1]
                  · refine Ex.done ?_
                    refine Ex.done ?_
                    refine Ex.done ?_
                    tm_at "kl ret"
                    have e1 : o1 ≠ some (Str.ofString "-") := by simpa using h1
                    simp [told, e1]
            · cases o3 with
              | some m => cases h3
              | none =>
                refine Ex.done ?_
                refine Ex.ite (b := (o1 == some (Str.ofString "-"))) ?_ (fun h1 => ?_) (fun h1 => ?_)
                · refine Tst.cmp (d := optD o1) (e := .str (Str.ofString "-")) ?_ Ev.str (CmpIs.opt (by decide +kernel) (Ok.deeper (n := 1) ok).c) (by with_unfolding_all rfl)
                  refine Ev.meth1 (d := .mat x sp) (d₁ := .int (1 : Nat)) ?_ TyIs.mat Ev.int (Con.groupO g1 hz') plain_mat slot_group type_group (by rfl) (by rfl) (by rfl) (by rfl) (by rfl)
                  tm_at "kl ev"
                · tm_at "kl asg"
                  refine Ex.done ?_
                  refine Ex.done ?_
                  refine Ex.done ?_
                  tm_at "kl ret"
                  have e1 : o1 = some (Str.ofString "-") := by simpa using h1
                  simp [told, e1]
                · refine Ex.done ?_
                  refine Ex.done ?_
                  refine Ex.done ?_
                  tm_at "kl ret"
                  have e1 : o1 ≠ some (Str.ofString "-") := by simpa using h1
                  simp [told, e1]
end
end
section
open PySem PySem.W PyProof.Rows
set_option maxRecDepth 10000
theorem Leads.more {k k' : Nat} {m : Sre.M} {P : Sre.M → Prop} (h : Leads k m P) (hk : k ≤ k') : Leads k' m P := let ⟨n, r, a, b, c⟩ := h; ⟨n, r, Nat.le_trans a hk, b, c⟩
theorem txt2 : ∀ n : Nat, n < 100 → PySem.intText? (dig2 n) = some (n : Int) := by decide +kernel
theorem txt1 : ∀ n : Nat, n < 24 → PySem.intText? (dig1 n) = some (n : Int) := by decide +kernel
theorem txt0 : ∀ n : Nat, n < 10 → PySem.intText? ⟨#[48 + n]⟩ = some (n : Int) := by decide +kernel
theorem not_zone {x : Str} (h : x.cps.getD 0 0 < 65) : (valueAt zoneK x).isSome = false := by
  have ne : ∀ k : Str, 65 ≤ k.cps.getD 0 0 → k ≠ x := fun k hk e => by subst e; omega
  unfold valueAt zoneK
  simp only [List.find?_cons, List.find?_nil]
  rw [show decide (Str.ofString "GMT" = x) = false from decide_eq_false (ne _ (by decide +kernel)), show decide (Str.ofString "UTC" = x) = false from decide_eq_false (ne _ (by decide +kernel)),
    show decide (Str.ofString "UT" = x) = false from decide_eq_false (ne _ (by decide +kernel)), show decide (Str.ofString "Z" = x) = false from decide_eq_false (ne _ (by decide +kernel))]
  rfl
theorem digit_of {n : Nat} (h : n < 10) : Sre.isDigit (48 + n) = true := by unfold Sre.isDigit; simp; omega
section
variable {prog : Program} {w : World} {A : Around} {g : Heap} {V : List Addr}
theorem GrpOk.at {x : Str} {sp : List Int} {k b e : Nat} {t : Str} (h1 : sp[2 * k]? = some (b : Int)) (h2 : sp[2 * k + 1]? = some (e : Int)) (h3 : cutS x b e = t) : GrpOk x sp k (some t) := ⟨.inl ⟨b, e, h1, h2, by rw [h3]⟩⟩
theorem GrpOk.no {x : Str} {sp : List Int} {k : Nat} (h1 : sp[2 * k]? = some (-1)) : GrpOk x sp k none := ⟨.inr ⟨h1, rfl⟩⟩
theorem off_sc {sg h m : Nat} {op : Str} (hs : sg = 43 ∨ sg = 45) (ho : op = ⟨#[sg]⟩) (hh : h < 24) (hm : m < 100) (B : Base prog w g) (ok : Ok 2 A) :
    Con prog w A g V (.ref 44) [.str ⟨#[sg, 48 + h / 10, 48 + h % 10, 58, 48 + m / 10, 48 + m % 10]⟩] (.int (told (some op) (some (dig2 m)) h m)) := by
  have d := tz_sc (sg := sg) (a := 48 + h / 10) (b := 48 + h % 10) (c := 48 + m / 10) (d := 48 + m % 10) hs (digit_of (by omega)) (digit_of (by omega)) (digit_of (by omega)) (digit_of (by omega))
  refine offset_yes (x := ⟨#[sg, 48 + h / 10, 48 + h % 10, 58, 48 + m / 10, 48 + m % 10]⟩) (h := dig2 h) (mn := m) B ok (not_zone ?z) (by show 6 ≤ 1000; omega) (d.more (by decide)) (by decide) (.at (b := 0) (e := 1) rfl rfl ?g1) (.at (b := 1) (e := 3) rfl rfl ?g2) (.at (b := 4) (e := 6) rfl rfl ?g3) (txt2 h (by omega)) (by rw [dig2_len]; omega) ?m
  case z => show sg < 65; omega
  case g1 => rw [ho]; rfl
  case g2 => rfl
  case g3 => rfl
  case m =>
    rintro _ ⟨⟩
    exact ⟨txt2 m hm, by rw [dig2_len]; omega, by rw [dig2_len]; omega⟩
theorem off_sn {sg h m : Nat} {op : Str} (hs : sg = 43 ∨ sg = 45) (ho : op = ⟨#[sg]⟩) (hh : h < 24) (hm : m < 100) (B : Base prog w g) (ok : Ok 2 A) :
    Con prog w A g V (.ref 44) [.str ⟨#[sg, 48 + h / 10, 48 + h % 10, 48 + m / 10, 48 + m % 10]⟩] (.int (told (some op) (some (dig2 m)) h m)) := by
  have d := tz_sn (sg := sg) (a := 48 + h / 10) (b := 48 + h % 10) (c := 48 + m / 10) (d := 48 + m % 10) hs (digit_of (by omega)) (digit_of (by omega)) (digit_of (by omega)) (digit_of (by omega))
  refine offset_yes (x := ⟨#[sg, 48 + h / 10, 48 + h % 10, 48 + m / 10, 48 + m % 10]⟩) (h := dig2 h) (mn := m) B ok (not_zone ?z) (by show 5 ≤ 1000; omega) (d.more (by decide)) (by decide) (.at (b := 0) (e := 1) rfl rfl ?g1) (.at (b := 1) (e := 3) rfl rfl ?g2) (.at (b := 3) (e := 5) rfl rfl ?g3) (txt2 h (by omega)) (by rw [dig2_len]; omega) ?m
  case z => show sg < 65; omega
  case g1 => rw [ho]; rfl
  case g2 => rfl
  case g3 => rfl
  case m =>
    rintro _ ⟨⟩
    exact ⟨txt2 m hm, by rw [dig2_len]; omega, by rw [dig2_len]; omega⟩
theorem off_sh {sg h : Nat} {op : Str} (hs : sg = 43 ∨ sg = 45) (ho : op = ⟨#[sg]⟩) (hh : h < 10) (B : Base prog w g) (ok : Ok 2 A) :
    Con prog w A g V (.ref 44) [.str ⟨#[sg, 48 + h]⟩] (.int (told (some op) none h 0)) := by
  have d := tz_sh (sg := sg) (a := 48 + h) hs (digit_of (by omega))
  refine offset_yes (x := ⟨#[sg, 48 + h]⟩) (h := ⟨#[48 + h]⟩) (mn := 0) B ok (not_zone ?z) (by show 2 ≤ 1000; omega) (d.more (by decide)) (by decide) (.at (b := 0) (e := 1) rfl rfl ?g1) (.at (b := 1) (e := 2) rfl rfl ?g2) (.no rfl) (txt0 h hh) (by show 1 ≤ 640; omega) ?m
  case z => show sg < 65; omega
  case g1 => rw [ho]; rfl
  case g2 => rfl
  case m =>
    rintro _ ⟨⟩
theorem off_shh {sg h : Nat} {op : Str} (hs : sg = 43 ∨ sg = 45) (ho : op = ⟨#[sg]⟩) (hh : h < 24) (B : Base prog w g) (ok : Ok 2 A) :
    Con prog w A g V (.ref 44) [.str ⟨#[sg, 48 + h / 10, 48 + h % 10]⟩] (.int (told (some op) none h 0)) := by
  have d := tz_shh (sg := sg) (a := 48 + h / 10) (b := 48 + h % 10) hs (digit_of (by omega)) (digit_of (by omega))
  refine offset_yes (x := ⟨#[sg, 48 + h / 10, 48 + h % 10]⟩) (h := dig2 h) (mn := 0) B ok (not_zone ?z) (by show 3 ≤ 1000; omega) (d.more (by decide)) (by decide) (.at (b := 0) (e := 1) rfl rfl ?g1) (.at (b := 1) (e := 3) rfl rfl ?g2) (.no rfl) (txt2 h (by omega)) (by rw [dig2_len]; omega) ?m
  case z => show sg < 65; omega
  case g1 => rw [ho]; rfl
  case g2 => rfl
  case m =>
    rintro _ ⟨⟩
theorem off_pc {h m : Nat} (hh : h < 24) (hm : m < 100) (B : Base prog w g) (ok : Ok 2 A) :
    Con prog w A g V (.ref 44) [.str ⟨#[48 + h / 10, 48 + h % 10, 58, 48 + m / 10, 48 + m % 10]⟩] (.int (told none (some (dig2 m)) h m)) := by
  have d := tz_pc (a := 48 + h / 10) (b := 48 + h % 10) (c := 48 + m / 10) (d := 48 + m % 10) (digit_of (by omega)) (digit_of (by omega)) (digit_of (by omega)) (digit_of (by omega))
  refine offset_yes (x := ⟨#[48 + h / 10, 48 + h % 10, 58, 48 + m / 10, 48 + m % 10]⟩) (h := dig2 h) (mn := m) B ok (not_zone ?z) (by show 5 ≤ 1000; omega) (d.more (by decide)) (by decide) (.no rfl) (.at (b := 0) (e := 2) rfl rfl ?g2) (.at (b := 3) (e := 5) rfl rfl ?g3) (txt2 h (by omega)) (by rw [dig2_len]; omega) ?m
  case z => show 48 + h / 10 < 65; omega
  case g2 => rfl
  case g3 => rfl
  case m =>
    rintro _ ⟨⟩
    exact ⟨txt2 m hm, by rw [dig2_len]; omega, by rw [dig2_len]; omega⟩
theorem off_pn {h m : Nat} (hh : h < 24) (hm : m < 100) (B : Base prog w g) (ok : Ok 2 A) :
    Con prog w A g V (.ref 44) [.str ⟨#[48 + h / 10, 48 + h % 10, 48 + m / 10, 48 + m % 10]⟩] (.int (told none (some (dig2 m)) h m)) := by
  have d := tz_pn (a := 48 + h / 10) (b := 48 + h % 10) (c := 48 + m / 10) (d := 48 + m % 10) (digit_of (by omega)) (digit_of (by omega)) (digit_of (by omega)) (digit_of (by omega))
  refine offset_yes (x := ⟨#[48 + h / 10, 48 + h % 10, 48 + m / 10, 48 + m % 10]⟩) (h := dig2 h) (mn := m) B ok (not_zone ?z) (by show 4 ≤ 1000; omega) (d.more (by decide)) (by decide) (.no rfl) (.at (b := 0) (e := 2) rfl rfl ?g2) (.at (b := 2) (e := 4) rfl rfl ?g3) (txt2 h (by omega)) (by rw [dig2_len]; omega) ?m
  case z => show 48 + h / 10 < 65; omega
  case g2 => rfl
  case g3 => rfl
  case m =>
    rintro _ ⟨⟩
    exact ⟨txt2 m hm, by rw [dig2_len]; omega, by rw [dig2_len]; omega⟩
theorem off_ph {h : Nat} (hh : h < 10) (B : Base prog w g) (ok : Ok 2 A) :
    Con prog w A g V (.ref 44) [.str ⟨#[48 + h]⟩] (.int (told none none h 0)) := by
  have d := tz_ph (a := 48 + h) (digit_of (by omega))
  refine offset_yes (x := ⟨#[48 + h]⟩) (h := ⟨#[48 + h]⟩) (mn := 0) B ok (not_zone ?z) (by show 1 ≤ 1000; omega) (d.more (by decide)) (by decide) (.no rfl) (.at (b := 0) (e := 1) rfl rfl ?g2) (.no rfl) (txt0 h hh) (by show 1 ≤ 640; omega) ?m
  case z => show 48 + h < 65; omega
  case g2 => rfl
  case m =>
    rintro _ ⟨⟩
theorem off_phh {h : Nat} (hh : h < 24) (B : Base prog w g) (ok : Ok 2 A) :
    Con prog w A g V (.ref 44) [.str ⟨#[48 + h / 10, 48 + h % 10]⟩] (.int (told none none h 0)) := by
  have d := tz_phh (a := 48 + h / 10) (b := 48 + h % 10) (digit_of (by omega)) (digit_of (by omega))
  refine offset_yes (x := ⟨#[48 + h / 10, 48 + h % 10]⟩) (h := dig2 h) (mn := 0) B ok (not_zone ?z) (by show 2 ≤ 1000; omega) (d.more (by decide)) (by decide) (.no rfl) (.at (b := 0) (e := 2) rfl rfl ?g2) (.no rfl) (txt2 h (by omega)) (by rw [dig2_len]; omega) ?m
  case z => show 48 + h / 10 < 65; omega
  case g2 => rfl
  case m =>
    rintro _ ⟨⟩
/-- offset_from_tz_string tells the seconds of each zone -/
theorem zone_offset {y : Int} (h0 : 0 ≤ y) (B : Base prog w g) (ok : Ok 2 A) : Con prog w A g V (.ref 44) [.str (zW y)] (.int (zS y)) := by
  by_cases hd3 : y / 288 % 4 = 3
  · have hz : zS y = 0 := by rw [zS, if_pos hd3]
    rw [hz]
    refine offset_in B ok ?_
    rw [zW, if_pos hd3]
    have q1 : y / 24 % 4 = 0 ∨ y / 24 % 4 = 1 ∨ y / 24 % 4 = 2 ∨ y / 24 % 4 = 3 := by omega
    unfold zName
    rcases q1 with q | q | q | q <;> (rw [q]; decide +kernel)
  · obtain ⟨h, hh⟩ : ∃ h : Nat, y % 24 = h := ⟨(y % 24).toNat, by omega⟩
    obtain ⟨m, hm⟩ : ∃ m : Nat, 15 * (y / 24 % 4) = m := ⟨(15 * (y / 24 % 4)).toNat, by omega⟩
    have h24 : h < 24 := by omega
    have m100 : m < 100 := by omega
    have eh : (y % 24).toNat = h := by omega
    have em : (15 * (y / 24 % 4)).toNat = m := by omega
    have sg : y / 96 % 3 = 0 ∨ y / 96 % 3 = 1 ∨ y / 96 % 3 = 2 := by omega
    have dr : y / 288 % 4 = 0 ∨ y / 288 % 4 = 1 ∨ y / 288 % 4 = 2 := by omega
    have n32 : ¬ ((1 : Int) = 2) := by decide
    rcases dr with dr | dr | dr
    · rcases sg with sg | sg | sg
      · have e : told none (some (dig2 m)) h m = zS y := by simp [told, zS, zSec, dr, sg]; omega
        rw [← e]
        have f : zW y = ⟨#[48 + h / 10, 48 + h % 10, 58, 48 + m / 10, 48 + m % 10]⟩ := by simp only [zW, zSign, zFig, dr, sg, eh, em]; rfl
        rw [f]; exact off_pc h24 m100 B ok
      · have e : told (some (Str.ofString "+")) (some (dig2 m)) h m = zS y := by simp [told, zS, zSec, dr, sg, show Str.ofString "+" ≠ Str.ofString "-" from by decide]; omega
        rw [← e]
        have f : zW y = ⟨#[43, 48 + h / 10, 48 + h % 10, 58, 48 + m / 10, 48 + m % 10]⟩ := by simp only [zW, zSign, zFig, dr, sg, eh, em]; rfl
        rw [f]; exact off_sc (.inl rfl) rfl h24 m100 B ok
      · have e : told (some (Str.ofString "-")) (some (dig2 m)) h m = zS y := by simp [told, zS, zSec, dr, sg]; omega
        rw [← e]
        have f : zW y = ⟨#[45, 48 + h / 10, 48 + h % 10, 58, 48 + m / 10, 48 + m % 10]⟩ := by simp only [zW, zSign, zFig, dr, sg, eh, em]; rfl
        rw [f]; exact off_sc (.inr rfl) rfl h24 m100 B ok
    · rcases sg with sg | sg | sg
      · have e : told none (some (dig2 m)) h m = zS y := by simp [told, zS, zSec, dr, sg]; omega
        rw [← e]
        have f : zW y = ⟨#[48 + h / 10, 48 + h % 10, 48 + m / 10, 48 + m % 10]⟩ := by simp only [zW, zSign, zFig, dr, sg, eh, em]; rfl
        rw [f]; exact off_pn h24 m100 B ok
      · have e : told (some (Str.ofString "+")) (some (dig2 m)) h m = zS y := by simp [told, zS, zSec, dr, sg, show Str.ofString "+" ≠ Str.ofString "-" from by decide]; omega
        rw [← e]
        have f : zW y = ⟨#[43, 48 + h / 10, 48 + h % 10, 48 + m / 10, 48 + m % 10]⟩ := by simp only [zW, zSign, zFig, dr, sg, eh, em]; rfl
        rw [f]; exact off_sn (.inl rfl) rfl h24 m100 B ok
      · have e : told (some (Str.ofString "-")) (some (dig2 m)) h m = zS y := by simp [told, zS, zSec, dr, sg]; omega
        rw [← e]
        have f : zW y = ⟨#[45, 48 + h / 10, 48 + h % 10, 48 + m / 10, 48 + m % 10]⟩ := by simp only [zW, zSign, zFig, dr, sg, eh, em]; rfl
        rw [f]; exact off_sn (.inr rfl) rfl h24 m100 B ok
    · by_cases h10 : h < 10
      · have ed : dig1 h = ⟨#[48 + h]⟩ := if_pos h10
        rcases sg with sg | sg | sg
        · have e : told none none h 0 = zS y := by simp [told, zS, zSec, dr, sg]; omega
          rw [← e]
          have f : zW y = ⟨#[48 + h]⟩ := by simp only [zW, zSign, zFig, dr, sg, eh, em, ed]; rfl
          rw [f]; exact off_ph h10 B ok
        · have e : told (some (Str.ofString "+")) none h 0 = zS y := by simp [told, zS, zSec, dr, sg, show Str.ofString "+" ≠ Str.ofString "-" from by decide]; omega
          rw [← e]
          have f : zW y = ⟨#[43, 48 + h]⟩ := by simp only [zW, zSign, zFig, dr, sg, eh, em, ed]; rfl
          rw [f]; exact off_sh (.inl rfl) rfl h10 B ok
        · have e : told (some (Str.ofString "-")) none h 0 = zS y := by simp [told, zS, zSec, dr, sg]; omega
          rw [← e]
          have f : zW y = ⟨#[45, 48 + h]⟩ := by simp only [zW, zSign, zFig, dr, sg, eh, em, ed]; rfl
          rw [f]; exact off_sh (.inr rfl) rfl h10 B ok
      · have ed : dig1 h = ⟨#[48 + h / 10, 48 + h % 10]⟩ := if_neg h10
        rcases sg with sg | sg | sg
        · have e : told none none h 0 = zS y := by simp [told, zS, zSec, dr, sg]; omega
          rw [← e]
          have f : zW y = ⟨#[48 + h / 10, 48 + h % 10]⟩ := by simp only [zW, zSign, zFig, dr, sg, eh, em, ed]; rfl
          rw [f]; exact off_phh h24 B ok
        · have e : told (some (Str.ofString "+")) none h 0 = zS y := by simp [told, zS, zSec, dr, sg, show Str.ofString "+" ≠ Str.ofString "-" from by decide]; omega
          rw [← e]
          have f : zW y = ⟨#[43, 48 + h / 10, 48 + h % 10]⟩ := by simp only [zW, zSign, zFig, dr, sg, eh, em, ed]; rfl
          rw [f]; exact off_shh (.inl rfl) rfl h24 B ok
        · have e : told (some (Str.ofString "-")) none h 0 = zS y := by simp [told, zS, zSec, dr, sg]; omega
          rw [← e]
          have f : zW y = ⟨#[45, 48 + h / 10, 48 + h % 10]⟩ := by simp only [zW, zSign, zFig, dr, sg, eh, em, ed]; rfl
          rw [f]; exact off_shh (.inr rfl) rfl h24 B ok
/-- the six words that are no zones -/
noncomputable def opW (k : Nat) : Str := if k = 0 then Str.ofString "back" else if k = 1 then Str.ofString "BACK" else if k = 2 then Str.ofString "less" else if k = 3 then Str.ofString "LESS" else if k = 4 then Str.ofString "later" else Str.ofString "LATER"
theorem op_search : ∀ k : Nat, k < 6 → (match ((Sre.forSearch tzC (opW k).cps 3 0 (opW k).cps.size false).runFor 200).outcome with | some .failed => true | _ => false) = true := by decide +kernel
theorem op_facts : ∀ k : Nat, k < 6 → (valueAt zoneK (opW k)).isSome = false ∧ (opW k).cps.size ≤ 100 := by decide +kernel
theorem op_offset {k : Nat} (hk : k < 6) (B : Base prog w g) (ok : Ok 2 A) : Con prog w A g V (.ref 44) [.str (opW k)] .none := by
  refine offset_no B ok (op_facts k hk).1 (Nat.le_trans (op_facts k hk).2 (by decide)) ⟨200, _, by decide, rfl, ?_⟩
  have h := op_search k hk
  cases hq : ((Sre.forSearch tzC (opW k).cps 3 0 (opW k).cps.size false).runFor 200).outcome with
  | none => rw [hq] at h; cases h
  | some q =>
    rw [hq] at h
    cases q with
    | failed => exact ⟨.failed, hq, rfl⟩
    | matched => cases h
    | stuck why => cases h
end
end
section
open PySem PySem.W PyProof.Rows
set_option maxRecDepth 10000
local macro_rules | `(tactic| tm_at "kl con") => `(tactic| fail "no con")
theorem sliceL_plain {α : Type} (l : List α) (lo hi : Option Int) : sliceL l lo hi = (l.drop (lo.elim 0 (clipAt l.length))).take (hi.elim l.length (clipAt l.length) - lo.elim 0 (clipAt l.length)) := by
  unfold sliceL
  rw [sliceBounds_plain]
  simp only [sliceRange_one]
  have := pick_run l.toArray (lo.elim 0 (clipAt l.length)) (hi.elim l.length (clipAt l.length) - lo.elim 0 (clipAt l.length))
  simpa using this
theorem sliceL_take {α : Type} (l : List α) (n : Nat) : sliceL l none (some (n : Int)) = l.take n := by
  rw [sliceL_plain]
  simp only [Option.elim, clipAt_nat, List.drop_zero, Nat.sub_zero]
  rcases Nat.le_total n l.length with h | h
  · rw [Nat.min_eq_left h]
  · rw [Nat.min_eq_right h, List.take_of_length_le (Nat.le_refl _), List.take_of_length_le h]
theorem sliceL_drop {α : Type} (l : List α) (n : Nat) : sliceL l (some (n : Int)) none = l.drop n := by
  rw [sliceL_plain]
  simp only [Option.elim, clipAt_nat]
  rcases Nat.le_total n l.length with h | h
  · rw [Nat.min_eq_left h, List.take_of_length_le (by simp)]
  · rw [Nat.min_eq_right h, List.drop_of_length_le (Nat.le_refl _), List.drop_of_length_le h]; simp
theorem sliceL_butLast {α : Type} (l : List α) (k : Nat) (hk : 1 ≤ k) : sliceL l none (some (-(k : Int))) = l.take (l.length - k) := by
  rw [sliceL_plain]
  simp only [Option.elim, clipAt_neg _ _ hk, List.drop_zero, Nat.sub_zero]
theorem Sub.nil {l' : List (Str × D)} : ∀ x d, ([] : List (Str × D)).lookup x = some d → l'.lookup x = some d := fun x d e => by cases e
theorem Sub.cons {x : Str} {d : D} {l l' : List (Str × D)} (h : l'.lookup x = some d) (hs : ∀ x d, l.lookup x = some d → l'.lookup x = some d) : ∀ y e, ((x, d) :: l).lookup y = some e → l'.lookup y = some e := fun y e hy => by
  rw [List.lookup_cons] at hy
  split at hy
  · rename_i q
    cases hy
    rw [show y = x from by simpa using q]; exact h
  · exact hs y e hy
/-- the six numbers -/
noncomputable def numsOf (script : List Int) : List Int := (script.take 6).map (· % 1000000) ++ [151, 3322, 8651, 9, 5760, 20].drop script.length
theorem numsOf_len (script : List Int) : (numsOf script).length = 6 := by
  unfold numsOf
  simp
  omega
theorem numsOf_ge (script : List Int) : ∀ n ∈ numsOf script, 0 ≤ n ∧ n < 1000000 := by
  intro n hn
  rcases List.mem_append.mp hn with h | h
  · obtain ⟨x, _, rfl⟩ := List.mem_map.mp h
    omega
  · have := List.mem_of_mem_drop h
    simp at this; omega
/-- which of the six words -/
noncomputable def opI (k : Nat) (y : Int) : Nat := (if k = 3 then 0 else if y % 2 = 0 then 2 else 4) + (if y / 2 % 2 = 1 then 1 else 0)
noncomputable def itW (p : Nat × Int) : Str := if p.1 < 3 then zW p.2 else opW (opI p.1 p.2)
noncomputable def itE (p : Nat × Int) : Str := if p.2 / 1152 % 3 = 0 then ⟨#[10]⟩ else if p.2 / 1152 % 3 = 1 then ⟨#[13]⟩ else ⟨#[13, 10]⟩
noncomputable def itK (p : Nat × Int) : Int := if p.1 < 3 then 0 else if p.1 = 3 then 1 else 2
noncomputable def itT (p : Nat × Int) : D := if p.1 < 3 then .int (zS p.2) else .str (opW (opI p.1 p.2))
noncomputable def itD (p : Nat × Int) : D := .tup [.str (itW p), .str (itE p), .int (itK p), itT p]
/-- the row of the first k words -/
noncomputable def rowOf (ns : List Int) : Nat → List (Nat × Int)
  | 0 => []
  | k + 1 => let n := ns.getD k 0; (rowOf ns k).take (n % (k + 1)).toNat ++ (k, n / (k + 1)) :: (rowOf ns k).drop (n % (k + 1)).toNat
theorem rowOf_len (ns : List Int) : ∀ k, (∀ n ∈ ns, 0 ≤ n) → (rowOf ns k).length = k := by
  intro k hn
  induction k with
  | zero => rfl
  | succ k ih =>
    have h0 : 0 ≤ ns.getD k 0 := by
      rw [List.getD_eq_getElem?_getD]
      cases h : ns[k]? with
      | none => simp
      | some v => exact hn v (List.mem_of_getElem? h)
    have : (ns.getD k 0 % ((k : Int) + 1)).toNat ≤ k := by
      have := Int.emod_lt_of_pos (ns.getD k 0) (show (0 : Int) < (k : Int) + 1 by omega)
      omega
    simp only [rowOf, List.length_append, List.length_cons, List.length_take, List.length_drop, ih]
    omega
end
local macro_rules | `(tactic| tm_at "kl sub") => `(tactic| first | exact Sub.nil | (refine Sub.cons ?h1 ?h2; (case h1 => tm_at "kl look"); (case h2 => tm_at "kl sub")))
section
open PySem PySem.W PyProof.Rows
set_option maxRecDepth 10000
local macro_rules | `(tactic| tm_at "kl con") => `(tactic| fail "no con")
theorem filt {α : Type} (l : List α) : l.filter (fun _ => true) = l := List.filter_eq_self.mpr fun _ _ => rfl
noncomputable def modD : D → D
  | .int x => .int (x % 1000000)
  | d => d
section
variable {prog : Program} {w : World} {A : Around} {g : Heap} {V : List Addr} {script : List Int}
theorem row_c (B : Base prog w g) (ok : Ok 4 A) (hs : script.length ≤ 1000) : Con prog w A g V (.ref 151) [.lst (script.map .int)] (.lst ((rowOf (numsOf script) 6).map itD)) := by
  refine Con.fnO (n := 3) [Str.ofString "script"] [(Str.ofString "script", .lst (script.map .int))] rfl B.f_law_row B.nl ok rfl (by decide +kernel) ?_ (one_local (by kernel_rfl)) ?_ (by kernel_rfl) (by kernel_rfl) (by kernel_rfl) (by decide +kernel)
  · intro pm cd doc vs hvs
    match vs, hvs with
    | [v], _ => rfl
  · intro s₀ cd hg hWV
    have B' := B.keep hg
    have hl : (script.map D.int).length ≤ sizeLine := by
      have : (1000 : Nat) ≤ sizeLine := by decide
      simp; omega
    refine Ex.assign (d := .lst ((numsOf script).map .int)) ?_ (.inl (by kernel_rfl)) ?_ (by rfl)
    · refine Ev.eq (d := .lst ((((script.map D.int).take 6).filter fun _ => true).map modD ++ (([151, 3322, 8651, 9, 5760, 20] : List Int).map D.int).drop script.length)) ?_ ?_
      · refine Ev.bin (a := .lst ((((script.map D.int).take 6).filter fun _ => true).map modD)) (b := .lst ((([151, 3322, 8651, 9, 5760, 20] : List Int).map D.int).drop script.length)) ?_ ?_ (BinIs.addL ?_)
        · refine EvN.ev (EvN.comp (ds := (script.map D.int).take 6) (t := fun _ => true) (f := modD) (cl := []) (Lf := []) (EvI.lst ?_) (by rfl) FreeIs.nil (fun x b e => by cases e) (by rfl) (by decide +kernel) (by decide +kernel) (by kernel_rfl) ok.handled ?_ (fun _ _ _ _ _ => Ifs.nil) ?_ (by intro _; rfl))
          · rw [← sliceL_take]
            refine Ev.sliceL ?_ EvP.none (EvP.some Ev.int) hl
            tm_at "kl ev"
          · simp; omega
          · intro d hd _ C Dl I
            obtain ⟨n, _, rfl⟩ := List.mem_map.mp (List.mem_of_mem_take hd)
            show Ev _ _ _ _ (.int (n % 1000000))
            tm_at "kl ev"
        · rw [← sliceL_drop]
          refine Ev.sliceL (ds := ([151, 3322, 8651, 9, 5760, 20] : List Int).map D.int) ?_ (EvP.some ?_) EvP.none (by decide)
          · refine Ev.list ?_ (by decide)
            tm_at "kl evs"
          · refine Ev.eq (d := .int ((script.map D.int).length : Nat)) ?_ (by simp)
            refine Ev.callv (d₁ := .lst (script.map D.int)) (ds := []) (Ev.glob (by kernel_rfl) B'.g_len (by kernel_rfl)) (.inl ⟨_, rfl⟩) (by rfl) ?_ EvL.nil (by rfl) (Con.lenL (by simp; omega))
            tm_at "kl ev"
        · have : (1000 : Nat) ≤ sizeLine := by decide
          rw [filt]; simp; omega
      · congr 1
        unfold numsOf
        rw [List.map_append, List.map_drop, filt, ← List.map_take]
        congr 1
        rw [List.map_map, List.map_map]
        rfl
    refine Ex.own (ds := []) (EvN.list EvL.nil) (.inl (by kernel_rfl)) (fun a haX => ?_) (by rfl)
    have nn := fun n hn => (numsOf_ge script n hn).1
    refine Ex.forI (ds := rangeD 0 6) 6 (fun _ => [(Str.ofString "row", .cell a), (Str.ofString "numbers", .lst ((numsOf script).map .int))]) (fun k => [(a, (rowOf (numsOf script) k).map itD)]) rangeD_len ?_ ?_ rfl (.inl (by kernel_rfl)) ok.handled ?_ ?_ (fun l k hk hm => ?_) (by intro _; rfl)
    · exact EvI.rng1 (n := 6) (Ev.glob (by kernel_rfl) B'.g_range (by kernel_rfl)) (by rfl) Ev.int (by decide)
    · tm_at "kl sub"
    · intro k d hd I g' hk
      have hk6 : k < 6 := by
        apply Nat.lt_of_not_le; intro z
        rw [List.getElem?_eq_none (by rw [rangeD_len]; exact z)] at hd; cases hd
      rw [rangeD_get hk6] at hd
      cases hd
      have B₂ := B'.keep hk
      obtain ⟨n, hn⟩ : ∃ n, (numsOf script)[k]? = some n := ⟨(numsOf script)[k]'(by rw [numsOf_len]; exact hk6), by simp⟩
      have hge := numsOf_ge script n (List.mem_of_getElem? hn)
      have hgd : (numsOf script).getD k 0 = n := by rw [List.getD_eq_getElem?_getD, hn]; rfl
      have hit : pyIdx ((numsOf script).map D.int) (0 + (k : Nat)) = some (.int n) := by
        unfold pyIdx
        rw [if_pos (by omega), Int.zero_add, Int.toNat_natCast, List.getElem?_map, hn]; rfl
      have hp0 : 0 ≤ n % ((k : Int) + 1) := Int.emod_nonneg _ (by omega)
      have hp1 : n % ((k : Int) + 1) < (k : Int) + 1 := Int.emod_lt_of_pos _ (by omega)
      have hy0 : 0 ≤ n / ((k : Int) + 1) := Int.ediv_nonneg (by omega) (by omega)
      have hy1 : n / ((k : Int) + 1) < 1000000 := Int.lt_of_le_of_lt (Int.ediv_le_self _ (by omega)) (by omega)
      refine Ex.assign (d := .int ((n % ((k : Int) + 1)).toNat : Nat)) ?_ (.inl (by kernel_rfl)) ?_ (by rfl)
      · refine Ev.eq (d := .int (n % (0 + (k : Nat) + 1))) (Ev.bin (a := .int n) (b := .int (0 + (k : Nat) + 1)) ?_ ?_ (BinIs.modI (by omega))) ?_
        · refine Ev.sub (d := .lst ((numsOf script).map .int)) (e := .int (0 + (k : Nat))) ?_ ?_ (ItIs.lst hit) (by intros; rfl)
          · tm_at "kl ev"
          · tm_at "kl ev"
        · tm_at "kl ev"
        · rw [Int.toNat_of_nonneg hp0, Int.zero_add]
      generalize hyv : n / ((k : Int) + 1) = y at hy0 hy1
      refine Ex.assign (d := .int y) ?_ (.inl (by kernel_rfl)) ?_ (by rfl)
      · refine Ev.eq (d := .int (n / (0 + (k : Nat) + 1))) (Ev.bin (a := .int n) (b := .int (0 + (k : Nat) + 1)) ?_ ?_ (BinIs.divI (by omega) (by omega))) ?_
        · refine Ev.sub (d := .lst ((numsOf script).map .int)) (e := .int (0 + (k : Nat))) ?_ ?_ (ItIs.lst hit) (by intros; rfl)
          · tm_at "kl ev"
          · tm_at "kl ev"
        · tm_at "kl ev"
        · rw [Int.zero_add, hyv]
      generalize hpv : (n % ((k : Int) + 1)).toNat = p
      have hpk : p ≤ k := by omega
      have fin : ∀ (c : Cx) (L : List (Str × D)) (E : Value → Shared → Prop), L.lookup (Str.ofString "row") = some (.cell a) → L.lookup (Str.ofString "numbers") = some (.lst ((numsOf script).map .int)) →
          Ex s₀ c L [(a, ((rowOf (numsOf script) k).map itD).take p ++ itD (k, y) :: ((rowOf (numsOf script) k).map itD).drop p)] [] (Turn s₀ c [(Str.ofString "row", .cell a), (Str.ofString "numbers", .lst ((numsOf script).map .int))] [(a, (rowOf (numsOf script) (k + 1)).map itD)]) E := by
        intro c L E h1 h2
        have e : ((rowOf (numsOf script) k).map itD).take p ++ itD (k, y) :: ((rowOf (numsOf script) k).map itD).drop p = (rowOf (numsOf script) (k + 1)).map itD := by
          simp only [rowOf, hgd, hpv, hyv, List.map_append, List.map_cons, List.map_take, List.map_drop]
        rw [e]
        exact Ex.turn (Sub.cons h1 (Sub.cons h2 Sub.nil))
      have q0 : 0 ≤ y / 1152 % 3 := by omega
      have q1 : y / 1152 % 3 < 3 := by omega
      have le1 : (if y / 1152 % 3 = 0 then Str.ofString "\n" else if y / 1152 % 3 = 1 then Str.ofString "\r" else Str.ofString "\r\n") = itE (k, y) := by
        unfold itE
        split
        · decide
        · split <;> decide
      have len1 : ((rowOf (numsOf script) k).map itD).length = k := by rw [List.length_map, rowOf_len _ _ nn]
      tm_at "kl if"
      case hp =>
        intro hlt
        have hk3 : k < 3 := by have : (0 + (k : Nat) : Int) < 3 := by simpa using hlt
                               omega
        tm_at "kl asg"
        refine Ex.unpack2 (d₁ := .str (zW y)) (d₂ := .int (zS y)) ?_ (.inl (by kernel_rfl)) (.inl (by kernel_rfl)) ok.handled ?_ (by rfl) (by rfl)
        · refine Ev.callv (d₁ := .int y) (ds := []) (Ev.glob (by kernel_rfl) B₂.g_law_zone (by kernel_rfl)) B₂.f_law_zone.fun (by rfl) ?_ EvL.nil (by rfl) (zone_c B₂ ((Ok.deeper (n := 3) ok).less (by decide)))
          tm_at "kl ev"
        · tm_at "kl done"
          refine Ex.insert (i := 0) (a := a) (p := p) (d := itD (k, y)) rfl ?_ ?_ (by rw [len1]; exact hpk) (fin _ _ _ ?_ ?_) (by rw [len1]; omega) (by rfl) (by rfl) (by rfl) (by rfl) (by rfl) (by rfl)
          · tm_at "kl ev"
          · refine EvL.cons ?_ (EvL.cons (Ev.eq (d := .tup [.str (zW y), .str (if y / 1152 % 3 = 0 then Str.ofString "\n" else if y / 1152 % 3 = 1 then Str.ofString "\r" else Str.ofString "\r\n"), .int 0, .int (zS y)]) ?_ ?_) EvL.nil)
            · tm_at "kl ev"
            · tm_at "kl ev"
            · rw [le1]; simp only [itD, itW, itK, itT, if_pos hk3]
          · tm_at "kl look"
          · tm_at "kl look"
      case hq =>
        intro hge3
        have hk3 : ¬ k < 3 := by have : ¬ (0 + (k : Nat) : Int) < 3 := by simpa using hge3
                                 omega
        have e3 : ((0 + (k : Nat) : Int) == 3) = decide (k = 3) := by
          by_cases h : k = 3
          · subst h; rfl
          · rw [decide_eq_false h]; simp; omega
        obtain ⟨j, hj⟩ : ∃ j : Nat, j = (if k = 3 then 0 else if y % 2 = 0 then 2 else 4) := ⟨_, rfl⟩
        have hj6 : j = 0 ∨ j = 2 ∨ j = 4 := by rw [hj]; split <;> (try split) <;> simp
        have opj : opI k y = j + (if y / 2 % 2 = 1 then 1 else 0) := by rw [opI, hj]
        have y20 : 0 ≤ y % 2 := by omega
        have y21 : y % 2 < 2 := by omega
        refine Ex.assign (d := .int (itK (k, y))) ?_ (.inl (by kernel_rfl)) ?_ (by rfl)
        · refine Ev.ifx (b := ((0 + (k : Nat) : Int) == 3)) ?_ (fun h => Ev.eq Ev.int ?_) (fun h => Ev.eq Ev.int ?_)
          · tm_at "kl tst"
          · have : k = 3 := by rw [e3] at h; simpa using h
            simp only [itK, if_neg hk3, if_pos this]
          · have : ¬ k = 3 := by rw [e3] at h; simpa using h
            simp only [itK, if_neg hk3, if_neg this]
        refine Ex.assign (d := .str (opW j)) ?_ (.inl (by kernel_rfl)) ?_ (by rfl)
        · refine Ev.ifx (b := ((0 + (k : Nat) : Int) == 3)) ?_ (fun h => Ev.eq Ev.str ?_) (fun h => ?_)
          · tm_at "kl tst"
          · have : k = 3 := by rw [e3] at h; simpa using h
            rw [hj, if_pos this]; rfl
          · have : ¬ k = 3 := by rw [e3] at h; simpa using h
            refine Ev.eq (d := .str (if y % 2 = 0 then Str.ofString "less" else Str.ofString "later")) ?_ ?_
            · tm_at "kl ev"
            · rw [hj, if_neg this]; split <;> rfl
        have up : Txt.upper (opW j) = opW (j + 1) := by rcases hj6 with h | h | h <;> (subst h; decide +kernel)
        have lj : (opW j).length ≤ 5592405 := by rcases hj6 with h | h | h <;> (subst h; decide +kernel)
        refine Ex.ite (b := (y / 2 % 2 == 1)) ?_ (fun h => ?_) (fun h => ?_)
        · tm_at "kl tst"
        · have hy2 : y / 2 % 2 = 1 := by simpa using h
          refine Ex.assign (d := .str (opW (opI k y))) ?_ (.inl (by kernel_rfl)) ?_ (by rfl)
          · refine Ev.eq (d := .str (Txt.upper (opW j))) ?_ (by rw [up, opj, if_pos hy2])
            tm_at "kl ev"
          · tm_at "kl done"
            tm_at "kl asg"
            tm_at "kl done"
            refine Ex.insert (i := 0) (a := a) (p := p) (d := itD (k, y)) rfl ?_ ?_ (by rw [len1]; exact hpk) (fin _ _ _ ?_ ?_) (by rw [len1]; omega) (by rfl) (by rfl) (by rfl) (by rfl) (by rfl) (by rfl)
            · tm_at "kl ev"
            · refine EvL.cons ?_ (EvL.cons (Ev.eq (d := .tup [.str (opW (opI k y)), .str (if y / 1152 % 3 = 0 then Str.ofString "\n" else if y / 1152 % 3 = 1 then Str.ofString "\r" else Str.ofString "\r\n"), .int (itK (k, y)), .str (opW (opI k y))]) ?_ ?_) EvL.nil)
              · tm_at "kl ev"
              · tm_at "kl ev"
              · rw [le1]; simp only [itD, itW, itT, if_neg hk3]
            · tm_at "kl look"
            · tm_at "kl look"
        · have hy2 : ¬ y / 2 % 2 = 1 := by simpa using h
          have eo : opI k y = j := by rw [opj, if_neg hy2, Nat.add_zero]
          tm_at "kl done"
          tm_at "kl asg"
          tm_at "kl done"
          refine Ex.insert (i := 0) (a := a) (p := p) (d := itD (k, y)) rfl ?_ ?_ (by rw [len1]; exact hpk) (fin _ _ _ ?_ ?_) (by rw [len1]; omega) (by rfl) (by rfl) (by rfl) (by rfl) (by rfl) (by rfl)
          · tm_at "kl ev"
          · refine EvL.cons ?_ (EvL.cons (Ev.eq (d := .tup [.str (opW j), .str (if y / 1152 % 3 = 0 then Str.ofString "\n" else if y / 1152 % 3 = 1 then Str.ofString "\r" else Str.ofString "\r\n"), .int (itK (k, y)), .str (opW j)]) ?_ ?_) EvL.nil)
            · tm_at "kl ev"
            · tm_at "kl ev"
            · rw [le1]; simp only [itD, itW, itT, if_neg hk3, eo]
          · tm_at "kl look"
          · tm_at "kl look"
    · refine Ex.retT (d := .cell a) (d' := .lst ((rowOf (numsOf script) 6).map itD)) ?_ (.lst (.head _)) ?_ ?_ rfl
      · tm_at "kl ev"
      · intro b hb
        rcases List.mem_cons.mp hb with rfl | hb
        · exact fun m => haX (List.mem_append_right _ m)
        · exact hWV b hb
      · rfl
    · rcases List.mem_cons.mp hm with e | e
      · have := congrArg (fun p : Addr × List D => p.2.length) e
        simp only [rangeD_len, List.length_map, rowOf_len _ _ nn] at this
        rw [rangeD_len] at hk; omega
      · cases e
end
end
section
open PySem PySem.W PyProof.Rows
set_option maxRecDepth 10000
local macro_rules | `(tactic| tm_at "kl con") => `(tactic| fail "no con")
/-- the first of a tuple -/
noncomputable def fstD : D → D
  | .tup (d :: _) => d
  | d => d
theorem two_local' {n m : Str} {scope : Scope} (h : scope.names.lookup n = some .local) (h' : scope.names.lookup m = some .local) : ∀ x ∈ [n, m], scope.names.lookup x = some .local := two_local h h'
/-- where the sign is laid in -/
noncomputable def cutAt (wd : Str) (ch : Int) : Int := ch / 6 % ((wd.length : Int) + 1)
noncomputable def marked (wd : Str) (ch : Int) : Str := Txt.slice wd none (some (cutAt wd ch)) ++ Str.ofString "\\=" ++ Txt.slice wd (some (cutAt wd ch)) none
/-- the words, one of them marked -/
noncomputable def pieces (rw : List (Nat × Int)) (ch : Int) : List Str := (rw.map itW).set (ch % 6).toNat (marked ((rw.map itW).getD (ch % 6).toNat ⟨#[]⟩) ch)
theorem dig2_le (n : Nat) : (dig2 n).length ≤ 2 := Nat.le_refl _
theorem itW_len (p : Nat × Int) : (itW p).length ≤ 10 := by
  unfold itW
  split
  · unfold zW
    split
    · unfold zName; split <;> (try split) <;> (try split) <;> decide
    · rw [len_add]
      have h1 := zSign_len p.2
      have h2 : (zFig p.2).length ≤ 5 := by
        unfold zFig
        split
        · exact Nat.le_trans (dig1_len _) (by decide)
        · rw [len_add, len_add]
          have : (if p.2 / 288 % 4 = 0 then Str.ofString ":" else Str.ofString "").length ≤ 1 := by split <;> decide
          have a := dig2_len (p.2 % 24).toNat
          have b := dig2_len (15 * (p.2 / 24 % 4)).toNat
          omega
      omega
  · unfold opW; repeat' split
    all_goals decide
section
variable {prog : Program} {w : World} {A : Around} {g : Heap} {V : List Addr}
theorem pieces_c {rw_ : List (Nat × Int)} {ch : Int} (B : Base prog w g) (ok : Ok 4 A) (h6 : rw_.length = 6) (hc0 : 0 ≤ ch) (hc1 : ch < 1000) : Con prog w A g V (.ref 156) [.lst (rw_.map itD), .int ch] (.lst (strD (pieces rw_ ch))) := by
  refine Con.fnO (n := 3) [Str.ofString "row", Str.ofString "choice"] [(Str.ofString "row", .lst (rw_.map itD)), (Str.ofString "choice", .int ch)] rfl B.f_law_pieces B.nl ok rfl (by decide +kernel) ?_ (two_local (by kernel_rfl) (by kernel_rfl)) ?_ (by kernel_rfl) (by kernel_rfl) (by kernel_rfl) (by decide +kernel)
  · intro pm cd doc vs hvs
    match vs, hvs with
    | [v, u], _ => rfl
  · intro s₀ cd hg hWV
    have B' := B.keep hg
    refine Ex.compOwn (ds := rw_.map itD) (t := fun _ => true) (f := fstD) (cl := []) (Lf := []) (by kernel_rfl) (EvI.lst ?_) (by rfl) FreeIs.nil (fun x b e => by cases e) (by rfl) (by decide +kernel) (by decide +kernel) (by kernel_rfl) (.inl (by kernel_rfl)) ok.handled (by simp; omega) (fun _ _ _ _ _ => Ifs.nil) ?_ (fun a haX => ?_) (by intro _; rfl)
    · tm_at "kl ev"
    · intro d hd _ C Dl I
      obtain ⟨p, _, rfl⟩ := List.mem_map.mp hd
      show Ev _ _ _ _ (.str (itW p))
      refine Ev.sub (d := itD p) (e := .int 0) ?_ Ev.int (ItIs.tup rfl) (by intros; rfl)
      tm_at "kl ev"
    · rw [filt]
      have e1 : (rw_.map itD).map fstD = strD (rw_.map itW) := by
        unfold strD
        rw [List.map_map, List.map_map]; rfl
      rw [e1]
      obtain ⟨i, hi⟩ : ∃ i : Nat, ch % 6 = i := ⟨(ch % 6).toNat, by omega⟩
      have hi6 : i < 6 := by omega
      have hin : (ch % 6).toNat = i := by omega
      have hlen : (strD (rw_.map itW)).length = 6 := by simp [strD, h6]
      obtain ⟨wd, hwd⟩ : ∃ wd, (rw_.map itW)[i]? = some wd := ⟨(rw_.map itW)[i]'(by simp [h6]; exact hi6), List.getElem?_eq_getElem _⟩
      have hgd : (rw_.map itW).getD i ⟨#[]⟩ = wd := by rw [List.getD_eq_getElem?_getD, hwd]; rfl
      have hwl : wd.length ≤ 10 := by
        obtain ⟨p, _, rfl⟩ := List.mem_map.mp (List.mem_of_getElem? hwd)
        exact itW_len p
      have hit : pyIdx (strD (rw_.map itW)) (i : Nat) = some (.str wd) := by
        unfold pyIdx strD
        rw [if_pos (by omega), Int.toNat_natCast, List.getElem?_map, hwd]; rfl
      refine Ex.assign (d := .str wd) ?_ (.inl (by kernel_rfl)) ?_ (by rfl)
      · refine Ev.subOwn (a := a) (ds := strD (rw_.map itW)) (k := (i : Nat)) ?_ (.head _) (Ev.eq (d := .int (ch % 6)) ?_ (by rw [hi])) hit (by omega) (by omega) (by intros; rfl)
        · tm_at "kl ev"
        · tm_at "kl ev"
      · have hwl' : wd.length < 2 ^ 63 := by omega
        refine Ex.assign (d := .int (cutAt wd ch)) ?_ (.inl (by kernel_rfl)) ?_ (by rfl)
        · refine Ev.bin (a := .int (ch / 6)) (b := .int ((wd.length : Int) + 1)) ?_ ?_ (BinIs.modI (by omega))
          · tm_at "kl ev"
          · refine Ev.bin (a := .int (wd.length : Int)) (b := .int 1) ?_ Ev.int BinIs.addI
            refine Ev.callv (d₁ := .str wd) (ds := []) (Ev.glob (by kernel_rfl) B'.g_len (by kernel_rfl)) (.inl ⟨_, rfl⟩) (by rfl) ?_ EvL.nil (by rfl) (Con.lenS hwl')
            tm_at "kl ev"
        · have z : (10 : Nat) ≤ sizeLine := by decide
          have zl : wd.length ≤ sizeLine := by omega
          have zs : (Str.ofString "\\=").length = 2 := by decide
          have z1 := Txt.slice_le wd none (some (cutAt wd ch))
          have z2 := Txt.slice_le wd (some (cutAt wd ch)) none
          have z100 : (100 : Nat) ≤ sizeLine := by decide
          refine Ex.setItem (i := 0) (a := a) (p := i) (d := .str (marked wd ch)) rfl ?_ ?_ (Ev.eq (d := .int (ch % 6)) ?_ (by rw [hi])) (by rw [hlen]; exact hi6) ?_ (by rw [hlen]; decide) (by rfl)
          · refine Ev.bin (a := .str (Txt.slice wd none (some (cutAt wd ch)) ++ Str.ofString "\\=")) (b := .str (Txt.slice wd (some (cutAt wd ch)) none)) (Ev.bin (a := .str (Txt.slice wd none (some (cutAt wd ch)))) (b := .str (Str.ofString "\\=")) ?_ Ev.str (BinIs.addS (by rw [zs]; omega))) ?_ (BinIs.addS (by rw [len_add, zs]; omega))
            · refine Ev.sliceS ?_ EvP.none (EvP.some ?_) zl
              · tm_at "kl ev"
              · tm_at "kl ev"
            · refine Ev.sliceS ?_ (EvP.some ?_) EvP.none zl
              · tm_at "kl ev"
              · tm_at "kl ev"
          · tm_at "kl ev"
          · tm_at "kl ev"
          · refine Ex.retT (d := .cell a) (d' := .lst (strD (pieces rw_ ch))) ?_ (.lst ?_) ?_ ?_ rfl
            · tm_at "kl ev"
            · have : strD (pieces rw_ ch) = (strD (rw_.map itW)).set i (.str (marked wd ch)) := by
                unfold pieces
                rw [hin, hgd]
                unfold strD
                rw [List.map_set]
              rw [this]; exact .head _
            · intro b hb
              rcases List.mem_cons.mp hb with rfl | hb
              · exact fun m => haX (List.mem_append_right _ m)
              · exact hWV b hb
            · rfl
end
end
section
open PySem PySem.W PyProof.Rows
set_option maxRecDepth 10000
section
variable {c : Cx} {L : List (Str × D)} {O : List (Addr × List D)} {ps : List (Sem Value × Sem Value)} {kds : List (Str × D)} {ke ve e : Expr} {k : Str} {d : D} {pos : Pos}
/-- the pairs of a dict display whose keys are texts -/
structure EvPs (c : Cx) (L : List (Str × D)) (O : List (Addr × List D)) (ps : List (Sem Value × Sem Value)) (kds : List (Str × D)) : Prop where
  run : ∀ s E, Sit c L O s.heap → wpAny (model c.prog c.w) c.A (evalPairs ps) (fun vs s' => Kp s s' ∧ ∃ kvs : List (Str × Value), Carries (PySem.strKind c.prog c.w) vs kvs ∧ kvs.map (·.1) = kds.map (·.1) ∧ RL s'.heap c.X (kvs.map (·.2)) (kds.map (·.2))) E s
theorem EvPs.nil : EvPs c L O [] [] := ⟨fun s E S => evalPairs_nil ⟨.refl, [], trivial, rfl, .nil⟩⟩
theorem EvPs.cons (hk : Ev c L O ke (.str k)) (hv : Ev c L O ve d) (h : EvPs c L O ps kds) : EvPs c L O ((eval ke c.env, do let x ← eval ve c.env; standAt pos; pure x) :: ps) ((k, d) :: kds) := by
  constructor; intro s E S
  refine evalPairs_cons (wpAny_mono (hk.run s E S) (fun kv s₁ h₁ => ?_) fun _ _ e => e)
  obtain ⟨k₁, r₁⟩ := h₁
  have S₁ := k₁.sit S
  refine wpAny_bind (wpAny_mono (hv.run s₁ E S₁) (fun v s₂ h₂ => wpAny_bind (wpAny_standAt (wpAny_pure ?_))) fun _ _ e => e)
  obtain ⟨k₂, r₂⟩ := h₂
  have S₂ := k₂.sit S₁
  refine wpAny_mono (h.run s₂ E S₂) (fun vs s₃ h₃ => ?_) fun _ _ e => e
  obtain ⟨k₃, kvs, hc, h1, h2⟩ := h₃
  cases r₁ using RV.e_str with
  | str t => exact ⟨(k₁.trans k₂).trans k₃, (k, v) :: kvs, ⟨PySem.strKind_is _ _ k t, rfl, hc⟩, by simp [h1], .cons (k₃.rv r₂) h2⟩
theorem valueAt_of {X : List Addr} {h : Heap} : ∀ {kvs : List (Str × Value)} {kds : List (Str × D)}, kvs.map (·.1) = kds.map (·.1) → RL h X (kvs.map (·.2)) (kds.map (·.2)) → kds.lookup k = some d → ∃ v, valueAt kvs k = some v ∧ RV h X v d
  | [], [], _, _, e => by simp at e
  | (k', v) :: kvs, (k'', d') :: kds, h1, h2, e => by
    simp only [List.map_cons, List.cons.injEq] at h1
    obtain ⟨rfl, h1⟩ := h1
    cases h2 using RL.e_cons with
    | cons r h2 =>
      rw [List.lookup_cons] at e
      by_cases hk : k = k'
      · subst hk
        simp at e
        subst e
        exact ⟨v, by simp [valueAt], r⟩
      · rw [show (k == k') = false from by simpa using hk] at e
        obtain ⟨u, hu, q⟩ := valueAt_of h1 h2 e
        refine ⟨u, ?_, q⟩
        unfold valueAt at hu ⊢
        rw [List.find?_cons, show decide (k' = k) = false from decide_eq_false (Ne.symm hk)]
        exact hu
  | [], _ :: _, h1, _, _ => by simp at h1
  | _ :: _, [], h1, _, _ => by simp at h1
theorem Ev.dictSub {keys : List (Option Expr)} {values : List Expr} {dp : Pos} (hshape : (evalEachOpt keys c.env).zip ((evalEach values c.env).map fun v => do let x ← v; standAt dp; pure x) = ps.map fun p => (some p.1, p.2)) (h0 : ps ≠ []) (hlen : ps.length ≤ 15) (hnd : (kds.map (·.1)).Nodup)
    (hp : ∀ D, EvPs (c.off D) L O ps kds) (hr : ∀ D, Ev (c.off D) L O e (.str k)) (hk : kds.lookup k = some d) (hs : ∀ o i, subscripted e false o i = operate [o, i] (getItem o i) := by intros; rfl) : Ev c L O (.Subscript (.Dict keys values dp) e pos) d := by
  constructor; intro s E S
  refine Subscript_ (wpAny_Dict_pairs (knd := PySem.strKind c.prog c.w) hshape h0 hlen ?_)
  have nD : s.heap.get? s.heap.objs.size = Option.none := fresh_none
  have S' : Sit (c.off s.heap.objs.size) L O (s.heap.push { cls := .type "dict", data := .dict #[] }) := S.off nD (fun b o e => Heap.get?_push_of_some _ e) ⟨_, Heap.get?_push_size _ rfl⟩
  have hDX : s.heap.objs.size ∈ (c.off s.heap.objs.size).X := mem_off.mpr (.inl rfl)
  have hDc : s.heap.objs.size ∉ c.X := fresh_not S.wf
  have hDg : c.g.get? s.heap.objs.size = Option.none := by
    cases q : c.g.get? s.heap.objs.size with
    | none => rfl
    | some o => rw [S.keep _ _ q] at nD; cases nD
  refine wpAny_mono ((hp s.heap.objs.size).run _ E S') (fun vs s₁ h₁ => ?_) fun _ _ e => e
  obtain ⟨k₁, kvs, hc, h1, h2⟩ := h₁
  have S₁ := k₁.sit S'
  refine ⟨kvs, hc, ?_, fun h' hd hs' => ?_⟩
  · exact (Heap.DictOf.new s.heap).keep k₁.keep
  rw [merged_append_of_fresh [] kvs (by simpa [h1] using hnd), List.nil_append] at hd
  have aD : ∃ o, h'.get? s.heap.objs.size = some o := let ⟨o, _, _, e, _⟩ := hd; ⟨o, e⟩
  have S₂ : Sit (c.off s.heap.objs.size) L O h' := S₁.outer (.head _) (fun m => hDc (List.mem_append_left _ m)) hDg hs' aD
  refine wpAny_mono ((hr s.heap.objs.size).run { s₁ with heap := h', toks := s₁.toks + vs.length } E S₂) (fun iv s₃ h₃ => ?_) fun _ _ e => e
  obtain ⟨k₃, r₃⟩ := h₃
  have h2' : RL h' (c.off s.heap.objs.size).X (kvs.map (·.2)) (kds.map (·.2)) := h2.stay (.of_same hs' hDX)
  obtain ⟨v, hv, rv⟩ := valueAt_of h1 h2' hk
  cases r₃ using RV.e_str with
  | str t =>
    have hd₃ := hd.keep k₃.keep
    refine tail_any (T := "dict") (ops := [.ref s.heap.objs.size, .str k t]) hd₃.typeIs PySem.F.slot_dict_getitem.lookup (wpAny_getItem_of (PySem.strKind_is _ _ k t) hd₃.mapOf hv ⟨?_, (k₃.rv rv).less fun b o m _ => mem_off.mpr (.inr m)⟩) (hs _ _)
    have f : From s s₃ := by
      obtain ⟨h₁, t₁, e₁, _⟩ := k₁
      obtain ⟨h₃, t₃, e₃, _⟩ := k₃
      exact ⟨h₃, t₃, by rw [e₃, e₁]⟩
    obtain ⟨hh, tt, rfl⟩ := f
    refine ⟨hh, tt + 1, rfl, fun b o e => k₃.keep b o ?_⟩
    exact (hs'.2 b fun q => by rw [q, nD] at e; cases e).trans (k₁.keep b o (Heap.get?_push_of_some _ e))
end
end
section
open PySem PySem.W PyProof.Rows
set_option maxRecDepth 10000
/-- a thing of the ring: a number, or one of the six words -/
inductive R where
  | num (v : Int)
  | op (j : Nat)
/-- how many numbers it takes ahead -/
noncomputable def R.kind : R → Nat
  | .num _ => 0
  | .op j => if j < 2 then 1 else 2
/-- what a word makes of the last number b and the one below it, a -/
noncomputable def made (j : Nat) (a b : Int) : Int := if j = 0 then -b else if j = 1 then b.natAbs else if j = 2 then a - b else if j = 3 then b - a else if j = 4 then max a b else min a b
/-- the pile machine; the pile's last is at the head -/
noncomputable def mach : List R → List Int → Option (List Int)
  | [], st => some st
  | .num v :: l, st => mach l (v :: st)
  | .op j :: l, st => if j < 2 then (match st with | b :: st => mach l (made j b b :: st) | _ => none) else (match st with | b :: a :: st => mach l (made j a b :: st) | _ => none)
theorem mach_append (l m : List R) (st : List Int) : mach (l ++ m) st = (mach l st).bind (mach m) := by
  induction l generalizing st with
  | nil => rfl
  | cons r l ih =>
    cases r with
    | num v => exact ih _
    | op j =>
      simp only [List.cons_append, mach]
      split
      · cases st with
        | nil => rfl
        | cons b st => exact ih _
      · match st with
        | [] => rfl
        | [b] => rfl
        | b :: a :: st => exact ih _
theorem mach_op1 {j : Nat} (hj : j < 2) (b : Int) (st : List Int) : mach [.num b, .op j] st = mach [.num (made j b b)] st := by simp [mach, hj]
theorem mach_op2 {j : Nat} (hj : ¬ j < 2) (a b : Int) (st : List Int) : mach [.num a, .num b, .op j] st = mach [.num (made j a b)] st := by simp [mach, hj]
/-- how high the pile is behind l -/
noncomputable def high (l : List R) : Int := (l.map fun r => 1 - (r.kind : Int)).sum
theorem mach_high {l : List R} {st st' : List Int} (h : mach l st = some st') : (st'.length : Int) = st.length + high l := by
  induction l generalizing st with
  | nil => simp [mach] at h; subst h; simp [high]
  | cons r l ih =>
    cases r with
    | num v =>
      have := ih (st := v :: st) h
      simp [high, R.kind] at this ⊢; omega
    | op j =>
      simp only [mach] at h
      split at h
      · rename_i hj
        match st, h with
        | b :: st, h =>
          have := ih h
          simp [high, R.kind, hj] at this ⊢; omega
      · rename_i hj
        match st, h with
        | b :: a :: st, h =>
          have := ih h
          simp [high, R.kind, hj] at this ⊢; omega
/-- the machine runs where the pile never is too low -/
theorem mach_runs : ∀ {l : List R} {st : List Int}, (∀ k, k < l.length → ((l[k]?.map R.kind).getD 0 : Int) ≤ st.length + high (l.take k)) → (mach l st).isSome = true := by
  intro l
  induction l with
  | nil => intro st _; rfl
  | cons r l ih =>
    intro st h
    have step : ∀ st' : List Int, (st'.length : Int) = st.length + (1 - (r.kind : Int)) → (mach l st').isSome = true := fun st' e => by
      refine ih fun k hk => ?_
      have := h (k + 1) (by simp; omega)
      simp only [List.getElem?_cons_succ, List.take_succ_cons, high, List.map_cons, List.sum_cons] at this
      simp only [high]
      omega
    have h0 := h 0 (by simp)
    simp only [List.getElem?_cons_zero, Option.map_some, Option.getD_some, List.take_zero, high, List.map_nil, List.sum_nil] at h0
    cases r with
    | num v => exact step (v :: st) (by simp [R.kind])
    | op j =>
      simp only [mach]
      split
      · rename_i hj
        simp [R.kind, hj] at h0
        match st, h0 with
        | b :: st, _ => exact step _ (by simp [R.kind, hj])
        | [], h0 => simp at h0
      · rename_i hj
        simp [R.kind, hj] at h0
        match st, h0 with
        | b :: a :: st, _ => exact step _ (by simp [R.kind, hj]; omega)
        | [b], h0 => simp at h0
        | [], h0 => simp at h0
end
section
open PySem PySem.W PyProof.Rows
set_option maxRecDepth 10000
/-- the ring turned so that k comes last -/
noncomputable def turn (ring : List R) (k : Nat) : List R := ring.drop (k + 1) ++ ring.take (k + 1)
theorem turn_len {ring : List R} {k : Nat} : (turn ring k).length = ring.length := by simp [turn]; omega
/-- a turned ring turned again -/
theorem turn_rot {p q : List R} {k : Nat} (hk : k < (p ++ q).length) : ∃ m, m < (q ++ p).length ∧ turn (p ++ q) k = turn (q ++ p) m ∧ (p ++ q)[k]? = (q ++ p)[m]? := by
  by_cases h : k < p.length
  · refine ⟨q.length + k, by simp; omega, ?_, ?_⟩
    · unfold turn
      rw [List.drop_append_of_le_length (by omega), List.take_append_of_le_length (by omega)]
      rw [Nat.add_assoc, List.drop_append, List.take_append]
      simp [List.drop_of_length_le, List.take_of_length_le]
    · rw [List.getElem?_append_left h, List.getElem?_append_right (by omega), Nat.add_sub_cancel_left]
  · refine ⟨k - p.length, by simp at hk ⊢; omega, ?_, ?_⟩
    · have e : k + 1 = p.length + (k - p.length + 1) := by omega
      simp at hk
      unfold turn
      rw [e, List.drop_append, List.take_append, List.drop_append_of_le_length (l₁ := q) (by omega), List.take_append_of_le_length (l₁ := q) (by omega)]
      simp [List.drop_of_length_le, List.take_of_length_le]
    · rw [List.getElem?_append_right (by omega), List.getElem?_append_left (by simp at hk; omega)]
theorem turn_at {ring : List R} {k j : Nat} (hk : k < ring.length) (hj : j ≤ k) : (turn ring k)[ring.length - 1 - j]? = ring[k - j]? := by
  unfold turn
  rw [List.getElem?_append_right (by simp; omega), List.length_drop, List.getElem?_take]
  rw [if_pos (by omega)]
  congr 1; omega
/-- what a ready word makes of the ring -/
noncomputable def numOf : R → Int
  | .num v => v
  | .op _ => 0
noncomputable def stepR (ring : List R) (k j : Nat) : List R :=
  (turn ring k).take (ring.length - 1 - (R.op j).kind) ++ [.num (made j (numOf ((turn ring k).getD (ring.length - 1 - (R.op j).kind) (.num 0))) (numOf ((turn ring k).getD (ring.length - 2) (.num 0))))]
/-- a word is ready -/
noncomputable def Ready (ring : List R) (k j : Nat) : Prop := ring[k]? = some (.op j) ∧ ∀ i, 1 ≤ i → i ≤ (R.op j).kind → ∃ v, (turn ring k)[ring.length - 1 - i]? = some (.num v)
/-- the ring comes to v -/
noncomputable def Comes (ring : List R) (v : Int) : Prop := ∃ p q, ring = p ++ q ∧ mach (q ++ p) [] = some [v]
theorem mach_low {l : List R} {st st' : List Int} (h : mach l st = some st') : st'.length ≤ st.length + l.length := by
  have := mach_high h
  have h2 : high l ≤ l.length := by
    clear this h
    induction l with
    | nil => simp [high]
    | cons r l ih => simp [high] at ih ⊢; omega
  omega
theorem op_room {s : List R} {m j : Nat} {st : List Int} (hm : s[m]? = some (.op j)) (h : mach s [] = some st) : (R.op j).kind ≤ m := by
  have lm : m < s.length := by apply Nat.lt_of_not_le; intro z; rw [List.getElem?_eq_none z] at hm; cases hm
  have e : s = s.take m ++ .op j :: s.drop (m + 1) := by
    have : s[m] = .op j := by rw [List.getElem?_eq_getElem lm] at hm; simpa using hm
    rw [← this]; simp
  rw [e, mach_append] at h
  cases h1 : mach (s.take m) [] with
  | none => rw [h1] at h; cases h
  | some st1 =>
    rw [h1] at h
    have l1 := mach_low h1
    simp at l1
    simp only [Option.bind_some, mach] at h
    split at h
    · rename_i hj
      match st1, h, l1 with
      | b :: st1, _, l1 => simp [R.kind, hj] at l1 ⊢; omega
    · rename_i hj
      match st1, h, l1 with
      | b :: a :: st1, _, l1 => simp [R.kind, hj] at l1 ⊢; omega
theorem take_snoc {s : List R} {m : Nat} {r : R} (h : s[m]? = some r) : s.take (m + 1) = s.take m ++ [r] := by
  rw [List.take_add_one, h]; rfl
theorem getD_app {U V : List R} {i : Nat} {x : R} : (U ++ V).getD (U.length + i) x = V.getD i x := by
  rw [List.getD_eq_getElem?_getD, List.getElem?_append_right (Nat.le_add_right _ _), Nat.add_sub_cancel_left]; exact (List.getD_eq_getElem?_getD).symm
theorem comes_step {ring : List R} {k j : Nat} {v : Int} (hc : Comes ring v) (hr : Ready ring k j) : Comes (stepR ring k j) v ∧ (stepR ring k j).length < ring.length := by
  obtain ⟨p, q, rfl, hs⟩ := hc
  obtain ⟨hop, hpre⟩ := hr
  have hk : k < (p ++ q).length := by apply Nat.lt_of_not_le; intro z; rw [List.getElem?_eq_none z] at hop; cases hop
  obtain ⟨m, hm, ht, hg⟩ := turn_rot hk
  have hlen : (p ++ q).length = (q ++ p).length := by simp; omega
  generalize q ++ p = s at hs hm ht hg hlen
  have hopm : s[m]? = some (.op j) := hg ▸ hop
  have hkm := op_room hopm hs
  have es : s = s.take (m + 1) ++ s.drop (m + 1) := (List.take_append_drop _ _).symm
  have pre : ∀ i, 1 ≤ i → i ≤ (R.op j).kind → ∃ v, s[m - i]? = some (.num v) := fun i h1 h2 => by
    obtain ⟨v, hv⟩ := hpre i h1 h2
    rw [ht, hlen, turn_at hm (by omega)] at hv
    exact ⟨v, hv⟩
  unfold stepR
  rw [ht, hlen]
  have sub1 : ∀ {i : Nat} {r : R}, 1 ≤ i → s[i - 1]? = some r → s.take i = s.take (i - 1) ++ [r] := fun h e => (congrArg s.take (Nat.sub_add_cancel h)).symm.trans (take_snoc e)
  by_cases hj : j < 2
  · have hk1 : (R.op j).kind = 1 := if_pos hj
    rw [hk1] at pre hkm ⊢
    obtain ⟨b, hb⟩ := pre 1 (Nat.le_refl _) (Nat.le_refl _)
    have ex : s.take (m + 1) = s.take (m - 1) ++ [.num b, .op j] := by
      rw [take_snoc hopm, sub1 hkm hb, List.append_assoc]; rfl
    have et : turn s m = s.drop (m + 1) ++ s.take (m - 1) ++ [.num b, .op j] := by unfold turn; rw [ex, List.append_assoc]
    have hN : s.length = (s.drop (m + 1) ++ s.take (m - 1)).length + 2 := by rw [← turn_len (k := m), et, List.length_append]; rfl
    rw [hN, et, show (s.drop (m + 1) ++ s.take (m - 1)).length + 2 - 1 - 1 = (s.drop (m + 1) ++ s.take (m - 1)).length + 0 from rfl, getD_app, show (s.drop (m + 1) ++ s.take (m - 1)).length + 2 - 2 = (s.drop (m + 1) ++ s.take (m - 1)).length + 0 from rfl, getD_app, Nat.add_zero, List.take_left]
    refine ⟨⟨s.drop (m + 1), s.take (m - 1) ++ [.num (made j b b)], List.append_assoc _ _ _, ?_⟩, ?_⟩
    · rw [es, ex] at hs
      rw [List.append_assoc, mach_append] at hs ⊢
      cases h1 : mach (s.take (m - 1)) [] with
      | none => rw [h1] at hs; cases hs
      | some st1 =>
        rw [h1] at hs
        simp only [Option.bind_some] at hs ⊢
        rw [mach_append, mach_op1 hj, ← mach_append] at hs
        exact hs
    · rw [List.length_append]; exact Nat.lt_succ_self _
  · have hk2 : (R.op j).kind = 2 := if_neg hj
    rw [hk2] at pre hkm ⊢
    obtain ⟨b, hb⟩ := pre 1 (Nat.le_refl _) (by decide)
    obtain ⟨a, ha⟩ := pre 2 (by decide) (Nat.le_refl _)
    have ex : s.take (m + 1) = s.take (m - 2) ++ [.num a, .num b, .op j] := by
      rw [take_snoc hopm, sub1 (Nat.le_trans (by decide) hkm) hb, sub1 (i := m - 1) (Nat.le_sub_of_add_le hkm) ha, List.append_assoc, List.append_assoc]; rfl
    have et : turn s m = s.drop (m + 1) ++ s.take (m - 2) ++ [.num a, .num b, .op j] := by unfold turn; rw [ex, List.append_assoc]
    have hN : s.length = (s.drop (m + 1) ++ s.take (m - 2)).length + 3 := by rw [← turn_len (k := m), et, List.length_append]; rfl
    rw [hN, et, show (s.drop (m + 1) ++ s.take (m - 2)).length + 3 - 1 - 2 = (s.drop (m + 1) ++ s.take (m - 2)).length + 0 from rfl, getD_app, show (s.drop (m + 1) ++ s.take (m - 2)).length + 3 - 2 = (s.drop (m + 1) ++ s.take (m - 2)).length + 1 from rfl, getD_app, Nat.add_zero, List.take_left]
    refine ⟨⟨s.drop (m + 1), s.take (m - 2) ++ [.num (made j a b)], List.append_assoc _ _ _, ?_⟩, ?_⟩
    · rw [es, ex] at hs
      rw [List.append_assoc, mach_append] at hs ⊢
      cases h1 : mach (s.take (m - 2)) [] with
      | none => rw [h1] at hs; cases hs
      | some st1 =>
        rw [h1] at hs
        simp only [Option.bind_some] at hs ⊢
        rw [mach_append, mach_op2 hj, ← mach_append] at hs
        exact hs
    · rw [List.length_append]; exact Nat.add_lt_add_left (by decide : 1 < 3) _
theorem first_op : ∀ (s : List R), (∃ (m j : Nat), s[m]? = some (R.op j) ∧ ∀ i : Nat, i < m → ∃ v, s[i]? = some (R.num v)) ∨ ∀ i : Nat, i < s.length → ∃ v, s[i]? = some (R.num v)
  | [] => .inr fun i h => absurd h (Nat.not_lt_zero _)
  | .op j :: s => .inl ⟨0, j, rfl, fun i h => absurd h (Nat.not_lt_zero _)⟩
  | .num v :: s => by
    rcases first_op s with ⟨m, j, h1, h2⟩ | h
    · refine .inl ⟨m + 1, j, h1, fun i hi => ?_⟩
      cases i with
      | zero => exact ⟨v, rfl⟩
      | succ i => exact h2 i (by omega)
    · refine .inr fun i hi => ?_
      cases i with
      | zero => exact ⟨v, rfl⟩
      | succ i => exact h i (by simpa using hi)
theorem high_nums : ∀ {s : List R}, (∀ i, i < s.length → ∃ v, s[i]? = some (.num v)) → high s = s.length
  | [], _ => rfl
  | r :: s, h => by
    obtain ⟨v, hv⟩ := h 0 (by simp)
    simp at hv
    subst hv
    have := high_nums (s := s) fun i hi => h (i + 1) (by simpa using hi)
    simp [high, R.kind] at this ⊢; omega
theorem ready_some {ring : List R} {v : Int} (hc : Comes ring v) (hl : 1 < ring.length) : ∃ k j, k < ring.length ∧ Ready ring k j := by
  obtain ⟨p, q, rfl, hs⟩ := hc
  have hlen : (p ++ q).length = (q ++ p).length := by simp; omega
  rcases first_op (q ++ p) with ⟨m, j, h1, h2⟩ | h
  · have hm : m < (q ++ p).length := by apply Nat.lt_of_not_le; intro z; rw [List.getElem?_eq_none z] at h1; cases h1
    obtain ⟨k, hk, ht, hg⟩ := turn_rot (p := q) (q := p) hm
    refine ⟨k, j, hk, hg ▸ h1, fun i hi1 hi2 => ?_⟩
    have hkm := op_room h1 hs
    obtain ⟨v, hv⟩ := h2 (m - i) (by omega)
    refine ⟨v, ?_⟩
    rw [← ht, hlen, turn_at hm (by omega)]
    exact hv
  · have := mach_high hs
    rw [high_nums h] at this
    simp at this
    simp at hl
    omega
/-- a ring of one has come to it -/
theorem comes_one {r : R} {v : Int} (h : Comes [r] v) : r = .num v := by
  obtain ⟨p, q, e, hs⟩ := h
  have : q ++ p = [r] := by
    cases p with
    | nil => simp at e; simp [← e]
    | cons a p =>
      simp at e
      obtain ⟨rfl, e⟩ := e
      have : p = [] ∧ q = [] := by
        rcases p with _ | ⟨x, p⟩
        · exact ⟨rfl, by simpa using e⟩
        · simp at e
      rw [this.1, this.2]; rfl
  rw [this] at hs
  cases r with
  | num x => simp [mach] at hs; rw [hs]
  | op j => simp [mach] at hs
theorem comes_pos {ring : List R} {v : Int} (h : Comes ring v) : 0 < ring.length := by
  obtain ⟨p, q, rfl, hs⟩ := h
  have := mach_high hs
  apply Nat.pos_of_ne_zero
  intro z
  have : q ++ p = [] := by
    have : p ++ q = [] := List.length_eq_zero_iff.mp z
    simp at this; simp [this]
  rw [this] at hs; simp [mach] at hs
end
section
open PySem PySem.W PyProof.Rows
set_option maxRecDepth 10000
theorem turn_py {ring : List R} {k i : Nat} (hk : k < ring.length) (hi : i < ring.length) : pyIdx ring ((k : Int) - (i : Nat)) = (turn ring k)[ring.length - 1 - i]? := by
  by_cases h : i ≤ k
  · rw [turn_at hk h]
    unfold pyIdx
    rw [if_pos (by omega)]
    congr 1; omega
  · unfold pyIdx turn
    rw [if_neg (by omega), if_pos (by omega), List.getElem?_append_left (by simp; omega), List.getElem?_drop]
    congr 1; omega
/-- the item k before the last of a turned ring -/
noncomputable def ringD : R → D
  | .num v => .tup [.int 0, .int v]
  | .op j => .tup [.int ((R.op j).kind : Nat), .str (opW j)]
noncomputable def kindAt (ring : List R) (x : Int) : Nat := ((pyIdx ring x).map R.kind).getD 0
noncomputable def aheadL (ring : List R) (k : Nat) : List Int := (((List.range (((ring[k]?.map R.kind).getD 0))).map fun i => (1 + (i : Nat) : Int)).filter fun j => decide (0 < kindAt ring ((k : Int) - j)))
/-- the ready places -/
noncomputable def readyL (ring : List R) : List Nat := (List.range ring.length).filter fun k => decide (0 < (ring[k]?.map R.kind).getD 0) && (aheadL ring k).isEmpty
theorem kind_le (r : R) : r.kind ≤ 2 := by
  cases r with
  | num v => exact Nat.zero_le _
  | op j => simp only [R.kind]; split <;> omega
theorem high_append (l m : List R) : high (l ++ m) = high l + high m := by simp [high]
theorem high_kind : ∀ (l : List R) (r : R), r ∈ l → high l + r.kind ≤ l.length
  | r' :: l, r, h => by
    have base : ∀ l : List R, high l ≤ l.length := fun l => by
      induction l with
      | nil => simp [high]
      | cons r l ih => simp [high] at ih ⊢; omega
    rcases List.mem_cons.mp h with rfl | h
    · have := base l
      simp [high] at this ⊢; omega
    · have := high_kind l r h
      simp [high] at this ⊢; omega
theorem comes_kind {ring : List R} {v : Int} (h : Comes ring v) : ∀ r ∈ ring, r.kind < ring.length := by
  obtain ⟨p, q, rfl, hs⟩ := h
  intro r hr
  have h1 := mach_high hs
  rw [high_append] at h1
  have h2 := high_kind (p ++ q) r hr
  rw [high_append] at h2
  simp at h1; omega
theorem ready_mem {ring : List R} {k : Nat} (hkd : ∀ r ∈ ring, r.kind < ring.length) : k ∈ readyL ring ↔ ∃ j, k < ring.length ∧ Ready ring k j := by
  unfold readyL
  rw [List.mem_filter, List.mem_range]
  constructor
  · rintro ⟨hk, h⟩
    rw [Bool.and_eq_true, decide_eq_true_eq] at h
    obtain ⟨h1, h2⟩ := h
    have hg : ring[k]? = some ring[k] := List.getElem?_eq_getElem hk
    rw [hg] at h1
    cases hr : ring[k] with
    | num v => rw [hr] at h1; simp [R.kind] at h1
    | op j =>
      refine ⟨j, hk, by rw [hg, hr], fun i hi1 hi2 => ?_⟩
      have hkl := hkd (.op j) (hr ▸ List.getElem_mem hk)
      have hil : i < ring.length := by omega
      rw [← turn_py hk hil]
      have nz : ¬ 0 < kindAt ring ((k : Int) - (i : Nat)) := by
        intro hpos
        have : ((i : Nat) : Int) ∈ aheadL ring k := by
          unfold aheadL
          rw [List.mem_filter]
          refine ⟨List.mem_map.mpr ⟨i - 1, ?_, by omega⟩, by simpa using hpos⟩
          rw [List.mem_range, hg, hr]
          simp; omega
        rw [List.isEmpty_iff] at h2
        rw [h2] at this; cases this
      unfold kindAt at nz
      cases hp : pyIdx ring ((k : Int) - (i : Nat)) with
      | none =>
        rw [turn_py hk hil, List.getElem?_eq_none_iff, turn_len] at hp; omega
      | some r =>
        rw [hp] at nz
        cases r with
        | num v => exact ⟨v, rfl⟩
        | op j' => exfalso; apply nz; simp [R.kind]; split <;> omega
  · rintro ⟨j, hk, hop, hpre⟩
    refine ⟨hk, ?_⟩
    rw [Bool.and_eq_true, decide_eq_true_eq]
    have hjk : 0 < (R.op j).kind := by simp only [R.kind]; split <;> omega
    refine ⟨by rw [hop]; exact hjk, ?_⟩
    rw [List.isEmpty_iff]
    unfold aheadL
    rw [List.filter_eq_nil_iff]
    intro x hx
    obtain ⟨i, hi, rfl⟩ := List.mem_map.mp hx
    rw [List.mem_range, hop] at hi
    simp at hi
    have hkl := hkd (.op j) (List.mem_of_getElem? hop)
    obtain ⟨v, hv⟩ := hpre (i + 1) (by omega) (by omega)
    rw [← turn_py hk (by omega)] at hv
    have e : ((k : Int) - ((i + 1 : Nat) : Int)) = (k : Int) - (1 + (i : Nat)) := by omega
    rw [e] at hv
    unfold kindAt
    rw [hv]
    simp [R.kind]
theorem pures_ints : ∀ l : List Int, D.pures (l.map .int) = true
  | [] => by simp [D.pures]
  | x :: l => by simp [D.pures, D.pure, pures_ints l]
theorem ints_pure (l : List Int) : (D.lst (l.map .int)).pure = true := by rw [D.pure]; exact pures_ints l
theorem lay_ints : ∀ l : List Int, PyData.canLayAll0 (D.pys (l.map .int)) = true
  | [] => by simp [D.pys, PyData.canLayAll0]
  | x :: l => by simp [D.pys, D.py, PyData.canLayAll0, PyData.canLay0, lay_ints l]
theorem depth_ints : ∀ l : List Int, PyData.depthAll (D.pys (l.map .int)) = 0
  | [] => by simp [D.pys, PyData.depthAll]
  | x :: l => by simp [D.pys, D.py, PyData.depthAll, PyData.depth, depth_ints l]
theorem ints_shaped (l : List Int) : SeqAt.shaped (D.lst (l.map .int)).py = true := by
  rw [D.py]
  unfold SeqAt.shaped
  rw [Bool.and_eq_true]
  refine ⟨by rw [PyData.canLay0]; exact lay_ints l, ?_⟩
  rw [PyData.depth, depth_ints]; decide
end
section
open PySem PySem.W PyProof.Rows
set_option maxRecDepth 10000
local macro_rules | `(tactic| tm_at "kl con") => `(tactic| first | exact Con.absI | (refine Con.max2 ?hh; (case hh => assumption)) | (refine Con.min2 ?hh; (case hh => assumption)))
/-- a row's word in the ring -/
noncomputable def ringOf (p : Nat × Int) : R := if p.1 < 3 then .num (zS p.2) else .op (opI p.1 p.2)
theorem ringOf_op {p : Nat × Int} {j : Nat} (h : ringOf p = .op j) : j < 6 := by
  unfold ringOf at h
  split at h
  · cases h
  · cases h
    unfold opI
    split <;> split <;> (try split) <;> omega
/-- the last two of four -/
noncomputable def lastD : D → D
  | .tup [_, _, k, t] => .tup [k, t]
  | d => d
theorem lastD_is {p : Nat × Int} (h : p.1 < 6) : lastD (itD p) = ringD (ringOf p) := by
  unfold itD itK itT ringOf lastD
  by_cases h3 : p.1 < 3
  · simp only [if_pos h3]; rfl
  · simp only [if_neg h3, ringD]
    have : opI p.1 p.2 < 2 ↔ p.1 = 3 := by
      unfold opI
      constructor
      · intro h; apply Classical.byContradiction; intro n
        rw [if_neg n] at h
        split at h <;> omega
      · intro h; rw [if_pos h]; split <;> omega
    by_cases e : p.1 = 3
    · rw [if_pos e]; simp [R.kind, this.mpr e]
    · rw [if_neg e]; simp [R.kind, show ¬ opI p.1 p.2 < 2 from fun z => e (this.mp z)]
theorem ringD_kind (r : R) : ∃ d, ringD r = .tup [.int (r.kind : Nat), d] := by cases r <;> exact ⟨_, rfl⟩
theorem pyIdx_map {α β : Type} (f : α → β) (l : List α) (x : Int) : pyIdx (l.map f) x = (pyIdx l x).map f := by
  unfold pyIdx
  rw [List.length_map]
  split
  · rw [List.getElem?_map]
  · split
    · rw [List.getElem?_map]
    · rfl
theorem kindAt_of {ring : List R} {x : Int} {r : R} (h : pyIdx ring x = some r) : kindAt ring x = r.kind := by unfold kindAt; rw [h]; rfl
noncomputable def okJ (ring : List R) (k : Nat) : D → Bool
  | .int j => decide (0 < kindAt ring ((k : Int) - j))
  | _ => false
theorem ahead_is (ring : List R) (k : Nat) : ((rangeD 1 ((ring[k]?.map R.kind).getD 0)).filter (okJ ring k)).map id = (aheadL ring k).map .int := by
  unfold rangeD aheadL
  rw [List.map_id, show ((List.range ((ring[k]?.map R.kind).getD 0)).map fun i => D.int (1 + (i : Nat))) = ((List.range ((ring[k]?.map R.kind).getD 0)).map fun i => (1 + (i : Nat) : Int)).map D.int by rw [List.map_map]; rfl, List.filter_map]
  rfl
theorem eqv_nil (l : List Int) : PyData.eqv (D.lst (l.map .int)).py (D.lst []).py = l.isEmpty := by
  cases l <;> simp [D.py, D.pys, PyData.eqv, PyData.eqvAll]
theorem range_filter (P : Nat → Bool) (f : Nat → D) (k : Nat) : ((List.range (k + 1)).filter P).map f = ((List.range k).filter P).map f ++ (if P k then [f k] else []) := by
  rw [List.range_succ, List.filter_append, List.map_append]
  congr 1
  cases h : P k <;> simp [h]
theorem Ex.turnO {c : Cx} {L L' : List (Str × D)} {O O' : List (Addr × List D)} {s₀ : Shared} {E : Value → Shared → Prop} (hO : O' = O) (hl : ∀ x d, L'.lookup x = some d → L.lookup x = some d) : Ex s₀ c L O [] (Turn s₀ c L' O') E := by
  subst hO; exact Ex.turn hl
theorem made_look {j : Nat} (hj : j < 6) (a b : Int) : List.lookup (opW j) [(Str.ofString "back", D.int (-b)), (Str.ofString "BACK", D.int (b.natAbs : Nat)), (Str.ofString "less", D.int (a - b)), (Str.ofString "LESS", D.int (b - a)), (Str.ofString "later", D.int (max a b)), (Str.ofString "LATER", D.int (min a b))] = some (D.int (made j a b)) := by
  have : j = 0 ∨ j = 1 ∨ j = 2 ∨ j = 3 ∨ j = 4 ∨ j = 5 := by omega
  rcases this with rfl | rfl | rfl | rfl | rfl | rfl <;> rfl
section
variable {prog : Program} {w : World} {A : Around} {g : Heap} {V : List Addr}
theorem ring_c {rw_ : List (Nat × Int)} {ch v : Int} (B : Base prog w g) (ok : Ok 4 A) (h6 : rw_.length = 6) (hk : ∀ p ∈ rw_, p.1 < 6) (hc0 : 0 ≤ ch) (hc1 : ch < 1000) (hv : Comes (rw_.map ringOf) v) : Con prog w A g V (.ref 168) [.lst (rw_.map itD), .int ch] (.int v) := by
  refine Con.fnC (n := 3) [Str.ofString "row", Str.ofString "choice"] [(Str.ofString "row", .lst (rw_.map itD)), (Str.ofString "choice", .int ch)] rfl B.f_law_ring B.nl ok rfl (by decide +kernel) ?_ (two_local (by kernel_rfl) (by kernel_rfl)) ?_ (by kernel_rfl) (by kernel_rfl) (by kernel_rfl)
  · intro pm cd doc vs hvs
    match vs, hvs with
    | [v, u], _ => rfl
  · intro s₀ cd hg hWV
    have B' := B.keep hg
    refine Ex.assign (d := .lst ((rw_.map ringOf).map ringD)) ?_ (.inr ⟨by kernel_rfl, s₀.heap.objs.size + 1, by kernel_rfl⟩) ?_ (by kernel_rfl)
    · refine Ev.eq (d := .lst (((rw_.map itD).filter fun _ => true).map lastD)) (EvN.ev (EvN.comp (ds := rw_.map itD) (t := fun _ => true) (f := lastD) (cl := []) (Lf := []) (EvI.lst ?_) (by rfl) FreeIs.nil (fun x b e => by cases e) (by rfl) (by decide +kernel) (by decide +kernel) (by kernel_rfl) ok.handled (by simp; omega) (fun _ _ _ _ _ => Ifs.nil) ?_ (by intro _; rfl))) ?_
      · tm_at "kl ev"
      · intro d hd _ C Dl I
        obtain ⟨p, _, rfl⟩ := List.mem_map.mp hd
        show Ev _ _ _ _ (.tup [.int (itK p), itT p])
        refine Ev.tuple (ds := [.int (itK p), itT p]) (EvL.cons ?_ (EvL.cons ?_ EvL.nil)) (Nat.le_of_ble_eq_true rfl)
        · refine Ev.sub (d := itD p) (e := .int 2) ?_ Ev.int (ItIs.tup rfl) (by intros; rfl)
          tm_at "kl ev"
        · refine Ev.sub (d := itD p) (e := .int 3) ?_ Ev.int (ItIs.tup rfl) (by intros; rfl)
          tm_at "kl ev"
      · rw [filt, List.map_map, List.map_map]
        congr 1
        exact List.map_congr_left fun p hp => lastD_is (hk p hp)
    have okd := Ok.deeper (n := 3) (env := envC (Str.ofString "_law_ring") (scopeOf (row 25)) s₀.heap.objs.size 168 cd) ok
    refine Ex.whileI (σ := List R × Int) (E' := fun _ _ => False) (fun st => st.1.length) (fun st => Comes st.1 v ∧ (∀ j, R.op j ∈ st.1 → j < 6) ∧ 0 ≤ st.2 ∧ st.2 < 1000 ∧ st.1.length ≤ 6) (fun st => decide ((1 : Int) < (st.1.map ringD).length))
      (fun st => [(Str.ofString "ring", .lst (st.1.map ringD)), (Str.ofString "choice", .int st.2)]) (fun _ => []) (rw_.map ringOf, ch) ?_ rfl ⟨hv, ?_, hc0, hc1, by simp; omega⟩ ?_ ?_ ?_ (fun _ _ h => h.elim)
    · tm_at "kl sub"
    · intro j hj
      obtain ⟨p, _, e⟩ := List.mem_map.mp hj
      exact ringOf_op e
    · rintro ⟨ring, ch⟩ ⟨hv, hj, h0, h1, hl⟩
      refine Tst.cmp (d := .int ((ring.map ringD).length : Nat)) (e := .int 1) ?_ Ev.int CmpIs.gtI (by with_unfolding_all rfl)
      refine Ev.callv (d₁ := .lst (ring.map ringD)) (ds := []) (Ev.glob (by kernel_rfl) B'.g_len (by kernel_rfl)) (.inl ⟨_, rfl⟩) (by rfl) ?_ EvL.nil (by rfl) (Con.lenL (by simp; simp at hl; omega))
      tm_at "kl ev"
    · rintro ⟨ring, ch⟩ ⟨hv, hj, h0, h1, hl⟩ hb
      have hv' : Comes ring v := hv
      have hl' : ring.length ≤ 6 := hl
      have hl2 : 1 < ring.length := by
        have hb' : (1 : Int) < ((ring.map ringD).length : Nat) := by simpa using hb
        simp at hb'; omega
      refine Ex.own (ds := []) (EvN.list EvL.nil) (.inl (by kernel_rfl)) (fun ra hra => ?_) (by rfl)
      refine Ex.forI (ds := rangeD 0 ring.length) ring.length (fun _ => [(Str.ofString "ready", .cell ra), (Str.ofString "ring", .lst (ring.map ringD)), (Str.ofString "choice", .int ch)])
        (fun k => [(ra, ((List.range k).filter fun k => decide (0 < (ring[k]?.map R.kind).getD 0) && (aheadL ring k).isEmpty).map fun k => .int (0 + (k : Nat)))]) rangeD_len ?_ ?_ rfl (.inr ⟨by kernel_rfl, s₀.heap.objs.size + 2, by kernel_rfl⟩) okd.handled ?_ ?_ (fun l k hk hm => ?_) (by intro _; rfl)
      · refine EvI.rng1 (n := ring.length) (Ev.glob (by kernel_rfl) B'.g_range (by kernel_rfl)) (by rfl) (Ev.eq (d := .int ((ring.map ringD).length : Nat)) ?_ (by simp)) (by omega)
        refine Ev.callv (d₁ := .lst (ring.map ringD)) (ds := []) (Ev.glob (by kernel_rfl) B'.g_len (by kernel_rfl)) (.inl ⟨_, rfl⟩) (by rfl) ?_ EvL.nil (by rfl) (Con.lenL (by simp; omega))
        tm_at "kl ev"
      · tm_at "kl sub"
      · intro k d hd I g' hg'
        have hk : k < ring.length := by
          apply Nat.lt_of_not_le; intro z
          rw [List.getElem?_eq_none (by rw [rangeD_len]; exact z)] at hd; cases hd
        rw [rangeD_get hk] at hd
        cases hd
        have hr : ring[k]? = some ring[k] := List.getElem?_eq_getElem hk
        generalize hrk : ring[k] = r at hr
        obtain ⟨dr, hdr⟩ := ringD_kind r
        have hpk : pyIdx ring (0 + (k : Nat)) = some r := by
          unfold pyIdx
          rw [if_pos (by omega)]
          rw [← hr]; congr 1; omega
        have hpy : pyIdx (ring.map ringD) (0 + (k : Nat)) = some (.tup [.int (r.kind : Nat), dr]) := by rw [pyIdx_map, hpk, ← hdr]; rfl
        have hK : (ring[k]?.map R.kind).getD 0 = r.kind := by rw [hr]; rfl
        have k2 := kind_le r
        have hkl := comes_kind hv' r (List.mem_of_getElem? hr)
        have B₂ := B'.keep hg'
        refine Ex.compLst (ds := rangeD 1 ((ring[k]?.map R.kind).getD 0)) (t := okJ ring k) (f := id) (cl := [(Str.ofString "ring", s₀.heap.objs.size + 1), (Str.ofString "k", s₀.heap.objs.size + 2)]) (Lf := [(Str.ofString "ring", .lst (ring.map ringD)), (Str.ofString "k", .int (0 + (k : Nat)))]) (by kernel_rfl) (EvI.rng2 (a := 1) (n := (ring[k]?.map R.kind).getD 0) (Ev.glob (by kernel_rfl) B₂.g_range (by kernel_rfl)) (by rfl) (by rfl) Ev.int ?_ (by omega) (by decide)) (by rfl) ?_ ?_ (by rfl) (by decide +kernel) (by decide +kernel) (by kernel_rfl) (.inl (by kernel_rfl)) okd.handled (by rw [rangeD_len]; omega) (fun d hd C Dl I' => ?_) (fun d hd _ C Dl I' => ?_) ?_ (by intro _; rfl)
        · rw [hK]
          refine Ev.eq (d := .int ((r.kind : Nat) + 1)) (Ev.bin (a := .int (r.kind : Nat)) (b := .int 1) (Ev.sub (d := .tup [.int (r.kind : Nat), dr]) (e := .int 0) (Ev.sub (d := .lst (ring.map ringD)) (e := .int (0 + (k : Nat))) ?_ ?_ (ItIs.lst hpy (by omega) (by omega)) (by intros; rfl)) Ev.int (ItIs.tup rfl) (by intros; rfl)) Ev.int BinIs.addI) (by rw [Int.add_comm])
          · tm_at "kl ev"
          · tm_at "kl ev"
        · refine FreeIs.cons ?_ ?_ ?_ ?_ (FreeIs.cons ?_ ?_ ?_ ?_ FreeIs.nil)
          · tm_at "kl look"
          · exact .inl (by kernel_rfl)
          · exact .inl (by kernel_rfl)
          · rfl
          · tm_at "kl look"
          · exact .inl (by kernel_rfl)
          · exact .inl (by kernel_rfl)
          · rfl
        · intro x b e
          have e' := lookup_mem e
          rcases List.mem_cons.mp e' with q | q
          · cases q; rfl
          · rcases List.mem_cons.mp q with q | q
            · cases q; rfl
            · cases q
        · obtain ⟨i, hi, rfl⟩ := List.mem_map.mp (show d ∈ (List.range ((ring[k]?.map R.kind).getD 0)).map fun i => D.int (1 + (i : Nat)) from hd)
          rw [List.mem_range, hK] at hi
          have hil : i + 1 < ring.length := by omega
          obtain ⟨r', hr'⟩ : ∃ r', pyIdx ring ((k : Int) - (1 + (i : Nat))) = some r' := by
            have := turn_py hk hil
            rw [show ((i + 1 : Nat) : Int) = 1 + (i : Nat) by omega] at this
            rw [this]
            exact ⟨_, List.getElem?_eq_getElem (by rw [turn_len]; omega)⟩
          obtain ⟨dr', hdr'⟩ := ringD_kind r'
          have hpy' : pyIdx (ring.map ringD) (0 + (k : Nat) - (1 + (i : Nat))) = some (.tup [.int (r'.kind : Nat), dr']) := by
            rw [pyIdx_map, show (0 + (k : Nat) - (1 + (i : Nat)) : Int) = (k : Int) - (1 + (i : Nat)) by omega, hr', ← hdr']; rfl
          refine Ifs.one (Tst.cmp (d := .int (r'.kind : Nat)) (e := .int 0) (Ev.sub (d := .tup [.int (r'.kind : Nat), dr']) (e := .int 0) (Ev.sub (d := .lst (ring.map ringD)) (e := .int (0 + (k : Nat) - (1 + (i : Nat)))) ?_ (Ev.bin (a := .int (0 + (k : Nat))) (b := .int (1 + (i : Nat))) ?_ ?_ BinIs.subI) (ItIs.lst hpy' (by omega) (by omega)) (by intros; rfl)) Ev.int (ItIs.tup rfl) (by intros; rfl)) Ev.int ?_ (by with_unfolding_all rfl))
          · tm_at "kl ev"
          · tm_at "kl ev"
          · tm_at "kl ev"
          · have e : okJ ring k (.int (1 + (i : Nat))) = decide ((0 : Int) < (r'.kind : Nat)) := by
              show decide (0 < kindAt ring ((k : Int) - (1 + (i : Nat)))) = _
              rw [kindAt_of hr']
              exact decide_eq_decide.mpr (by omega)
            rw [e]; exact CmpIs.gtI
        · refine Ev.name ?_
          show List.lookup _ _ = some d
          tm_at "kl look"
        · rw [ahead_is]
          have hP : ∀ b, b = (decide (0 < (ring[k]?.map R.kind).getD 0) && (aheadL ring k).isEmpty) → (decide ((0 : Int) < (r.kind : Nat)) && PyData.eqv (D.lst ((aheadL ring k).map .int)).py (D.lst []).py) = b := fun b e => by
            rw [e, eqv_nil, hK]
            congr 1
            exact decide_eq_decide.mpr (by omega)
          refine Ex.ite (b := decide ((0 : Int) < (r.kind : Nat)) && PyData.eqv (D.lst ((aheadL ring k).map .int)).py (D.lst []).py) (Tst.and (Tst.cmp (d := .int (r.kind : Nat)) (e := .int 0) (Ev.sub (d := .tup [.int (r.kind : Nat), dr]) (e := .int 0) (Ev.sub (d := .lst (ring.map ringD)) (e := .int (0 + (k : Nat))) ?_ ?_ (ItIs.lst hpy (by omega) (by omega)) (by intros; rfl)) Ev.int (ItIs.tup rfl) (by intros; rfl)) Ev.int CmpIs.gtI (by with_unfolding_all rfl)) (fun _ => Tst.cmp (d := .lst ((aheadL ring k).map .int)) (e := .lst []) ?_ (Ev.list EvL.nil (Nat.le_of_ble_eq_true rfl)) (CmpIs.eqP (ints_pure _) (by rfl) (ints_shaped _) (by rfl) ?_) (by with_unfolding_all rfl))) (fun hb => ?_) (fun hb => ?_)
          · tm_at "kl ev"
          · tm_at "kl ev"
          · tm_at "kl ev"
          · exact okd.c
          · rw [hP _ rfl] at hb
            refine Ex.append (i := 0) (a := ra) (d := .int (0 + (k : Nat))) rfl ?_ (EvL.cons ?_ EvL.nil) ?_ ?_ (by rfl) (by rfl) (by rfl) (by rfl) (by rfl) (by kernel_rfl)
            · tm_at "kl ev"
            · tm_at "kl ev"
            · refine Ex.done ?_
              refine Ex.turnO ?_ ?_
              · show [(ra, _)] = [(ra, _)]
                rw [range_filter, hb]; rfl
              · tm_at "kl sub"
            · have := List.length_filter_le (fun k => decide (0 < (ring[k]?.map R.kind).getD 0) && (aheadL ring k).isEmpty) (List.range k)
              rw [List.length_range] at this
              rw [List.length_map]; omega
          · rw [hP _ rfl] at hb
            refine Ex.done ?_
            refine Ex.turnO ?_ ?_
            · show [(ra, _)] = [(ra, _)]
              rw [range_filter, hb]; simp
            · tm_at "kl sub"
      · have hrl : (List.range ring.length).filter (fun k => decide (0 < (ring[k]?.map R.kind).getD 0) && (aheadL ring k).isEmpty) = readyL ring := rfl
        show Ex s₀ _ _ [(ra, ((List.range ring.length).filter (fun k => decide (0 < (ring[k]?.map R.kind).getD 0) && (aheadL ring k).isEmpty)).map fun k => D.int (0 + (k : Nat)))] _ _ _
        rw [hrl]
        have hkd := comes_kind hv'
        obtain ⟨k₀, j₀, hk₀, hr₀⟩ := ready_some hv' hl2
        have hmem := (ready_mem hkd).mpr ⟨j₀, hk₀, hr₀⟩
        have hpos : 0 < (readyL ring).length := List.length_pos_of_mem hmem
        have hle : (readyL ring).length ≤ 6 := by
          have := List.length_filter_le (fun k => decide (0 < (ring[k]?.map R.kind).getD 0) && (aheadL ring k).isEmpty) (List.range ring.length)
          rw [List.length_range, hrl] at this; omega
        have h0' : 0 ≤ ch := h0
        have h1' : ch < 1000 := h1
        obtain ⟨m, hm⟩ : ∃ m : Nat, ch % ((readyL ring).length : Nat) = m := ⟨(ch % ((readyL ring).length : Nat)).toNat, by have := Int.emod_nonneg ch (b := ((readyL ring).length : Nat)) (by omega); omega⟩
        have hml : m < (readyL ring).length := by have := Int.emod_lt_of_pos ch (b := ((readyL ring).length : Nat)) (by omega); omega
        obtain ⟨k, hkm⟩ : ∃ k, (readyL ring)[m]? = some k := ⟨_, List.getElem?_eq_getElem hml⟩
        obtain ⟨j, hk, hrdy⟩ := (ready_mem hkd).mp (List.mem_of_getElem? hkm)
        have hjm : R.op j ∈ ring := List.mem_of_getElem? hrdy.1
        have hj6 : j < 6 := hj j hjm
        have hkk := hkd _ hjm
        have hk2 := kind_le (R.op j)
        have hk1 : 1 ≤ (R.op j).kind := by simp only [R.kind]; split <;> omega
        obtain ⟨va, hva⟩ := hrdy.2 (R.op j).kind hk1 (Nat.le_refl _)
        obtain ⟨vb, hvb⟩ := hrdy.2 1 (Nat.le_refl _) hk1
        have hlast : (turn ring k)[ring.length - 1 - 0]? = some (.op j) := by rw [turn_at hk (Nat.zero_le _)]; exact hrdy.1
        obtain ⟨hc1, hc2⟩ := comes_step hv' hrdy
        have tl : (turn ring k).length = ring.length := turn_len
        have neg_at : ∀ {i : Nat} {r : R}, i < ring.length → (turn ring k)[ring.length - 1 - i]? = some r → pyIdx ((turn ring k).map ringD) (-1 - (i : Nat)) = some (ringD r) := fun {i r} hi h => by
          rw [pyIdx_map]
          unfold pyIdx
          rw [if_neg (by omega), if_pos (by rw [tl]; omega), tl, show (-1 - (i : Int) + ↑ring.length).toNat = ring.length - 1 - i by omega, h]; rfl
        have at1 : pyIdx ((turn ring k).map ringD) (-1) = some (.tup [.int ((R.op j).kind : Nat), .str (opW j)]) := neg_at (i := 0) (by omega) hlast
        have at2 : pyIdx ((turn ring k).map ringD) (-2) = some (.tup [.int 0, .int vb]) := neg_at (i := 1) (by omega) hvb
        have rdl : ((readyL ring).map fun k => D.int (0 + (k : Nat))).length = (readyL ring).length := by rw [List.length_map]
        have hlen : Ev ((fcxC prog w A s₀.heap V (Str.ofString "_law_ring") (scopeOf (row 25)) 168 cd).with ra) [(Str.ofString "ready", .cell ra), (Str.ofString "ring", .lst (ring.map ringD)), (Str.ofString "choice", .int ch)] [(ra, (readyL ring).map fun k => D.int (0 + (k : Nat)))] = Ev ((fcxC prog w A s₀.heap V (Str.ofString "_law_ring") (scopeOf (row 25)) 168 cd).with ra) [(Str.ofString "ready", .cell ra), (Str.ofString "ring", .lst (ring.map ringD)), (Str.ofString "choice", .int ch)] [(ra, (readyL ring).map fun k => D.int (0 + (k : Nat)))] := rfl
        refine Ex.assign (d := .int (0 + (k : Nat))) (Ev.subOwn (a := ra) (ds := (readyL ring).map fun k => D.int (0 + (k : Nat))) (k := (m : Nat)) ?_ (.head _) (Ev.eq (d := .int (ch % ((readyL ring).length : Nat))) (Ev.bin (a := .int ch) (b := .int ((readyL ring).length : Nat)) ?_ (Ev.eq (Ev.lenOwn (ds := (readyL ring).map fun k => D.int (0 + (k : Nat))) (Ev.glob (by kernel_rfl) B'.g_len (by kernel_rfl)) ?_ (.head _) (by rw [rdl]; omega) (by rfl)) (by rw [rdl])) (BinIs.modI (by omega))) (by rw [hm])) ?_ (by omega) (by omega) (by intros; rfl)) (.inl (by kernel_rfl)) ?_ (by kernel_rfl)
        · tm_at "kl ev"
        · tm_at "kl ev"
        · tm_at "kl ev"
        · unfold pyIdx
          rw [if_pos (by omega), Int.toNat_natCast, List.getElem?_map, hkm]; rfl
        refine Ex.assign (d := .int (ch / ((readyL ring).length : Nat))) (Ev.bin (a := .int ch) (b := .int ((readyL ring).length : Nat)) ?_ (Ev.eq (Ev.lenOwn (a := ra) (ds := (readyL ring).map fun k => D.int (0 + (k : Nat))) (Ev.glob (by kernel_rfl) B'.g_len (by kernel_rfl)) ?_ (.head _) (by rw [rdl]; omega) (by rfl)) (by rw [rdl])) (BinIs.divI (by omega) (by omega))) (.inl (by kernel_rfl)) ?_ (by kernel_rfl)
        · tm_at "kl ev"
        · tm_at "kl ev"
        have z6 : (6 : Nat) ≤ sizeLine := by decide
        have z12 : (12 : Nat) ≤ sizeLine := by decide
        have lm : (ring.map ringD).length ≤ sizeLine := by rw [List.length_map]; omega
        refine Ex.assign (d := .lst ((turn ring k).map ringD)) (Ev.eq (d := .lst (Kl.sliceL (ring.map ringD) (some (0 + (k : Nat) + 1)) none ++ Kl.sliceL (ring.map ringD) none (some (0 + (k : Nat) + 1)))) (Ev.bin (a := .lst (Kl.sliceL (ring.map ringD) (some (0 + (k : Nat) + 1)) none)) (b := .lst (Kl.sliceL (ring.map ringD) none (some (0 + (k : Nat) + 1)))) (Ev.sliceL ?_ (EvP.some ?_) EvP.none lm) (Ev.sliceL ?_ EvP.none (EvP.some ?_) lm) (BinIs.addL ?_)) ?_) (.inl (by kernel_rfl)) ?_ (by kernel_rfl)
        · tm_at "kl ev"
        · tm_at "kl ev"
        · tm_at "kl ev"
        · tm_at "kl ev"
        · rw [show (0 + (k : Nat) + 1 : Int) = ((k + 1 : Nat) : Int) by omega, sliceL_drop, sliceL_take, List.length_drop, List.length_take, List.length_map]; omega
        · rw [show (0 + (k : Nat) + 1 : Int) = ((k + 1 : Nat) : Int) by omega, sliceL_drop, sliceL_take, ← List.map_drop, ← List.map_take, ← List.map_append]; rfl
        have lmt : ((turn ring k).map ringD).length ≤ sizeLine := by rw [List.length_map, tl]; omega
        refine Ex.unpack2 (d₁ := .int ((R.op j).kind : Nat)) (d₂ := .str (opW j)) (Ev.sub (d := .lst ((turn ring k).map ringD)) (e := .int (-1)) ?_ ?_ (ItIs.lst at1) (by intros; rfl)) (.inl (by kernel_rfl)) (.inl (by kernel_rfl)) okd.handled ?_ (by kernel_rfl) (by kernel_rfl)
        · tm_at "kl ev"
        · tm_at "kl ev"
        refine Ex.assign (d := .int va) (Ev.sub (d := .tup [.int 0, .int va]) (e := .int 1) (Ev.sub (d := .lst ((turn ring k).map ringD)) (e := .int (-1 - ((R.op j).kind : Nat))) ?_ ?_ (ItIs.lst (neg_at hkk hva) (by omega) (by omega)) (by intros; rfl)) Ev.int (ItIs.tup rfl) (by intros; rfl)) (.inl (by kernel_rfl)) ?_ (by kernel_rfl)
        · tm_at "kl ev"
        · tm_at "kl ev"
        refine Ex.assign (d := .int vb) (Ev.sub (d := .tup [.int 0, .int vb]) (e := .int 1) (Ev.sub (d := .lst ((turn ring k).map ringD)) (e := .int (-2)) ?_ ?_ (ItIs.lst at2) (by intros; rfl)) Ev.int (ItIs.tup rfl) (by intros; rfl)) (.inl (by kernel_rfl)) ?_ (by kernel_rfl)
        · tm_at "kl ev"
        · tm_at "kl ev"
        have hh := okd.handled
        refine Ex.assign (d := .int (made j va vb)) ?hdct (.inl (by kernel_rfl)) ?hnext (by kernel_rfl)
        case hdct =>
          refine Ev.dictSub (k := opW j) (kds := [(Str.ofString "back", D.int (-vb)), (Str.ofString "BACK", D.int (vb.natAbs : Nat)), (Str.ofString "less", D.int (va - vb)), (Str.ofString "LESS", D.int (vb - va)), (Str.ofString "later", D.int (max va vb)), (Str.ofString "LATER", D.int (min va vb))]) (zip_pairTrees _ _ _ _ (by rfl) (by rfl)) ?h0 ?hlen ?hnd ?hp ?hr (made_look hj6 va vb) (by intros; rfl)
          case h0 => exact List.cons_ne_nil _ _
          case hlen => exact Nat.le_of_ble_eq_true rfl
          case hnd => simp only [List.map]; decide +kernel
          case hp =>
            intro Dl
            refine EvPs.cons Ev.str ?_ (EvPs.cons Ev.str ?_ (EvPs.cons Ev.str ?_ (EvPs.cons Ev.str ?_ (EvPs.cons Ev.str ?_ (EvPs.cons Ev.str ?_ EvPs.nil)))))
            · tm_at "kl ev"
            · tm_at "kl ev"
            · tm_at "kl ev"
            · tm_at "kl ev"
            · tm_at "kl ev"
            · tm_at "kl ev"
          case hr => intro Dl; tm_at "kl ev"
        refine Ex.assign (d := .lst ((stepR ring k j).map ringD)) (Ev.eq (d := .lst (Kl.sliceL ((turn ring k).map ringD) none (some (-1 - ((R.op j).kind : Nat))) ++ [.tup [.int 0, .int (made j va vb)]])) (Ev.bin (a := .lst (Kl.sliceL ((turn ring k).map ringD) none (some (-1 - ((R.op j).kind : Nat))))) (b := .lst [.tup [.int 0, .int (made j va vb)]]) (Ev.sliceL ?_ EvP.none (EvP.some ?_) lmt) (Ev.list (EvL.cons (Ev.tuple (EvL.cons Ev.int (EvL.cons ?_ EvL.nil)) (Nat.le_of_ble_eq_true rfl)) EvL.nil) (Nat.le_of_ble_eq_true rfl)) (BinIs.addL ?_)) ?_) (.inr ⟨by kernel_rfl, s₀.heap.objs.size + 1, by kernel_rfl⟩) ?_ (by kernel_rfl)
        · tm_at "kl ev"
        · tm_at "kl ev"
        · tm_at "kl ev"
        · rw [show (-1 - ((R.op j).kind : Nat) : Int) = -(((R.op j).kind + 1 : Nat) : Int) by omega, sliceL_butLast _ _ (by omega), List.length_take, List.length_map, tl]
          simp only [List.length_cons, List.length_nil]; omega
        · rw [show (-1 - ((R.op j).kind : Nat) : Int) = -(((R.op j).kind + 1 : Nat) : Int) by omega, sliceL_butLast _ _ (by omega), List.length_map, tl]
          unfold stepR
          rw [List.getD_eq_getElem?_getD, List.getD_eq_getElem?_getD, show ring.length - 1 - (R.op j).kind = ring.length - 1 - (R.op j).kind from rfl, hva, show ring.length - 2 = ring.length - 1 - 1 by omega, hvb, ← List.map_take, List.map_append, show ring.length - ((R.op j).kind + 1) = ring.length - 1 - (R.op j).kind by omega]
          rfl
        refine Ex.forget (Ex.nil fun s f S => ⟨rfl, (stepR ring k j, ch / ((readyL ring).length : Nat)), hc2, ⟨hc1, ?_, ?_, ?_, ?_⟩, f, S.weak ?_⟩) ?_ ?_ (fun p hp => by cases hp)
        · intro j' hj'
          unfold stepR at hj'
          rcases List.mem_append.mp hj' with q | q
          · have q := List.mem_of_mem_take q
            unfold turn at q
            rcases List.mem_append.mp q with q | q
            · exact hj _ (List.mem_of_mem_drop q)
            · exact hj _ (List.mem_of_mem_take q)
          · simp at q
        · exact Int.ediv_nonneg h0' (by omega)
        · exact Int.lt_of_le_of_lt (Int.ediv_le_self _ h0') h1'
        · have : (stepR ring k j).length < ring.length := hc2
          show (stepR ring k j).length ≤ 6
          omega
        · tm_at "kl sub"
        · exact .head _
        · intro x b e
          exact .tail _ (cellW_of e)
      · rcases List.mem_cons.mp hm with e | e
        · have e2 := congrArg (fun p : Addr × List D => p.2.length) e
          have l2 := List.length_filter_le (fun k => decide (0 < (ring[k]?.map R.kind).getD 0) && (aheadL ring k).isEmpty) (List.range k)
          simp only [rangeD_len, List.length_map] at e2
          rw [rangeD_len] at hk
          rw [List.length_range] at l2
          omega
        · cases e
    · rintro ⟨ring, ch⟩ ⟨hv, hj, h0, h1, hl⟩ hb
      have hlen : ring.length = 1 := by
        have hp : 0 < ring.length := comes_pos hv
        have hb' : ¬ (1 : Int) < ((ring.map ringD).length : Nat) := by simpa using hb
        simp at hb'; omega
      match ring, hlen with
      | [r], _ =>
        have := comes_one hv
        subst this
        refine Ex.retT (d := .int v) (d' := .int v) ?_ (.same _) hWV rfl rfl
        refine Ev.sub (d := .tup [.int 0, .int v]) (e := .int 1) (Ev.sub (d := .lst [.tup [.int 0, .int v]]) (e := .int 0) (Ev.eq (d := .lst (([R.num v], ch).1.map ringD)) ?_ rfl) Ev.int (ItIs.lst rfl) (by intros; rfl)) Ev.int (ItIs.tup rfl) (by intros; rfl)
        tm_at "kl ev"
end
end
section
open PySem PySem.W PyProof.Rows
set_option maxRecDepth 100000
structure ClsAt (h : Heap) : Prop where
  c : h.get? 115 = some cls115
  c1 : h.get? 96 = some cls96
  c2 : h.get? 76 = some cls76
  n : ∃ m : Str → Option Value, h.Ns 114 m ∧ m (Str.ofString "__init__") = some (.ref 112) ∧ ∀ x ∈ offN, m x = none
  n1 : ∃ m : Str → Option Value, h.Ns 95 m ∧ ∀ x ∈ offN, m x = none
  n2 : ∃ m : Str → Option Value, h.Ns 75 m ∧ ∀ x ∈ offN, m x = none
theorem ClsAt.keep {h h' : Heap} (K : ClsAt h) (k : ∀ b o, h.get? b = some o → h'.get? b = some o) : ClsAt h' :=
  ⟨k _ _ K.c, k _ _ K.c1, k _ _ K.c2, let ⟨m, a, b⟩ := K.n; ⟨m, a.keeps k, b⟩, let ⟨m, a, b⟩ := K.n1; ⟨m, a.keeps k, b⟩, let ⟨m, a, b⟩ := K.n2; ⟨m, a.keeps k, b⟩⟩
theorem mro_os : mroOf (.type "OSError") = pure bmT := by kernel_rfl
section
variable {M : Model} {A : Around} {E : Value → Shared → Prop} {h : Heap} {g : Array GenState} {d : Drawn} {t : Nat} {os : OsState} {name : Str} {y : Option Value}
theorem look_c {Q : Option Value → Shared → Prop} (K : ClsAt h) (hn : name ∈ offN) (hB : typeLookup (.type "OSError") name = pure y) (hq : Q y ⟨h, g, d, t, os⟩) : wpAny M A (typeLookup (.ref 115) name) Q E ⟨h, g, d, t, os⟩ := by
  obtain ⟨m, a, _, b⟩ := K.n
  obtain ⟨m1, a1, b1⟩ := K.n1
  obtain ⟨m2, a2, b2⟩ := K.n2
  have hrest : lookupAlong bmT name = pure y := by rw [typeLookup_eq, mro_os] at hB; exact hB
  rw [typeLookup_eq]
  refine wpAny_bind (wpAny_mroOf_exc K.c ?_)
  unfold bmC
  rw [lookupAlong_cons]
  refine wpAny_bind (wpAny_classOwn_exc K.c a ?_)
  rw [b _ hn, lookupAlong_cons]
  refine wpAny_bind (wpAny_classOwn_exc K.c1 a1 ?_)
  rw [b1 _ hn, lookupAlong_cons]
  refine wpAny_bind (wpAny_classOwn_exc K.c2 a2 ?_)
  rw [b2 _ hn, hrest]
  exact wpAny_pure hq
theorem look_init {Q : Option Value → Shared → Prop} (K : ClsAt h) (hq : Q (some (.ref 112)) ⟨h, g, d, t, os⟩) : wpAny M A (typeLookup (.ref 115) (Str.ofString "__init__")) Q E ⟨h, g, d, t, os⟩ := by
  obtain ⟨m, a, b, _⟩ := K.n
  rw [typeLookup_eq]
  refine wpAny_bind (wpAny_mroOf_exc K.c ?_)
  rw [lookupAlong_cons]
  refine wpAny_bind (wpAny_classOwn_exc K.c a ?_)
  rw [b]
  exact wpAny_pure hq
end
theorem entry_os_new : entryFor table "OSError.__new__" = some Builtin.«OSError.__new__» := entryFor_of_tree (by kernel_rfl)
theorem os_kind : builtinKind "OSError.__new__" = some .builtinFn := by decide +kernel
theorem os_split : splitId "OSError.__new__" = some ("OSError", "__new__") := by decide +kernel
theorem os_row : Manifest.signature? "OSError.__new__" = some ⟨.constructor, "*", "OSError", .cls, [⟨"args", .varPos, false⟩]⟩ := by kernel_rfl
theorem os_has : (Value.ref 115 :: bmC).contains (.type "OSError") = true := by decide +kernel
theorem os_canon : (Option.map Manifest.canonical (some "OSError.__new__") == some "OSError.__new__") = true := by decide +kernel
theorem os_quiet : ("OSError.__new__" : String).startsWith "lifetime." = false := by decide +kernel
/-- the blank exception -/
noncomputable abbrev blankO (a : Addr) : Obj := { cls := .ref 115, data := .fields (#[.ref a, .none, .none, .none, .bool false, .none] ++ Builtin.OSError.osNothingGiven) }
section
variable {prog : Program} {w : World} {M : Model} {A : Around} {E : Value → Shared → Prop} {R : Result → Shared → Prop} {h : Heap} {g : Array GenState} {d : Drawn} {t : Nat} {os : OsState} {rest : List Value}
set_option maxHeartbeats 2000000 in
theorem os_check {Q : Unit → Shared → Prop} (K : ClsAt h) (hq : Q () ⟨h, g, d, t, os⟩) : wpAny M A (checkBuiltinCall "OSError.__new__" ⟨.ref 115 :: rest, []⟩) Q E ⟨h, g, d, t, os⟩ := by
  have hcont := os_has
  have hC := K.c
  simp only [checkBuiltinCall, os_kind, os_split, os_row]
  repeat (first | refine wpAny_loadPart_at hC ?_ | (refine wpAny_isSubtype_exc hC ?_; rw [hcont]) | refine wpAny_staticBase_exc hC ?_ | refine wpAny_madeBy_exc hC ?_ | simp only [bne_self_eq_false, Bool.false_eq_true, if_false] | wp_step)
  refine wpAny_onRaise ?_
  rw [show ∀ (a b : String) (n : Nat), Bind.check ⟨.constructor, "*", "OSError", .cls, [⟨"args", .varPos, false⟩]⟩ a b n (List.map (fun x => x.fst) ([] : List (Str × Value))) = pure () from fun a b n => by simp [Bind.check, Bind.checkCount, Bind.isPositional]; intro _ hz; exact absurd hz (by decide)]
  exact wpAny_pure hq
theorem new_c (K : ClsAt h) (hq : R (.ok (.ret (.ref (h.objs.size + 1)))) ⟨(h.push { cls := .type "tuple", data := .seq #[] }).push (blankO h.objs.size), g, d, t, os⟩) :
    codeAny (model prog w) A (.builtin "OSError.__new__" ⟨.ref 115 :: rest, []⟩) R ⟨h, g, d, t, os⟩ := by
  have hC := K.c
  refine codeAny_builtin entry_os_new ?_
  unfold Builtin.«OSError.__new__»
  have hcont := os_has
  repeat (first | refine wpAny_loadPart_at hC ?_ | (refine wpAny_isSubtype_exc hC ?_; rw [hcont]) | refine wpAny_madeBy_exc hC ?_ | wp_step)
  refine look_init K ?_
  show wpAny _ _ (Bind.madeBy (.ref 115) >>= fun r => pure (Option.map Manifest.canonical r == some "OSError.__new__")) _ _ _
  refine wpAny_bind (wpAny_madeBy_exc hC (wpAny_pure ?_))
  rw [if_pos os_canon]
  refine wpAny_bind (wpAny_rule (wpAny_bind ?_))
  refine wpAny_bind (wpAny_newObj_type ?_)
  have hC₁ := Heap.get?_push_of_some { cls := .type "tuple", dict := none, data := .seq #[] } hC
  have hC₂ := Heap.get?_push_of_some (blankO h.objs.size) hC₁
  unfold newObj newObjAsIs
  refine wpAny_ite_false (decide_eq_false (show ¬ (11 > sizeLine + 2) from by decide)) ?_
  refine wpAny_bind (wpAny_alloc' ?_)
  refine wpAny_bind ?_
  unfold classHasDel
  refine wpAny_bind (wpAny_load hC₂ (wpAny_pure (wpAny_pure ?_)))
  unfold ret
  refine wpAny_pure ?_
  show R (.ok (.ret (.ref (Heap.push _ _).objs.size))) _
  rw [Heap.size_push]
  exact hq
end
end
section
open PySem PySem.W PyProof.Rows
set_option maxRecDepth 100000
section
variable {prog : Program} {w : World} {M : Model} {A : Around} {E : Value → Shared → Prop} {h : Heap} {g : Array GenState} {d : Drawn} {t : Nat} {os : OsState} {rest : List Value}
theorem made_type {Q : Fin → Shared → Prop} (K : ClsAt h) {oI : Obj} (hfI : h.get? 112 = some oI) (hfc : oI.cls = .type "function")
    (hq : ∀ h' e a, (∀ b o, h.get? b = some o → h'.get? b = some o) → h.get? e = none → h.get? a = none → h'.get? e = some (blankO a) → (∃ n, h'.get? a = some { cls := .type "tuple", data := .seq #[] n }) →
      wpAny (model prog w) A (call (.ref 112) (.ref e :: rest)) (fun r s' => r = .none ∧ Q (.done (.ret (.ref e))) s') E ⟨h', g, d, t, os⟩) :
    wpAny (model prog w) A (Builtin.«type.__call__» ⟨.ref 115 :: rest, []⟩) Q E ⟨h, g, d, t, os⟩ := by
  have hC := K.c
  repeat (first | with_reducible refine wpAny_loadPart_at hC ?_ | with_reducible refine wpAny_madeBy_exc hC ?_ | wp_step)
  refine codeAny_call_builtin_code (Code.quiet_builtin _ os_quiet) (os_check K ?_)
  refine new_c K ?_
  show wpAny _ _ _ _ _ _
  have kp : ∀ b o, h.get? b = some o → ((h.push { cls := .type "tuple", data := .seq #[] }).push (blankO h.objs.size)).get? b = some o := fun b o e => Heap.get?_push_of_some _ (Heap.get?_push_of_some _ e)
  have K₁ := K.keep kp
  have hC₁ := K₁.c
  have hfI₁ := kp _ _ hfI
  have hget : ((h.push { cls := .type "tuple", data := .seq #[] }).push (blankO h.objs.size)).get? (h.objs.size + 1) = some (blankO h.objs.size) := by heap_get
  have hcC : (Value.ref 115 :: bmC).contains (.ref 115) = true := by simp
  unfold isInstance
  repeat (first | with_reducible refine wpAny_loadPart_at hget ?_ | (with_reducible refine wpAny_isSubtype_exc hC₁ ?_; rw [hcC]) | wp_step)
  show wpAny _ _ (typeLookup (.ref 115) _) _ _ _
  refine look_init K₁ ?_
  refine wpAny_holding (wpAny_bind ?_)
  unfold bindSpecial
  refine wpAny_bind (wpAny_typeOf (T := "function") ⟨_, hfI₁, hfc⟩ ?_)
  rw [if_pos (by decide)]
  refine wpAny_pure (wpAny_bind (wpAny_mono (hq _ (h.objs.size + 1) h.objs.size kp (Heap.get?_none_of_le (Nat.le_succ _)) (Heap.get?_none_of_le (Nat.le_refl _)) hget ⟨_, Heap.get?_push_of_some _ (Heap.get?_push_at rfl rfl)⟩) (fun r s' hr => ?_) fun _ _ x => x))
  obtain ⟨rfl, hQ⟩ := hr
  wp_walk
  exact hQ
theorem call_type {Q : Value → Shared → Prop} (K : ClsAt h) {oI : Obj} (hfI : h.get? 112 = some oI) (hfc : oI.cls = .type "function")
    (hq : ∀ h' e a, (∀ b o, h.get? b = some o → h'.get? b = some o) → h.get? e = none → h.get? a = none → h'.get? e = some (blankO a) → (∃ n, h'.get? a = some { cls := .type "tuple", data := .seq #[] n }) →
      wpAny (model prog w) (A.under (.builtin "type.__call__" ⟨.ref 115 :: rest, []⟩)) (call (.ref 112) (.ref e :: rest)) (fun r s' => r = .none ∧ Q (.ref e) s') E ⟨h', g, d, t, os⟩) :
    wpAny (model prog w) A (call (.ref 115) rest) Q E ⟨h, g, d, t, os⟩ := by
  have hC := K.c
  have f1 := tc_lookup
  have f2 := tc_bind (.ref 115)
  have hT : (⟨h, g, d, t, os⟩ : Shared).TypeIs (.ref 115) "type" := ⟨_, hC, rfl⟩
  refine wpAny_call (codeAny_of_tree ?_)
  show wpAny _ _ (callAny (.ref 115) _) _ _ _
  repeat (any_goals (first | assumption | with_reducible refine wpAny_loadPart_at hC ?_ | wp_step))
  refine ⟨rfl, ?_⟩
  refine codeAny_call_builtin_at (Code.quiet_builtin _ (by decide +kernel)) entry_typeCall (wpAny_check_type_call_sub hC (made_type K hfI hfc fun h' e a k n n' z z' => ?_))
  exact hq h' e a k n n' z z'
end
end
section
open PySem PySem.W PyProof.Rows
open Builtin Builtin.ObjectAttr
set_option maxRecDepth 100000
theorem look_args : typeLookup (.type "OSError") (Str.ofString "args") = pure (some (.builtin "BaseException.args")) := by rw [typeLookup_type, builtinLookup_eq_fast]; kernel_rfl
theorem look_sa : typeLookup (.type "OSError") (Str.ofString "__setattr__") = pure (some (.builtin "object.__setattr__")) := by rw [typeLookup_type, builtinLookup_eq_fast]; kernel_rfl
theorem look_own {x : Str} (h : x ∈ [Str.ofString "smtp_code", Str.ofString "smtp_error", Str.ofString "sender"]) : typeLookup (.type "OSError") x = pure none := by
  rcases List.mem_cons.mp h with rfl | h
  · rw [typeLookup_type, builtinLookup_eq_fast]; kernel_rfl
  rcases List.mem_cons.mp h with rfl | h
  · rw [typeLookup_type, builtinLookup_eq_fast]; kernel_rfl
  rcases List.mem_cons.mp h with rfl | h
  · rw [typeLookup_type, builtinLookup_eq_fast]; kernel_rfl
  · cases h
theorem own_off {x : Str} (h : x ∈ [Str.ofString "smtp_code", Str.ofString "smtp_error", Str.ofString "sender"]) : x ∈ offN := List.mem_cons_of_mem _ (by
  rcases List.mem_cons.mp h with rfl | h
  · exact .head _
  rcases List.mem_cons.mp h with rfl | h
  · exact .tail _ (.head _)
  rcases List.mem_cons.mp h with rfl | h
  · exact .tail _ (.tail _ (.head _))
  · cases h)
theorem sa_passes (self : Value) : refuseLoop self "__setattr__" bmT = pure () := by kernel_rfl
theorem sa_args (a b c : Value) : argsOk "object.__setattr__" ⟨[a, b, c], []⟩ := by unfold argsOk; kernel_rfl
theorem sa_kind : builtinKind "object.__setattr__" = some .slot := by decide +kernel
theorem sa_split : splitId "object.__setattr__" = some ("object", "__setattr__") := by decide +kernel
theorem sa_has : (Value.ref 115 :: bmC).contains (.type "object") = true := by decide +kernel
theorem sa_bind (self : Value) : bindSpecial (.builtin "object.__setattr__") self = pure (.builtin "object.__setattr__", [self]) := F.store_object.slot.bind self
section
variable {prog : Program} {w : World} {M : Model} {A : Around} {E : Value → Shared → Prop} {R : Result → Shared → Prop} {h : Heap} {g : Array GenState} {d : Drawn} {t : Nat} {os : OsState} {x : Addr} {mA : Str → Option Value} {name : Str} {v nameV : Value}
theorem sa_check {o : Obj} {Q : Unit → Shared → Prop} (K : ClsAt h) (hx : h.get? x = some o) (hc : o.cls = .ref 115) (hq : Q () ⟨h, g, d, t, os⟩) :
    wpAny M A (checkBuiltinCall "object.__setattr__" ⟨[.ref x, nameV, v], []⟩) Q E ⟨h, g, d, t, os⟩ := by
  have hcB := sa_has
  have hC := K.c
  simp only [checkBuiltinCall, sa_kind, sa_split]
  refine wpAny_bind ?_
  · unfold isInstance
    repeat (first | (with_reducible refine wpAny_loadPart_at hx ?_; rw [hc]) | (with_reducible refine wpAny_isSubtype_exc hC ?_; rw [hcB]) | wp_step)
    exact hq
/-- what object.__setattr__ does before it stores -/
theorem sa_entry {o : Obj} {tk : Tok} {y : Option Value} {Q : Fin → Shared → Prop} (K : ClsAt h) (hx : h.get? x = some o) (hc : o.cls = .ref 115) (hn : name ∈ offN) (hB : typeLookup (.type "OSError") name = pure y)
    (hq : wpAny (model prog w) A (do match ← storeTaker? y with | some a => setByDescriptor a (.ref x) v | none => storeInOwnDict (.ref x) (.ref 115) (.str name tk) name v y.isSome) Q E ⟨h, g, d, t, os⟩) :
    wpAny (model prog w) A (Builtin.«object.__setattr__» ⟨[.ref x, .str name tk, v], []⟩) Q E ⟨h, g, d, t, os⟩ := by
  have hC := K.c
  have hpass := sa_passes (.ref x)
  unfold Builtin.«object.__setattr__»
  refine wpAny_ite_false rfl ?_
  show wpAny _ _ (refuseIfOverridden (.ref x) (Str.ofString "__setattr__") >>= fun _ => attrName (.str name tk) >>= fun nm => typeOf (.ref x) >>= fun tp => typeLookup tp nm >>= fun a => storeTaker? a >>= fun r => match r with | some a => setByDescriptor a (.ref x) v | none => storeInOwnDict (.ref x) tp (.str name tk) nm v a.isSome) _ _ _
  rw [refuse_eq]
  refine wpAny_bind ?_
  refine wpAny_bind ?_
  have tyx : ∀ {Q : Value → Shared → Prop}, Q (.ref 115) ⟨h, g, d, t, os⟩ → wpAny (model prog w) A (typeOf (.ref x)) Q E ⟨h, g, d, t, os⟩ := fun hq => by
    unfold typeOf
    repeat (first | (with_reducible refine wpAny_loadPart_at hx ?_; rw [hc]) | wp_step)
    exact hq
  refine tyx (wpAny_bind (wpAny_mroOf_exc hC ?_))
  unfold bmC
  rw [refuseLoop_ref, refuseLoop_ref, refuseLoop_ref, hpass]
  refine wpAny_pure (wpAny_bind ?_)
  unfold attrName
  refine wpAny_pure (wpAny_bind (tyx (wpAny_bind (look_c K hn hB ?_))))
  exact hq
end
end
section
open PySem PySem.W PyProof.Rows
open Builtin Builtin.ObjectAttr
set_option maxRecDepth 100000
/-- the exception while it is made -/
structure Raw (base h : Heap) (e : Addr) (fs : Array Value) (m : Str → Option Value) (k : Nat) : Prop where
  keep : ∀ b o, base.get? b = some o → h.get? b = some o
  new : base.get? e = none
  few : ∃ ns, Within m ns ∧ ns.length ≤ k
  there : ∃ o, h.get? e = some o ∧ o.cls = .ref 115 ∧ o.data = .fields fs ∧ ((o.dict = none ∧ ∀ n, m n = none) ∨ ∃ dx, o.dict = some dx ∧ dx ≠ e ∧ base.get? dx = none ∧ h.Ns1 dx m)
section
variable {prog : Program} {w : World} {M : Model} {A : Around} {E : Value → Shared → Prop} {R : Result → Shared → Prop} {base h : Heap} {g : Array GenState} {d : Drawn} {t : Nat} {os : OsState} {e : Addr} {fs : Array Value} {m : Str → Option Value} {k : Nat} {name : Str} {v nameV : Value}
theorem own_store {tk : Tok} {Q : Fin → Shared → Prop} (K : ClsAt base) (X : Raw base h e fs m k) (hk : k ≤ 1000)
    (hq : ∀ h' tk', Raw base h' e fs (fun y => if y = name then some v else m y) (k + 1) → Q (.done (.ret .none)) ⟨h', g, d, tk', os⟩) :
    wpAny (model prog w) A (storeInOwnDict (.ref e) (.ref 115) (.str name tk) name v false) Q E ⟨h, g, d, t, os⟩ := by
  obtain ⟨kp, nw, ⟨ns, hw, hl⟩, o, he, hc, hd, hdict⟩ := X
  have hC := (K.keep kp).c
  have few : ∃ ns', Within (fun y => if y = name then some v else m y) ns' ∧ ns'.length ≤ k + 1 := ⟨name :: ns, hw.cons name v, by simp; omega⟩
  have hsz : k + 1 ≤ sizeLine := Nat.le_trans (Nat.succ_le_succ hk) (by decide)
  obtain ⟨oc, od, odt, osl⟩ := o
  obtain rfl : oc = .ref 115 := hc
  obtain rfl : odt = .fields fs := hd
  unfold storeInOwnDict
  refine wpAny_bind (wpAny_pure (wpAny_bind ?_))
  show wpAny _ _ (instanceDict e true) _ _ _
  unfold instanceDict
  refine wpAny_bind (wpAny_loadPart_at he ?_)
  refine wpAny_bind ?_
  unfold classData
  refine wpAny_bind (wpAny_load hC (wpAny_pure ?_))
  refine wpAny_ite_false rfl ?_
  have fin : ∀ dx h₂ tk₂, base.get? dx = none → dx ≠ e → (∀ b o, base.get? b = some o → h₂.get? b = some o) → h₂.get? e = some { cls := .ref 115, dict := some dx, data := .fields fs, slots := osl } → h₂.Ns1 dx m →
      wpAny (model prog w) A (storeInDict dx (.str name tk) name v) Q E ⟨h₂, g, d, tk₂, os⟩ := fun dx h₂ tk₂ bd ne kp₂ he₂ hns => by
    unfold storeInDict newKeyGuard
    refine wpAny_bind (wpAny_pure (wpAny_bind (wpAny_nsSet1 hns fun h' hn' hs => ?_)))
    obtain ⟨oD, esD, epD, hoD, hdD, hcD⟩ := hn'.count (Within.cons name v hw)
    refine wpAny_bind (wpAny_lookBehind hoD (by rw [hdD]; exact pastItsLine_dict (Nat.le_trans hcD (by rw [List.length_cons]; omega))) ?_)
    unfold ret
    refine wpAny_pure (hq h' _ ⟨fun b o hb => (hs.2 b fun q => by rw [q, bd] at hb; cases hb).trans (kp₂ b o hb), nw, few, ⟨_, (hs.2 e (Ne.symm ne)).trans he₂, rfl, rfl, .inr ⟨dx, rfl, ne, bd, hn'⟩⟩⟩)
  rcases hdict with ⟨hdn, hm⟩ | ⟨dx, hdx, ne, bd, hns⟩
  · obtain rfl : od = none := hdn
    have hxs : e ≠ h.objs.size := Nat.ne_of_lt (Heap.lt_size he)
    have he₁ := Heap.get?_push_of_some { cls := .type "dict", data := .dict #[] } he
    refine wpAny_ite_false (by simp [typeHasDict]) ?_
    refine wpAny_bind (wpAny_alloc' ?_)
    refine wpAny_bind (wpAny_update' he₁ ?_)
    refine wpAny_pure ?_
    have bnew : base.get? h.objs.size = none := Heap.StaysIn.fresh (base := base) kp
    refine fin h.objs.size _ _ bnew (Ne.symm hxs) (fun b o hb => ?_) ?_ ?_
    · exact (Heap.get?_update_ne _ _ _ _ fun q => by rw [q, nw] at hb; cases hb).trans (Heap.get?_push_of_some _ (kp b o hb))
    · exact Heap.get?_update_self _ he₁ rfl
    · obtain rfl : m = fun _ => none := funext hm
      refine Heap.Ns1.of_empty ?_
      exact ⟨_, #[], _, (Heap.get?_update_ne _ _ _ _ (Ne.symm hxs)).trans (Heap.get?_push_at rfl rfl), rfl, fun e he => absurd he (by simp), fun _ => rfl⟩
  · obtain rfl : od = some dx := hdx
    exact wpAny_pure (fin dx h t bd ne kp he hns)
/-- setAttr, down to what is stored -/
theorem set_attr {Q : Unit → Shared → Prop} {y : Option Value} (K : ClsAt base) (X : Raw base h e fs m k) (hn : name ∈ offN) (hB : typeLookup (.type "OSError") name = pure y)
    (hq : ∀ tk, wpAny (model prog w) (A.under (.builtin "object.__setattr__" ⟨[.ref e, .str name tk, v], []⟩)) (do match ← storeTaker? y with | some a => setByDescriptor a (.ref e) v | none => storeInOwnDict (.ref e) (.ref 115) (.str name tk) name v y.isSome) (fun r s' => r = .done (.ret .none) ∧ Q () s') E ⟨h, g, d, t + 1, os⟩) :
    wpAny (model prog w) A (setAttr (.ref e) name v) Q E ⟨h, g, d, t, os⟩ := by
  have K' := K.keep X.keep
  obtain ⟨o, he, hc, _⟩ := X.there
  have f3 := sa_bind (.ref e)
  have hso : Str.ofString "__setattr__" ∈ offN := by simp [offN]
  have tyx : ∀ {M : Model} {A : Around} {t : Nat} {Q : Value → Shared → Prop}, Q (.ref 115) ⟨h, g, d, t, os⟩ → wpAny M A (typeOf (.ref e)) Q E ⟨h, g, d, t, os⟩ := fun hq => by
    unfold typeOf
    repeat (first | (with_reducible refine wpAny_loadPart_at he ?_; rw [hc]) | wp_step)
    exact hq
  unfold setAttr callSpecial? specialOf
  refine wpAny_bind (wpAny_mkText ?_)
  refine wpAny_bind ?_
  refine wpAny_bind (wpAny_bind (tyx (look_c K' hso look_sa ?_)))
  refine wpAny_holding (wpAny_bind (wpAny_of_eq f3 (wpAny_bind (wpAny_call ?_))))
  refine codeAny_call_builtin F.store_object.slot.plain F.entry_object_sa (sa_check K' he hc (sa_entry K' he hc hn hB (wpAny_mono (hq _) (fun r s' hr => ?_) fun _ _ e => e)))
  obtain ⟨rfl, hQ⟩ := hr
  exact wpAny_pure (wpAny_pure hQ)
/-- an own attribute is set -/
theorem put_own {Q : Unit → Shared → Prop} (K : ClsAt base) (X : Raw base h e fs m k) (hn : name ∈ [Str.ofString "smtp_code", Str.ofString "smtp_error", Str.ofString "sender"]) (hk : k ≤ 1000)
    (hq : ∀ h' tk', Raw base h' e fs (fun y => if y = name then some v else m y) (k + 1) → Q () ⟨h', g, d, tk', os⟩) : wpAny (model prog w) A (setAttr (.ref e) name v) Q E ⟨h, g, d, t, os⟩ := by
  refine set_attr K X (own_off hn) (look_own hn) fun tk => ?_
  exact wpAny_bind (wpAny_pure (own_store K X hk fun h' tk' X' => ⟨rfl, hq h' tk' X'⟩))
end
end
section
open PySem PySem.W PyProof.Rows
open Builtin Builtin.ObjectAttr Builtin.Getset_descriptor Builtin.BaseException
set_option maxRecDepth 100000
theorem gs_set_entry : entryFor table "getset_descriptor.__set__" = some Builtin.«getset_descriptor.__set__» := entryFor_of_tree (by kernel_rfl)
theorem gs_set_args (a b c : Value) : argsOk "getset_descriptor.__set__" ⟨[a, b, c], []⟩ := by unfold argsOk; kernel_rfl
theorem args_set_entry : entryFor table "BaseException.args#set" = some Builtin.«BaseException.args#set» := entryFor_of_tree (by kernel_rfl)
theorem base_has : (Value.ref 115 :: bmC).contains (.type "BaseException") = true := by decide +kernel
theorem args_set_id : ("BaseException.args" ++ "#set" : String) = "BaseException.args#set" := by decide +kernel
section
variable {prog : Program} {w : World} {M : Model} {A : Around} {E : Value → Shared → Prop} {R : Result → Shared → Prop} {base h : Heap} {g : Array GenState} {d : Drawn} {t : Nat} {os : OsState} {e : Addr} {fs : Array Value} {m : Str → Option Value} {k : Nat} {name : Str} {v nameV : Value}

theorem put_args {Q : Unit → Shared → Prop} {tt : Addr} {items : Array Value} {old : Value} (K : ClsAt base) (X : Raw base h e fs m k) (ht : h.IsTuple tt items) (h0 : fs[0]? = some old)
    (hq : ∀ h' tk', Raw base h' e (fs.setIfInBounds 0 (.ref tt)) m k → Q () ⟨h', g, d, tk', os⟩) : wpAny (model prog w) A (setAttr (.ref e) (Str.ofString "args") (.ref tt)) Q E ⟨h, g, d, t, os⟩ := by
  have K' := K.keep X.keep
  have hC := K'.c
  obtain ⟨o, he, hc, hd, hdict⟩ := X.there
  have hm : Str.ofString "args" ∈ offN := .head _
  refine set_attr K X hm look_args fun tk => ?_
  have hT5 : ∀ {s : Shared}, s.TypeIs (.builtin "BaseException.args") "getset_descriptor" := F.typeOf_bexc_args
  refine wpAny_bind ?_
  show wpAny _ _ (storeTaker? (some (.builtin "BaseException.args"))) _ _ _
  unfold storeTaker? takesStores
  refine wpAny_bind (wpAny_bind (wpAny_specialOf hT5 F.slot_gs_set.lookup ?_))
  refine wpAny_ite_true rfl (wpAny_pure ?_)
  refine wpAny_ite_true rfl (wpAny_pure ?_)
  show wpAny _ _ (setByDescriptor (.builtin "BaseException.args") (.ref e) (.ref tt)) _ _ _
  unfold setByDescriptor
  refine wpAny_bind (wpAny_rule (wpAny_bind (wpAny_holding ?_)))
  unfold callSpecial?
  refine wpAny_bind ?_
  have hT6 := hT5 (s := ⟨h, g, d, t + 1, os⟩)
  have f1 := F.slot_gs_set.lookup
  have f2 := F.slot_gs_set.bind (.builtin "BaseException.args")
  with_reducible refine wpAny_specialOf hT6 f1 ?_
  with_reducible refine wpAny_holding (wpAny_bind ?_)
  with_reducible refine wpAny_of_eq f2 ?_
  with_reducible refine wpAny_bind (wpAny_call ?_)
  show codeAny _ _ (.call (.builtin "getset_descriptor.__set__") ⟨[.builtin "BaseException.args", .ref e, .ref tt], []⟩) _ _
  with_reducible refine codeAny_call_builtin F.slot_gs_set.plain gs_set_entry (F.slot_gs_set.check _ _ _ _ _ _ _ _ hT6 (gs_set_args _ _ _) ?_)
  unfold Builtin.«getset_descriptor.__set__» descrSet
  refine wpAny_ite_false rfl ?_
  show wpAny _ _ (descrStoreThrough "getset" (.builtin "BaseException.args") (.ref e) (some (.ref tt))) _ _ _
  unfold descrStoreThrough descrCheckInstance descrNameAndClass
  refine wpAny_bind (wpAny_bind (wpAny_pure ?_))
  unfold descrOwnerAndName
  rw [F.owner_bexc_args]
  have hcB := base_has
  have isB : ∀ {M : Model} {A : Around} {t : Nat} {Q : Bool → Shared → Prop}, Q true ⟨h, g, d, t, os⟩ → wpAny M A (isInstance (.ref e) (.type "BaseException")) Q E ⟨h, g, d, t, os⟩ := fun hq => by
    unfold isInstance
    repeat (first | (with_reducible refine wpAny_loadPart_at he ?_; rw [hc]) | (with_reducible refine wpAny_isSubtype_exc hC ?_; rw [hcB]) | wp_step)
    exact hq
  refine wpAny_bind (isB (wpAny_ite_false rfl (wpAny_pure ?_)))
  unfold descrItself
  refine wpAny_bind (wpAny_pure ?_)
  show wpAny _ _ (again (.builtin ("BaseException.args" ++ "#set") ⟨[.ref e, .ref tt], []⟩)) _ _ _
  rw [args_set_id]
  unfold again
  refine wpAny_pure ⟨Code.quiet_builtin _ (by decide +kernel), codeAny_builtin args_set_entry ?_⟩
  show wpAny _ _ (do bexcPut (.ref e) 0 (← call (.type "tuple") [.ref tt]); ret .none) _ _ _
  refine wpAny_bind (call_tuple_same ht ?_)
  unfold bexcPut
  refine wpAny_bind (wpAny_bind (wpAny_field he hd h0 (wpAny_bind (wpAny_setField he hd (Array.getElem?_eq_some_iff.mp h0).1 ?_))))
  have fin : Raw base (h.update e (Obj.mapFields (·.setIfInBounds 0 (.ref tt)))) e (fs.setIfInBounds 0 (.ref tt)) m k := by
    have hd' := Obj.data_mapFields hd (·.setIfInBounds 0 (.ref tt))
    refine ⟨fun b o' hb => ?_, X.new, X.few, _, Heap.get?_update_self _ he (Obj.isFreed_of_fields hd'), (Obj.cls_mapFields _ _).trans hc, hd', ?_⟩
    · exact (Heap.get?_update_other _ _ fun q => by rw [← q, X.new] at hb; cases hb).trans (X.keep b o' hb)
    · have dz : (o.mapFields (·.setIfInBounds 0 (.ref tt))).dict = o.dict := by
        obtain ⟨oc, od, odt, osl⟩ := o
        obtain rfl : odt = .fields fs := hd
        rfl
      rw [dz]
      rcases hdict with z | ⟨dx, z, ne, bd, o', es, ep, e1, e2⟩
      · exact .inl z
      · exact .inr ⟨dx, z, ne, bd, o', es, ep, (Heap.get?_update_other _ _ (Ne.symm ne)).trans e1, e2⟩
  have go : ∀ {M : Model} {A : Around} {s : Shared} {Q : Unit → Shared → Prop}, Q () s → wpAny M A (match old with | .ref _ => letGo [old] | _ => pure ()) Q E s := fun hq => by
    cases old <;> first | exact wpAny_pure hq | exact wpAny_letGo hq
  refine go ?_
  exact wpAny_pure (wpAny_pure (wpAny_pure ⟨rfl, hq _ _ fin⟩))
end
end
section
open PySem PySem.W PyProof.Rows
set_option maxRecDepth 100000
noncomputable def InitAt (g : Heap) : Prop := ∃ o pm cd doc, g.get? 112 = some o ∧ o.cls = .type "function" ∧ o.data = .func (initFd pm cd doc) ∧ g.CodeRec cd initQ
theorem InitAt.keep {g g' : Heap} (k : ∀ b o, g.get? b = some o → g'.get? b = some o) (h : InitAt g) : InitAt g' :=
  (Exists.imp (fun _ => Exists.imp (fun _ => Exists.imp (fun _ => Exists.imp (fun _ => And.imp (k _ _) (And.imp id (And.imp id (·.keeps k)))))))) h
theorem initS_elim {P : List Stmt → Prop} (h : ∀ p1 p2 p3 p4 p5 p6 p7 p8 p9 p10 p11 p12 p13 p14 p15 p16 p17 p18 p19, P [.Assign [.Attribute (.Name (Str.ofString "self") p1) (Str.ofString "smtp_code") p2] (.Name (Str.ofString "code") p3) p4,
    .Assign [.Attribute (.Name (Str.ofString "self") p5) (Str.ofString "smtp_error") p6] (.Name (Str.ofString "msg") p7) p8,
    .Assign [.Attribute (.Name (Str.ofString "self") p9) (Str.ofString "sender") p10] (.Name (Str.ofString "sender") p11) p12,
    .Assign [.Attribute (.Name (Str.ofString "self") p13) (Str.ofString "args") p14] (.Tuple [.Name (Str.ofString "code") p15, .Name (Str.ofString "msg") p16, .Name (Str.ofString "sender") p17] 0 p18) p19]) : P (bodyOf initS) :=
  h _ _ _ _ _ _ _ _ _ _ _ _ _ _ _ _ _ _ _
section
variable {prog : Program} {w : World} {M : Model} {A : Around} {E : Value → Shared → Prop} {R : Result → Shared → Prop} {base h : Heap} {g : Array GenState} {d : Drawn} {t : Nat} {os : OsState} {e : Addr}
theorem Raw.grow {base h h' : Heap} {e : Addr} {fs : Array Value} {m : Str → Option Value} {k : Nat} (X : Raw base h e fs m k) (kp : ∀ b o, h.get? b = some o → h'.get? b = some o) : Raw base h' e fs m k := by
  obtain ⟨f1, f2, f3, o5, f4, f5, f6, f7⟩ := X
  refine ⟨fun b o hb => kp _ _ (f1 b o hb), f2, f3, o5, kp _ _ f4, f5, f6, ?_⟩
  rcases f7 with z | ⟨dx, z1, z2, z3, o', es, ep, z4, z5⟩
  · exact .inl z
  · exact .inr ⟨dx, z1, z2, z3, o', es, ep, kp _ _ z4, z5⟩
theorem get_hide {h : Heap} {e b : Addr} {o : Obj} (hb : (hideAll h [e]).get? b = some o) : h.get? b = some o := of_hideAll _ hb
theorem init_run {Q : Value → Shared → Prop} {a : Addr} {v₁ v₂ v₃ : Value} (hA : A.depth < recursionLimit) (I : InitAt base) (K : ClsAt base) (nl : base.NoLimit) (kp : ∀ b o, base.get? b = some o → h.get? b = some o) (new : base.get? e = none) (he : h.get? e = some (blankO a))
    (hq : ∀ h' tk' m fs, Raw base h' e fs m 3 → (∀ b o, b ≠ e → h.get? b = some o → h'.get? b = some o) → fs[1]? = some .none → m (Str.ofString "smtp_code") = some v₁ → m (Str.ofString "smtp_error") = some v₂ → m (Str.ofString "sender") = some v₃ → Q .none ⟨h', g, d, tk', os⟩) :
    wpAny (model prog w) A (call (.ref 112) [.ref e, v₁, v₂, v₃]) Q E ⟨h, g, d, t, os⟩ := by
  obtain ⟨o, pm, cd, doc, ho, hcls, hd, hrec⟩ := I
  have kp' : ∀ b o, base.get? b = some o → h.get? b = some o := kp
  refine wpAny_call (codeAny_call_plain (s := ⟨h, g, d, t, os⟩) hA (kp _ _ ho) hd (nl.keeps kp) (hrec.keeps kp) rfl (binds := [(Str.ofString "self", .ref e), (Str.ofString "code", v₁), (Str.ofString "msg", v₂), (Str.ofString "sender", v₃)]) (by rfl) (show ∀ x ∈ (scopeOf initS).names, x.2 ≠ .cell by decide +kernel) ?_ ?_ (by kernel_rfl) (by kernel_rfl) (by kernel_rfl))
  · exact fun x hx => (List.mem_cons.mp hx).elim (· ▸ by kernel_rfl) fun hx => (List.mem_cons.mp hx).elim (· ▸ by kernel_rfl) fun hx => (List.mem_cons.mp hx).elim (· ▸ by kernel_rfl) fun hx => (List.mem_singleton.mp hx) ▸ by kernel_rfl
  intro h₀ hns hk
  have hene : ∀ {b : Addr} {o : Obj}, base.get? b = some o → b ≠ e := fun hb q => by rw [q, new] at hb; cases hb
  have kb : ∀ b o, base.get? b = some o → (hideAll h₀ [e]).get? b = some o := fun b o hb => hideAll_get _ (hk _ _ (kp _ _ hb)) fun m => by
    rcases List.mem_cons.mp m with q | q
    · exact hene hb q
    · cases q
  have K₁ := K.keep kb
  have X₀ : Raw (hideAll h₀ [e]) h₀ e (#[.ref a, .none, .none, .none, .bool false, .none] ++ Builtin.OSError.osNothingGiven) (fun _ => none) 0 := ⟨fun b o hb => of_hideAll _ hb, hideAll_none _ (.head _), ⟨[], Within.nil, Nat.le_refl _⟩, _, hk _ _ he, rfl, rfl, .inl ⟨rfl, fun _ => rfl⟩⟩
  have hL : h.objs.size ≠ e := Nat.ne_of_gt (Heap.lt_size he)
  have hns₁ : (hideAll h₀ [e]).Ns h.objs.size (fun x => [(Str.ofString "self", Value.ref e), (Str.ofString "code", v₁), (Str.ofString "msg", v₂), (Str.ofString "sender", v₃)].reverse.lookup x) := by
    obtain ⟨o, es, ep, z, r⟩ := hns
    exact ⟨o, es, ep, hideAll_get _ z (fun m => by rcases List.mem_cons.mp m with q | q; exact hL q; cases q), r⟩
  show wpAny _ _ (execs (bodyOf initS) _) _ _ _
  obtain ⟨env, henv⟩ : ∃ env, env = callEnv (initFd pm cd doc) h.objs.size 112 := ⟨_, rfl⟩
  show wpAny _ _ (execs (bodyOf initS) (callEnv (initFd pm cd doc) h.objs.size 112)) _ (fun e s' => wpAny (model prog w) (A.deeper (callEnv (initFd pm cd doc) h.objs.size 112)) (leaving (callEnv (initFd pm cd doc) h.objs.size 112) e) (fun _ s'' => E e s'') (fun e' s'' => E e' s'') s') _
  rw [← henv]
  refine initS_elim (P := fun B => wpAny _ _ (execs B env) _ _ _) fun p1 p2 p3 p4 p5 p6 p7 p8 p9 p10 p11 p12 p13 p14 p15 p16 p17 p18 p19 => ?_
  have nm : ∀ {x : Str} {v : Value} {p : Pos} {h' : Heap} {tk : Nat} {A : Around} {E : Value → Shared → Prop} {Q : Value → Shared → Prop}, (∀ b o, (hideAll h₀ [e]).get? b = some o → h'.get? b = some o) → env.kindOf x = some .local → List.lookup x [(Str.ofString "self", Value.ref e), (Str.ofString "code", v₁), (Str.ofString "msg", v₂), (Str.ofString "sender", v₃)].reverse = some v → (x == ("__debug__" : Str)) = false → Q v ⟨h', g, d, tk, os⟩ → wpAny (model prog w) A (eval (.Name x p) env) Q E ⟨h', g, d, tk, os⟩ := fun k hk' hv hd hq =>
    wpAny_Name (wpAny_loadName_local (by rw [henv]; kernel_rfl) hk' (by rw [henv]; exact hns₁.keeps k) hv hq) hd
  have k1 : env.kindOf (Str.ofString "self") = some .local := by rw [henv]; kernel_rfl
  have k2 : env.kindOf (Str.ofString "code") = some .local := by rw [henv]; kernel_rfl
  have k3 : env.kindOf (Str.ofString "msg") = some .local := by rw [henv]; kernel_rfl
  have k4 : env.kindOf (Str.ofString "sender") = some .local := by rw [henv]; kernel_rfl
  refine wpAny_execs_cons (plainObj_wpAny_Assign_Attribute (nm X₀.keep k2 rfl (by decide +kernel) (nm X₀.keep k1 rfl (by decide +kernel) (put_own K₁ X₀ (.head _) (by decide) fun h₁ t₁ X₁ => ?_))) (by kernel_rfl))
  refine wpAny_execs_cons (plainObj_wpAny_Assign_Attribute (nm X₁.keep k3 rfl (by decide +kernel) (nm X₁.keep k1 rfl (by decide +kernel) (put_own K₁ X₁ (.tail _ (.head _)) (by decide) fun h₂ t₂ X₂ => ?_))) (by kernel_rfl))
  refine wpAny_execs_cons (plainObj_wpAny_Assign_Attribute (nm X₂.keep k4 rfl (by decide +kernel) (nm X₂.keep k1 rfl (by decide +kernel) (put_own K₁ X₂ (.tail _ (.tail _ (.head _))) (by decide) fun h₃ t₃ X₃ => ?_))) (by kernel_rfl))
  refine wpAny_execs_cons (plainObj_wpAny_Assign_Attribute ?_ (by kernel_rfl))
  refine wpAny_Tuple_spliced ?_
  refine Calls.spliced_cons (nm X₃.keep k2 rfl (by decide +kernel) ?_)
  refine Calls.spliced_cons (nm X₃.keep k3 rfl (by decide +kernel) ?_)
  refine Calls.spliced_cons (nm X₃.keep k4 rfl (by decide +kernel) ?_)
  refine Calls.spliced_nil ⟨Nat.le_of_ble_eq_true rfl, ?_⟩
  have X₄ := X₃.grow (h' := h₃.push { cls := .type "tuple", data := .seq [v₁, v₂, v₃].toArray }) fun b o hb => Heap.get?_push_of_some _ hb
  refine nm X₄.keep k1 rfl (by decide +kernel) ?_
  refine put_args K₁ X₄ (items := [v₁, v₂, v₃].toArray) ⟨_, Heap.get?_push_size _ rfl, rfl, _, rfl⟩ rfl fun h₅ t₅ X₅ => ?_
  refine wpAny_execs_nil ?_
  show Q .none _
  obtain ⟨f1, f2, f3, o5, f4, f5, f6, f7⟩ := X₅
  refine hq _ _ _ _ ⟨fun b o hb => f1 b o (kb b o hb), new, f3, o5, f4, f5, f6, ?_⟩ (fun b o hbe hb => f1 b o (hideAll_get _ (hk b o hb) fun m => by
    rcases List.mem_cons.mp m with q | q
    · exact hbe q
    · cases q)) rfl rfl rfl rfl
  rcases f7 with z | ⟨dx, z1, z2, z3, z4⟩
  · exact .inl z
  · refine .inr ⟨dx, z1, z2, ?_, z4⟩
    cases q : base.get? dx with
    | none => rfl
    | some o => rw [kb _ _ q] at z3; cases z3
end
end
section
open PySem PySem.W PyProof.Rows
set_option maxRecDepth 100000
/-- an exception that flies: the frames' own slots, the exception's trace, nothing else -/
structure Air (S : List Addr) (h : Heap) (e : Addr) (cls : Value) (dict : Option Addr) (fl : Value) (h' : Heap) : Prop where
  keep : ∀ b o, h.get? b = some o → b ∉ S → b ≠ e → h'.get? b = some o
  slots : ∀ b o, h.get? b = some o → b ∈ S → ∃ sl, h'.get? b = some { o with slots := sl }
  there : ∃ oe vs T oT ts, h'.get? e = some oe ∧ oe.cls = cls ∧ oe.dict = dict ∧ oe.data = .fields vs ∧ vs[1]? = some (.ref T) ∧ h.get? T = none ∧ T ≠ e ∧ h'.get? T = some oT ∧ oT.data = .fields ts ∧ ts[3]? = some fl
/-- the frames stand -/
noncomputable def Frames (h : Heap) (S : List Addr) : List Env → Prop
  | [] => True
  | env :: rest => env.scope.kind ≠ .module ∧ (∃ L o, env.frame = some L ∧ L ∈ S ∧ h.get? L = some o ∧ ∀ vs, o.data ≠ .fields vs) ∧ Frames h S rest
theorem Frames.fun {h : Heap} {S : List Addr} : ∀ {l : List Env}, Frames h S l → h.FunFrames { objs := #[] } l
  | [], _ => trivial
  | _ :: _, ⟨a, ⟨L, o, b, _, c, d⟩, r⟩ => ⟨a, ⟨L, o, b, by simp [Heap.get?], c, d⟩, r.fun⟩
theorem Frames.sub {h : Heap} {S : List Addr} : ∀ {l : List Env}, Frames h S l → ∀ b ∈ l.filterMap (·.frame), b ∈ S
  | [], _, b, hb => by simp at hb
  | _ :: _, ⟨_, ⟨L, o, f, m, _, _⟩, r⟩, b, hb => by
    rw [List.filterMap_cons, f] at hb
    rcases List.mem_cons.mp hb with rfl | hb
    · exact m
    · exact r.sub b hb
theorem Frames.mono {h h' : Heap} {S : List Addr} (k : ∀ b o, h.get? b = some o → b ∈ S → ∃ sl, h'.get? b = some { o with slots := sl }) : ∀ {l : List Env}, Frames h S l → Frames h' S l
  | [], _ => trivial
  | _ :: _, ⟨a, ⟨L, o, b, m, c, d⟩, r⟩ => let ⟨sl, e⟩ := k _ _ c m; ⟨a, ⟨L, _, b, m, e, d⟩, r.mono k⟩
section
variable {M : Model} {A : Around} {E : Value → Shared → Prop} {s : Shared} {S : List Addr} {env : Env} {outer : List Env} {L e : Addr} {h : Heap} {cls : Value} {dict : Option Addr} {fl : Value}
theorem air_entry {oe : Obj} {vs : Array Value} {head : Value} {hadNext : Bool} {Q : Unit → Shared → Prop} (hfr : A.frames = some (env :: outer)) (hl : Frames s.heap S (env :: outer)) (hf : env.frame = some L)
    (he : s.heap.get? e = some oe) (hd : oe.data = .fields vs) (hsz : 1 < vs.size)
    (hQ : ∀ h' T oT ts, (∀ b o, s.heap.get? b = some o → b ∉ S → b ≠ e → h'.get? b = some o) → (∀ b o, s.heap.get? b = some o → b ∈ S → b ≠ e → ∃ sl, h'.get? b = some { o with slots := sl }) → s.heap.get? T = none → T ≠ e →
      h'.get? e = some (oe.mapFields (·.setIfInBounds 1 (.ref T))) → h'.get? T = some oT → oT.data = .fields ts → ts[3]? = some (rawInt L) → Q () { s with heap := h' }) :
    wpAny M A (do let a ← frameOf env; let pl ← entryPlaceOf L hadNext; let b ← EntryCells.newEntry head a .none (rawInt L) .none pl; setField (.ref e) 1 b) Q E s := by
  have hfn := hl.fun
  have out : e ∉ (env :: outer).filterMap (·.frame) := fun hm => by
    obtain ⟨_, o, ho, hnf⟩ := hfn.mem hm
    rw [he] at ho; cases ho
    exact hnf vs hd
  refine wpAny_bind (wpAny_frameOf_fun hfr hfn hf fun h₁ sl₁ => ?_)
  obtain ⟨_, same, slo⟩ := sl₁
  refine wpAny_bind (wpAny_entryPlaceOf fun pl hpl => ?_)
  unfold EntryCells.newEntry newFields
  refine wpAny_bind (wpAny_newObj_type ?_ (hpl.sizeOk5 _ _ _ _ _))
  have he₁ := (same e out).trans he
  generalize hob : ({ cls := .type "traceback", dict := none, data := .fields ([head, .ref L, .none, rawInt L, .none] ++ (if pl.isEmpty then List.replicate 6 Value.none else pl)).toArray } : Obj) = ob
  have he₂ := Heap.get?_push_of_some (h := h₁) ob he₁
  refine wpAny_setField he₂ hd hsz ?_
  have ne : h₁.objs.size ≠ e := Nat.ne_of_gt (Heap.lt_size he₁)
  have hd₃ := Obj.data_mapFields hd (·.setIfInBounds 1 (Value.ref h₁.objs.size))
  refine hQ _ h₁.objs.size ob _ (fun b o hb hS hbe => ?_) (fun b o hb hS hbe => ?_) ?_ ne (Heap.get?_update_self _ he₂ (Obj.isFreed_of_fields hd₃)) ((Heap.get?_update_other _ _ (Ne.symm ne)).trans (Heap.get?_push_size h₁ ?_)) (by rw [← hob]) ?_
  · exact (Heap.get?_update_other _ _ (Ne.symm hbe)).trans (Heap.get?_push_of_some _ ((same b fun m => hS (hl.sub b m)).trans hb))
  · obtain ⟨sl, q⟩ := slo b o hb
    exact ⟨sl, (Heap.get?_update_other _ _ (Ne.symm hbe)).trans (Heap.get?_push_of_some _ q)⟩
  · cases q : s.heap.get? h₁.objs.size with
    | none => rfl
    | some o => obtain ⟨_, q'⟩ := slo _ o q; exact absurd (Heap.lt_size q') (Nat.lt_irrefl _)
  · rw [← hob]; rfl
  · first | (simp; done) | (rcases hpl with rfl | ⟨_, _, _, _, _, _, _, rfl⟩ <;> simp)
theorem dict_mapFields {o : Obj} {vs : Array Value} (hd : o.data = .fields vs) (f : Array Value → Array Value) : (o.mapFields f).dict = o.dict := by
  obtain ⟨oc, od, odt, osl⟩ := o
  obtain rfl : odt = .fields vs := hd
  rfl
theorem out_S {oe : Obj} {vs : Array Value} (hS : ∀ b ∈ S, ∃ o, s.heap.get? b = some o ∧ ∀ vs, o.data ≠ .fields vs) (he : s.heap.get? e = some oe) (hd : oe.data = .fields vs) : e ∉ S := fun m => by
  obtain ⟨o, ho, n⟩ := hS _ m
  rw [he] at ho; cases ho
  exact n vs hd
/-- noted for the first time -/
theorem air_first {oe : Obj} {vs : Array Value} {Q : Unit → Shared → Prop} (hfr : A.frames = some (env :: outer)) (hl : Frames s.heap S (env :: outer)) (hf : env.frame = some L)
    (he : s.heap.get? e = some oe) (hd : oe.data = .fields vs) (h1 : vs[1]? = some .none) (heS : e ∉ S)
    (hQ : ∀ h', Air S s.heap e oe.cls oe.dict (rawInt L) h' → Q () { s with heap := h' }) : wpAny M A (noteFrame (.ref e) env) Q E s := by
  unfold noteFrame
  simp only [hf]
  refine wpAny_bind (wpAny_field he hd h1 ?_)
  rw [if_neg (by decide)]
  refine air_entry hfr hl hf he hd (Array.getElem?_eq_some_iff.mp h1).1 fun h' T oT ts k1 k2 nT ne e1 e2 e3 e4 => hQ h' ⟨k1, fun b o hb hS => k2 b o hb hS fun q => heS (q ▸ hS), ?_⟩
  have hsz : 1 < vs.size := (Array.getElem?_eq_some_iff.mp h1).1
  exact ⟨_, _, T, oT, ts, e1, Obj.cls_mapFields _ _, dict_mapFields hd _, Obj.data_mapFields hd _, by simp [hsz], nT, ne, e2, e3, e4⟩
/-- noted in the next frame -/
theorem air_next {Q : Unit → Shared → Prop} (a : Air S h e cls dict .none s.heap) (hfr : A.frames = some (env :: outer)) (hl : Frames h S (env :: outer)) (hf : env.frame = some L) (heS : e ∉ S)
    (hQ : ∀ h', Air S h e cls dict (rawInt L) h' → Q () { s with heap := h' }) : wpAny M A (noteFrame (.ref e) env) Q E s := by
  obtain ⟨ak, asl, oe, vs, T, oT, ts, he, hcls, hdict, hd, h1, hnT, hTe, hT, hdT, h3⟩ := a
  have hl' := hl.mono asl
  have hsz : 1 < vs.size := (Array.getElem?_eq_some_iff.mp h1).1
  unfold noteFrame
  simp only [hf]
  refine wpAny_bind (wpAny_field he hd h1 ?_)
  rw [if_pos (show (Value.ref T != Value.none) = true from by simp)]
  refine wpAny_bind (wpAny_field hT hdT h3 ?_)
  rw [if_neg (show ¬ ((Value.none == rawInt L) = true) from by simp [rawInt])]
  refine wpAny_bind (wpAny_setField hT hdT (Array.getElem?_eq_some_iff.mp h3).1 ?_)
  have other : ∀ b, b ≠ T → (s.heap.update T (Obj.mapFields (·.setIfInBounds 3 Value.none))).get? b = s.heap.get? b := fun b hb => Heap.get?_update_other _ _ (Ne.symm hb)
  have old : ∀ b o, h.get? b = some o → b ≠ T := fun b o hb q => by rw [q, hnT] at hb; cases hb
  have hl2 : Frames (s.heap.update T (Obj.mapFields (·.setIfInBounds 3 Value.none))) S (env :: outer) := hl.mono fun b o hb hS => by
    obtain ⟨sl, q⟩ := asl b o hb hS
    exact ⟨sl, (other b (old b o hb)).trans q⟩
  refine air_entry (s := { s with heap := s.heap.update T (Obj.mapFields (·.setIfInBounds 3 Value.none)) }) hfr hl2 hf ((other e (Ne.symm hTe)).trans he) hd hsz fun h' T' oT' ts' k1 k2 nT ne e1 e2 e3 e4 => hQ h' ⟨fun b o hb hS hbe => ?_, fun b o hb hS => ?_, ?_⟩
  · exact k1 b o ((other b (old b o hb)).trans (ak b o hb hS hbe)) hS hbe
  · obtain ⟨sl, q⟩ := asl b o hb hS
    obtain ⟨sl', q'⟩ := k2 b _ ((other b (old b o hb)).trans q) hS fun z => heS (z ▸ hS)
    exact ⟨sl', q'⟩
  · refine ⟨_, _, T', oT', ts', e1, (Obj.cls_mapFields _ _).trans hcls, (dict_mapFields hd _).trans hdict, Obj.data_mapFields hd _, by simp [hsz], ?_, ne, e2, e3, e4⟩
    cases q : h.get? T' with
    | none => rfl
    | some o =>
      exfalso
      by_cases hS : T' ∈ S
      · obtain ⟨sl, z⟩ := asl _ _ q hS
        have := (other T' (old _ _ q)).trans z
        rw [show (s.heap.update T (Obj.mapFields (·.setIfInBounds 3 Value.none))).get? T' = none from nT] at this; cases this
      · have := (other T' (old _ _ q)).trans (ak _ _ q hS ne)
        rw [show (s.heap.update T (Obj.mapFields (·.setIfInBounds 3 Value.none))).get? T' = none from nT] at this; cases this
/-- noted again -/
theorem air_again {Q : Unit → Shared → Prop} (a : Air S h e cls dict (rawInt L) s.heap) (hf : env.frame = some L) (hQ : Q () s) : wpAny M A (noteFrame (.ref e) env) Q E s := by
  obtain ⟨_, _, oe, vs, T, oT, ts, he, hcls, hdict, hd, h1, hnT, hTe, hT, hdT, h3⟩ := a
  unfold noteFrame
  simp only [hf]
  refine wpAny_bind (wpAny_field he hd h1 ?_)
  rw [if_pos (show (Value.ref T != Value.none) = true from by simp)]
  refine wpAny_bind (wpAny_field hT hdT h3 ?_)
  rw [if_pos (show (rawInt L == rawInt L) = true from by simp)]
  exact wpAny_pure hQ
/-- its flight is set -/
theorem air_set {Q : Unit → Shared → Prop} {x : Option Addr} (a : Air S h e cls dict fl s.heap) (hQ : ∀ h', Air S h e cls dict (x.elim Value.none fun f => rawInt f) h' → Q () { s with heap := h' }) : wpAny M A (setFlight (.ref e) x) Q E s := by
  obtain ⟨ak, asl, oe, vs, T, oT, ts, he, hcls, hdict, hd, h1, hnT, hTe, hT, hdT, h3⟩ := a
  have hsz3 : 3 < ts.size := (Array.getElem?_eq_some_iff.mp h3).1
  have old : ∀ b o, h.get? b = some o → b ≠ T := fun b o hb q => by rw [q, hnT] at hb; cases hb
  have other : ∀ b, b ≠ T → (s.heap.update T (Obj.mapFields (·.setIfInBounds 3 (x.elim Value.none fun f => rawInt f)))).get? b = s.heap.get? b := fun b hb => Heap.get?_update_other _ _ (Ne.symm hb)
  unfold setFlight
  refine wpAny_bind (wpAny_field he hd h1 ?_)
  rw [if_pos (show (Value.ref T != Value.none) = true from by simp)]
  refine wpAny_setField hT hdT hsz3 (hQ _ ⟨fun b o hb hS hbe => (other b (old b o hb)).trans (ak b o hb hS hbe), fun b o hb hS => ?_, ?_⟩)
  · obtain ⟨sl, q⟩ := asl b o hb hS
    exact ⟨sl, (other b (old b o hb)).trans q⟩
  · exact ⟨oe, vs, T, _, _, (other e (Ne.symm hTe)).trans he, hcls, hdict, hd, h1, hnT, hTe, Heap.get?_update_self _ hT (Obj.isFreed_of_fields (Obj.data_mapFields hdT _)), Obj.data_mapFields hdT _, by simp [hsz3]⟩
/-- it leaves the frame in which it was noted -/
theorem air_leave {Q : Unit → Shared → Prop} (a : Air S h e cls dict (rawInt L) s.heap) (hf : env.frame = some L) (hQ : ∀ h', Air S h e cls dict .none h' → Q () { s with heap := h' }) : wpAny M A (leaving env (.ref e)) Q E s := by
  unfold leaving
  exact wpAny_bind (air_again a hf (air_set (x := none) a hQ))
/-- it comes back into the frame -/
theorem air_back {Ex : Value → Shared → Prop} (a : Air S h e cls dict fl s.heap) (hf : env.frame = some L) (hQ : ∀ h', Air S h e cls dict (rawInt L) h' → Ex (.ref e) { s with heap := h' }) : cameBackBy M A env Ex (.ref e) s := by
  obtain ⟨ak, asl, oe, vs, T, oT, ts, he, hcls, hdict, hd, h1, r⟩ := id a
  unfold cameBackBy
  refine wpAny_bind (wpAny_field he hd h1 ?_)
  show wpAny M A (setFlight (.ref e) env.frame) _ _ _
  rw [hf]
  exact air_set (x := some L) a hQ
end
end
section
open PySem PySem.W PyProof.Rows
set_option maxRecDepth 100000
section
variable {c : Cx} {L : List (Str × D)} {O : List (Addr × List D)} {x xs : Str} {p pos : Pos} {e : Expr} {es : List Expr} {ci pi : Int}
/-- the exception made: it is new -/
theorem newExc_run {s : Shared} {E : Value → Shared → Prop} (S : Sit c L O s.heap) (K : ClsAt c.g) (I : InitAt c.g) (nl : c.g.NoLimit) (hA : c.A.depth + 2 < recursionLimit) (hf : Ev c L O (.Name x p) (.fix (.ref 115))) (hse : backTo pos (starEach (e :: es) c.env) = (false, eval e c.env) :: backTo pos (starEach es c.env)) (ha : Ev c L O e (.int ci)) (has : EvL c L O (backTo pos (starEach es c.env)) [.str xs, .int pi])
    (hplain : (backTo pos (starEach es c.env)).any (·.1) = false) : wpAny (model c.prog c.w) c.A (eval (.Call (.Name x p) (e :: es) [] pos) c.env) (fun v s' => Kp s s' ∧ ∃ a, v = .ref a ∧ s.heap.get? a = Option.none ∧ RV s'.heap c.X (.ref a) (.exc ci xs pi (some a))) E s := by
  refine wpAny_Call_NameR (wpAny_mono (hf.run s E S) (fun fv s₁ h₁ => ?_) fun _ _ e => e)
  obtain ⟨k₁, r₁⟩ := h₁
  have hfv : fv = .ref 115 := by (first | cases r₁ using RV.e_fix | cases r₁ using RV.e_cell | cases r₁ using RV.e_none | cases r₁ using RV.e_int | cases r₁ using RV.e_str | cases r₁ using RV.e_lst | cases r₁ using RV.e_tup | cases r₁ using RV.e_mat | cases r₁ using RV.e_bool | cases r₁ using RL.e_nil); rfl
  subst hfv
  have S₁ := k₁.sit S
  rw [hse]
  have hany : (((false, eval e c.env) :: backTo pos (starEach es c.env)).any (·.1)) = false := by rw [List.any_cons, hplain]; rfl
  unfold callWith
  refine wpAny_bind (wpAny_holding (Calls.evalArgs_plain (wpAny_mono ((EvL.cons ha has).run s₁ E S₁) (fun vs s₂ h₂ => wpAny_bind (wpAny_standAt ?_)) fun _ _ e => e)))
  obtain ⟨k₂, r₂⟩ := h₂
  have S₂ := k₂.sit S₁
  have K₂ := K.keep S₂.keep
  have I₂ := I.keep S₂.keep
  simp only [hany]
  refine wpAny_bind (wpAny_keeperOf_exc K₂.c ?_)
  obtain ⟨o, pm, cd, doc, ho, hcls, hd, hrec⟩ := id I₂
  obtain ⟨hp, g, d, tk, os⟩ := s₂
  cases r₂ using RL.e_cons with
  | cons q₁ r₂ => cases r₂ using RL.e_cons with
    | cons q₂ r₂ => cases r₂ using RL.e_cons with
      | cons q₃ r₂ =>
        cases r₂ using RL.e_nil
        cases q₁ using RV.e_int with
        | int t₁ => cases q₂ using RV.e_str with
          | str t₂ => cases q₃ using RV.e_int with
            | int t₃ =>
              refine wpAny_bind (call_type K₂ ho hcls fun h' e' a' kp new na he ht => ?_)
              refine init_run (base := hp) ?_ I₂ K₂ (nl.keeps S₂.keep) kp new he fun h₂ tk' m fs X kp₂ hfs m1 m2 m3 => ⟨rfl, ?_⟩
              · have hw : ∀ a : Args, (Code.builtin "type.__call__" a).weight ≤ 2 := fun a => by
                  have h1 : (Code.builtin "type.__call__" a).frames = 0 := rfl
                  have h2 : (Code.builtin "type.__call__" a).isCaller = false := by kernel_rfl
                  unfold Code.weight
                  rw [h1, h2]
                  split <;> split <;> simp
                have := hw ⟨Value.ref 115 :: ([] ++ [Value.int ci t₁, Value.str xs t₂, Value.int pi t₃]), []⟩
                show c.A.depth + (Code.builtin "type.__call__" _).weight < recursionLimit
                omega
              refine wpAny_bind (wpAny_holding (wpAny_point (wpAny_pure ⟨(k₁.trans k₂).trans ⟨h₂, tk', rfl, X.keep⟩, _, rfl, (k₁.trans k₂).none X.new, ?_⟩)))
              obtain ⟨f1, f2, f3, o5, f4, f5, f6, f7⟩ := X
              have nX : ∀ {b : Addr}, hp.get? b = Option.none → b ∉ c.X := fun e m => by obtain ⟨o, ho⟩ := S₂.wf _ m; rw [show hp.get? _ = some o from ho] at e; cases e
              rcases f7 with ⟨z, zz⟩ | ⟨dx, z1, z2, z3, od, es', ep, z4, z5, z6, _, z7⟩
              · rw [zz] at m1; cases m1
              · exact .exc (nX f2) (nX z3) f4 f5 z1 ⟨fs, f6, fun r q => ⟨Option.some.inj q.symm, hfs⟩⟩ z4 z5 z6 ((z7 _).trans m1) ((z7 _).trans m2) ((z7 _).trans m3)
theorem Ex.newExc {s₀ : Shared} {y : Str} {py spos : Pos} {rest : List Stmt} {Q : Flow → Shared → Prop} {E : Value → Shared → Prop} (K : ClsAt c.g) (I : InitAt c.g) (nl : c.g.NoLimit) (hA : c.A.depth + 2 < recursionLimit) (hf : Ev c L O (.Name x p) (.fix (.ref 115))) (hse : backTo pos (starEach (e :: es) c.env) = (false, eval e c.env) :: backTo pos (starEach es c.env)) (ha : Ev c L O e (.int ci)) (has : EvL c L O (backTo pos (starEach es c.env)) [.str xs, .int pi])
    (hplain : (backTo pos (starEach es c.env)).any (·.1) = false) (hy : Room c y) (h : ∀ a, c.g.get? a = Option.none → a ∉ c.X → Ex s₀ c ((y, .exc ci xs pi (some a)) :: L) O rest Q E)
    (hs : swapsWith (.Call (.Name x p) (e :: es) [] pos) (some (.Name y py)) spos.line c.env = pure false := by rfl) : Ex s₀ c L O (.Assign [.Name y py] (.Call (.Name x p) (e :: es) [] pos) spos :: rest) Q E := by
  constructor; intro s f S
  refine wpAny_execs_cons (wpAny_Assign_Name (wpAny_mono (newExc_run S K I nl hA hf hse ha has hplain) (fun v s₁ h₁ => ?_) fun _ _ e => e) hs)
  obtain ⟨k, a, rfl, hn, r⟩ := h₁
  refine store (k.sit S) hy r fun s' f' S' _ => (h a ?_ ?_).run s' ((f.trans k.from).trans f') S'
  · cases q : c.g.get? a with
    | none => rfl
    | some o => rw [S.keep _ _ q] at hn; cases hn
  · intro m
    obtain ⟨o, ho⟩ := S.wf a m
    rw [hn] at ho; cases ho
end
end
section
open PySem PySem.W PyProof.Rows
set_option maxRecDepth 100000
section
variable {c : Cx} {L : List (Str × D)} {O : List (Addr × List D)} {s₀ : Shared} {xs : Str} {pos : Pos} {ex : Expr} {rest : List Stmt} {ci pi : Int} {Q : Flow → Shared → Prop} {E : Value → Shared → Prop}
theorem Ex.raise (K : ClsAt c.g) (hh : c.A.handled = none) {e : Addr} (he : Ev c L O ex (.exc ci xs pi (some e))) (h : ∀ s, From s₀ s → Sit c L O s.heap → RV s.heap c.X (.ref e) (.exc ci xs pi (some e)) → E (.ref e) s) : Ex s₀ c L O (.Raise (some ex) none pos :: rest) Q E := by
  constructor; intro s f S
  refine wpAny_execs_cons ?_
  rw [arm_exec_Raise]
  refine wpAny_bind (wpAny_standAt ?_)
  have hcB := base_has
  show wpAny _ _ (raiseStmt c.env (some (do let v ← eval ex c.env; standAt pos; pure v)) none) _ _ _
  unfold raiseStmt
  refine wpAny_bind (wpAny_bind (wpAny_mono (he.run s E S) (fun v s₁ h₁ => wpAny_bind (wpAny_standAt (wpAny_pure ?_))) fun _ _ e => e))
  obtain ⟨k₁, r₁⟩ := h₁
  have S₁ := k₁.sit S
  have hC := (K.keep S₁.keep).c
  have done := fun z => h s₁ (f.trans k₁.from) S₁ z
  · refine r₁.e_exc fun a d o od es n t₁ t₂ t₃ fs n1 n2 e1 e2 e3 hd e4' _ _ _ _ _ _ ev => ?_
    subst ev
    obtain ⟨rfl, h1⟩ := e4' _ rfl
    have hE := done r₁
    obtain ⟨hp, g, dr, tk, os⟩ := s₁
    repeat (first | (with_reducible refine wpAny_loadPart_at e1 ?_; rw [e2]) | with_reducible refine wpAny_loadPart_at hC ?_ | (with_reducible refine wpAny_isSubtype_exc hC ?_; rw [hcB]) | with_reducible refine wpAny_field e1 hd h1 ?_ | wp_step)
    exact wpAny_raiseNew_none hh hE
end
end
section
open PySem PySem.W PyProof.Rows
open Builtin Builtin.ObjectAttr Builtin.Getset_descriptor
set_option maxRecDepth 100000
theorem lk_exc_ga : typeLookup (.type "OSError") (Str.ofString "__getattribute__") = pure (some (.builtin "BaseException.__getattribute__")) := by rw [typeLookup_type, builtinLookup_eq_fast]; kernel_rfl
theorem lk_exc_gh : typeLookup (.type "OSError") (Str.ofString "__getattr__") = pure none := by rw [typeLookup_type, builtinLookup_eq_fast]; kernel_rfl
theorem slot_ga : Slot "OSError" (Str.ofString "__getattribute__") "BaseException.__getattribute__" :=
  .of (owner := "BaseException") (n := "__getattribute__") (by rw [typeLookup_type, builtinLookup_eq_fast]; kernel_rfl) (by decide +kernel) (by decide +kernel) (by decide +kernel)
    (by first | exact .inl (by decide +kernel) | exact .inr (by decide +kernel)) (by rw [isSubtype_type]; kernel_rfl)
theorem ga_kind : builtinKind "BaseException.__getattribute__" = some .slot := by decide +kernel
theorem ga_split : splitId "BaseException.__getattribute__" = some ("BaseException", "__getattribute__") := by decide +kernel
section
variable {M : Model} {A : Around} {E : Value → Shared → Prop} {h : Heap} {g : Array GenState} {d : Drawn} {t : Nat} {os : OsState} {x : Addr} {o : Obj} {nameV : Value}
theorem ga_check {Q : Unit → Shared → Prop} (K : ClsAt h) (hx : h.get? x = some o) (hc : o.cls = .ref 115) (hq : Q () ⟨h, g, d, t, os⟩) :
    wpAny M A (checkBuiltinCall "BaseException.__getattribute__" ⟨[.ref x, nameV], []⟩) Q E ⟨h, g, d, t, os⟩ := by
  have hcB := base_has
  have hC := K.c
  simp only [checkBuiltinCall, ga_kind, ga_split]
  refine wpAny_bind ?_
  unfold isInstance
  repeat (first | (with_reducible refine wpAny_loadPart_at hx ?_; rw [hc]) | (with_reducible refine wpAny_isSubtype_exc hC ?_; rw [hcB]) | wp_step)
  exact hq
end
section
variable {prog : Program} {w : World} {M : Model} {A : Around} {E : Value → Shared → Prop} {h : Heap} {g : Array GenState} {d : Drawn} {t : Nat} {os : OsState} {e dx : Addr} {o od : Obj} {es : Array DictEntry} {n : Nat} {name : Str} {v : Value}
theorem read_attr {expr : Bool} {Q : Value → Shared → Prop} (K : ClsAt h) (hn : name ∈ [Str.ofString "smtp_code", Str.ofString "smtp_error", Str.ofString "sender"]) (he : h.get? e = some o) {fs : Array Value} (hc : o.cls = .ref 115) (hdt : o.data = .fields fs) (hd : o.dict = some dx) (hx : h.get? dx = some od) (hod : od.data = .dict es n) (hk : StrKeys es) (hf : nsFind es name = some v) (hh : handedOut v = pure v)
    (hq : Q v ⟨h, g, d, t + 1, os⟩) : wpAny (model prog w) A (getAttr (.ref e) name expr) Q E ⟨h, g, d, t, os⟩ := by
  have hC := K.c
  have hso : Str.ofString "__getattribute__" ∈ offN := by simp [offN]
  unfold getAttr getAttrBy
  repeat (first | (with_reducible refine wpAny_loadPart_at he ?_; rw [hc]) | (with_reducible refine look_c K hso lk_exc_ga ?_) | wp_step)
  have hso2 : Str.ofString "__getattr__" ∈ offN := by simp [offN]
  refine look_c K hso2 lk_exc_gh ?_
  have hb := slot_ga.bind (.ref e)
  have hx0 : (expr && onTheHeap (Value.builtin "BaseException.__getattribute__")) = false := by cases expr <;> rfl
  repeat (first | (with_reducible refine wpAny_of_eq hb ?_) | wp_step)
  show codeAny _ _ (.call (.builtin "BaseException.__getattribute__") ⟨[.ref e, .str name t], []⟩) _ _
  refine codeAny_call_builtin slot_ga.plain F.entry_bexc_ga (ga_check K he hc ?_)
  unfold Builtin.«object.__getattribute__»
  have lk := look_own hn
  have ho := own_off hn
  obtain ⟨oc, odd, odt, osl⟩ := o
  obtain rfl : oc = .ref 115 := hc
  obtain rfl : odd = some dx := hd
  obtain rfl : odt = .fields fs := hdt
  have hns : h.Ns dx (fun x => nsFind es x) := ⟨od, es, n, hx, hod, hk, fun _ => rfl⟩
  repeat (first | (with_reducible refine wpAny_loadPart_at he ?_) | (with_reducible refine look_c K ho lk ?_) | (with_reducible refine wpAny_nsGet hns ?_; rw [hf]) | wp_step)
  exact hq
end
end
section
open PySem PySem.W PyProof.Rows
open Builtin Builtin.ObjectAttr Builtin.Getset_descriptor
set_option maxRecDepth 100000
theorem typeOf_fn_name : typeOf (.builtin "function.__name__") = pure (.type "getset_descriptor") := by kernel_rfl
theorem entry_fn_name : entryFor table "function.__name__" = some Builtin.«function.__name__» := entryFor_of_tree (by kernel_rfl)
theorem owner_fn_name : (".".intercalate ("function.__name__".cutAt '.').dropLast) = "function" := by
  have e0 : "function.__name__".cutAt '.' = ["function", "__name__"] := by first | rfl | decide +kernel
  rw [e0]; decide +kernel
theorem lk_fn_name : typeLookup (.type "function") (Str.ofString "__name__") = pure (some (.builtin "function.__name__")) := by rw [typeLookup_type, builtinLookup_eq_fast]; kernel_rfl
theorem lk_fn_ga : typeLookup (.type "function") (Str.ofString "__getattribute__") = pure (some (.builtin "object.__getattribute__")) := by rw [typeLookup_type, builtinLookup_eq_fast]; kernel_rfl
theorem lk_fn_gh : typeLookup (.type "function") (Str.ofString "__getattr__") = pure none := by rw [typeLookup_type, builtinLookup_eq_fast]; kernel_rfl
theorem fn_sub : isSubtype (.type "function") (.type "function") = pure true := by rw [isSubtype_type]; kernel_rfl
theorem slot_fn_ga : Slot "function" (Str.ofString "__getattribute__") "object.__getattribute__" :=
  .of (owner := "object") (n := "__getattribute__") lk_fn_ga (by decide +kernel) (by decide +kernel) (by decide +kernel)
    (by first | exact .inl (by decide +kernel) | exact .inr (by decide +kernel)) (by rw [isSubtype_type]; kernel_rfl)
theorem entry_obj_ga : entryFor table "object.__getattribute__" = some Builtin.«object.__getattribute__» := entryFor_of_tree (by kernel_rfl)
theorem args_obj_ga (a b : Value) : argsOk "object.__getattribute__" ⟨[a, b], []⟩ := by unfold argsOk; kernel_rfl
section
variable {prog : Program} {w : World} {M : Model} {A : Around} {E : Value → Shared → Prop} {h : Heap} {g : Array GenState} {d : Drawn} {t : Nat} {os : OsState} {f : Addr} {o : Obj} {fd : FuncData}
theorem fn_get {R : Result → Shared → Prop} (hx : h.get? f = some o) (hc : o.cls = .type "function") (hd : o.data = .func fd) (hz : fd.name.length ≤ sizeLine) (hq : ∀ tk tk', R (.ok (.ret (.str fd.name tk))) ⟨h, g, d, tk', os⟩) :
    codeAny (model prog w) A (.call (.builtin "getset_descriptor.__get__") ⟨[.builtin "function.__name__", .ref f, .type "function"], []⟩) R ⟨h, g, d, t, os⟩ := by
  have hT : (⟨h, g, d, t, os⟩ : Shared).TypeIs (.ref f) "function" := ⟨_, hx, hc⟩
  have hT5 : (⟨h, g, d, t, os⟩ : Shared).TypeIs (.builtin "function.__name__") "getset_descriptor" := typeOf_fn_name
  have f8 : isSubtype (.type "function") (.type (".".intercalate ("function.__name__".cutAt '.').dropLast)) = pure true := by rw [owner_fn_name]; exact fn_sub
  refine codeAny_call_builtin F.slot_gs_get.plain F.entry_gs_get (F.slot_gs_get.check _ _ _ _ _ _ _ _ hT5 (F.args_gs_get _ _ _) ?_)
  repeat (any_goals (first | assumption | wp_step))
  refine ⟨Code.quiet_builtin _ (by decide +kernel), codeAny_builtin entry_fn_name ?_⟩
  unfold Builtin.«function.__name__»
  refine wpAny_bind ?_
  show wpAny _ _ (funcData (.ref f)) _ _ _
  unfold funcData
  refine wpAny_bind (wpAny_load hx ?_)
  rw [hd]
  refine wpAny_pure ?_
  unfold retStr
  refine wpAny_bind (wpAny_mkStr ?_ hz)
  unfold ret
  exact wpAny_pure (hq _ _)
theorem read_name {expr : Bool} {Q : Value → Shared → Prop} (hx : h.get? f = some o) (hc : o.cls = .type "function") (hd : o.data = .func fd) (hz : fd.name.length ≤ sizeLine) (hq : ∀ tk tk', Q (.str fd.name tk) ⟨h, g, d, tk', os⟩) :
    wpAny (model prog w) A (getAttr (.ref f) (Str.ofString "__name__") expr) Q E ⟨h, g, d, t, os⟩ := by
  have hT : (⟨h, g, d, t + 1, os⟩ : Shared).TypeIs (.ref f) "function" := ⟨_, hx, hc⟩
  have hT5 : (⟨h, g, d, t + 1, os⟩ : Shared).TypeIs (.builtin "function.__name__") "getset_descriptor" := typeOf_fn_name
  have f1 := lk_fn_ga
  have f2 := lk_fn_gh
  have f4 := lk_fn_name
  have f6 := F.slot_gs_get.lookup
  have f7 := F.slot_gs_set.lookup
  unfold getAttr getAttrBy
  repeat (any_goals (first | assumption | wp_step))
  have hx0 : (expr && onTheHeap (Value.builtin "object.__getattribute__")) = false := by cases expr <;> rfl
  have f3 := slot_fn_ga.bind (.ref f)
  repeat (any_goals (first | assumption | wp_step))
  show codeAny _ _ (.call (.builtin "object.__getattribute__") ⟨[.ref f, .str (Str.ofString "__name__") t], []⟩) _ _
  refine codeAny_call_builtin slot_fn_ga.plain entry_obj_ga (slot_fn_ga.check _ _ _ _ _ _ _ _ hT (args_obj_ga _ _) ?_)
  repeat (any_goals (first | assumption | wp_step))
  refine fn_get hx hc hd hz fun tk tk' => ?_
  repeat (any_goals (first | assumption | wp_step))
  exact hq _ _
end
end
section
open PySem PySem.W PyProof.Rows
set_option maxRecDepth 100000
section
variable {c : Cx} {L : List (Str × D)} {O : List (Addr × List D)} {o e e1 e2 e3 e4 e5 : Expr} {x x1 x2 x3 x4 x5 name : Str} {pos : Pos} {f : Addr} {ob : Obj} {fd : FuncData} {ci pi : Int} {raw : Option Addr}
theorem attr_ {Q : Value → Shared → Prop} {s : Shared} {E : Value → Shared → Prop} (h : wpAny (model c.prog c.w) c.A (eval o c.env) (fun v s₁ => wpAny (model c.prog c.w) c.A (getAttr v name true) Q E s₁) E s)
    (hb : attributeBase o name c.env (eval o c.env) = eval o c.env := by rfl) (ht : ∀ a b, letTemporaryGo o a b = pure () := by intros; rfl) : wpAny (model c.prog c.w) c.A (eval (.Attribute o name pos) c.env) Q E s := by
  rw [arm_eval_Attribute, hb]
  refine wpAny_bind (wpAny_mono h (fun v s₁ h₁ => wpAny_bind (wpAny_standAt (wpAny_bind (wpAny_holding (wpAny_mono h₁ (fun r s₂ h₂ => ?_) fun _ _ e => e))))) fun _ _ e => e)
  rw [ht]
  exact wpAny_bind (wpAny_pure (wpAny_pure h₂))
/-- a def's name -/
theorem Ev.fnName (he : Ev c L O o (.fix (.ref f))) (hf : c.g.get? f = some ob) (hc : ob.cls = .type "function") (hd : ob.data = .func fd) (hz : fd.name.length ≤ sizeLine)
    (hb : attributeBase o (Str.ofString "__name__") c.env (eval o c.env) = eval o c.env := by rfl) (ht : ∀ a b, letTemporaryGo o a b = pure () := by intros; rfl) : Ev c L O (.Attribute o (Str.ofString "__name__") pos) (.str fd.name) := by
  constructor; intro s E S
  refine attr_ (wpAny_mono (he.run s E S) (fun v s₁ h₁ => ?_) fun _ _ e => e) hb ht
  obtain ⟨k, r⟩ := h₁
  (first | cases r using RV.e_fix | cases r using RV.e_cell | cases r using RV.e_none | cases r using RV.e_int | cases r using RV.e_str | cases r using RV.e_lst | cases r using RV.e_tup | cases r using RV.e_mat | cases r using RV.e_bool | cases r using RL.e_nil)
  have S₁ := k.sit S
  obtain ⟨hp, g, d, tk, os⟩ := s₁
  exact read_name (S₁.keep _ _ hf) hc hd hz fun t t' => ⟨k.trans .toks, .str _ _⟩
/-- what an exception holds -/
theorem exc_attr {d : D} (K : ClsAt c.g) (he : Ev c L O o (.exc ci x pi raw)) (hn : (name = Str.ofString "smtp_code" ∧ d = .int ci) ∨ (name = Str.ofString "smtp_error" ∧ d = .str x) ∨ (name = Str.ofString "sender" ∧ d = .int pi))
    (hb : attributeBase o name c.env (eval o c.env) = eval o c.env := by rfl) (ht : ∀ a b, letTemporaryGo o a b = pure () := by intros; rfl) : Ev c L O (.Attribute o name pos) d := by
  constructor; intro s E S
  refine attr_ (wpAny_mono (he.run s E S) (fun v s₁ h₁ => ?_) fun _ _ e => e) hb ht
  obtain ⟨k, r⟩ := h₁
  have S₁ := k.sit S
  have K₁ := K.keep S₁.keep
  · refine r.e_exc fun a dx o' od es n t1 t2 t3 fs n1 n2 q1 q2 q3 hd _ q5 q6 q7 q8 q9 q10 ev => ?_
    subst ev
    obtain ⟨hp, g, dr, tk, os⟩ := s₁
    rcases hn with ⟨rfl, rfl⟩ | ⟨rfl, rfl⟩ | ⟨rfl, rfl⟩
    · exact read_attr K₁ (.head _) q1 q2 hd q3 q5 q6 q7 q8 rfl ⟨k.trans .toks, .int _ _⟩
    · exact read_attr K₁ (.tail _ (.head _)) q1 q2 hd q3 q5 q6 q7 q9 rfl ⟨k.trans .toks, .str _ _⟩
    · exact read_attr K₁ (.tail _ (.tail _ (.head _))) q1 q2 hd q3 q5 q6 q7 q10 rfl ⟨k.trans .toks, .int _ _⟩
/-- a text within an f-string -/
theorem Ev.fmt (he : Ev c L O e (.str x)) (hz : x.length ≤ sizeLine) : Ev c L O (.FormattedValue e (-1) Option.none pos) (.str x) := by
  constructor; intro s E S
  refine FormattedValue_plain (wpAny_mono (he.run s E S) (fun v s₁ h₁ => ?_) fun _ _ e => e)
  obtain ⟨k, r⟩ := h₁
  (first | cases r using RV.e_fix | cases r using RV.e_cell | cases r using RV.e_none | cases r using RV.e_int | cases r using RV.e_str | cases r using RV.e_lst | cases r using RV.e_tup | cases r using RV.e_mat | cases r using RV.e_bool | cases r using RL.e_nil)
  exact formatField_str (fun t tk => ⟨k.trans .toks, .str _ _⟩) hz
theorem Ev.joined5 (h1 : Ev c L O e1 (.str x1)) (h2 : Ev c L O e2 (.str x2)) (h3 : Ev c L O e3 (.str x3)) (h4 : Ev c L O e4 (.str x4)) (h5 : Ev c L O e5 (.str x5)) (hz : (Str.empty ++ x1 ++ x2 ++ x3 ++ x4 ++ x5).length ≤ sizeLine) :
    Ev c L O (.JoinedStr [e1, e2, e3, e4, e5] pos) (.str (Str.empty ++ x1 ++ x2 ++ x3 ++ x4 ++ x5)) := by
  constructor; intro s E S
  have l5 := hz
  have l4 : (Str.empty ++ x1 ++ x2 ++ x3 ++ x4).length ≤ sizeLine := by rw [len_add] at l5; omega
  have l3 : (Str.empty ++ x1 ++ x2 ++ x3).length ≤ sizeLine := by rw [len_add] at l4; omega
  have l2 : (Str.empty ++ x1 ++ x2).length ≤ sizeLine := by rw [len_add] at l3; omega
  have l1 : (Str.empty ++ x1).length ≤ sizeLine := by rw [len_add] at l2; omega
  refine JoinedStr_many (joinParts_cons (wpAny_mono (h1.run s E S) (fun v s₁ z₁ => ?_) fun _ _ e => e))
  obtain ⟨k₁, r⟩ := z₁
  (first | cases r using RV.e_fix | cases r using RV.e_cell | cases r using RV.e_none | cases r using RV.e_int | cases r using RV.e_str | cases r using RV.e_lst | cases r using RV.e_tup | cases r using RV.e_mat | cases r using RV.e_bool | cases r using RL.e_nil)
  refine ⟨l1, joinParts_cons (wpAny_mono (h2.run s₁ E (k₁.sit S)) (fun v s₂ z₂ => ?_) fun _ _ e => e)⟩
  obtain ⟨k₂, r⟩ := z₂
  (first | cases r using RV.e_fix | cases r using RV.e_cell | cases r using RV.e_none | cases r using RV.e_int | cases r using RV.e_str | cases r using RV.e_lst | cases r using RV.e_tup | cases r using RV.e_mat | cases r using RV.e_bool | cases r using RL.e_nil)
  have k₂ := k₁.trans k₂
  refine ⟨l2, joinParts_cons (wpAny_mono (h3.run s₂ E (k₂.sit S)) (fun v s₃ z₃ => ?_) fun _ _ e => e)⟩
  obtain ⟨k₃, r⟩ := z₃
  (first | cases r using RV.e_fix | cases r using RV.e_cell | cases r using RV.e_none | cases r using RV.e_int | cases r using RV.e_str | cases r using RV.e_lst | cases r using RV.e_tup | cases r using RV.e_mat | cases r using RV.e_bool | cases r using RL.e_nil)
  have k₃ := k₂.trans k₃
  refine ⟨l3, joinParts_cons (wpAny_mono (h4.run s₃ E (k₃.sit S)) (fun v s₄ z₄ => ?_) fun _ _ e => e)⟩
  obtain ⟨k₄, r⟩ := z₄
  (first | cases r using RV.e_fix | cases r using RV.e_cell | cases r using RV.e_none | cases r using RV.e_int | cases r using RV.e_str | cases r using RV.e_lst | cases r using RV.e_tup | cases r using RV.e_mat | cases r using RV.e_bool | cases r using RL.e_nil)
  have k₄ := k₃.trans k₄
  refine ⟨l4, joinParts_cons (wpAny_mono (h5.run s₄ E (k₄.sit S)) (fun v s₅ z₅ => ?_) fun _ _ e => e)⟩
  obtain ⟨k₅, r⟩ := z₅
  (first | cases r using RV.e_fix | cases r using RV.e_cell | cases r using RV.e_none | cases r using RV.e_int | cases r using RV.e_str | cases r using RV.e_lst | cases r using RV.e_tup | cases r using RV.e_mat | cases r using RV.e_bool | cases r using RL.e_nil)
  exact ⟨l5, joinParts_nil ⟨(k₄.trans k₅).trans .toks, .str _ _⟩ l5⟩
end
end
section
open PySem PySem.W PyProof.Rows PySem.Builtin.Str
set_option maxRecDepth 10000
/-- a text of these signs -/
noncomputable def sT (l : List Nat) : Str := ⟨l.toArray⟩
theorem sT_len (l : List Nat) : (sT l).length = l.length := by simp [sT, Str.length]
theorem sT_app (l m : List Nat) : sT l ++ sT m = sT (l ++ m) := by
  show (⟨l.toArray ++ m.toArray⟩ : Str) = ⟨(l ++ m).toArray⟩
  simp
theorem sT_of (x : Str) : x = sT x.cps.toList := rfl
theorem idx_pre (b n : Nat) : strSliceIndices none (some (b : Int)) 1 n = List.range (min b n) := by
  unfold strSliceIndices
  simp only [show (1 : Int) > 0 by decide, if_true]
  rw [if_neg (by omega)]
  have : max (0 : Int) (min (b : Int) (n : Int)) = ((min b n : Nat) : Int) := by omega
  rw [this]
  have := sliceRange_one 0 (min b n)
  simpa using this
theorem idx_suf (b n : Nat) : strSliceIndices (some (b : Int)) none 1 n = (List.range (n - min b n)).map (min b n + ·) := by
  unfold strSliceIndices
  simp only [show (1 : Int) > 0 by decide, if_true]
  rw [if_neg (by omega)]
  have : max (0 : Int) (min (b : Int) (n : Int)) = ((min b n : Nat) : Int) := by omega
  rw [this]
  exact sliceRange_one (min b n) n
theorem slice_pre (l : List Nat) (b : Nat) : Txt.slice (sT l) none (some (b : Int)) = sT (l.take b) := by
  unfold Txt.slice
  rw [sT_len, idx_pre, List.length_range]
  split
  · rename_i h
    have h' : min b l.length = l.length := by simpa using h
    rw [List.take_of_length_le (by omega)]
  · have this : (List.range (min b l.length)).filterMap (l.toArray[·]?) = l.take (min b l.length) := by
      have := pick_run l.toArray 0 (min b l.length)
      rw [show (List.range (min b l.length)).map (0 + ·) = List.range (min b l.length) by simp] at this
      rw [this]; simp
    unfold sT
    show (⟨((List.range (min b l.length)).filterMap (l.toArray[·]?)).toArray⟩ : Str) = _
    rw [this]
    rcases Nat.le_total b l.length with h | h
    · rw [Nat.min_eq_left h]
    · rw [Nat.min_eq_right h, List.take_of_length_le (Nat.le_refl _), List.take_of_length_le h]
theorem slice_suf (l : List Nat) (b : Nat) : Txt.slice (sT l) (some (b : Int)) none = sT (l.drop b) := by
  unfold Txt.slice
  rw [sT_len, idx_suf, List.length_map, List.length_range]
  split
  · rename_i h
    have h' : l.length - min b l.length = l.length := by simpa using h
    rcases Nat.eq_zero_or_pos b with rfl | hb
    · rfl
    · have : l.length = 0 := by omega
      have := List.length_eq_zero_iff.mp this
      subst this; simp
  · have := pick_run l.toArray (min b l.length) (l.length - min b l.length)
    unfold sT
    rw [this]
    rcases Nat.le_total b l.length with h | h
    · rw [Nat.min_eq_left h, List.take_of_length_le (by simp)]
    · rw [Nat.min_eq_right h]; simp [List.drop_of_length_le h]
end
section
open PySem PySem.W PyProof.Rows
open PySem.Sre
set_option maxRecDepth 10000
theorem getD_arr (l : List Nat) (j : Nat) : l.toArray.getD j 0 = l.getD j 0 := by
  rw [Array.getD_eq_getD_getElem?, List.getD_eq_getElem?_getD, List.getElem?_toArray]
/-- a hit with one group is found -/
theorem Hit.found {r : Sre.M} {a b c d : Nat} (h : Hit r a b 1 #[some c, some d]) (hcd : c ≤ d) : Found 1 [(a : Int), b, c, d] r := by
  obtain ⟨h1, h2, h3, h4, h5⟩ := h
  refine ⟨h1, ?_, ?_⟩
  · unfold spansOf
    rw [h2, h3, h4, h5]
    rfl
  · rw [h4, h5]
    show (List.range 1).all _ = true
    simp [List.range_succ]
    omega
theorem sT_cps (l : List Nat) : (sT l).cps = l.toArray := rfl
theorem size_sT (l : List Nat) : (sT l).cps.size = l.length := by simp [sT]
section
variable {prog : Program} {w : World} {A : Around} {g : Heap} {V : List Addr}
/-- the next word of a mail -/
theorem tok_con {pre wd rest : List Nat} (B : Base prog w g) (hpre : pre = [] ∨ pre = [13, 10]) (hw : ∀ c ∈ wd, wch c = true) (hne : wd ≠ []) (hz : (pre ++ (wd ++ 13 :: rest)).length ≤ 1000000) :
    Con prog w A g V (.builtin "re.Pattern.search") [.fix (.ref 56), .str (sT (pre ++ (wd ++ 13 :: rest)))] (.mat (sT (pre ++ (wd ++ 13 :: rest))) [0, ((pre.length + wd.length : Nat) : Int), (pre.length : Nat), ((pre.length + wd.length : Nat) : Int)]) := by
  have hn : 0 < wd.length := List.length_pos_iff.mpr hne
  have hlen : (pre ++ (wd ++ 13 :: rest)).length = pre.length + (wd.length + (rest.length + 1)) := by simp
  obtain ⟨r, hr, hh⟩ := tok_hit (T := (pre ++ (wd ++ 13 :: rest)).toArray) (k := pre.length) (n := wd.length) (fun j hj => by
      rw [getD_arr, List.getD_eq_getElem?_getD, List.getElem?_append_left hj]
      rcases hpre with rfl | rfl
      · simp at hj
      · have : j = 0 ∨ j = 1 := by simp at hj; omega
        rcases this with rfl | rfl <;> decide)
    (fun j hj => by
      rw [getD_arr, List.getD_eq_getElem?_getD, List.getElem?_append_right (by omega), Nat.add_sub_cancel_left, List.getElem?_append_left hj, List.getElem?_eq_getElem hj]
      exact hw _ (List.getElem_mem hj)) hn (by
      rw [getD_arr, List.getD_eq_getElem?_getD, List.getElem?_append_right (by omega), Nat.add_sub_cancel_left, List.getElem?_append_right (by omega), Nat.sub_self]; rfl)
    (by simp) (by simp at hz ⊢; omega)
  refine Con.search (n := 10) (by rw [size_sT]; omega) B.p_56 (by decide) ⟨10, r, Nat.le_refl _, ?_, Hit.found hh (by omega)⟩ (by simp; decide)
  exact hr
theorem tok_no (B : Base prog w g) : Con prog w A g V (.builtin "re.Pattern.search") [.fix (.ref 56), .str (sT [13, 10])] .none := by
  obtain ⟨n, r, h1, h2, h3⟩ := tok_none
  exact Con.searchNo (n := 100) (by decide) B.p_56 (by decide) ⟨n, r, h1, h2, h3⟩
theorem esc_con {a b : List Nat} (B : Base prog w g) (ha : ∀ c ∈ a, c ≠ 92) (hz : (a ++ 92 :: 61 :: b).length ≤ 1000000) :
    Con prog w A g V (.builtin "re.Pattern.search") [.fix (.ref 61), .str (sT (a ++ 92 :: 61 :: b))] (.mat (sT (a ++ 92 :: 61 :: b)) [(a.length : Nat), ((a.length + 2 : Nat) : Int), ((a.length + 1 : Nat) : Int), ((a.length + 2 : Nat) : Int)]) := by
  obtain ⟨r, hr, hh⟩ := esc_all (T := (a ++ 92 :: 61 :: b).toArray) (i := a.length) (fun j hj => by
      rw [getD_arr, List.getD_eq_getElem?_getD, List.getElem?_append_left hj, List.getElem?_eq_getElem hj]
      exact ha _ (List.getElem_mem hj)) (by
      rw [getD_arr, List.getD_eq_getElem?_getD, List.getElem?_append_right (by omega), Nat.sub_self]; rfl) (by
      rw [getD_arr, List.getD_eq_getElem?_getD, List.getElem?_append_right (by omega), Nat.add_sub_cancel_left]; exact (by decide : (61 : Nat) ≠ 10)) (by simp)
  refine Con.search (n := 2 * a.length + 7) (by rw [size_sT]; omega) B.p_61 (by simp at hz; omega) ⟨_, r, Nat.le_refl _, ?_, Hit.found hh (by omega)⟩ (by simp; decide)
  exact hr
/-- a match taken out of its text -/
theorem take_con {l : List Nat} {sp : List Int} {b e : Nat} (B : Base prog w g) (ok : Ok 2 A) (hb : sp[0]? = some (b : Int)) (he : sp[1]? = some (e : Int)) (hz : l.length ≤ 1000000) : Con prog w A g V (.ref 51) [.mat (sT l) sp] (.str (sT (l.take b ++ l.drop e))) := by
  have := unmatched_c (V := V) B ok hb he (x := sT l) (by rw [sT_len]; omega)
  rw [slice_pre, slice_suf, sT_app] at this
  exact this
theorem cut_sT (l : List Nat) (b e : Nat) : cutS (sT l) b e = sT ((l.drop b).take (e - b)) := by
  unfold cutS sT
  simp
end
end
section
open PySem PySem.W PyProof.Rows
set_option maxRecDepth 10000
noncomputable def SafeAt (g : Heap) : Prop := (∃ o pm cd doc, g.get? 132 = some o ∧ o.data = .func (safeFd pm cd doc) ∧ g.CodeRec cd (Str.ofString "_safe_string")) ∧ ∃ o n, g.get? 125 = some o ∧ o.data = .seq #[.type "str"] n
theorem SafeAt.keep {g g' : Heap} (k : ∀ b o, g.get? b = some o → g'.get? b = some o) (h : SafeAt g) : SafeAt g' :=
  h.imp (Exists.imp (fun _ => Exists.imp (fun _ => Exists.imp (fun _ => Exists.imp (fun _ => And.imp (k _ _) (And.imp id (·.keeps k))))))) (Exists.imp (fun _ => Exists.imp (fun _ => And.imp (k _ _) id)))
/-- the top, with the exception's class -/
structure Top (prog : Program) (w : World) (g : Heap) : Prop where
  b : Base prog w g
  cls : ClsAt g
  ini : InitAt g
  fc : ∃ o, g.get? 163 = some o ∧ o.cls = .type "function"
  sf : SafeAt g
theorem Top.keep {prog : Program} {w : World} {g g' : Heap} (k : ∀ b o, g.get? b = some o → g'.get? b = some o) (t : Top prog w g) : Top prog w g' := ⟨t.b.keep k, t.cls.keep k, t.ini.keep k, t.fc.imp fun _ => And.imp (k _ _) id, t.sf.keep k⟩
theorem Top.reck_def {P : Prop} {prog : Program} {w : World} {g : Heap} (t : Top prog w g) (K : ∀ o pm cd doc, g.get? 163 = some o → o.cls = .type "function" → o.data = .func (Calls.docDef (Str.ofString "_law_reckon") (parsOf (row 24)) (bodyOf (row 24)) (scopeOf (row 24)) pm cd doc) → P) : P := by
  obtain ⟨o, e, q⟩ := t.fc
  obtain ⟨o', pm, cd, doc, e', d, _⟩ := t.b.f_law_reckon
  exact K o pm cd doc e q (by rw [show o = o' from Option.some.inj (e.symm.trans e')]; exact d)
/-- a row's word is good -/
noncomputable def Good (p : Nat × Int) : Prop := p.1 < 6 ∧ 0 ≤ p.2
theorem dig2_wch : ∀ n : Nat, n < 100 → (dig2 n).cps.toList.all wch = true := by decide +kernel
theorem dig1_wch : ∀ n : Nat, n < 24 → (dig1 n).cps.toList.all wch = true ∧ (dig1 n).cps.size ≠ 0 := by decide +kernel
theorem opW_wch : ∀ j : Nat, j < 6 → (opW j).cps.toList.all wch = true ∧ (opW j).cps.size ≠ 0 := by decide +kernel
theorem opI_lt (k : Nat) (y : Int) : opI k y < 6 := by
  unfold opI
  split <;> split <;> (try split) <;> omega
theorem cps_app (x y : Str) : (x ++ y).cps.toList = x.cps.toList ++ y.cps.toList := by
  show (x.cps ++ y.cps).toList = _
  simp
theorem zW_wch (y : Int) : (zW y).cps.toList.all wch = true ∧ (zW y).cps.toList ≠ [] := by
  unfold zW
  split
  · unfold zName
    repeat' split
    all_goals decide +kernel
  · have d2 : ∀ n : Nat, n < 100 → (dig2 n).cps.toList.all wch = true := dig2_wch
    have s : (zSign y).cps.toList.all wch = true := by
      unfold zSign
      repeat' split
      all_goals decide +kernel
    have f : (zFig y).cps.toList.all wch = true ∧ (zFig y).cps.toList ≠ [] := by
      unfold zFig
      split
      · have := dig1_wch (y % 24).toNat (by omega)
        refine ⟨this.1, fun e => this.2 ?_⟩
        rw [← Array.length_toList, e]; rfl
      · have a := d2 (y % 24).toNat (by omega)
        have b := d2 (15 * (y / 24 % 4)).toNat (by omega)
        have c : (if y / 288 % 4 = 0 then Str.ofString ":" else Str.ofString "").cps.toList.all wch = true := by
          split <;> decide +kernel
        rw [cps_app, cps_app, List.all_append, List.all_append, a, b, c]
        exact ⟨rfl, by simp [dig2]⟩
    rw [cps_app, List.all_append, s, f.1]
    exact ⟨rfl, by simp [f.2]⟩
/-- a word's signs -/
noncomputable def wL (p : Nat × Int) : List Nat := (itW p).cps.toList
theorem wL_sT (p : Nat × Int) : itW p = sT (wL p) := rfl
theorem wL_len (p : Nat × Int) : (wL p).length ≤ 10 := by
  have := itW_len p
  rw [wL_sT, sT_len] at this; exact this
theorem wL_wch (p : Nat × Int) : (∀ c ∈ wL p, wch c = true) ∧ wL p ≠ [] := by
  have : (itW p).cps.toList.all wch = true ∧ (itW p).cps.toList ≠ [] := by
    unfold itW
    split
    · exact zW_wch _
    · have := opW_wch _ (opI_lt p.1 p.2)
      refine ⟨this.1, fun e => this.2 ?_⟩
      rw [← Array.length_toList, e]; rfl
  exact ⟨List.all_eq_true.mp this.1, this.2⟩
/-- a mail's signs -/
noncomputable def mailL : List (Nat × Int) → List Nat
  | [] => []
  | p :: r => wL p ++ 13 :: 10 :: mailL r
theorem mailL_len : ∀ l : List (Nat × Int), (mailL l).length ≤ 12 * l.length
  | [] => by simp [mailL]
  | p :: r => by
    have := wL_len p
    have := mailL_len r
    simp [mailL]; omega
/-- what the reader does: the pile (its last at the head), or where it stops -/
noncomputable def reck : List (Nat × Int) → List Int → Nat → Except (Nat × (Nat × Int) × Nat) (List Int)
  | [], st, _ => .ok st
  | p :: r, st, k => match mach [ringOf p] st with
    | some st' => reck r st' (k + 1)
    | none => .error (st.length, p, k)
theorem cost_back : ∀ j : Nat, j < 6 → cost (opW j) (Str.ofString "back") = if j = 0 then 0 else if j = 1 then 1 else 2 := by decide +kernel
theorem cost_less : ∀ j : Nat, j < 6 → cost (Str.ofString "less") (opW j) = if j = 2 then 0 else if j = 3 then 1 else 2 := by decide +kernel
theorem cost_later : ∀ j : Nat, j < 6 → 4 ≤ j → cost (opW j) (Str.ofString "later") = if j = 4 then 0 else 1 := by decide +kernel
theorem opW_len : ∀ j : Nat, j < 6 → (opW j).length ≤ 10 := by decide +kernel
theorem safe_bind {s : Shared} {o : Obj} {n : Nat} (pm cd doc v₁ v₂ v₃ : Value) (ho : s.heap.get? 125 = some o) (hs : o.data = .seq #[.type "str"] n) : BindsTo s (safeFd pm cd doc) ⟨[v₁, v₂, v₃], []⟩ [(Str.ofString "value", v₁), (Str.ofString "what", v₂), (Str.ofString "func", v₃)] :=
  BindsTo.of_defaults (T := 125) rfl ho hs rfl rfl
end
section
open PySem PySem.W PyProof.Rows
set_option maxRecDepth 10000
local macro_rules | `(tactic| tm_at "kl con") => `(tactic| first | with_reducible assumption | exact Con.absI | (refine Con.max2 ?hh; (case hh => assumption)) | (refine Con.min2 ?hh; (case hh => assumption)))

/-- the mail's text before its k-th word -/
noncomputable def textL (k : Nat) (r : List (Nat × Int)) : List Nat := (if k = 0 then [] else [13, 10]) ++ mailL r
noncomputable def preN (k : Nat) : Nat := if k = 0 then 0 else 2
/-- what the search for a word gives -/
noncomputable def foundD (k : Nat) : List (Nat × Int) → D
  | [] => .none
  | p :: r => .mat (sT (textL k (p :: r))) [0, ((preN k + (wL p).length : Nat) : Int), (preN k : Nat), ((preN k + (wL p).length : Nat) : Int)]
noncomputable def secD (p : Nat × Int) : D := match ringOf p with | .num v => .int v | .op _ => .none
theorem pre_len (k : Nat) : (if k = 0 then ([] : List Nat) else [13, 10]).length = preN k := by unfold preN; split <;> rfl
theorem textL_len (k : Nat) (r : List (Nat × Int)) : (textL k r).length ≤ 2 + 12 * r.length := by
  have := mailL_len r
  unfold textL
  rw [List.length_append, pre_len]
  unfold preN
  split <;> omega
section
variable {prog : Program} {w : World} {A : Around} {g : Heap} {V : List Addr} {k : Nat} {p : Nat × Int} {r : List (Nat × Int)}
theorem found_con (B : Base prog w g) (hk : r = [] → 0 < k) (hr : r.length ≤ 100) : Con prog w A g V (.builtin "re.Pattern.search") [.fix (.ref 56), .str (sT (textL k r))] (foundD k r) := by
  cases r with
  | nil =>
    have := hk rfl
    have e : textL k [] = [13, 10] := by unfold textL mailL; rw [if_neg (by omega)]; rfl
    rw [e]; exact tok_no B
  | cons p r =>
    have hz := textL_len k (p :: r)
    have := tok_con (A := A) (V := V) (pre := if k = 0 then [] else [13, 10]) (wd := wL p) (rest := 10 :: mailL r) B (by split <;> simp) (wL_wch p).1 (wL_wch p).2 (by show (textL k (p :: r)).length ≤ _; simp at hz hr; omega)
    rw [pre_len] at this
    exact this
theorem word_con (hr : r.length ≤ 100) : Con prog w A g V (.builtin "re.Match.group") [foundD k (p :: r), .int 1] (.str (itW p)) := by
  have hz := textL_len k (p :: r)
  have := Con.group (prog := prog) (w := w) (A := A) (g := g) (X := V) (x := sT (textL k (p :: r))) (sp := [0, ((preN k + (wL p).length : Nat) : Int), (preN k : Nat), ((preN k + (wL p).length : Nat) : Int)]) (k := 1) (b := preN k) (e := preN k + (wL p).length) rfl rfl (Nat.le_trans (by rw [sT_len]; simp at hz; omega : _ ≤ 100000) (by decide))
  rw [cut_sT] at this
  have e : ((textL k (p :: r)).drop (preN k)).take (preN k + (wL p).length - preN k) = wL p := by
    unfold textL mailL
    rw [List.drop_left' (pre_len k), Nat.add_sub_cancel_left, List.take_left' rfl]
  rw [e] at this
  exact this
theorem rest_con (B : Base prog w g) (ok : Ok 2 A) (hr : r.length ≤ 100) : Con prog w A g V (.ref 51) [foundD k (p :: r)] (.str (sT (textL (k + 1) r))) := by
  have hz := textL_len k (p :: r)
  have := take_con (V := V) (l := textL k (p :: r)) (sp := [0, ((preN k + (wL p).length : Nat) : Int), (preN k : Nat), ((preN k + (wL p).length : Nat) : Int)]) (b := 0) (e := preN k + (wL p).length) B ok rfl rfl (by simp at hz; omega)
  have e : (textL k (p :: r)).take 0 ++ (textL k (p :: r)).drop (preN k + (wL p).length) = textL (k + 1) r := by
    unfold textL
    rw [if_neg (by omega : ¬ k + 1 = 0), List.take_zero, List.nil_append, ← List.drop_drop, List.drop_left' (pre_len k)]
    show (wL p ++ 13 :: 10 :: mailL r).drop (wL p).length = [13, 10] ++ mailL r
    rw [List.drop_left' rfl]; rfl
  rw [e] at this
  exact this
theorem sec_con (B : Base prog w g) (ok : Ok 2 A) (hp : Good p) : Con prog w A g V (.ref 44) [.str (itW p)] (secD p) := by
  unfold itW secD ringOf
  by_cases h : p.1 < 3
  · simp only [if_pos h]; exact zone_offset hp.2 B ok
  · simp only [if_neg h]; exact op_offset (opI_lt _ _) B ok
end
/-- the reader's frame -/
@[reducible] noncomputable def cxR (prog : Program) (w : World) (A : Around) (h : Heap) (X : List Addr) (aN : Addr) (cd : Value) : Cx :=
  { prog, w, A := A.deeper (envOf (Str.ofString "_law_reckon") (scopeOf (row 24)) h.objs.size 163 cd), g := hideAll h [aN], W := [h.objs.size, aN], V := X, env := envOf (Str.ofString "_law_reckon") (scopeOf (row 24)) h.objs.size 163 cd }
/-- the reader has raised -/
noncomputable def Raised (ws : List (Nat × Int)) (s₀ : Shared) (c : Cx) (aN : Addr) : Value → Shared → Prop := fun e s => ∃ (n : Nat) (p : Nat × Int) (k : Nat) (a : Addr), reck ws [] 0 = .error (n, p, k) ∧ e = .ref a ∧ c.g.get? a = none ∧ a ∉ c.X ∧ From s₀ s ∧ Sit c [] [(aN, [.exc (n : Nat) (itW p) (k : Nat) (some a)])] s.heap ∧ RV s.heap c.X (.ref a) (.exc (n : Nat) (itW p) (k : Nat) (some a))
/-- its exception flies -/
noncomputable def Flies (ws : List (Nat × Int)) (s₀ : Shared) (c : Cx) (aN : Addr) (S : List Addr) (fl : Value) : Value → Shared → Prop := fun e s => ∃ (n : Nat) (p : Nat × Int) (k : Nat) (a : Addr) (d : Option Addr) (hr : Heap), reck ws [] 0 = .error (n, p, k) ∧ e = .ref a ∧ c.g.get? a = none ∧ a ∉ c.X ∧ From s₀ s ∧ Sit c [] [(aN, [.exc (n : Nat) (itW p) (k : Nat) (some a)])] hr ∧ (∃ o, hr.get? a = some o ∧ o.dict = d) ∧ Air S hr a (.ref 115) d fl s.heap
/-- the reader has come to the end -/
noncomputable def Reads (ws : List (Nat × Int)) (s₀ : Shared) (c : Cx) (aN : Addr) : Flow → Shared → Prop := fun f s => ∃ st v, reck ws [] 0 = .ok st ∧ f = .ret v ∧ From s₀ s ∧ Sit c [] [(aN, [])] s.heap ∧ RV s.heap c.X v (.tup [.lst (st.reverse.map .int), .str (sT [13, 10])])
theorem cell_tup {c : Cx} {L : List (Str × D)} {O : List (Addr × List D)} {h : Heap} {a : Addr} {ds : List D} {y : Str} {v : Value} (S : Sit (c.with a) L ((a, ds) :: O) h) (ha : a ∉ c.X) (r : RV h (c.with a).X v (.tup [.cell a, .str y])) : RV h c.X v (.tup [.lst ds, .str y]) := by
  have less : ∀ {b : Addr} {o : Obj}, b ∈ c.X → h.get? b = some o → b ∈ (c.with a).X := fun m _ => mem_with.mpr (.inr m)
  cases r using RV.e_tup with
  | tup na ea qa =>
    rename_i b vs n
    refine .tup (fun m => na (mem_with.mpr (.inr m))) ea ?_
    obtain ⟨l⟩ := vs
    cases qa using RL.e_cons with
    | cons r1 q => cases q using RL.e_cons with
      | cons r2 q =>
        cases q using RL.e_nil
        refine .cons ?_ (.cons (r2.less fun b o m e => less m e) .nil)
        (first | cases r1 using RV.e_fix | cases r1 using RV.e_cell | cases r1 using RV.e_none | cases r1 using RV.e_int | cases r1 using RV.e_str | cases r1 using RV.e_lst | cases r1 using RV.e_tup | cases r1 using RV.e_mat | cases r1 using RV.e_bool | cases r1 using RL.e_nil)
        obtain ⟨_, vs, n, e, q⟩ := S.own _ (.head _)
        exact .lst ha e (q.less fun b o m e => less m e)
noncomputable def whileBody : Stmt → List Stmt
  | .While _ b _ _ => b
  | _ => []
/-- the loop of the reader -/
noncomputable def loopS : List Stmt := whileBody (((bodyOf (row 24))[5]?).getD (.Pass ⟨0, 0, 0, 0⟩))
noncomputable def bkI (j : Nat) : Int := if j = 0 then 0 else if j = 1 then 1 else 2
noncomputable def lsI (j : Nat) : Int := if j = 2 then 0 else if j = 3 then 1 else 2
theorem mach_one {j : Nat} (hj : j < 2) (b : Int) (st : List Int) : mach [.op j] (b :: st) = some (made j b b :: st) := by simp [mach, hj]
theorem mach_two {j : Nat} (hj : ¬ j < 2) (a b : Int) (st : List Int) : mach [.op j] (b :: a :: st) = some (made j a b :: st) := by simp [mach, hj]
theorem mach_low1 {j : Nat} {st : List Int} (h : st.length < (R.op j).kind) : mach [.op j] st = none := by
  simp only [R.kind] at h
  by_cases hj : j < 2
  · rw [if_pos hj] at h
    match st, h with
    | [], _ => simp [mach, hj]
  · rw [if_neg hj] at h
    match st, h with
    | [], _ => simp [mach, hj]
    | [b], _ => simp [mach, hj]
section
variable {prog : Program} {w : World} {A : Around} {h : Heap} {X : List Addr} {aN : Addr} {cd : Value} {ws : List (Nat × Int)} {a b : List Nat} {s₀ : Shared} {S : List Addr} {fl : List Env}
theorem reckon_body (T : Top prog w (hideAll h [aN])) (ok : Ok 4 A) (hws : ∀ p ∈ ws, Good p) (h0 : 0 < ws.length) (h6 : ws.length ≤ 6) (hm : mailL ws = a ++ b) (ha : ∀ c ∈ a, c ≠ 92)
    (hfr : A.frames = some fl) (hF : Frames (hideAll h [aN]) S fl) (hL : h.objs.size ∈ S) (hS : ∀ x ∈ S, x ∈ (cxR prog w A h X aN cd).X) :
    Ex s₀ (cxR prog w A h X aN cd) [(Str.ofString "pair", .tup [.str (sT (a ++ 92 :: 61 :: b)), .cell aN])] [(aN, [])] (bodyOf (row 24)) (Reads ws s₀ (cxR prog w A h X aN cd) aN) (Flies ws s₀ (cxR prog w A h X aN cd) aN S (rawInt h.objs.size)) := by
  have B := T.b
  have ok3 : Ok 3 (cxR prog w A h X aN cd).A := Ok.deeper (n := 3) ok
  have ok2 : Ok 2 (cxR prog w A h X aN cd).A := ok3.less (by decide)
  have hh : (cxR prog w A h X aN cd).A.handled = none := ok3.handled
  have hml := mailL_len ws
  have habl : (a ++ 92 :: 61 :: b).length ≤ 1000 := by
    have : a.length + b.length = (mailL ws).length := by rw [hm]; simp
    simp; omega
  refine Ex.unpack2 (d₁ := .str (sT (a ++ 92 :: 61 :: b))) (d₂ := .cell aN) ?_ (.inl (by kernel_rfl)) (.inl (by kernel_rfl)) hh ?_ (by rfl) (by rfl)
  · tm_at "kl ev"
  refine Ex.assign (d := .str (sT (textL 0 ws))) ?_ (.inl (by kernel_rfl)) ?_ (by rfl)
  · refine Ev.callv (d₁ := .mat (sT (a ++ 92 :: 61 :: b)) [(a.length : Nat), ((a.length + 2 : Nat) : Int), ((a.length + 1 : Nat) : Int), ((a.length + 2 : Nat) : Int)]) (ds := []) (Ev.glob (by kernel_rfl) B.g_unmatched (by kernel_rfl)) B.f_unmatched.fun (by rfl) ?_ EvL.nil (by rfl) ?_
    · refine Ev.meth1 (d := .fix (.ref 61)) (d₁ := .str (sT (a ++ 92 :: 61 :: b))) (Ev.glob (by kernel_rfl) B.g_HEADER_ESCAPE_RE (by kernel_rfl)) B.p_61.ty ?_ (esc_con B ha (by omega)) plain_pat slot_search type_search (by rfl) (by rfl) (by rfl) (by rfl) (by rfl)
      tm_at "kl ev"
    · have := take_con (V := (cxR prog w A h X aN cd).X) (l := a ++ 92 :: 61 :: b) (sp := [(a.length : Nat), ((a.length + 2 : Nat) : Int), ((a.length + 1 : Nat) : Int), ((a.length + 2 : Nat) : Int)]) (b := a.length) (e := a.length + 2) B ok2 rfl rfl (by omega)
      have e : (a ++ 92 :: 61 :: b).take a.length ++ (a ++ 92 :: 61 :: b).drop (a.length + 2) = textL 0 ws := by
        rw [List.take_left' rfl, ← List.drop_drop, List.drop_left' rfl]
        show a ++ b = textL 0 ws
        rw [← hm]; rfl
      rw [e] at this
      exact this
  refine Ex.own (ds := []) (EvN.list EvL.nil) (.inl (by kernel_rfl)) (fun aP haP => ?_) (by rfl)
  refine Ex.assign (d := .int (0 : Nat)) Ev.int (.inl (by kernel_rfl)) ?_ (by rfl)
  have B' : Base prog w ((cxR prog w A h X aN cd).with aP).g := B
  refine Ex.assign (d := foundD 0 ws) ?_ (.inl (by kernel_rfl)) ?_ (by rfl)
  · refine Ev.meth1 (d := .fix (.ref 56)) (d₁ := .str (sT (textL 0 ws))) (Ev.glob (by kernel_rfl) B'.g_HEADER_TOKEN_RE (by kernel_rfl)) B'.p_56.ty ?_ (found_con B' (fun e => by rw [e] at h0; cases h0) (by omega)) plain_pat slot_search type_search (by rfl) (by rfl) (by rfl) (by rfl) (by rfl)
    tm_at "kl ev"
  refine Ex.whileI (σ := List (Nat × Int) × List Int × Nat) (E' := Raised ws s₀ (cxR prog w A h X aN cd) aN) (fun st => st.1.length) (fun st => reck st.1 st.2.1 st.2.2 = reck ws [] 0 ∧ (∀ p ∈ st.1, Good p) ∧ st.1.length + st.2.2 = ws.length ∧ st.2.1.length ≤ 10 + st.2.2) (fun st => !st.1.isEmpty)
    (fun st => [(Str.ofString "text", .str (sT (textL st.2.2 st.1))), (Str.ofString "pile", .cell aP), (Str.ofString "place", .int (st.2.2 : Nat)), (Str.ofString "found", foundD st.2.2 st.1), (Str.ofString "notes", .cell aN)]) (fun st => [(aP, st.2.1.reverse.map .int), (aN, [])]) (ws, [], 0) ?_ rfl ⟨rfl, hws, rfl, by simp⟩ ?_ ?_ ?_ ?_
  · tm_at "kl sub"
  · rintro ⟨r, st, k⟩ ⟨i1, i2, i3, i4⟩
    cases r with
    | nil =>
      refine Tst.cmp (d := .none) (e := .none) ?_ Ev.none CmpIs.notNN (by with_unfolding_all rfl)
      show Ev _ [(_, _), (_, _), (_, _), (_, .none), (_, _)] _ _ _
      tm_at "kl ev"
    | cons p r =>
      refine Tst.cmp (d := foundD k (p :: r)) (e := .none) ?_ Ev.none CmpIs.notMN (by with_unfolding_all rfl)
      tm_at "kl ev"
  · rintro ⟨r, st, k⟩ ⟨i1, i2, i3, i4⟩ hb
    cases r with
    | nil => cases hb
    | cons p r =>
      have hp : Good p := i2 p (.head _)
      have hrl : r.length ≤ 100 := by simp at i3; omega
      have i2' : ∀ q ∈ r, Good q := fun q hq => i2 q (.tail _ hq)
      have hh' : ((cxR prog w A h X aN cd).with aP).A.handled = none := hh
      have tail : ∀ (L' : List (Str × D)) (v' : Int) (st' : List Int), List.lookup (Str.ofString "seconds") L' = some (.int v') → List.lookup (Str.ofString "pile") L' = some (.cell aP) → List.lookup (Str.ofString "place") L' = some (.int (k : Nat)) → List.lookup (Str.ofString "notes") L' = some (.cell aN) → List.lookup (Str.ofString "text") L' = some (.str (sT (textL (k + 1) r))) →
          mach [ringOf p] st = some (v' :: st') → st'.length ≤ st.length →
          Ex s₀ ((cxR prog w A h X aN cd).with aP) L' [(aP, st'.reverse.map .int), (aN, [])] (loopS.drop 4) (fun f s => f = .next ∧ ∃ st'' : List (Nat × Int) × List Int × Nat, st''.1.length < (p :: r).length ∧ (reck st''.1 st''.2.1 st''.2.2 = reck ws [] 0 ∧ (∀ p ∈ st''.1, Good p) ∧ st''.1.length + st''.2.2 = ws.length ∧ st''.2.1.length ≤ 10 + st''.2.2) ∧ From s₀ s ∧ Sit ((cxR prog w A h X aN cd).with aP) [(Str.ofString "text", .str (sT (textL st''.2.2 st''.1))), (Str.ofString "pile", .cell aP), (Str.ofString "place", .int (st''.2.2 : Nat)), (Str.ofString "found", foundD st''.2.2 st''.1), (Str.ofString "notes", .cell aN)] [(aP, st''.2.1.reverse.map .int), (aN, [])] s.heap) (Raised ws s₀ (cxR prog w A h X aN cd) aN) := by
        intro L' v' st' l1 l2 l3 l4 l5 hmach hstl
        refine Ex.append (i := 0) (a := aP) (d := .int v') rfl (Ev.name l2) (EvL.cons (Ev.name l1) EvL.nil) ?_ ?_ (by rfl) (by rfl) (by rfl) (by rfl) (by rfl) (by kernel_rfl)
        · refine Ex.assign (d := .int ((k + 1 : Nat) : Int)) (Ev.eq (d := .int ((k : Int) + 1)) (Ev.bin (a := .int (k : Nat)) (b := .int 1) (Ev.name l3) Ev.int BinIs.addI) rfl) (.inl (by kernel_rfl)) ?_ (by rfl)
          refine Ex.assign (d := foundD (k + 1) r) ?_ (.inl (by kernel_rfl)) ?_ (by rfl)
          · refine Ev.meth1 (d := .fix (.ref 56)) (d₁ := .str (sT (textL (k + 1) r))) (Ev.glob (by kernel_rfl) B'.g_HEADER_TOKEN_RE (by kernel_rfl)) B'.p_56.ty (Ev.name ?_) (found_con B' (fun _ => Nat.succ_pos k) hrl) plain_pat slot_search type_search (by rfl) (by rfl) (by rfl) (by rfl) (by rfl)
            rw [List.lookup_cons, show (Str.ofString "text" == Str.ofString "place") = false by decide +kernel]
            exact l5
          · refine Ex.nil fun s f S => ⟨rfl, (r, v' :: st', k + 1), by simp, ⟨?_, i2', ?_, ?_⟩, f, ?_⟩
            · rw [← i1]
              show reck r (v' :: st') (k + 1) = reck (p :: r) st k
              rw [reck, hmach]
            · simp at i3 ⊢; omega
            · simp at i4 ⊢; omega
            · have e : (st'.reverse.map D.int ++ [.int v']) = (v' :: st').reverse.map D.int := by simp
              have S' := S
              rw [show ([(aP, st'.reverse.map D.int), (aN, [])] : List (Addr × List D)).set 0 (aP, st'.reverse.map D.int ++ [.int v']) = [(aP, (v' :: st').reverse.map D.int), (aN, [])] by rw [← e]; rfl] at S'
              refine S'.weak ?_
              refine Sub.cons ?_ (Sub.cons ?_ (Sub.cons ?_ (Sub.cons ?_ (Sub.cons ?_ Sub.nil))))
              · rw [List.lookup_cons, show (Str.ofString "text" == Str.ofString "found") = false by decide +kernel, List.lookup_cons, show (Str.ofString "text" == Str.ofString "place") = false by decide +kernel]
                exact l5
              · rw [List.lookup_cons, show (Str.ofString "pile" == Str.ofString "found") = false by decide +kernel, List.lookup_cons, show (Str.ofString "pile" == Str.ofString "place") = false by decide +kernel]
                exact l2
              · tm_at "kl look"
              · tm_at "kl look"
              · rw [List.lookup_cons, show (Str.ofString "notes" == Str.ofString "found") = false by decide +kernel, List.lookup_cons, show (Str.ofString "notes" == Str.ofString "place") = false by decide +kernel]
                exact l4
        · rw [List.length_map, List.length_reverse]; simp at i4 i3; omega
      refine Ex.assign (d := .str (itW p)) ?_ (.inl (by kernel_rfl)) ?_ (by rfl)
      · refine Ev.meth1 (d := foundD k (p :: r)) (d₁ := .int 1) ?_ TyIs.mat Ev.int (word_con hrl) plain_mat slot_group type_group (by rfl) (by rfl) (by rfl) (by rfl) (by rfl)
        tm_at "kl ev"
      refine Ex.assign (d := .str (sT (textL (k + 1) r))) ?_ (.inl (by kernel_rfl)) ?_ (by rfl)
      · refine Ev.callv (d₁ := foundD k (p :: r)) (ds := []) (Ev.glob (by kernel_rfl) B'.g_unmatched (by kernel_rfl)) B'.f_unmatched.fun (by rfl) ?_ EvL.nil (by rfl) (rest_con B' ok2 hrl)
        tm_at "kl ev"
      refine Ex.assign (d := secD p) ?_ (.inl (by kernel_rfl)) ?_ (by rfl)
      · refine Ev.callv (d₁ := .str (itW p)) (ds := []) (Ev.glob (by kernel_rfl) B'.g_offset_from_tz_string (by kernel_rfl)) B'.f_offset_from_tz_string.fun (by rfl) ?_ EvL.nil (by rfl) (sec_con B' ok2 hp)
        tm_at "kl ev"
      cases hrp : ringOf p with
      | num v =>
        have hsec : secD p = .int v := by unfold secD; rw [hrp]
        rw [hsec]
        refine Ex.ite (b := false) (Tst.cmp (d := .int v) (e := .none) ?_ Ev.none CmpIs.isIN (by with_unfolding_all rfl)) (fun h => by cases h) (fun _ => Ex.done ?_)
        · tm_at "kl ev"
        · exact tail _ v st rfl rfl rfl rfl rfl (by rw [hrp]; rfl) (Nat.le_refl _)
      | op j =>
        have hj : j < 6 := ringOf_op hrp
        have hw : itW p = opW j := by
          unfold ringOf at hrp
          unfold itW
          split at hrp
          · cases hrp
          · rename_i h; cases hrp; rw [if_neg h]
        have hsec : secD p = .none := by unfold secD; rw [hrp]
        have hol := opW_len j hj
        rw [hsec]
        refine Ex.ite (b := true) (Tst.cmp (d := .none) (e := .none) ?_ Ev.none CmpIs.isNN (by with_unfolding_all rfl)) (fun _ => ?_) (fun h => by cases h)
        · tm_at "kl ev"
        refine Ex.assign (d := .int (bkI j)) ?_ (.inl (by kernel_rfl)) ?_ (by rfl)
        · refine Ev.eq (d := .int (cost (itW p) (Str.ofString "back"))) (Ev.callv (d₁ := .str (itW p)) (ds := [.str (Str.ofString "back")]) (Ev.glob (by kernel_rfl) B'.g_substitution_cost (by kernel_rfl)) B'.f_substitution_cost.fun (by rfl) ?_ (EvL.cons Ev.str EvL.nil) (by rfl) (cost_c B' ok2 (by rw [hw]; omega) (by decide))) (by rw [hw, cost_back j hj]; rfl)
          tm_at "kl ev"
        refine Ex.assign (d := .int (lsI j)) ?_ (.inl (by kernel_rfl)) ?_ (by rfl)
        · refine Ev.eq (d := .int (cost (Str.ofString "less") (itW p))) (Ev.callv (d₁ := .str (Str.ofString "less")) (ds := [.str (itW p)]) (Ev.glob (by kernel_rfl) B'.g_substitution_cost (by kernel_rfl)) B'.f_substitution_cost.fun (by rfl) Ev.str (EvL.cons ?_ EvL.nil) (by rfl) (cost_c B' ok2 (by decide) (by rw [hw]; omega))) (by rw [hw, cost_less j hj]; rfl)
          tm_at "kl ev"
        have hbk2 : decide (bkI j < 2) = true ↔ j < 2 := by
          unfold bkI
          rw [decide_eq_true_eq]
          split
          · constructor <;> intro _ <;> omega
          · split <;> constructor <;> intro _ <;> omega
        have hlenD : (st.reverse.map D.int).length = st.length := by simp
        have hlen6 : st.length ≤ 1000000 := by simp at i4 i3; omega
        refine Ex.ite (b := decide (((st.reverse.map D.int).length : Int) < ((R.op j).kind : Nat))) (Tst.cmp (d := .int ((st.reverse.map D.int).length : Nat)) (e := .int ((R.op j).kind : Nat)) (Ev.lenOwn (a := aP) (Ev.glob (by kernel_rfl) B'.g_len (by kernel_rfl)) ?_ (.head _) (by rw [hlenD]; exact hlen6) (by rfl)) (Ev.ifx (b := decide (bkI j < 2)) (Tst.cmp (d := .int (bkI j)) (e := .int 2) ?_ Ev.int CmpIs.ltI (by with_unfolding_all rfl)) (fun hb2 => ?_) (fun hb2 => ?_)) CmpIs.ltI (by with_unfolding_all rfl)) (fun hlow => ?_) (fun hlow => Ex.done ?_)
        · tm_at "kl ev"
        · tm_at "kl ev"
        · refine Ev.eq (d := .int 1) Ev.int ?_
          have := hbk2.mp hb2
          simp [R.kind, this]
        · refine Ev.eq (d := .int 2) Ev.int ?_
          have : ¬ j < 2 := fun z => by rw [hbk2.mpr z] at hb2; cases hb2
          simp [R.kind, this]
        · have hlow' : st.length < (R.op j).kind := by
            rw [decide_eq_true_eq, hlenD] at hlow; omega
          have hnl : (cxR prog w A h X aN cd).g.NoLimit := B.nl
          refine Ex.newExc (ci := (st.length : Nat)) (xs := itW p) (pi := (k : Nat)) T.cls T.ini hnl ?_ (Ev.glob (by kernel_rfl) B'.g_SMTPSenderRefused (by kernel_rfl)) (by rfl) (Ev.eq (Ev.lenOwn (a := aP) (Ev.glob (by kernel_rfl) B'.g_len (by kernel_rfl)) ?_ (.head _) (by rw [hlenD]; exact hlen6) (by rfl)) (by rw [hlenD])) (EvL.cons ?_ (EvL.cons ?_ EvL.nil)) (by rfl) (.inl (by kernel_rfl)) (fun e he heX => ?_) (by rfl)
          · have := ok3.depth
            show (cxR prog w A h X aN cd).A.depth + 2 < 1000
            omega
          · tm_at "kl ev"
          · tm_at "kl ev"
          · tm_at "kl ev"
          refine Ex.append (i := 1) (a := aN) (d := .exc (st.length : Nat) (itW p) (k : Nat) (some e)) rfl ?_ (EvL.cons ?_ EvL.nil) ?_ (by decide) (by rfl) (by rfl) (by rfl) (by rfl) (by rfl) (by kernel_rfl)
          · tm_at "kl ev"
          · tm_at "kl ev"
          refine Ex.raise (ci := (st.length : Nat)) (xs := itW p) (pi := (k : Nat)) (e := e) T.cls hh' ?_ (fun s f S rv => ⟨st.length, p, k, e, ?_, rfl, he, fun m => heX (mem_with.mpr (.inr m)), f, ?_, rv.less fun b o m _ => mem_with.mpr (.inr m)⟩)
          · tm_at "kl ev"
          · rw [← i1]
            show reck (p :: r) st k = _
            rw [reck, hrp, mach_low1 hlow']
          · refine (Sit.forget S (.head _) (fun x b e => by cases e) (fun q hq => ?_)).weak fun x d e => by cases e
            rcases List.mem_cons.mp hq with rfl | hq
            · exact .tail _ (.head _)
            · cases hq
        · have hlow' : (R.op j).kind ≤ st.length := by
            rw [decide_eq_false_iff_not, hlenD] at hlow; omega
          by_cases hj2 : j < 2
          · have hk1 : (R.op j).kind = 1 := by simp [R.kind, hj2]
            rw [hk1] at hlow'
            match st, hlow', tail, i4, hlenD with
            | b :: st1, _, tail, i4, _ =>
            have hO : (([(aP, (b :: st1).reverse.map D.int), (aN, [])] : List (Addr × List D)))[0]? = some (aP, st1.reverse.map D.int ++ [.int b]) := by simp
            refine Ex.pop (i := 0) (a := aP) (ds := st1.reverse.map D.int) (d := .int b) hO ?_ (.inl (by kernel_rfl)) ?_ ?_ (by rfl) (by rfl) (by rfl) (by rfl) (by rfl) (by kernel_rfl)
            · tm_at "kl ev"
            · refine Ex.ite (b := decide (bkI j < 2)) (Tst.cmp (d := .int (bkI j)) (e := .int 2) ?_ Ev.int CmpIs.ltI (by with_unfolding_all rfl)) (fun _ => ?_) (fun z => by rw [hbk2.mpr hj2] at z; cases z)
              · tm_at "kl ev"
              refine Ex.assign (d := .int (made j b b)) (Ev.sub (d := .lst [.int (-b), .int (b.natAbs : Nat)]) (e := .int (bkI j)) (Ev.list (EvL.cons ?_ (EvL.cons ?_ EvL.nil)) (Nat.le_of_ble_eq_true rfl)) ?_ ?_ (by intros; rfl)) (.inl (by kernel_rfl)) ?_ (by rfl)
              · tm_at "kl ev"
              · tm_at "kl ev"
              · tm_at "kl ev"
              · have : j = 0 ∨ j = 1 := by omega
                rcases this with rfl | rfl
                · exact ItIs.lst rfl (by decide) (by decide)
                · exact ItIs.lst rfl (by decide) (by decide)
              refine Ex.done (Ex.done ?_)
              refine tail _ (made j b b) st1 rfl rfl rfl rfl rfl (by rw [hrp]; exact mach_one hj2 b st1) (by simp)
            · rw [List.length_map, List.length_reverse]; simp at i4 i3; omega
          · have hk2 : (R.op j).kind = 2 := by simp [R.kind, hj2]
            rw [hk2] at hlow'
            match st, hlow', tail, i4, hlenD with
            | b :: y :: st2, _, tail, i4, _ =>
            have hO : (([(aP, (b :: y :: st2).reverse.map D.int), (aN, [])] : List (Addr × List D)))[0]? = some (aP, (y :: st2).reverse.map D.int ++ [.int b]) := by simp
            refine Ex.pop (i := 0) (a := aP) (ds := (y :: st2).reverse.map D.int) (d := .int b) hO ?_ (.inl (by kernel_rfl)) ?_ ?_ (by rfl) (by rfl) (by rfl) (by rfl) (by rfl) (by kernel_rfl)
            · tm_at "kl ev"
            · refine Ex.ite (b := decide (bkI j < 2)) (Tst.cmp (d := .int (bkI j)) (e := .int 2) ?_ Ev.int CmpIs.ltI (by with_unfolding_all rfl)) (fun z => absurd (hbk2.mp z) hj2) (fun _ => ?_)
              · tm_at "kl ev"
              have hO2 : ((([(aP, (b :: y :: st2).reverse.map D.int), (aN, [])] : List (Addr × List D))).set 0 (aP, (y :: st2).reverse.map D.int))[0]? = some (aP, st2.reverse.map D.int ++ [.int y]) := by simp
              refine Ex.pop (i := 0) (a := aP) (ds := st2.reverse.map D.int) (d := .int y) hO2 ?_ (.inl (by kernel_rfl)) ?_ ?_ (by rfl) (by rfl) (by rfl) (by rfl) (by rfl) (by kernel_rfl)
              · tm_at "kl ev"
              · refine Ex.ite (b := decide (lsI j < 2)) (Tst.cmp (d := .int (lsI j)) (e := .int 2) ?_ Ev.int CmpIs.ltI (by with_unfolding_all rfl)) (fun hl2 => ?_) (fun hl2 => ?_)
                · tm_at "kl ev"
                · have hj3 : j = 2 ∨ j = 3 := by
                    rw [decide_eq_true_eq] at hl2
                    unfold lsI at hl2
                    split at hl2
                    · exact .inl (by assumption)
                    · split at hl2
                      · exact .inr (by assumption)
                      · omega
                  refine Ex.assign (d := .int (made j y b)) (Ev.sub (d := .lst [.int (y - b), .int (b - y)]) (e := .int (lsI j)) (Ev.list (EvL.cons ?_ (EvL.cons ?_ EvL.nil)) (Nat.le_of_ble_eq_true rfl)) ?_ ?_ (by intros; rfl)) (.inl (by kernel_rfl)) ?_ (by rfl)
                  · tm_at "kl ev"
                  · tm_at "kl ev"
                  · tm_at "kl ev"
                  · rcases hj3 with rfl | rfl
                    · exact ItIs.lst rfl (by decide) (by decide)
                    · exact ItIs.lst rfl (by decide) (by decide)
                  refine Ex.done (Ex.done (Ex.done ?_))
                  refine tail _ (made j y b) st2 rfl rfl rfl rfl rfl (by rw [hrp]; exact mach_two hj2 y b st2) (by simp; omega)
                · have hj4 : j = 4 ∨ j = 5 := by
                    rw [decide_eq_false_iff_not] at hl2
                    unfold lsI at hl2
                    split at hl2
                    · omega
                    · split at hl2
                      · omega
                      · omega
                  refine Ex.assign (d := .int (made j y b)) (Ev.sub (d := .lst [.int (max y b), .int (min y b)]) (e := .int (if j = 4 then 0 else 1)) (Ev.list (EvL.cons ?_ (EvL.cons ?_ EvL.nil)) (Nat.le_of_ble_eq_true rfl)) (Ev.eq (d := .int (cost (itW p) (Str.ofString "later"))) (Ev.callv (d₁ := .str (itW p)) (ds := [.str (Str.ofString "later")]) (Ev.glob (by kernel_rfl) B'.g_substitution_cost (by kernel_rfl)) B'.f_substitution_cost.fun (by rfl) ?_ (EvL.cons Ev.str EvL.nil) (by rfl) (cost_c B' ok2 (by rw [hw]; omega) (by decide))) (by rw [hw, cost_later j hj (by omega)])) ?_ (by intros; rfl)) (.inl (by kernel_rfl)) ?_ (by rfl)
                  · exact Ev.callv (d₁ := .int y) (ds := [.int b]) (Ev.glob (by kernel_rfl) B'.g_max (by kernel_rfl)) (.inl ⟨_, rfl⟩) rfl (by tm_at "kl ev") (by tm_at "kl evs") (by rfl) (Con.max2 hh')
                  · exact Ev.callv (d₁ := .int y) (ds := [.int b]) (Ev.glob (by kernel_rfl) B'.g_min (by kernel_rfl)) (.inl ⟨_, rfl⟩) rfl (by tm_at "kl ev") (by tm_at "kl evs") (by rfl) (Con.min2 hh')
                  · tm_at "kl ev"
                  · rcases hj4 with rfl | rfl
                    · exact ItIs.lst rfl (by decide) (by decide)
                    · exact ItIs.lst rfl (by decide) (by decide)
                  refine Ex.done (Ex.done (Ex.done ?_))
                  refine tail _ (made j y b) st2 rfl rfl rfl rfl rfl (by rw [hrp]; exact mach_two hj2 y b st2) (by simp; omega)
              · rw [List.length_map, List.length_reverse]; simp at i4 i3; omega
            · rw [List.length_map, List.length_reverse]; simp at i4 i3 ⊢; omega
  · rintro ⟨r, st, k⟩ ⟨i1, i2, i3, i4⟩ hb
    cases r with
    | cons p r => cases hb
    | nil =>
      have hk : ¬ k = 0 := by simp at i3; omega
      have et : textL k [] = [13, 10] := by unfold textL mailL; rw [if_neg hk]; rfl
      show Ex s₀ _ [(_, .str (sT (textL k []))), (_, _), (_, _), (_, _), (_, _)] _ _ _ _
      rw [et]
      refine Ex.ret (d := .tup [.cell aP, .str (sT [13, 10])]) ?_ fun v s f S rv => ⟨st, v, ?_, rfl, f, ?_, cell_tup S haP rv⟩
      · tm_at "kl ev"
      · rw [← i1]; rfl
      · refine (Sit.forget S (.head _) (fun x b e => by cases e) (fun q hq => ?_)).weak fun x d e => by cases e
        rcases List.mem_cons.mp hq with rfl | hq
        · exact .tail _ (.head _)
        · cases hq
  · rintro e s ⟨n, p, k, a, z1, rfl, z2, z3, z4, S', z5⟩
    have hs : s.heap = s.heap := rfl
    have haS : a ∉ S := fun m => z3 (hS _ m)
    · refine z5.e_exc fun a₁ d o od es m t1 t2 t3 fs n1 n2 e1 e2 e3 hd e4' e5 _ _ _ _ _ ev => ?_
      obtain rfl := Value.ref.inj ev
      have h1 := (e4' _ rfl).2
      refine ns_at S'.ns fun on esn epn hn1 hn2 => ?_
      have hF' : Frames s.heap S ((cxR prog w A h X aN cd).env :: fl) := ⟨(by intro q; cases q), ⟨h.objs.size, on, rfl, hL, hn1, fun vs q => by rw [hn2] at q; cases q⟩, hF.mono fun b o hb _ => ⟨o.slots, S'.keep _ _ hb⟩⟩
      have hfr' : ((cxR prog w A h X aN cd).with aP).A.frames = some ((cxR prog w A h X aN cd).env :: fl) := by
        show (A.frames.map _) = _
        rw [hfr]; rfl
      refine air_first (s := s) hfr' hF' rfl e1 hd h1 haS fun h' air => ?_
      refine air_back (s := { s with heap := h' }) air rfl fun h'' air' => ?_
      rw [e2] at air'
      exact ⟨n, p, k, a, _, s.heap, z1, rfl, z2, z3, z4.trans ⟨_, _, rfl⟩, S', ⟨_, e1, rfl⟩, air'⟩
end
end
section
open PySem PySem.W PyProof.Rows
set_option maxRecDepth 10000
theorem hide_one {h : Heap} {a b : Addr} {o : Obj} (e : h.get? b = some o) (n : b ≠ a) : (hideAll h [a]).get? b = some o := hideAll_get _ e fun m => by
  rcases List.mem_cons.mp m with q | q
  · exact n q
  · cases q
section
variable {prog : Program} {w : World} {A : Around} {X : List Addr} {aN tt : Addr} {ws : List (Nat × Int)} {a b : List Nat} {s : Shared} {SF : List Addr} {fl : List Env}
/-- what is left when the reader has read the mail -/
noncomputable def ReadTo (ws : List (Nat × Int)) (s : Shared) (X : List Addr) (aN : Addr) : Value → Shared → Prop := fun v s' => ∃ st, reck ws [] 0 = .ok st ∧ From s s' ∧ (∀ b o, b ≠ aN → s.heap.get? b = some o → s'.heap.get? b = some o) ∧ (∃ vs n, s'.heap.get? aN = some { cls := .type "list", data := .seq vs n } ∧ RL s'.heap X vs.toList []) ∧ RV s'.heap X v (.tup [.lst (st.reverse.map .int), .str (sT [13, 10])])
/-- what is left when it has raised, and its exception has left its frame -/
noncomputable def ReadNo (ws : List (Nat × Int)) (s : Shared) (X : List Addr) (aN : Addr) (SF : List Addr) : Value → Shared → Prop := fun e s' => ∃ (n : Nat) (p : Nat × Int) (k : Nat) (a : Addr) (d : Option Addr) (hr : Heap), reck ws [] 0 = .error (n, p, k) ∧ e = .ref a ∧ a ∉ s.heap.objs.size :: SF ∧ s.heap.get? a = none ∧ From s s' ∧
  (∀ b o, b ≠ aN → s.heap.get? b = some o → hr.get? b = some o) ∧ (∃ vs m, hr.get? aN = some { cls := .type "list", data := .seq vs m } ∧ RL hr (s.heap.objs.size :: X) vs.toList [.exc (n : Nat) (itW p) (k : Nat) (some a)]) ∧ (∃ o, hr.get? a = some o ∧ o.dict = d) ∧ Air (s.heap.objs.size :: SF) hr a (.ref 115) d .none s'.heap
theorem ReadNo.elim {P : Prop} {e : Value} {s' : Shared} (h : ReadNo ws s X aN SF e s') (K : ∀ (n : Nat) (p : Nat × Int) (k : Nat) (a : Addr) (d : Option Addr) (hr : Heap) (vs : Array Value) (m : Nat) (o : Obj), reck ws [] 0 = .error (n, p, k) → e = .ref a → a ∉ s.heap.objs.size :: SF → s.heap.get? a = none → From s s' →
  (∀ b o, b ≠ aN → s.heap.get? b = some o → hr.get? b = some o) → hr.get? aN = some { cls := .type "list", data := .seq vs m } → RL hr (s.heap.objs.size :: X) vs.toList [.exc (n : Nat) (itW p) (k : Nat) (some a)] → hr.get? a = some o → o.dict = d → Air (s.heap.objs.size :: SF) hr a (.ref 115) d .none s'.heap → P) : P := by
  obtain ⟨n, p, k, a, d, hr, z1, z2, z3, z4, z5, z6, ⟨vs, m, z7, z8⟩, ⟨o, z9, z10⟩, air⟩ := h
  exact K n p k a d hr vs m o z1 z2 z3 z4 z5 z6 z7 z8 z9 z10 air
theorem ReadTo.elim {P : Prop} {v : Value} {s' : Shared} (h : ReadTo ws s X aN v s') (K : ∀ st vs n, reck ws [] 0 = .ok st → From s s' → (∀ b o, b ≠ aN → s.heap.get? b = some o → s'.heap.get? b = some o) → s'.heap.get? aN = some { cls := .type "list", data := .seq vs n } → RL s'.heap X vs.toList [] → RV s'.heap X v (.tup [.lst (st.reverse.map .int), .str (sT [13, 10])]) → P) : P := by
  obtain ⟨st, z1, z2, z3, ⟨vs, n, z4, z5⟩, z6⟩ := h
  exact K st vs n z1 z2 z3 z4 z5 z6
theorem reckon_run (T : Top prog w s.heap) (hT : Top prog w (hideAll s.heap [aN])) (ok : Ok 4 A) (hws : ∀ p ∈ ws, Good p) (h0 : 0 < ws.length) (h6 : ws.length ≤ 6) (hm : mailL ws = a ++ b) (ha : ∀ c ∈ a, c ≠ 92)
    (hfr : A.frames = some fl) (hF : Frames (hideAll s.heap [aN]) (s.heap.objs.size :: SF) fl) (hSF : ∀ x ∈ SF, x ∈ X) (haN : aN ∈ X) (hN : ∃ n, s.heap.get? aN = some { cls := .type "list", data := .seq #[] n }) (wf : ∀ x ∈ X, ∃ o, s.heap.get? x = some o)
    (hr : RV s.heap X (.ref tt) (.tup [.str (sT (a ++ 92 :: 61 :: b)), .cell aN])) :
    wpAny (model prog w) A (call (.ref 163) [.ref tt]) (ReadTo ws s X aN) (ReadNo ws s X aN SF) s := by
  obtain ⟨o, pm, cd, doc, ho, hd, hrec⟩ := T.b.f_law_reckon
  obtain ⟨nN, hN⟩ := hN
  have hLX : s.heap.objs.size ∉ X := fun m => by obtain ⟨o, e⟩ := wf _ m; exact absurd (Heap.lt_size e) (Nat.lt_irrefl _)
  have hLN : s.heap.objs.size ≠ aN := fun q => hLX (q ▸ haN)
  refine wpAny_call (codeAny_call_plain ok.room ho hd T.b.nl hrec rfl (binds := [(Str.ofString "pair", .ref tt)]) (by rfl) (show ∀ x ∈ (scopeOf (row 24)).names, x.2 ≠ .cell by decide +kernel) ?_ ?_ (by kernel_rfl) (by kernel_rfl) (by kernel_rfl))
  · intro x hx
    rcases List.mem_cons.mp hx with rfl | hx
    · kernel_rfl
    · cases hx
  intro h₀ hns hk
  have wf₀ : ∀ x ∈ X, ∃ o, h₀.get? x = some o := fun x m => let ⟨o, e⟩ := wf x m; ⟨o, hk _ _ e⟩
  have S : Sit (cxR prog w A s.heap X aN cd) [(Str.ofString "pair", .tup [.str (sT (a ++ 92 :: 61 :: b)), .cell aN])] [(aN, [])] h₀ := {
    keep := fun b o e => hk _ _ (of_hideAll _ e)
    kind := by kernel_rfl
    gl := rfl, bl := rfl
    ns := ⟨_, hns⟩
    wf := fun x m => by
      rcases List.mem_cons.mp m with rfl | m
      · obtain ⟨o, _, _, e, _⟩ := hns; exact ⟨o, e⟩
      · rcases List.mem_cons.mp m with rfl | m
        · exact ⟨_, hk _ _ hN⟩
        · exact wf₀ x m
    new := fun x m => by
      rcases List.mem_cons.mp m with rfl | m
      · cases q : (hideAll s.heap [aN]).get? s.heap.objs.size with
        | none => rfl
        | some o => exact absurd (Heap.lt_size (of_hideAll _ q)) (Nat.lt_irrefl _)
      · rcases List.mem_cons.mp m with rfl | m
        · exact hideAll_none _ (.head _)
        · cases m
    wl := .head _
    wc := fun x a e => by cases e
    inj := fun x y a e => by cases e
    nd := by simp
    own := fun p hp => by
      rcases List.mem_cons.mp hp with rfl | hp
      · exact ⟨.tail _ (.head _), #[], nN, hk _ _ hN, .nil⟩
      · cases hp
    names := names_cons (.inl ⟨by kernel_rfl, _, _, hns, rfl, (hr.less fun y o m e => (List.mem_cons.mp m).elim (fun q => absurd (Heap.lt_size (q ▸ e)) (Nat.lt_irrefl _)) fun m => (List.mem_cons.mp m).elim (fun q => q ▸ haN) id).keep hk⟩) names_nil }
  have hS : ∀ x ∈ s.heap.objs.size :: SF, x ∈ (cxR prog w A s.heap X aN cd).X := fun x m => by
    rcases List.mem_cons.mp m with rfl | m
    · exact .head _
    · exact .tail _ (.tail _ (hSF x m))
  have run := (reckon_body (s₀ := s) (cd := cd) (X := X) hT ok hws h0 h6 hm ha hfr hF (.head _) hS).run { s with heap := h₀, toks := s.toks + 1 } ⟨_, _, rfl⟩ S
  refine wpAny_mono run (fun f s' z => ?_) (fun e s' z => ?_)
  · obtain ⟨st, v, z1, rfl, z2, z3, z4⟩ := z
    refine z3.own_at (.head _) fun vs n _ z5 z6 => ?_
    have less : ∀ {y : Addr} {o : Obj}, y ∈ X → s'.heap.get? y = some o → y ∈ (cxR prog w A s.heap X aN cd).X := fun m _ => .tail _ (.tail _ m)
    exact ⟨st, z1, z2, fun b o hb e => z3.keep _ _ (hide_one e hb), ⟨vs, n, z5, z6.less fun y o m e => less m e⟩, z4.less fun y o m e => less m e⟩
  · obtain ⟨n, p, k, a', d, hr', z1, rfl, z2, z3, z4, z5, zd, z6⟩ := z
    refine z5.own_at (.head _) fun vs m _ z7 z8 => ?_
    have less : ∀ {y : Addr} {o : Obj}, y ∈ s.heap.objs.size :: X → hr'.get? y = some o → y ∈ (cxR prog w A s.heap X aN cd).X := fun m _ => by
      rcases List.mem_cons.mp m with rfl | m
      · exact .head _
      · exact .tail _ (.tail _ m)
    have haS : a' ∉ s.heap.objs.size :: SF := fun m => z3 (hS _ m)
    have hnew : s.heap.get? a' = none := by
      cases q : s.heap.get? a' with
      | none => rfl
      | some o => rw [hide_one q fun q => z3 (q ▸ .tail _ (.head _))] at z2; cases z2
    refine air_leave z6 rfl fun h' air => ?_
    exact ⟨n, p, k, a', d, hr', z1, rfl, haS, hnew, z4.trans ⟨_, _, rfl⟩, fun b o hb e => z5.keep _ _ (hide_one e hb), ⟨vs, m, z7, z8.less fun y o m e => less m e⟩, zd, air⟩
end
end
section
open PySem PySem.W PyProof.Rows
set_option maxRecDepth 10000
section
variable {c : Cx} {L : List (Str × D)} {O : List (Addr × List D)} {h h' : Heap} {ds ds' : List D} {aN : Addr}
/-- a frame seen again: its own slots and one of its lists have turned -/
theorem Sit.back (S : Sit c L ((aN, ds) :: O) h) (k : ∀ b o, h.get? b = some o → b ≠ aN → b ≠ c.env.locals → h'.get? b = some o) (ks : ∀ o, h.get? c.env.locals = some o → ∃ sl, h'.get? c.env.locals = some { o with slots := sl })
    {vs : Array Value} {n : Nat} (ha : h'.get? aN = some { cls := .type "list", data := .seq vs n }) (r : RL h' c.X vs.toList ds') : Sit c L ((aN, ds') :: O) h' := by
  obtain ⟨hW, vs₀, n₀, hold, _⟩ := S.own _ (.head _)
  have hW' : aN ∈ c.W := hW
  obtain ⟨m, hns⟩ := S.ns
  have noL : aN ≠ c.env.locals := by
    rintro rfl
    obtain ⟨o', es, ep, ho', hd', _⟩ := hns
    rw [hold] at ho'; cases ho'; cases hd'
  have hnsAll : ∀ {m'}, h.Ns c.env.locals m' → h'.Ns c.env.locals m' := fun {m'} ⟨o, es, ep, ho, hd, q⟩ => by
    obtain ⟨sl, e⟩ := ks o ho
    exact ⟨_, es, ep, e, hd, q⟩
  have cellK : ∀ x b, c.env.cells.lookup x = some b → ∀ o, h.get? b = some o → (∃ v, h.IsCell b v) → h'.get? b = some o := fun x b e o ho hv => by
    obtain ⟨v, o', ho', hd⟩ := hv
    refine k b o ho (fun q => ?_) fun q => ?_
    · subst q; rw [hold] at ho'; cases ho'; cases hd
    · subst q
      obtain ⟨o2, es, ep, ho2, hd2, _⟩ := hns
      rw [ho'] at ho2; cases ho2; rw [hd] at hd2; cases hd2
  have st : Stay c.X h h' := fun b o hb e => k b o e (fun q => hb (q ▸ List.mem_append_left _ hW')) fun q => hb (q ▸ List.mem_append_left _ S.wl)
  exact { keep := fun b o e => k b o (S.keep _ _ e) (fun q => by subst q; have := S.new _ hW'; rw [show c.g.get? _ = some o from e] at this; cases this) (fun q => by have := S.new _ S.wl; rw [← q, show c.g.get? b = some o from e] at this; cases this)
          kind := S.kind, gl := S.gl, bl := S.bl, ns := ⟨m, hnsAll hns⟩
          wf := fun b m => by
            by_cases h1 : b = aN
            · subst h1; exact ⟨_, ha⟩
            · obtain ⟨o, ho⟩ := S.wf b m
              by_cases h2 : b = c.env.locals
              · subst h2; obtain ⟨sl, e⟩ := ks o ho; exact ⟨_, e⟩
              · exact ⟨o, k b o ho h1 h2⟩
          new := S.new, wl := S.wl, inj := S.inj
          wc := fun x b e => let ⟨p, v, o, ho, hd⟩ := S.wc x b e; ⟨p, v, o, cellK x b e o ho ⟨v, o, ho, hd⟩, hd⟩
          names := fun x d e => by
            rcases S.names x d e with ⟨p, m', v, b, q, r⟩ | ⟨p, q, v, b, ⟨o, ho, hd⟩, r⟩
            · exact .inl ⟨p, m', v, hnsAll b, q, r.stay st⟩
            · exact .inr ⟨p, q, v, b, ⟨o, cellK x q b o ho ⟨_, o, ho, hd⟩, hd⟩, r.stay st⟩
          nd := S.nd
          own := fun p hp => by
            rcases List.mem_cons.mp hp with rfl | hp
            · exact ⟨hW, vs, n, ha, r⟩
            · obtain ⟨p1, i, mm, e, q⟩ := S.own p (.tail _ hp)
              refine ⟨p1, i, mm, k _ _ e (fun z => ?_) (fun z => ?_), q.stay st⟩
              · have := List.nodup_cons.mp S.nd
                exact this.1 (List.mem_map.mpr ⟨p, hp, z⟩)
              · obtain ⟨o2, es, ep, ho2, hd2, _⟩ := hns
                rw [← z, e] at ho2; cases ho2; cases hd2 }
end
/-- the text that a failed call leaves -/
noncomputable def failS : Str := Str.ofString "<mail _law_reckon() failed>"
theorem fail_is : Str.empty ++ Str.ofString "<" ++ Str.ofString "mail" ++ Str.ofString " " ++ Str.ofString "_law_reckon" ++ Str.ofString "() failed>" = failS := by decide +kernel
/-- the frame of _safe_string -/
@[reducible] noncomputable def cxS (c : Cx) (h : Heap) (cd : Value) (A : Around) : Cx :=
  { prog := c.prog, w := c.w, A, g := hideAll h c.W, W := [h.objs.size], V := c.X, env := envOf (Str.ofString "_safe_string") (scopeOf (row 16)) h.objs.size 132 cd }
/-- what _safe_string has told -/
noncomputable def SafePost (c : Cx) (L : List (Str × D)) (O : List (Addr × List D)) (s : Shared) (aN : Addr) (ws : List (Nat × Int)) (v : Value) (s' : Shared) : Prop := From s s' ∧
      ((∃ st, reck ws [] 0 = .ok st ∧ RV s'.heap c.X v (.tup [.lst (st.reverse.map .int), .str (sT [13, 10])]) ∧ Sit c L ((aN, []) :: O) s'.heap) ∨
       (∃ (n : Nat) (p : Nat × Int) (k : Nat), reck ws [] 0 = .error (n, p, k) ∧ RV s'.heap c.X v (.str failS) ∧ Sit c L ((aN, [.exc (n : Nat) (itW p) (k : Nat) none]) :: O) s'.heap))
section
variable {c : Cx} {L : List (Str × D)} {O : List (Addr × List D)} {s : Shared} {aN tt : Addr} {ws : List (Nat × Int)} {a b : List Nat} {t : Tok} {E : Value → Shared → Prop}
/-- the exception, seen after its flight -/
theorem exc_landed {hr h : Heap} {W W' SF : List Addr} {a : Addr} {d : Option Addr} {v : Value} {k p : Int} {x : Str} {oa : Obj} (r : RV hr W v (.exc k x p (some a))) (sub : ∀ b ∈ W', b ∈ W) (za : hr.get? a = some oa) (zd : oa.dict = d) (air : Air SF hr a (.ref 115) d .none h) (hs : ∀ b ∈ SF, b ∈ W) : RV h W' v (.exc k x p none) := by
  refine r.e_exc fun b dx o od es n t₁ t₂ t₃ fs n1 n2 e1 e2 e3 f1 f2 e5 e6 e7 e8 e9 e10 ev => ?_
  subst ev
  obtain ⟨rfl, _⟩ := f2 _ rfl
  rw [e1] at za; cases za
  obtain ⟨oe, vs', T', oT, ts, g1, g2, g3, g4, _⟩ := air.there
  have hdx : dx ≠ a := fun q => by rw [q, e1] at e5; cases e5; rw [f1] at e6; cases e6
  exact .exc (fun m => n1 (sub _ m)) (fun m => n2 (sub _ m)) g1 g2 (by rw [g3, ← zd, e3]) ⟨vs', g4, fun r q => absurd q.symm (Option.some_ne_none _)⟩ (air.keep _ _ e5 (fun m => n2 (hs _ m)) hdx) e6 e7 e8 e9 e10
theorem safe_run (S : Sit c L ((aN, []) :: O) s.heap) (T : Top c.prog c.w c.g) (ok : Ok 5 c.A) (hfr : c.A.frames = some [c.env]) (hfl : c.env.frame = some c.env.locals) (hws : ∀ p ∈ ws, Good p) (h0 : 0 < ws.length) (h6 : ws.length ≤ 6) (hm : mailL ws = a ++ b) (ha : ∀ c ∈ a, c ≠ 92)
    (hr : RV s.heap c.X (.ref tt) (.tup [.str (sT (a ++ 92 :: 61 :: b)), .cell aN])) :
    wpAny (model c.prog c.w) c.A (call (.ref 132) [.ref tt, .str (Str.ofString "mail") t, .ref 163]) (SafePost c L O s aN ws) E s := by
  have T₀ := T.keep S.keep
  have Th : Top c.prog c.w (hideAll s.heap c.W) := T.keep (since_keeps S)
  obtain ⟨⟨o, pm, cd, doc, ho, hd, hrec⟩, od, nd, hod, hdd⟩ := T₀.sf
  have haW' : aN ∈ c.W := (S.own _ (.head _)).1
  have haX : aN ∈ c.X := List.mem_append_left _ haW'
  have hLX : s.heap.objs.size ∉ c.X := fun m => by obtain ⟨o, e⟩ := S.wf _ m; exact absurd (Heap.lt_size e) (Nat.lt_irrefl _)
  refine wpAny_call (codeAny_call_def (fd := safeFd pm cd doc) ok.room ho hd T₀.b.nl hrec rfl (safe_bind pm cd doc _ _ _ hod hdd) (show ∀ x ∈ (scopeOf (row 16)).names, x.2 ≠ .cell by decide +kernel) ?_ ?_ (by kernel_rfl) (by kernel_rfl) (by kernel_rfl))
  · exact fun x hx => (List.mem_cons.mp hx).elim (· ▸ by kernel_rfl) fun hx => (List.mem_cons.mp hx).elim (· ▸ by kernel_rfl) fun hx => (List.mem_singleton.mp hx) ▸ by kernel_rfl
  intro h₀ hns hk
  have S₀ : Sit c L ((aN, []) :: O) h₀ := S.grow hk
  have SS : Sit (cxS c s.heap cd (c.A.deeper (envOf (Str.ofString "_safe_string") (scopeOf (row 16)) s.heap.objs.size 132 cd))) [(Str.ofString "value", .tup [.str (sT (a ++ 92 :: 61 :: b)), .cell aN]), (Str.ofString "func", .fix (.ref 163)), (Str.ofString "what", .str (Str.ofString "mail"))] [] h₀ := {
    keep := fun b o e => hk _ _ (of_hideAll _ e)
    kind := by kernel_rfl
    gl := rfl, bl := rfl
    ns := ⟨_, hns⟩
    wf := fun x m => by
      rcases List.mem_cons.mp m with rfl | m
      · obtain ⟨o, _, _, e, _⟩ := hns; exact ⟨o, e⟩
      · exact S₀.wf x m
    new := fun x m => by
      rcases List.mem_cons.mp m with rfl | m
      · cases q : (hideAll s.heap c.W).get? s.heap.objs.size with
        | none => rfl
        | some o => exact absurd (Heap.lt_size (of_hideAll _ q)) (Nat.lt_irrefl _)
      · cases m
    wl := .head _
    wc := fun x a e => by cases e
    inj := fun x y a e => by cases e
    nd := List.nodup_nil
    own := fun p hp => by cases hp
    names := names_cons (.inl ⟨by kernel_rfl, _, _, hns, rfl, (hr.less fun y o m e => (List.mem_cons.mp m).elim (fun q => absurd (Heap.lt_size (q ▸ e)) (Nat.lt_irrefl _)) id).keep hk⟩) (names_cons (.inl ⟨by kernel_rfl, _, _, hns, rfl, .fix _⟩) (names_cons (.inl ⟨by kernel_rfl, _, _, hns, rfl, .str _ _⟩) names_nil)) }
  refine wpAny_mono (Q := fun f s' => ∃ v, f = .ret v ∧ SafePost c L O s aN ws v s') (E := fun _ _ => False) ?_ (fun f s' z => by obtain ⟨v, rfl, z⟩ := z; exact z) (fun _ _ z => z.elim)
  have okS : Ok 4 (c.A.deeper (envOf (Str.ofString "_safe_string") (scopeOf (row 16)) s.heap.objs.size 132 cd)) := Ok.deeper (n := 4) ok
  show wpAny (model c.prog c.w) (c.A.deeper (envOf (Str.ofString "_safe_string") (scopeOf (row 16)) s.heap.objs.size 132 cd)) (execs (bodyOf (row 16)) (envOf (Str.ofString "_safe_string") (scopeOf (row 16)) s.heap.objs.size 132 cd)) _ _ _
  have hfn : Fun (hideAll s.heap c.W) (.ref 163) := Th.b.f_law_reckon.fun
  have hfr' : (c.A.deeper (envOf (Str.ofString "_safe_string") (scopeOf (row 16)) s.heap.objs.size 132 cd)).frames = some [envOf (Str.ofString "_safe_string") (scopeOf (row 16)) s.heap.objs.size 132 cd, c.env] := by
    show c.A.frames.map _ = _
    rw [hfr]; rfl
  refine wpAny_execs_cons (wpAny_Try_except ?_)
  refine wpAny_execs_cons (wpAny_Return_some ?_)
  refine callv_gen (c := cxS c s.heap cd (c.A.deeper (envOf (Str.ofString "_safe_string") (scopeOf (row 16)) s.heap.objs.size 132 cd))) (s := { s with heap := h₀, toks := _ }) SS (f := .ref 163) (Ev.name rfl) hfn (by rfl) (Ev.name (d := .tup [.str (sT (a ++ 92 :: 61 :: b)), .cell aN]) rfl) EvL.nil (by rfl) fun s₂ vs k₂ S₂ r₂ => ?_
  have all₂ : ∀ b o, s.heap.get? b = some o → s₂.heap.get? b = some o := fun b o e => k₂.keep _ _ (hk _ _ e)
  have C₂ : Sit c L ((aN, []) :: O) s₂.heap := S.grow all₂
  have T₂ : Top c.prog c.w s₂.heap := T₀.keep all₂
  have hgN : c.g.get? aN = none := S.new _ haW'
  have hT₂ : Top c.prog c.w (hideAll s₂.heap [aN]) := T.keep fun b o e => hide_one (all₂ _ _ (S.keep _ _ e)) fun q => by rw [q, hgN] at e; cases e
  refine C₂.own_at (.head _) fun vN' nN' _ hN' rN' => ?_
  have hvN : vN' = #[] := by
    have hl := rN'.length
    exact Array.eq_empty_of_size_eq_zero (by simpa using hl)
  subst hvN
  refine ns_at S₂.ns fun oS esS epS hoS hdS => ns_at C₂.ns fun oL esL epL hoL hdL => ?_
  have lN : c.env.locals ≠ aN := fun q => by rw [q, hN'] at hoL; cases hoL; cases hdL
  have sN : s.heap.objs.size ≠ aN := fun q => hLX (q ▸ haX)
  have hF : Frames (hideAll s₂.heap [aN]) (s₂.heap.objs.size :: [s.heap.objs.size, c.env.locals]) [envOf (Str.ofString "_safe_string") (scopeOf (row 16)) s.heap.objs.size 132 cd, c.env] :=
    ⟨(by intro q; cases q), ⟨s.heap.objs.size, oS, rfl, .tail _ (.head _), hide_one hoS sN, fun vs q => by rw [hdS] at q; cases q⟩,
      (by rw [S.kind]; intro q; cases q), ⟨c.env.locals, oL, hfl, .tail _ (.tail _ (.head _)), hide_one hoL lN, fun vs q => by rw [hdL] at q; cases q⟩, trivial⟩
  have hSF : ∀ x ∈ [s.heap.objs.size, c.env.locals], x ∈ s.heap.objs.size :: c.X := fun x m => by
    rcases List.mem_cons.mp m with rfl | m
    · exact .head _
    · rcases List.mem_cons.mp m with rfl | m
      · exact .tail _ (List.mem_append_left _ S.wl)
      · cases m
  cases r₂ using RL.e_cons with
  | cons q₂ r₂ =>
    cases r₂ using RL.e_nil
    rename_i v₂
    obtain ⟨t₂, rfl⟩ : ∃ t₂, v₂ = .ref t₂ := by cases q₂ using RV.e_tup with | tup _ _ _ => exact ⟨_, rfl⟩
    refine wpAny_mono (reckon_run (s := s₂) (X := s.heap.objs.size :: c.X) (SF := [s.heap.objs.size, c.env.locals]) T₂ hT₂ okS hws h0 h6 hm ha hfr' hF hSF (.tail _ haX) ⟨nN', hN'⟩ S₂.wf q₂) (fun v s₃ z => ?_) (fun e s₃ z => ?_)
    · refine z.elim fun st vs n z1 z2 z3 z4 z5 z6 => ?_
      have less : ∀ {h : Heap} {y : Addr} {o : Obj}, y ∈ c.X → h.get? y = some o → y ∈ s.heap.objs.size :: c.X := fun m _ => .tail _ m
      refine ⟨v, rfl, (From.trans ⟨h₀, _, rfl⟩ k₂.from).trans z2, .inl ⟨st, z1, z6.less fun y o m e => less m e, ?_⟩⟩
      exact C₂.back (fun b o e n _ => z3 b o n e) (fun o e => ⟨o.slots, z3 _ _ lN e⟩) z4 (z5.less fun y o m e => less m e)
    · refine z.elim fun n p k a' d hr' vs m oa z1 ze haS z2 z3 z4 z5 z6 za zd air => ?_
      subst ze
      have hF' : Frames hr' (s₂.heap.objs.size :: [s.heap.objs.size, c.env.locals]) [envOf (Str.ofString "_safe_string") (scopeOf (row 16)) s.heap.objs.size 132 cd, c.env] := hF.mono fun b o e _ => ⟨o.slots, z4 b o (fun q => by rw [q, hideAll_none _ (.head _)] at e; cases e) (of_hideAll _ e)⟩
      refine air_next air hfr' hF' rfl haS fun h₄ air₄ => ?_
      refine air_set (s := { s₃ with heap := h₄ }) (x := none) air₄ fun h₅ air₅ => ?_
      refine handleBy_bare (by intro q; cases q) ?_
      refine air_set (s := { s₃ with heap := h₅ }) (x := none) air₅ fun h₆ air₆ => ?_
      have air₆ : Air (s₂.heap.objs.size :: [s.heap.objs.size, c.env.locals]) hr' a' (.ref 115) d .none h₆ := air₆
      have three : ∀ {b x y z : Addr}, b ≠ x → b ≠ y → b ≠ z → b ∉ [x, y, z] := fun n1 n2 n3 m => (List.mem_cons.mp m).elim n1 fun m => (List.mem_cons.mp m).elim n2 fun m => n3 (List.mem_singleton.mp m)
      have aliveL : ∀ {b : Addr} {o : Obj}, s.heap.get? b = some o → b ≠ s.heap.objs.size := fun e q => absurd (Heap.lt_size e) (by rw [q]; exact Nat.lt_irrefl _)
      have aliveR : ∀ {b : Addr} {o : Obj}, s₂.heap.get? b = some o → b ≠ s₂.heap.objs.size := fun e q => absurd (Heap.lt_size e) (by rw [q]; exact Nat.lt_irrefl _)
      have old₆ : ∀ b o, s.heap.get? b = some o → b ≠ aN → b ≠ c.env.locals → h₆.get? b = some o := fun b o e n1 n2 => by
        have e₂ := all₂ _ _ e
        exact air₆.keep _ _ (z4 _ _ n1 e₂) (three (aliveR e₂) (aliveL e) n2) fun q => not_none (q ▸ z2) e₂
      have up : ∀ b, b = s.heap.objs.size ∨ b = c.env.locals → ∀ o, s₂.heap.get? b = some o → b ≠ aN → ∃ sl, h₆.get? b = some { o with slots := sl } := fun b hb o e n => air₆.slots b o (z4 _ _ n e) (by rcases hb with rfl | rfl <;> simp)
      have nsUp : ∀ {m' : Str → Option Value}, s₂.heap.Ns s.heap.objs.size m' → h₆.Ns s.heap.objs.size m' := fun ⟨o, es, ep, e, hd, q⟩ => by
        obtain ⟨sl, e'⟩ := up _ (.inl rfl) o e sN
        exact ⟨_, es, ep, e', hd, q⟩
      have haN₆ : h₆.get? aN = some { cls := .type "list", data := .seq vs m } := air₆.keep _ _ z5 (three (aliveR hN') sN.symm lN.symm) fun q => not_none (q ▸ z2) hN'
      have upN : ∀ {x : Str} {d : D} {env env' : Env} {X Y : List Addr}, NameIs env X s₂.heap x d → env.locals = s.heap.objs.size → env.cells = [] → (env'.kindOf x = env.kindOf x) → env'.locals = s.heap.objs.size → (∀ {v}, RV s₂.heap X v d → RV h₆ Y v d) → NameIs env' Y h₆ x d := fun n e1 e2 e3 e4 f => by
        rcases n with ⟨p1, m', v, b1, q1, r1⟩ | ⟨_, q, _, b1, _⟩
        · exact .inl ⟨e3.trans p1, m', v, e4.symm ▸ nsUp (e1 ▸ b1), q1, f r1⟩
        · rw [e2] at b1; exact absurd b1 (Option.some_ne_none _).symm
      have SM : Sit (cxS c s.heap cd ((c.A.deeper (envOf (Str.ofString "_safe_string") (scopeOf (row 16)) s.heap.objs.size 132 cd)).mark (some (.ref a')))) [(Str.ofString "func", .fix (.ref 163)), (Str.ofString "what", .str (Str.ofString "mail"))] [] h₆ := {
        keep := fun b o e => by
          have e' := of_hideAll _ e
          refine old₆ b o e' (fun q => ?_) fun q => ?_
          · rw [q, show (hideAll s.heap c.W).get? aN = none from hideAll_none _ haW'] at e; cases e
          · rw [q, show (hideAll s.heap c.W).get? c.env.locals = none from hideAll_none _ S.wl] at e; cases e
        kind := by kernel_rfl
        gl := rfl, bl := rfl
        ns := let ⟨_, hm⟩ := S₂.ns; ⟨_, nsUp hm⟩
        wf := fun x mm => by
          rcases List.mem_cons.mp mm with rfl | mm
          · obtain ⟨sl, e⟩ := up _ (.inl rfl) oS hoS sN; exact ⟨_, e⟩
          · obtain ⟨o, e⟩ := S.wf x mm
            by_cases n1 : x = aN
            · subst n1; exact ⟨_, haN₆⟩
            · by_cases n2 : x = c.env.locals
              · subst n2; obtain ⟨sl, e⟩ := up _ (.inr rfl) oL hoL lN; exact ⟨_, e⟩
              · exact ⟨_, old₆ _ _ e n1 n2⟩
        new := S₂.new
        wl := .head _
        wc := fun x a e => by cases e
        inj := fun x y a e => by cases e
        nd := List.nodup_nil
        own := fun p hp => by cases hp
        names := names_cons (upN (S₂.names (Str.ofString "func") _ rfl) rfl rfl rfl rfl fun r => by cases r using RV.e_fix; exact .fix _) (names_cons (upN (S₂.names (Str.ofString "what") _ rfl) rfl rfl rfl rfl fun r => by cases r using RV.e_str; exact .str _ _) names_nil) }
      refine Th.reck_def fun oF pmF cdF docF hoF hcF hdF => ?_
      refine wpAny_execs_cons (wpAny_Return_some (wpAny_mono ((Ev.joined5 (x1 := Str.ofString "<") (x2 := Str.ofString "mail") (x3 := Str.ofString " ") (x4 := Str.ofString "_law_reckon") (x5 := Str.ofString "() failed>") Ev.str (Ev.fmt (Ev.name rfl) (by decide)) Ev.str (Ev.fmt (Ev.fnName (Ev.name rfl) hoF hcF hdF (by decide : (Str.ofString "_law_reckon").length ≤ sizeLine)) (by decide)) Ev.str (by rw [fail_is]; decide)).run { s₃ with heap := h₆ } _ SM) (fun v s₇ z₇ => ?_) fun _ _ e => e))
      obtain ⟨k₇, r₇⟩ := z₇
      rw [fail_is] at r₇
      have rE : RL h₆ c.X vs.toList [.exc (n : Nat) (itW p) (k : Nat) none] := by
        obtain ⟨l⟩ := vs
        cases z6 using RL.e_cons with
        | cons r1 z6 =>
          cases z6 using RL.e_nil
          exact .one (exc_landed r1 (fun b m => .tail _ (.tail _ m)) za zd air₆ fun b m => (List.mem_cons.mp m).elim (· ▸ .head _) fun m => (List.mem_cons.mp m).elim (· ▸ .tail _ (.head _)) fun m => List.mem_singleton.mp m ▸ .tail _ (.tail _ (List.mem_append_left _ S.wl)))
      refine ⟨v, rfl, ((From.trans ⟨h₀, _, rfl⟩ k₂.from).trans z3).trans (From.trans ⟨h₆, _, rfl⟩ k₇.from), .inr ⟨n, p, k, z1, r₇.less fun y o mm e => .tail _ mm, ?_⟩⟩
      refine Sit.grow ?_ k₇.keep
      refine S.back old₆ (fun o e => ?_) haN₆ rE
      exact up _ (.inr rfl) o (all₂ _ _ e) lN
end
end
section
open PySem PySem.W PyProof.Rows
set_option maxRecDepth 10000
/-- turned from s on -/
noncomputable def rot {α : Type} (s : Nat) (l : List α) : List α := l.drop s ++ l.take s
theorem rot_len {α : Type} (s : Nat) (l : List α) : (rot s l).length = l.length := by simp [rot]; omega
theorem rot_map {α β : Type} (f : α → β) (s : Nat) (l : List α) : rot s (l.map f) = (rot s l).map f := by simp [rot]
theorem rot_mem {α : Type} {s : Nat} {l : List α} {x : α} (h : x ∈ rot s l) : x ∈ l := by
  unfold rot at h
  rcases List.mem_append.mp h with h | h
  · exact List.mem_of_mem_drop h
  · exact List.mem_of_mem_take h
/-- the heights -/
noncomputable def Hh (rw_ : List (Nat × Int)) (i : Nat) : Int := high (((rw_ ++ rw_).map ringOf).take i)
theorem high_cons (r : R) (l : List R) : high (r :: l) = 1 - (r.kind : Int) + high l := by simp [high]
theorem itK_is {p : Nat × Int} (h : p.1 < 6) : itK p = ((ringOf p).kind : Nat) := by
  have := lastD_is h
  unfold itK ringOf
  by_cases h3 : p.1 < 3
  · simp only [if_pos h3]; rfl
  · have hop : opI p.1 p.2 < 2 ↔ p.1 = 3 := by
      unfold opI
      constructor
      · intro h; apply Classical.byContradiction; intro n
        rw [if_neg n] at h
        split at h <;> omega
      · intro h; rw [if_pos h]; split <;> omega
    rw [if_neg h3, if_neg h3]
    by_cases e : p.1 = 3
    · rw [if_pos e]
      show (1 : Int) = ((if opI p.1 p.2 < 2 then 1 else 2 : Nat) : Int)
      rw [if_pos (hop.mpr e)]; rfl
    · rw [if_neg e]
      show (2 : Int) = ((if opI p.1 p.2 < 2 then 1 else 2 : Nat) : Int)
      rw [if_neg fun z => e (hop.mp z)]; rfl
theorem Hh_zero (rw_ : List (Nat × Int)) : Hh rw_ 0 = 0 := by simp [Hh, high]
theorem Hh_succ {rw_ : List (Nat × Int)} {i : Nat} {p : Nat × Int} (h : (rw_ ++ rw_)[i]? = some p) (hp : p.1 < 6) : Hh rw_ (i + 1) = Hh rw_ i + 1 - itK p := by
  unfold Hh
  have hm : ((rw_ ++ rw_).map ringOf)[i]? = some (ringOf p) := by rw [List.getElem?_map, h]; rfl
  rw [take_snoc hm, high_append, high_cons, itK_is hp]
  simp [high]; omega
theorem Hh_six {rw_ : List (Nat × Int)} (h6 : rw_.length = 6) (i : Nat) : Hh rw_ (6 + i) = high (rw_.map ringOf) + high ((rw_.map ringOf).take i) := by
  unfold Hh
  rw [List.map_append, List.take_append, List.take_of_length_le (by simp; omega), high_append]
  congr 3
  simp [h6]
/-- the steps of a whole row -/
theorem row_high (ns : List Int) : high ((rowOf ns 6).map ringOf) = 1 := by
  have step : ∀ k, high ((rowOf ns (k + 1)).map ringOf) = 1 - ((ringOf (k, (ns.getD k 0) / (k + 1))).kind : Int) + high ((rowOf ns k).map ringOf) := fun k => by
    rw [rowOf]
    simp only [List.map_append, List.map_cons, high_append, high_cons]
    have e : high ((rowOf ns k).map ringOf) = high (((rowOf ns k).take (ns.getD k 0 % (k + 1)).toNat).map ringOf) + high (((rowOf ns k).drop (ns.getD k 0 % (k + 1)).toNat).map ringOf) := by
      rw [← high_append, ← List.map_append, List.take_append_drop]
    rw [e]; omega
  have kd : ∀ k (y : Int), k < 6 → ((ringOf (k, y)).kind : Int) = itK (k, y) := fun k y h => (itK_is (p := (k, y)) h).symm
  rw [step 5, step 4, step 3, step 2, step 1, step 0, kd 5 _ (by decide), kd 4 _ (by decide), kd 3 _ (by decide), kd 2 _ (by decide), kd 1 _ (by decide), kd 0 _ (by decide)]
  simp [itK, rowOf, high]
theorem rowOf_good (ns : List Int) (hn : ∀ n ∈ ns, 0 ≤ n) : ∀ k, k ≤ 6 → ∀ p ∈ rowOf ns k, Good p
  | 0, _, p, hp => by simp [rowOf] at hp
  | k + 1, hk, p, hp => by
    have ih := rowOf_good ns hn k (by omega)
    rw [rowOf] at hp
    have h0 : 0 ≤ ns.getD k 0 := by
      rw [List.getD_eq_getElem?_getD]
      cases q : ns[k]? with
      | none => simp
      | some x => simpa using hn x (List.mem_of_getElem? q)
    rcases List.mem_append.mp hp with hp | hp
    · exact ih p (List.mem_of_mem_take hp)
    · rcases List.mem_cons.mp hp with rfl | hp
      · exact ⟨by show k < 6; omega, Int.ediv_nonneg h0 (by omega)⟩
      · exact ih p (List.mem_of_mem_drop hp)
/-- the steps from s on -/
theorem rot_high {rw_ : List (Nat × Int)} (h6 : rw_.length = 6) {s j : Nat} (hs : s ≤ 6) (hj : j ≤ 6) : high (((rot s rw_).map ringOf).take j) = Hh rw_ (s + j) - Hh rw_ s := by
  have e : ((rw_ ++ rw_).map ringOf).take (s + j) = ((rw_ ++ rw_).map ringOf).take s ++ ((rot s rw_).map ringOf).take j := by
    rw [List.take_add]
    congr 1
    rw [← List.map_drop, ← List.map_take, ← List.map_take, List.drop_append_of_le_length (by omega)]
    congr 1
    unfold rot
    rw [List.take_append, List.take_append]
    congr 1
    rw [List.take_take]
    congr 1
    simp; omega
  unfold Hh
  rw [e, high_append]; omega
/-- the first of its kind -/
theorem first_at {P : Nat → Prop} (dp : ∀ i, Decidable (P i)) : ∀ n, (∃ j, j < n ∧ P j) → ∃ j, j < n ∧ P j ∧ ∀ i, i < j → ¬ P i
  | 0, h => by obtain ⟨j, h, _⟩ := h; exact absurd h (Nat.not_lt_zero _)
  | n + 1, h => by
    by_cases q : ∃ j, j < n ∧ P j
    · obtain ⟨j, a, b, c⟩ := first_at dp n q
      exact ⟨j, by omega, b, c⟩
    · obtain ⟨j, a, b⟩ := h
      have : j = n := by
        apply Classical.byContradiction; intro z
        exact q ⟨j, by omega, b⟩
      subst this
      exact ⟨j, a, b, fun i hi hp => q ⟨i, hi, hp⟩⟩
/-- the last of the lowest places -/
theorem low_at (f : Nat → Int) : ∀ n, ∃ m, m ≤ n ∧ (∀ i, i ≤ n → f m ≤ f i) ∧ ∀ i, m < i → i ≤ n → f m < f i
  | 0 => ⟨0, Nat.le_refl _, fun i hi => by rw [Nat.le_zero.mp hi]; exact Int.le_refl _, fun i h1 h2 => by omega⟩
  | n + 1 => by
    obtain ⟨m, a, b, c⟩ := low_at f n
    by_cases h : f (n + 1) ≤ f m
    · refine ⟨n + 1, Nat.le_refl _, fun i hi => ?_, fun i h1 h2 => by omega⟩
      by_cases q : i ≤ n
      · exact Int.le_trans h (b i q)
      · rw [show i = n + 1 by omega]; exact Int.le_refl _
    · refine ⟨m, by omega, fun i hi => ?_, fun i h1 h2 => ?_⟩
      · by_cases q : i ≤ n
        · exact b i q
        · rw [show i = n + 1 by omega]; omega
      · by_cases q : i ≤ n
        · exact c i h1 q
        · rw [show i = n + 1 by omega]; omega
/-- one step of the machine -/
theorem mach_step {p : Nat × Int} {st : List Int} (h : 0 < (st.length : Int) + (1 - ((ringOf p).kind : Int))) : ∃ st', mach [ringOf p] st = some st' ∧ (st'.length : Int) = st.length + (1 - ((ringOf p).kind : Int)) := by
  have hs := mach_runs (l := [ringOf p]) (st := st) fun k hk => by
    have : k = 0 := by simpa using hk
    subst this
    simp [high]; omega
  cases q : mach [ringOf p] st with
  | none => rw [q] at hs; cases hs
  | some st' =>
    refine ⟨st', rfl, ?_⟩
    rw [mach_high q, high_cons]; simp [high]
theorem mach_stop {p : Nat × Int} {st : List Int} (h : (st.length : Int) + (1 - ((ringOf p).kind : Int)) ≤ 0) : mach [ringOf p] st = none := by
  cases q : mach [ringOf p] st with
  | none => rfl
  | some st' =>
    cases hr : ringOf p with
    | num v => rw [hr] at h; simp [R.kind] at h; omega
    | op j =>
      rw [hr] at q h
      rw [mach_low1 (by omega)] at q
      cases q
theorem reck_ok : ∀ (l : List (Nat × Int)) (st : List Int) (k : Nat), (∀ j, j < l.length → 0 < (st.length : Int) + high ((l.map ringOf).take (j + 1))) → ∃ st', reck l st k = .ok st' ∧ mach (l.map ringOf) st = some st'
  | [], st, k, _ => ⟨st, rfl, rfl⟩
  | p :: r, st, k, h => by
    have h0 := h 0 (by simp)
    rw [List.map_cons, List.take_succ_cons, high_cons] at h0
    obtain ⟨st1, m1, l1⟩ := mach_step (p := p) (st := st) (by simpa [high] using h0)
    obtain ⟨st', a, b⟩ := reck_ok r st1 (k + 1) fun j hj => by
      have := h (j + 1) (by simp; omega)
      rw [List.map_cons, List.take_succ_cons, high_cons] at this
      omega
    refine ⟨st', by rw [reck, m1]; exact a, ?_⟩
    rw [List.map_cons, show ringOf p :: r.map ringOf = [ringOf p] ++ r.map ringOf from rfl, mach_append, m1]
    exact b
theorem reck_err : ∀ (l : List (Nat × Int)) (st : List Int) (k j : Nat) (p : Nat × Int), l[j]? = some p → (∀ i, i < j → 0 < (st.length : Int) + high ((l.map ringOf).take (i + 1))) → (st.length : Int) + high ((l.map ringOf).take (j + 1)) ≤ 0 →
    ∃ n : Nat, (n : Int) = st.length + high ((l.map ringOf).take j) ∧ reck l st k = .error (n, p, k + j)
  | [], _, _, j, _, h, _, _ => by simp at h
  | q :: r, st, k, 0, p, h, _, hj => by
    have : q = p := by simpa using h
    subst this
    rw [List.map_cons, List.take_succ_cons, high_cons] at hj
    refine ⟨st.length, by simp [high], ?_⟩
    rw [reck, mach_stop (by simpa [high] using hj)]; rfl
  | q :: r, st, k, j + 1, p, h, hi, hj => by
    have h0 := hi 0 (Nat.succ_pos _)
    rw [List.map_cons, List.take_succ_cons, high_cons] at h0
    obtain ⟨st1, m1, l1⟩ := mach_step (p := q) (st := st) (by simpa [high] using h0)
    obtain ⟨n, a, b⟩ := reck_err r st1 (k + 1) j p (by simpa using h) (fun i hlt => by
      have := hi (i + 1) (by omega)
      rw [List.map_cons, List.take_succ_cons, high_cons] at this
      omega) (by
      rw [List.map_cons, List.take_succ_cons, high_cons] at hj
      omega)
    refine ⟨n, ?_, ?_⟩
    · rw [a, List.map_cons, List.take_succ_cons, high_cons]; omega
    · rw [reck, m1]
      show reck r st1 (k + 1) = _
      rw [b]
      congr 3; omega
/-- the cycle lemma -/
theorem cycle {rw_ : List (Nat × Int)} (h6 : rw_.length = 6) (hh : high (rw_.map ringOf) = 1) :
    ∃ (low : Nat) (v : Int), low < 6 ∧ (∀ i, i < 6 → Hh rw_ low ≤ Hh rw_ i) ∧ (∀ i, low < i → i < 6 → Hh rw_ low < Hh rw_ i) ∧ Comes (rw_.map ringOf) v ∧ reck (rot low rw_) [] 0 = .ok [v] ∧
      ∀ s, s < 6 → s ≠ low → ∃ (at_ : Nat) (p : Nat × Int) (n : Nat), at_ < 6 ∧ Hh rw_ (s + at_ + 1) ≤ Hh rw_ s ∧ (∀ i, i < at_ → Hh rw_ s < Hh rw_ (s + i + 1)) ∧ (rot s rw_)[at_]? = some p ∧ (n : Int) = Hh rw_ (s + at_) - Hh rw_ s ∧ reck (rot s rw_) [] 0 = .error (n, p, at_) := by
  obtain ⟨low, l1, l2, l3⟩ := low_at (Hh rw_) 5
  have H6 : ∀ i, i ≤ 6 → Hh rw_ (6 + i) = Hh rw_ i + 1 := fun i hi => by
    rw [Hh_six h6, hh]
    have : Hh rw_ i = high ((rw_.map ringOf).take i) := by
      unfold Hh
      rw [List.map_append, List.take_append_of_le_length (by simp; omega)]
    omega
  have run := reck_ok (rot low rw_) [] 0 fun j hj => by
    rw [rot_len, h6] at hj
    rw [rot_high h6 (by omega) (by omega)]
    by_cases q : low + (j + 1) < 6
    · have := l3 (low + (j + 1)) (by omega) (by omega)
      simp; omega
    · have a := H6 (low + (j + 1) - 6) (by omega)
      rw [show 6 + (low + (j + 1) - 6) = low + (j + 1) by omega] at a
      have b := l2 (low + (j + 1) - 6) (by omega)
      simp; omega
  obtain ⟨st, r1, r2⟩ := run
  have hl := mach_high r2
  have ht := rot_high h6 (s := low) (j := 6) (by omega) (Nat.le_refl _)
  rw [List.take_of_length_le (by simp [rot_len, h6])] at ht
  have a := H6 low (by omega)
  rw [Nat.add_comm 6 low] at a
  have h1 : st.length = 1 := by simp at hl; omega
  obtain ⟨v, rfl⟩ : ∃ v, st = [v] := by
    match st, h1 with
    | [v], _ => exact ⟨v, rfl⟩
  refine ⟨low, v, by omega, fun i hi => l2 i (by omega), fun i x y => l3 i x (by omega), ⟨(rw_.map ringOf).take low, (rw_.map ringOf).drop low, (List.take_append_drop _ _).symm, ?_⟩, r1, fun s hs hne => ?_⟩
  · have : (rot low rw_).map ringOf = (rw_.map ringOf).drop low ++ (rw_.map ringOf).take low := by rw [← rot_map]; rfl
    rw [← this]; exact r2
  · have ex : ∃ j, j < 6 ∧ Hh rw_ (s + j + 1) ≤ Hh rw_ s := by
      by_cases q : s < low
      · refine ⟨low - s - 1, by omega, ?_⟩
        rw [show s + (low - s - 1) + 1 = low by omega]
        exact l2 s (by omega)
      · refine ⟨low + 6 - s - 1, by omega, ?_⟩
        have := l3 s (by omega) (by omega)
        rw [show s + (low + 6 - s - 1) + 1 = 6 + low by omega, H6 low (by omega)]
        omega
    obtain ⟨at_, a1, a2, a3⟩ := first_at (P := fun j => Hh rw_ (s + j + 1) ≤ Hh rw_ s) (fun _ => inferInstance) 6 ex
    obtain ⟨p, hp⟩ : ∃ p, (rot s rw_)[at_]? = some p := ⟨_, List.getElem?_eq_getElem (by rw [rot_len, h6]; exact a1)⟩
    obtain ⟨n, n1, n2⟩ := reck_err (rot s rw_) [] 0 at_ p hp (fun i hi => by
      have := a3 i hi
      rw [rot_high h6 (by omega) (by omega), show s + (i + 1) = s + i + 1 by omega]
      simp; omega) (by
      rw [rot_high h6 (by omega) (by omega), show s + (at_ + 1) = s + at_ + 1 by omega]
      simp; omega)
    rw [rot_high h6 (by omega) (by omega)] at n1
    refine ⟨at_, p, n, a1, a2, fun i hi => by have := a3 i hi; omega, hp, by simpa using n1, ?_⟩
    rw [n2, Nat.zero_add]
end
section
open PySem PySem.W PyProof.Rows
set_option maxRecDepth 10000
/-- which line end -/
noncomputable def ek (p : Nat × Int) : Nat := if p.2 / 1152 % 3 = 0 then 0 else if p.2 / 1152 % 3 = 1 then 1 else 2
theorem ek_lt (p : Nat × Int) : ek p < 3 := by unfold ek; split; decide; split <;> decide
theorem itE_is (p : Nat × Int) : itE p = sT (eol (ek p)) := by
  unfold itE ek eol sT
  split
  · rfl
  · split <;> rfl
theorem cut_nat {wd : Str} {ch : Int} : ∃ n : Nat, cutAt wd ch = n := by
  unfold cutAt
  exact ⟨(ch / 6 % ((wd.length : Int) + 1)).toNat, by have := Int.emod_nonneg (ch / 6) (b := (wd.length : Int) + 1) (by omega); omega⟩
theorem marked_is (l : List Nat) (ch : Int) : ∃ u v, l = u ++ v ∧ marked (sT l) ch = sT (u ++ 92 :: 61 :: v) := by
  obtain ⟨n, hn⟩ := cut_nat (wd := sT l) (ch := ch)
  refine ⟨l.take n, l.drop n, (List.take_append_drop n l).symm, ?_⟩
  unfold marked
  rw [hn, slice_pre, slice_suf, show Str.ofString "\\=" = sT [92, 61] from rfl, sT_app, sT_app]
  simp
theorem pieces_split {rw_ : List (Nat × Int)} {ch : Int} (h6 : rw_.length = 6) : ∃ l1 x l2 u v, rw_ = l1 ++ x :: l2 ∧ wL x = u ++ v ∧ pieces rw_ ch = l1.map itW ++ sT (u ++ 92 :: 61 :: v) :: l2.map itW := by
  obtain ⟨i, hi⟩ : ∃ i : Nat, (ch % 6).toNat = i := ⟨_, rfl⟩
  have hi6 : i < 6 := by omega
  have hil : i < rw_.length := by omega
  obtain ⟨u, v, hu, hm⟩ := marked_is (wL rw_[i]) ch
  have es : rw_ = rw_.take i ++ rw_[i] :: rw_.drop (i + 1) := by simp
  refine ⟨rw_.take i, rw_[i], rw_.drop (i + 1), u, v, es, hu, ?_⟩
  unfold pieces
  rw [hi]
  have eg : (rw_.map itW).getD i ⟨#[]⟩ = itW rw_[i] := by
    rw [List.getD_eq_getElem?_getD, List.getElem?_map, List.getElem?_eq_getElem hil]; rfl
  rw [eg, wL_sT, hm, List.set_eq_take_append_cons_drop, if_pos (by simpa using hil), List.map_take, List.map_drop]
theorem rot_split {α β : Type} (f : α → β) (l1 l2 : List α) (x : α) (y : β) (s : Nat) : ∃ A B, rot s (l1 ++ x :: l2) = A ++ x :: B ∧ rot s (l1.map f ++ y :: l2.map f) = A.map f ++ y :: B.map f := by
  by_cases h : s ≤ l1.length
  · refine ⟨l1.drop s, l2 ++ l1.take s, ?_, ?_⟩
    · unfold rot
      rw [List.drop_append_of_le_length h, List.take_append_of_le_length h]; simp
    · unfold rot
      rw [List.drop_append_of_le_length (by simpa using h), List.take_append_of_le_length (by simpa using h)]
      simp
  · obtain ⟨t, rfl⟩ : ∃ t, s = l1.length + (1 + t) := ⟨s - l1.length - 1, by omega⟩
    refine ⟨l2.drop t ++ l1, l2.take t, ?_, ?_⟩
    · unfold rot
      rw [← List.drop_drop, List.drop_left' rfl, List.take_append, List.take_of_length_le (by omega), Nat.add_sub_cancel_left, Nat.add_comm 1 t]
      simp
    · unfold rot
      have e : l1.length + (1 + t) = (l1.map f).length + (1 + t) := by simp
      rw [e, ← List.drop_drop, List.drop_left' rfl, List.take_append, List.take_of_length_le (by omega), Nat.add_sub_cancel_left, Nat.add_comm 1 t]
      simp
/-- the lines of a mail -/
noncomputable def csOf (A B : List (Nat × Int)) (x : Nat × Int) (u v : List Nat) : List (List Nat × Nat) := A.map (fun p => (wL p, ek p)) ++ (u ++ 92 :: 61 :: v, ek x) :: B.map (fun p => (wL p, ek p))
theorem lines_app : ∀ a b : List (List Nat × Nat), lines (a ++ b) = lines a ++ lines b
  | [], b => rfl
  | (c, k) :: a, b => by simp [lines, lines_app a b]
theorem evened_app : ∀ a b : List (List Nat × Nat), evened (a ++ b) = evened a ++ evened b
  | [], b => rfl
  | (c, k) :: a, b => by simp [evened, evened_app a b]
theorem evened_mail : ∀ A : List (Nat × Int), evened (A.map fun p => (wL p, ek p)) = mailL A
  | [] => rfl
  | p :: A => by simp [evened, mailL, evened_mail A]
theorem mailL_app : ∀ a b : List (Nat × Int), mailL (a ++ b) = mailL a ++ mailL b
  | [], b => rfl
  | p :: a, b => by simp [mailL, mailL_app a b]
theorem cs_evened (A B : List (Nat × Int)) (x : Nat × Int) (u v : List Nat) : evened (csOf A B x u v) = (mailL A ++ u) ++ 92 :: 61 :: (v ++ 13 :: 10 :: mailL B) := by
  unfold csOf
  rw [evened_app, evened_mail, evened, evened_mail]; simp
theorem cs_mail {A B : List (Nat × Int)} {x : Nat × Int} {u v : List Nat} (h : wL x = u ++ v) : mailL (A ++ x :: B) = (mailL A ++ u) ++ (v ++ 13 :: 10 :: mailL B) := by
  rw [mailL_app, mailL, h]; simp
theorem no92 {A : List (Nat × Int)} {x : Nat × Int} {u v : List Nat} (h : wL x = u ++ v) : ∀ c ∈ mailL A ++ u, c ≠ 92 := by
  have w92 : ∀ (p : Nat × Int), ∀ c ∈ wL p, c ≠ 92 := fun p c hc => (wch_facts c (wch_lt ((wL_wch p).1 c hc)) ((wL_wch p).1 c hc)).2.2.2.2
  have m92 : ∀ A : List (Nat × Int), ∀ c ∈ mailL A, c ≠ 92 := by
    intro A
    induction A with
    | nil => intro c hc; simp [mailL] at hc
    | cons p A ih =>
      intro c hc
      rw [mailL] at hc
      rcases List.mem_append.mp hc with hc | hc
      · exact w92 p c hc
      · rcases List.mem_cons.mp hc with rfl | hc
        · decide
        · rcases List.mem_cons.mp hc with rfl | hc
          · decide
          · exact ih c hc
  intro c hc
  rcases List.mem_append.mp hc with hc | hc
  · exact m92 A c hc
  · exact w92 x c (h ▸ List.mem_append_left _ hc)
theorem cs_ok {A B : List (Nat × Int)} {x : Nat × Int} {u v : List Nat} (h : wL x = u ++ v) : ∀ q ∈ csOf A B x u v, LineOk q ∧ q.2 < 3 := by
  have one : ∀ p : Nat × Int, LineOk (wL p, ek p) ∧ ek p < 3 := fun p => ⟨⟨(wL_wch p).2, fun c hc => by
    have := wch_facts c (wch_lt ((wL_wch p).1 c hc)) ((wL_wch p).1 c hc)
    exact ⟨this.2.2.1, this.2.2.2.1⟩⟩, ek_lt p⟩
  intro q hq
  unfold csOf at hq
  rcases List.mem_append.mp hq with hq | hq
  · obtain ⟨p, _, rfl⟩ := List.mem_map.mp hq
    exact one p
  · rcases List.mem_cons.mp hq with rfl | hq
    · refine ⟨⟨by simp, fun c hc => ?_⟩, ek_lt x⟩
      have hx : ∀ c ∈ wL x, c ≠ 10 ∧ c ≠ 13 := (one x).1.clean
      rcases List.mem_append.mp hc with hc | hc
      · exact hx c (h ▸ List.mem_append_left _ hc)
      · rcases List.mem_cons.mp hc with rfl | hc
        · decide
        · rcases List.mem_cons.mp hc with rfl | hc
          · decide
          · exact hx c (h ▸ List.mem_append_right _ hc)
    · obtain ⟨p, _, rfl⟩ := List.mem_map.mp hq
      exact one p
/-- the mail as it is joined -/
noncomputable def joinL (laid : List Str) (turned : List (Nat × Int)) : List Str := List.zipWith (fun a p => a ++ itE p) laid turned
theorem flat_lines : ∀ A : List (Nat × Int), (List.zipWith (fun a p => a ++ itE p) (A.map itW) A).flatMap (·.cps.toList) = lines (A.map fun p => (wL p, ek p))
  | [] => rfl
  | p :: A => by
    have e : (itW p ++ itE p).cps.toList = wL p ++ eol (ek p) := by rw [cps_app, itE_is]; simp [wL, sT]
    simp only [List.map_cons, List.zipWith_cons_cons, List.flatMap_cons, lines]
    rw [e, flat_lines A, List.append_assoc]
theorem cats_lines (A B : List (Nat × Int)) (x : Nat × Int) (u v : List Nat) : cats (joinL (A.map itW ++ sT (u ++ 92 :: 61 :: v) :: B.map itW) (A ++ x :: B)) = ⟨(lines (csOf A B x u v)).toArray⟩ := by
  unfold cats joinL csOf
  rw [List.zipWith_append (by simp), List.flatMap_append, flat_lines, lines_app]
  simp only [List.zipWith_cons_cons, List.flatMap_cons, flat_lines, lines]
  have e : (sT (u ++ 92 :: 61 :: v) ++ itE x).cps.toList = (u ++ 92 :: 61 :: v) ++ eol (ek x) := by rw [cps_app, itE_is]; simp [sT]
  rw [e, List.append_assoc]
theorem flat_evened : ∀ A : List (Nat × Int), ((A.map itW).map (· ++ (⟨#[13, 10]⟩ : Str))).flatMap (·.cps.toList) = mailL A
  | [] => rfl
  | p :: A => by
    simp only [List.map_cons, List.flatMap_cons, mailL]
    rw [flat_evened A, cps_app]
    simp [wL]
theorem cats_evened (A B : List (Nat × Int)) (x : Nat × Int) (u v : List Nat) : cats ((A.map itW ++ sT (u ++ 92 :: 61 :: v) :: B.map itW).map (· ++ (⟨#[13, 10]⟩ : Str))) = ⟨(evened (csOf A B x u v)).toArray⟩ := by
  rw [cs_evened]
  unfold cats
  rw [List.map_append, List.flatMap_append, flat_evened, List.map_cons, List.flatMap_cons, flat_evened, cps_app]
  simp [sT]
theorem cs_len (A B : List (Nat × Int)) (x : Nat × Int) (u v : List Nat) : (csOf A B x u v).length = (A ++ x :: B).length := by simp [csOf]
theorem lines_len : ∀ cs : List (List Nat × Nat), (∀ q ∈ cs, q.1.length ≤ 100) → (lines cs).length ≤ 102 * cs.length
  | [], _ => by simp [lines]
  | (c, k) :: r, h => by
    have h1 := h (c, k) (.head _)
    have h2 := lines_len r fun q hq => h q (.tail _ hq)
    have h3 : (eol k).length ≤ 2 := by unfold eol; split; decide; split <;> decide
    simp [lines] at h1 ⊢; omega
theorem cs_small {A B : List (Nat × Int)} {x : Nat × Int} {u v : List Nat} (h : wL x = u ++ v) : ∀ q ∈ csOf A B x u v, q.1.length ≤ 100 := by
  intro q hq
  have hx := wL_len x
  rw [h] at hx
  unfold csOf at hq
  rcases List.mem_append.mp hq with hq | hq
  · obtain ⟨p, _, rfl⟩ := List.mem_map.mp hq
    have := wL_len p
    show (wL p).length ≤ 100; omega
  · rcases List.mem_cons.mp hq with rfl | hq
    · simp at hx ⊢; omega
    · obtain ⟨p, _, rfl⟩ := List.mem_map.mp hq
      have := wL_len p
      show (wL p).length ≤ 100; omega
/-- all that is to be known of a mail -/
theorem mail_facts {rw_ : List (Nat × Int)} {ch : Int} (h6 : rw_.length = 6) (s : Nat) : ∃ cs a b, cats (joinL (rot s (pieces rw_ ch)) (rot s rw_)) = ⟨(lines cs).toArray⟩ ∧ cats ((rot s (pieces rw_ ch)).map (· ++ (⟨#[13, 10]⟩ : Str))) = ⟨(evened cs).toArray⟩ ∧
    (∀ q ∈ cs, LineOk q ∧ q.2 < 3) ∧ cs ≠ [] ∧ cs.length = 6 ∧ (lines cs).length ≤ 1000 ∧ evened cs = a ++ 92 :: 61 :: b ∧ mailL (rot s rw_) = a ++ b ∧ (∀ c ∈ a, c ≠ 92) ∧ (rot s (pieces rw_ ch)).length = 6 ∧ ∀ q ∈ rot s (pieces rw_ ch), q.length ≤ 12 := by
  obtain ⟨l1, x, l2, u, v, e1, e2, e3⟩ := pieces_split (ch := ch) h6
  obtain ⟨A, B, r1, r2⟩ := rot_split itW l1 l2 x (sT (u ++ 92 :: 61 :: v)) s
  have hl : (A ++ x :: B).length = 6 := by rw [← r1, ← e1, rot_len, h6]
  have hcl : (csOf A B x u v).length = 6 := by rw [cs_len, hl]
  have hsm := lines_len _ (cs_small (A := A) (B := B) e2)
  refine ⟨csOf A B x u v, mailL A ++ u, v ++ 13 :: 10 :: mailL B, ?_, ?_, cs_ok e2, ?_, hcl, by omega, cs_evened A B x u v, ?_, no92 e2, ?_, ?_⟩
  · rw [e3, r2, e1, r1]; exact cats_lines A B x u v
  · rw [e3, r2]; exact cats_evened A B x u v
  · intro q; rw [q] at hcl; cases hcl
  · rw [e1, r1]; exact cs_mail e2
  · rw [e3, r2]; simpa using hl
  · rw [e3, r2]
    intro q hq
    rcases List.mem_append.mp hq with hq | hq
    · obtain ⟨p, _, rfl⟩ := List.mem_map.mp hq
      exact Nat.le_trans (itW_len p) (by decide)
    · rcases List.mem_cons.mp hq with rfl | hq
      · have := wL_len x
        rw [e2] at this
        rw [sT_len]; simp at this ⊢; omega
      · obtain ⟨p, _, rfl⟩ := List.mem_map.mp hq
        exact Nat.le_trans (itW_len p) (by decide)
end
section
open PySem PySem.W PyProof.Rows
set_option maxRecDepth 10000
local macro_rules | `(tactic| tm_at "kl con") => `(tactic| first | with_reducible assumption | exact Con.absI)

section
variable {c : Cx} {L : List (Str × D)} {O : List (Addr × List D)} {s₀ : Shared} {aN : Addr} {ws : List (Nat × Int)} {a b : List Nat} {f y : Str} {p py pos spos : Pos} {e₁ e₂ e₃ : Expr} {rest : List Stmt} {Q : Flow → Shared → Prop} {E : Value → Shared → Prop}
/-- the reader called by _safe_string -/
theorem Ex.safe (T : Top c.prog c.w c.g) (ok : Ok 5 c.A) (hfr : c.A.frames = some [c.env]) (hfl : c.env.frame = some c.env.locals) (hws : ∀ p ∈ ws, Good p) (h0 : 0 < ws.length) (h6 : ws.length ≤ 6) (hm : mailL ws = a ++ b) (ha : ∀ c ∈ a, c ≠ 92)
    (hf : Ev c L ((aN, []) :: O) (.Name f p) (.fix (.ref 132))) (hse : backTo pos (starEach [e₁, e₂, e₃] c.env) = (false, eval e₁ c.env) :: backTo pos (starEach [e₂, e₃] c.env)) (h1 : Ev c L ((aN, []) :: O) e₁ (.tup [.str (sT (a ++ 92 :: 61 :: b)), .cell aN])) (h2 : EvL c L ((aN, []) :: O) (backTo pos (starEach [e₂, e₃] c.env)) [.str (Str.ofString "mail"), .fix (.ref 163)])
    (hplain : (backTo pos (starEach [e₂, e₃] c.env)).any (·.1) = false) (hy : Room c y)
    (hok : ∀ st, reck ws [] 0 = .ok st → Ex s₀ c ((y, .tup [.lst (st.reverse.map .int), .str (sT [13, 10])]) :: L) ((aN, []) :: O) rest Q E)
    (hno : ∀ (n : Nat) (p : Nat × Int) (k : Nat), reck ws [] 0 = .error (n, p, k) → Ex s₀ c ((y, .str failS) :: L) ((aN, [.exc (n : Nat) (itW p) (k : Nat) Option.none]) :: O) rest Q E)
    (hs : swapsWith (.Call (.Name f p) [e₁, e₂, e₃] [] pos) (some (.Name y py)) spos.line c.env = pure false := by rfl) : Ex s₀ c L ((aN, []) :: O) (.Assign [.Name y py] (.Call (.Name f p) [e₁, e₂, e₃] [] pos) spos :: rest) Q E := by
  constructor; intro s fr S
  have hfun : Fun c.g (.ref 132) := by
    obtain ⟨⟨o, pm, cd, doc, q1, q2, _⟩, _⟩ := T.sf
    exact .inr (.inr ⟨132, o, _, rfl, q1, q2⟩)
  refine wpAny_execs_cons (wpAny_Assign_Name (callv_gen S hf hfun hse h1 h2 hplain fun s₂ vs k S₂ r => ?_) hs)
  cases r using RL.e_cons with
  | cons q₁ r => cases r using RL.e_cons with
    | cons q₂ r => cases r using RL.e_cons with
      | cons q₃ r =>
        cases r using RL.e_nil
        (first | cases q₃ using RV.e_fix | cases q₃ using RV.e_cell | cases q₃ using RV.e_none | cases q₃ using RV.e_int | cases q₃ using RV.e_str | cases q₃ using RV.e_lst | cases q₃ using RV.e_tup | cases q₃ using RV.e_mat | cases q₃ using RV.e_bool | cases q₃ using RL.e_nil)
        cases q₂ using RV.e_str with
        | str t =>
          rename_i v₁
          obtain ⟨tt, rfl⟩ : ∃ tt, v₁ = .ref tt := by cases q₁ using RV.e_tup with | tup _ _ _ => exact ⟨_, rfl⟩
          refine wpAny_mono (safe_run S₂ T ok hfr hfl hws h0 h6 hm ha q₁) (fun v s₃ z => ?_) fun _ _ e => e
          obtain ⟨f₃, z⟩ := z
          rcases z with ⟨st, z1, z2, z3⟩ | ⟨n, p, k', z1, z2, z3⟩
          · exact store z3 hy z2 fun s' f' S' _ => (hok st z1).run s' (((fr.trans k.from).trans f₃).trans f') S'
          · exact store z3 hy z2 fun s' f' S' _ => (hno n p k' z1).run s' (((fr.trans k.from).trans f₃).trans f') S'
end
/-- an exception's three -/
noncomputable def excD : D → D
  | .exc c x p _ => .tup [.int c, .str x, .int p]
  | d => d
noncomputable def joinD (l : List Str) : D → D
  | .int k => .str (l.getD k.toNat ⟨#[]⟩)
  | d => d
theorem joinD_all (l : List Str) (h : l.length = 6) : ((rangeD 0 6).filter fun _ => true).map (joinD l) = strD l := by
  rw [filt]
  match l, h with
  | [a, b, c, d, e, f], _ => rfl
noncomputable def lineD : D → D
  | .str x => .str (x ++ (⟨#[13, 10]⟩ : Str))
  | d => d
theorem lineD_all (l : List Str) : ((strD l).filter fun _ => true).map lineD = strD (l.map (· ++ (⟨#[13, 10]⟩ : Str))) := by
  rw [filt]
  unfold strD
  rw [List.map_map, List.map_map]; rfl
noncomputable def lowD (rw_ : List (Nat × Int)) (M : Int) : D → Bool
  | .int k => decide (Hh rw_ k.toNat = M)
  | _ => false
theorem lowD_all (rw_ : List (Nat × Int)) (M : Int) : ((rangeD 0 6).filter (lowD rw_ M)).map id = (((List.range 6).filter fun k => decide (Hh rw_ k = M)).map fun k => (0 + (k : Nat) : Int)).map .int := by
  unfold rangeD
  rw [List.map_id, List.filter_map, List.map_map]
  congr 1
noncomputable def atD (rw_ : List (Nat × Int)) (s : Nat) : D → Bool
  | .int k => decide (Hh rw_ (s + k.toNat + 1) ≤ Hh rw_ s)
  | _ => false
theorem atD_all (rw_ : List (Nat × Int)) (s : Nat) : ((rangeD 0 6).filter (atD rw_ s)).map id = (((List.range 6).filter fun k => decide (Hh rw_ (s + k + 1) ≤ Hh rw_ s)).map fun k => (0 + (k : Nat) : Int)).map .int := by
  unfold rangeD
  rw [List.map_id, List.filter_map, List.map_map]
  congr 1
/-- the list of heights -/
noncomputable def htD (rw_ : List (Nat × Int)) (n : Nat) : List D := (List.range n).map fun i => .int (Hh rw_ i)
theorem htD_len (rw_ : List (Nat × Int)) (n : Nat) : (htD rw_ n).length = n := by simp [htD]
theorem htD_at {rw_ : List (Nat × Int)} {n i : Nat} (h : i < n) : pyIdx (htD rw_ n) (i : Nat) = some (.int (Hh rw_ i)) := by
  unfold pyIdx htD
  rw [if_pos (by omega), Int.toNat_natCast]
  simp [h]
theorem htD_last (rw_ : List (Nat × Int)) (n : Nat) : pyIdx (htD rw_ (n + 1)) (-1) = some (.int (Hh rw_ n)) := by
  unfold pyIdx
  rw [if_neg (by decide), htD_len, if_pos (by omega)]
  unfold htD
  have : ((-1 : Int) + ((n + 1 : Nat) : Int)).toNat = n := by omega
  rw [this]
  simp
theorem htD_next (rw_ : List (Nat × Int)) (n : Nat) : htD rw_ (n + 1) ++ [.int (Hh rw_ (n + 1))] = htD rw_ (n + 2) := by
  unfold htD
  rw [List.range_succ (n := n + 1), List.map_append]; rfl
theorem eqv_two (v : Int) (x : Str) : PyData.eqv (D.tup [.lst [.int v], .str x]).py (D.tup [.lst [.int v], .str x]).py = true := by
  simp [D.py, D.pys, PyData.eqv, PyData.eqvAll]
theorem eqv_three (n k : Int) (x : Str) : PyData.eqv (D.lst [.tup [.int n, .str x, .int k]]).py (D.lst [.tup [.int n, .str x, .int k]]).py = true := by
  simp [D.py, D.pys, PyData.eqv, PyData.eqvAll]
theorem shaped_three (n k : Int) {x : Str} (hx : PyData.strOk x = true) : SeqAt.shaped (D.lst [.tup [.int n, .str x, .int k]]).py = true := by
  rw [D.py]
  unfold SeqAt.shaped
  simp [D.py, D.pys, PyData.canLay0, PyData.canLayAll0, PyData.depth, PyData.depthAll, hx]
theorem shaped_two (v : Int) {x : Str} (hx : PyData.strOk x = true) : SeqAt.shaped (D.tup [.lst [.int v], .str x]).py = true := by
  rw [D.py]
  unfold SeqAt.shaped
  simp [D.py, D.pys, PyData.canLay0, PyData.canLayAll0, PyData.depth, PyData.depthAll, hx]
theorem itW_ok (p : Nat × Int) : PyData.strOk (itW p) = true := by
  unfold PyData.strOk
  rw [Array.all_eq_true_iff_forall_mem]
  intro c hc
  have := wch_lt ((wL_wch p).1 c (Array.mem_toList_iff.mpr hc))
  simp; omega
end
section
open PySem PySem.W PyProof.Rows
set_option maxRecDepth 10000
local macro_rules | `(tactic| tm_at "kl con") => `(tactic| first | with_reducible assumption | exact Con.absI)

theorem nums_pos (script : List Int) : ∀ n ∈ numsOf script, 0 ≤ n := by
  intro n hn
  unfold numsOf at hn
  rcases List.mem_append.mp hn with h | h
  · obtain ⟨x, _, rfl⟩ := List.mem_map.mp h
    exact Int.emod_nonneg x (by decide)
  · have := List.mem_of_mem_drop h
    simp at this; omega
section
variable {prog : Program} {w : World} {A : Around} {g : Heap} {V : List Addr} {script : List Int}
set_option maxHeartbeats 1000000 in
theorem law_c (T : Top prog w g) (F : FnAt g 173 (Str.ofString "law") (parsOf (row 26)) (bodyOf (row 26)) (scopeOf (row 26))) (ok : Ok 6 A) (hfr : A.frames = some []) (hs : script.length ≤ 1000) : Con prog w A g V (.ref 173) [.lst (script.map .int)] (.bool true) := by
  refine Con.fnC (n := 5) [Str.ofString "script"] [(Str.ofString "script", .lst (script.map .int))] rfl F T.b.nl ok rfl (by decide +kernel) ?_ (one_local (by kernel_rfl)) ?_ (by kernel_rfl) (by kernel_rfl) (by kernel_rfl)
  · intro pm cd doc vs hvs
    match vs, hvs with
    | [v], _ => rfl
  · intro s₀ cd hg hWV
    have T' : Top prog w s₀.heap := T.keep hg
    have B' := T'.b
    have okd : Ok 5 (A.deeper (envC (Str.ofString "law") (scopeOf (row 26)) s₀.heap.objs.size 173 cd)) := Ok.deeper (n := 5) ok
    have ok4 := okd.less (show 4 ≤ 5 by decide)
    have ok2 := okd.less (show 2 ≤ 5 by decide)
    have hfr' : (A.deeper (envC (Str.ofString "law") (scopeOf (row 26)) s₀.heap.objs.size 173 cd)).frames = some [envC (Str.ofString "law") (scopeOf (row 26)) s₀.heap.objs.size 173 cd] := by
      show A.frames.map _ = _
      rw [hfr]; rfl
    have hn := nums_pos script
    have h6 : (rowOf (numsOf script) 6).length = 6 := rowOf_len _ 6 hn
    have hgood := rowOf_good (numsOf script) hn 6 (Nat.le_refl _)
    have hhi := row_high (numsOf script)
    refine Ex.assign (d := .lst ((rowOf (numsOf script) 6).map itD)) ?_ (.inl (by kernel_rfl)) ?_ (by rfl)
    · refine Ev.callv (d₁ := .lst (script.map .int)) (ds := []) (Ev.glob (by kernel_rfl) B'.g_law_row (by kernel_rfl)) B'.f_law_row.fun (by rfl) ?_ EvL.nil (by rfl) (row_c B' ok4 hs)
      tm_at "kl ev"
    generalize rowOf (numsOf script) 6 = rw_ at h6 hgood hhi ⊢
    obtain ⟨low, v, l1, l2, l3, hcomes, hlow, hother⟩ := cycle h6 hhi
    obtain ⟨ch, hch⟩ : ∃ ch : Int, ch = (script.sum.natAbs : Int) % 1000 := ⟨_, rfl⟩
    have hc0 : 0 ≤ ch := by omega
    have hc1 : ch < 1000 := by omega
    refine Ex.assign (d := .int ch) ?_ (.inl (by kernel_rfl)) ?_ (by rfl)
    · rw [hch]
      refine Ev.bin (a := .int (script.sum.natAbs : Int)) (b := .int 1000) ?_ Ev.int (BinIs.modI (by decide))
      refine Ev.callv (d₁ := .int script.sum) (ds := []) (Ev.glob (by kernel_rfl) B'.g_abs (by kernel_rfl)) (.inl ⟨_, rfl⟩) (by rfl) ?_ EvL.nil (by rfl) Con.absI
      refine Ev.callv (d₁ := .lst (script.map .int)) (ds := []) (Ev.glob (by kernel_rfl) B'.g_sum (by kernel_rfl)) (.inl ⟨_, rfl⟩) (by rfl) ?_ EvL.nil (by rfl) (Con.sumL okd.handled)
      tm_at "kl ev"
    clear hch
    refine Ex.assign (d := .lst (strD (pieces rw_ ch))) ?_ (.inl (by kernel_rfl)) ?_ (by rfl)
    · refine Ev.callv (d₁ := .lst (rw_.map itD)) (ds := [.int ch]) (Ev.glob (by kernel_rfl) B'.g_law_pieces (by kernel_rfl)) B'.f_law_pieces.fun (by rfl) ?_ (EvL.cons ?_ EvL.nil) (by rfl) (pieces_c B' ok4 h6 hc0 hc1)
      · tm_at "kl ev"
      · tm_at "kl ev"
    refine Ex.own (ds := [.int 0]) (EvN.list (EvL.cons Ev.int EvL.nil)) (.inr ⟨by kernel_rfl, s₀.heap.objs.size + 1, by kernel_rfl⟩) (fun aH haH => ?_) (by rfl)
    have hht0 : [D.int 0] = htD rw_ 1 := by unfold htD; simp [Hh_zero]
    have hlen2 : (rw_.map itD ++ rw_.map itD).length = 12 := by simp [h6]
    refine Ex.forI (ds := rw_.map itD ++ rw_.map itD) 12 (fun _ => [(Str.ofString "row", .lst (rw_.map itD)), (Str.ofString "choice", .int ch), (Str.ofString "pieces", .lst (strD (pieces rw_ ch))), (Str.ofString "heights", .cell aH)])
      (fun k => [(aH, htD rw_ (k + 1))]) hlen2 (EvI.lst (Ev.bin (a := .lst (rw_.map itD)) (b := .lst (rw_.map itD)) ?_ ?_ (BinIs.addL ?_))) ?_ (by rw [hht0]) (.inl (by kernel_rfl)) okd.handled ?_ ?_ ?_ (by intro _; rfl)
    · tm_at "kl ev"
    · tm_at "kl ev"
    · have z : (12 : Nat) ≤ sizeLine := by decide
      rw [List.length_append] at hlen2; omega
    · tm_at "kl sub"
    · intro k d hd I g' hg'
      have hk : k < 12 := by
        apply Nat.lt_of_not_le; intro z
        rw [List.getElem?_eq_none (by omega)] at hd; cases hd
      rw [← List.map_append, List.getElem?_map] at hd
      obtain ⟨p, hp, rfl⟩ : ∃ p, (rw_ ++ rw_)[k]? = some p ∧ itD p = d := by
        cases q : (rw_ ++ rw_)[k]? with
        | none => rw [q] at hd; cases hd
        | some p => rw [q] at hd; exact ⟨p, rfl, by simpa using hd⟩
      have hpg : p.1 < 6 := by
        rcases List.mem_append.mp (List.mem_of_getElem? hp) with m | m <;> exact (hgood p m).1
      refine Ex.append (i := 0) (a := aH) (d := .int (Hh rw_ (k + 1))) rfl ?_ (EvL.cons ?_ EvL.nil) ?_ ?_ (by rfl) (by rfl) (by rfl) (by rfl) (by rfl) (by kernel_rfl)
      · tm_at "kl ev"
      · rw [Hh_succ hp hpg]
        refine Ev.bin (a := .int (Hh rw_ k + 1)) (b := .int (itK p)) (Ev.bin (a := .int (Hh rw_ k)) (b := .int 1) (Ev.subOwn (a := aH) (ds := htD rw_ (k + 1)) (k := -1) ?_ (.head _) ?_ (htD_last rw_ k) (by omega) (by omega) (by intros; rfl)) Ev.int BinIs.addI) (Ev.sub (d := itD p) (e := .int 2) ?_ Ev.int (ItIs.tup rfl) (by intros; rfl)) BinIs.subI
        · tm_at "kl ev"
        · tm_at "kl ev"
        · tm_at "kl ev"
      · refine Ex.turnO ?_ ?_
        · show [(aH, htD rw_ (k + 2))] = [(aH, _)]
          rw [← htD_next]
        · tm_at "kl sub"
      · rw [htD_len]; omega
    · show Ex s₀ _ _ [(aH, htD rw_ 13)] _ _ _
      have hM : Hh rw_ low ∈ (List.range 6).map (Hh rw_) := List.mem_map.mpr ⟨low, List.mem_range.mpr l1, rfl⟩
      have hmin : ∀ x ∈ (List.range 6).map (Hh rw_), Hh rw_ low ≤ x := fun x hx => by
        obtain ⟨i, hi, rfl⟩ := List.mem_map.mp hx
        exact l2 i (List.mem_range.mp hi)
      refine Ex.assign (d := .int (Hh rw_ low)) ?_ (.inr ⟨by kernel_rfl, s₀.heap.objs.size + 2, by kernel_rfl⟩) ?_ (by kernel_rfl)
      · refine Ev.callv (d₁ := .lst (((List.range 6).map (Hh rw_)).map .int)) (ds := []) (Ev.glob (by kernel_rfl) B'.g_min (by kernel_rfl)) (.inl ⟨_, rfl⟩) (by rfl) (Ev.eq (Ev.sliceOwn (a := aH) (ds := htD rw_ 13) (lo := Option.none) (hi := some 6) ?_ (.head _) EvP.none (EvP.some Ev.int) (by rw [htD_len]; decide)) ?_) EvL.nil (by rfl) (Con.minL okd.handled hM hmin)
        · tm_at "kl ev"
        · have : Kl.sliceL (htD rw_ 13) none (some ((6 : Nat) : Int)) = (htD rw_ 13).take 6 := sliceL_take _ 6
          rw [show (6 : Int) = ((6 : Nat) : Int) from rfl, this, List.map_map]; rfl
      refine Ex.assign (d := .int (0 + (low : Nat))) ?_ (.inl (by kernel_rfl)) ?_ (by kernel_rfl)
      · have hlm : (0 + (low : Nat) : Int) ∈ (((List.range 6).filter fun k => decide (Hh rw_ k = Hh rw_ low)).map fun k => (0 + (k : Nat) : Int)) := List.mem_map.mpr ⟨low, List.mem_filter.mpr ⟨List.mem_range.mpr l1, by simp⟩, rfl⟩
        have hlx : ∀ x ∈ (((List.range 6).filter fun k => decide (Hh rw_ k = Hh rw_ low)).map fun k => (0 + (k : Nat) : Int)), x ≤ (0 + (low : Nat) : Int) := fun x hx => by
          obtain ⟨i, hi, rfl⟩ := List.mem_map.mp hx
          obtain ⟨i1, i2⟩ := List.mem_filter.mp hi
          have i1 := List.mem_range.mp i1
          have i2 : Hh rw_ i = Hh rw_ low := by simpa using i2
          have : ¬ low < i := fun z => by have := l3 i z i1; omega
          omega
        refine Ev.callv (d₁ := .lst ((((List.range 6).filter fun k => decide (Hh rw_ k = Hh rw_ low)).map fun k => (0 + (k : Nat) : Int)).map .int)) (ds := []) (Ev.glob (by kernel_rfl) B'.g_max (by kernel_rfl)) (.inl ⟨_, rfl⟩) (by rfl) (Ev.eq (EvN.ev (EvN.comp (ds := rangeD 0 6) (t := lowD rw_ (Hh rw_ low)) (f := id) (cl := [(Str.ofString "least", s₀.heap.objs.size + 2), (Str.ofString "heights", s₀.heap.objs.size + 1)]) (Lf := [(Str.ofString "heights", .cell aH), (Str.ofString "least", .int (Hh rw_ low))]) (EvI.rng1 (n := 6) (Ev.glob (by kernel_rfl) B'.g_range (by kernel_rfl)) (by rfl) Ev.int (by decide)) (by rfl) ?_ ?_ (by rfl) (by decide +kernel) (by decide +kernel) (by kernel_rfl) okd.handled (by rw [rangeD_len]; decide) (fun d hd C Dl I => ?_) (fun d hd _ C Dl I => ?_) (by intro _; rfl))) (by rw [lowD_all])) EvL.nil (by rfl) (Con.maxL okd.handled hlm hlx)
        · refine FreeIs.cons ?_ ?_ ?_ ?_ (FreeIs.cons ?_ ?_ ?_ ?_ FreeIs.nil)
          · tm_at "kl look"
          · exact .inl (by kernel_rfl)
          · exact .inl (by kernel_rfl)
          · rfl
          · tm_at "kl look"
          · exact .inl (by kernel_rfl)
          · exact .inl (by kernel_rfl)
          · rfl
        · intro x b e
          have e' := lookup_mem e
          rcases List.mem_cons.mp e' with q | q
          · cases q; rfl
          · rcases List.mem_cons.mp q with q | q
            · cases q; rfl
            · cases q
        · obtain ⟨i, hi, rfl⟩ := List.mem_map.mp (show d ∈ (List.range 6).map fun i => D.int (0 + (i : Nat)) from hd)
          have hi := List.mem_range.mp hi
          refine Ifs.one (Tst.cmp (d := .int (Hh rw_ i)) (e := .int (Hh rw_ low)) (Ev.subOwn (a := aH) (ds := htD rw_ 13) (k := (i : Nat)) ?_ (.head _) (Ev.eq (d := .int (0 + (i : Nat))) ?_ (by rw [Int.zero_add])) (htD_at (by omega)) (by omega) (by omega) (by intros; rfl)) ?_ ?_ (by with_unfolding_all rfl))
          · tm_at "kl ev"
          · tm_at "kl ev"
          · tm_at "kl ev"
          · have e : lowD rw_ (Hh rw_ low) (.int (0 + (i : Nat))) = (Hh rw_ i == Hh rw_ low) := by
              show decide (Hh rw_ (0 + (i : Nat) : Int).toNat = Hh rw_ low) = decide (Hh rw_ i = Hh rw_ low)
              rw [show (0 + (i : Nat) : Int).toNat = i by omega]
            rw [e]; exact CmpIs.eqI
        · refine Ev.name ?_
          show List.lookup _ _ = some d
          tm_at "kl look"
      refine Ex.assign (d := .int v) ?_ (.inl (by kernel_rfl)) ?_ (by rfl)
      · refine Ev.callv (d₁ := .lst (rw_.map itD)) (ds := [.int ch]) (Ev.glob (by kernel_rfl) B'.g_law_ring (by kernel_rfl)) B'.f_law_ring.fun (by rfl) ?_ (EvL.cons ?_ EvL.nil) (by rfl) (ring_c B' ok4 h6 (fun p hp => (hgood p hp).1) hc0 hc1 hcomes)
        · tm_at "kl ev"
        · tm_at "kl ev"
      refine Ex.forI (ds := rangeD 0 6) 6 (fun _ => [(Str.ofString "row", .lst (rw_.map itD)), (Str.ofString "pieces", .lst (strD (pieces rw_ ch))), (Str.ofString "heights", .cell aH), (Str.ofString "low", .int (0 + (low : Nat))), (Str.ofString "value", .int v)])
        (fun _ => [(aH, htD rw_ 13)]) rangeD_len (EvI.rng1 (n := 6) (Ev.glob (by kernel_rfl) B'.g_range (by kernel_rfl)) (by rfl) Ev.int (by decide)) ?_ rfl (.inr ⟨by kernel_rfl, s₀.heap.objs.size + 3, by kernel_rfl⟩) okd.handled ?_ ?_ ?_ (by intro _; rfl)
      · tm_at "kl sub"
      · intro k d hd I g' hg'
        have hk : k < 6 := by
          apply Nat.lt_of_not_le; intro z
          rw [List.getElem?_eq_none (by rw [rangeD_len]; exact z)] at hd; cases hd
        rw [rangeD_get hk] at hd
        cases hd
        have T₂ : Top prog w g' := T'.keep hg'
        have B₂ := T₂.b
        have z12 : (12 : Nat) ≤ sizeLine := by decide
        have lr : (rw_.map itD).length = 6 := by simp [h6]
        have hpl : (pieces rw_ ch).length = 6 := by simp [pieces, h6]
        have lp : (strD (pieces rw_ ch)).length = 6 := by simp [strD, hpl]
        obtain ⟨cs, a, b, m1, m2, m3, m4, m5, m6, m7, m8, m9, m10, m11⟩ := mail_facts (ch := ch) h6 k
        refine Ex.assign (d := .lst ((rot k rw_).map itD)) (Ev.eq (d := .lst (Kl.sliceL (rw_.map itD) (some (0 + (k : Nat))) none ++ Kl.sliceL (rw_.map itD) none (some (0 + (k : Nat))))) (Ev.bin (a := .lst (Kl.sliceL (rw_.map itD) (some (0 + (k : Nat))) none)) (b := .lst (Kl.sliceL (rw_.map itD) none (some (0 + (k : Nat))))) (Ev.sliceL ?_ (EvP.some ?_) EvP.none (by rw [lr]; decide)) (Ev.sliceL ?_ EvP.none (EvP.some ?_) (by rw [lr]; decide)) (BinIs.addL ?_)) ?_) (.inr ⟨by kernel_rfl, s₀.heap.objs.size + 4, by kernel_rfl⟩) ?_ (by kernel_rfl)
        · tm_at "kl ev"
        · tm_at "kl ev"
        · tm_at "kl ev"
        · tm_at "kl ev"
        · rw [Int.zero_add, sliceL_drop, sliceL_take, List.length_drop, List.length_take, lr]; omega
        · rw [Int.zero_add, sliceL_drop, sliceL_take, ← List.map_drop, ← List.map_take, ← List.map_append]; rfl
        refine Ex.assign (d := .lst (strD (rot k (pieces rw_ ch)))) (Ev.eq (d := .lst (Kl.sliceL (strD (pieces rw_ ch)) (some (0 + (k : Nat))) none ++ Kl.sliceL (strD (pieces rw_ ch)) none (some (0 + (k : Nat))))) (Ev.bin (a := .lst (Kl.sliceL (strD (pieces rw_ ch)) (some (0 + (k : Nat))) none)) (b := .lst (Kl.sliceL (strD (pieces rw_ ch)) none (some (0 + (k : Nat))))) (Ev.sliceL ?_ (EvP.some ?_) EvP.none (by rw [lp]; decide)) (Ev.sliceL ?_ EvP.none (EvP.some ?_) (by rw [lp]; decide)) (BinIs.addL ?_)) ?_) (.inr ⟨by kernel_rfl, s₀.heap.objs.size + 5, by kernel_rfl⟩) ?_ (by kernel_rfl)
        · tm_at "kl ev"
        · tm_at "kl ev"
        · tm_at "kl ev"
        · tm_at "kl ev"
        · rw [Int.zero_add, sliceL_drop, sliceL_take, List.length_drop, List.length_take, lp]; omega
        · rw [Int.zero_add, sliceL_drop, sliceL_take]
          unfold strD rot
          rw [← List.map_drop, ← List.map_take, ← List.map_append]
        have hjl : (joinL (rot k (pieces rw_ ch)) (rot k rw_)).length = 6 := by
          unfold joinL
          rw [List.length_zipWith, m10, rot_len, h6]; rfl
        have sep : (Str.ofString "").cps = #[] := by decide
        have zl : (1000 : Nat) ≤ sizeLine := by decide
        have hcl : (cats (joinL (rot k (pieces rw_ ch)) (rot k rw_))).length ≤ sizeLine := by
          rw [m1]; show (lines cs).toArray.size ≤ _; simp; omega
        have hev : (evened cs).length ≤ 1000 := by
          have q1 := mailL_len (rot k rw_)
          rw [m8, rot_len, h6] at q1
          rw [m7]
          simp at q1 ⊢; omega
        have hce : (cats ((rot k (pieces rw_ ch)).map (· ++ (⟨#[13, 10]⟩ : Str)))).length ≤ sizeLine := by
          rw [m2]; show (evened cs).toArray.size ≤ _; simp; omega
        refine Ex.assign (d := .str ⟨(evened cs).toArray⟩) ?_ (.inl (by kernel_rfl)) ?_ (by kernel_rfl)
        · refine Ev.callv (d₁ := .str ⟨(lines cs).toArray⟩) (ds := []) (Ev.glob (by kernel_rfl) B₂.g_fix_eols (by kernel_rfl)) B₂.f_fix_eols.fun (by rfl) ?_ EvL.nil (by rfl) (fix_eols_c B₂ ok2 rfl m3 m4 (by omega) (by simp; omega))
          rw [← m1]
          refine Ev.meth1 (d := .str (Str.ofString "")) (d₁ := .lst (strD (joinL (rot k (pieces rw_ ch)) (rot k rw_)))) Ev.str TyIs.str (Ev.eq (EvN.ev (EvN.comp (ds := rangeD 0 6) (t := fun _ => true) (f := joinD (joinL (rot k (pieces rw_ ch)) (rot k rw_))) (cl := [(Str.ofString "turned", s₀.heap.objs.size + 4), (Str.ofString "laid", s₀.heap.objs.size + 5)]) (Lf := [(Str.ofString "laid", .lst (strD (rot k (pieces rw_ ch)))), (Str.ofString "turned", .lst ((rot k rw_).map itD))]) (EvI.rng1 (n := 6) (Ev.glob (by kernel_rfl) B₂.g_range (by kernel_rfl)) (by rfl) Ev.int (by decide)) (by rfl) ?_ ?_ (by rfl) (by decide +kernel) (by decide +kernel) (by kernel_rfl) okd.handled (by rw [rangeD_len]; decide) (fun _ _ _ _ _ => Ifs.nil) (fun d hd _ C Dl I => ?_) (by intro _; rfl))) (by rw [joinD_all _ hjl])) (Con.join sep hcl) PySem.F.plainAttrs_str PySem.F.slot_str_join PySem.F.type_str_join (by rfl) (by rfl) (by rfl) (by rfl) (by rfl)
          · refine FreeIs.cons ?_ ?_ ?_ ?_ (FreeIs.cons ?_ ?_ ?_ ?_ FreeIs.nil)
            · tm_at "kl look"
            · exact .inl (by kernel_rfl)
            · exact .inl (by kernel_rfl)
            · rfl
            · tm_at "kl look"
            · exact .inl (by kernel_rfl)
            · exact .inl (by kernel_rfl)
            · rfl
          · intro x b e
            have e' := lookup_mem e
            rcases List.mem_cons.mp e' with q | q
            · cases q; rfl
            · rcases List.mem_cons.mp q with q | q
              · cases q; rfl
              · cases q
          · obtain ⟨i, hi, rfl⟩ := List.mem_map.mp (show d ∈ (List.range 6).map fun i => D.int (0 + (i : Nat)) from hd)
            have hi := List.mem_range.mp hi
            obtain ⟨q, hq⟩ : ∃ q, (rot k rw_)[i]? = some q := ⟨_, List.getElem?_eq_getElem (by rw [rot_len, h6]; exact hi)⟩
            obtain ⟨x, hx⟩ : ∃ x, (rot k (pieces rw_ ch))[i]? = some x := ⟨_, List.getElem?_eq_getElem (by rw [m10]; exact hi)⟩
            have hjd : joinD (joinL (rot k (pieces rw_ ch)) (rot k rw_)) (.int (0 + (i : Nat))) = .str (x ++ itE q) := by
              unfold joinL
              show D.str ((List.zipWith (fun a p => a ++ itE p) (rot k (pieces rw_ ch)) (rot k rw_)).getD (0 + (i : Nat) : Int).toNat ⟨#[]⟩) = _
              have : (0 + (i : Nat) : Int).toNat = i := by omega
              rw [this, List.getD_eq_getElem?_getD, List.getElem?_zipWith, hx, hq]; rfl
            rw [hjd]
            have hxl := m11 x (List.mem_of_getElem? hx)
            have hel : (itE q).length ≤ 2 := by unfold itE; split; decide; split <;> decide
            refine Ev.bin (a := .str x) (b := .str (itE q)) (Ev.sub (d := .lst (strD (rot k (pieces rw_ ch)))) (e := .int (0 + (i : Nat))) ?_ ?_ (ItIs.lst ?_ (by omega) (by omega)) (by intros; rfl)) (Ev.sub (d := itD q) (e := .int 1) (Ev.sub (d := .lst ((rot k rw_).map itD)) (e := .int (0 + (i : Nat))) ?_ ?_ (ItIs.lst ?_ (by omega) (by omega)) (by intros; rfl)) Ev.int (ItIs.tup rfl) (by intros; rfl)) (BinIs.addS (by omega))
            · tm_at "kl ev"
            · tm_at "kl ev"
            · unfold strD
              rw [pyIdx_map]
              unfold pyIdx
              rw [if_pos (by omega), show (0 + (i : Nat) : Int).toNat = i by omega, hx]; rfl
            · tm_at "kl ev"
            · tm_at "kl ev"
            · rw [pyIdx_map]
              unfold pyIdx
              rw [if_pos (by omega), show (0 + (i : Nat) : Int).toNat = i by omega, hq]; rfl
        refine Ex.ite (b := (⟨(evened cs).toArray⟩ : Str) != ⟨(evened cs).toArray⟩) (Tst.cmp (d := .str ⟨(evened cs).toArray⟩) (e := .str ⟨(evened cs).toArray⟩) ?_ ?_ CmpIs.neS (by with_unfolding_all rfl)) (fun z => by simp at z) (fun _ => Ex.done ?_)
        · tm_at "kl ev"
        · rw [← m2]
          refine Ev.meth1 (d := .str (Str.ofString "")) (d₁ := .lst (strD ((rot k (pieces rw_ ch)).map (· ++ (⟨#[13, 10]⟩ : Str))))) Ev.str TyIs.str (Ev.eq (EvN.ev (EvN.comp (ds := strD (rot k (pieces rw_ ch))) (t := fun _ => true) (f := lineD) (cl := []) (Lf := []) (EvI.lst ?_) (by rfl) FreeIs.nil (fun x b e => by cases e) (by rfl) (by decide +kernel) (by decide +kernel) (by kernel_rfl) okd.handled (by simp [strD, m10]) (fun _ _ _ _ _ => Ifs.nil) (fun d hd _ C Dl I => ?_) (by intro _; rfl))) (by rw [lineD_all])) (Con.join sep hce) PySem.F.plainAttrs_str PySem.F.slot_str_join PySem.F.type_str_join (by rfl) (by rfl) (by rfl) (by rfl) (by rfl)
          · tm_at "kl ev"
          · obtain ⟨x, hx, rfl⟩ := List.mem_map.mp (show d ∈ (rot k (pieces rw_ ch)).map D.str from hd)
            have hxl := m11 x hx
            refine Ev.bin (a := .str x) (b := .str (⟨#[13, 10]⟩ : Str)) ?_ Ev.str (BinIs.addS (by show x.length + 2 ≤ _; omega))
            tm_at "kl ev"
        refine Ex.own (ds := []) (EvN.list EvL.nil) (.inl (by kernel_rfl)) (fun aN haN => ?_) (by rfl)
        have hrl : (rot k rw_).length = 6 := by rw [rot_len, h6]
        refine Ex.safe (ws := rot k rw_) (a := a) (b := b) T₂ okd hfr' rfl (fun p hp => hgood p (rot_mem hp)) (by omega) (by omega) m8 m9 (Ev.glob (by kernel_rfl) B₂.g_safe_string (by kernel_rfl)) (by rfl) (Ev.tuple (EvL.cons (Ev.eq (d := .str ⟨(evened cs).toArray⟩) ?_ (by rw [m7]; rfl)) (EvL.cons ?_ EvL.nil)) (Nat.le_of_ble_eq_true rfl)) (EvL.cons Ev.str (EvL.cons (Ev.glob (by kernel_rfl) B₂.g_law_reckon (by kernel_rfl)) EvL.nil)) (by rfl) (.inl (by kernel_rfl)) (fun st hst => ?_) (fun n p kk hno => ?_) (by rfl)
        · tm_at "kl ev"
        · tm_at "kl ev"
        · have hkl : k = low := by
            apply Classical.byContradiction; intro z
            obtain ⟨_, _, _, _, _, _, _, _, q⟩ := hother k hk z
            rw [hst] at q; cases q
          subst hkl
          have hsv : st = [v] := by rw [hst] at hlow; exact Except.ok.inj hlow
          subst hsv
          refine Ex.ite (b := ((0 + (k : Nat) : Int) == 0 + (k : Nat))) (Tst.cmp (d := .int (0 + (k : Nat))) (e := .int (0 + (k : Nat))) ?_ ?_ CmpIs.eqI (by with_unfolding_all rfl)) (fun _ => ?_) (fun z => by simp at z)
          · tm_at "kl ev"
          · tm_at "kl ev"
          refine Ex.ite (b := !PyData.eqv (D.tup [.lst [.int v], .str (sT [13, 10])]).py (D.tup [.lst [.int v], .str (sT [13, 10])]).py) (Tst.cmp (d := .tup [.lst [.int v], .str (sT [13, 10])]) (e := .tup [.lst [.int v], .str (sT [13, 10])]) ?_ ?_ (CmpIs.neP (by rfl) (by rfl) (shaped_two v (by decide +kernel)) (shaped_two v (by decide +kernel)) okd.c) (by with_unfolding_all rfl)) (fun z => by rw [eqv_two] at z; cases z) (fun _ => Ex.done (Ex.done ?_))
          · show Ev _ ((_, .tup [.lst [.int v], .str (sT [13, 10])]) :: _) _ _ _
            tm_at "kl ev"
          · refine Ev.tuple (EvL.cons (Ev.list (EvL.cons ?_ EvL.nil) (Nat.le_of_ble_eq_true rfl)) (EvL.cons Ev.str EvL.nil)) (Nat.le_of_ble_eq_true rfl)
            tm_at "kl ev"
          refine Ex.forget (Ex.turn ?_) (.tail _ (.head _)) ?_ ?_
          · tm_at "kl sub"
          · intro x b e
            exact .tail _ (.tail _ (cellW_of e))
          · intro q hq
            rcases List.mem_cons.mp hq with rfl | hq
            · exact .head _
            · cases hq
        · have hkl : k ≠ low := fun z => by rw [z, hlow] at hno; cases hno
          obtain ⟨at_, p', n', a1, a2, a3, a4, a5, a6⟩ := hother k hk hkl
          rw [hno] at a6
          have a7 := Except.error.inj a6
          obtain ⟨rfl, a8⟩ := Prod.mk.inj a7
          obtain ⟨rfl, rfl⟩ := Prod.mk.inj a8
          refine Ex.ite (b := ((0 + (k : Nat) : Int) == 0 + (low : Nat))) (Tst.cmp (d := .int (0 + (k : Nat))) (e := .int (0 + (low : Nat))) ?_ ?_ CmpIs.eqI (by with_unfolding_all rfl)) (fun z => by simp at z; omega) (fun _ => ?_)
          · tm_at "kl ev"
          · tm_at "kl ev"
          refine Ex.assign (d := .int (0 + (kk : Nat))) ?_ (.inl (by kernel_rfl)) ?_ (by kernel_rfl)
          · have ham : (0 + (kk : Nat) : Int) ∈ (((List.range 6).filter fun j => decide (Hh rw_ (k + j + 1) ≤ Hh rw_ k)).map fun j => (0 + (j : Nat) : Int)) := List.mem_map.mpr ⟨kk, List.mem_filter.mpr ⟨List.mem_range.mpr a1, by simpa using a2⟩, rfl⟩
            have hax : ∀ x ∈ (((List.range 6).filter fun j => decide (Hh rw_ (k + j + 1) ≤ Hh rw_ k)).map fun j => (0 + (j : Nat) : Int)), (0 + (kk : Nat) : Int) ≤ x := fun x hx => by
              obtain ⟨i, hi, rfl⟩ := List.mem_map.mp hx
              obtain ⟨i1, i2⟩ := List.mem_filter.mp hi
              have i2 : Hh rw_ (k + i + 1) ≤ Hh rw_ k := by simpa using i2
              have : ¬ i < kk := fun z => by have := a3 i z; omega
              omega
            refine Ev.callv (d₁ := .lst ((((List.range 6).filter fun j => decide (Hh rw_ (k + j + 1) ≤ Hh rw_ k)).map fun j => (0 + (j : Nat) : Int)).map .int)) (ds := []) (Ev.glob (by kernel_rfl) B₂.g_min (by kernel_rfl)) (.inl ⟨_, rfl⟩) (by rfl) (Ev.eq (EvN.ev (EvN.comp (ds := rangeD 0 6) (t := atD rw_ k) (f := id) (cl := [(Str.ofString "start", s₀.heap.objs.size + 3), (Str.ofString "heights", s₀.heap.objs.size + 1)]) (Lf := [(Str.ofString "heights", .cell aH), (Str.ofString "start", .int (0 + (k : Nat)))]) (EvI.rng1 (n := 6) (Ev.glob (by kernel_rfl) B₂.g_range (by kernel_rfl)) (by rfl) Ev.int (by decide)) (by rfl) ?_ ?_ (by rfl) (by decide +kernel) (by decide +kernel) (by kernel_rfl) okd.handled (by rw [rangeD_len]; decide) (fun d hd C Dl I => ?_) (fun d hd _ C Dl I => ?_) (by intro _; rfl))) (by rw [atD_all])) EvL.nil (by rfl) (Con.minL okd.handled ham hax)
            · refine FreeIs.cons ?_ ?_ ?_ ?_ (FreeIs.cons ?_ ?_ ?_ ?_ FreeIs.nil)
              · tm_at "kl look"
              · exact .inl (by kernel_rfl)
              · exact .inl (by kernel_rfl)
              · rfl
              · tm_at "kl look"
              · exact .inl (by kernel_rfl)
              · exact .inl (by kernel_rfl)
              · rfl
            · intro x b e
              have e' := lookup_mem e
              rcases List.mem_cons.mp e' with q | q
              · cases q; rfl
              · rcases List.mem_cons.mp q with q | q
                · cases q; rfl
                · cases q
            · obtain ⟨i, hi, rfl⟩ := List.mem_map.mp (show d ∈ (List.range 6).map fun i => D.int (0 + (i : Nat)) from hd)
              have hi := List.mem_range.mp hi
              refine Ifs.one (Tst.cmp (d := .int (Hh rw_ (k + i + 1))) (e := .int (Hh rw_ k)) (Ev.subOwn (a := aH) (ds := htD rw_ 13) (k := ((k + i + 1 : Nat) : Int)) ?_ (.tail _ (.head _)) (Ev.eq (d := .int (0 + (k : Nat) + (0 + (i : Nat)) + 1)) (Ev.bin (a := .int (0 + (k : Nat) + (0 + (i : Nat)))) (b := .int 1) (Ev.bin (a := .int (0 + (k : Nat))) (b := .int (0 + (i : Nat))) ?_ ?_ BinIs.addI) Ev.int BinIs.addI) (by congr 1; omega)) (htD_at (by omega)) (by omega) (by omega) (by intros; rfl)) (Ev.subOwn (a := aH) (ds := htD rw_ 13) (k := (k : Nat)) ?_ (.tail _ (.head _)) (Ev.eq (d := .int (0 + (k : Nat))) ?_ (by rw [Int.zero_add])) (htD_at (by omega)) (by omega) (by omega) (by intros; rfl)) ?_ (by with_unfolding_all rfl))
              · tm_at "kl ev"
              · tm_at "kl ev"
              · tm_at "kl ev"
              · tm_at "kl ev"
              · tm_at "kl ev"
              · have e : atD rw_ k (.int (0 + (i : Nat))) = decide (Hh rw_ (k + i + 1) ≤ Hh rw_ k) := by
                  show decide (Hh rw_ (k + (0 + (i : Nat) : Int).toNat + 1) ≤ Hh rw_ k) = _
                  rw [show (0 + (i : Nat) : Int).toNat = i by omega]
                rw [e]; exact CmpIs.leI
            · refine Ev.name ?_
              show List.lookup _ _ = some d
              tm_at "kl look"
          refine Ex.ite (b := failS != failS) (Tst.cmp (d := .str failS) (e := .str failS) ?_ Ev.str CmpIs.neS (by with_unfolding_all rfl)) (fun z => by simp at z) (fun _ => Ex.done ?_)
          · tm_at "kl ev"
          refine Ex.compLst (ds := [.exc (n : Nat) (itW p) (kk : Nat) Option.none]) (t := fun _ => true) (f := excD) (cl := []) (Lf := []) (by kernel_rfl) (EvI.own (l := aN) ?_ (.head _)) (by rfl) FreeIs.nil (fun x b e => by cases e) (by rfl) (by decide +kernel) (by decide +kernel) (by kernel_rfl) (.inl (by kernel_rfl)) okd.handled (by simp) (fun _ _ _ _ _ => Ifs.nil) (fun d hd _ C Dl I => ?_) ?_ (by intro _; rfl)
          · tm_at "kl ev"
          · have : d = .exc (n : Nat) (itW p) (kk : Nat) Option.none := by simpa using hd
            subst this
            show Ev _ _ _ _ (.tup [.int (n : Nat), .str (itW p), .int (kk : Nat)])
            refine Ev.tuple (EvL.cons (exc_attr (raw := Option.none) (ci := (n : Nat)) (x := itW p) (pi := (kk : Nat)) T₂.cls ?_ (.inl ⟨rfl, rfl⟩) (by rfl) (by intros; rfl)) (EvL.cons (exc_attr (raw := Option.none) (ci := (n : Nat)) (x := itW p) (pi := (kk : Nat)) T₂.cls ?_ (.inr (.inl ⟨rfl, rfl⟩)) (by rfl) (by intros; rfl)) (EvL.cons (exc_attr (raw := Option.none) (ci := (n : Nat)) (x := itW p) (pi := (kk : Nat)) T₂.cls ?_ (.inr (.inr ⟨rfl, rfl⟩)) (by rfl) (by intros; rfl)) EvL.nil))) (Nat.le_of_ble_eq_true rfl)
            · tm_at "kl ev"
            · tm_at "kl ev"
            · tm_at "kl ev"
          have hitem : pyIdx ((rot k rw_).map itD) (0 + (kk : Nat)) = some (itD p) := by
            rw [pyIdx_map]
            unfold pyIdx
            rw [if_pos (by omega), show (0 + (kk : Nat) : Int).toNat = kk by omega, a4]; rfl
          refine Ex.ite (b := !PyData.eqv (D.lst [.tup [.int (n : Nat), .str (itW p), .int (kk : Nat)]]).py (D.lst [.tup [.int (n : Nat), .str (itW p), .int (kk : Nat)]]).py) (Tst.cmp (d := .lst [.tup [.int (n : Nat), .str (itW p), .int (kk : Nat)]]) (e := .lst [.tup [.int (n : Nat), .str (itW p), .int (kk : Nat)]]) ?_ (Ev.list (EvL.cons (Ev.tuple (EvL.cons (Ev.eq (d := .int (Hh rw_ (k + kk) - Hh rw_ k)) (Ev.bin (a := .int (Hh rw_ (k + kk))) (b := .int (Hh rw_ k)) (Ev.subOwn (a := aH) (ds := htD rw_ 13) (k := ((k + kk : Nat) : Int)) ?_ (.tail _ (.head _)) (Ev.eq (d := .int (0 + (k : Nat) + (0 + (kk : Nat)))) (Ev.bin (a := .int (0 + (k : Nat))) (b := .int (0 + (kk : Nat))) ?_ ?_ BinIs.addI) (by congr 1; omega)) (htD_at (by omega)) (by omega) (by omega) (by intros; rfl)) (Ev.subOwn (a := aH) (ds := htD rw_ 13) (k := (k : Nat)) ?_ (.tail _ (.head _)) (Ev.eq (d := .int (0 + (k : Nat))) ?_ (by rw [Int.zero_add])) (htD_at (by omega)) (by omega) (by omega) (by intros; rfl)) BinIs.subI) (by rw [a5])) (EvL.cons (Ev.sub (d := itD p) (e := .int 0) (Ev.sub (d := .lst ((rot k rw_).map itD)) (e := .int (0 + (kk : Nat))) ?_ ?_ (ItIs.lst hitem (by omega) (by omega)) (by intros; rfl)) Ev.int (ItIs.tup rfl) (by intros; rfl)) (EvL.cons (Ev.eq (d := .int (0 + (kk : Nat))) ?_ (by rw [Int.zero_add])) EvL.nil))) (Nat.le_of_ble_eq_true rfl)) EvL.nil) (Nat.le_of_ble_eq_true rfl)) (CmpIs.neP (by rfl) (by rfl) (shaped_three _ _ (itW_ok p)) (shaped_three _ _ (itW_ok p)) okd.c) (by with_unfolding_all rfl)) (fun z => by rw [eqv_three] at z; cases z) (fun _ => Ex.done (Ex.done ?_))
          · show Ev _ ((_, .lst [.tup [.int (n : Nat), .str (itW p), .int (kk : Nat)]]) :: _) _ _ _
            tm_at "kl ev"
          · tm_at "kl ev"
          · tm_at "kl ev"
          · tm_at "kl ev"
          · tm_at "kl ev"
          · tm_at "kl ev"
          · tm_at "kl ev"
          · tm_at "kl ev"
          · tm_at "kl ev"
          refine Ex.forget (Ex.turn ?_) (.tail _ (.head _)) ?_ ?_
          · tm_at "kl sub"
          · intro x b e
            exact .tail _ (.tail _ (cellW_of e))
          · intro q hq
            rcases List.mem_cons.mp hq with rfl | hq
            · exact .head _
            · cases hq
      · refine Ex.retv (Ev.bool (b := true))
      · intro l k hk hm
        exact hm
    · intro l k hk hm
      rcases List.mem_cons.mp hm with e | e
      · exfalso
        have e2 := congrArg (fun p : Addr × List D => p.2[0]?) e
        have : (rw_.map itD ++ rw_.map itD)[0]? = some (itD rw_[0]) := by
          rw [List.getElem?_append_left (by simp; omega), List.getElem?_map, List.getElem?_eq_getElem (by omega)]; rfl
        simp only at e2
        rw [this] at e2
        unfold htD at e2
        simp [itD] at e2
      · cases e
end
end
section
open PySem PySem.W PySem.W.X PyProof.Rows PySem.W.ZRun PySem.Builtin.Re
set_option maxRecDepth 100000
noncomputable def posOf : Stmt → Pos
  | .FunctionDef _ _ _ _ _ _ _ _ _ p => p
  | _ => ⟨0, 0, 0, 0⟩
/-- a def of the top -/
noncomputable def recOf (name : Str) (i : Nat) : DefRec := ⟨name, parsOf (row i), bodyOf (row i), scopeOf (row i), posOf (row i)⟩
section
variable {p : Program} {loose : List Str} {mean : ExcName → Option Value} {mg mb : Str → Option Value} {h : Heap} {o : Obj} {es : Array DictEntry} {ep : Nat}
theorem keysStr_ok {es : Array DictEntry} (h : keysStr es = true) : StrKeys es := by
  intro e he
  have := List.all_eq_true.mp h e (Array.mem_toList_iff.mpr he)
  cases q : e.key with
  | str n t => exact ⟨n, t, rfl⟩
  | _ => rw [q] at this; cases this
theorem map_at {α β : Type} {f : α → β} {l : List α} {r : List β} (i : Nat) {x : α} {v : β} (e : l.map f = r) (a : l[i]? = some x) (b : r[i]? = some v) : f x = v := by
  subst e
  rw [List.getElem?_map, a] at b
  exact Option.some.inj b
theorem ns_find {a : Addr} {m : Str → Option Value} (H : h.Ns a m) (e : h.get? a = some o) (hd : o.data = .dict es ep) (x : Str) : m x = nsFind es x := by
  obtain ⟨o', es', ep', e', d', _, f⟩ := H
  rw [e] at e'; cases e'
  rw [hd] at d'; cases d'
  exact (f x).symm
theorem ns_with {a : Addr} (e : h.get? a = some o) (hd : o.data = .dict es ep) (hk : StrKeys es) : h.Ns a (fun x => nsFind es x) := ⟨o, es, ep, e, hd, hk, fun _ => rfl⟩
theorem fn_at (T : PyProof.Rows.Top p loose mean mg mb h) {d : DefRec} {i : Nat} {a : Addr} (hd : (recsOf p)[i]? = some d) (hm : mg d.name = some (.ref a)) : FnAt h a d.name d.params d.body d.scope := by
  obtain ⟨a', o, pm, cd, doc, e1, e2, e3, e4⟩ := T.fn d (List.mem_of_getElem? hd)
  rw [e1] at hm; cases hm
  exact ⟨o, pm, cd, doc, e2, e3, e4⟩
theorem offOk_is {m : Str → Option Value} (h : offOk m = true) : ∀ x ∈ offN, m x = none := fun x hx => by
  have := List.all_eq_true.mp h x hx
  simpa using this
variable {t : Lk} (H : ∀ a o, t a = some o → h.get? a = some o)
include H
theorem nsIn_ok {a : Nat} {P : (Str → Option Value) → Bool} (e : nsIn t a P = true) : ∃ m : Str → Option Value, h.Ns a m ∧ P m = true := by
  unfold nsIn at e
  split at e
  · rename_i o ho
    split at e
    · rename_i es ep hd
      rw [Bool.and_eq_true] at e
      exact ⟨_, ns_with (H _ _ ho) hd (keysStr_ok e.1), e.2⟩
    · cases e
  · cases e
theorem pat_at {a b : Nat} {g : Nat} {code : Array Nat} (e : patSh t a = some (.type "re.Pattern", none, [rawInt g, .none, .none, .ref b, rawInt 0])) (f : wordsAt t b = some code) : PatAt h a code g := by
  unfold patSh at e
  split at e
  · rename_i o ho
    split at e
    · rename_i vs hd
      split at e
      · rename_i x u y v l hl
        simp only [Option.some.injEq, Prod.mk.injEq] at e
        obtain ⟨e1, e2, rfl⟩ := e
        unfold wordsAt at f
        split at f
        · rename_i o' ho'
          split at f
          · rename_i ws n hw
            refine ⟨x, u, y, v, b, o, o', ws, n, H _ _ ho, e1, e2, ?_, H _ _ ho', hw, Option.some.inj f⟩
            rw [hd]; congr 1
            apply Array.toList_inj.mp; exact hl
          · cases f
        · cases f
      · cases e
    · cases e
  · cases e
theorem codeRec_at {c : Nat} {q : Str} (e : nameOf t c = some q) : h.CodeRec (.ref c) q := by
  unfold nameOf at e
  split at e
  · rename_i o ho
    split at e
    · rename_i vs hd
      split at e
      · rename_i q' u hq
        cases e
        exact ⟨c, o, vs, u, rfl, H _ _ ho, hd, hq⟩
      · cases e
    · cases e
  · cases e
theorem g_at (T : PyProof.Rows.Top p loose mean mg mb h) (hd : isDict (t 3) = true) (x : Str) : mg x = gOf t x := by
  unfold gOf
  cases q : t 3 with
  | none => rw [q] at hd; cases hd
  | some o =>
    rw [q] at hd
    simp only [isDict] at hd
    cases z : o.data with
    | dict es ep =>
      show mg x = (match o.data with | .dict es _ => nsFind es x | _ => none)
      rw [z]
      exact ns_find T.g (H _ _ q) z x
    | _ => rw [z] at hd; cases hd
variable {prog : Program} {w : World}
theorem zones_at (e : t 32 = some (zonesObj w)) :
    h.DictOf (PySem.strKind prog w) 32 zoneK := by
  refine ⟨_, _, _, H _ _ e, ⟨rfl, rfl, rfl⟩, rfl, fun d hd => ?_, ?_, by decide +kernel⟩
  · have hd' : d ∈ [_, _, _, _] := Array.mem_toList_iff.mpr hd
    rcases List.mem_cons.mp hd' with rfl | hd'
    · exact ⟨Str.ofString "GMT", strKind_is _ _ _ _, rfl⟩
    rcases List.mem_cons.mp hd' with rfl | hd'
    · exact ⟨Str.ofString "UTC", strKind_is _ _ _ _, rfl⟩
    rcases List.mem_cons.mp hd' with rfl | hd'
    · exact ⟨Str.ofString "UT", strKind_is _ _ _ _, rfl⟩
    rcases List.mem_cons.mp hd' with rfl | hd'
    · exact ⟨Str.ofString "Z", strKind_is _ _ _ _, rfl⟩
    · cases hd'
  · exact .cons (strKind_is _ _ _ _) rfl (.cons (strKind_is _ _ _ _) rfl (.cons (strKind_is _ _ _ _) rfl (.cons (strKind_is _ _ _ _) rfl .nil)))
variable (T : PyProof.Rows.Top p loose mean mg mb h) (Y : seenTop t = goodTop w)
include T Y
theorem g_top (i : Nat) {x : Str} {v : Value} (a : topNames[i]? = some x) (b : (goodTop w).2.1[i]? = some (some v)) : mg x = some v :=
  (g_at H T (congrArg (·.1) Y) x).trans (map_at i (congrArg (·.2.1) Y) a b)
theorem gv_top (i : Nat) {x : Str} {v : Value} (a : topNames[i]? = some x) (b : (goodTop w).2.1[i]? = some (some v)) : Gv h x v := .inl ⟨mg, T.g, g_top H T Y i a b⟩
theorem gv_boot (i : Nat) {x : Str} {v : Value} (a : topNames[i]? = some x) (b : (goodTop w).2.1[i]? = some none) (hb : bootBuiltins x = some v) (hn : x ≠ "__name__") : Gv h x v :=
  .inr ⟨mg, mb, T.g, (g_at H T (congrArg (·.1) Y) x).trans (map_at i (congrArg (·.2.1) Y) a b), T.b, (T.builtins x hn).trans hb⟩
theorem obj_top (i : Nat) {a : Nat} {o : Obj} (x : [115, 96, 76, 112, 132, 125, 32][i]? = some a) (b : (goodTop w).2.2.2.2.2.2.1[i]? = some (some o)) : h.get? a = some o := H _ _ (map_at i (congrArg (·.2.2.2.2.2.2.1) Y) x b)
theorem law_of (r : (recsOf p)[9]? = some (recOf (Str.ofString "law") 26)) : FnAt h 173 (Str.ofString "law") (parsOf (row 26)) (bodyOf (row 26)) (scopeOf (row 26)) := fn_at T r (g_top H T Y 27 rfl rfl)
/-- the top -/
theorem top_of
    (r_offset_from_tz_string : (recsOf p)[0]? = some (recOf (Str.ofString "offset_from_tz_string") 4))
    (r_unmatched : (recsOf p)[1]? = some (recOf (Str.ofString "unmatched") 5))
    (r_fix_eols : (recsOf p)[2]? = some (recOf (Str.ofString "_fix_eols") 14))
    (r_substitution_cost : (recsOf p)[3]? = some (recOf (Str.ofString "_substitution_cost") 19))
    (r_law_zone : (recsOf p)[4]? = some (recOf (Str.ofString "_law_zone") 21))
    (r_law_row : (recsOf p)[5]? = some (recOf (Str.ofString "_law_row") 22))
    (r_law_pieces : (recsOf p)[6]? = some (recOf (Str.ofString "_law_pieces") 23))
    (r_law_reckon : (recsOf p)[7]? = some (recOf (Str.ofString "_law_reckon") 24))
    (r_law_ring : (recsOf p)[8]? = some (recOf (Str.ofString "_law_ring") 25))
    : Top prog w h where
  b := {
    nl := T.nolimit
    g_len := gv_boot H T Y 0 rfl rfl (by kernel_rfl) (by decide +kernel)
    g_abs := gv_boot H T Y 1 rfl rfl (by kernel_rfl) (by decide +kernel)
    g_min := gv_boot H T Y 2 rfl rfl (by kernel_rfl) (by decide +kernel)
    g_max := gv_boot H T Y 3 rfl rfl (by kernel_rfl) (by decide +kernel)
    g_sum := gv_boot H T Y 4 rfl rfl (by kernel_rfl) (by decide +kernel)
    g_str := gv_boot H T Y 5 rfl rfl (by kernel_rfl) (by decide +kernel)
    g_int := gv_boot H T Y 6 rfl rfl (by kernel_rfl) (by decide +kernel)
    g_range := gv_boot H T Y 7 rfl rfl (by kernel_rfl) (by decide +kernel)
    g_UTC_ZONES := gv_top H T Y 8 rfl rfl
    g_TIMEZONE_RE := gv_top H T Y 9 rfl rfl
    g_offset_from_tz_string := gv_top H T Y 10 rfl rfl
    g_unmatched := gv_top H T Y 11 rfl rfl
    g_HEADER_TOKEN_RE := gv_top H T Y 12 rfl rfl
    g_HEADER_ESCAPE_RE := gv_top H T Y 13 rfl rfl
    g_twin_re_1 := gv_top H T Y 14 rfl rfl
    g_CRLF := gv_top H T Y 15 rfl rfl
    g_SMTPSenderRefused := gv_top H T Y 16 rfl rfl
    g_fix_eols := gv_top H T Y 17 rfl rfl
    g_safe_string := gv_top H T Y 18 rfl rfl
    g_MOVE_COST := gv_top H T Y 19 rfl rfl
    g_CASE_COST := gv_top H T Y 20 rfl rfl
    g_substitution_cost := gv_top H T Y 21 rfl rfl
    g_law_zone := gv_top H T Y 22 rfl rfl
    g_law_row := gv_top H T Y 23 rfl rfl
    g_law_pieces := gv_top H T Y 24 rfl rfl
    g_law_reckon := gv_top H T Y 25 rfl rfl
    g_law_ring := gv_top H T Y 26 rfl rfl
    f_offset_from_tz_string := fn_at T r_offset_from_tz_string (g_top H T Y 10 rfl rfl)
    f_unmatched := fn_at T r_unmatched (g_top H T Y 11 rfl rfl)
    f_fix_eols := fn_at T r_fix_eols (g_top H T Y 17 rfl rfl)
    f_substitution_cost := fn_at T r_substitution_cost (g_top H T Y 21 rfl rfl)
    f_law_zone := fn_at T r_law_zone (g_top H T Y 22 rfl rfl)
    f_law_row := fn_at T r_law_row (g_top H T Y 23 rfl rfl)
    f_law_pieces := fn_at T r_law_pieces (g_top H T Y 24 rfl rfl)
    f_law_reckon := fn_at T r_law_reckon (g_top H T Y 25 rfl rfl)
    f_law_ring := fn_at T r_law_ring (g_top H T Y 26 rfl rfl)
    p_37 := pat_at H (map_at 0 (congrArg (·.2.2.1) Y) rfl rfl) (map_at 0 (congrArg (·.2.2.2.1) Y) rfl rfl)
    p_56 := pat_at H (map_at 1 (congrArg (·.2.2.1) Y) rfl rfl) (map_at 1 (congrArg (·.2.2.2.1) Y) rfl rfl)
    p_61 := pat_at H (map_at 2 (congrArg (·.2.2.1) Y) rfl rfl) (map_at 2 (congrArg (·.2.2.2.1) Y) rfl rfl)
    p_66 := pat_at H (map_at 3 (congrArg (·.2.2.1) Y) rfl rfl) (map_at 3 (congrArg (·.2.2.2.1) Y) rfl rfl)
    zones := zones_at H (map_at 6 (congrArg (·.2.2.2.2.2.2.1) Y) rfl rfl) }
  cls := {
    c := obj_top H T Y 0 rfl rfl
    c1 := obj_top H T Y 1 rfl rfl
    c2 := obj_top H T Y 2 rfl rfl
    n := by
      obtain ⟨m, a, b⟩ := nsIn_ok H (List.cons.inj (congrArg (·.2.2.2.2.2.2.2) Y)).1
      rw [Bool.and_eq_true] at b
      exact ⟨m, a, by simpa using b.2, offOk_is b.1⟩
    n1 := by
      obtain ⟨m, a, b⟩ := nsIn_ok H (List.cons.inj (List.cons.inj (congrArg (·.2.2.2.2.2.2.2) Y)).2).1
      exact ⟨m, a, offOk_is b⟩
    n2 := by
      obtain ⟨m, a, b⟩ := nsIn_ok H (List.cons.inj (List.cons.inj (List.cons.inj (congrArg (·.2.2.2.2.2.2.2) Y)).2).2).1
      exact ⟨m, a, offOk_is b⟩ }
  ini := ⟨_, _, .ref 111, .none, obj_top H T Y 3 rfl rfl, rfl, rfl, codeRec_at H (map_at 0 (congrArg (·.2.2.2.2.1) Y) rfl rfl)⟩
  fc := by
    have e : clsOf t 163 = some (.type "function") := congrArg (·.2.2.2.2.2.1) Y
    unfold clsOf at e
    obtain ⟨o, ho, hc⟩ := Option.map_eq_some_iff.mp e
    exact ⟨o, H _ _ ho, hc⟩
  sf := ⟨⟨_, _, .ref 131, .none, obj_top H T Y 4 rfl rfl, rfl, codeRec_at H (map_at 1 (congrArg (·.2.2.2.2.1) Y) rfl rfl)⟩, _, _, obj_top H T Y 5 rfl rfl, rfl⟩
end
/-- the script as it was laid -/
theorem ints_rl {P : Params} {h : Heap} {X : List Addr} : ∀ {l : List Int} {vs : List Value}, WellAll P h vs (ofPys (l.map PyData.int)) → RL h X vs (l.map D.int)
  | [], vs, w => by
    simp only [List.map_nil, ofPys] at w
    cases w; exact .nil
  | x :: l, vs, w => by
    simp only [List.map_cons, ofPys, ofPy] at w
    cases w with
    | cons a b =>
      cases a
      exact .cons (.int _ _) (ints_rl b)
theorem script_rv {P : Params} {h : Heap} {l : List Int} {v : Value} (w : Well P h v (ofPy (PyData.list (l.map PyData.int)))) : RV h [] v (.lst (l.map D.int)) := by
  simp only [ofPy] at w
  cases w with
  | list e a => exact .lst (by simp) e (by simpa using ints_rl a)
end
end Kl
section
open PySem PySem.W PySem.W.X PyProof.Rows PySem.W.ZRun
set_option maxRecDepth 100000
theorem Kl.post_ok (l : List Int) : PySem.Challenge.rw_kl0470_01.row.claim.post [ofPy (PyData.list (l.map PyData.int))] (.bool true) [ofPy (PyData.list (l.map PyData.int))] = true := by
  first
  | exact postW_of (by wrow_shape) (w_eq_bool (w_res rfl) w_lit) rfl
  | kc_post
  | wrow_post
end
open PySem PySem.W PySem.W.X PyProof.Rows PySem.W.ZRun
set_option maxRecDepth 100000 in
set_option maxHeartbeats 8000000 in
theorem PySem.Challenge.cw_kl0470_01_holds : PySem.Challenge.rw_kl0470_01.Holds := by
  w_on
  refine holds_law Kl.said fun said => ?_
  refine holds_openX Kl.left (fun s e => xl_of s (Bool.and_eq_true_iff.mp e).1) XL.keeps (by rfl) (by rfl) (by rfl) (fun s e => recFacts_of (Bool.and_eq_true_iff.mp e).2) (by rfl) (by first | assumption | decide +kernel) (by decide +kernel) ⟨rfl, rfl, rfl, rfl, rfl, by decide +kernel⟩ ?hw ?hc
  case hw => w_witness2
  case hc =>
  intro w s₀ s₁ mg mb G Y fa o pm cd doc dV kV ho hd hcd hD hmg hg args vals as L hpre hlay hrd hwl hlo
  refine Ground.open G ?_
  intro T B D TE TW
  wrow_args hpre hlay hrd hwl hlo
  obtain ⟨hat, hsz⟩ := script_at L
  rw [(Prod.mk.inj Y).1] at hat hsz
  subst hat
  all_lens
  rename Well _ _ _ _ => hwell
  have rv := Kl.script_rv hwell
  have Y₂ := (Prod.mk.inj Y).2
  have KP := L.keeps
  have FT : Kl.Top PySem.Challenge.rw_kl0470_01.row.prog w s₁.heap := Kl.top_of KP T Y₂ (by kernel_rfl) (by kernel_rfl) (by kernel_rfl) (by kernel_rfl) (by kernel_rfl) (by kernel_rfl) (by kernel_rfl) (by kernel_rfl) (by kernel_rfl)
  have FL := Kl.law_of KP T Y₂ (by kernel_rfl)
  have hfa : fa = 173 := by
    have e := hmg.symm.trans (Kl.g_top KP T Y₂ 27 rfl rfl)
    exact Value.ref.inj (Option.some.inj e)
  subst hfa
  have gn := L.gens
  refine wpAny_mono ((Kl.law_c FT FL ⟨rfl, by decide, by decide⟩ rfl ?klLen).run s₁ _ [.ref 174] (fun _ _ e => e) (fun a ha => by cases ha) (.cons rv .nil)) (fun v s' z => ?_) (fun _ _ e => e)
  case klLen => omega
  obtain ⟨⟨h', t', rfl, kk⟩, r⟩ := z
  cases r
  exact GoodW.toG ⟨.inl ⟨_, _, _, rfl, raisesW_false (by wrow_none_raised), .bool true, Kl.post_ok _, unshared_nil⟩, kk, rfl, gn⟩
